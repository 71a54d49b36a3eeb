import JvmDerived
import JvmDerived.Pilot.@@N@@Statement
import JvmDerived.Pilot.@@N@@Code
set_option linter.unusedVariables false
set_option linter.unusedSimpArgs false
@@BLOCK:NumsL.lean.txt@@
namespace Jvm.Pilot.@@N@@
open Jvm Jvm.ClassFile Sem Op Lib Jvm.Free Jvm.Stand Jvm.LawKit Jvm.RoadKit Bundle Jvm.Pilot.@@N@@.Jvm.D
/-! ## mm: a small machine over relative addresses, whose runs are walks of the model (lawnew's family of laws throughout) -/
def mmUp (n0 : Nat) : Value → Value
  | .ref a => .ref (n0 + a)
  | v => v
def mmUpS (n0 : Nat) : Slot → Slot
  | .val v => .val (mmUp n0 v)
  | x => x
abbrev mmUL (n0 : Nat) (L : List Slot) : Array Slot := (L.map (mmUpS n0)).toArray
abbrev mmUV (n0 : Nat) (S : List Value) : List Value := S.map (mmUp n0)
theorem mmUp_cat (n0 : Nat) (v : Value) : (mmUp n0 v).category = v.category := by cases v <;> rfl
theorem mmUp_isRef (n0 : Nat) (v : Value) : (mmUp n0 v).isRef = v.isRef := by cases v <;> rfl
/-- an object: its class's number and its fields' values; or an array: its kind and its values -/
abbrev MObj := (Nat × List Value) ⊕ (FieldType × List Value)
abbrev MHeap := List MObj
abbrev MFld := String × String × String × FieldType
abbrev MCls := String × Nat × List MFld
def mmNth {α : Type} : List α → Nat → Option α
  | [], _ => none
  | a :: _, 0 => some a
  | _ :: r, n + 1 => mmNth r n
theorem mmNth_eq {α : Type} : ∀ (l : List α) (n : Nat), mmNth l n = l[n]?
  | [], _ => by simp [mmNth]
  | a :: _, 0 => by simp [mmNth]
  | _ :: r, n + 1 => by simp [mmNth, mmNth_eq r n]
def mmSetAt (l : List Slot) (i : Nat) (x : Slot) : Option (List Slot) := if i < l.length then some (l.set i x) else none
def mmSelf (l : List Slot) (i : Nat) (v : Value) : Option (List Slot) :=
  match mmSetAt l i (.val v) with
  | none => none
  | some l1 =>
    if v.category = 2 then
      match mmNth l1 (i + 1) with
      | none => none
      | some (.val old) => if old.category = 2 then (match mmSetAt l1 (i + 2) .unset with | none => none | some l2 => mmSetAt l2 (i + 1) .second) else mmSetAt l1 (i + 1) .second
      | some _ => mmSetAt l1 (i + 1) .second
    else some l1
def mmStore (l : List Slot) (i : Nat) (v : Value) : Option (List Slot) :=
  match mmNth l i with
  | none => none
  | some .second => (match mmSetAt l (i - 1) .unset with | none => none | some l1 => mmSelf l1 i v)
  | some (.val old) => if old.category = 2 then (match mmSetAt l (i + 1) .unset with | none => none | some l1 => mmSelf l1 i v) else mmSelf l i v
  | some .unset => mmSelf l i v
theorem mmSetAt_ok {n0 : Nat} {l l' : List Slot} {i : Nat} {x : Slot} (h : mmSetAt l i x = some l') : setAt (mmUL n0 l) i (mmUpS n0 x) = some (mmUL n0 l') := by
  unfold mmSetAt at h
  split at h
  · cases h; rename_i h
    simp [setAt, h, mmUL, List.map_set]
  · cases h
theorem mmNth_up {n0 : Nat} {l : List Slot} {i : Nat} {x : Slot} (h : mmNth l i = some x) : (mmUL n0 l)[i]? = some (mmUpS n0 x) := by
  rw [mmNth_eq] at h
  simp [mmUL, h]
theorem mmSelf_ok {n0 : Nat} {l l' : List Slot} {i : Nat} {v : Value} (h : mmSelf l i v = some l') : storeSelf (mmUL n0 l) i (mmUp n0 v) = some (mmUL n0 l') := by
  unfold mmSelf at h
  split at h
  · cases h
  rename_i l1 h1
  have e1 : setAt (mmUL n0 l) i (.val (mmUp n0 v)) = some (mmUL n0 l1) := mmSetAt_ok (x := .val v) h1
  unfold storeSelf
  simp only [e1, Option.bind_eq_bind, Option.bind_some, mmUp_cat]
  split at h
  · rename_i hc
    rw [if_pos hc]
    split at h
    · cases h
    · rename_i old hn
      have e2 : (mmUL n0 l1)[i + 1]? = some (.val (mmUp n0 old)) := mmNth_up (x := .val old) hn
      rw [e2]; simp only [Option.bind_some, mmUp_cat]
      split at h
      · rename_i ho
        rw [if_pos ho]
        split at h
        · cases h
        · rename_i l2 h2
          have e3 : setAt (mmUL n0 l1) (i + 2) .unset = some (mmUL n0 l2) := mmSetAt_ok (x := .unset) h2
          rw [e3]; exact mmSetAt_ok (x := .second) h
      · rename_i ho
        rw [if_neg ho]; exact mmSetAt_ok (x := .second) h
    · rename_i y hy hn
      have e2 := mmNth_up (n0 := n0) hn
      rw [e2]; simp only [Option.bind_some]
      cases y with
      | val w => exact absurd rfl (hy w)
      | unset => exact mmSetAt_ok (x := .second) h
      | second => exact mmSetAt_ok (x := .second) h
  · rename_i hc
    rw [if_neg hc]; cases h; rfl
theorem mmStore_ok {n0 : Nat} {l l' : List Slot} {i : Nat} {v : Value} (h : mmStore l i v = some l') : storeLocals (mmUL n0 l) i (mmUp n0 v) = some (mmUL n0 l') := by
  unfold mmStore at h
  unfold storeLocals
  split at h
  · cases h
  · rename_i hn
    rw [mmNth_up (n0 := n0) hn]
    split at h
    · cases h
    · rename_i l1 h1
      have e1 : setAt (mmUL n0 l) (i - 1) .unset = some (mmUL n0 l1) := mmSetAt_ok (x := .unset) h1
      simp only [Option.bind_eq_bind, Option.bind_some, mmUpS, e1]
      exact mmSelf_ok h
  · rename_i old hn
    rw [mmNth_up (n0 := n0) hn]
    simp only [Option.bind_eq_bind, Option.bind_some, mmUpS, mmUp_cat]
    split at h
    · rename_i ho
      rw [if_pos ho]
      split at h
      · cases h
      · rename_i l1 h1
        have e1 : setAt (mmUL n0 l) (i + 1) .unset = some (mmUL n0 l1) := mmSetAt_ok (x := .unset) h1
        simp only [e1, Option.bind_some]
        exact mmSelf_ok h
    · rename_i ho
      rw [if_neg ho]; exact mmSelf_ok h
  · rename_i hn
    rw [mmNth_up (n0 := n0) hn]
    simp only [Option.bind_eq_bind, Option.bind_some, mmUpS]
    exact mmSelf_ok h
theorem mmStore_len {l l' : List Slot} {i : Nat} {v : Value} (h : mmStore l i v = some l') : l'.length = l.length := by
  have hs : ∀ {l l' : List Slot} {i : Nat} {x : Slot}, mmSetAt l i x = some l' → l'.length = l.length := fun {l l' i x} h => by
    unfold mmSetAt at h; split at h <;> cases h; simp
  have hf : ∀ {l l' : List Slot} {i : Nat} {v : Value}, mmSelf l i v = some l' → l'.length = l.length := fun {l l' i v} h => by
    unfold mmSelf at h
    split at h
    · cases h
    rename_i l1 h1
    split at h
    · split at h
      · cases h
      · split at h
        · split at h
          · cases h
          · rename_i l2 h2; exact (hs h).trans ((hs h2).trans (hs h1))
        · exact (hs h).trans (hs h1)
      · exact (hs h).trans (hs h1)
    · cases h; exact hs h1
  unfold mmStore at h
  split at h
  · cases h
  · split at h
    · cases h
    · rename_i l1 h1; exact (hf h).trans (hs h1)
  · split at h
    · split at h
      · cases h
      · rename_i l1 h1; exact (hf h).trans (hs h1)
    · exact hf h
  · exact hf h
/-! ### the instructions that touch neither the heap nor the tables -/
abbrev MPt := Nat × List Slot × List Value
def mmLen : Instr → Nat
  | .iload _ | .aload _ | .lload _ | .istore _ | .astore _ | .lstore _ | .bipush _ | .ldc _ | .newarray _ => 2
  | .sipush _ | .iinc _ _ | .ifCond _ _ | .if_icmp _ _ | .if_acmp _ _ | .goto _ | .getfield _ | .putfield _ | .invokestatic _ | .invokespecial _ | .invokevirtual _ | .new _ | .ldc2_w _ | .ldc_w _ | .getstatic _ | .ifnull _ | .ifnonnull _ | .anewarray _ => 3
  | .invokeinterface _ _ => 5
  | _ => 1
def mmLdI (d k pc : Nat) (L : List Slot) (S : List Value) : Option MPt := match mmNth L k with | some (.val (.int x)) => some (pc + d, L, .int x :: S) | _ => none
def mmLdJ (d k pc : Nat) (L : List Slot) (S : List Value) : Option MPt := match mmNth L k with | some (.val (.long x)) => some (pc + d, L, .long x :: S) | _ => none
def mmLdA (d k pc : Nat) (L : List Slot) (S : List Value) : Option MPt := match mmNth L k with | some (.val (.ref x)) => some (pc + d, L, .ref x :: S) | some (.val .null) => some (pc + d, L, .null :: S) | _ => none
def mmStI (d k pc : Nat) (L : List Slot) (S : List Value) : Option MPt := match S with | .int x :: r => (match mmStore L k (.int x) with | some L' => some (pc + d, L', r) | none => none) | _ => none
def mmStJ (d k pc : Nat) (L : List Slot) (S : List Value) : Option MPt := match S with | .long x :: r => (match mmStore L k (.long x) with | some L' => some (pc + d, L', r) | none => none) | _ => none
def mmStA (d k pc : Nat) (L : List Slot) (S : List Value) : Option MPt := match S with | .ref x :: r => (match mmStore L k (.ref x) with | some L' => some (pc + d, L', r) | none => none) | .null :: r => (match mmStore L k .null with | some L' => some (pc + d, L', r) | none => none) | _ => none
def mmII (f : Int32 → Int32 → Int32) (pc : Nat) (L : List Slot) (S : List Value) : Option MPt := match S with | .int y :: .int x :: r => some (pc + 1, L, .int (f x y) :: r) | _ => none
def mmIIz (f : Int32 → Int32 → Int32) (pc : Nat) (L : List Slot) (S : List Value) : Option MPt := match S with | .int y :: .int x :: r => if y = 0 then none else some (pc + 1, L, .int (f x y) :: r) | _ => none
def mmJJ (f : Int64 → Int64 → Int64) (pc : Nat) (L : List Slot) (S : List Value) : Option MPt := match S with | .long y :: .long x :: r => some (pc + 1, L, .long (f x y) :: r) | _ => none
def mmJJz (f : Int64 → Int64 → Int64) (pc : Nat) (L : List Slot) (S : List Value) : Option MPt := match S with | .long y :: .long x :: r => if y = 0 then none else some (pc + 1, L, .long (f x y) :: r) | _ => none
def mmJI (f : Int64 → Int32 → Int64) (pc : Nat) (L : List Slot) (S : List Value) : Option MPt := match S with | .int y :: .long x :: r => some (pc + 1, L, .long (f x y) :: r) | _ => none
def mmI (f : Int32 → Value) (pc : Nat) (L : List Slot) (S : List Value) : Option MPt := match S with | .int x :: r => some (pc + 1, L, f x :: r) | _ => none
def mmJ (f : Int64 → Value) (pc : Nat) (L : List Slot) (S : List Value) : Option MPt := match S with | .long x :: r => some (pc + 1, L, f x :: r) | _ => none
def mmTo (pc : Nat) (o : Int) : Nat := ((pc : Int) + o).toNat
def mmOk (pc : Nat) (o : Int) : Bool := decide (0 ≤ (pc : Int) + o)
def mmPure (i : Instr) (pc : Nat) (L : List Slot) (S : List Value) : Option MPt :=
  match i with
  | .iload_n k => mmLdI 1 k.val pc L S
  | .iload k => mmLdI 2 k pc L S
  | .lload_n k => mmLdJ 1 k.val pc L S
  | .lload k => mmLdJ 2 k pc L S
  | .aload_n k => mmLdA 1 k.val pc L S
  | .aload k => mmLdA 2 k pc L S
  | .istore_n k => mmStI 1 k.val pc L S
  | .istore k => mmStI 2 k pc L S
  | .lstore_n k => mmStJ 1 k.val pc L S
  | .lstore k => mmStJ 2 k pc L S
  | .astore_n k => mmStA 1 k.val pc L S
  | .astore k => mmStA 2 k pc L S
  | .iconst n => some (pc + 1, L, .int (Int32.ofInt n) :: S)
  | .bipush n => some (pc + 2, L, .int (Int8.ofInt n).toInt32 :: S)
  | .sipush n => some (pc + 3, L, .int (Int16.ofInt n).toInt32 :: S)
  | .lconst k => some (pc + 1, L, .long (Int64.ofNat k) :: S)
  | .iadd => mmII (fun x y => x + y) pc L S
  | .isub => mmII (fun x y => x - y) pc L S
  | .imul => mmII (fun x y => x * y) pc L S
  | .idiv => mmIIz (fun x y => x / y) pc L S
  | .irem => mmIIz (fun x y => x % y) pc L S
  | .iand => mmII (fun x y => x &&& y) pc L S
  | .ior => mmII (fun x y => x ||| y) pc L S
  | .ixor => mmII (fun x y => x ^^^ y) pc L S
  | .ishl => mmII (fun x y => x <<< (y &&& 31)) pc L S
  | .ishr => mmII (fun x y => x >>> (y &&& 31)) pc L S
  | .iushr => mmII XT.ushr pc L S
  | .ineg => mmI (fun x => .int (-x)) pc L S
  | .ladd => mmJJ (fun x y => x + y) pc L S
  | .lsub => mmJJ (fun x y => x - y) pc L S
  | .lmul => mmJJ (fun x y => x * y) pc L S
  | .ldiv => mmJJz (fun x y => x / y) pc L S
  | .lrem => mmJJz (fun x y => x % y) pc L S
  | .land => mmJJ (fun x y => x &&& y) pc L S
  | .lor => mmJJ (fun x y => x ||| y) pc L S
  | .lxor => mmJJ (fun x y => x ^^^ y) pc L S
  | .lshl => mmJI (fun x y => x <<< (y.toInt64 &&& 63)) pc L S
  | .lshr => mmJI (fun x y => x >>> (y.toInt64 &&& 63)) pc L S
  | .lushr => mmJI XT.ushrL pc L S
  | .i2l => mmI (fun x => .long x.toInt64) pc L S
  | .l2i => mmJ (fun x => .int x.toInt32) pc L S
  | .i2b => mmI (fun x => .int x.toInt8.toInt32) pc L S
  | .i2c => mmI (fun x => .int x.toUInt32.toUInt16.toUInt32.toInt32) pc L S
  | .i2s => mmI (fun x => .int x.toInt16.toInt32) pc L S
  | .lcmp => (match S with | .long y :: .long x :: r => some (pc + 1, L, .int (XT.cmpL x y) :: r) | _ => none)
  | .iinc k n => (match mmNth L k with | some (.val (.int x)) => (match mmStore L k (.int (x + Int32.ofInt n)) with | some L' => some (pc + 3, L', S) | none => none) | _ => none)
  | .goto o => if mmOk pc o = true then some (mmTo pc o, L, S) else none
  | .ifCond cd o => (match S with | .int x :: r => if mmOk pc o = true then some (if ifCond.holds cd x = true then mmTo pc o else pc + 3, L, r) else none | _ => none)
  | .if_icmp cd o => (match S with | .int y :: .int x :: r => if mmOk pc o = true then some (if if_icmp.holds cd x y = true then mmTo pc o else pc + 3, L, r) else none | _ => none)
  | .if_acmp cd o => (match S with | .ref y :: .ref x :: r => if mmOk pc o = true then some (if XT.acmp cd (.ref x) (.ref y) = true then mmTo pc o else pc + 3, L, r) else none | _ => none)
  | .dup => (match S with | x :: r => if x.category = 1 then some (pc + 1, L, x :: x :: r) else none | _ => none)
  | .dup_x1 => (match S with | x :: y :: r => if x.category = 1 ∧ y.category = 1 then some (pc + 1, L, x :: y :: x :: r) else none | _ => none)
  | .dup2 => (match S with | .long x :: r => some (pc + 1, L, .long x :: .long x :: r) | x :: y :: r => if x.category = 1 ∧ y.category = 1 then some (pc + 1, L, x :: y :: x :: y :: r) else none | _ => none)
  | .pop => (match S with | x :: r => if x.category = 1 then some (pc + 1, L, r) else none | _ => none)
  | .pop2 => (match S with | .long _ :: r => some (pc + 1, L, r) | _ => none)
  | _ => none

section MMInv
variable {pc pc' : Nat} {L L' : List Slot} {S S' : List Value}
theorem mmLdI_inv {d k : Nat} (h : mmLdI d k pc L S = some (pc', L', S')) : ∃ x, mmNth L k = some (.val (.int x)) ∧ pc' = pc + d ∧ L' = L ∧ S' = .int x :: S := by
  unfold mmLdI at h
  split at h
  · rename_i x hx; cases h; exact ⟨x, hx, rfl, rfl, rfl⟩
  · cases h
theorem mmLdJ_inv {d k : Nat} (h : mmLdJ d k pc L S = some (pc', L', S')) : ∃ x, mmNth L k = some (.val (.long x)) ∧ pc' = pc + d ∧ L' = L ∧ S' = .long x :: S := by
  unfold mmLdJ at h
  split at h
  · rename_i x hx; cases h; exact ⟨x, hx, rfl, rfl, rfl⟩
  · cases h
theorem mmLdA_inv {d k : Nat} (h : mmLdA d k pc L S = some (pc', L', S')) : ∃ v : Value, v.isRef = true ∧ mmNth L k = some (.val v) ∧ pc' = pc + d ∧ L' = L ∧ S' = v :: S := by
  unfold mmLdA at h
  split at h
  · rename_i x hx; cases h; exact ⟨_, rfl, hx, rfl, rfl, rfl⟩
  · rename_i hx; cases h; exact ⟨_, rfl, hx, rfl, rfl, rfl⟩
  · cases h
theorem mmStI_inv {d k : Nat} (h : mmStI d k pc L S = some (pc', L', S')) : ∃ x, S = .int x :: S' ∧ mmStore L k (.int x) = some L' ∧ pc' = pc + d := by
  unfold mmStI at h
  split at h
  · split at h
    · rename_i hs; cases h; exact ⟨_, rfl, hs, rfl⟩
    · cases h
  · cases h
theorem mmStJ_inv {d k : Nat} (h : mmStJ d k pc L S = some (pc', L', S')) : ∃ x, S = .long x :: S' ∧ mmStore L k (.long x) = some L' ∧ pc' = pc + d := by
  unfold mmStJ at h
  split at h
  · split at h
    · rename_i hs; cases h; exact ⟨_, rfl, hs, rfl⟩
    · cases h
  · cases h
theorem mmStA_inv {d k : Nat} (h : mmStA d k pc L S = some (pc', L', S')) : ∃ v : Value, v.isRef = true ∧ S = v :: S' ∧ mmStore L k v = some L' ∧ pc' = pc + d := by
  unfold mmStA at h
  split at h
  · split at h
    · rename_i x r L1 hs; cases h; exact ⟨_, rfl, rfl, hs, rfl⟩
    · cases h
  · split at h
    · rename_i r L1 hs; cases h; exact ⟨_, rfl, rfl, hs, rfl⟩
    · cases h
  · cases h
theorem mmII_inv {f : Int32 → Int32 → Int32} (h : mmII f pc L S = some (pc', L', S')) : ∃ x y r, S = .int y :: .int x :: r ∧ pc' = pc + 1 ∧ L' = L ∧ S' = .int (f x y) :: r := by
  unfold mmII at h
  split at h
  · cases h; exact ⟨_, _, _, rfl, rfl, rfl, rfl⟩
  · cases h
theorem mmIIz_inv {f : Int32 → Int32 → Int32} (h : mmIIz f pc L S = some (pc', L', S')) : ∃ x y r, S = .int y :: .int x :: r ∧ y ≠ 0 ∧ pc' = pc + 1 ∧ L' = L ∧ S' = .int (f x y) :: r := by
  unfold mmIIz at h
  split at h
  · split at h
    · cases h
    · rename_i hy; cases h; exact ⟨_, _, _, rfl, hy, rfl, rfl, rfl⟩
  · cases h
theorem mmJJ_inv {f : Int64 → Int64 → Int64} (h : mmJJ f pc L S = some (pc', L', S')) : ∃ x y r, S = .long y :: .long x :: r ∧ pc' = pc + 1 ∧ L' = L ∧ S' = .long (f x y) :: r := by
  unfold mmJJ at h
  split at h
  · cases h; exact ⟨_, _, _, rfl, rfl, rfl, rfl⟩
  · cases h
theorem mmJJz_inv {f : Int64 → Int64 → Int64} (h : mmJJz f pc L S = some (pc', L', S')) : ∃ x y r, S = .long y :: .long x :: r ∧ y ≠ 0 ∧ pc' = pc + 1 ∧ L' = L ∧ S' = .long (f x y) :: r := by
  unfold mmJJz at h
  split at h
  · split at h
    · cases h
    · rename_i hy; cases h; exact ⟨_, _, _, rfl, hy, rfl, rfl, rfl⟩
  · cases h
theorem mmJI_inv {f : Int64 → Int32 → Int64} (h : mmJI f pc L S = some (pc', L', S')) : ∃ x y r, S = .int y :: .long x :: r ∧ pc' = pc + 1 ∧ L' = L ∧ S' = .long (f x y) :: r := by
  unfold mmJI at h
  split at h
  · cases h; exact ⟨_, _, _, rfl, rfl, rfl, rfl⟩
  · cases h
theorem mmI_inv {f : Int32 → Value} (h : mmI f pc L S = some (pc', L', S')) : ∃ x r, S = .int x :: r ∧ pc' = pc + 1 ∧ L' = L ∧ S' = f x :: r := by
  unfold mmI at h
  split at h
  · cases h; exact ⟨_, _, rfl, rfl, rfl, rfl⟩
  · cases h
theorem mmJ_inv {f : Int64 → Value} (h : mmJ f pc L S = some (pc', L', S')) : ∃ x r, S = .long x :: r ∧ pc' = pc + 1 ∧ L' = L ∧ S' = f x :: r := by
  unfold mmJ at h
  split at h
  · cases h; exact ⟨_, _, rfl, rfl, rfl, rfl⟩
  · cases h
theorem mmLdI_len {d k : Nat} (h : mmLdI d k pc L S = some (pc', L', S')) : L'.length = L.length := by obtain ⟨_, _, _, rfl, _⟩ := mmLdI_inv h; rfl
theorem mmLdJ_len {d k : Nat} (h : mmLdJ d k pc L S = some (pc', L', S')) : L'.length = L.length := by obtain ⟨_, _, _, rfl, _⟩ := mmLdJ_inv h; rfl
theorem mmLdA_len {d k : Nat} (h : mmLdA d k pc L S = some (pc', L', S')) : L'.length = L.length := by obtain ⟨_, _, _, _, rfl, _⟩ := mmLdA_inv h; rfl
theorem mmStI_len {d k : Nat} (h : mmStI d k pc L S = some (pc', L', S')) : L'.length = L.length := by obtain ⟨_, _, hs, _⟩ := mmStI_inv h; exact mmStore_len hs
theorem mmStJ_len {d k : Nat} (h : mmStJ d k pc L S = some (pc', L', S')) : L'.length = L.length := by obtain ⟨_, _, hs, _⟩ := mmStJ_inv h; exact mmStore_len hs
theorem mmStA_len {d k : Nat} (h : mmStA d k pc L S = some (pc', L', S')) : L'.length = L.length := by obtain ⟨_, _, _, hs, _⟩ := mmStA_inv h; exact mmStore_len hs
theorem mmII_len {f : Int32 → Int32 → Int32} (h : mmII f pc L S = some (pc', L', S')) : L'.length = L.length := by obtain ⟨_, _, _, _, _, rfl, _⟩ := mmII_inv h; rfl
theorem mmIIz_len {f : Int32 → Int32 → Int32} (h : mmIIz f pc L S = some (pc', L', S')) : L'.length = L.length := by obtain ⟨_, _, _, _, _, _, rfl, _⟩ := mmIIz_inv h; rfl
theorem mmJJ_len {f : Int64 → Int64 → Int64} (h : mmJJ f pc L S = some (pc', L', S')) : L'.length = L.length := by obtain ⟨_, _, _, _, _, rfl, _⟩ := mmJJ_inv h; rfl
theorem mmJJz_len {f : Int64 → Int64 → Int64} (h : mmJJz f pc L S = some (pc', L', S')) : L'.length = L.length := by obtain ⟨_, _, _, _, _, _, rfl, _⟩ := mmJJz_inv h; rfl
theorem mmJI_len {f : Int64 → Int32 → Int64} (h : mmJI f pc L S = some (pc', L', S')) : L'.length = L.length := by obtain ⟨_, _, _, _, _, rfl, _⟩ := mmJI_inv h; rfl
theorem mmI_len {f : Int32 → Value} (h : mmI f pc L S = some (pc', L', S')) : L'.length = L.length := by obtain ⟨_, _, _, _, rfl, _⟩ := mmI_inv h; rfl
theorem mmJ_len {f : Int64 → Value} (h : mmJ f pc L S = some (pc', L', S')) : L'.length = L.length := by obtain ⟨_, _, _, _, rfl, _⟩ := mmJ_inv h; rfl
end MMInv

theorem mmLrem (x y : Int64) : x - (x / y) * y = x % y := by
  apply Int64.toInt_inj.mp
  have h1 := Int64.le_toInt (x % y)
  have h2 := Int64.toInt_lt (x % y)
  rw [Int64.toInt_sub, Int64.toInt_mul, Int64.toInt_div, Int.bmod_mul_bmod, Int.sub_bmod_bmod, Int.mul_comm (x.toInt.tdiv y.toInt), ← Int.tmod_def, ← Int64.toInt_mod]
  exact Int.bmod_eq_of_le_mul_two (by omega) (by omega)
theorem mmAcmp (n0 x y : Nat) (cd : ClassFile.ACond) : XT.acmp cd (.ref (n0 + x)) (.ref (n0 + y)) = XT.acmp cd (.ref x) (.ref y) := by
  cases cd <;> simp [XT.acmp]
section MMPure
variable {tb : Tables} [Ours tb] {e : Env} {below : List Frame} {T target : State} {m : MethodId} {c : Code} {pc pc' n0 : Nat} {L L' : List Slot} {S S' : List Value}
theorem mmPop2L {g : JFrame} (h : At T m c below) (hx : tb.exec = Jvm.exec) (hg : g.method = m) {x : Int64} {rest : List Value} (hd : decode c.code g.pc = .ok (.pop2, 1)) (hs : g.stack = .long x :: rest)
    (hr : Steps tb e below (T.setTop { g with pc := g.pc + 1, stack := rest }) target) : Steps tb e below (T.setTop g) target := by
  subst hg
  jvm_step h [h.top, hx, hd, hs, Value.category]
  exact hr
theorem mmOk_le {o : Int} (h : mmOk pc o = true) : 0 ≤ (pc : Int) + o := of_decide_eq_true h
set_option maxHeartbeats 4000000 in
theorem mmPure_ok {i : Instr} (h : At T m c below) (hx : tb.exec = Jvm.exec) (hp : mmPure i pc L S = some (pc', L', S')) (hd : decode c.code pc = .ok (i, mmLen i))
    (hr : Steps tb e below (T.setTop (mkF m pc' (mmUL n0 L') (mmUV n0 S'))) target) : Steps tb e below (T.setTop (mkF m pc (mmUL n0 L) (mmUV n0 S))) target := by
  unfold mmPure at hp
  split at hp
  · obtain ⟨x, hn, rfl, rfl, rfl⟩ := mmLdI_inv hp; exact XS.iloadN h hx rfl hd (mmNth_up hn) hr
  · obtain ⟨x, hn, rfl, rfl, rfl⟩ := mmLdI_inv hp; exact XS.iload h hx rfl hd (mmNth_up hn) hr
  · obtain ⟨x, hn, rfl, rfl, rfl⟩ := mmLdJ_inv hp; exact XT.lloadN h hx rfl hd (mmNth_up hn) hr
  · obtain ⟨x, hn, rfl, rfl, rfl⟩ := mmLdJ_inv hp; exact XT.lload h hx rfl hd (mmNth_up hn) hr
  · obtain ⟨v, hv, hn, rfl, rfl, rfl⟩ := mmLdA_inv hp; exact XS.aloadN h hx rfl hd (mmNth_up hn) ((mmUp_isRef n0 v).trans hv) hr
  · obtain ⟨v, hv, hn, rfl, rfl, rfl⟩ := mmLdA_inv hp; exact XS.aload h hx rfl hd (mmNth_up hn) ((mmUp_isRef n0 v).trans hv) hr
  · obtain ⟨x, rfl, hs, rfl⟩ := mmStI_inv hp; exact XS.istoreN h hx rfl hd rfl (mmStore_ok (v := .int x) hs) hr
  · obtain ⟨x, rfl, hs, rfl⟩ := mmStI_inv hp; exact XS.istore h hx rfl hd rfl (mmStore_ok (v := .int x) hs) hr
  · obtain ⟨x, rfl, hs, rfl⟩ := mmStJ_inv hp; exact XT.lstoreN h hx rfl hd rfl (mmStore_ok (v := .long x) hs) hr
  · obtain ⟨x, rfl, hs, rfl⟩ := mmStJ_inv hp; exact XT.lstore h hx rfl hd rfl (mmStore_ok (v := .long x) hs) hr
  · obtain ⟨v, hv, rfl, hs, rfl⟩ := mmStA_inv hp; exact XS.astoreN h hx rfl hd rfl ((mmUp_isRef n0 v).trans hv) (mmStore_ok hs) hr
  · obtain ⟨v, hv, rfl, hs, rfl⟩ := mmStA_inv hp; exact XS.astore h hx rfl hd rfl ((mmUp_isRef n0 v).trans hv) (mmStore_ok hs) hr
  · cases hp; exact XS.iconst h hx rfl hd hr
  · cases hp; exact XS.bipush h hx rfl hd hr
  · cases hp; exact XS.sipush h hx rfl hd hr
  · cases hp; exact XT.lconst h hx rfl hd hr
  · obtain ⟨x, y, r, rfl, rfl, rfl, rfl⟩ := mmII_inv hp; exact XS.iadd h hx rfl hd rfl hr
  · obtain ⟨x, y, r, rfl, rfl, rfl, rfl⟩ := mmII_inv hp; exact XS.isub h hx rfl hd rfl hr
  · obtain ⟨x, y, r, rfl, rfl, rfl, rfl⟩ := mmII_inv hp; exact XS.imul h hx rfl hd rfl hr
  · obtain ⟨x, y, r, rfl, hy, rfl, rfl, rfl⟩ := mmIIz_inv hp; exact XS.idiv h hx rfl hd rfl hy hr
  · obtain ⟨x, y, r, rfl, hy, rfl, rfl, rfl⟩ := mmIIz_inv hp; exact XS.irem h hx rfl hd rfl hy (by rw [irem_eq_mod]; exact hr)
  · obtain ⟨x, y, r, rfl, rfl, rfl, rfl⟩ := mmII_inv hp; exact XS.iand h hx rfl hd rfl hr
  · obtain ⟨x, y, r, rfl, rfl, rfl, rfl⟩ := mmII_inv hp; exact XT.ior h hx rfl hd rfl hr
  · obtain ⟨x, y, r, rfl, rfl, rfl, rfl⟩ := mmII_inv hp; exact XT.ixor h hx rfl hd rfl hr
  · obtain ⟨x, y, r, rfl, rfl, rfl, rfl⟩ := mmII_inv hp; exact XT.ishl h hx rfl hd rfl hr
  · obtain ⟨x, y, r, rfl, rfl, rfl, rfl⟩ := mmII_inv hp; exact XT.ishr h hx rfl hd rfl hr
  · obtain ⟨x, y, r, rfl, rfl, rfl, rfl⟩ := mmII_inv hp; exact XT.iushr h hx rfl hd rfl hr
  · obtain ⟨x, r, rfl, rfl, rfl, rfl⟩ := mmI_inv hp; exact XS.ineg h hx rfl hd rfl hr
  · obtain ⟨x, y, r, rfl, rfl, rfl, rfl⟩ := mmJJ_inv hp; exact XT.ladd h hx rfl hd rfl hr
  · obtain ⟨x, y, r, rfl, rfl, rfl, rfl⟩ := mmJJ_inv hp; exact XT.lsub h hx rfl hd rfl hr
  · obtain ⟨x, y, r, rfl, rfl, rfl, rfl⟩ := mmJJ_inv hp; exact XT.lmul h hx rfl hd rfl hr
  · obtain ⟨x, y, r, rfl, hy, rfl, rfl, rfl⟩ := mmJJz_inv hp; exact XT.ldiv h hx rfl hd rfl hy hr
  · obtain ⟨x, y, r, rfl, hy, rfl, rfl, rfl⟩ := mmJJz_inv hp; exact XT.lrem h hx rfl hd rfl hy (by rw [mmLrem]; exact hr)
  · obtain ⟨x, y, r, rfl, rfl, rfl, rfl⟩ := mmJJ_inv hp; exact XT.land h hx rfl hd rfl hr
  · obtain ⟨x, y, r, rfl, rfl, rfl, rfl⟩ := mmJJ_inv hp; exact XT.lor h hx rfl hd rfl hr
  · obtain ⟨x, y, r, rfl, rfl, rfl, rfl⟩ := mmJJ_inv hp; exact XT.lxor h hx rfl hd rfl hr
  · obtain ⟨x, y, r, rfl, rfl, rfl, rfl⟩ := mmJI_inv hp; exact XT.lshl h hx rfl hd rfl hr
  · obtain ⟨x, y, r, rfl, rfl, rfl, rfl⟩ := mmJI_inv hp; exact XT.lshr h hx rfl hd rfl hr
  · obtain ⟨x, y, r, rfl, rfl, rfl, rfl⟩ := mmJI_inv hp; exact XT.lushr h hx rfl hd rfl hr
  · obtain ⟨x, r, rfl, rfl, rfl, rfl⟩ := mmI_inv hp; exact XT.i2l h hx rfl hd rfl hr
  · obtain ⟨x, r, rfl, rfl, rfl, rfl⟩ := mmJ_inv hp; exact XT.l2i h hx rfl hd rfl hr
  · obtain ⟨x, r, rfl, rfl, rfl, rfl⟩ := mmI_inv hp; exact XT.i2b h hx rfl hd rfl hr
  · obtain ⟨x, r, rfl, rfl, rfl, rfl⟩ := mmI_inv hp; exact XT.i2c h hx rfl hd rfl hr
  · obtain ⟨x, r, rfl, rfl, rfl, rfl⟩ := mmI_inv hp; exact XT.i2s h hx rfl hd rfl hr
  · split at hp
    · cases hp; exact XT.lcmp h hx rfl hd rfl hr
    · cases hp
  · split at hp
    · rename_i x hn
      split at hp
      · rename_i L1 hs; cases hp; exact XS.iinc h hx rfl hd (mmNth_up hn) (mmStore_ok (v := .int _) hs) hr
      · cases hp
    · cases hp
  · split at hp
    · rename_i ho; cases hp; exact XS.goto h hx rfl rfl hd (mmOk_le ho) rfl hr
    · cases hp
  · split at hp
    · split at hp
      · rename_i x r ho; cases hp
        split at hr
        · rename_i hc; exact XS.ifYes h hx rfl rfl hd rfl hc (mmOk_le ho) rfl hr
        · rename_i hc; exact XS.ifNo h hx rfl hd rfl (Bool.eq_false_iff.mpr hc) hr
      · cases hp
    · cases hp
  · split at hp
    · split at hp
      · rename_i y x r ho; cases hp
        split at hr
        · rename_i hc; exact XS.icmpYes h hx rfl rfl hd rfl hc (mmOk_le ho) rfl hr
        · rename_i hc; exact XS.icmpNo h hx rfl hd rfl (Bool.eq_false_iff.mpr hc) hr
      · cases hp
    · cases hp
  · split at hp
    · split at hp
      · rename_i y x r ho; cases hp
        split at hr
        · rename_i hc; exact XT.acmpYes h hx rfl rfl hd (x := .ref (n0 + x)) (y := .ref (n0 + y)) rfl rfl rfl ((mmAcmp n0 x y _).trans hc) (mmOk_le ho) rfl hr
        · rename_i hc; exact XT.acmpNo h hx rfl hd (x := .ref (n0 + x)) (y := .ref (n0 + y)) rfl rfl rfl ((mmAcmp n0 x y _).trans (Bool.eq_false_iff.mpr hc)) hr
      · cases hp
    · cases hp
  · split at hp
    · split at hp
      · rename_i x r hc; cases hp; exact XS.dup h hx rfl hd rfl ((mmUp_cat n0 x).trans hc) hr
      · cases hp
    · cases hp
  · split at hp
    · split at hp
      · rename_i x y r hc; cases hp; exact XT.dupX1 h hx rfl hd rfl ((mmUp_cat n0 x).trans hc.1) ((mmUp_cat n0 y).trans hc.2) hr
      · cases hp
    · cases hp
  · split at hp
    · cases hp; exact XT.dup2L h hx rfl hd rfl hr
    · split at hp
      · rename_i x y r _ hc; cases hp; exact XT.dup2 h hx rfl hd rfl ((mmUp_cat n0 x).trans hc.1) ((mmUp_cat n0 y).trans hc.2) hr
      · cases hp
    · cases hp
  · split at hp
    · split at hp
      · rename_i x r hc; cases hp; exact XT.pop h hx rfl hd rfl ((mmUp_cat n0 x).trans hc) hr
      · cases hp
    · cases hp
  · split at hp
    · cases hp; exact mmPop2L h hx rfl hd rfl hr
    · cases hp
  · cases hp
end MMPure
theorem mmPure_len {i : Instr} {pc pc' : Nat} {L L' : List Slot} {S S' : List Value} (hp : mmPure i pc L S = some (pc', L', S')) : L'.length = L.length := by
  unfold mmPure at hp
  split at hp
  all_goals first
    | exact mmLdI_len hp | exact mmLdJ_len hp | exact mmLdA_len hp | exact mmStI_len hp | exact mmStJ_len hp | exact mmStA_len hp
    | exact mmII_len hp | exact mmIIz_len hp | exact mmJJ_len hp | exact mmJJz_len hp | exact mmJI_len hp | exact mmI_len hp | exact mmJ_len hp
    | (cases hp; rfl)
    | skip
  · split at hp <;> cases hp; rfl
  · split at hp
    · split at hp
      · rename_i L1 hs; cases hp; exact mmStore_len hs
      · cases hp
    · cases hp
  all_goals (repeat' split at hp) <;> first | (cases hp; done) | (cases hp; rfl)

/-! ### the heap: what the small machine's heap says of the model's -/
def mmObjOk (CT : List MCls) (Z : State) (n0 : Nat) (h : Heap) (a : Addr) : MObj → Prop
  | .inl (k, vs) => ∃ (C : String) (n : Nat) (fs : List MFld), CT[k]? = some (C, n, fs) ∧ Exa Z h a C ∧ vs.length = fs.length ∧ ∀ (j : Nat) (O f d : String) (ty : FieldType) (v : Value), fs[j]? = some (O, f, d, ty) → vs[j]? = some v → Fld Z h a O f d (mmUp n0 v)
  | .inr (ty, vs) => ∃ c : Cell, Arr Z h a c ty ∧ c.slots = (mmUV n0 vs).toArray
def mmRel (CT : List MCls) (Z : State) (n0 : Nat) (h : Heap) (H : MHeap) : Prop := h.size = n0 + H.length ∧ ∀ (i : Nat) (o : MObj), H[i]? = some o → mmObjOk CT Z n0 h (n0 + i) o
def mmAll {α : Type} (P : α → Prop) : List α → Prop
  | [] => True
  | a :: r => P a ∧ mmAll P r
theorem mmAll_mem {α : Type} {P : α → Prop} : ∀ {l : List α}, mmAll P l → ∀ x ∈ l, P x
  | [], _, _, h => nomatch h
  | _ :: _, H, x, h => (List.mem_cons.mp h).elim (fun e => e ▸ H.1) (mmAll_mem H.2 x)
theorem mmAll_nth {α : Type} {P : α → Prop} {l : List α} (H : mmAll P l) {k : Nat} {x : α} (h : l[k]? = some x) : P x := mmAll_mem H x (List.mem_of_getElem? h)
def mmLook {α : Type} : List (Nat × α) → Nat → Option α
  | [], _ => none
  | (k, v) :: r, i => if i = k then some v else mmLook r i
theorem mmLook_mem {α : Type} : ∀ {l : List (Nat × α)} {i : Nat} {v : α}, mmLook l i = some v → (i, v) ∈ l
  | [], _, _, h => nomatch h
  | (k, w) :: r, i, v, h => by
    unfold mmLook at h
    split at h
    · rename_i e; cases h; subst e; exact List.mem_cons_self ..
    · exact List.mem_cons_of_mem _ (mmLook_mem h)
/-- of a class: its words, its fields' words, and that no two fields bear one name -/
def mmClsOk (Z : State) (a0 : Array Value) (q : MCls) : Prop :=
  (Cond.instantiable q.1 q.2.1).before a0 Z = true ∧ (Cond.initialized q.1).before a0 Z = true ∧ mmAll (fun f : MFld => Laid Z a0 q.1 f.1 f.2.1 f.2.2.1 ∧ parseFieldDescriptor f.2.2.1 = some f.2.2.2) q.2.2 ∧ (q.2.2.map (·.2.1)).Nodup
theorem mmUp_default (n0 : Nat) (ty : FieldType) : mmUp n0 (defaultValue ty) = defaultValue ty := by cases ty <;> rfl
section MMHeap
variable {CT : List MCls} {Z : State} {a0 : Array Value} {n0 : Nat} {h h' : Heap} {H H' : MHeap} {a b : Addr} {o : MObj} {sl : Nat} {v w : Value}
theorem mmObj_ext (E : Ext h h') (F : mmObjOk CT Z n0 h a o) : mmObjOk CT Z n0 h' a o := by
  cases o with
  | inl q =>
    obtain ⟨k, vs⟩ := q
    obtain ⟨C, n, fs, h1, h2, h3, h4⟩ := F
    exact ⟨C, n, fs, h1, h2.ext E, h3, fun j O f d ty v q1 q2 => (h4 j O f d ty v q1 q2).ext E⟩
  | inr q =>
    obtain ⟨ty, vs⟩ := q
    obtain ⟨c, h1, h2⟩ := F
    exact ⟨c, h1.ext E, h2⟩
theorem mmObj_other (W : Wr h h' b sl w) (hne : a ≠ b) (F : mmObjOk CT Z n0 h a o) : mmObjOk CT Z n0 h' a o := by
  cases o with
  | inl q =>
    obtain ⟨k, vs⟩ := q
    obtain ⟨C, n, fs, h1, h2, h3, h4⟩ := F
    exact ⟨C, n, fs, h1, h2.wr W, h3, fun j O f d ty v q1 q2 => (h4 j O f d ty v q1 q2).other W (Or.inl hne)⟩
  | inr q =>
    obtain ⟨ty, vs⟩ := q
    obtain ⟨c, h1, h2⟩ := F
    exact ⟨c, h1.other W hne, h2⟩
theorem mmRel_set (R : mmRel CT Z n0 h H) {i : Nat} {o' : MObj} (W : Wr h h' (n0 + i) sl w) (G : i < H.length → mmObjOk CT Z n0 h' (n0 + i) o') : mmRel CT Z n0 h' (H.set i o') := by
  refine ⟨by rw [W.size, R.1, List.length_set], fun j q hj => ?_⟩
  rw [List.getElem?_set] at hj
  split at hj
  · rename_i e; subst e
    split at hj
    · rename_i hl; cases hj; exact G hl
    · cases hj
  · rename_i e
    exact mmObj_other W (fun z => e (Nat.add_left_cancel z).symm) (R.2 j q hj)
theorem mmRel_arr (R : mmRel CT Z n0 h H) {i jn : Nat} {ty : FieldType} {vs : List Value} {c : Cell} (A : Arr Z h (n0 + i) c ty) (hc : c.slots = (mmUV n0 vs).toArray) (W : Wr h h' (n0 + i) jn (mmUp n0 v)) : mmRel CT Z n0 h' (H.set i (.inr (ty, vs.set jn v))) := by
  refine mmRel_set R W fun _ => ⟨c.setSlot jn (mmUp n0 v), A.same W, ?_⟩
  simp [Cell.setSlot, hc, List.map_set]
theorem mmRel_fld {k n j : Nat} {C O f d : String} {ty : FieldType} {fs : List MFld} {vs : List Value} {i : Nat} (hCT : mmClsOk Z a0 (C, n, fs)) (hk : CT[k]? = some (C, n, fs)) (hj : fs[j]? = some (O, f, d, ty))
    (R : mmRel CT Z n0 h H) (hH : H[i]? = some (.inl (k, vs))) (W : Wr h h' (n0 + i) (RoadKit.slotOf Z O f d) (mmUp n0 v)) : mmRel CT Z n0 h' (H.set i (.inl (k, vs.set j v))) := by
  refine mmRel_set R W fun _ => ?_
  obtain ⟨C', n', fs', h1, h2, h3, h4⟩ := R.2 i _ hH
  cases hk.symm.trans h1
  refine ⟨C, n, fs, hk, h2.wr W, by rw [List.length_set]; exact h3, fun j' O' f' d' ty' v' q1 q2 => ?_⟩
  by_cases e : j' = j
  · subst e
    cases hj.symm.trans q1
    have hl : j' < vs.length := by rw [h3]; exact (List.getElem?_eq_some_iff.mp hj).1
    rw [List.getElem?_set_self hl] at q2
    cases q2
    have hv := List.getElem?_eq_getElem hl
    exact (h4 j' O f d ty _ hj hv).same W
  · rw [List.getElem?_set_ne (Ne.symm e)] at q2
    have L1 := mmAll_nth hCT.2.2.1 hj
    have L2 := mmAll_nth hCT.2.2.1 q1
    have hne : f' ≠ f := fun z => by
      have n1 : (fs.map (·.2.1))[j']? = some f' := by simp [q1]
      have n2 : (fs.map (·.2.1))[j]? = some f := by simp [hj]
      have hnd := hCT.2.2.2
      obtain ⟨l1, g1⟩ := List.getElem?_eq_some_iff.mp n1
      obtain ⟨l2, g2⟩ := List.getElem?_eq_some_iff.mp n2
      exact e ((List.getElem_inj hnd).mp (g1.trans (z.trans g2.symm)))
    exact (h4 j' O' f' d' ty' v' q1 q2).other W (Or.inr (slot_ne L2.1 L1.1 hne L2.2 L1.2))
theorem mmRel_push (R : mmRel CT Z n0 h H) (E : Ext h h') (hs : h'.size = h.size + 1) (G : mmObjOk CT Z n0 h' h.size o) : mmRel CT Z n0 h' (H ++ [o]) := by
  refine ⟨by rw [hs, R.1]; simp; omega, fun i q hi => ?_⟩
  by_cases e : i < H.length
  · rw [List.getElem?_append_left e] at hi
    exact mmObj_ext E (R.2 i q hi)
  · rw [List.getElem?_append_right (Nat.le_of_not_lt e)] at hi
    have : i = H.length := by
      have := (List.getElem?_eq_some_iff.mp hi).1
      simp at this; omega
    subst this
    simp at hi
    subst hi
    rw [← R.1]; exact G
end MMHeap
/-! ### the instructions that touch the heap or the tables -/
abbrev MSt := Nat × List Slot × List Value × MHeap × Nat
abbrev MKall := List Value → MHeap → Option (Option Value × MHeap × Nat)
/-- a call: how many values it takes; the receiver's class (asked where it is named); what may lie under; what it does -/
abbrev MCall := Nat × Option Nat × Nat × MKall
/-- constants; fields read; fields written; classes made; arrays made; Object's constructor; calls: static, virtual, special -/
abbrev MTab := List (Nat × Value) × List (Nat × Nat × Nat) × List (Nat × Nat × Nat × FieldType) × List (Nat × Nat × Nat × List Value) × List ArrayType × List (Nat × Nat) × List (Nat × MCall) × List (Nat × MCall) × List (Nat × MCall)
def mmCat : List Value → Nat
  | [] => 0
  | v :: r => v.category + mmCat r
theorem mmCat_up (n0 : Nat) : ∀ r : List Value, ((mmUV n0 r).map fun v => v.category).sum = mmCat r
  | [] => rfl
  | v :: r => by
    have := mmCat_up n0 r
    simp only [mmUV, List.map_cons, List.sum_cons, mmUp_cat, mmCat] at this ⊢
    rw [this]
def mmPop : Nat → List Value → List Value → Option (List Value × List Value)
  | 0, S, acc => some (acc, S)
  | _ + 1, [], _ => none
  | n + 1, v :: S, acc => mmPop n S (v :: acc)
theorem mmPop_spec : ∀ {n : Nat} {S acc as r : List Value}, mmPop n S acc = some (as, r) → ∃ q : List Value, as = q.reverse ++ acc ∧ S = q ++ r ∧ q.length = n
  | 0, S, acc, as, r, h => by cases h; exact ⟨[], rfl, rfl, rfl⟩
  | n + 1, [], _, _, _, h => nomatch h
  | n + 1, v :: S, acc, as, r, h => by
    obtain ⟨q, h1, h2, h3⟩ := mmPop_spec (n := n) (S := S) (acc := v :: acc) h
    exact ⟨v :: q, by rw [h1]; simp, by rw [h2]; rfl, by simp [h3]⟩
def mmRecv (rc : Option Nat) (as : List Value) (H : MHeap) : Bool :=
  match rc with
  | none => true
  | some k => (match as with | .ref a :: _ => (match mmNth H a with | some (.inl (k', _)) => k' == k | _ => false) | _ => false)
def mmCall (kl : List (Nat × MCall)) (idx pc : Nat) (L : List Slot) (S : List Value) (H : MHeap) (sl : Nat) : Option MSt :=
  match mmLook kl idx with
  | some (na, rc, W, K) =>
    (match mmPop na S [] with
    | some (as, r) => if mmRecv rc as H = true ∧ mmCat r ≤ W then (match K as H with | some (v, H', ds) => some (pc + 3, L, v.toList ++ r, H', sl + ds) | none => none) else none
    | none => none)
  | none => none
def mmSame : FieldType → FieldType → Bool
  | .int, .int => true
  | .long, .long => true
  | .byte, .byte => true
  | .char, .char => true
  | .boolean, .boolean => true
  | _, _ => false
theorem mmSame_eq {t u : FieldType} (h : mmSame t u = true) : t = u := by
  unfold mmSame at h; split at h <;> first | rfl | cases h
def mmALd (t : FieldType) (pc : Nat) (L : List Slot) (S : List Value) (H : MHeap) (sl : Nat) : Option MSt :=
  match S with
  | .int j :: .ref a :: r =>
    (match mmNth H a with
    | some (.inr (ty, vs)) => if mmSame ty t = true ∧ ¬ j < 0 then (match mmNth vs j.toNatClampNeg with | some v => some (pc + 1, L, v :: r, H, sl) | none => none) else none
    | _ => none)
  | _ => none
def mmASt (t : FieldType) (w : Value) (j : Int32) (a : Nat) (r : List Value) (pc : Nat) (L : List Slot) (H : MHeap) (sl : Nat) : Option MSt :=
  match mmNth H a with
  | some (.inr (ty, vs)) => if mmSame ty t = true ∧ ¬ j < 0 ∧ j.toNatClampNeg < vs.length then some (pc + 1, L, r, H.set a (.inr (ty, vs.set j.toNatClampNeg w)), sl) else none
  | _ => none
def mmGetF (kg : List (Nat × Nat × Nat)) (idx pc : Nat) (L : List Slot) (S : List Value) (H : MHeap) (sl : Nat) : Option MSt :=
  match S with
  | .ref a :: r =>
    (match mmLook kg idx with
    | some (k, j) =>
      (match mmNth H a with
      | some (.inl (k', vs)) => if k' = k then (match mmNth vs j with | some v => some (pc + 3, L, v :: r, H, sl) | none => none) else none
      | _ => none)
    | none => none)
  | _ => none
def mmFits : FieldType → Value → Bool
  | .int, .int _ => true
  | .long, .long _ => true
  | .boolean, .int v => v == 0 || v == 1
  | .object _, .ref _ => true
  | .object _, .null => true
  | .array _, .ref _ => true
  | .array _, .null => true
  | _, _ => false
theorem mmFits_ok {n0 : Nat} {ty : FieldType} {v : Value} (h : mmFits ty v = true) : narrow ty (mmUp n0 v) = mmUp n0 v ∧ fits ty (mmUp n0 v) = true := by
  unfold mmFits at h
  split at h <;> first | exact ⟨rfl, rfl⟩ | (cases h; done) | skip
  rename_i x
  simp only [Bool.or_eq_true, beq_iff_eq] at h
  rcases h with rfl | rfl <;> exact ⟨rfl, rfl⟩
def mmPutF (kp : List (Nat × Nat × Nat × FieldType)) (idx pc : Nat) (L : List Slot) (S : List Value) (H : MHeap) (sl : Nat) : Option MSt :=
  match S with
  | v :: .ref a :: r =>
    (match mmLook kp idx with
    | some (k, j, ty) =>
      (match mmNth H a with
      | some (.inl (k', vs)) => if k' = k ∧ mmFits ty v = true then some (pc + 3, L, r, H.set a (.inl (k', vs.set j v)), sl) else none
      | _ => none)
    | none => none)
  | _ => none
def mmHasTy (ka : List ArrayType) (t : ArrayType) : Bool := ka.any fun u => decide (u = t)
def mmStep (K : MTab) (i : Instr) (pc : Nat) (L : List Slot) (S : List Value) (H : MHeap) (sl : Nat) : Option MSt :=
  match i with
  | .ldc idx => (match mmLook K.1 idx with | some (.int x) => some (pc + 2, L, .int x :: S, H, sl) | _ => none)
  | .ldc2_w idx => (match mmLook K.1 idx with | some (.long x) => some (pc + 3, L, .long x :: S, H, sl) | _ => none)
  | .getfield idx => mmGetF K.2.1 idx pc L S H sl
  | .putfield idx => mmPutF K.2.2.1 idx pc L S H sl
  | .new idx => (match mmLook K.2.2.2.1 idx with | some (k, n, ds) => some (pc + 3, L, .ref H.length :: S, H ++ [.inl (k, ds)], sl + n) | none => none)
  | .newarray t => (match S with
    | .int n :: r => if mmHasTy K.2.2.2.2.1 t = true ∧ ¬ n < 0 ∧ n.toNatClampNeg ≤ 67108864 then some (pc + 2, L, .ref H.length :: r, H ++ [.inr (newarray.typeOf t, List.replicate n.toNatClampNeg (defaultValue (newarray.typeOf t)))], sl + n.toNatClampNeg) else none
    | _ => none)
  | .arraylength => (match S with
    | .ref a :: r => (match mmNth H a with | some (.inr (_, vs)) => some (pc + 1, L, .int vs.length.toInt32 :: r, H, sl) | _ => none)
    | _ => none)
  | .iaload => mmALd .int pc L S H sl
  | .laload => mmALd .long pc L S H sl
  | .caload => mmALd .char pc L S H sl
  | .baload => mmALd .byte pc L S H sl
  | .iastore => (match S with | .int x :: .int j :: .ref a :: r => mmASt .int (.int x) j a r pc L H sl | _ => none)
  | .lastore => (match S with | .long x :: .int j :: .ref a :: r => mmASt .long (.long x) j a r pc L H sl | _ => none)
  | .castore => (match S with | .int x :: .int j :: .ref a :: r => mmASt .char (.int (nar .char x)) j a r pc L H sl | _ => none)
  | .bastore => (match S with | .int x :: .int j :: .ref a :: r => mmASt .byte (.int (nar .byte x)) j a r pc L H sl | _ => none)
  | .invokestatic idx => mmCall K.2.2.2.2.2.2.1 idx pc L S H sl
  | .invokevirtual idx => mmCall K.2.2.2.2.2.2.2.1 idx pc L S H sl
  | .invokespecial idx => (match mmLook K.2.2.2.2.2.1 idx with
    | some W => (match S with | .ref _ :: r => if mmCat r ≤ W then some (pc + 3, L, r, H, sl) else none | _ => none)
    | none => mmCall K.2.2.2.2.2.2.2.2 idx pc L S H sl)
  | i => (match mmPure i pc L S with | some (pc', L', S') => some (pc', L', S', H, sl) | none => none)
def mmRet (ret : Option FieldType) (i : Instr) (S : List Value) : Option (Option Value) :=
  match i with
  | .ireturn => (match S with
    | .int z :: _ => (match ret with | some .int => some (some (.int z)) | some .boolean => some (some (.int (nar .boolean z))) | some .byte => some (some (.int (nar .byte z))) | some .char => some (some (.int (nar .char z))) | _ => none)
    | _ => none)
  | .lreturn => (match S with | [.long w] => (match ret with | some .long => some (some (.long w)) | _ => none) | _ => none)
  | .areturn => (match S with | [.ref a] => (match ret with | some (.array _) => some (some (.ref a)) | some (.object _) => some (some (.ref a)) | _ => none) | _ => none)
  | .return_ => (match S with | [] => (match ret with | none => some none | _ => none) | _ => none)
  | _ => none
def mmRun (K : MTab) (I : Nat → Option Instr) (ret : Option FieldType) : Nat → Nat → List Slot → List Value → MHeap → Nat → Option (Option Value × MHeap × Nat)
  | 0, _, _, _, _, _ => none
  | f + 1, pc, L, S, H, sl =>
    match I pc with
    | none => none
    | some i =>
      match mmRet ret i S with
      | some v => some (v, H, sl)
      | none =>
        match mmStep K i pc L S H sl with
        | some (pc', L', S', H', sl') => mmRun K I ret f pc' L' S' H' sl'
        | none => none
def mmEntry (as : List Value) (n : Nat) : List Slot := Jvm.Sym.laidSlots as ++ List.replicate (n - (Jvm.Sym.laidSlots as).length) .unset
def mmBody (K : MTab) (I : Nat → Option Instr) (ret : Option FieldType) (maxL fuel : Nat) : MKall := fun as H => if (mmEntry as maxL).length = maxL then mmRun K I ret fuel 0 (mmEntry as maxL) [] H 0 else none
/-- the table of instructions against the bytes -/
def mmChk (bytes : ByteArray) (I : Nat → Option Instr) : Nat → Bool
  | 0 => true
  | n + 1 => (match I n with | none => true | some i => (match decode bytes n with | .ok (i', k) => decide (i' = i) && k == mmLen i | .error _ => false)) && mmChk bytes I n
theorem mmChk_ok {bytes : ByteArray} {I : Nat → Option Instr} : ∀ {n : Nat}, mmChk bytes I n = true → ∀ pc i, pc < n → I pc = some i → decode bytes pc = .ok (i, mmLen i)
  | 0, _, _, _, h, _ => absurd h (Nat.not_lt_zero _)
  | n + 1, h, pc, i, hp, hi => by
    unfold mmChk at h
    rw [Bool.and_eq_true] at h
    rcases Nat.lt_succ_iff_lt_or_eq.mp hp with q | rfl
    · exact mmChk_ok h.2 pc i q hi
    · have h1 := h.1
      rw [hi] at h1
      dsimp only at h1
      split at h1
      · rename_i i' k hd
        simp only [Bool.and_eq_true, decide_eq_true_eq, beq_iff_eq] at h1
        rw [hd, h1.1, h1.2]
      · cases h1

/-! ### soundness of one step -/
def mmKMono (K : MKall) : Prop := ∀ as H v H' ds, K as H = some (v, H', ds) → H.length ≤ H'.length
def mmCallOk (CT : List MCls) (l : Launch) (Z : State) (own : String) (R : Room) (ins : Instr) (q : MCall) : Prop :=
  mmKMono q.2.2.2 ∧
  ∀ {p : Program} {e : Env} {s : State} {m : MethodId} {args : Array Value} {below : List Frame} {meth : Method} {c : Code} {T : State} {locs : List Loc} {cells slots n0 pc : Nat} {H H' : MHeap} {Ls : Array Slot} {as r : List Value} {v : Option Value} {ds : Nat},
  Stand p l e R s m args below meth c T locs cells slots → p.tables.exec = Jvm.exec → Z.Warmed39 s.vm → s.vm.findClass own = some m.cls → mmRel CT Z n0 T.heap H → Ls.size = c.maxLocals → decode c.code pc = .ok (ins, 3) → as.length = q.1 → mmRecv q.2.1 as H = true → mmCat r ≤ q.2.2.1 →
  q.2.2.2 as H = some (v, H', ds) → cells + (H'.length - H.length) ≤ R.cells → slots + ds ≤ R.slots →
  ∃ (T' : State) (L' : List Loc), Stand p l e R s m args below meth c T' (locs ++ L') (cells + (H'.length - H.length)) (slots + ds) ∧ mmRel CT Z n0 T'.heap H' ∧ Fr n0 L' ∧
    ∀ target, Steps p.tables e below (T'.setTop (mkF m (pc + 3) Ls (mmUV n0 (v.toList ++ r)))) target → Steps p.tables e below (T.setTop (mkF m pc Ls (mmUV n0 (as.reverse ++ r)))) target
/-- what the tables' words must say for a method of class 'own' called 'name' in room R -/
def mmTabOk (CT : List MCls) (l : Launch) (Z : State) (a0 : Array Value) (own name : String) (R : Room) (K : MTab) : Prop :=
  mmAll (fun q : Nat × Value => (∀ x, q.2 = .int x → (Cond.constant own q.1 x).before a0 Z = true) ∧ (∀ x, q.2 = .long x → (Cond.constantLong own q.1 x).before a0 Z = true)) K.1 ∧
  mmAll (fun q : Nat × Nat × Nat => ∃ (C : String) (n : Nat) (fs : List MFld) (O f d : String) (ty : FieldType), CT[q.2.1]? = some (C, n, fs) ∧ fs[q.2.2]? = some (O, f, d, ty) ∧ (Cond.fieldLink own q.1 O f d).before a0 Z = true) K.2.1 ∧
  mmAll (fun q : Nat × Nat × Nat × FieldType => ∃ (C : String) (n : Nat) (fs : List MFld) (O f d : String), CT[q.2.1]? = some (C, n, fs) ∧ fs[q.2.2.1]? = some (O, f, d, q.2.2.2) ∧ (Cond.fieldLink own q.1 O f d).before a0 Z = true ∧ ((Cond.lays C O f d).before a0 Z = true ∨ ((Cond.laysFinal C O f d).before a0 Z = true ∧ own = O ∧ name = "<init>"))) K.2.2.1 ∧
  mmAll (fun q : Nat × Nat × Nat × List Value => ∃ (C : String) (fs : List MFld), CT[q.2.1]? = some (C, q.2.2.1, fs) ∧ q.2.2.2 = fs.map (fun f => defaultValue f.2.2.2) ∧ (Cond.classLink own q.1 C).before a0 Z = true) K.2.2.2.1 ∧
  mmAll (fun t : ArrayType => (Cond.arrayClass (newarray.typeOf t)).before a0 Z = true) K.2.2.2.2.1 ∧
  mmAll (fun q : Nat × Nat => (Cond.methodLink own q.1 Lib.objectInit).before a0 Z = true ∧ (Cond.instanceMethod Lib.objectInit).before a0 Z = true ∧ (Cond.code Lib.objectInit ⟨#[0xb1]⟩ 1 none).before a0 Z = true ∧ 1 ≤ R.frames ∧ q.2 + 12 ≤ R.locals) K.2.2.2.2.2.1 ∧
  mmAll (fun q : Nat × MCall => mmCallOk CT l Z own R (.invokestatic q.1) q.2) K.2.2.2.2.2.2.1 ∧
  mmAll (fun q : Nat × MCall => mmCallOk CT l Z own R (.invokevirtual q.1) q.2) K.2.2.2.2.2.2.2.1 ∧
  mmAll (fun q : Nat × MCall => mmCallOk CT l Z own R (.invokespecial q.1) q.2) K.2.2.2.2.2.2.2.2
section MMSound
variable {CT : List MCls} {p : Program} {l : Launch} {e : Env} {R : Room} {s : State} {m : MethodId} {args : Array Value} {below : List Frame} {meth : Method} {c : Code} {Z : State} {a0 : Array Value} {own name : String} {n0 hl0 : Nat}
/-- where the walk stands, as the small machine sees it -/
def mmInv (CT : List MCls) (Z : State) (p : Program) (l : Launch) (e : Env) (R : Room) (s : State) (m : MethodId) (args : Array Value) (below : List Frame) (meth : Method) (c : Code) (n0 hl0 : Nat) (T : State) (H : MHeap) (sl : Nat) : Prop :=
  ∃ (locs : List Loc) (cells : Nat), Stand p l e R s m args below meth c T locs cells sl ∧ cells + hl0 = H.length ∧ Fr n0 locs ∧ mmRel CT Z n0 T.heap H
theorem mmCallOk_step {T : State} {pc sl : Nat} {L : List Slot} {S : List Value} {H : MHeap} {pc' sl' idx : Nat} {L' : List Slot} {S' : List Value} {H' : MHeap} {ins : Instr} {kl : List (Nat × MCall)}
    (hx : p.tables.exec = Jvm.exec) (hZ : Z.Warmed39 s.vm) (hown : s.vm.findClass own = some m.cls) (hkl : ∀ q : MCall, (idx, q) ∈ kl → mmCallOk CT l Z own R ins q) (hL : L.length = c.maxLocals)
    (I : mmInv CT Z p l e R s m args below meth c n0 hl0 T H sl) (hc : H'.length ≤ hl0 + R.cells) (hs : sl' ≤ R.slots) (hd : decode c.code pc = .ok (ins, 3)) (hst : mmCall kl idx pc L S H sl = some (pc', L', S', H', sl')) :
    L'.length = L.length ∧ ∃ T', mmInv CT Z p l e R s m args below meth c n0 hl0 T' H' sl' ∧ ∀ target, Steps p.tables e below (T'.setTop (mkF m pc' (mmUL n0 L') (mmUV n0 S'))) target → Steps p.tables e below (T.setTop (mkF m pc (mmUL n0 L) (mmUV n0 S))) target := by
  obtain ⟨locs, cells, X, hcl, N, rel⟩ := I
  unfold mmCall at hst
  split at hst
  · rename_i na rc W K hk
    split at hst
    · rename_i as r hp
      split at hst
      · rename_i hrc
        split at hst
        · rename_i v H1 ds hK
          cases hst
          obtain ⟨hmono, law⟩ := hkl _ (mmLook_mem hk)
          have hm := hmono _ _ _ _ _ hK
          obtain ⟨q, e1, e2, e3⟩ := mmPop_spec hp
          rw [List.append_nil] at e1
          subst e1 e2
          obtain ⟨T', L', X', rel', N', st⟩ := law (Ls := mmUL n0 L) (as := q.reverse) (r := r) X hx hZ hown rel (by simpa [mmUL] using hL) hd (by simpa using e3) hrc.1 hrc.2 hK (by omega) hs
          rw [List.reverse_reverse] at st
          exact ⟨rfl, T', ⟨_, _, X', by omega, Fr.app N N', rel'⟩, st⟩
        · cases hst
      · cases hst
    · cases hst
  · cases hst
theorem mmALd_step {T : State} {pc sl : Nat} {L : List Slot} {S : List Value} {H : MHeap} {pc' sl' : Nat} {L' : List Slot} {S' : List Value} {H' : MHeap} {t : FieldType}
    (hst : mmALd t pc L S H sl = some (pc', L', S', H', sl')) (rel : mmRel CT Z n0 T.heap H) :
    ∃ (j : Int32) (a : Nat) (r : List Value) (cl : Cell) (v : Value), S = .int j :: .ref a :: r ∧ pc' = pc + 1 ∧ L' = L ∧ S' = v :: r ∧ H' = H ∧ sl' = sl ∧ Arr Z T.heap (n0 + a) cl t ∧ ¬ (j < 0 ∨ cl.slots.size ≤ j.toNatClampNeg) ∧ cl.slots[j.toNatClampNeg]? = some (mmUp n0 v) := by
  unfold mmALd at hst
  split at hst
  · rename_i j a r
    split at hst
    · rename_i ty vs hn
      split at hst
      · rename_i hq
        split at hst
        · rename_i v hv
          cases hst
          obtain ⟨rfl⟩ := mmSame_eq hq.1
          rw [mmNth_eq] at hn hv
          obtain ⟨cl, A, hc⟩ := rel.2 a _ hn
          have hlt := (List.getElem?_eq_some_iff.mp hv).1
          refine ⟨j, a, r, cl, v, rfl, rfl, rfl, rfl, rfl, rfl, A, ?_, ?_⟩
          · rintro (q | q)
            · exact hq.2 q
            · rw [hc] at q; simp at q; omega
          · rw [hc]; simp [hv]
        · cases hst
      · cases hst
    · cases hst
  · cases hst
theorem mmASt_step {T : State} {pc sl : Nat} {L : List Slot} {r : List Value} {H : MHeap} {pc' sl' a : Nat} {j : Int32} {w : Value} {L' : List Slot} {S' : List Value} {H' : MHeap} {t : FieldType}
    (hst : mmASt t w j a r pc L H sl = some (pc', L', S', H', sl')) (rel : mmRel CT Z n0 T.heap H) :
    ∃ (vs : List Value) (cl : Cell), pc' = pc + 1 ∧ L' = L ∧ S' = r ∧ H' = H.set a (.inr (t, vs.set j.toNatClampNeg w)) ∧ sl' = sl ∧ Arr Z T.heap (n0 + a) cl t ∧ cl.slots = (mmUV n0 vs).toArray ∧ ¬ (j < 0 ∨ cl.slots.size ≤ j.toNatClampNeg) := by
  unfold mmASt at hst
  split at hst
  · rename_i ty vs hn
    split at hst
    · rename_i hq
      cases hst
      obtain ⟨rfl⟩ := mmSame_eq hq.1
      rw [mmNth_eq] at hn
      obtain ⟨cl, A, hc⟩ := rel.2 a _ hn
      refine ⟨vs, cl, rfl, rfl, rfl, rfl, rfl, A, hc, ?_⟩
      rintro (q | q)
      · exact hq.2.1 q
      · rw [hc] at q; have := hq.2.2; simp at q; omega
    · cases hst
  · cases hst
set_option maxHeartbeats 4000000 in
theorem mmStep_ok {K : MTab} {T : State} {pc sl : Nat} {L : List Slot} {S : List Value} {H : MHeap} {pc' sl' : Nat} {L' : List Slot} {S' : List Value} {H' : MHeap} {i : Instr} (hx : p.tables.exec = Jvm.exec) (hZ : Z.Warmed39 s.vm) (hown : s.vm.findClass own = some m.cls) (hnm : meth.name = name)
    (hCT : mmAll (mmClsOk Z a0) CT) (hK : mmTabOk CT l Z a0 own name R K) (hs0 : s.heap.size = n0 + hl0) (hL : L.length = c.maxLocals)
    (I : mmInv CT Z p l e R s m args below meth c n0 hl0 T H sl) (hc : H'.length ≤ hl0 + R.cells) (hs : sl' ≤ R.slots) (hd : decode c.code pc = .ok (i, mmLen i)) (hst : mmStep K i pc L S H sl = some (pc', L', S', H', sl')) :
    L'.length = L.length ∧ ∃ T', mmInv CT Z p l e R s m args below meth c n0 hl0 T' H' sl' ∧ ∀ target, Steps p.tables e below (T'.setTop (mkF m pc' (mmUL n0 L') (mmUV n0 S'))) target → Steps p.tables e below (T.setTop (mkF m pc (mmUL n0 L) (mmUV n0 S))) target := by
  obtain ⟨k1, k2, k3, k4, k5, k6, k7, k8, k9⟩ := hK
  have I0 := I
  obtain ⟨locs, cells, X, hcl, N, rel⟩ := I
  unfold mmStep at hst
  split at hst
  · -- ldc
    split at hst
    · rename_i x hk
      cases hst
      exact ⟨rfl, T, I0, fun target hr => X.ldcI hx hown (mvT hZ ((mmAll_mem k1 _ (mmLook_mem hk)).1 x rfl)) rfl hd hr⟩
    · cases hst
  · -- ldc2_w
    split at hst
    · rename_i x hk
      cases hst
      exact ⟨rfl, T, I0, fun target hr => X.ldc2J hx hown (mvT hZ ((mmAll_mem k1 _ (mmLook_mem hk)).2 x rfl)) rfl hd hr⟩
    · cases hst
  · -- getfield
    unfold mmGetF at hst
    split at hst
    · rename_i a r
      split at hst
      · rename_i k j hk
        split at hst
        · rename_i k' vs hn
          split at hst
          · rename_i hkk
            split at hst
            · rename_i v hv
              cases hst; subst hkk
              obtain ⟨C, n, fs, O, f, d, ty, q1, q2, q3⟩ := mmAll_mem k2 _ (mmLook_mem hk)
              rw [mmNth_eq] at hn hv
              obtain ⟨C', n', fs', r1, r2, r3, r4⟩ := rel.2 a _ hn
              cases q1.symm.trans r1
              obtain ⟨T', X', e', st⟩ := getF X hx hZ hown (host := "") (Or.inl q3) Via.refl rfl (r4 j O f d ty v q2 hv) (g := mkF m pc (mmUL n0 L) (mmUV n0 (.ref a :: r))) rfl rfl hd
              exact ⟨rfl, T', ⟨locs, cells, X', hcl, N, by rw [e']; exact rel⟩, st⟩
            · cases hst
          · cases hst
        · cases hst
      · cases hst
    · cases hst
  · -- putfield
    unfold mmPutF at hst
    split at hst
    · rename_i v a r
      split at hst
      · rename_i k j ty hk
        split at hst
        · rename_i k' vs hn
          split at hst
          · rename_i hkk
            cases hst
            obtain ⟨hkk, hft⟩ := hkk
            subst hkk
            obtain ⟨C, n, fs, O, f, d, q1, q2, q3, q4⟩ := mmAll_mem k3 _ (mmLook_mem hk)
            rw [mmNth_eq] at hn
            obtain ⟨C', n', fs', r1, r2, r3, r4⟩ := rel.2 a _ hn
            cases q1.symm.trans r1
            have hcls := mmAll_nth hCT q1
            have hl : j < vs.length := by rw [r3]; exact (List.getElem?_eq_some_iff.mp q2).1
            obtain ⟨T', h', X', e', W, st⟩ := putF X hx hZ hown (host := "") (Or.inl q3) Via.refl rfl (r4 j O f d ty _ q2 (List.getElem?_eq_getElem hl)) r2 (q4.imp id fun z => ⟨z.1, z.2.1, hnm.trans z.2.2⟩) hcls.1 (ty := ty) (mmAll_nth hcls.2.2.1 q2).2 (v := mmUp n0 v) (mmFits_ok hft).1 (mmFits_ok hft).2 (g := mkF m pc (mmUL n0 L) (mmUV n0 (v :: .ref a :: S'))) rfl rfl hd
            refine ⟨rfl, T', ⟨_, cells, X', by rw [List.length_set]; exact hcl, Fr.snoc X' N (Nat.le_add_right n0 a), ?_⟩, st⟩
            rw [e']
            exact mmRel_fld hcls q1 q2 rel hn W
          · cases hst
        · cases hst
      · cases hst
    · cases hst
  · -- new
    split at hst
    · rename_i k n ds hk
      cases hst
      obtain ⟨C, fs, q1, q2, q3⟩ := mmAll_mem k4 _ (mmLook_mem hk)
      have hcls := mmAll_nth hCT q1
      rw [List.length_append] at hc
      have hc' : H.length + 1 ≤ hl0 + R.cells := hc
      obtain ⟨T', h', X', e', E, A, D, -, st⟩ := newO X hx hZ hown q3 hcls.1 hcls.2.1 rfl (g := mkF m pc (mmUL n0 L) (mmUV n0 S)) rfl hd (by omega) hs
      have z1 := X'.heapSize
      have z2 : T.heap.size < h'.size := A.lt
      have z3 : h'.size = T.heap.size + 1 := by rw [e'] at z1; have := rel.1; omega
      refine ⟨rfl, T', ⟨_, _, X', by simp; omega, N, ?_⟩, fun target hr => st target ?_⟩
      · rw [e']
        refine mmRel_push rel E z3 ⟨C, _, fs, q1, A, by simp only [] at q2; rw [q2]; simp, fun j O f d ty v g1 g2 => ?_⟩
        simp only [] at q2
        rw [q2, List.getElem?_map, g1] at g2
        cases g2
        rw [mmUp_default]
        exact D (mmAll_nth hcls.2.2.1 g1).1 (mmAll_nth hcls.2.2.1 g1).2
      · rw [rel.1]; exact hr
    · cases hst
  · -- newarray
    rename_i t
    split at hst
    · rename_i n r
      split at hst
      · rename_i hq
        cases hst
        rw [List.length_append] at hc
        have hc' : H.length + 1 ≤ hl0 + R.cells := hc
        have hty : (Cond.arrayClass (newarray.typeOf t)).before a0 Z = true := by
          have q := hq.1
          unfold mmHasTy at q
          rw [List.any_eq_true] at q
          obtain ⟨u, hu, e⟩ := q
          have e := of_decide_eq_true e
          subst e
          exact mmAll_mem k5 _ hu
        obtain ⟨T', h', cA, X', e', E, A, st⟩ := newP X hx hZ hty rfl (g := mkF m pc (mmUL n0 L) (mmUV n0 (.int n :: r))) rfl hd rfl hq.2.1 (cap := n.toNatClampNeg) (Nat.le_refl _) (by have := hq.2.2; omega) (by omega) hs
        have z1 := X'.heapSize
        have z2 : T.heap.size < h'.size := A.lt
        have z3 : h'.size = T.heap.size + 1 := by rw [e'] at z1; have := rel.1; omega
        refine ⟨rfl, T', ⟨_, _, X', by simp; omega, N, ?_⟩, fun target hr => st target ?_⟩
        · rw [e']
          refine mmRel_push rel E z3 ⟨_, A, ?_⟩
          simp [newA, mmUp_default]
        · rw [rel.1]; exact hr
      · cases hst
    · cases hst
  · -- arraylength
    split at hst
    · rename_i a r
      split at hst
      · rename_i ty vs hn
        cases hst
        rw [mmNth_eq] at hn
        obtain ⟨cl, A, hcs⟩ := rel.2 a _ hn
        refine ⟨rfl, T, I0, fun target hr => X.arraylength hx A.1 (State.isArrayOf_alike hZ.alike A.2.1) (g := mkF m pc (mmUL n0 L) (mmUV n0 (.ref a :: r))) rfl rfl hd target ?_⟩
        have e1 : cl.slots.size = vs.length := by rw [hcs]; simp
        rw [e1]; exact hr
      · cases hst
    · cases hst
  · obtain ⟨j, a, r, cl, v, rfl, rfl, rfl, rfl, rfl, rfl, A, hin, hat⟩ := mmALd_step (T := T) hst rel
    exact ⟨rfl, T, I0, fun target hr => X.iaload hx A.1 (State.isArrayOf_alike hZ.alike A.2.1) A.2.2 hin hat (g := mkF m pc (mmUL n0 L') (mmUV n0 (.int j :: .ref a :: r))) rfl rfl hd target hr⟩
  · obtain ⟨j, a, r, cl, v, rfl, rfl, rfl, rfl, rfl, rfl, A, hin, hat⟩ := mmALd_step (T := T) hst rel
    exact ⟨rfl, T, I0, fun target hr => X.laload hx A.1 (State.isArrayOf_alike hZ.alike A.2.1) A.2.2 hin hat (g := mkF m pc (mmUL n0 L') (mmUV n0 (.int j :: .ref a :: r))) rfl rfl hd target hr⟩
  · obtain ⟨j, a, r, cl, v, rfl, rfl, rfl, rfl, rfl, rfl, A, hin, hat⟩ := mmALd_step (T := T) hst rel
    exact ⟨rfl, T, I0, fun target hr => X.caload hx A.1 (State.isArrayOf_alike hZ.alike A.2.1) A.2.2 hin hat (g := mkF m pc (mmUL n0 L') (mmUV n0 (.int j :: .ref a :: r))) rfl rfl hd target hr⟩
  · obtain ⟨j, a, r, cl, v, rfl, rfl, rfl, rfl, rfl, rfl, A, hin, hat⟩ := mmALd_step (T := T) hst rel
    exact ⟨rfl, T, I0, fun target hr => X.baloadBytes hx A.1 (State.isArrayOf_alike hZ.alike A.2.1) A.2.2 hin hat (g := mkF m pc (mmUL n0 L') (mmUV n0 (.int j :: .ref a :: r))) rfl rfl hd target hr⟩
  · split at hst
    · rename_i x j a r
      obtain ⟨vs, cl, rfl, rfl, rfl, rfl, rfl, A, hcs, hin⟩ := mmASt_step (T := T) hst rel
      obtain ⟨T', h', X', e', W, st⟩ := stI X hx hZ rfl A hin (g := mkF m pc (mmUL n0 L') (mmUV n0 (.int x :: .int j :: .ref a :: S'))) rfl rfl hd
      exact ⟨rfl, T', ⟨_, cells, X', by rw [List.length_set]; exact hcl, Fr.snoc X' N (Nat.le_add_right n0 a), by rw [e']; exact mmRel_arr (v := .int x) rel A hcs W⟩, st⟩
    · cases hst
  · split at hst
    · rename_i x j a r
      obtain ⟨vs, cl, rfl, rfl, rfl, rfl, rfl, A, hcs, hin⟩ := mmASt_step (T := T) hst rel
      obtain ⟨T', h', X', e', W, st⟩ := stJ X hx hZ rfl A hin (g := mkF m pc (mmUL n0 L') (mmUV n0 (.long x :: .int j :: .ref a :: S'))) rfl rfl hd
      exact ⟨rfl, T', ⟨_, cells, X', by rw [List.length_set]; exact hcl, Fr.snoc X' N (Nat.le_add_right n0 a), by rw [e']; exact mmRel_arr (v := .long x) rel A hcs W⟩, st⟩
    · cases hst
  · split at hst
    · rename_i x j a r
      obtain ⟨vs, cl, rfl, rfl, rfl, rfl, rfl, A, hcs, hin⟩ := mmASt_step (T := T) hst rel
      obtain ⟨T', h', X', e', W, st⟩ := stC X hx hZ rfl A hin (g := mkF m pc (mmUL n0 L') (mmUV n0 (.int x :: .int j :: .ref a :: S'))) rfl rfl hd
      exact ⟨rfl, T', ⟨_, cells, X', by rw [List.length_set]; exact hcl, Fr.snoc X' N (Nat.le_add_right n0 a), by rw [e']; exact mmRel_arr (v := .int (nar .char x)) rel A hcs W⟩, st⟩
    · cases hst
  · split at hst
    · rename_i x j a r
      obtain ⟨vs, cl, rfl, rfl, rfl, rfl, rfl, A, hcs, hin⟩ := mmASt_step (T := T) hst rel
      obtain ⟨T', h', X', e', W, st⟩ := stB X hx hZ rfl A hin (g := mkF m pc (mmUL n0 L') (mmUV n0 (.int x :: .int j :: .ref a :: S'))) rfl rfl hd
      exact ⟨rfl, T', ⟨_, cells, X', by rw [List.length_set]; exact hcl, Fr.snoc X' N (Nat.le_add_right n0 a), by rw [e']; exact mmRel_arr (v := .int (nar .byte x)) rel A hcs W⟩, st⟩
    · cases hst
  · exact mmCallOk_step hx hZ hown (fun q hq => mmAll_mem k7 _ hq) hL I0 hc hs hd hst
  · exact mmCallOk_step hx hZ hown (fun q hq => mmAll_mem k8 _ hq) hL I0 hc hs hd hst
  · split at hst
    · rename_i idx W hk
      split at hst
      · rename_i a r
        split at hst
        · rename_i hW
          cases hst
          obtain ⟨q1, q2, q3, q4, q5⟩ := mmAll_mem k6 _ (mmLook_mem hk)
          obtain ⟨T', X', e', st⟩ := initO X hx hZ hown q1 q2 q3 rfl (g := mkF m pc (mmUL n0 L) (mmUV n0 (.ref a :: S'))) rfl (by simpa [mmUL] using hL) rfl hd q4 (W := W) (by rw [mmCat_up]; show 2 * 0 + _ ≤ _; omega) q5
          exact ⟨rfl, T', ⟨locs, cells, X', hcl, N, by rw [e']; exact rel⟩, st⟩
        · cases hst
      · cases hst
    · exact mmCallOk_step hx hZ hown (fun q hq => mmAll_mem k9 _ hq) hL I0 hc hs hd hst
  · split at hst
    · rename_i hp
      cases hst
      exact ⟨mmPure_len hp, T, I0, fun target hr => mmPure_ok X.here hx hp hd hr⟩
    · cases hst
end MMSound

/-! ### soundness of a run, of a body, of a call -/
def mmMonos (K : MTab) : Prop := mmAll (fun q : Nat × MCall => mmKMono q.2.2.2.2) K.2.2.2.2.2.2.1 ∧ mmAll (fun q : Nat × MCall => mmKMono q.2.2.2.2) K.2.2.2.2.2.2.2.1 ∧ mmAll (fun q : Nat × MCall => mmKMono q.2.2.2.2) K.2.2.2.2.2.2.2.2
theorem mmAll_imp {α : Type} {P Q : α → Prop} (h : ∀ x, P x → Q x) : ∀ {l : List α}, mmAll P l → mmAll Q l
  | [], _ => trivial
  | _ :: _, H => ⟨h _ H.1, mmAll_imp h H.2⟩
theorem mmCall_mono {kl : List (Nat × MCall)} (hk : mmAll (fun q : Nat × MCall => mmKMono q.2.2.2.2) kl) {idx pc sl pc' sl' : Nat} {L L' : List Slot} {S S' : List Value} {H H' : MHeap} (h : mmCall kl idx pc L S H sl = some (pc', L', S', H', sl')) : H.length ≤ H'.length ∧ sl ≤ sl' := by
  unfold mmCall at h
  split at h
  · rename_i na rc W K hq
    split at h
    · split at h
      · split at h
        · rename_i v H1 ds hK
          cases h
          exact ⟨mmAll_mem hk _ (mmLook_mem hq) _ _ _ _ _ hK, Nat.le_add_right _ _⟩
        · cases h
      · cases h
    · cases h
  · cases h
theorem mmALd_mono {t : FieldType} {pc sl pc' sl' : Nat} {L L' : List Slot} {S S' : List Value} {H H' : MHeap} (h : mmALd t pc L S H sl = some (pc', L', S', H', sl')) : H.length ≤ H'.length ∧ sl ≤ sl' := by
  unfold mmALd at h
  repeat' split at h
  all_goals first | (cases h; done) | (cases h; exact ⟨Nat.le_refl _, Nat.le_refl _⟩)
theorem mmASt_mono {t : FieldType} {w : Value} {j : Int32} {a : Nat} {r : List Value} {pc sl pc' sl' : Nat} {L L' : List Slot} {S' : List Value} {H H' : MHeap} (h : mmASt t w j a r pc L H sl = some (pc', L', S', H', sl')) : H.length ≤ H'.length ∧ sl ≤ sl' := by
  unfold mmASt at h
  repeat' split at h
  all_goals first | (cases h; done) | (cases h; exact ⟨by simp, Nat.le_refl _⟩)
theorem mmGetF_mono {kg : List (Nat × Nat × Nat)} {idx pc sl pc' sl' : Nat} {L L' : List Slot} {S S' : List Value} {H H' : MHeap} (h : mmGetF kg idx pc L S H sl = some (pc', L', S', H', sl')) : H.length ≤ H'.length ∧ sl ≤ sl' := by
  unfold mmGetF at h
  repeat' split at h
  all_goals first | (cases h; done) | (cases h; exact ⟨Nat.le_refl _, Nat.le_refl _⟩)
theorem mmPutF_mono {kg : List (Nat × Nat × Nat × FieldType)} {idx pc sl pc' sl' : Nat} {L L' : List Slot} {S S' : List Value} {H H' : MHeap} (h : mmPutF kg idx pc L S H sl = some (pc', L', S', H', sl')) : H.length ≤ H'.length ∧ sl ≤ sl' := by
  unfold mmPutF at h
  repeat' split at h
  all_goals first | (cases h; done) | (cases h; exact ⟨by simp, Nat.le_refl _⟩)
theorem mmStep_mono {K : MTab} (hK : mmMonos K) {i : Instr} {pc sl pc' sl' : Nat} {L L' : List Slot} {S S' : List Value} {H H' : MHeap} (h : mmStep K i pc L S H sl = some (pc', L', S', H', sl')) : H.length ≤ H'.length ∧ sl ≤ sl' := by
  unfold mmStep at h
  split at h
  · split at h <;> first | (cases h; done) | (cases h; exact ⟨Nat.le_refl _, Nat.le_refl _⟩)
  · split at h <;> first | (cases h; done) | (cases h; exact ⟨Nat.le_refl _, Nat.le_refl _⟩)
  · exact mmGetF_mono h
  · exact mmPutF_mono h
  · split at h <;> first | (cases h; done) | (cases h; exact ⟨by simp, Nat.le_add_right _ _⟩)
  · split at h
    · split at h <;> first | (cases h; done) | (cases h; exact ⟨by simp, Nat.le_add_right _ _⟩)
    · cases h
  · split at h
    · split at h <;> first | (cases h; done) | (cases h; exact ⟨Nat.le_refl _, Nat.le_refl _⟩)
    · cases h
  · exact mmALd_mono h
  · exact mmALd_mono h
  · exact mmALd_mono h
  · exact mmALd_mono h
  · split at h <;> first | exact mmASt_mono h | cases h
  · split at h <;> first | exact mmASt_mono h | cases h
  · split at h <;> first | exact mmASt_mono h | cases h
  · split at h <;> first | exact mmASt_mono h | cases h
  · exact mmCall_mono hK.1 h
  · exact mmCall_mono hK.2.1 h
  · split at h
    · split at h
      · split at h <;> first | (cases h; done) | (cases h; exact ⟨Nat.le_refl _, Nat.le_refl _⟩)
      · cases h
    · exact mmCall_mono hK.2.2 h
  · split at h <;> first | (cases h; done) | (cases h; exact ⟨Nat.le_refl _, Nat.le_refl _⟩)
theorem mmRun_mono {K : MTab} (hK : mmMonos K) {I : Nat → Option Instr} {ret : Option FieldType} : ∀ {f pc sl : Nat} {L : List Slot} {S : List Value} {H : MHeap} {v : Option Value} {H' : MHeap} {sl' : Nat}, mmRun K I ret f pc L S H sl = some (v, H', sl') → H.length ≤ H'.length ∧ sl ≤ sl'
  | 0, _, _, _, _, _, _, _, _, h => nomatch h
  | f + 1, pc, sl, L, S, H, v, H', sl', h => by
    unfold mmRun at h
    split at h
    · cases h
    · split at h
      · cases h; exact ⟨Nat.le_refl _, Nat.le_refl _⟩
      · split at h
        · rename_i hst
          have q1 := mmStep_mono hK hst
          have q2 := mmRun_mono hK h
          exact ⟨Nat.le_trans q1.1 q2.1, Nat.le_trans q1.2 q2.2⟩
        · cases h
theorem mmBody_mono {K : MTab} (hK : mmMonos K) {I : Nat → Option Instr} {ret : Option FieldType} {maxL fuel : Nat} : mmKMono (mmBody K I ret maxL fuel) := fun as H v H' ds h => by
  unfold mmBody at h
  split at h
  · exact (mmRun_mono hK h).1
  · cases h
theorem mmTabOk_mono {CT : List MCls} {l : Launch} {Z : State} {a0 : Array Value} {own name : String} {R : Room} {K : MTab} (h : mmTabOk CT l Z a0 own name R K) : mmMonos K :=
  ⟨mmAll_imp (fun _ q => q.1) h.2.2.2.2.2.2.1, mmAll_imp (fun _ q => q.1) h.2.2.2.2.2.2.2.1, mmAll_imp (fun _ q => q.1) h.2.2.2.2.2.2.2.2⟩
section MMRunOk
variable {CT : List MCls} {p : Program} {l : Launch} {e : Env} {R : Room} {s : State} {m : MethodId} {args : Array Value} {below : List Frame} {meth : Method} {c : Code} {Z : State} {a0 : Array Value} {own name : String} {n0 hl0 : Nat}
theorem mmRet_ok {T : State} {locs : List Loc} {cells slots : Nat} (X : Stand p l e R s m args below meth c T locs cells slots) (hx : p.tables.exec = Jvm.exec) {ret : Option FieldType} (hret : meth.sig.returnType = ret) {i : Instr} {pc : Nat} {Ls : Array Slot} {S : List Value} {v : Option Value}
    (h : mmRet ret i S = some v) (hd : decode c.code pc = .ok (i, mmLen i)) {fs : List Frame} (hl : ∀ (f : JFrame) (acts : List Action), f.method = m → f.locked = none → f.entered = [] → (doReturn e (T.setTop f) acts (v.map (mmUp n0))).1 = T.setFrames fs) :
    Steps p.tables e below (T.setTop (mkF m pc Ls (mmUV n0 S))) (T.setFrames fs) := by
  unfold mmRet at h
  split at h
  · split at h
    · rename_i z r
      split at h
      · cases h; exact retOut X hx hret (w := .int z) rfl (Or.inl ⟨rfl, Or.inl rfl, z, rfl⟩) hd hl
      · cases h; exact retN X hx (t := .boolean) hret (by simp) hd hl
      · cases h; exact retN X hx (t := .byte) hret (by simp) hd hl
      · cases h; exact retN X hx (t := .char) hret (by simp) hd hl
      · cases h
    · cases h
  · split at h
    · rename_i w
      split at h
      · cases h; exact retOut X hx hret (w := .long w) rfl (Or.inr (Or.inl ⟨rfl, rfl, w, rfl⟩)) hd hl
      · cases h
    · cases h
  · split at h
    · rename_i a
      split at h
      · cases h; exact retOut X hx hret (w := .ref (n0 + a)) rfl (Or.inr (Or.inr (Or.inr (Or.inr ⟨rfl, rfl, rfl⟩)))) hd hl
      · cases h; exact retOut X hx hret (w := .ref (n0 + a)) rfl (Or.inr (Or.inr (Or.inr (Or.inr ⟨rfl, rfl, rfl⟩)))) hd hl
      · cases h
    · cases h
  · split at h
    · split at h
      · cases h; exact X.returnOut hx hret hd hl
      · cases h
    · cases h
  · cases h
theorem mmRet_none {ret : Option FieldType} {i : Instr} {S : List Value} {v : Option Value} (h : mmRet ret i S = some v) : ret = none → v = none := by
  unfold mmRet at h
  repeat' split at h
  all_goals first | (cases h; done) | (cases h; intro z; first | rfl | cases z)
theorem mmRun_ok {K : MTab} {I : Nat → Option Instr} {ret : Option FieldType} (hx : p.tables.exec = Jvm.exec) (hZ : Z.Warmed39 s.vm) (hown : s.vm.findClass own = some m.cls) (hnm : meth.name = name) (hret : meth.sig.returnType = ret) (hlk : meth.locks = false)
    (hCT : mmAll (mmClsOk Z a0) CT) (hK : mmTabOk CT l Z a0 own name R K) (hs0 : s.heap.size = n0 + hl0) (hI : ∀ pc i, I pc = some i → decode c.code pc = .ok (i, mmLen i)) :
    ∀ {f pc sl : Nat} {L : List Slot} {S : List Value} {H : MHeap} {v : Option Value} {H' : MHeap} {sl' : Nat} {T : State}, mmRun K I ret f pc L S H sl = some (v, H', sl') → L.length = c.maxLocals → mmInv CT Z p l e R s m args below meth c n0 hl0 T H sl → H'.length ≤ hl0 + R.cells → sl' ≤ R.slots →
    ∃ (T' : State) (locs : List Loc) (cells : Nat) (fs : List Frame), cells + hl0 = H'.length ∧ Fr n0 locs ∧ mmRel CT Z n0 T'.heap H' ∧ Steps p.tables e below (T.setTop (mkF m pc (mmUL n0 L) (mmUV n0 S))) (T'.setFrames fs) ∧ (T'.setFrames fs).status = .running ∧ Ended (T'.setFrames fs) below (.returned (v.map (mmUp n0))) ∧
      s.WarmedH (T'.setFrames fs).vm ∧ s.sameButNew ({ T'.setFrames fs with vm := s.vm } : State) locs cells sl'
  | 0, _, _, _, _, _, _, _, _, _, h, _, _, _, _ => nomatch h
  | f + 1, pc, sl, L, S, H, v, H', sl', T, h, hL, Iv, hc, hs => by
    unfold mmRun at h
    split at h
    · cases h
    · rename_i i hi
      have hd := hI _ _ hi
      split at h
      · rename_i v' hv
        cases h
        obtain ⟨locs, cells, X, hcl, N, rel⟩ := Iv
        obtain ⟨fs, hr, hrun, hended, hW, hsame⟩ := X.leave (v := v.map (mmUp n0)) (fun z => by rw [mmRet_none hv (hret.symm.trans z)]; rfl) hlk
        exact ⟨T, locs, cells, fs, hcl, N, rel, mmRet_ok X hx hret hv hd hr, hrun, hended, hW, hsame⟩
      · split at h
        · rename_i hst
          have mn := mmRun_mono (mmTabOk_mono hK) h
          obtain ⟨q1, T1, Iv1, st⟩ := mmStep_ok hx hZ hown hnm hCT hK hs0 hL Iv (Nat.le_trans mn.1 hc) (Nat.le_trans mn.2 hs) hd hst
          obtain ⟨T', locs, cells, fs, r1, r2, r3, r4, r5⟩ := mmRun_ok hx hZ hown hnm hret hlk hCT hK hs0 hI h (q1.trans hL) Iv1 hc hs
          exact ⟨T', locs, cells, fs, r1, r2, r3, st _ r4, r5⟩
        · cases h
end MMRunOk
theorem mmLaid_up (n0 : Nat) : ∀ as : List Value, Jvm.Sym.laidSlots (mmUV n0 as) = (Jvm.Sym.laidSlots as).map (mmUpS n0)
  | [] => rfl
  | v :: r => by
    have e1 : mmUV n0 (v :: r) = mmUp n0 v :: mmUV n0 r := rfl
    have e2 : ∀ (w : Value) (q : List Value), Jvm.Sym.laidSlots (w :: q) = if w.category = 2 then .val w :: .second :: Jvm.Sym.laidSlots q else .val w :: Jvm.Sym.laidSlots q := fun _ _ => rfl
    rw [e1, e2, e2, mmUp_cat, mmLaid_up n0 r]
    split <;> rfl
theorem mmEntry_up (n0 n : Nat) (m : MethodId) (as : List Value) : entryFrame m (mmUV n0 as).toArray n = mkF m 0 (mmUL n0 (mmEntry as n)) [] := by
  have e1 : argsToLocals (mmUV n0 as).toArray n = mmUL n0 (mmEntry as n) := Array.toList_inj.mp (by
    rw [Jvm.Sym.argsToLocals_toList]
    simp [mmEntry, mmLaid_up, mmUpS])
  unfold entryFrame
  rw [e1]
set_option maxHeartbeats 4000000 in
theorem mmMet {CT : List MCls} {l : Launch} {Z : State} {a0 : Array Value} {y : MethodName} {bytes : ByteArray} {maxL : Nat} {ret : Option FieldType} {rm : Room} {K : MTab} {I : Nat → Option Instr} (hpl : plainFor y = true) (hI : ∀ pc i, I pc = some i → decode bytes pc = .ok (i, mmLen i))
    (hCT : mmAll (mmClsOk Z a0) CT) (hK : mmTabOk CT l Z a0 y.cls y.name rm K) (ws : List Jvm.Cond) {fuel n0 ds : Nat} {as : List Value} {H H' : MHeap} {v : Option Value} {h0 : Heap}
    (hrun : mmBody K I ret maxL fuel as H = some (v, H', ds)) (rel : mmRel CT Z n0 h0 H) (hc : H'.length ≤ H.length + rm.cells) (hs : ds ≤ rm.slots) :
    MetFree l y (head1 (Jvm.Cond.code y bytes maxL ret :: ws) rm) (fun a U => a = (mmUV n0 as).toArray ∧ Z.Warmed39 U.vm ∧ U.heap = h0) (fun _ _ _ _ _ => True)
      (fun _ U o U' => ∃ w L, o = .returned w ∧ (w = v.map (mmUp n0) ∧ Fr n0 L ∧ mmRel CT Z n0 U'.heap H') ∧ FrameEnd U o U' L rm.cells rm.slots) := by
  refine MetFree.of_bodySF hpl hisR ?_
  intro p e s m args below meth c s₁ Bd hml0 hP hK0
  obtain ⟨rfl, hZ, hh⟩ := hP
  have hby := Bd.bytes
  have hown : s.vm.findClass y.cls = some m.cls := findClass_of_methodNamed Bd.named
  have hnm := (name_of_methodNamed Bd.named Bd.method).1
  have X0 : Stand p l e rm s m (mmUV n0 as).toArray below meth c s₁ [] 0 0 := Stand.of_body Bd
  have e0 : s₁.heap = h0 := by rw [← hh, Bd.state]; rfl
  unfold mmBody at hrun
  split at hrun
  · rename_i hlen
    obtain ⟨T', locs, cells, fs, r1, r2, r3, r4, r5, r6, r7, r8⟩ := mmRun_ok (own := y.cls) (name := y.name) (n0 := n0) (hl0 := H.length) Bd.exec hZ hown hnm Bd.returns Bd.notSynchronized hCT hK (by rw [hh]; exact rel.1) (fun pc i h => by rw [hby]; exact hI pc i h) hrun (hlen.trans hml0.symm) ⟨[], 0, X0, Nat.zero_add _, Fr.nil n0, by rw [e0]; exact rel⟩ hc hs
    refine ⟨_, _, ?_, r5, r6, _, locs, rfl, ⟨rfl, r2, r3⟩, ⟨_, rfl⟩, r7, r8.mono (by omega) hs⟩
    exact castTop (mmEntry_up n0 maxL m as) r4
  · cases hrun
/-- what is known of a callee: it makes no cell vanish, and its runs are walks -/
def mmGood (CT : List MCls) (l : Launch) (Z : State) (y : MethodName) (bytes : ByteArray) (maxL : Nat) (ret : Option FieldType) (fr lo : Nat) (K : MKall) : Prop :=
  mmKMono K ∧ ∀ {n0 : Nat} {h0 : Heap} {H H' : MHeap} {as : List Value} {v : Option Value} {ds : Nat}, K as H = some (v, H', ds) → mmRel CT Z n0 h0 H →
    MetFree l y (head1 [Jvm.Cond.code y bytes maxL ret] { frames := fr, cells := H'.length - H.length, slots := ds, locals := lo }) (fun a U => a = (mmUV n0 as).toArray ∧ Z.Warmed39 U.vm ∧ U.heap = h0) (fun _ _ _ _ _ => True)
      (fun _ U o U' => ∃ w L, o = .returned w ∧ (w = v.map (mmUp n0) ∧ Fr n0 L ∧ mmRel CT Z n0 U'.heap H') ∧ FrameEnd U o U' L (H'.length - H.length) ds)
theorem mmGood_of {CT : List MCls} {l : Launch} {Z : State} {a0 : Array Value} {y : MethodName} {bytes : ByteArray} {maxL : Nat} {ret : Option FieldType} {fr lo : Nat} {K : MTab} {I : Nat → Option Instr} (fuel : Nat) (hpl : plainFor y = true) (hI : ∀ pc i, I pc = some i → decode bytes pc = .ok (i, mmLen i))
    (hCT : mmAll (mmClsOk Z a0) CT) (hK : ∀ ce sl : Nat, mmTabOk CT l Z a0 y.cls y.name { frames := fr, cells := ce, slots := sl, locals := lo } K) : mmGood CT l Z y bytes maxL ret fr lo (mmBody K I ret maxL fuel) :=
  ⟨mmBody_mono (mmTabOk_mono (hK 0 0)), fun {n0 h0 H H' as v ds} h rel => by
    have mn := mmBody_mono (mmTabOk_mono (hK 0 0)) _ _ _ _ _ h
    exact mmMet hpl hI hCT (hK (H'.length - H.length) ds) [] h rel (by show H'.length ≤ H.length + (H'.length - H.length); omega) (Nat.le_refl _)⟩
theorem mmGood_sub {CT : List MCls} {l : Launch} {Z : State} {y : MethodName} {bytes : ByteArray} {maxL : Nat} {ret : Option FieldType} {fr lo : Nat} {K K' : MKall} (h : ∀ as H r, K' as H = some r → K as H = some r) (G : mmGood CT l Z y bytes maxL ret fr lo K) : mmGood CT l Z y bytes maxL ret fr lo K' :=
  ⟨fun as H v H' ds q => G.1 as H v H' ds (h _ _ _ q), fun q rel => G.2 (h _ _ _ q) rel⟩
section MMCalls
variable {CT : List MCls} {l : Launch} {Z : State} {a0 : Array Value} {own : String} {R : Room} {y : MethodName} {bytes : ByteArray} {maxL : Nat} {ret : Option FieldType} {fr lo na W idx : Nat} {K : MKall}
theorem mmCallS (w1 : (Cond.methodLink own idx y).before a0 Z = true) (w2 : (Cond.static y).before a0 Z = true) (w3 : (Cond.initialized y.cls).before a0 Z = true) (w4 : (Cond.code y bytes maxL ret).before a0 Z = true)
    (hy : y.cls ≠ "java/lang/invoke/MethodHandle" ∧ y.cls ≠ "java/lang/invoke/VarHandle") (G : mmGood CT l Z y bytes maxL ret fr lo K) (hf : fr + 1 ≤ R.frames) (hl : W + (maxL + 11) + lo ≤ R.locals) {ps : List FieldType} {rt : Option FieldType} (hn : parseMethodDescriptor y.desc = some ⟨ps, rt⟩) (hna : na = ps.length) :
    mmCallOk CT l Z own R (.invokestatic idx) (na, none, W, K) := by
  refine ⟨G.1, ?_⟩
  intro p e s m args below meth c T locs cells slots n0 pc H H' Ls as r v ds X hx hZ hown rel hLs hd has hrc hcat hK hce hsl
  obtain ⟨_, _, ⟨T1, L1, k1, j1⟩, -, X1, ⟨Lc, ⟨q1, q2, q3⟩, l1, y1, z1⟩, st⟩ := Jvm.LawKit.callS X hx (y := y) hown (mvT hZ w1) (mvT hZ w2) (mvT hZ w3) (mvT hZ w4) hy
    (backOf (W := W) (Q := fun w hp L => w = v.map (mmUp n0) ∧ Fr n0 L ∧ mmRel CT Z n0 hp H') (G.2 (h0 := T.heap) hK rel) hZ w4 w3 hf hl)
    (g := mkF m pc Ls (mmUV n0 (as.reverse ++ r))) rfl hLs (argsL := mmUV n0 as) (rest := mmUV n0 r) (lenOf hn (by simp; exact has.trans hna)) (by simp [mmUV]) (by rw [mmCat_up]; show 2 * 0 + mmCat r ≤ W; rw [Nat.mul_zero, Nat.zero_add]; exact hcat) hd (fun _ _ => ⟨rfl, rfl, hce, hsl⟩)
  dsimp only [Pt.U, Pt.locs, Pt.cells, Pt.slots] at X1 l1 y1 z1 st q3
  subst l1 y1 z1
  refine ⟨T1, Lc, X1, q3, q2, fun target hr => st target ?_⟩
  subst q1
  have e1 : mmUV n0 (v.toList ++ r) = (v.map (mmUp n0)).toList ++ mmUV n0 r := by cases v <;> simp [mmUV]
  rw [e1] at hr
  exact hr
theorem mmCallV {k n : Nat} {fs : List MFld} {C : String} (hk : CT[k]? = some (C, n, fs)) (w1 : (Cond.methodLink own idx y).before a0 Z = true) (w2 : (Cond.declares y).before a0 Z = true) (w5 : (Cond.selects C y y).before a0 Z = true) (w6 : (Cond.instanceMethod y).before a0 Z = true) (w3 : (Cond.initialized y.cls).before a0 Z = true) (w4 : (Cond.code y bytes maxL ret).before a0 Z = true)
    (hy : y.cls ≠ "java/lang/invoke/MethodHandle" ∧ y.cls ≠ "java/lang/invoke/VarHandle") (G : mmGood CT l Z y bytes maxL ret fr lo K) (hf : fr + 1 ≤ R.frames) (hl : W + (maxL + 11) + lo ≤ R.locals) {ps : List FieldType} {rt : Option FieldType} (hn : parseMethodDescriptor y.desc = some ⟨ps, rt⟩) (hna : na = ps.length + 1) :
    mmCallOk CT l Z own R (.invokevirtual idx) (na, some k, W, K) := by
  refine ⟨G.1, ?_⟩
  intro p e s m args below meth c T locs cells slots n0 pc H H' Ls as r v ds X hx hZ hown rel hLs hd has hrc hcat hK hce hsl
  obtain ⟨a, as', vs, rfl, hH⟩ : ∃ (a : Nat) (as' vs : List Value), as = .ref a :: as' ∧ H[a]? = some (.inl (k, vs)) := by
    unfold mmRecv at hrc
    dsimp only at hrc
    split at hrc
    · rename_i a as'
      split at hrc
      · rename_i k' vs hq
        rw [mmNth_eq] at hq
        simp only [beq_iff_eq] at hrc
        subst hrc
        exact ⟨a, as', vs, rfl, hq⟩
      · cases hrc
    · cases hrc
  obtain ⟨C', n', fs', r1, E, -, -⟩ := rel.2 a _ hH
  cases hk.symm.trans r1
  obtain ⟨cq, kq, qa, qb, qc⟩ := isOf hZ rfl E
  obtain ⟨_, _, ⟨T1, L1, k1, j1⟩, -, X1, ⟨Lc, ⟨q1, q2, q3⟩, l1, y1, z1⟩, st⟩ := X.virtualBack hx (y := y) (z := y) hown (mvT hZ w1) (mvT hZ w2) (notFace_of_selects (args := #[]) (mvT hZ w5)) (mvT hZ w5) (mvT hZ w6) hy
    (backOf (W := W) (Q := fun w hp L => w = v.map (mmUp n0) ∧ Fr n0 L ∧ mmRel CT Z n0 hp H') (G.2 (h0 := T.heap) hK rel) hZ w4 w3 hf hl) qa qc
    (g := mkF m pc Ls (mmUV n0 ((.ref a :: as').reverse ++ r))) rfl hLs (Steps.refl _) (argsL := mmUV n0 as') (rest := mmUV n0 r) (lenOf hn (by simp at has ⊢; omega)) (by simp [mmUV, mmUp]) (by rw [mmCat_up]; show 2 * 0 + mmCat r ≤ W; rw [Nat.mul_zero, Nat.zero_add]; exact hcat) hd (fun _ _ => ⟨rfl, rfl, hce, hsl⟩)
  dsimp only [Pt.U, Pt.locs, Pt.cells, Pt.slots] at X1 l1 y1 z1 st q3
  subst l1 y1 z1
  refine ⟨T1, Lc, X1, q3, q2, fun target hr => st.trans ?_⟩
  subst q1
  have e1 : mmUV n0 (v.toList ++ r) = (v.map (mmUp n0)).toList ++ mmUV n0 r := by cases v <;> simp [mmUV]
  rw [e1] at hr
  exact hr
theorem mmCallP {k n : Nat} {fs : List MFld} (hk : CT[k]? = some (y.cls, n, fs)) (hcls : mmClsOk Z a0 (y.cls, n, fs)) (w1 : (Cond.methodLink own idx y).before a0 Z = true) (w6 : (Cond.instanceMethod y).before a0 Z = true) (w7 : (Cond.privateMethod y).before a0 Z = true) (w3 : (Cond.initialized y.cls).before a0 Z = true) (w4 : (Cond.code y bytes maxL ret).before a0 Z = true)
    (hy : y.cls ≠ "java/lang/invoke/MethodHandle" ∧ y.cls ≠ "java/lang/invoke/VarHandle") (G : mmGood CT l Z y bytes maxL ret fr lo K) (hf : fr + 1 ≤ R.frames) (hl : W + (maxL + 11) + lo ≤ R.locals) {ps : List FieldType} {rt : Option FieldType} (hn : parseMethodDescriptor y.desc = some ⟨ps, rt⟩) (hna : na = ps.length + 1) :
    mmCallOk CT l Z own R (.invokevirtual idx) (na, some k, W, K) := by
  refine ⟨G.1, ?_⟩
  intro p e s m args below meth c T locs cells slots n0 pc H H' Ls as r v ds X hx hZ hown rel hLs hd has hrc hcat hK hce hsl
  obtain ⟨a, as', vs, rfl, hH⟩ : ∃ (a : Nat) (as' vs : List Value), as = .ref a :: as' ∧ H[a]? = some (.inl (k, vs)) := by
    unfold mmRecv at hrc
    dsimp only at hrc
    split at hrc
    · rename_i a as'
      split at hrc
      · rename_i k' vs hq
        rw [mmNth_eq] at hq
        simp only [beq_iff_eq] at hrc
        subst hrc
        exact ⟨a, as', vs, rfl, hq⟩
      · cases hrc
    · cases hrc
  obtain ⟨C', n', fs', r1, E, -, -⟩ := rel.2 a _ hH
  cases hk.symm.trans r1
  obtain ⟨cq, qa, qb⟩ := E.cell
  have hpriv : s.PrivateAt y := Cond.privateMethod_at (mvP hZ w7 (args := #[]))
  have hsel : (Cond.selects y.cls y y).before args s = true := by
    obtain ⟨c2, k2, i1, i2, -, i4, -⟩ := Cond.instantiable_spec (mvT (args := args) hZ hcls.1)
    exact selects_self_of_private i1 i2 (by simp only [Bool.or_eq_false_iff] at i4; exact i4.1) hpriv (mvT hZ w6) hy
  obtain ⟨_, _, ⟨T1, L1, k1, j1⟩, -, X1, ⟨Lc, ⟨q1, q2, q3⟩, l1, y1, z1⟩, st⟩ := X.privateBack hx (y := y) hown (mvT hZ w1) (mvT hZ w6) hsel hpriv (mvT hZ w4) hy
    (backOf (W := W) (Q := fun w hp L => w = v.map (mmUp n0) ∧ Fr n0 L ∧ mmRel CT Z n0 hp H') (G.2 (h0 := T.heap) hK rel) hZ w4 w3 hf hl)
    (g := mkF m pc Ls (mmUV n0 ((.ref a :: as').reverse ++ r))) rfl hLs (Steps.refl _) (a := n0 + a) qa qb (argsL := mmUV n0 as') (rest := mmUV n0 r) (lenOf hn (by simp at has ⊢; omega)) (by simp [mmUV, mmUp]) (by rw [mmCat_up]; show 2 * 0 + mmCat r ≤ W; rw [Nat.mul_zero, Nat.zero_add]; exact hcat) hd (fun _ _ => ⟨rfl, rfl, hce, hsl⟩)
  dsimp only [Pt.U, Pt.locs, Pt.cells, Pt.slots] at X1 l1 y1 z1 st q3
  subst l1 y1 z1
  refine ⟨T1, Lc, X1, q3, q2, fun target hr => st.trans ?_⟩
  subst q1
  have e1 : mmUV n0 (v.toList ++ r) = (v.map (mmUp n0)).toList ++ mmUV n0 r := by cases v <;> simp [mmUV]
  rw [e1] at hr
  exact hr
theorem mmCallI (hy1 : y.name = "<init>") (w1 : (Cond.methodLink own idx y).before a0 Z = true) (w6 : (Cond.instanceMethod y).before a0 Z = true) (w3 : (Cond.initialized y.cls).before a0 Z = true) (w4 : (Cond.code y bytes maxL none).before a0 Z = true)
    (hy : y.cls ≠ "java/lang/invoke/MethodHandle" ∧ y.cls ≠ "java/lang/invoke/VarHandle") {k : Nat} (G : mmGood CT l Z y bytes maxL none fr lo K) (hf : fr + 1 ≤ R.frames) (hl : W + (maxL + 11) + lo ≤ R.locals) {ps : List FieldType} {rt : Option FieldType} (hn : parseMethodDescriptor y.desc = some ⟨ps, rt⟩) (hna : na = ps.length + 1) :
    mmCallOk CT l Z own R (.invokespecial idx) (na, some k, W, K) := by
  refine ⟨G.1, ?_⟩
  intro p e s m args below meth c T locs cells slots n0 pc H H' Ls as r v ds X hx hZ hown rel hLs hd has hrc hcat hK hce hsl
  obtain ⟨a, as', rfl⟩ : ∃ (a : Nat) (as' : List Value), as = .ref a :: as' := by
    unfold mmRecv at hrc
    dsimp only at hrc
    split at hrc
    · exact ⟨_, _, rfl⟩
    · cases hrc
  obtain ⟨_, _, ⟨T1, L1, k1, j1⟩, -, X1, ⟨Lc, ⟨q1, q2, q3⟩, l1, y1, z1⟩, st⟩ := X.specialBack hx (y := y) hy1 hown (mvT hZ w1) (mvT hZ w6) (mvT hZ w4) hy
    (backOf (W := W) (Q := fun w hp L => w = v.map (mmUp n0) ∧ Fr n0 L ∧ mmRel CT Z n0 hp H') (G.2 (h0 := T.heap) hK rel) hZ w4 w3 hf hl)
    (g := mkF m pc Ls (mmUV n0 ((.ref a :: as').reverse ++ r))) rfl hLs (Steps.refl _) (a := n0 + a) (argsL := mmUV n0 as') (rest := mmUV n0 r) (lenOf hn (by simp at has ⊢; omega)) (by simp [mmUV, mmUp]) (by rw [mmCat_up]; show 2 * 0 + mmCat r ≤ W; rw [Nat.mul_zero, Nat.zero_add]; exact hcat) hd (fun _ _ => ⟨rfl, rfl, hce, hsl⟩)
  dsimp only [Pt.U, Pt.locs, Pt.cells, Pt.slots] at X1 l1 y1 z1 st q3
  subst l1 y1 z1
  refine ⟨T1, Lc, X1, q3, q2, fun target hr => st.trans ?_⟩
  subst q1
  have e1 : mmUV n0 (v.toList ++ r) = (v.map (mmUp n0)).toList ++ mmUV n0 r := by cases v <;> simp [mmUV]
  rw [e1] at hr
  exact hr
end MMCalls

/-! ### the table of a body's instructions -/
def mmCut (N : Nat) (t : Nat → Option Instr) (pc : Nat) : Option Instr := bif Nat.blt pc N then t pc else none
theorem mmCut_ok {bytes : ByteArray} {N : Nat} {t : Nat → Option Instr} (h : mmChk bytes (mmCut N t) N = true) : ∀ pc i, mmCut N t pc = some i → decode bytes pc = .ok (i, mmLen i) := fun pc i hi => by
  by_cases q : pc < N
  · exact mmChk_ok h pc i q hi
  · have e : Nat.blt pc N = false := by rw [Bool.eq_false_iff]; intro z; exact q (Nat.blt_eq.mp z)
    unfold mmCut at hi
    rw [e] at hi
    cases hi

/-! ### walking the small machine -/
def mmStep1 (K : MTab) (I : Nat → Option Instr) (ret : Option FieldType) (pc : Nat) (L : List Slot) (S : List Value) (H : MHeap) (sl : Nat) : Option MSt :=
  match I pc with
  | none => none
  | some i => (match mmRet ret i S with | some _ => none | none => mmStep K i pc L S H sl)
def mmStepN (K : MTab) (I : Nat → Option Instr) (ret : Option FieldType) : Nat → Nat → List Slot → List Value → MHeap → Nat → Option MSt
  | 0, pc, L, S, H, sl => some (pc, L, S, H, sl)
  | k + 1, pc, L, S, H, sl => (match mmStep1 K I ret pc L S H sl with | some (pc', L', S', H', sl') => mmStepN K I ret k pc' L' S' H' sl' | none => none)
theorem mmRun_eq {K : MTab} {I : Nat → Option Instr} {ret : Option FieldType} (n pc : Nat) (L : List Slot) (S : List Value) (H : MHeap) (sl : Nat) : mmRun K I ret (n + 1) pc L S H sl = (match I pc with
    | none => none
    | some i => (match mmRet ret i S with
      | some v => some (v, H, sl)
      | none => (match mmStep K i pc L S H sl with
        | some (pc', L', S', H', sl') => mmRun K I ret n pc' L' S' H' sl'
        | none => none))) := rfl
theorem mmRun_step1 {K : MTab} {I : Nat → Option Instr} {ret : Option FieldType} {n pc sl pc' sl' : Nat} {L L' : List Slot} {S S' : List Value} {H H' : MHeap} (h : mmStep1 K I ret pc L S H sl = some (pc', L', S', H', sl')) : mmRun K I ret (n + 1) pc L S H sl = mmRun K I ret n pc' L' S' H' sl' := by
  rw [mmRun_eq]
  unfold mmStep1 at h
  cases hi : I pc with
  | none => rw [hi] at h; cases h
  | some i =>
    rw [hi] at h
    dsimp only at h ⊢
    cases hr : mmRet ret i S with
    | some v => rw [hr] at h; cases h
    | none =>
      rw [hr] at h
      dsimp only at h ⊢
      rw [h]
theorem mmRun_steps {K : MTab} {I : Nat → Option Instr} {ret : Option FieldType} {n : Nat} : ∀ {k pc sl pc' sl' : Nat} {L L' : List Slot} {S S' : List Value} {H H' : MHeap}, mmStepN K I ret k pc L S H sl = some (pc', L', S', H', sl') → mmRun K I ret (n + k) pc L S H sl = mmRun K I ret n pc' L' S' H' sl'
  | 0, _, _, _, _, _, _, _, _, _, _, h => by cases h; rfl
  | k + 1, pc, sl, pc', sl', L, L', S, S', H, H', h => by
    unfold mmStepN at h
    split at h
    · rename_i h1
      rw [← Nat.add_assoc, mmRun_step1 h1]
      exact mmRun_steps h
    · cases h
/-- it ends, and so -/
def mmW (K : MTab) (I : Nat → Option Instr) (ret : Option FieldType) (n pc : Nat) (L : List Slot) (S : List Value) (H : MHeap) (sl : Nat) (Q : Option Value → MHeap → Nat → Prop) : Prop := ∃ v H' ds, mmRun K I ret n pc L S H sl = some (v, H', ds) ∧ Q v H' ds
theorem mmW_steps {K : MTab} {I : Nat → Option Instr} {ret : Option FieldType} {Q : Option Value → MHeap → Nat → Prop} {n k pc sl pc' sl' : Nat} {L L' : List Slot} {S S' : List Value} {H H' : MHeap} (h : mmStepN K I ret k pc L S H sl = some (pc', L', S', H', sl')) (w : mmW K I ret n pc' L' S' H' sl' Q) : mmW K I ret (n + k) pc L S H sl Q := by
  obtain ⟨v, H1, ds, h1, h2⟩ := w
  exact ⟨v, H1, ds, (mmRun_steps h).trans h1, h2⟩
theorem mmW_ret {K : MTab} {I : Nat → Option Instr} {ret : Option FieldType} {Q : Option Value → MHeap → Nat → Prop} {n pc sl : Nat} {L : List Slot} {S : List Value} {H : MHeap} {i : Instr} {v : Option Value} (h1 : I pc = some i) (h2 : mmRet ret i S = some v) (q : Q v H sl) : mmW K I ret (n + 1) pc L S H sl Q :=
  ⟨v, H, sl, by rw [mmRun_eq, h1]; dsimp only; rw [h2], q⟩
theorem mmRun_more {K : MTab} {I : Nat → Option Instr} {ret : Option FieldType} : ∀ {n pc sl : Nat} {L : List Slot} {S : List Value} {H : MHeap} {r : Option Value × MHeap × Nat}, mmRun K I ret n pc L S H sl = some r → mmRun K I ret (n + 1) pc L S H sl = some r
  | 0, _, _, _, _, _, _, h => nomatch h
  | n + 1, pc, sl, L, S, H, r, h => by
    rw [mmRun_eq] at h
    rw [mmRun_eq]
    cases hi : I pc with
    | none => rw [hi] at h; cases h
    | some i =>
      rw [hi] at h
      dsimp only at h ⊢
      cases hv : mmRet ret i S with
      | some v => rw [hv] at h; exact h
      | none =>
        rw [hv] at h
        dsimp only at h ⊢
        cases hs : mmStep K i pc L S H sl with
        | none => rw [hs] at h; cases h
        | some q =>
          obtain ⟨pc', L', S', H', sl'⟩ := q
          rw [hs] at h
          exact mmRun_more h
theorem mmW_more {K : MTab} {I : Nat → Option Instr} {ret : Option FieldType} {Q : Option Value → MHeap → Nat → Prop} {n pc sl : Nat} {L : List Slot} {S : List Value} {H : MHeap} (w : mmW K I ret n pc L S H sl Q) : ∀ d, mmW K I ret (n + d) pc L S H sl Q
  | 0 => w
  | d + 1 => by
    obtain ⟨v, H1, ds, h1, h2⟩ := mmW_more w d
    exact ⟨v, H1, ds, mmRun_more h1, h2⟩
theorem mmW_le {K : MTab} {I : Nat → Option Instr} {ret : Option FieldType} {Q : Option Value → MHeap → Nat → Prop} {n n' pc sl : Nat} {L : List Slot} {S : List Value} {H : MHeap} (hn : n ≤ n') (w : mmW K I ret n pc L S H sl Q) : mmW K I ret n' pc L S H sl Q := by
  obtain ⟨d, rfl⟩ := Nat.exists_eq_add_of_le hn
  exact mmW_more w d
theorem mmW_t {K : MTab} {I : Nat → Option Instr} {ret : Option FieldType} {Q : Option Value → MHeap → Nat → Prop} {n t f sl : Nat} {L : List Slot} {S : List Value} {H : MHeap} {c : Bool} (hc : c = true) (w : mmW K I ret n t L S H sl Q) : mmW K I ret n (if c = true then t else f) L S H sl Q := by rw [if_pos hc]; exact w
theorem mmW_f {K : MTab} {I : Nat → Option Instr} {ret : Option FieldType} {Q : Option Value → MHeap → Nat → Prop} {n t f sl : Nat} {L : List Slot} {S : List Value} {H : MHeap} {c : Bool} (hc : c = false) (w : mmW K I ret n f L S H sl Q) : mmW K I ret n (if c = true then t else f) L S H sl Q := by rw [hc, if_neg (by decide)]; exact w
/-- what the law's run must show -/
def mmLawQ (C D : Nat) (v : Option Value) (H : MHeap) (ds : Nat) : Prop := v = some (.int 1) ∧ H.length ≤ C ∧ ds ≤ D
theorem mmLaw_of {K : MTab} {I : Nat → Option Instr} {maxL fuel C D : Nat} {as : List Value} (hl : (mmEntry as maxL).length = maxL) (w : mmW K I (some .boolean) fuel 0 (mmEntry as maxL) [] [] 0 (mmLawQ C D)) : ∃ H' ds, mmBody K I (some .boolean) maxL fuel as [] = some (some (.int 1), H', ds) ∧ H'.length ≤ C ∧ ds ≤ D := by
  obtain ⟨v, H', ds, h1, rfl, h3, h4⟩ := w
  exact ⟨H', ds, by unfold mmBody; rw [if_pos hl]; exact h1, h3, h4⟩
theorem mmW_step1 {K : MTab} {I : Nat → Option Instr} {ret : Option FieldType} {Q : Option Value → MHeap → Nat → Prop} {n pc sl pc' sl' : Nat} {L L' : List Slot} {S S' : List Value} {H H' : MHeap} (h : mmStep1 K I ret pc L S H sl = some (pc', L', S', H', sl')) (w : mmW K I ret n pc' L' S' H' sl' Q) : mmW K I ret (n + 1) pc L S H sl Q := by
  obtain ⟨v, H1, ds, h1, h2⟩ := w
  exact ⟨v, H1, ds, (mmRun_step1 h).trans h1, h2⟩
theorem mmCall_at {kl : List (Nat × MCall)} {idx pc sl na W ds : Nat} {rc : Option Nat} {F : MKall} {L : List Slot} {S as r : List Value} {H H' : MHeap} {v : Option Value} (h1 : mmLook kl idx = some (na, rc, W, F)) (h2 : mmPop na S [] = some (as, r)) (h3 : mmRecv rc as H = true) (h4 : mmCat r ≤ W) (h5 : F as H = some (v, H', ds)) :
    mmCall kl idx pc L S H sl = some (pc + 3, L, v.toList ++ r, H', sl + ds) := by
  unfold mmCall
  rw [h1]; dsimp only
  rw [h2]; dsimp only
  rw [if_pos ⟨h3, h4⟩, h5]
theorem mmW_callS {K : MTab} {I : Nat → Option Instr} {ret : Option FieldType} {Q : Option Value → MHeap → Nat → Prop} {n idx pc sl na W ds : Nat} {rc : Option Nat} {F : MKall} {L : List Slot} {S as r : List Value} {H H' : MHeap} {v : Option Value} (h0 : I pc = some (.invokestatic idx)) (h1 : mmLook K.2.2.2.2.2.2.1 idx = some (na, rc, W, F)) (h2 : mmPop na S [] = some (as, r)) (h3 : mmRecv rc as H = true) (h4 : mmCat r ≤ W) (h5 : F as H = some (v, H', ds))
    (w : mmW K I ret n (pc + 3) L (v.toList ++ r) H' (sl + ds) Q) : mmW K I ret (n + 1) pc L S H sl Q := by
  refine mmW_step1 ?_ w
  unfold mmStep1
  rw [h0]
  exact mmCall_at h1 h2 h3 h4 h5
theorem mmW_callV {K : MTab} {I : Nat → Option Instr} {ret : Option FieldType} {Q : Option Value → MHeap → Nat → Prop} {n idx pc sl na W ds : Nat} {rc : Option Nat} {F : MKall} {L : List Slot} {S as r : List Value} {H H' : MHeap} {v : Option Value} (h0 : I pc = some (.invokevirtual idx)) (h1 : mmLook K.2.2.2.2.2.2.2.1 idx = some (na, rc, W, F)) (h2 : mmPop na S [] = some (as, r)) (h3 : mmRecv rc as H = true) (h4 : mmCat r ≤ W) (h5 : F as H = some (v, H', ds))
    (w : mmW K I ret n (pc + 3) L (v.toList ++ r) H' (sl + ds) Q) : mmW K I ret (n + 1) pc L S H sl Q := by
  refine mmW_step1 ?_ w
  unfold mmStep1
  rw [h0]
  exact mmCall_at h1 h2 h3 h4 h5
theorem mmW_callI {K : MTab} {I : Nat → Option Instr} {ret : Option FieldType} {Q : Option Value → MHeap → Nat → Prop} {n idx pc sl na W ds : Nat} {rc : Option Nat} {F : MKall} {L : List Slot} {S as r : List Value} {H H' : MHeap} {v : Option Value} (h0 : I pc = some (.invokespecial idx)) (h1' : mmLook K.2.2.2.2.2.1 idx = none) (h1 : mmLook K.2.2.2.2.2.2.2.2 idx = some (na, rc, W, F)) (h2 : mmPop na S [] = some (as, r)) (h3 : mmRecv rc as H = true) (h4 : mmCat r ≤ W) (h5 : F as H = some (v, H', ds))
    (w : mmW K I ret n (pc + 3) L (v.toList ++ r) H' (sl + ds) Q) : mmW K I ret (n + 1) pc L S H sl Q := by
  refine mmW_step1 ?_ w
  unfold mmStep1
  rw [h0]
  show (match mmLook K.2.2.2.2.2.1 idx with | some W => (match S with | .ref _ :: r => if mmCat r ≤ W then some (pc + 3, L, r, H, sl) else none | _ => none) | none => mmCall K.2.2.2.2.2.2.2.2 idx pc L S H sl) = _
  rw [h1']
  exact mmCall_at h1 h2 h3 h4 h5
theorem mmB_of {K : MTab} {I : Nat → Option Instr} {ret : Option FieldType} {maxL fuel d0 : Nat} {as : List Value} {H H0 : MHeap} {v0 : Option Value} (hl : (mmEntry as maxL).length = maxL) (w : mmW K I ret fuel 0 (mmEntry as maxL) [] H 0 (fun v H' ds => v = v0 ∧ H' = H0 ∧ ds = d0)) : mmBody K I ret maxL fuel as H = some (v0, H0, d0) := by
  obtain ⟨v, H', ds, h1, rfl, rfl, rfl⟩ := w
  unfold mmBody
  rw [if_pos hl]; exact h1
def mmOkB (r : Option (Option Value × MHeap × Nat)) (C D : Nat) : Bool :=
  match r with
  | some (some (.int v), H, ds) => decide (v = 1) && Nat.ble H.length C && Nat.ble ds D
  | _ => false
theorem mmW_of_okB {K : MTab} {I : Nat → Option Instr} {ret : Option FieldType} {n pc sl C D : Nat} {L : List Slot} {S : List Value} {H : MHeap} (h : mmOkB (mmRun K I ret n pc L S H sl) C D = true) : mmW K I ret n pc L S H sl (mmLawQ C D) := by
  unfold mmOkB at h
  split at h
  · rename_i v H' ds hr
    simp only [Bool.and_eq_true, decide_eq_true_eq] at h
    obtain ⟨⟨h1, h2⟩, h3⟩ := h
    subst h1
    exact ⟨_, H', ds, hr, rfl, Nat.le_of_ble_eq_true h2, Nat.le_of_ble_eq_true h3⟩
  · cases h
theorem mmW_newA {K : MTab} {I : Nat → Option Instr} {ret : Option FieldType} {Q : Option Value → MHeap → Nat → Prop} {n pc sl : Nat} {L : List Slot} {r : List Value} {H : MHeap} {t : ArrayType} {z : Int32} (h0 : I pc = some (.newarray t)) (h1 : mmHasTy K.2.2.2.2.1 t = true) (h2 : ¬ z < 0) (h3 : z.toNatClampNeg ≤ 67108864)
    (w : mmW K I ret n (pc + 2) L (.ref H.length :: r) (H ++ [.inr (newarray.typeOf t, List.replicate z.toNatClampNeg (defaultValue (newarray.typeOf t)))]) (sl + z.toNatClampNeg) Q) : mmW K I ret (n + 1) pc L (.int z :: r) H sl Q := by
  refine mmW_step1 ?_ w
  unfold mmStep1
  rw [h0]
  exact if_pos ⟨h1, h2, h3⟩
theorem mmW_iaload {K : MTab} {I : Nat → Option Instr} {ret : Option FieldType} {Q : Option Value → MHeap → Nat → Prop} {n pc sl a : Nat} {L : List Slot} {r vs : List Value} {H : MHeap} {j : Int32} {v : Value} (h0 : I pc = some .iaload) (h1 : mmNth H a = some (.inr (.int, vs))) (h2 : ¬ j < 0) (h3 : mmNth vs j.toNatClampNeg = some v) (w : mmW K I ret n (pc + 1) L (v :: r) H sl Q) : mmW K I ret (n + 1) pc L (.int j :: .ref a :: r) H sl Q := by
  refine mmW_step1 ?_ w
  unfold mmStep1
  rw [h0]
  show mmALd .int pc L (.int j :: .ref a :: r) H sl = _
  unfold mmALd; dsimp only
  rw [h1]; dsimp only
  rw [if_pos ⟨rfl, h2⟩, h3]
theorem mmW_laload {K : MTab} {I : Nat → Option Instr} {ret : Option FieldType} {Q : Option Value → MHeap → Nat → Prop} {n pc sl a : Nat} {L : List Slot} {r vs : List Value} {H : MHeap} {j : Int32} {v : Value} (h0 : I pc = some .laload) (h1 : mmNth H a = some (.inr (.long, vs))) (h2 : ¬ j < 0) (h3 : mmNth vs j.toNatClampNeg = some v) (w : mmW K I ret n (pc + 1) L (v :: r) H sl Q) : mmW K I ret (n + 1) pc L (.int j :: .ref a :: r) H sl Q := by
  refine mmW_step1 ?_ w
  unfold mmStep1
  rw [h0]
  show mmALd .long pc L (.int j :: .ref a :: r) H sl = _
  unfold mmALd; dsimp only
  rw [h1]; dsimp only
  rw [if_pos ⟨rfl, h2⟩, h3]
theorem mmW_caload {K : MTab} {I : Nat → Option Instr} {ret : Option FieldType} {Q : Option Value → MHeap → Nat → Prop} {n pc sl a : Nat} {L : List Slot} {r vs : List Value} {H : MHeap} {j : Int32} {v : Value} (h0 : I pc = some .caload) (h1 : mmNth H a = some (.inr (.char, vs))) (h2 : ¬ j < 0) (h3 : mmNth vs j.toNatClampNeg = some v) (w : mmW K I ret n (pc + 1) L (v :: r) H sl Q) : mmW K I ret (n + 1) pc L (.int j :: .ref a :: r) H sl Q := by
  refine mmW_step1 ?_ w
  unfold mmStep1
  rw [h0]
  show mmALd .char pc L (.int j :: .ref a :: r) H sl = _
  unfold mmALd; dsimp only
  rw [h1]; dsimp only
  rw [if_pos ⟨rfl, h2⟩, h3]
theorem mmW_baload {K : MTab} {I : Nat → Option Instr} {ret : Option FieldType} {Q : Option Value → MHeap → Nat → Prop} {n pc sl a : Nat} {L : List Slot} {r vs : List Value} {H : MHeap} {j : Int32} {v : Value} (h0 : I pc = some .baload) (h1 : mmNth H a = some (.inr (.byte, vs))) (h2 : ¬ j < 0) (h3 : mmNth vs j.toNatClampNeg = some v) (w : mmW K I ret n (pc + 1) L (v :: r) H sl Q) : mmW K I ret (n + 1) pc L (.int j :: .ref a :: r) H sl Q := by
  refine mmW_step1 ?_ w
  unfold mmStep1
  rw [h0]
  show mmALd .byte pc L (.int j :: .ref a :: r) H sl = _
  unfold mmALd; dsimp only
  rw [h1]; dsimp only
  rw [if_pos ⟨rfl, h2⟩, h3]
theorem mmW_iastore {K : MTab} {I : Nat → Option Instr} {ret : Option FieldType} {Q : Option Value → MHeap → Nat → Prop} {n pc sl a : Nat} {L : List Slot} {r vs : List Value} {H : MHeap} {j : Int32} {x : Int32} (h0 : I pc = some .iastore) (h1 : mmNth H a = some (.inr (.int, vs))) (h2 : ¬ j < 0) (h3 : j.toNatClampNeg < vs.length) (w : mmW K I ret n (pc + 1) L r (H.set a (.inr (.int, vs.set j.toNatClampNeg (.int x)))) sl Q) : mmW K I ret (n + 1) pc L (.int x :: .int j :: .ref a :: r) H sl Q := by
  refine mmW_step1 ?_ w
  unfold mmStep1
  rw [h0]
  show mmASt .int (.int x) j a r pc L H sl = _
  unfold mmASt
  rw [h1]; dsimp only
  rw [if_pos ⟨rfl, h2, h3⟩]
theorem mmW_lastore {K : MTab} {I : Nat → Option Instr} {ret : Option FieldType} {Q : Option Value → MHeap → Nat → Prop} {n pc sl a : Nat} {L : List Slot} {r vs : List Value} {H : MHeap} {j : Int32} {x : Int64} (h0 : I pc = some .lastore) (h1 : mmNth H a = some (.inr (.long, vs))) (h2 : ¬ j < 0) (h3 : j.toNatClampNeg < vs.length) (w : mmW K I ret n (pc + 1) L r (H.set a (.inr (.long, vs.set j.toNatClampNeg (.long x)))) sl Q) : mmW K I ret (n + 1) pc L (.long x :: .int j :: .ref a :: r) H sl Q := by
  refine mmW_step1 ?_ w
  unfold mmStep1
  rw [h0]
  show mmASt .long (.long x) j a r pc L H sl = _
  unfold mmASt
  rw [h1]; dsimp only
  rw [if_pos ⟨rfl, h2, h3⟩]
theorem mmW_castore {K : MTab} {I : Nat → Option Instr} {ret : Option FieldType} {Q : Option Value → MHeap → Nat → Prop} {n pc sl a : Nat} {L : List Slot} {r vs : List Value} {H : MHeap} {j : Int32} {x : Int32} (h0 : I pc = some .castore) (h1 : mmNth H a = some (.inr (.char, vs))) (h2 : ¬ j < 0) (h3 : j.toNatClampNeg < vs.length) (w : mmW K I ret n (pc + 1) L r (H.set a (.inr (.char, vs.set j.toNatClampNeg (.int (nar .char x))))) sl Q) : mmW K I ret (n + 1) pc L (.int x :: .int j :: .ref a :: r) H sl Q := by
  refine mmW_step1 ?_ w
  unfold mmStep1
  rw [h0]
  show mmASt .char (.int (nar .char x)) j a r pc L H sl = _
  unfold mmASt
  rw [h1]; dsimp only
  rw [if_pos ⟨rfl, h2, h3⟩]
theorem mmW_bastore {K : MTab} {I : Nat → Option Instr} {ret : Option FieldType} {Q : Option Value → MHeap → Nat → Prop} {n pc sl a : Nat} {L : List Slot} {r vs : List Value} {H : MHeap} {j : Int32} {x : Int32} (h0 : I pc = some .bastore) (h1 : mmNth H a = some (.inr (.byte, vs))) (h2 : ¬ j < 0) (h3 : j.toNatClampNeg < vs.length) (w : mmW K I ret n (pc + 1) L r (H.set a (.inr (.byte, vs.set j.toNatClampNeg (.int (nar .byte x))))) sl Q) : mmW K I ret (n + 1) pc L (.int x :: .int j :: .ref a :: r) H sl Q := by
  refine mmW_step1 ?_ w
  unfold mmStep1
  rw [h0]
  show mmASt .byte (.int (nar .byte x)) j a r pc L H sl = _
  unfold mmASt
  rw [h1]; dsimp only
  rw [if_pos ⟨rfl, h2, h3⟩]
theorem mmW_lrem {K : MTab} {I : Nat → Option Instr} {ret : Option FieldType} {Q : Option Value → MHeap → Nat → Prop} {n pc sl : Nat} {L : List Slot} {r : List Value} {H : MHeap} {x y : Int64} (h0 : I pc = some .lrem) (h1 : ¬ y = 0) (w : mmW K I ret n (pc + 1) L (.long (x % y) :: r) H sl Q) : mmW K I ret (n + 1) pc L (.long y :: .long x :: r) H sl Q := by
  refine mmW_step1 ?_ w
  unfold mmStep1
  rw [h0]
  show (match mmJJz (fun x y => x % y) pc L (.long y :: .long x :: r) with | some (pc', L', S') => some (pc', L', S', H, sl) | none => none) = _
  unfold mmJJz; dsimp only
  rw [if_neg h1]
theorem mmW_irem {K : MTab} {I : Nat → Option Instr} {ret : Option FieldType} {Q : Option Value → MHeap → Nat → Prop} {n pc sl : Nat} {L : List Slot} {r : List Value} {H : MHeap} {x y : Int32} (h0 : I pc = some .irem) (h1 : ¬ y = 0) (w : mmW K I ret n (pc + 1) L (.int (x % y) :: r) H sl Q) : mmW K I ret (n + 1) pc L (.int y :: .int x :: r) H sl Q := by
  refine mmW_step1 ?_ w
  unfold mmStep1
  rw [h0]
  show (match mmIIz (fun x y => x % y) pc L (.int y :: .int x :: r) with | some (pc', L', S') => some (pc', L', S', H, sl) | none => none) = _
  unfold mmIIz; dsimp only
  rw [if_neg h1]
theorem mmW_idiv {K : MTab} {I : Nat → Option Instr} {ret : Option FieldType} {Q : Option Value → MHeap → Nat → Prop} {n pc sl : Nat} {L : List Slot} {r : List Value} {H : MHeap} {x y : Int32} (h0 : I pc = some .idiv) (h1 : ¬ y = 0) (w : mmW K I ret n (pc + 1) L (.int (x / y) :: r) H sl Q) : mmW K I ret (n + 1) pc L (.int y :: .int x :: r) H sl Q := by
  refine mmW_step1 ?_ w
  unfold mmStep1
  rw [h0]
  show (match mmIIz (fun x y => x / y) pc L (.int y :: .int x :: r) with | some (pc', L', S') => some (pc', L', S', H, sl) | none => none) = _
  unfold mmIIz; dsimp only
  rw [if_neg h1]

/-! ### locals that nobody reads any more may be forgotten -/
def mmLeS (a b : Slot) : Prop := a = b ∨ (a = .unset ∧ ∃ w : Value, b = .val w ∧ w.category = 1)
def mmLe : List Slot → List Slot → Prop
  | [], [] => True
  | a :: r, b :: r' => mmLeS a b ∧ mmLe r r'
  | _, _ => False
theorem mmLe_len : ∀ {L M : List Slot}, mmLe L M → L.length = M.length
  | [], [], _ => rfl
  | [], _ :: _, h => h.elim
  | _ :: _, [], h => h.elim
  | _ :: r, _ :: r', h => by simp [mmLe_len (L := r) (M := r') h.2]
theorem mmLe_nth : ∀ {L M : List Slot} {k : Nat} {a : Slot}, mmLe L M → mmNth L k = some a → ∃ b, mmNth M k = some b ∧ mmLeS a b
  | [], [], _, _, _, h => nomatch h
  | [], _ :: _, _, _, h, _ => h.elim
  | _ :: _, [], _, _, h, _ => h.elim
  | x :: r, y :: r', 0, a, h, q => by cases q; exact ⟨y, rfl, h.1⟩
  | x :: r, y :: r', k + 1, a, h, q => mmLe_nth (L := r) (M := r') h.2 q
theorem mmLe_set : ∀ {L M : List Slot} (k : Nat) (x : Slot), mmLe L M → mmLe (L.set k x) (M.set k x)
  | [], [], _, _, _ => trivial
  | [], _ :: _, _, _, h => h.elim
  | _ :: _, [], _, _, h => h.elim
  | a :: r, b :: r', 0, x, h => ⟨Or.inl rfl, h.2⟩
  | a :: r, b :: r', k + 1, x, h => ⟨h.1, mmLe_set k x h.2⟩
theorem mmLe_setAt {L M L' : List Slot} {k : Nat} {x : Slot} (h : mmLe L M) (q : mmSetAt L k x = some L') : ∃ M', mmSetAt M k x = some M' ∧ mmLe L' M' := by
  unfold mmSetAt at q ⊢
  split at q
  · rename_i hk; cases q
    rw [if_pos (by rw [← mmLe_len h]; exact hk)]
    exact ⟨_, rfl, mmLe_set k x h⟩
  · cases q
theorem mmLe_self {L M L' : List Slot} {k : Nat} {v : Value} (h : mmLe L M) (q : mmSelf L k v = some L') : ∃ M', mmSelf M k v = some M' ∧ mmLe L' M' := by
  unfold mmSelf at q
  unfold mmSelf
  split at q
  · cases q
  rename_i l1 h1
  obtain ⟨m1, e1, g1⟩ := mmLe_setAt h h1
  rw [e1]; dsimp only
  split at q
  · rename_i hc
    rw [if_pos hc]
    split at q
    · cases q
    · rename_i old hn
      obtain ⟨b, hb, hle⟩ := mmLe_nth g1 hn
      rcases hle with rfl | ⟨hu, -⟩
      · rw [hb]; dsimp only
        split at q
        · rename_i ho; rw [if_pos ho]
          split at q
          · cases q
          · rename_i l2 h2
            obtain ⟨m2, e2, g2⟩ := mmLe_setAt g1 h2
            rw [e2]; exact mmLe_setAt g2 q
        · rename_i ho; rw [if_neg ho]; exact mmLe_setAt g1 q
      · cases hu
    · rename_i y hy hn
      obtain ⟨b, hb, hle⟩ := mmLe_nth g1 hn
      rcases hle with rfl | ⟨rfl, w, rfl, hw⟩
      · rw [hb]
        cases y with
        | val w => exact absurd rfl (hy w)
        | unset => exact mmLe_setAt g1 q
        | second => exact mmLe_setAt g1 q
      · rw [hb]; dsimp only
        rw [if_neg (by omega)]; exact mmLe_setAt g1 q
  · rename_i hc
    rw [if_neg hc]; cases q; exact ⟨m1, rfl, g1⟩
theorem mmLe_store {L M L' : List Slot} {k : Nat} {v : Value} (h : mmLe L M) (q : mmStore L k v = some L') : ∃ M', mmStore M k v = some M' ∧ mmLe L' M' := by
  unfold mmStore at q
  unfold mmStore
  split at q
  · cases q
  · rename_i hn
    obtain ⟨b, hb, hle⟩ := mmLe_nth h hn
    rcases hle with rfl | ⟨hu, -⟩
    · rw [hb]; dsimp only
      split at q
      · cases q
      · rename_i l1 h1
        obtain ⟨m1, e1, g1⟩ := mmLe_setAt h h1
        rw [e1]; exact mmLe_self g1 q
    · cases hu
  · rename_i old hn
    obtain ⟨b, hb, hle⟩ := mmLe_nth h hn
    rcases hle with rfl | ⟨hu, -⟩
    · rw [hb]; dsimp only
      split at q
      · rename_i ho; rw [if_pos ho]
        split at q
        · cases q
        · rename_i l1 h1
          obtain ⟨m1, e1, g1⟩ := mmLe_setAt h h1
          rw [e1]; exact mmLe_self g1 q
      · rename_i ho; rw [if_neg ho]; exact mmLe_self h q
    · cases hu
  · rename_i hn
    obtain ⟨b, hb, hle⟩ := mmLe_nth h hn
    rcases hle with rfl | ⟨-, w, rfl, hw⟩
    · rw [hb]; exact mmLe_self h q
    · rw [hb]; dsimp only
      rw [if_neg (by omega)]; exact mmLe_self h q
theorem mmLe_val {L M : List Slot} {k : Nat} {v : Value} (h : mmLe L M) (q : mmNth L k = some (.val v)) : mmNth M k = some (.val v) := by
  obtain ⟨b, hb, rfl | ⟨hu, -⟩⟩ := mmLe_nth h q
  · exact hb
  · cases hu
theorem mmLdI_at {d k pc : Nat} {L : List Slot} {S : List Value} {x : Int32} (h : mmNth L k = some (.val (.int x))) : mmLdI d k pc L S = some (pc + d, L, .int x :: S) := by unfold mmLdI; rw [h]
theorem mmLdJ_at {d k pc : Nat} {L : List Slot} {S : List Value} {x : Int64} (h : mmNth L k = some (.val (.long x))) : mmLdJ d k pc L S = some (pc + d, L, .long x :: S) := by unfold mmLdJ; rw [h]
theorem mmLdA_at {d k pc : Nat} {L : List Slot} {S : List Value} {v : Value} (hv : v.isRef = true) (h : mmNth L k = some (.val v)) : mmLdA d k pc L S = some (pc + d, L, v :: S) := by
  unfold mmLdA; rw [h]; rcases ref_cases hv with rfl | ⟨a, rfl⟩ <;> rfl
theorem mmStI_at {d k pc : Nat} {L L' : List Slot} {S : List Value} {x : Int32} (h : mmStore L k (.int x) = some L') : mmStI d k pc L (.int x :: S) = some (pc + d, L', S) := by unfold mmStI; dsimp only; rw [h]
theorem mmStJ_at {d k pc : Nat} {L L' : List Slot} {S : List Value} {x : Int64} (h : mmStore L k (.long x) = some L') : mmStJ d k pc L (.long x :: S) = some (pc + d, L', S) := by unfold mmStJ; dsimp only; rw [h]
theorem mmStA_at {d k pc : Nat} {L L' : List Slot} {S : List Value} {v : Value} (hv : v.isRef = true) (h : mmStore L k v = some L') : mmStA d k pc L (v :: S) = some (pc + d, L', S) := by
  unfold mmStA; rcases ref_cases hv with rfl | ⟨a, rfl⟩ <;> (dsimp only; rw [h])
theorem mmIIz_at {f : Int32 → Int32 → Int32} {pc : Nat} {L : List Slot} {S : List Value} {x y : Int32} (h : y ≠ 0) : mmIIz f pc L (.int y :: .int x :: S) = some (pc + 1, L, .int (f x y) :: S) := by unfold mmIIz; dsimp only; rw [if_neg h]
theorem mmJJz_at {f : Int64 → Int64 → Int64} {pc : Nat} {L : List Slot} {S : List Value} {x y : Int64} (h : y ≠ 0) : mmJJz f pc L (.long y :: .long x :: S) = some (pc + 1, L, .long (f x y) :: S) := by unfold mmJJz; dsimp only; rw [if_neg h]
set_option maxHeartbeats 4000000 in
theorem mmLe_pure {i : Instr} {pc pc' : Nat} {L M L' : List Slot} {S S' : List Value} (h : mmLe L M) (q : mmPure i pc L S = some (pc', L', S')) : ∃ M', mmPure i pc M S = some (pc', M', S') ∧ mmLe L' M' := by
  unfold mmPure at q
  split at q
  all_goals first
    | (obtain ⟨x, hn, rfl, rfl, rfl⟩ := mmLdI_inv q; exact ⟨M, mmLdI_at (mmLe_val h hn), h⟩)
    | (obtain ⟨x, hn, rfl, rfl, rfl⟩ := mmLdJ_inv q; exact ⟨M, mmLdJ_at (mmLe_val h hn), h⟩)
    | (obtain ⟨v, hv, hn, rfl, rfl, rfl⟩ := mmLdA_inv q; exact ⟨M, mmLdA_at hv (mmLe_val h hn), h⟩)
    | (obtain ⟨x, rfl, hs, rfl⟩ := mmStI_inv q; obtain ⟨M', e, g⟩ := mmLe_store h hs; exact ⟨M', mmStI_at e, g⟩)
    | (obtain ⟨x, rfl, hs, rfl⟩ := mmStJ_inv q; obtain ⟨M', e, g⟩ := mmLe_store h hs; exact ⟨M', mmStJ_at e, g⟩)
    | (obtain ⟨v, hv, rfl, hs, rfl⟩ := mmStA_inv q; obtain ⟨M', e, g⟩ := mmLe_store h hs; exact ⟨M', mmStA_at hv e, g⟩)
    | (obtain ⟨x, y, r, rfl, rfl, rfl, rfl⟩ := mmII_inv q; exact ⟨M, rfl, h⟩)
    | (obtain ⟨x, y, r, rfl, hy, rfl, rfl, rfl⟩ := mmIIz_inv q; exact ⟨M, mmIIz_at hy, h⟩)
    | (obtain ⟨x, y, r, rfl, rfl, rfl, rfl⟩ := mmJJ_inv q; exact ⟨M, rfl, h⟩)
    | (obtain ⟨x, y, r, rfl, hy, rfl, rfl, rfl⟩ := mmJJz_inv q; exact ⟨M, mmJJz_at hy, h⟩)
    | (obtain ⟨x, y, r, rfl, rfl, rfl, rfl⟩ := mmJI_inv q; exact ⟨M, rfl, h⟩)
    | (obtain ⟨x, r, rfl, rfl, rfl, rfl⟩ := mmI_inv q; exact ⟨M, rfl, h⟩)
    | (obtain ⟨x, r, rfl, rfl, rfl, rfl⟩ := mmJ_inv q; exact ⟨M, rfl, h⟩)
    | (cases q; exact ⟨M, rfl, h⟩)
    | skip
  · split at q
    · cases q; exact ⟨M, rfl, h⟩
    · cases q
  · split at q
    · rename_i k n _ x hn
      split at q
      · rename_i L1 hs; cases q
        obtain ⟨M', e, g⟩ := mmLe_store h hs
        refine ⟨M', ?_, g⟩
        show (match mmNth M k with | some (.val (.int x)) => (match mmStore M k (.int (x + Int32.ofInt n)) with | some L' => some (pc + 3, L', S) | none => none) | _ => none) = _
        rw [mmLe_val h hn]; dsimp only; rw [e]
      · cases q
    · cases q
  · split at q
    · rename_i ho; cases q; exact ⟨M, if_pos ho, h⟩
    · cases q
  · split at q
    · split at q
      · rename_i ho; cases q; exact ⟨M, if_pos ho, h⟩
      · cases q
    · cases q
  · split at q
    · split at q
      · rename_i ho; cases q; exact ⟨M, if_pos ho, h⟩
      · cases q
    · cases q
  · split at q
    · split at q
      · rename_i ho; cases q; exact ⟨M, if_pos ho, h⟩
      · cases q
    · cases q
  · split at q
    · split at q
      · rename_i hc; cases q; exact ⟨M, if_pos hc, h⟩
      · cases q
    · cases q
  · split at q
    · split at q
      · rename_i hc; cases q; exact ⟨M, if_pos hc, h⟩
      · cases q
    · cases q
  · split at q
    · cases q; exact ⟨M, rfl, h⟩
    · split at q
      · rename_i x y r hno hc; cases q
        refine ⟨M, ?_, h⟩
        cases x with
        | long z => exact absurd rfl (hno z)
        | _ => exact if_pos hc
      · cases q
    · cases q
  · split at q
    · split at q
      · rename_i hc; cases q; exact ⟨M, if_pos hc, h⟩
      · cases q
    · cases q
  · split at q
    · cases q; exact ⟨M, rfl, h⟩
    · cases q
  · cases q
theorem mmLe_call {kl : List (Nat × MCall)} {idx pc sl pc' sl' : Nat} {L M L' : List Slot} {S S' : List Value} {H H' : MHeap} (h : mmLe L M) (q : mmCall kl idx pc L S H sl = some (pc', L', S', H', sl')) : ∃ M', mmCall kl idx pc M S H sl = some (pc', M', S', H', sl') ∧ mmLe L' M' := by
  unfold mmCall at q
  split at q
  · rename_i na rc W K hk
    split at q
    · rename_i as r hp
      split at q
      · rename_i hrc
        split at q
        · rename_i v H1 ds hK
          cases q
          exact ⟨M, mmCall_at hk hp hrc.1 hrc.2 hK, h⟩
        · cases q
      · cases q
    · cases q
  · cases q
theorem mmLe_ald {t : FieldType} {pc sl pc' sl' : Nat} {L M L' : List Slot} {S S' : List Value} {H H' : MHeap} (h : mmLe L M) (q : mmALd t pc L S H sl = some (pc', L', S', H', sl')) : ∃ M', mmALd t pc M S H sl = some (pc', M', S', H', sl') ∧ mmLe L' M' := by
  unfold mmALd at q
  split at q
  · split at q
    · rename_i hn
      split at q
      · rename_i hc
        split at q
        · rename_i hv
          cases q
          refine ⟨M, ?_, h⟩
          unfold mmALd; dsimp only
          rw [hn]; dsimp only
          rw [if_pos hc, hv]
        · cases q
      · cases q
    · cases q
  · cases q
theorem mmLe_ast {t : FieldType} {w : Value} {j : Int32} {a : Nat} {r : List Value} {pc sl pc' sl' : Nat} {L M L' : List Slot} {S' : List Value} {H H' : MHeap} (h : mmLe L M) (q : mmASt t w j a r pc L H sl = some (pc', L', S', H', sl')) : ∃ M', mmASt t w j a r pc M H sl = some (pc', M', S', H', sl') ∧ mmLe L' M' := by
  unfold mmASt at q
  split at q
  · rename_i hn
    split at q
    · rename_i hc
      cases q
      refine ⟨M, ?_, h⟩
      unfold mmASt
      rw [hn]; dsimp only
      rw [if_pos hc]
    · cases q
  · cases q
theorem mmLe_step {K : MTab} {i : Instr} {pc sl pc' sl' : Nat} {L M L' : List Slot} {S S' : List Value} {H H' : MHeap} (h : mmLe L M) (q : mmStep K i pc L S H sl = some (pc', L', S', H', sl')) : ∃ M', mmStep K i pc M S H sl = some (pc', M', S', H', sl') ∧ mmLe L' M' := by
  unfold mmStep at q
  split at q
  · split at q
    · rename_i hk; cases q; refine ⟨M, ?_, h⟩; simp only [mmStep, hk]
    · cases q
  · split at q
    · rename_i hk; cases q; refine ⟨M, ?_, h⟩; simp only [mmStep, hk]
    · cases q
  · unfold mmGetF at q
    repeat' split at q
    all_goals first | (cases q; done) | (cases q; refine ⟨M, ?_, h⟩; simp only [mmStep, mmGetF, *, if_true])
  · unfold mmPutF at q
    repeat' split at q
    all_goals first | (cases q; done) | (cases q; refine ⟨M, ?_, h⟩; simp only [mmStep, mmPutF, *, and_self, if_true])
  · split at q
    · rename_i hk; cases q; refine ⟨M, ?_, h⟩; simp only [mmStep, hk]
    · cases q
  · split at q
    · split at q
      · rename_i hk; cases q; exact ⟨M, if_pos hk, h⟩
      · cases q
    · cases q
  · split at q
    · split at q
      · rename_i hk; cases q; refine ⟨M, ?_, h⟩; simp only [mmStep, hk]
      · cases q
    · cases q
  · exact mmLe_ald h q
  · exact mmLe_ald h q
  · exact mmLe_ald h q
  · exact mmLe_ald h q
  · split at q
    · exact mmLe_ast h q
    · cases q
  · split at q
    · exact mmLe_ast h q
    · cases q
  · split at q
    · exact mmLe_ast h q
    · cases q
  · split at q
    · exact mmLe_ast h q
    · cases q
  · exact mmLe_call h q
  · exact mmLe_call h q
  · split at q
    · rename_i hk
      split at q
      · split at q
        · rename_i hc; cases q; refine ⟨M, ?_, h⟩; simp only [mmStep, hk]; exact if_pos hc
        · cases q
      · cases q
    · rename_i hk
      obtain ⟨M', e, g⟩ := mmLe_call h q
      refine ⟨M', ?_, g⟩
      simp only [mmStep, hk]; exact e
  · split at q
    · rename_i hp
      cases q
      obtain ⟨M', e, g⟩ := mmLe_pure h hp
      refine ⟨M', ?_, g⟩
      unfold mmStep
      split
      all_goals first | (exfalso; simp_all; done) | (rw [e])
    · cases q
theorem mmLe_run {K : MTab} {I : Nat → Option Instr} {ret : Option FieldType} : ∀ {n pc sl : Nat} {L M : List Slot} {S : List Value} {H : MHeap} {r : Option Value × MHeap × Nat}, mmLe L M → mmRun K I ret n pc L S H sl = some r → mmRun K I ret n pc M S H sl = some r
  | 0, _, _, _, _, _, _, _, _, h => nomatch h
  | n + 1, pc, sl, L, M, S, H, r, hl, h => by
    rw [mmRun_eq] at h
    rw [mmRun_eq]
    cases hi : I pc with
    | none => rw [hi] at h; cases h
    | some i =>
      rw [hi] at h
      dsimp only at h ⊢
      cases hv : mmRet ret i S with
      | some v => rw [hv] at h; exact h
      | none =>
        rw [hv] at h
        dsimp only at h ⊢
        cases hs : mmStep K i pc L S H sl with
        | none => rw [hs] at h; cases h
        | some q =>
          obtain ⟨pc', L', S', H', sl'⟩ := q
          rw [hs] at h
          obtain ⟨M', e, g⟩ := mmLe_step hl hs
          rw [e]
          exact mmLe_run g h
theorem mmW_forget {K : MTab} {I : Nat → Option Instr} {ret : Option FieldType} {Q : Option Value → MHeap → Nat → Prop} {n pc sl : Nat} {L M : List Slot} {S : List Value} {H : MHeap} (hl : mmLe L M) (w : mmW K I ret n pc L S H sl Q) : mmW K I ret n pc M S H sl Q := by
  obtain ⟨v, H', ds, h1, h2⟩ := w
  exact ⟨v, H', ds, mmLe_run hl h1, h2⟩

/-! ## this claim's tables (printed by program) -/
def CT : List MCls := [("com/example/sutac/sutac/csv/InputNumbers$PlainDecimalReader", 2, [("com/example/sutac/sutac/csv/InputNumbers$PlainDecimalReader", "digits", "J", .long), ("com/example/sutac/sutac/csv/InputNumbers$PlainDecimalReader", "decimals", "I", .int)])]
theorem CT_ok (l : Launch) (Z : State) (a0 : Array Value) (hw : ∀ d ∈ tables_1, d.before a0 Z = true) : mmAll (mmClsOk Z a0) CT :=
  ⟨⟨(hw _ (List.mem_of_getElem? (i := 9) rfl)), (hw _ (List.mem_of_getElem? (i := 10) rfl)), ⟨⟨Or.inl (hw _ (List.mem_of_getElem? (i := 24) rfl)), by decide +kernel⟩, ⟨Or.inl (hw _ (List.mem_of_getElem? (i := 26) rfl)), by decide +kernel⟩, trivial⟩, by decide +kernel⟩, trivial⟩
/-! ### steps over a heap that isn't written out -/
theorem mmW_getF {K : MTab} {I : Nat → Option Instr} {ret : Option FieldType} {Q : Option Value → MHeap → Nat → Prop} {n pc sl idx a k j : Nat} {L : List Slot} {r vs : List Value} {H : MHeap} {v : Value} (h0 : I pc = some (.getfield idx)) (h1 : mmLook K.2.1 idx = some (k, j)) (h2 : mmNth H a = some (.inl (k, vs))) (h3 : mmNth vs j = some v) (w : mmW K I ret n (pc + 3) L (v :: r) H sl Q) : mmW K I ret (n + 1) pc L (.ref a :: r) H sl Q := by
  refine mmW_step1 ?_ w
  unfold mmStep1
  rw [h0]
  show mmGetF K.2.1 idx pc L (.ref a :: r) H sl = _
  unfold mmGetF; dsimp only
  rw [h1]; dsimp only
  rw [h2]; dsimp only
  rw [if_pos rfl, h3]
theorem mmW_putF {K : MTab} {I : Nat → Option Instr} {ret : Option FieldType} {Q : Option Value → MHeap → Nat → Prop} {n pc sl idx a k j : Nat} {ty : FieldType} {L : List Slot} {r vs : List Value} {H : MHeap} {v : Value} (h0 : I pc = some (.putfield idx)) (h1 : mmLook K.2.2.1 idx = some (k, j, ty)) (h2 : mmNth H a = some (.inl (k, vs))) (h3 : mmFits ty v = true) (w : mmW K I ret n (pc + 3) L r (H.set a (.inl (k, vs.set j v))) sl Q) : mmW K I ret (n + 1) pc L (v :: .ref a :: r) H sl Q := by
  refine mmW_step1 ?_ w
  unfold mmStep1
  rw [h0]
  show mmPutF K.2.2.1 idx pc L (v :: .ref a :: r) H sl = _
  unfold mmPutF; dsimp only
  rw [h1]; dsimp only
  rw [h2]; dsimp only
  rw [if_pos ⟨rfl, h3⟩]
theorem mmW_new {K : MTab} {I : Nat → Option Instr} {ret : Option FieldType} {Q : Option Value → MHeap → Nat → Prop} {n pc sl idx k m : Nat} {L : List Slot} {S ds : List Value} {H : MHeap} (h0 : I pc = some (.new idx)) (h1 : mmLook K.2.2.2.1 idx = some (k, m, ds)) (w : mmW K I ret n (pc + 3) L (.ref H.length :: S) (H ++ [.inl (k, ds)]) (sl + m) Q) : mmW K I ret (n + 1) pc L S H sl Q := by
  refine mmW_step1 ?_ w
  unfold mmStep1
  rw [h0]
  show (match mmLook K.2.2.2.1 idx with | some (k, n, ds) => (some (pc + 3, L, .ref H.length :: S, H ++ [Sum.inl (k, ds)], sl + n) : Option MSt) | none => none) = _
  rw [h1]
theorem mmW_ldiv {K : MTab} {I : Nat → Option Instr} {ret : Option FieldType} {Q : Option Value → MHeap → Nat → Prop} {n pc sl : Nat} {L : List Slot} {r : List Value} {H : MHeap} {x y : Int64} (h0 : I pc = some .ldiv) (h1 : ¬ y = 0) (w : mmW K I ret n (pc + 1) L (.long (x / y) :: r) H sl Q) : mmW K I ret (n + 1) pc L (.long y :: .long x :: r) H sl Q := by
  refine mmW_step1 ?_ w
  unfold mmStep1
  rw [h0]
  show (match mmJJz (fun x y => x / y) pc L (.long y :: .long x :: r) with | some (pc', L', S') => some (pc', L', S', H, sl) | none => none) = _
  unfold mmJJz; dsimp only
  rw [if_neg h1]
theorem mmNth_last {α : Type} (H : List α) (o : α) : mmNth (H ++ [o]) H.length = some o := by rw [mmNth_eq]; simp
theorem mmSet_last {α : Type} (H : List α) (o o' : α) : (H ++ [o]).set H.length o' = H ++ [o'] := by simp
theorem mmNth_app {α : Type} {H : List α} {a : Nat} {o : α} (G : List α) (h : mmNth H a = some o) : mmNth (H ++ G) a = some o := by
  rw [mmNth_eq] at h ⊢
  rw [List.getElem?_append_left (List.getElem?_eq_some_iff.mp h).1]; exact h
theorem mmNth_set {α : Type} {H : List α} {a : Nat} {o : α} (o' : α) (h : mmNth H a = some o) : mmNth (H.set a o') a = some o' := by
  rw [mmNth_eq] at h ⊢
  simp [(List.getElem?_eq_some_iff.mp h).1]
theorem mmNth_setne {α : Type} {H : List α} {a b : Nat} {o : α} (o' : α) (hne : a ≠ b) (h : mmNth H b = some o) : mmNth (H.set a o') b = some o := by
  rw [mmNth_eq] at h ⊢
  rw [List.getElem?_set_ne hne]; exact h
theorem mmRecv_of {H : MHeap} {a k : Nat} {vs as : List Value} (h : mmNth H a = some (.inl (k, vs))) : mmRecv (some k) (.ref a :: as) H = true := by
  unfold mmRecv; dsimp only
  rw [h]; simp
def own_l (n : Nat) (f : Nat → Int64) : List Value := (List.range n).map fun k => .long (f k)
theorem own_l_len (n : Nat) (f : Nat → Int64) : (own_l n f).length = n := by simp [own_l]
theorem own_l_nth {n k : Nat} (f : Nat → Int64) (h : k < n) : (own_l n f)[k]? = some (.long (f k)) := by simp [own_l, h]
theorem own_l_set (n k : Nat) (f : Nat → Int64) (y : Int64) : (own_l n f).set k (.long y) = own_l n (fun j => if j = k then y else f j) := by
  apply List.ext_getElem?
  intro j
  rw [List.getElem?_set]
  by_cases hj : j < n
  · have r1 := own_l_nth f hj
    have r2 := own_l_nth (fun j => if j = k then y else f j) hj
    rw [r1, r2, own_l_len]
    by_cases e : k = j
    · subst e; simp [hj]
    · have e' : ¬ j = k := fun z => e z.symm
      simp [e, e']
  · have r1 : (own_l n f)[j]? = none := by simp [own_l]; omega
    have r2 : (own_l n (fun j => if j = k then y else f j))[j]? = none := by simp [own_l]; omega
    rw [r1, r2, own_l_len]
    by_cases e : k = j
    · subst e; simp [hj]
    · simp [e]
theorem own_l_zero (n : Nat) : List.replicate n (Value.long 0) = own_l n (fun _ => 0) := by
  apply List.ext_getElem?
  intro j
  by_cases hj : j < n
  · rw [own_l_nth _ hj]; simp [hj]
  · rw [List.getElem?_eq_none_iff.mpr (by simp; omega), List.getElem?_eq_none_iff.mpr (by rw [own_l_len]; omega)]
theorem own_nn {q : Int32} {Q : Nat} (h : q.toInt = Q) : ¬ q < 0 ∧ q.toNatClampNeg = Q := by
  have z : (0 : Int32).toInt = 0 := rfl
  rw [Int32.lt_iff_toInt_lt, z, Int32.toNatClampNeg, h]; omega
theorem own_eqw {a b : Int32} {A B : Nat} (ha : a.toInt = A) (hb : b.toInt = B) : (a = b) = (A = B) := by
  apply propext
  constructor
  · intro e; rw [e, hb] at ha; omega
  · intro e; apply Int32.toInt_inj.mp; omega
def own_n (n : Nat) (f : Nat → Int32) : List Value := (List.range n).map fun k => .int (f k)
theorem own_n_len (n : Nat) (f : Nat → Int32) : (own_n n f).length = n := by simp [own_n]
theorem own_n_nth {n k : Nat} (f : Nat → Int32) (h : k < n) : (own_n n f)[k]? = some (.int (f k)) := by simp [own_n, h]
theorem own_n_set (n k : Nat) (f : Nat → Int32) (y : Int32) : (own_n n f).set k (.int y) = own_n n (fun j => if j = k then y else f j) := by
  apply List.ext_getElem?
  intro j
  rw [List.getElem?_set]
  by_cases hj : j < n
  · have r1 := own_n_nth f hj
    have r2 := own_n_nth (fun j => if j = k then y else f j) hj
    rw [r1, r2, own_n_len]
    by_cases e : k = j
    · subst e; simp [hj]
    · have e' : ¬ j = k := fun z => e z.symm
      simp [e, e']
  · have r1 : (own_n n f)[j]? = none := by simp [own_n]; omega
    have r2 : (own_n n (fun j => if j = k then y else f j))[j]? = none := by simp [own_n]; omega
    rw [r1, r2, own_n_len]
    by_cases e : k = j
    · subst e; simp [hj]
    · simp [e]
def own_p (E : Nat) : Int64 := Int64.ofNat (10 ^ E)
theorem own_pI {E : Nat} (h : E ≤ 18) : (own_p E).toInt = ((10 ^ E : Nat) : Int) := by
  have hb : 10 ^ E ≤ 10 ^ 18 := Nat.pow_le_pow_right (by decide) h
  unfold own_p
  rw [Int64.toInt_ofNat_of_lt]
  omega
theorem own_pz {E : Nat} (h : E ≤ 18) : ¬ own_p E = 0 := fun z => by
  have h1 := own_pI h
  rw [z] at h1
  have e : (0 : Int64).toInt = 0 := rfl
  have := Nat.pow_pos (n := E) (show 0 < 10 by decide)
  omega
theorem own_ptab : [.long 1, .long 10, .long 100, .long 1000, .long 10000, .long 100000, .long 1000000, .long 10000000, .long 100000000, .long 1000000000, .long 10000000000, .long 100000000000, .long 1000000000000, .long 10000000000000, .long 100000000000000, .long 1000000000000000, .long 10000000000000000, .long 100000000000000000, .long 1000000000000000000] = own_l 19 own_p := rfl
def own_P : MObj := .inr (.long, own_l 19 own_p)
theorem own_s17 {j : Int32} {J : Nat} (h : j.toInt = J) (hJ : J < 18) : ((17 : Int32) - j).toInt = ((17 - J : Nat) : Int) := by
  have e : (17 : Int32).toInt = 17 := rfl
  rw [Kit.i32_sub (by rw [e]; omega) (by rw [e]; omega), e, h]; omega
theorem own_s18 {j : Int32} {J : Nat} (h : j.toInt = J) (hJ : J ≤ 18) : ((18 : Int32) - j).toInt = ((18 - J : Nat) : Int) := by
  have e : (18 : Int32).toInt = 18 := rfl
  rw [Kit.i32_sub (by rw [e]; omega) (by rw [e]; omega), e, h]; omega
/-- a digit's number -/
theorem own_dv {n : Int64} {N : Nat} (h : n.toInt = N) : 0 ≤ (n % (10 : Int64)).toInt32.toInt ∧ (n % (10 : Int64)).toInt32.toInt ≤ 9 ∧ (n % (10 : Int64)).toInt32.toInt = ((N % 10 : Nat) : Int) := by
  have e : (10 : Int64).toInt = 10 := rfl
  have h1 : (n % (10 : Int64)).toInt = n.toInt % 10 := by
    rw [Int64.toInt_mod, e, h, Int.tmod_eq_emod_of_nonneg (by omega)]
  have h2 : (n % (10 : Int64)).toInt32.toInt = n.toInt % 10 := by rw [Kit.i32_of_i64 (by omega) (by omega), h1]
  omega
theorem own_div {n : Int64} {N E : Nat} (h : n.toInt = N) (hE : E ≤ 18) : (n / own_p E).toInt = ((N / 10 ^ E : Nat) : Int) := by
  have hp := own_pI hE
  have hb : 10 ^ E ≤ 10 ^ 18 := Nat.pow_le_pow_right (by decide) hE
  have hq := Nat.pow_pos (n := E) (show 0 < 10 by decide)
  rw [Kit.i64_div (by rw [hp]; omega), hp, h, Int.tdiv_eq_ediv_of_nonneg (by omega)]
  simp
theorem own_bb (x : Int32) : x.toInt8.toInt32.toInt8.toInt32 = x.toInt8.toInt32 := by simp
theorem own_by {x : Int32} (h1 : -128 ≤ x.toInt) (h2 : x.toInt < 128) : x.toInt8.toInt32 = x := by
  apply Int32.toInt_inj.mp
  rw [Int8.toInt_toInt32, Int32.toInt_toInt8, Int.bmod_def]
  omega
def own_d (NM J : Nat) (v : Int32) : Prop := 48 ≤ v.toInt ∧ v.toInt ≤ 57 ∧ (J < 18 → v.toInt = 48 + ((NM / 10 ^ (17 - J) % 10 : Nat) : Int))
theorem own_dok {NM J : Nat} {d : Int32} (h : 0 ≤ d.toInt ∧ d.toInt ≤ 9 ∧ (J < 18 → d.toInt = ((NM / 10 ^ (17 - J) % 10 : Nat) : Int))) : own_d NM J ((48 : Int32) + d).toInt8.toInt32.toInt8.toInt32 := by
  have e : (48 : Int32).toInt = 48 := rfl
  have h1 : ((48 : Int32) + d).toInt = 48 + d.toInt := by rw [Kit.i32_add (by rw [e]; omega) (by rw [e]; omega), e]
  rw [own_bb, own_by (by omega) (by omega)]
  refine ⟨by omega, by omega, fun q => ?_⟩
  rw [h1, h.2.2 q]
def own_ok0 (FR E0 NM : Nat) (t : Int32) (I : Nat) (v : Int32) : Prop := v.toInt8.toInt32 = v ∧ (I = E0 → v = t) ∧ (FR ≤ I → I < E0 → own_d NM (I - FR) v)
def own_ok1 (FR E0 NM A : Nat) (t : Int32) (I : Nat) (v : Int32) : Prop := v.toInt8.toInt32 = v ∧ (I = E0 → v = t) ∧ (FR ≤ I → I < E0 → (I - FR = A → v = 46) ∧ (I - FR < A → own_d NM (I - FR) v) ∧ (A < I - FR → own_d NM (I - FR - 1) v))
theorem own_lt {a b : Int32} {A B : Nat} (ha : a.toInt = A) (hb : b.toInt = B) : a < b ↔ A < B := by
  rw [Int32.lt_iff_toInt_lt, ha, hb]; omega
theorem own_sub {a b : Int32} {A B : Nat} (ha : a.toInt = A) (hb : b.toInt = B) (h : B ≤ A) (hA : A ≤ 1000) : (a - b).toInt = ((A - B : Nat) : Int) := by
  rw [Kit.i32_sub (by omega) (by omega), ha, hb]; omega
theorem own_add {a b : Int32} {A B : Nat} (ha : a.toInt = A) (hb : b.toInt = B) (hA : A ≤ 1000) (hB : B ≤ 1000) : (a + b).toInt = ((A + B : Nat) : Int) := by
  rw [Kit.i32_add (by omega) (by omega), ha, hb]; omega

/-- body 8: PlainDecimalReaderReadPinLaw.pow10 -/
def I_8 : Nat → Option Instr := mmCut 134 fun pc => (bif Nat.ble pc 62 then (bif Nat.ble pc 27 then (bif Nat.ble pc 13 then (bif Nat.ble pc 6 then (bif Nat.ble pc 2 then (bif Nat.ble pc 0 then (bif Nat.beq pc 0 then some (.bipush 19) else none) else (bif Nat.beq pc 2 then some (.newarray .long) else none)) else (bif Nat.ble pc 4 then (bif Nat.beq pc 4 then some (.dup) else none) else (bif Nat.ble pc 5 then (bif Nat.beq pc 5 then some (.iconst 0) else none) else (bif Nat.beq pc 6 then some (.lconst 1) else none)))) else (bif Nat.ble pc 8 then (bif Nat.ble pc 7 then (bif Nat.beq pc 7 then some (.lastore) else none) else (bif Nat.beq pc 8 then some (.dup) else none)) else (bif Nat.ble pc 9 then (bif Nat.beq pc 9 then some (.iconst 1) else none) else (bif Nat.ble pc 10 then (bif Nat.beq pc 10 then some (.ldc2_w 53) else none) else (bif Nat.beq pc 13 then some (.lastore) else none))))) else (bif Nat.ble pc 20 then (bif Nat.ble pc 15 then (bif Nat.ble pc 14 then (bif Nat.beq pc 14 then some (.dup) else none) else (bif Nat.beq pc 15 then some (.iconst 2) else none)) else (bif Nat.ble pc 16 then (bif Nat.beq pc 16 then some (.ldc2_w 55) else none) else (bif Nat.ble pc 19 then (bif Nat.beq pc 19 then some (.lastore) else none) else (bif Nat.beq pc 20 then some (.dup) else none)))) else (bif Nat.ble pc 22 then (bif Nat.ble pc 21 then (bif Nat.beq pc 21 then some (.iconst 3) else none) else (bif Nat.beq pc 22 then some (.ldc2_w 57) else none)) else (bif Nat.ble pc 25 then (bif Nat.beq pc 25 then some (.lastore) else none) else (bif Nat.ble pc 26 then (bif Nat.beq pc 26 then some (.dup) else none) else (bif Nat.beq pc 27 then some (.iconst 4) else none)))))) else (bif Nat.ble pc 44 then (bif Nat.ble pc 34 then (bif Nat.ble pc 31 then (bif Nat.ble pc 28 then (bif Nat.beq pc 28 then some (.ldc2_w 59) else none) else (bif Nat.beq pc 31 then some (.lastore) else none)) else (bif Nat.ble pc 32 then (bif Nat.beq pc 32 then some (.dup) else none) else (bif Nat.ble pc 33 then (bif Nat.beq pc 33 then some (.iconst 5) else none) else (bif Nat.beq pc 34 then some (.ldc2_w 61) else none)))) else (bif Nat.ble pc 38 then (bif Nat.ble pc 37 then (bif Nat.beq pc 37 then some (.lastore) else none) else (bif Nat.beq pc 38 then some (.dup) else none)) else (bif Nat.ble pc 39 then (bif Nat.beq pc 39 then some (.bipush 6) else none) else (bif Nat.ble pc 41 then (bif Nat.beq pc 41 then some (.ldc2_w 63) else none) else (bif Nat.beq pc 44 then some (.lastore) else none))))) else (bif Nat.ble pc 52 then (bif Nat.ble pc 46 then (bif Nat.ble pc 45 then (bif Nat.beq pc 45 then some (.dup) else none) else (bif Nat.beq pc 46 then some (.bipush 7) else none)) else (bif Nat.ble pc 48 then (bif Nat.beq pc 48 then some (.ldc2_w 65) else none) else (bif Nat.ble pc 51 then (bif Nat.beq pc 51 then some (.lastore) else none) else (bif Nat.beq pc 52 then some (.dup) else none)))) else (bif Nat.ble pc 58 then (bif Nat.ble pc 53 then (bif Nat.beq pc 53 then some (.bipush 8) else none) else (bif Nat.ble pc 55 then (bif Nat.beq pc 55 then some (.ldc2_w 67) else none) else (bif Nat.beq pc 58 then some (.lastore) else none))) else (bif Nat.ble pc 59 then (bif Nat.beq pc 59 then some (.dup) else none) else (bif Nat.ble pc 60 then (bif Nat.beq pc 60 then some (.bipush 9) else none) else (bif Nat.beq pc 62 then some (.ldc2_w 69) else none))))))) else (bif Nat.ble pc 100 then (bif Nat.ble pc 80 then (bif Nat.ble pc 72 then (bif Nat.ble pc 66 then (bif Nat.ble pc 65 then (bif Nat.beq pc 65 then some (.lastore) else none) else (bif Nat.beq pc 66 then some (.dup) else none)) else (bif Nat.ble pc 67 then (bif Nat.beq pc 67 then some (.bipush 10) else none) else (bif Nat.ble pc 69 then (bif Nat.beq pc 69 then some (.ldc2_w 71) else none) else (bif Nat.beq pc 72 then some (.lastore) else none)))) else (bif Nat.ble pc 74 then (bif Nat.ble pc 73 then (bif Nat.beq pc 73 then some (.dup) else none) else (bif Nat.beq pc 74 then some (.bipush 11) else none)) else (bif Nat.ble pc 76 then (bif Nat.beq pc 76 then some (.ldc2_w 73) else none) else (bif Nat.ble pc 79 then (bif Nat.beq pc 79 then some (.lastore) else none) else (bif Nat.beq pc 80 then some (.dup) else none))))) else (bif Nat.ble pc 88 then (bif Nat.ble pc 83 then (bif Nat.ble pc 81 then (bif Nat.beq pc 81 then some (.bipush 12) else none) else (bif Nat.beq pc 83 then some (.ldc2_w 75) else none)) else (bif Nat.ble pc 86 then (bif Nat.beq pc 86 then some (.lastore) else none) else (bif Nat.ble pc 87 then (bif Nat.beq pc 87 then some (.dup) else none) else (bif Nat.beq pc 88 then some (.bipush 13) else none)))) else (bif Nat.ble pc 94 then (bif Nat.ble pc 90 then (bif Nat.beq pc 90 then some (.ldc2_w 77) else none) else (bif Nat.ble pc 93 then (bif Nat.beq pc 93 then some (.lastore) else none) else (bif Nat.beq pc 94 then some (.dup) else none))) else (bif Nat.ble pc 95 then (bif Nat.beq pc 95 then some (.bipush 14) else none) else (bif Nat.ble pc 97 then (bif Nat.beq pc 97 then some (.ldc2_w 79) else none) else (bif Nat.beq pc 100 then some (.lastore) else none)))))) else (bif Nat.ble pc 116 then (bif Nat.ble pc 108 then (bif Nat.ble pc 102 then (bif Nat.ble pc 101 then (bif Nat.beq pc 101 then some (.dup) else none) else (bif Nat.beq pc 102 then some (.bipush 15) else none)) else (bif Nat.ble pc 104 then (bif Nat.beq pc 104 then some (.ldc2_w 81) else none) else (bif Nat.ble pc 107 then (bif Nat.beq pc 107 then some (.lastore) else none) else (bif Nat.beq pc 108 then some (.dup) else none)))) else (bif Nat.ble pc 111 then (bif Nat.ble pc 109 then (bif Nat.beq pc 109 then some (.bipush 16) else none) else (bif Nat.beq pc 111 then some (.ldc2_w 83) else none)) else (bif Nat.ble pc 114 then (bif Nat.beq pc 114 then some (.lastore) else none) else (bif Nat.ble pc 115 then (bif Nat.beq pc 115 then some (.dup) else none) else (bif Nat.beq pc 116 then some (.bipush 17) else none))))) else (bif Nat.ble pc 125 then (bif Nat.ble pc 121 then (bif Nat.ble pc 118 then (bif Nat.beq pc 118 then some (.ldc2_w 85) else none) else (bif Nat.beq pc 121 then some (.lastore) else none)) else (bif Nat.ble pc 122 then (bif Nat.beq pc 122 then some (.dup) else none) else (bif Nat.ble pc 123 then (bif Nat.beq pc 123 then some (.bipush 18) else none) else (bif Nat.beq pc 125 then some (.ldc2_w 12) else none)))) else (bif Nat.ble pc 130 then (bif Nat.ble pc 128 then (bif Nat.beq pc 128 then some (.lastore) else none) else (bif Nat.ble pc 129 then (bif Nat.beq pc 129 then some (.astore_n 1) else none) else (bif Nat.beq pc 130 then some (.aload_n 1) else none))) else (bif Nat.ble pc 131 then (bif Nat.beq pc 131 then some (.iload_n 0) else none) else (bif Nat.ble pc 132 then (bif Nat.beq pc 132 then some (.laload) else none) else (bif Nat.beq pc 133 then some (.lreturn) else none))))))))
def K_8 : MTab := ([(12, .long (1000000000000000000)), (53, .long (10)), (55, .long (100)), (57, .long (1000)), (59, .long (10000)), (61, .long (100000)), (63, .long (1000000)), (65, .long (10000000)), (67, .long (100000000)), (69, .long (1000000000)), (71, .long (10000000000)), (73, .long (100000000000)), (75, .long (1000000000000)), (77, .long (10000000000000)), (79, .long (100000000000000)), (81, .long (1000000000000000)), (83, .long (10000000000000000)), (85, .long (100000000000000000))], [], [], [], [.long], [], [], [], [])
abbrev B_8 : MKall := mmBody K_8 I_8 (some .long) 2 1000
theorem chk_8 : mmChk method_5_code I_8 134 = true := by decide +kernel
theorem hI_8 : ∀ pc i, I_8 pc = some i → decode method_5_code pc = .ok (i, mmLen i) := mmCut_ok chk_8
theorem pd_8 : parseMethodDescriptor "(I)J" = some ⟨[.int], some .long⟩ := by decide +kernel
theorem T_8 (l : Launch) (Z : State) (a0 : Array Value) (hw : ∀ d ∈ tables_1, d.before a0 Z = true) (ce sl : Nat) : mmTabOk CT l Z a0 "com/example/sutac/sutac/csv/PlainDecimalReaderReadPinLaw" "pow10" ({ frames := 0, cells := ce, slots := sl, locals := 0 } : Room) K_8 :=
  ⟨⟨⟨fun x h => (by cases h), fun x h => by cases h; exact (hw _ (List.mem_of_getElem? (i := 2) rfl))⟩, ⟨fun x h => (by cases h), fun x h => by cases h; exact (hw _ (List.mem_of_getElem? (i := 49) rfl))⟩, ⟨fun x h => (by cases h), fun x h => by cases h; exact (hw _ (List.mem_of_getElem? (i := 50) rfl))⟩, ⟨fun x h => (by cases h), fun x h => by cases h; exact (hw _ (List.mem_of_getElem? (i := 51) rfl))⟩, ⟨fun x h => (by cases h), fun x h => by cases h; exact (hw _ (List.mem_of_getElem? (i := 52) rfl))⟩, ⟨fun x h => (by cases h), fun x h => by cases h; exact (hw _ (List.mem_of_getElem? (i := 53) rfl))⟩, ⟨fun x h => (by cases h), fun x h => by cases h; exact (hw _ (List.mem_of_getElem? (i := 54) rfl))⟩, ⟨fun x h => (by cases h), fun x h => by cases h; exact (hw _ (List.mem_of_getElem? (i := 55) rfl))⟩, ⟨fun x h => (by cases h), fun x h => by cases h; exact (hw _ (List.mem_of_getElem? (i := 56) rfl))⟩, ⟨fun x h => (by cases h), fun x h => by cases h; exact (hw _ (List.mem_of_getElem? (i := 57) rfl))⟩, ⟨fun x h => (by cases h), fun x h => by cases h; exact (hw _ (List.mem_of_getElem? (i := 58) rfl))⟩, ⟨fun x h => (by cases h), fun x h => by cases h; exact (hw _ (List.mem_of_getElem? (i := 59) rfl))⟩, ⟨fun x h => (by cases h), fun x h => by cases h; exact (hw _ (List.mem_of_getElem? (i := 60) rfl))⟩, ⟨fun x h => (by cases h), fun x h => by cases h; exact (hw _ (List.mem_of_getElem? (i := 61) rfl))⟩, ⟨fun x h => (by cases h), fun x h => by cases h; exact (hw _ (List.mem_of_getElem? (i := 62) rfl))⟩, ⟨fun x h => (by cases h), fun x h => by cases h; exact (hw _ (List.mem_of_getElem? (i := 63) rfl))⟩, ⟨fun x h => (by cases h), fun x h => by cases h; exact (hw _ (List.mem_of_getElem? (i := 64) rfl))⟩, ⟨fun x h => (by cases h), fun x h => by cases h; exact (hw _ (List.mem_of_getElem? (i := 65) rfl))⟩, trivial⟩,
   trivial,
   trivial,
   trivial,
   ⟨(hw _ (List.mem_of_getElem? (i := 48) rfl)), trivial⟩,
   trivial,
   trivial,
   trivial,
   trivial⟩
theorem pl_8 : plainFor (⟨"com/example/sutac/sutac/csv/PlainDecimalReaderReadPinLaw", "pow10", "(I)J"⟩ : MethodName) = true := by first | exact plainFor_of_name (by first | (simp [plainName, overriddenIn]; done) | decide +kernel) | decide +kernel
theorem G_8 (l : Launch) (Z : State) (a0 : Array Value) (hw : ∀ d ∈ tables_1, d.before a0 Z = true) : mmGood CT l Z (⟨"com/example/sutac/sutac/csv/PlainDecimalReaderReadPinLaw", "pow10", "(I)J"⟩ : MethodName) method_5_code 2 (some .long) 0 0 B_8 := mmGood_of 1000 pl_8 hI_8 (CT_ok l Z a0 hw) (T_8 l Z a0 hw)
/-- body 7: PlainDecimalReaderReadPinLaw.digit -/
def I_7 : Nat → Option Instr := mmCut 31 fun pc => (bif Nat.ble pc 15 then (bif Nat.ble pc 7 then (bif Nat.ble pc 1 then (bif Nat.ble pc 0 then (bif Nat.beq pc 0 then some (.iload_n 0) else none) else (bif Nat.beq pc 1 then some (.bipush 18) else none)) else (bif Nat.ble pc 3 then (bif Nat.beq pc 3 then some (.if_icmp .ge 18) else none) else (bif Nat.ble pc 6 then (bif Nat.beq pc 6 then some (.lload_n 1) else none) else (bif Nat.beq pc 7 then some (.bipush 17) else none)))) else (bif Nat.ble pc 10 then (bif Nat.ble pc 9 then (bif Nat.beq pc 9 then some (.iload_n 0) else none) else (bif Nat.beq pc 10 then some (.isub) else none)) else (bif Nat.ble pc 11 then (bif Nat.beq pc 11 then some (.invokestatic 45) else none) else (bif Nat.ble pc 14 then (bif Nat.beq pc 14 then some (.ldiv) else none) else (bif Nat.beq pc 15 then some (.ldc2_w 53) else none))))) else (bif Nat.ble pc 22 then (bif Nat.ble pc 19 then (bif Nat.ble pc 18 then (bif Nat.beq pc 18 then some (.lrem) else none) else (bif Nat.beq pc 19 then some (.l2i) else none)) else (bif Nat.ble pc 20 then (bif Nat.beq pc 20 then some (.ireturn) else none) else (bif Nat.ble pc 21 then (bif Nat.beq pc 21 then some (.lload_n 1) else none) else (bif Nat.beq pc 22 then some (.iload_n 0) else none)))) else (bif Nat.ble pc 25 then (bif Nat.ble pc 23 then (bif Nat.beq pc 23 then some (.i2l) else none) else (bif Nat.ble pc 24 then (bif Nat.beq pc 24 then some (.ladd) else none) else (bif Nat.beq pc 25 then some (.ldc2_w 53) else none))) else (bif Nat.ble pc 28 then (bif Nat.beq pc 28 then some (.lrem) else none) else (bif Nat.ble pc 29 then (bif Nat.beq pc 29 then some (.l2i) else none) else (bif Nat.beq pc 30 then some (.ireturn) else none))))))
def K_7 : MTab := ([(53, .long (10))], [], [], [], [], [], [(45, (1, none, 2, B_8))], [], [])
abbrev B_7 : MKall := mmBody K_7 I_7 (some .int) 3 1000
theorem chk_7 : mmChk method_4_code I_7 31 = true := by decide +kernel
theorem hI_7 : ∀ pc i, I_7 pc = some i → decode method_4_code pc = .ok (i, mmLen i) := mmCut_ok chk_7
theorem pd_7 : parseMethodDescriptor "(IJ)I" = some ⟨[.int, .long], some .int⟩ := by decide +kernel
theorem T_7 (l : Launch) (Z : State) (a0 : Array Value) (hw : ∀ d ∈ tables_1, d.before a0 Z = true) (ce sl : Nat) : mmTabOk CT l Z a0 "com/example/sutac/sutac/csv/PlainDecimalReaderReadPinLaw" "digit" ({ frames := 1, cells := ce, slots := sl, locals := 15 } : Room) K_7 :=
  ⟨⟨⟨fun x h => (by cases h), fun x h => by cases h; exact (hw _ (List.mem_of_getElem? (i := 49) rfl))⟩, trivial⟩,
   trivial,
   trivial,
   trivial,
   trivial,
   trivial,
   ⟨mmCallS (hw _ (List.mem_of_getElem? (i := 45) rfl)) (hw _ (List.mem_of_getElem? (i := 46) rfl)) (hw _ (List.mem_of_getElem? (i := 6) rfl)) (hw _ (List.mem_of_getElem? (i := 47) rfl)) (by decide) (G_8 l Z a0 hw) (Nat.le_of_ble_eq_true rfl) (Nat.le_of_ble_eq_true rfl) pd_8 rfl, trivial⟩,
   trivial,
   trivial⟩
theorem pl_7 : plainFor (⟨"com/example/sutac/sutac/csv/PlainDecimalReaderReadPinLaw", "digit", "(IJ)I"⟩ : MethodName) = true := by first | exact plainFor_of_name (by first | (simp [plainName, overriddenIn]; done) | decide +kernel) | decide +kernel
theorem G_7 (l : Launch) (Z : State) (a0 : Array Value) (hw : ∀ d ∈ tables_1, d.before a0 Z = true) : mmGood CT l Z (⟨"com/example/sutac/sutac/csv/PlainDecimalReaderReadPinLaw", "digit", "(IJ)I"⟩ : MethodName) method_4_code 3 (some .int) 1 15 B_7 := mmGood_of 1000 pl_7 hI_7 (CT_ok l Z a0 hw) (T_7 l Z a0 hw)
/-- body 1: PlainDecimalReaderReadPinLaw.at -/
def I_1 : Nat → Option Instr := mmCut 76 fun pc => (bif Nat.ble pc 33 then (bif Nat.ble pc 15 then (bif Nat.ble pc 7 then (bif Nat.ble pc 1 then (bif Nat.ble pc 0 then (bif Nat.beq pc 0 then some (.iload_n 0) else none) else (bif Nat.beq pc 1 then some (.iload_n 1) else none)) else (bif Nat.ble pc 2 then (bif Nat.beq pc 2 then some (.if_icmp .ge 10) else none) else (bif Nat.ble pc 5 then (bif Nat.beq pc 5 then some (.bipush 48) else none) else (bif Nat.beq pc 7 then some (.iload 6) else none)))) else (bif Nat.ble pc 11 then (bif Nat.ble pc 9 then (bif Nat.beq pc 9 then some (.iadd) else none) else (bif Nat.ble pc 10 then (bif Nat.beq pc 10 then some (.i2b) else none) else (bif Nat.beq pc 11 then some (.ireturn) else none))) else (bif Nat.ble pc 12 then (bif Nat.beq pc 12 then some (.iload_n 0) else none) else (bif Nat.ble pc 13 then (bif Nat.beq pc 13 then some (.iload 4) else none) else (bif Nat.beq pc 15 then some (.if_icmp .ne 6) else none))))) else (bif Nat.ble pc 24 then (bif Nat.ble pc 20 then (bif Nat.ble pc 18 then (bif Nat.beq pc 18 then some (.iload 5) else none) else (bif Nat.beq pc 20 then some (.ireturn) else none)) else (bif Nat.ble pc 21 then (bif Nat.beq pc 21 then some (.iload_n 0) else none) else (bif Nat.ble pc 22 then (bif Nat.beq pc 22 then some (.iload 4) else none) else (bif Nat.beq pc 24 then some (.if_icmp .le 6) else none)))) else (bif Nat.ble pc 30 then (bif Nat.ble pc 27 then (bif Nat.beq pc 27 then some (.bipush 56) else none) else (bif Nat.ble pc 29 then (bif Nat.beq pc 29 then some (.ireturn) else none) else (bif Nat.beq pc 30 then some (.iload_n 0) else none))) else (bif Nat.ble pc 31 then (bif Nat.beq pc 31 then some (.iload_n 1) else none) else (bif Nat.ble pc 32 then (bif Nat.beq pc 32 then some (.isub) else none) else (bif Nat.beq pc 33 then some (.istore 9) else none)))))) else (bif Nat.ble pc 54 then (bif Nat.ble pc 43 then (bif Nat.ble pc 37 then (bif Nat.ble pc 35 then (bif Nat.beq pc 35 then some (.iload 9) else none) else (bif Nat.beq pc 37 then some (.istore 10) else none)) else (bif Nat.ble pc 39 then (bif Nat.beq pc 39 then some (.iload_n 3) else none) else (bif Nat.ble pc 40 then (bif Nat.beq pc 40 then some (.ifCond .eq 24) else none) else (bif Nat.beq pc 43 then some (.iload 9) else none)))) else (bif Nat.ble pc 49 then (bif Nat.ble pc 45 then (bif Nat.beq pc 45 then some (.iload_n 2) else none) else (bif Nat.ble pc 46 then (bif Nat.beq pc 46 then some (.if_icmp .ne 6) else none) else (bif Nat.beq pc 49 then some (.bipush 46) else none))) else (bif Nat.ble pc 51 then (bif Nat.beq pc 51 then some (.ireturn) else none) else (bif Nat.ble pc 52 then (bif Nat.beq pc 52 then some (.iload 9) else none) else (bif Nat.beq pc 54 then some (.iload_n 2) else none))))) else (bif Nat.ble pc 64 then (bif Nat.ble pc 60 then (bif Nat.ble pc 55 then (bif Nat.beq pc 55 then some (.if_icmp .le 9) else none) else (bif Nat.ble pc 58 then (bif Nat.beq pc 58 then some (.iload 9) else none) else (bif Nat.beq pc 60 then some (.iconst 1) else none))) else (bif Nat.ble pc 61 then (bif Nat.beq pc 61 then some (.isub) else none) else (bif Nat.ble pc 62 then (bif Nat.beq pc 62 then some (.istore 10) else none) else (bif Nat.beq pc 64 then some (.bipush 48) else none)))) else (bif Nat.ble pc 70 then (bif Nat.ble pc 66 then (bif Nat.beq pc 66 then some (.iload 10) else none) else (bif Nat.ble pc 68 then (bif Nat.beq pc 68 then some (.lload 7) else none) else (bif Nat.beq pc 70 then some (.invokestatic 49) else none))) else (bif Nat.ble pc 73 then (bif Nat.beq pc 73 then some (.iadd) else none) else (bif Nat.ble pc 74 then (bif Nat.beq pc 74 then some (.i2b) else none) else (bif Nat.beq pc 75 then some (.ireturn) else none)))))))
def K_1 : MTab := ([], [], [], [], [], [], [(49, (2, none, 1, B_7))], [], [])
abbrev B_1 : MKall := mmBody K_1 I_1 (some .byte) 11 1000
theorem chk_1 : mmChk method_3_code I_1 76 = true := by decide +kernel
theorem hI_1 : ∀ pc i, I_1 pc = some i → decode method_3_code pc = .ok (i, mmLen i) := mmCut_ok chk_1
theorem pd_1 : parseMethodDescriptor "(IIIZIBIJ)B" = some ⟨[.int, .int, .int, .boolean, .int, .byte, .int, .long], some .byte⟩ := by decide +kernel
theorem T_1 (l : Launch) (Z : State) (a0 : Array Value) (hw : ∀ d ∈ tables_1, d.before a0 Z = true) (ce sl : Nat) : mmTabOk CT l Z a0 "com/example/sutac/sutac/csv/PlainDecimalReaderReadPinLaw" "at" ({ frames := 2, cells := ce, slots := sl, locals := 30 } : Room) K_1 :=
  ⟨trivial,
   trivial,
   trivial,
   trivial,
   trivial,
   trivial,
   ⟨mmCallS (hw _ (List.mem_of_getElem? (i := 42) rfl)) (hw _ (List.mem_of_getElem? (i := 43) rfl)) (hw _ (List.mem_of_getElem? (i := 6) rfl)) (hw _ (List.mem_of_getElem? (i := 44) rfl)) (by decide) (G_7 l Z a0 hw) (Nat.le_of_ble_eq_true rfl) (Nat.le_of_ble_eq_true rfl) pd_7 rfl, trivial⟩,
   trivial,
   trivial⟩
theorem pl_1 : plainFor (⟨"com/example/sutac/sutac/csv/PlainDecimalReaderReadPinLaw", "at", "(IIIZIBIJ)B"⟩ : MethodName) = true := by first | exact plainFor_of_name (by first | (simp [plainName, overriddenIn]; done) | decide +kernel) | decide +kernel
theorem G_1 (l : Launch) (Z : State) (a0 : Array Value) (hw : ∀ d ∈ tables_1, d.before a0 Z = true) : mmGood CT l Z (⟨"com/example/sutac/sutac/csv/PlainDecimalReaderReadPinLaw", "at", "(IIIZIBIJ)B"⟩ : MethodName) method_3_code 11 (some .byte) 2 30 B_1 := mmGood_of 1000 pl_1 hI_1 (CT_ok l Z a0 hw) (T_1 l Z a0 hw)
/-- body 2: InputNumbers$PlainDecimalReader.init -/
def I_2 : Nat → Option Instr := mmCut 5 fun pc => (bif Nat.ble pc 0 then (bif Nat.beq pc 0 then some (.aload_n 0) else none) else (bif Nat.ble pc 1 then (bif Nat.beq pc 1 then some (.invokespecial 3) else none) else (bif Nat.beq pc 4 then some (.return_) else none)))
def K_2 : MTab := ([], [], [], [], [], [(3, 0)], [], [], [])
abbrev B_2 : MKall := mmBody K_2 I_2 none 1 1000
theorem chk_2 : mmChk prog_34_method_1_code I_2 5 = true := by decide +kernel
theorem hI_2 : ∀ pc i, I_2 pc = some i → decode prog_34_method_1_code pc = .ok (i, mmLen i) := mmCut_ok chk_2
theorem pd_2 : parseMethodDescriptor "()V" = some ⟨[], none⟩ := by decide +kernel
theorem T_2 (l : Launch) (Z : State) (a0 : Array Value) (hw : ∀ d ∈ tables_1, d.before a0 Z = true) (ce sl : Nat) : mmTabOk CT l Z a0 "com/example/sutac/sutac/csv/InputNumbers$PlainDecimalReader" "<init>" ({ frames := 1, cells := ce, slots := sl, locals := 12 } : Room) K_2 :=
  ⟨trivial,
   trivial,
   trivial,
   trivial,
   trivial,
   ⟨⟨(hw _ (List.mem_of_getElem? (i := 14) rfl)), (hw _ (List.mem_of_getElem? (i := 15) rfl)), (hw _ (List.mem_of_getElem? (i := 16) rfl)), Nat.le_of_ble_eq_true rfl, Nat.le_of_ble_eq_true rfl⟩, trivial⟩,
   trivial,
   trivial,
   trivial⟩
theorem pl_2 : plainFor (⟨"com/example/sutac/sutac/csv/InputNumbers$PlainDecimalReader", "<init>", "()V"⟩ : MethodName) = true := by first | exact plainFor_of_name (by first | (simp [plainName, overriddenIn]; done) | decide +kernel) | decide +kernel
theorem G_2 (l : Launch) (Z : State) (a0 : Array Value) (hw : ∀ d ∈ tables_1, d.before a0 Z = true) : mmGood CT l Z (⟨"com/example/sutac/sutac/csv/InputNumbers$PlainDecimalReader", "<init>", "()V"⟩ : MethodName) prog_34_method_1_code 1 none 1 12 B_2 := mmGood_of 1000 pl_2 hI_2 (CT_ok l Z a0 hw) (T_2 l Z a0 hw)
/-- body 3: InputNumbers$PlainDecimalReader.read -/
def I_3 : Nat → Option Instr := mmCut 152 fun pc => (bif Nat.ble pc 68 then (bif Nat.ble pc 29 then (bif Nat.ble pc 12 then (bif Nat.ble pc 4 then (bif Nat.ble pc 1 then (bif Nat.ble pc 0 then (bif Nat.beq pc 0 then some (.lconst 0) else none) else (bif Nat.beq pc 1 then some (.lstore 4) else none)) else (bif Nat.ble pc 3 then (bif Nat.beq pc 3 then some (.iconst 0) else none) else (bif Nat.beq pc 4 then some (.istore 6) else none))) else (bif Nat.ble pc 7 then (bif Nat.ble pc 6 then (bif Nat.beq pc 6 then some (.iconst (-1)) else none) else (bif Nat.beq pc 7 then some (.istore 7) else none)) else (bif Nat.ble pc 9 then (bif Nat.beq pc 9 then some (.iload_n 2) else none) else (bif Nat.ble pc 10 then (bif Nat.beq pc 10 then some (.istore 8) else none) else (bif Nat.beq pc 12 then some (.iload 8) else none))))) else (bif Nat.ble pc 21 then (bif Nat.ble pc 15 then (bif Nat.ble pc 14 then (bif Nat.beq pc 14 then some (.iload_n 3) else none) else (bif Nat.beq pc 15 then some (.if_icmp .ge 71) else none)) else (bif Nat.ble pc 18 then (bif Nat.beq pc 18 then some (.aload_n 1) else none) else (bif Nat.ble pc 19 then (bif Nat.beq pc 19 then some (.iload 8) else none) else (bif Nat.beq pc 21 then some (.baload) else none)))) else (bif Nat.ble pc 24 then (bif Nat.ble pc 22 then (bif Nat.beq pc 22 then some (.bipush 48) else none) else (bif Nat.beq pc 24 then some (.isub) else none)) else (bif Nat.ble pc 25 then (bif Nat.beq pc 25 then some (.istore 9) else none) else (bif Nat.ble pc 27 then (bif Nat.beq pc 27 then some (.iload 9) else none) else (bif Nat.beq pc 29 then some (.ifCond .lt 28) else none)))))) else (bif Nat.ble pc 48 then (bif Nat.ble pc 39 then (bif Nat.ble pc 34 then (bif Nat.ble pc 32 then (bif Nat.beq pc 32 then some (.iload 9) else none) else (bif Nat.beq pc 34 then some (.bipush 9) else none)) else (bif Nat.ble pc 36 then (bif Nat.beq pc 36 then some (.if_icmp .gt 21) else none) else (bif Nat.beq pc 39 then some (.lload 4) else none))) else (bif Nat.ble pc 44 then (bif Nat.ble pc 41 then (bif Nat.beq pc 41 then some (.ldc2_w 9) else none) else (bif Nat.beq pc 44 then some (.lmul) else none)) else (bif Nat.ble pc 45 then (bif Nat.beq pc 45 then some (.iload 9) else none) else (bif Nat.ble pc 47 then (bif Nat.beq pc 47 then some (.i2l) else none) else (bif Nat.beq pc 48 then some (.ladd) else none))))) else (bif Nat.ble pc 58 then (bif Nat.ble pc 51 then (bif Nat.ble pc 49 then (bif Nat.beq pc 49 then some (.lstore 4) else none) else (bif Nat.beq pc 51 then some (.iinc 6 1) else none)) else (bif Nat.ble pc 54 then (bif Nat.beq pc 54 then some (.goto 26) else none) else (bif Nat.ble pc 57 then (bif Nat.beq pc 57 then some (.aload_n 1) else none) else (bif Nat.beq pc 58 then some (.iload 8) else none)))) else (bif Nat.ble pc 61 then (bif Nat.ble pc 60 then (bif Nat.beq pc 60 then some (.baload) else none) else (bif Nat.beq pc 61 then some (.bipush 46) else none)) else (bif Nat.ble pc 63 then (bif Nat.beq pc 63 then some (.if_icmp .ne 23) else none) else (bif Nat.ble pc 66 then (bif Nat.beq pc 66 then some (.iload 7) else none) else (bif Nat.beq pc 68 then some (.ifCond .ge 18) else none))))))) else (bif Nat.ble pc 110 then (bif Nat.ble pc 90 then (bif Nat.ble pc 78 then (bif Nat.ble pc 73 then (bif Nat.ble pc 71 then (bif Nat.beq pc 71 then some (.iload 6) else none) else (bif Nat.beq pc 73 then some (.ifCond .le 13) else none)) else (bif Nat.ble pc 76 then (bif Nat.beq pc 76 then some (.iload 8) else none) else (bif Nat.beq pc 78 then some (.istore 7) else none))) else (bif Nat.ble pc 83 then (bif Nat.ble pc 80 then (bif Nat.beq pc 80 then some (.iinc 8 1) else none) else (bif Nat.beq pc 83 then some (.goto (-71)) else none)) else (bif Nat.ble pc 86 then (bif Nat.beq pc 86 then some (.iload 8) else none) else (bif Nat.ble pc 88 then (bif Nat.beq pc 88 then some (.istore 9) else none) else (bif Nat.beq pc 90 then some (.iload 6) else none))))) else (bif Nat.ble pc 100 then (bif Nat.ble pc 95 then (bif Nat.ble pc 92 then (bif Nat.beq pc 92 then some (.ifCond .eq 12) else none) else (bif Nat.beq pc 95 then some (.iload 7) else none)) else (bif Nat.ble pc 97 then (bif Nat.beq pc 97 then some (.iload 8) else none) else (bif Nat.ble pc 99 then (bif Nat.beq pc 99 then some (.iconst 1) else none) else (bif Nat.beq pc 100 then some (.isub) else none)))) else (bif Nat.ble pc 104 then (bif Nat.ble pc 101 then (bif Nat.beq pc 101 then some (.if_icmp .ne 9) else none) else (bif Nat.beq pc 104 then some (.iconst (-1)) else none)) else (bif Nat.ble pc 105 then (bif Nat.beq pc 105 then some (.istore 9) else none) else (bif Nat.ble pc 107 then (bif Nat.beq pc 107 then some (.goto 42) else none) else (bif Nat.beq pc 110 then some (.aload_n 0) else none)))))) else (bif Nat.ble pc 132 then (bif Nat.ble pc 121 then (bif Nat.ble pc 113 then (bif Nat.ble pc 111 then (bif Nat.beq pc 111 then some (.iload 6) else none) else (bif Nat.beq pc 113 then some (.bipush 18) else none)) else (bif Nat.ble pc 115 then (bif Nat.beq pc 115 then some (.if_icmp .le 9) else none) else (bif Nat.ble pc 118 then (bif Nat.beq pc 118 then some (.ldc2_w 11) else none) else (bif Nat.beq pc 121 then some (.goto 5) else none)))) else (bif Nat.ble pc 126 then (bif Nat.ble pc 124 then (bif Nat.beq pc 124 then some (.lload 4) else none) else (bif Nat.beq pc 126 then some (.putfield 13) else none)) else (bif Nat.ble pc 129 then (bif Nat.beq pc 129 then some (.aload_n 0) else none) else (bif Nat.ble pc 130 then (bif Nat.beq pc 130 then some (.iload 7) else none) else (bif Nat.beq pc 132 then some (.ifCond .ge 7) else none))))) else (bif Nat.ble pc 142 then (bif Nat.ble pc 136 then (bif Nat.ble pc 135 then (bif Nat.beq pc 135 then some (.iconst 0) else none) else (bif Nat.beq pc 136 then some (.goto 10) else none)) else (bif Nat.ble pc 139 then (bif Nat.beq pc 139 then some (.iload 8) else none) else (bif Nat.ble pc 141 then (bif Nat.beq pc 141 then some (.iconst 1) else none) else (bif Nat.beq pc 142 then some (.isub) else none)))) else (bif Nat.ble pc 145 then (bif Nat.ble pc 143 then (bif Nat.beq pc 143 then some (.iload 7) else none) else (bif Nat.beq pc 145 then some (.isub) else none)) else (bif Nat.ble pc 146 then (bif Nat.beq pc 146 then some (.putfield 19) else none) else (bif Nat.ble pc 149 then (bif Nat.beq pc 149 then some (.iload 9) else none) else (bif Nat.beq pc 151 then some (.ireturn) else none))))))))
def K_3 : MTab := ([(9, .long (10)), (11, .long (-2))], [], [(13, (0, 0, .long)), (19, (0, 1, .int))], [], [], [], [], [], [])
abbrev B_3 : MKall := mmBody K_3 I_3 (some .int) 10 2000
theorem chk_3 : mmChk prog_34_method_2_code I_3 152 = true := by decide +kernel
theorem hI_3 : ∀ pc i, I_3 pc = some i → decode prog_34_method_2_code pc = .ok (i, mmLen i) := mmCut_ok chk_3
theorem pd_3 : parseMethodDescriptor "([BII)I" = some ⟨[(.array .byte), .int, .int], some .int⟩ := by decide +kernel
theorem T_3 (l : Launch) (Z : State) (a0 : Array Value) (hw : ∀ d ∈ tables_1, d.before a0 Z = true) (ce sl : Nat) : mmTabOk CT l Z a0 "com/example/sutac/sutac/csv/InputNumbers$PlainDecimalReader" "read" ({ frames := 0, cells := ce, slots := sl, locals := 0 } : Room) K_3 :=
  ⟨⟨⟨fun x h => (by cases h), fun x h => by cases h; exact (hw _ (List.mem_of_getElem? (i := 22) rfl))⟩, ⟨fun x h => (by cases h), fun x h => by cases h; exact (hw _ (List.mem_of_getElem? (i := 66) rfl))⟩, trivial⟩,
   trivial,
   ⟨⟨_, _, _, _, _, _, rfl, rfl, (hw _ (List.mem_of_getElem? (i := 23) rfl)), Or.inl (hw _ (List.mem_of_getElem? (i := 24) rfl))⟩, ⟨_, _, _, _, _, _, rfl, rfl, (hw _ (List.mem_of_getElem? (i := 25) rfl)), Or.inl (hw _ (List.mem_of_getElem? (i := 26) rfl))⟩, trivial⟩,
   trivial,
   trivial,
   trivial,
   trivial,
   trivial,
   trivial⟩
theorem pl_3 : plainFor (⟨"com/example/sutac/sutac/csv/InputNumbers$PlainDecimalReader", "read", "([BII)I"⟩ : MethodName) = true := by first | exact plainFor_of_name (by first | (simp [plainName, overriddenIn]; done) | decide +kernel) | decide +kernel
theorem G_3 (l : Launch) (Z : State) (a0 : Array Value) (hw : ∀ d ∈ tables_1, d.before a0 Z = true) : mmGood CT l Z (⟨"com/example/sutac/sutac/csv/InputNumbers$PlainDecimalReader", "read", "([BII)I"⟩ : MethodName) prog_34_method_2_code 10 (some .int) 0 0 B_3 := mmGood_of 2000 pl_3 hI_3 (CT_ok l Z a0 hw) (T_3 l Z a0 hw)
/-- body 4: InputNumbers$PlainDecimalReader.digits -/
def I_4 : Nat → Option Instr := mmCut 5 fun pc => (bif Nat.ble pc 0 then (bif Nat.beq pc 0 then some (.aload_n 0) else none) else (bif Nat.ble pc 1 then (bif Nat.beq pc 1 then some (.getfield 13) else none) else (bif Nat.beq pc 4 then some (.lreturn) else none)))
def K_4 : MTab := ([], [(13, (0, 0))], [], [], [], [], [], [], [])
abbrev B_4 : MKall := mmBody K_4 I_4 (some .long) 1 1000
theorem chk_4 : mmChk prog_34_method_3_code I_4 5 = true := by decide +kernel
theorem hI_4 : ∀ pc i, I_4 pc = some i → decode prog_34_method_3_code pc = .ok (i, mmLen i) := mmCut_ok chk_4
theorem pd_4 : parseMethodDescriptor "()J" = some ⟨[], some .long⟩ := by decide +kernel
theorem T_4 (l : Launch) (Z : State) (a0 : Array Value) (hw : ∀ d ∈ tables_1, d.before a0 Z = true) (ce sl : Nat) : mmTabOk CT l Z a0 "com/example/sutac/sutac/csv/InputNumbers$PlainDecimalReader" "digits" ({ frames := 0, cells := ce, slots := sl, locals := 0 } : Room) K_4 :=
  ⟨trivial,
   ⟨⟨_, _, _, _, _, _, _, rfl, rfl, (hw _ (List.mem_of_getElem? (i := 23) rfl))⟩, trivial⟩,
   trivial,
   trivial,
   trivial,
   trivial,
   trivial,
   trivial,
   trivial⟩
theorem pl_4 : plainFor (⟨"com/example/sutac/sutac/csv/InputNumbers$PlainDecimalReader", "digits", "()J"⟩ : MethodName) = true := by first | exact plainFor_of_name (by first | (simp [plainName, overriddenIn]; done) | decide +kernel) | decide +kernel
theorem G_4 (l : Launch) (Z : State) (a0 : Array Value) (hw : ∀ d ∈ tables_1, d.before a0 Z = true) : mmGood CT l Z (⟨"com/example/sutac/sutac/csv/InputNumbers$PlainDecimalReader", "digits", "()J"⟩ : MethodName) prog_34_method_3_code 1 (some .long) 0 0 B_4 := mmGood_of 1000 pl_4 hI_4 (CT_ok l Z a0 hw) (T_4 l Z a0 hw)
/-- body 5: InputNumbers$PlainDecimalReader.decimals -/
def I_5 : Nat → Option Instr := mmCut 5 fun pc => (bif Nat.ble pc 0 then (bif Nat.beq pc 0 then some (.aload_n 0) else none) else (bif Nat.ble pc 1 then (bif Nat.beq pc 1 then some (.getfield 19) else none) else (bif Nat.beq pc 4 then some (.ireturn) else none)))
def K_5 : MTab := ([], [(19, (0, 1))], [], [], [], [], [], [], [])
abbrev B_5 : MKall := mmBody K_5 I_5 (some .int) 1 1000
theorem chk_5 : mmChk prog_34_method_4_code I_5 5 = true := by decide +kernel
theorem hI_5 : ∀ pc i, I_5 pc = some i → decode prog_34_method_4_code pc = .ok (i, mmLen i) := mmCut_ok chk_5
theorem pd_5 : parseMethodDescriptor "()I" = some ⟨[], some .int⟩ := by decide +kernel
theorem T_5 (l : Launch) (Z : State) (a0 : Array Value) (hw : ∀ d ∈ tables_1, d.before a0 Z = true) (ce sl : Nat) : mmTabOk CT l Z a0 "com/example/sutac/sutac/csv/InputNumbers$PlainDecimalReader" "decimals" ({ frames := 0, cells := ce, slots := sl, locals := 0 } : Room) K_5 :=
  ⟨trivial,
   ⟨⟨_, _, _, _, _, _, _, rfl, rfl, (hw _ (List.mem_of_getElem? (i := 25) rfl))⟩, trivial⟩,
   trivial,
   trivial,
   trivial,
   trivial,
   trivial,
   trivial,
   trivial⟩
theorem pl_5 : plainFor (⟨"com/example/sutac/sutac/csv/InputNumbers$PlainDecimalReader", "decimals", "()I"⟩ : MethodName) = true := by first | exact plainFor_of_name (by first | (simp [plainName, overriddenIn]; done) | decide +kernel) | decide +kernel
theorem G_5 (l : Launch) (Z : State) (a0 : Array Value) (hw : ∀ d ∈ tables_1, d.before a0 Z = true) : mmGood CT l Z (⟨"com/example/sutac/sutac/csv/InputNumbers$PlainDecimalReader", "decimals", "()I"⟩ : MethodName) prog_34_method_4_code 1 (some .int) 0 0 B_5 := mmGood_of 1000 pl_5 hI_5 (CT_ok l Z a0 hw) (T_5 l Z a0 hw)
/-- body 6: Math.min -/
def I_6 : Nat → Option Instr := mmCut 11 fun pc => (bif Nat.ble pc 2 then (bif Nat.ble pc 0 then (bif Nat.beq pc 0 then some (.iload_n 0) else none) else (bif Nat.ble pc 1 then (bif Nat.beq pc 1 then some (.iload_n 1) else none) else (bif Nat.beq pc 2 then some (.if_icmp .gt 7) else none))) else (bif Nat.ble pc 6 then (bif Nat.ble pc 5 then (bif Nat.beq pc 5 then some (.iload_n 0) else none) else (bif Nat.beq pc 6 then some (.goto 4) else none)) else (bif Nat.ble pc 9 then (bif Nat.beq pc 9 then some (.iload_n 1) else none) else (bif Nat.beq pc 10 then some (.ireturn) else none))))
def K_6 : MTab := ([], [], [], [], [], [], [], [], [])
abbrev B_6 : MKall := mmBody K_6 I_6 (some .int) 2 1000
theorem chk_6 : mmChk jdk_29_method_69_code I_6 11 = true := by decide +kernel
theorem hI_6 : ∀ pc i, I_6 pc = some i → decode jdk_29_method_69_code pc = .ok (i, mmLen i) := mmCut_ok chk_6
theorem pd_6 : parseMethodDescriptor "(II)I" = some ⟨[.int, .int], some .int⟩ := by decide +kernel
theorem T_6 (l : Launch) (Z : State) (a0 : Array Value) (hw : ∀ d ∈ tables_1, d.before a0 Z = true) (ce sl : Nat) : mmTabOk CT l Z a0 "java/lang/Math" "min" ({ frames := 0, cells := ce, slots := sl, locals := 0 } : Room) K_6 :=
  ⟨trivial,
   trivial,
   trivial,
   trivial,
   trivial,
   trivial,
   trivial,
   trivial,
   trivial⟩
theorem pl_6 : plainFor (⟨"java/lang/Math", "min", "(II)I"⟩ : MethodName) = true := by first | exact plainFor_of_name (by first | (simp [plainName, overriddenIn]; done) | decide +kernel) | decide +kernel
theorem G_6b (l : Launch) (Z : State) (a0 : Array Value) (hw : ∀ d ∈ tables_1, d.before a0 Z = true) : mmGood CT l Z (⟨"java/lang/Math", "min", "(II)I"⟩ : MethodName) jdk_29_method_69_code 2 (some .int) 0 0 B_6 := mmGood_of 1000 pl_6 hI_6 (CT_ok l Z a0 hw) (T_6 l Z a0 hw)
def F_6 : MKall := fun as H => match as with
  | [.int a, .int b] => some (some (.int (if b < a then b else a)), H, 0)
  | _ => none
theorem F_6_ok : ∀ as H r, F_6 as H = some r → B_6 as H = some r := fun as H r h => by
  unfold F_6 at h
  split at h
  · rename_i a b
    cases h
    show mmRun K_6 I_6 (some .int) 1000 0 [.val (.int a), .val (.int b)] [] H 0 = _
    rw [mmRun_steps (k := 3) (n := 997) (pc' := (if if_icmp.holds .gt a b = true then 9 else 5)) (L' := [.val (.int a), .val (.int b)]) (S' := []) (H' := H) (sl' := 0) rfl]
    by_cases hc : b < a
    · rw [if_pos (XT.ii_gt_t hc), if_pos hc]; rfl
    · have e : if_icmp.holds .gt a b = false := XT.ii_gt_f hc
      rw [e, if_neg hc]; rfl
  · cases h
theorem F_6_t {a b : Int32} {H : MHeap} (h : b < a) : F_6 [.int a, .int b] H = some (some (.int b), H, 0) := by
  show some (some (Value.int (if b < a then b else a)), H, 0) = _
  rw [if_pos h]
theorem F_6_f {a b : Int32} {H : MHeap} (h : ¬ b < a) : F_6 [.int a, .int b] H = some (some (.int a), H, 0) := by
  show some (some (Value.int (if b < a then b else a)), H, 0) = _
  rw [if_neg h]

theorem G_6 (l : Launch) (Z : State) (a0 : Array Value) (hw : ∀ d ∈ tables_1, d.before a0 Z = true) : mmGood CT l Z (⟨"java/lang/Math", "min", "(II)I"⟩ : MethodName) jdk_29_method_69_code 2 (some .int) 0 0 F_6 := mmGood_sub F_6_ok (G_6b l Z a0 hw)
/-- body 0: PlainDecimalReaderReadPinLaw.law -/
def I_0 : Nat → Option Instr := mmCut 1019 fun pc => (bif Nat.ble pc 490 then (bif Nat.ble pc 232 then (bif Nat.ble pc 108 then (bif Nat.ble pc 47 then (bif Nat.ble pc 20 then (bif Nat.ble pc 8 then (bif Nat.ble pc 3 then (bif Nat.ble pc 1 then (bif Nat.ble pc 0 then (bif Nat.beq pc 0 then some (.iload_n 0) else none) else (bif Nat.beq pc 1 then some (.iconst 3) else none)) else (bif Nat.ble pc 2 then (bif Nat.beq pc 2 then some (.iand) else none) else (bif Nat.beq pc 3 then some (.istore 5) else none))) else (bif Nat.ble pc 6 then (bif Nat.ble pc 5 then (bif Nat.beq pc 5 then some (.iload_n 0) else none) else (bif Nat.beq pc 6 then some (.iconst 2) else none)) else (bif Nat.ble pc 7 then (bif Nat.beq pc 7 then some (.iushr) else none) else (bif Nat.beq pc 8 then some (.bipush 31) else none)))) else (bif Nat.ble pc 14 then (bif Nat.ble pc 11 then (bif Nat.ble pc 10 then (bif Nat.beq pc 10 then some (.iand) else none) else (bif Nat.beq pc 11 then some (.bipush 21) else none)) else (bif Nat.ble pc 13 then (bif Nat.beq pc 13 then some (.irem) else none) else (bif Nat.beq pc 14 then some (.istore 6) else none))) else (bif Nat.ble pc 17 then (bif Nat.ble pc 16 then (bif Nat.beq pc 16 then some (.iload_n 0) else none) else (bif Nat.beq pc 17 then some (.bipush 7) else none)) else (bif Nat.ble pc 19 then (bif Nat.beq pc 19 then some (.iushr) else none) else (bif Nat.beq pc 20 then some (.bipush 31) else none))))) else (bif Nat.ble pc 32 then (bif Nat.ble pc 27 then (bif Nat.ble pc 23 then (bif Nat.ble pc 22 then (bif Nat.beq pc 22 then some (.iand) else none) else (bif Nat.beq pc 23 then some (.bipush 21) else none)) else (bif Nat.ble pc 25 then (bif Nat.beq pc 25 then some (.iload 6) else none) else (bif Nat.beq pc 27 then some (.isub) else none))) else (bif Nat.ble pc 29 then (bif Nat.ble pc 28 then (bif Nat.beq pc 28 then some (.irem) else none) else (bif Nat.beq pc 29 then some (.istore 7) else none)) else (bif Nat.ble pc 31 then (bif Nat.beq pc 31 then some (.iload_n 0) else none) else (bif Nat.beq pc 32 then some (.bipush 12) else none)))) else (bif Nat.ble pc 37 then (bif Nat.ble pc 35 then (bif Nat.ble pc 34 then (bif Nat.beq pc 34 then some (.iushr) else none) else (bif Nat.beq pc 35 then some (.iconst 1) else none)) else (bif Nat.ble pc 36 then (bif Nat.beq pc 36 then some (.iand) else none) else (bif Nat.beq pc 37 then some (.ifCond .eq 7) else none))) else (bif Nat.ble pc 41 then (bif Nat.ble pc 40 then (bif Nat.beq pc 40 then some (.iconst 1) else none) else (bif Nat.beq pc 41 then some (.goto 4) else none)) else (bif Nat.ble pc 44 then (bif Nat.beq pc 44 then some (.iconst 0) else none) else (bif Nat.ble pc 45 then (bif Nat.beq pc 45 then some (.istore 8) else none) else (bif Nat.beq pc 47 then some (.iload_n 0) else none))))))) else (bif Nat.ble pc 76 then (bif Nat.ble pc 59 then (bif Nat.ble pc 53 then (bif Nat.ble pc 50 then (bif Nat.ble pc 48 then (bif Nat.beq pc 48 then some (.bipush 13) else none) else (bif Nat.beq pc 50 then some (.iushr) else none)) else (bif Nat.ble pc 51 then (bif Nat.beq pc 51 then some (.ldc 7) else none) else (bif Nat.beq pc 53 then some (.iand) else none))) else (bif Nat.ble pc 56 then (bif Nat.ble pc 54 then (bif Nat.beq pc 54 then some (.bipush 10) else none) else (bif Nat.beq pc 56 then some (.irem) else none)) else (bif Nat.ble pc 57 then (bif Nat.beq pc 57 then some (.istore 9) else none) else (bif Nat.beq pc 59 then some (.lload_n 3) else none)))) else (bif Nat.ble pc 67 then (bif Nat.ble pc 63 then (bif Nat.ble pc 60 then (bif Nat.beq pc 60 then some (.ldc2_w 10) else none) else (bif Nat.beq pc 63 then some (.land) else none)) else (bif Nat.ble pc 64 then (bif Nat.beq pc 64 then some (.ldc2_w 12) else none) else (bif Nat.beq pc 67 then some (.lrem) else none))) else (bif Nat.ble pc 70 then (bif Nat.ble pc 68 then (bif Nat.beq pc 68 then some (.lstore 10) else none) else (bif Nat.beq pc 70 then some (.iload_n 1) else none)) else (bif Nat.ble pc 71 then (bif Nat.beq pc 71 then some (.bipush 26) else none) else (bif Nat.ble pc 73 then (bif Nat.beq pc 73 then some (.if_icmp .gt 7) else none) else (bif Nat.beq pc 76 then some (.iload_n 1) else none)))))) else (bif Nat.ble pc 88 then (bif Nat.ble pc 83 then (bif Nat.ble pc 80 then (bif Nat.ble pc 77 then (bif Nat.beq pc 77 then some (.goto 7) else none) else (bif Nat.beq pc 80 then some (.iload_n 1) else none)) else (bif Nat.ble pc 81 then (bif Nat.beq pc 81 then some (.bipush 27) else none) else (bif Nat.beq pc 83 then some (.irem) else none))) else (bif Nat.ble pc 86 then (bif Nat.ble pc 84 then (bif Nat.beq pc 84 then some (.istore 12) else none) else (bif Nat.beq pc 86 then some (.iload_n 2) else none)) else (bif Nat.ble pc 87 then (bif Nat.beq pc 87 then some (.i2b) else none) else (bif Nat.beq pc 88 then some (.istore 13) else none)))) else (bif Nat.ble pc 96 then (bif Nat.ble pc 92 then (bif Nat.ble pc 90 then (bif Nat.beq pc 90 then some (.iload 13) else none) else (bif Nat.beq pc 92 then some (.istore 14) else none)) else (bif Nat.ble pc 94 then (bif Nat.beq pc 94 then some (.iload 13) else none) else (bif Nat.beq pc 96 then some (.bipush 48) else none))) else (bif Nat.ble pc 101 then (bif Nat.ble pc 98 then (bif Nat.beq pc 98 then some (.if_icmp .lt 10) else none) else (bif Nat.beq pc 101 then some (.iload 13) else none)) else (bif Nat.ble pc 103 then (bif Nat.beq pc 103 then some (.bipush 57) else none) else (bif Nat.ble pc 105 then (bif Nat.beq pc 105 then some (.if_icmp .le 10) else none) else (bif Nat.beq pc 108 then some (.iload 13) else none)))))))) else (bif Nat.ble pc 173 then (bif Nat.ble pc 144 then (bif Nat.ble pc 127 then (bif Nat.ble pc 117 then (bif Nat.ble pc 112 then (bif Nat.ble pc 110 then (bif Nat.beq pc 110 then some (.bipush 46) else none) else (bif Nat.beq pc 112 then some (.if_icmp .ne 17) else none)) else (bif Nat.ble pc 115 then (bif Nat.beq pc 115 then some (.iload 8) else none) else (bif Nat.beq pc 117 then some (.ifCond .eq 8) else none))) else (bif Nat.ble pc 122 then (bif Nat.ble pc 120 then (bif Nat.beq pc 120 then some (.bipush 46) else none) else (bif Nat.beq pc 122 then some (.goto 5) else none)) else (bif Nat.ble pc 125 then (bif Nat.beq pc 125 then some (.bipush 58) else none) else (bif Nat.beq pc 127 then some (.istore 14) else none)))) else (bif Nat.ble pc 134 then (bif Nat.ble pc 131 then (bif Nat.ble pc 129 then (bif Nat.beq pc 129 then some (.iload 6) else none) else (bif Nat.beq pc 131 then some (.iload 7) else none)) else (bif Nat.ble pc 133 then (bif Nat.beq pc 133 then some (.iadd) else none) else (bif Nat.beq pc 134 then some (.iload 8) else none))) else (bif Nat.ble pc 139 then (bif Nat.ble pc 136 then (bif Nat.beq pc 136 then some (.ifCond .eq 7) else none) else (bif Nat.beq pc 139 then some (.iconst 1) else none)) else (bif Nat.ble pc 140 then (bif Nat.beq pc 140 then some (.goto 4) else none) else (bif Nat.ble pc 143 then (bif Nat.beq pc 143 then some (.iconst 0) else none) else (bif Nat.beq pc 144 then some (.iadd) else none)))))) else (bif Nat.ble pc 158 then (bif Nat.ble pc 151 then (bif Nat.ble pc 147 then (bif Nat.ble pc 145 then (bif Nat.beq pc 145 then some (.istore 15) else none) else (bif Nat.beq pc 147 then some (.iload 5) else none)) else (bif Nat.ble pc 149 then (bif Nat.beq pc 149 then some (.iload 15) else none) else (bif Nat.beq pc 151 then some (.iadd) else none))) else (bif Nat.ble pc 154 then (bif Nat.ble pc 152 then (bif Nat.beq pc 152 then some (.istore 16) else none) else (bif Nat.beq pc 154 then some (.bipush 26) else none)) else (bif Nat.ble pc 156 then (bif Nat.beq pc 156 then some (.newarray .byte) else none) else (bif Nat.beq pc 158 then some (.dup) else none)))) else (bif Nat.ble pc 163 then (bif Nat.ble pc 160 then (bif Nat.ble pc 159 then (bif Nat.beq pc 159 then some (.iconst 0) else none) else (bif Nat.beq pc 160 then some (.iconst 0) else none)) else (bif Nat.ble pc 161 then (bif Nat.beq pc 161 then some (.iload 5) else none) else (bif Nat.beq pc 163 then some (.iload 6) else none))) else (bif Nat.ble pc 167 then (bif Nat.ble pc 165 then (bif Nat.beq pc 165 then some (.iload 8) else none) else (bif Nat.beq pc 167 then some (.iload 16) else none)) else (bif Nat.ble pc 169 then (bif Nat.beq pc 169 then some (.iload 14) else none) else (bif Nat.ble pc 171 then (bif Nat.beq pc 171 then some (.iload 9) else none) else (bif Nat.beq pc 173 then some (.lload 10) else none))))))) else (bif Nat.ble pc 202 then (bif Nat.ble pc 186 then (bif Nat.ble pc 180 then (bif Nat.ble pc 178 then (bif Nat.ble pc 175 then (bif Nat.beq pc 175 then some (.invokestatic 14) else none) else (bif Nat.beq pc 178 then some (.bastore) else none)) else (bif Nat.ble pc 179 then (bif Nat.beq pc 179 then some (.dup) else none) else (bif Nat.beq pc 180 then some (.iconst 1) else none))) else (bif Nat.ble pc 182 then (bif Nat.ble pc 181 then (bif Nat.beq pc 181 then some (.iconst 1) else none) else (bif Nat.beq pc 182 then some (.iload 5) else none)) else (bif Nat.ble pc 184 then (bif Nat.beq pc 184 then some (.iload 6) else none) else (bif Nat.beq pc 186 then some (.iload 8) else none)))) else (bif Nat.ble pc 194 then (bif Nat.ble pc 190 then (bif Nat.ble pc 188 then (bif Nat.beq pc 188 then some (.iload 16) else none) else (bif Nat.beq pc 190 then some (.iload 14) else none)) else (bif Nat.ble pc 192 then (bif Nat.beq pc 192 then some (.iload 9) else none) else (bif Nat.beq pc 194 then some (.lload 10) else none))) else (bif Nat.ble pc 199 then (bif Nat.ble pc 196 then (bif Nat.beq pc 196 then some (.invokestatic 14) else none) else (bif Nat.beq pc 199 then some (.bastore) else none)) else (bif Nat.ble pc 200 then (bif Nat.beq pc 200 then some (.dup) else none) else (bif Nat.ble pc 201 then (bif Nat.beq pc 201 then some (.iconst 2) else none) else (bif Nat.beq pc 202 then some (.iconst 2) else none)))))) else (bif Nat.ble pc 217 then (bif Nat.ble pc 209 then (bif Nat.ble pc 205 then (bif Nat.ble pc 203 then (bif Nat.beq pc 203 then some (.iload 5) else none) else (bif Nat.beq pc 205 then some (.iload 6) else none)) else (bif Nat.ble pc 207 then (bif Nat.beq pc 207 then some (.iload 8) else none) else (bif Nat.beq pc 209 then some (.iload 16) else none))) else (bif Nat.ble pc 213 then (bif Nat.ble pc 211 then (bif Nat.beq pc 211 then some (.iload 14) else none) else (bif Nat.beq pc 213 then some (.iload 9) else none)) else (bif Nat.ble pc 215 then (bif Nat.beq pc 215 then some (.lload 10) else none) else (bif Nat.beq pc 217 then some (.invokestatic 14) else none)))) else (bif Nat.ble pc 223 then (bif Nat.ble pc 221 then (bif Nat.ble pc 220 then (bif Nat.beq pc 220 then some (.bastore) else none) else (bif Nat.beq pc 221 then some (.dup) else none)) else (bif Nat.ble pc 222 then (bif Nat.beq pc 222 then some (.iconst 3) else none) else (bif Nat.beq pc 223 then some (.iconst 3) else none))) else (bif Nat.ble pc 226 then (bif Nat.ble pc 224 then (bif Nat.beq pc 224 then some (.iload 5) else none) else (bif Nat.beq pc 226 then some (.iload 6) else none)) else (bif Nat.ble pc 228 then (bif Nat.beq pc 228 then some (.iload 8) else none) else (bif Nat.ble pc 230 then (bif Nat.beq pc 230 then some (.iload 16) else none) else (bif Nat.beq pc 232 then some (.iload 14) else none))))))))) else (bif Nat.ble pc 358 then (bif Nat.ble pc 293 then (bif Nat.ble pc 263 then (bif Nat.ble pc 245 then (bif Nat.ble pc 241 then (bif Nat.ble pc 236 then (bif Nat.ble pc 234 then (bif Nat.beq pc 234 then some (.iload 9) else none) else (bif Nat.beq pc 236 then some (.lload 10) else none)) else (bif Nat.ble pc 238 then (bif Nat.beq pc 238 then some (.invokestatic 14) else none) else (bif Nat.beq pc 241 then some (.bastore) else none))) else (bif Nat.ble pc 243 then (bif Nat.ble pc 242 then (bif Nat.beq pc 242 then some (.dup) else none) else (bif Nat.beq pc 243 then some (.iconst 4) else none)) else (bif Nat.ble pc 244 then (bif Nat.beq pc 244 then some (.iconst 4) else none) else (bif Nat.beq pc 245 then some (.iload 5) else none)))) else (bif Nat.ble pc 253 then (bif Nat.ble pc 249 then (bif Nat.ble pc 247 then (bif Nat.beq pc 247 then some (.iload 6) else none) else (bif Nat.beq pc 249 then some (.iload 8) else none)) else (bif Nat.ble pc 251 then (bif Nat.beq pc 251 then some (.iload 16) else none) else (bif Nat.beq pc 253 then some (.iload 14) else none))) else (bif Nat.ble pc 257 then (bif Nat.ble pc 255 then (bif Nat.beq pc 255 then some (.iload 9) else none) else (bif Nat.beq pc 257 then some (.lload 10) else none)) else (bif Nat.ble pc 259 then (bif Nat.beq pc 259 then some (.invokestatic 14) else none) else (bif Nat.ble pc 262 then (bif Nat.beq pc 262 then some (.bastore) else none) else (bif Nat.beq pc 263 then some (.dup) else none)))))) else (bif Nat.ble pc 276 then (bif Nat.ble pc 268 then (bif Nat.ble pc 265 then (bif Nat.ble pc 264 then (bif Nat.beq pc 264 then some (.iconst 5) else none) else (bif Nat.beq pc 265 then some (.iconst 5) else none)) else (bif Nat.ble pc 266 then (bif Nat.beq pc 266 then some (.iload 5) else none) else (bif Nat.beq pc 268 then some (.iload 6) else none))) else (bif Nat.ble pc 272 then (bif Nat.ble pc 270 then (bif Nat.beq pc 270 then some (.iload 8) else none) else (bif Nat.beq pc 272 then some (.iload 16) else none)) else (bif Nat.ble pc 274 then (bif Nat.beq pc 274 then some (.iload 14) else none) else (bif Nat.beq pc 276 then some (.iload 9) else none)))) else (bif Nat.ble pc 284 then (bif Nat.ble pc 280 then (bif Nat.ble pc 278 then (bif Nat.beq pc 278 then some (.lload 10) else none) else (bif Nat.beq pc 280 then some (.invokestatic 14) else none)) else (bif Nat.ble pc 283 then (bif Nat.beq pc 283 then some (.bastore) else none) else (bif Nat.beq pc 284 then some (.dup) else none))) else (bif Nat.ble pc 287 then (bif Nat.ble pc 285 then (bif Nat.beq pc 285 then some (.bipush 6) else none) else (bif Nat.beq pc 287 then some (.bipush 6) else none)) else (bif Nat.ble pc 289 then (bif Nat.beq pc 289 then some (.iload 5) else none) else (bif Nat.ble pc 291 then (bif Nat.beq pc 291 then some (.iload 6) else none) else (bif Nat.beq pc 293 then some (.iload 8) else none))))))) else (bif Nat.ble pc 326 then (bif Nat.ble pc 308 then (bif Nat.ble pc 301 then (bif Nat.ble pc 297 then (bif Nat.ble pc 295 then (bif Nat.beq pc 295 then some (.iload 16) else none) else (bif Nat.beq pc 297 then some (.iload 14) else none)) else (bif Nat.ble pc 299 then (bif Nat.beq pc 299 then some (.iload 9) else none) else (bif Nat.beq pc 301 then some (.lload 10) else none))) else (bif Nat.ble pc 306 then (bif Nat.ble pc 303 then (bif Nat.beq pc 303 then some (.invokestatic 14) else none) else (bif Nat.beq pc 306 then some (.bastore) else none)) else (bif Nat.ble pc 307 then (bif Nat.beq pc 307 then some (.dup) else none) else (bif Nat.beq pc 308 then some (.bipush 7) else none)))) else (bif Nat.ble pc 316 then (bif Nat.ble pc 312 then (bif Nat.ble pc 310 then (bif Nat.beq pc 310 then some (.bipush 7) else none) else (bif Nat.beq pc 312 then some (.iload 5) else none)) else (bif Nat.ble pc 314 then (bif Nat.beq pc 314 then some (.iload 6) else none) else (bif Nat.beq pc 316 then some (.iload 8) else none))) else (bif Nat.ble pc 320 then (bif Nat.ble pc 318 then (bif Nat.beq pc 318 then some (.iload 16) else none) else (bif Nat.beq pc 320 then some (.iload 14) else none)) else (bif Nat.ble pc 322 then (bif Nat.beq pc 322 then some (.iload 9) else none) else (bif Nat.ble pc 324 then (bif Nat.beq pc 324 then some (.lload 10) else none) else (bif Nat.beq pc 326 then some (.invokestatic 14) else none)))))) else (bif Nat.ble pc 341 then (bif Nat.ble pc 333 then (bif Nat.ble pc 330 then (bif Nat.ble pc 329 then (bif Nat.beq pc 329 then some (.bastore) else none) else (bif Nat.beq pc 330 then some (.dup) else none)) else (bif Nat.ble pc 331 then (bif Nat.beq pc 331 then some (.bipush 8) else none) else (bif Nat.beq pc 333 then some (.bipush 8) else none))) else (bif Nat.ble pc 337 then (bif Nat.ble pc 335 then (bif Nat.beq pc 335 then some (.iload 5) else none) else (bif Nat.beq pc 337 then some (.iload 6) else none)) else (bif Nat.ble pc 339 then (bif Nat.beq pc 339 then some (.iload 8) else none) else (bif Nat.beq pc 341 then some (.iload 16) else none)))) else (bif Nat.ble pc 349 then (bif Nat.ble pc 345 then (bif Nat.ble pc 343 then (bif Nat.beq pc 343 then some (.iload 14) else none) else (bif Nat.beq pc 345 then some (.iload 9) else none)) else (bif Nat.ble pc 347 then (bif Nat.beq pc 347 then some (.lload 10) else none) else (bif Nat.beq pc 349 then some (.invokestatic 14) else none))) else (bif Nat.ble pc 353 then (bif Nat.ble pc 352 then (bif Nat.beq pc 352 then some (.bastore) else none) else (bif Nat.beq pc 353 then some (.dup) else none)) else (bif Nat.ble pc 354 then (bif Nat.beq pc 354 then some (.bipush 9) else none) else (bif Nat.ble pc 356 then (bif Nat.beq pc 356 then some (.bipush 9) else none) else (bif Nat.beq pc 358 then some (.iload 5) else none)))))))) else (bif Nat.ble pc 423 then (bif Nat.ble pc 391 then (bif Nat.ble pc 375 then (bif Nat.ble pc 366 then (bif Nat.ble pc 362 then (bif Nat.ble pc 360 then (bif Nat.beq pc 360 then some (.iload 6) else none) else (bif Nat.beq pc 362 then some (.iload 8) else none)) else (bif Nat.ble pc 364 then (bif Nat.beq pc 364 then some (.iload 16) else none) else (bif Nat.beq pc 366 then some (.iload 14) else none))) else (bif Nat.ble pc 370 then (bif Nat.ble pc 368 then (bif Nat.beq pc 368 then some (.iload 9) else none) else (bif Nat.beq pc 370 then some (.lload 10) else none)) else (bif Nat.ble pc 372 then (bif Nat.beq pc 372 then some (.invokestatic 14) else none) else (bif Nat.beq pc 375 then some (.bastore) else none)))) else (bif Nat.ble pc 381 then (bif Nat.ble pc 377 then (bif Nat.ble pc 376 then (bif Nat.beq pc 376 then some (.dup) else none) else (bif Nat.beq pc 377 then some (.bipush 10) else none)) else (bif Nat.ble pc 379 then (bif Nat.beq pc 379 then some (.bipush 10) else none) else (bif Nat.beq pc 381 then some (.iload 5) else none))) else (bif Nat.ble pc 385 then (bif Nat.ble pc 383 then (bif Nat.beq pc 383 then some (.iload 6) else none) else (bif Nat.beq pc 385 then some (.iload 8) else none)) else (bif Nat.ble pc 387 then (bif Nat.beq pc 387 then some (.iload 16) else none) else (bif Nat.ble pc 389 then (bif Nat.beq pc 389 then some (.iload 14) else none) else (bif Nat.beq pc 391 then some (.iload 9) else none)))))) else (bif Nat.ble pc 406 then (bif Nat.ble pc 399 then (bif Nat.ble pc 395 then (bif Nat.ble pc 393 then (bif Nat.beq pc 393 then some (.lload 10) else none) else (bif Nat.beq pc 395 then some (.invokestatic 14) else none)) else (bif Nat.ble pc 398 then (bif Nat.beq pc 398 then some (.bastore) else none) else (bif Nat.beq pc 399 then some (.dup) else none))) else (bif Nat.ble pc 402 then (bif Nat.ble pc 400 then (bif Nat.beq pc 400 then some (.bipush 11) else none) else (bif Nat.beq pc 402 then some (.bipush 11) else none)) else (bif Nat.ble pc 404 then (bif Nat.beq pc 404 then some (.iload 5) else none) else (bif Nat.beq pc 406 then some (.iload 6) else none)))) else (bif Nat.ble pc 414 then (bif Nat.ble pc 410 then (bif Nat.ble pc 408 then (bif Nat.beq pc 408 then some (.iload 8) else none) else (bif Nat.beq pc 410 then some (.iload 16) else none)) else (bif Nat.ble pc 412 then (bif Nat.beq pc 412 then some (.iload 14) else none) else (bif Nat.beq pc 414 then some (.iload 9) else none))) else (bif Nat.ble pc 418 then (bif Nat.ble pc 416 then (bif Nat.beq pc 416 then some (.lload 10) else none) else (bif Nat.beq pc 418 then some (.invokestatic 14) else none)) else (bif Nat.ble pc 421 then (bif Nat.beq pc 421 then some (.bastore) else none) else (bif Nat.ble pc 422 then (bif Nat.beq pc 422 then some (.dup) else none) else (bif Nat.beq pc 423 then some (.bipush 12) else none))))))) else (bif Nat.ble pc 456 then (bif Nat.ble pc 439 then (bif Nat.ble pc 431 then (bif Nat.ble pc 427 then (bif Nat.ble pc 425 then (bif Nat.beq pc 425 then some (.bipush 12) else none) else (bif Nat.beq pc 427 then some (.iload 5) else none)) else (bif Nat.ble pc 429 then (bif Nat.beq pc 429 then some (.iload 6) else none) else (bif Nat.beq pc 431 then some (.iload 8) else none))) else (bif Nat.ble pc 435 then (bif Nat.ble pc 433 then (bif Nat.beq pc 433 then some (.iload 16) else none) else (bif Nat.beq pc 435 then some (.iload 14) else none)) else (bif Nat.ble pc 437 then (bif Nat.beq pc 437 then some (.iload 9) else none) else (bif Nat.beq pc 439 then some (.lload 10) else none)))) else (bif Nat.ble pc 446 then (bif Nat.ble pc 444 then (bif Nat.ble pc 441 then (bif Nat.beq pc 441 then some (.invokestatic 14) else none) else (bif Nat.beq pc 444 then some (.bastore) else none)) else (bif Nat.ble pc 445 then (bif Nat.beq pc 445 then some (.dup) else none) else (bif Nat.beq pc 446 then some (.bipush 13) else none))) else (bif Nat.ble pc 450 then (bif Nat.ble pc 448 then (bif Nat.beq pc 448 then some (.bipush 13) else none) else (bif Nat.beq pc 450 then some (.iload 5) else none)) else (bif Nat.ble pc 452 then (bif Nat.beq pc 452 then some (.iload 6) else none) else (bif Nat.ble pc 454 then (bif Nat.beq pc 454 then some (.iload 8) else none) else (bif Nat.beq pc 456 then some (.iload 16) else none)))))) else (bif Nat.ble pc 471 then (bif Nat.ble pc 464 then (bif Nat.ble pc 460 then (bif Nat.ble pc 458 then (bif Nat.beq pc 458 then some (.iload 14) else none) else (bif Nat.beq pc 460 then some (.iload 9) else none)) else (bif Nat.ble pc 462 then (bif Nat.beq pc 462 then some (.lload 10) else none) else (bif Nat.beq pc 464 then some (.invokestatic 14) else none))) else (bif Nat.ble pc 468 then (bif Nat.ble pc 467 then (bif Nat.beq pc 467 then some (.bastore) else none) else (bif Nat.beq pc 468 then some (.dup) else none)) else (bif Nat.ble pc 469 then (bif Nat.beq pc 469 then some (.bipush 14) else none) else (bif Nat.beq pc 471 then some (.bipush 14) else none)))) else (bif Nat.ble pc 479 then (bif Nat.ble pc 475 then (bif Nat.ble pc 473 then (bif Nat.beq pc 473 then some (.iload 5) else none) else (bif Nat.beq pc 475 then some (.iload 6) else none)) else (bif Nat.ble pc 477 then (bif Nat.beq pc 477 then some (.iload 8) else none) else (bif Nat.beq pc 479 then some (.iload 16) else none))) else (bif Nat.ble pc 483 then (bif Nat.ble pc 481 then (bif Nat.beq pc 481 then some (.iload 14) else none) else (bif Nat.beq pc 483 then some (.iload 9) else none)) else (bif Nat.ble pc 485 then (bif Nat.beq pc 485 then some (.lload 10) else none) else (bif Nat.ble pc 487 then (bif Nat.beq pc 487 then some (.invokestatic 14) else none) else (bif Nat.beq pc 490 then some (.bastore) else none)))))))))) else (bif Nat.ble pc 749 then (bif Nat.ble pc 619 then (bif Nat.ble pc 554 then (bif Nat.ble pc 521 then (bif Nat.ble pc 504 then (bif Nat.ble pc 496 then (bif Nat.ble pc 492 then (bif Nat.ble pc 491 then (bif Nat.beq pc 491 then some (.dup) else none) else (bif Nat.beq pc 492 then some (.bipush 15) else none)) else (bif Nat.ble pc 494 then (bif Nat.beq pc 494 then some (.bipush 15) else none) else (bif Nat.beq pc 496 then some (.iload 5) else none))) else (bif Nat.ble pc 500 then (bif Nat.ble pc 498 then (bif Nat.beq pc 498 then some (.iload 6) else none) else (bif Nat.beq pc 500 then some (.iload 8) else none)) else (bif Nat.ble pc 502 then (bif Nat.beq pc 502 then some (.iload 16) else none) else (bif Nat.beq pc 504 then some (.iload 14) else none)))) else (bif Nat.ble pc 513 then (bif Nat.ble pc 508 then (bif Nat.ble pc 506 then (bif Nat.beq pc 506 then some (.iload 9) else none) else (bif Nat.beq pc 508 then some (.lload 10) else none)) else (bif Nat.ble pc 510 then (bif Nat.beq pc 510 then some (.invokestatic 14) else none) else (bif Nat.beq pc 513 then some (.bastore) else none))) else (bif Nat.ble pc 515 then (bif Nat.ble pc 514 then (bif Nat.beq pc 514 then some (.dup) else none) else (bif Nat.beq pc 515 then some (.bipush 16) else none)) else (bif Nat.ble pc 517 then (bif Nat.beq pc 517 then some (.bipush 16) else none) else (bif Nat.ble pc 519 then (bif Nat.beq pc 519 then some (.iload 5) else none) else (bif Nat.beq pc 521 then some (.iload 6) else none)))))) else (bif Nat.ble pc 537 then (bif Nat.ble pc 529 then (bif Nat.ble pc 525 then (bif Nat.ble pc 523 then (bif Nat.beq pc 523 then some (.iload 8) else none) else (bif Nat.beq pc 525 then some (.iload 16) else none)) else (bif Nat.ble pc 527 then (bif Nat.beq pc 527 then some (.iload 14) else none) else (bif Nat.beq pc 529 then some (.iload 9) else none))) else (bif Nat.ble pc 533 then (bif Nat.ble pc 531 then (bif Nat.beq pc 531 then some (.lload 10) else none) else (bif Nat.beq pc 533 then some (.invokestatic 14) else none)) else (bif Nat.ble pc 536 then (bif Nat.beq pc 536 then some (.bastore) else none) else (bif Nat.beq pc 537 then some (.dup) else none)))) else (bif Nat.ble pc 544 then (bif Nat.ble pc 540 then (bif Nat.ble pc 538 then (bif Nat.beq pc 538 then some (.bipush 17) else none) else (bif Nat.beq pc 540 then some (.bipush 17) else none)) else (bif Nat.ble pc 542 then (bif Nat.beq pc 542 then some (.iload 5) else none) else (bif Nat.beq pc 544 then some (.iload 6) else none))) else (bif Nat.ble pc 548 then (bif Nat.ble pc 546 then (bif Nat.beq pc 546 then some (.iload 8) else none) else (bif Nat.beq pc 548 then some (.iload 16) else none)) else (bif Nat.ble pc 550 then (bif Nat.beq pc 550 then some (.iload 14) else none) else (bif Nat.ble pc 552 then (bif Nat.beq pc 552 then some (.iload 9) else none) else (bif Nat.beq pc 554 then some (.lload 10) else none))))))) else (bif Nat.ble pc 586 then (bif Nat.ble pc 569 then (bif Nat.ble pc 561 then (bif Nat.ble pc 559 then (bif Nat.ble pc 556 then (bif Nat.beq pc 556 then some (.invokestatic 14) else none) else (bif Nat.beq pc 559 then some (.bastore) else none)) else (bif Nat.ble pc 560 then (bif Nat.beq pc 560 then some (.dup) else none) else (bif Nat.beq pc 561 then some (.bipush 18) else none))) else (bif Nat.ble pc 565 then (bif Nat.ble pc 563 then (bif Nat.beq pc 563 then some (.bipush 18) else none) else (bif Nat.beq pc 565 then some (.iload 5) else none)) else (bif Nat.ble pc 567 then (bif Nat.beq pc 567 then some (.iload 6) else none) else (bif Nat.beq pc 569 then some (.iload 8) else none)))) else (bif Nat.ble pc 577 then (bif Nat.ble pc 573 then (bif Nat.ble pc 571 then (bif Nat.beq pc 571 then some (.iload 16) else none) else (bif Nat.beq pc 573 then some (.iload 14) else none)) else (bif Nat.ble pc 575 then (bif Nat.beq pc 575 then some (.iload 9) else none) else (bif Nat.beq pc 577 then some (.lload 10) else none))) else (bif Nat.ble pc 582 then (bif Nat.ble pc 579 then (bif Nat.beq pc 579 then some (.invokestatic 14) else none) else (bif Nat.beq pc 582 then some (.bastore) else none)) else (bif Nat.ble pc 583 then (bif Nat.beq pc 583 then some (.dup) else none) else (bif Nat.ble pc 584 then (bif Nat.beq pc 584 then some (.bipush 19) else none) else (bif Nat.beq pc 586 then some (.bipush 19) else none)))))) else (bif Nat.ble pc 602 then (bif Nat.ble pc 594 then (bif Nat.ble pc 590 then (bif Nat.ble pc 588 then (bif Nat.beq pc 588 then some (.iload 5) else none) else (bif Nat.beq pc 590 then some (.iload 6) else none)) else (bif Nat.ble pc 592 then (bif Nat.beq pc 592 then some (.iload 8) else none) else (bif Nat.beq pc 594 then some (.iload 16) else none))) else (bif Nat.ble pc 598 then (bif Nat.ble pc 596 then (bif Nat.beq pc 596 then some (.iload 14) else none) else (bif Nat.beq pc 598 then some (.iload 9) else none)) else (bif Nat.ble pc 600 then (bif Nat.beq pc 600 then some (.lload 10) else none) else (bif Nat.beq pc 602 then some (.invokestatic 14) else none)))) else (bif Nat.ble pc 609 then (bif Nat.ble pc 606 then (bif Nat.ble pc 605 then (bif Nat.beq pc 605 then some (.bastore) else none) else (bif Nat.beq pc 606 then some (.dup) else none)) else (bif Nat.ble pc 607 then (bif Nat.beq pc 607 then some (.bipush 20) else none) else (bif Nat.beq pc 609 then some (.bipush 20) else none))) else (bif Nat.ble pc 613 then (bif Nat.ble pc 611 then (bif Nat.beq pc 611 then some (.iload 5) else none) else (bif Nat.beq pc 613 then some (.iload 6) else none)) else (bif Nat.ble pc 615 then (bif Nat.beq pc 615 then some (.iload 8) else none) else (bif Nat.ble pc 617 then (bif Nat.beq pc 617 then some (.iload 16) else none) else (bif Nat.beq pc 619 then some (.iload 14) else none)))))))) else (bif Nat.ble pc 684 then (bif Nat.ble pc 652 then (bif Nat.ble pc 634 then (bif Nat.ble pc 628 then (bif Nat.ble pc 623 then (bif Nat.ble pc 621 then (bif Nat.beq pc 621 then some (.iload 9) else none) else (bif Nat.beq pc 623 then some (.lload 10) else none)) else (bif Nat.ble pc 625 then (bif Nat.beq pc 625 then some (.invokestatic 14) else none) else (bif Nat.beq pc 628 then some (.bastore) else none))) else (bif Nat.ble pc 630 then (bif Nat.ble pc 629 then (bif Nat.beq pc 629 then some (.dup) else none) else (bif Nat.beq pc 630 then some (.bipush 21) else none)) else (bif Nat.ble pc 632 then (bif Nat.beq pc 632 then some (.bipush 21) else none) else (bif Nat.beq pc 634 then some (.iload 5) else none)))) else (bif Nat.ble pc 642 then (bif Nat.ble pc 638 then (bif Nat.ble pc 636 then (bif Nat.beq pc 636 then some (.iload 6) else none) else (bif Nat.beq pc 638 then some (.iload 8) else none)) else (bif Nat.ble pc 640 then (bif Nat.beq pc 640 then some (.iload 16) else none) else (bif Nat.beq pc 642 then some (.iload 14) else none))) else (bif Nat.ble pc 646 then (bif Nat.ble pc 644 then (bif Nat.beq pc 644 then some (.iload 9) else none) else (bif Nat.beq pc 646 then some (.lload 10) else none)) else (bif Nat.ble pc 648 then (bif Nat.beq pc 648 then some (.invokestatic 14) else none) else (bif Nat.ble pc 651 then (bif Nat.beq pc 651 then some (.bastore) else none) else (bif Nat.beq pc 652 then some (.dup) else none)))))) else (bif Nat.ble pc 667 then (bif Nat.ble pc 659 then (bif Nat.ble pc 655 then (bif Nat.ble pc 653 then (bif Nat.beq pc 653 then some (.bipush 22) else none) else (bif Nat.beq pc 655 then some (.bipush 22) else none)) else (bif Nat.ble pc 657 then (bif Nat.beq pc 657 then some (.iload 5) else none) else (bif Nat.beq pc 659 then some (.iload 6) else none))) else (bif Nat.ble pc 663 then (bif Nat.ble pc 661 then (bif Nat.beq pc 661 then some (.iload 8) else none) else (bif Nat.beq pc 663 then some (.iload 16) else none)) else (bif Nat.ble pc 665 then (bif Nat.beq pc 665 then some (.iload 14) else none) else (bif Nat.beq pc 667 then some (.iload 9) else none)))) else (bif Nat.ble pc 675 then (bif Nat.ble pc 671 then (bif Nat.ble pc 669 then (bif Nat.beq pc 669 then some (.lload 10) else none) else (bif Nat.beq pc 671 then some (.invokestatic 14) else none)) else (bif Nat.ble pc 674 then (bif Nat.beq pc 674 then some (.bastore) else none) else (bif Nat.beq pc 675 then some (.dup) else none))) else (bif Nat.ble pc 678 then (bif Nat.ble pc 676 then (bif Nat.beq pc 676 then some (.bipush 23) else none) else (bif Nat.beq pc 678 then some (.bipush 23) else none)) else (bif Nat.ble pc 680 then (bif Nat.beq pc 680 then some (.iload 5) else none) else (bif Nat.ble pc 682 then (bif Nat.beq pc 682 then some (.iload 6) else none) else (bif Nat.beq pc 684 then some (.iload 8) else none))))))) else (bif Nat.ble pc 717 then (bif Nat.ble pc 699 then (bif Nat.ble pc 692 then (bif Nat.ble pc 688 then (bif Nat.ble pc 686 then (bif Nat.beq pc 686 then some (.iload 16) else none) else (bif Nat.beq pc 688 then some (.iload 14) else none)) else (bif Nat.ble pc 690 then (bif Nat.beq pc 690 then some (.iload 9) else none) else (bif Nat.beq pc 692 then some (.lload 10) else none))) else (bif Nat.ble pc 697 then (bif Nat.ble pc 694 then (bif Nat.beq pc 694 then some (.invokestatic 14) else none) else (bif Nat.beq pc 697 then some (.bastore) else none)) else (bif Nat.ble pc 698 then (bif Nat.beq pc 698 then some (.dup) else none) else (bif Nat.beq pc 699 then some (.bipush 24) else none)))) else (bif Nat.ble pc 707 then (bif Nat.ble pc 703 then (bif Nat.ble pc 701 then (bif Nat.beq pc 701 then some (.bipush 24) else none) else (bif Nat.beq pc 703 then some (.iload 5) else none)) else (bif Nat.ble pc 705 then (bif Nat.beq pc 705 then some (.iload 6) else none) else (bif Nat.beq pc 707 then some (.iload 8) else none))) else (bif Nat.ble pc 711 then (bif Nat.ble pc 709 then (bif Nat.beq pc 709 then some (.iload 16) else none) else (bif Nat.beq pc 711 then some (.iload 14) else none)) else (bif Nat.ble pc 713 then (bif Nat.beq pc 713 then some (.iload 9) else none) else (bif Nat.ble pc 715 then (bif Nat.beq pc 715 then some (.lload 10) else none) else (bif Nat.beq pc 717 then some (.invokestatic 14) else none)))))) else (bif Nat.ble pc 732 then (bif Nat.ble pc 724 then (bif Nat.ble pc 721 then (bif Nat.ble pc 720 then (bif Nat.beq pc 720 then some (.bastore) else none) else (bif Nat.beq pc 721 then some (.dup) else none)) else (bif Nat.ble pc 722 then (bif Nat.beq pc 722 then some (.bipush 25) else none) else (bif Nat.beq pc 724 then some (.bipush 25) else none))) else (bif Nat.ble pc 728 then (bif Nat.ble pc 726 then (bif Nat.beq pc 726 then some (.iload 5) else none) else (bif Nat.beq pc 728 then some (.iload 6) else none)) else (bif Nat.ble pc 730 then (bif Nat.beq pc 730 then some (.iload 8) else none) else (bif Nat.beq pc 732 then some (.iload 16) else none)))) else (bif Nat.ble pc 740 then (bif Nat.ble pc 736 then (bif Nat.ble pc 734 then (bif Nat.beq pc 734 then some (.iload 14) else none) else (bif Nat.beq pc 736 then some (.iload 9) else none)) else (bif Nat.ble pc 738 then (bif Nat.beq pc 738 then some (.lload 10) else none) else (bif Nat.beq pc 740 then some (.invokestatic 14) else none))) else (bif Nat.ble pc 744 then (bif Nat.ble pc 743 then (bif Nat.beq pc 743 then some (.bastore) else none) else (bif Nat.beq pc 744 then some (.astore 17) else none)) else (bif Nat.ble pc 746 then (bif Nat.beq pc 746 then some (.iconst 3) else none) else (bif Nat.ble pc 747 then (bif Nat.beq pc 747 then some (.newarray .byte) else none) else (bif Nat.beq pc 749 then some (.dup) else none))))))))) else (bif Nat.ble pc 881 then (bif Nat.ble pc 810 then (bif Nat.ble pc 775 then (bif Nat.ble pc 759 then (bif Nat.ble pc 754 then (bif Nat.ble pc 751 then (bif Nat.ble pc 750 then (bif Nat.beq pc 750 then some (.iconst 0) else none) else (bif Nat.beq pc 751 then some (.bipush 49) else none)) else (bif Nat.ble pc 753 then (bif Nat.beq pc 753 then some (.bastore) else none) else (bif Nat.beq pc 754 then some (.dup) else none))) else (bif Nat.ble pc 756 then (bif Nat.ble pc 755 then (bif Nat.beq pc 755 then some (.iconst 1) else none) else (bif Nat.beq pc 756 then some (.bipush 46) else none)) else (bif Nat.ble pc 758 then (bif Nat.beq pc 758 then some (.bastore) else none) else (bif Nat.beq pc 759 then some (.dup) else none)))) else (bif Nat.ble pc 764 then (bif Nat.ble pc 761 then (bif Nat.ble pc 760 then (bif Nat.beq pc 760 then some (.iconst 2) else none) else (bif Nat.beq pc 761 then some (.bipush 53) else none)) else (bif Nat.ble pc 763 then (bif Nat.beq pc 763 then some (.bastore) else none) else (bif Nat.beq pc 764 then some (.astore 18) else none))) else (bif Nat.ble pc 769 then (bif Nat.ble pc 766 then (bif Nat.beq pc 766 then some (.new 20) else none) else (bif Nat.beq pc 769 then some (.dup) else none)) else (bif Nat.ble pc 770 then (bif Nat.beq pc 770 then some (.invokespecial 22) else none) else (bif Nat.ble pc 773 then (bif Nat.beq pc 773 then some (.astore 19) else none) else (bif Nat.beq pc 775 then some (.aload 19) else none)))))) else (bif Nat.ble pc 790 then (bif Nat.ble pc 781 then (bif Nat.ble pc 779 then (bif Nat.ble pc 777 then (bif Nat.beq pc 777 then some (.aload 18) else none) else (bif Nat.beq pc 779 then some (.iconst 0) else none)) else (bif Nat.ble pc 780 then (bif Nat.beq pc 780 then some (.iconst 3) else none) else (bif Nat.beq pc 781 then some (.invokevirtual 23) else none))) else (bif Nat.ble pc 785 then (bif Nat.ble pc 784 then (bif Nat.beq pc 784 then some (.iconst 3) else none) else (bif Nat.beq pc 785 then some (.if_icmp .ne 24) else none)) else (bif Nat.ble pc 788 then (bif Nat.beq pc 788 then some (.aload 19) else none) else (bif Nat.beq pc 790 then some (.invokevirtual 27) else none)))) else (bif Nat.ble pc 800 then (bif Nat.ble pc 796 then (bif Nat.ble pc 793 then (bif Nat.beq pc 793 then some (.ldc2_w 31) else none) else (bif Nat.beq pc 796 then some (.lcmp) else none)) else (bif Nat.ble pc 797 then (bif Nat.beq pc 797 then some (.ifCond .ne 12) else none) else (bif Nat.beq pc 800 then some (.aload 19) else none))) else (bif Nat.ble pc 805 then (bif Nat.ble pc 802 then (bif Nat.beq pc 802 then some (.invokevirtual 33) else none) else (bif Nat.beq pc 805 then some (.iconst 1) else none)) else (bif Nat.ble pc 806 then (bif Nat.beq pc 806 then some (.if_icmp .eq 5) else none) else (bif Nat.ble pc 809 then (bif Nat.beq pc 809 then some (.iconst 0) else none) else (bif Nat.beq pc 810 then some (.ireturn) else none))))))) else (bif Nat.ble pc 844 then (bif Nat.ble pc 825 then (bif Nat.ble pc 817 then (bif Nat.ble pc 813 then (bif Nat.ble pc 811 then (bif Nat.beq pc 811 then some (.aload 19) else none) else (bif Nat.beq pc 813 then some (.aload 17) else none)) else (bif Nat.ble pc 815 then (bif Nat.beq pc 815 then some (.iload 5) else none) else (bif Nat.beq pc 817 then some (.iload 12) else none))) else (bif Nat.ble pc 822 then (bif Nat.ble pc 819 then (bif Nat.beq pc 819 then some (.invokevirtual 23) else none) else (bif Nat.beq pc 822 then some (.istore 20) else none)) else (bif Nat.ble pc 824 then (bif Nat.beq pc 824 then some (.lconst 0) else none) else (bif Nat.beq pc 825 then some (.lstore 22) else none)))) else (bif Nat.ble pc 832 then (bif Nat.ble pc 828 then (bif Nat.ble pc 827 then (bif Nat.beq pc 827 then some (.iconst 0) else none) else (bif Nat.beq pc 828 then some (.istore 24) else none)) else (bif Nat.ble pc 830 then (bif Nat.beq pc 830 then some (.iload 12) else none) else (bif Nat.beq pc 832 then some (.iload 5) else none))) else (bif Nat.ble pc 837 then (bif Nat.ble pc 834 then (bif Nat.beq pc 834 then some (.if_icmp .le 13) else none) else (bif Nat.beq pc 837 then some (.iload 8) else none)) else (bif Nat.ble pc 839 then (bif Nat.beq pc 839 then some (.ifCond .eq 14) else none) else (bif Nat.ble pc 842 then (bif Nat.beq pc 842 then some (.iload 6) else none) else (bif Nat.beq pc 844 then some (.ifCond .ne 9) else none)))))) else (bif Nat.ble pc 862 then (bif Nat.ble pc 853 then (bif Nat.ble pc 848 then (bif Nat.ble pc 847 then (bif Nat.beq pc 847 then some (.iconst (-1)) else none) else (bif Nat.beq pc 848 then some (.istore 21) else none)) else (bif Nat.ble pc 850 then (bif Nat.beq pc 850 then some (.goto 125) else none) else (bif Nat.beq pc 853 then some (.iload 12) else none))) else (bif Nat.ble pc 857 then (bif Nat.ble pc 855 then (bif Nat.beq pc 855 then some (.iload 16) else none) else (bif Nat.beq pc 857 then some (.invokestatic 37) else none)) else (bif Nat.ble pc 860 then (bif Nat.beq pc 860 then some (.istore 25) else none) else (bif Nat.beq pc 862 then some (.iload 25) else none)))) else (bif Nat.ble pc 869 then (bif Nat.ble pc 866 then (bif Nat.ble pc 864 then (bif Nat.beq pc 864 then some (.iload 5) else none) else (bif Nat.beq pc 866 then some (.isub) else none)) else (bif Nat.ble pc 867 then (bif Nat.beq pc 867 then some (.istore 26) else none) else (bif Nat.beq pc 869 then some (.iload 8) else none))) else (bif Nat.ble pc 874 then (bif Nat.ble pc 871 then (bif Nat.beq pc 871 then some (.ifCond .eq 14) else none) else (bif Nat.beq pc 874 then some (.iload 26) else none)) else (bif Nat.ble pc 876 then (bif Nat.beq pc 876 then some (.iload 6) else none) else (bif Nat.ble pc 878 then (bif Nat.beq pc 878 then some (.if_icmp .le 7) else none) else (bif Nat.beq pc 881 then some (.iconst 1) else none)))))))) else (bif Nat.ble pc 952 then (bif Nat.ble pc 916 then (bif Nat.ble pc 896 then (bif Nat.ble pc 888 then (bif Nat.ble pc 885 then (bif Nat.ble pc 882 then (bif Nat.beq pc 882 then some (.goto 4) else none) else (bif Nat.beq pc 885 then some (.iconst 0) else none)) else (bif Nat.ble pc 886 then (bif Nat.beq pc 886 then some (.istore 27) else none) else (bif Nat.beq pc 888 then some (.iload 27) else none))) else (bif Nat.ble pc 893 then (bif Nat.ble pc 890 then (bif Nat.beq pc 890 then some (.ifCond .eq 10) else none) else (bif Nat.beq pc 893 then some (.iload 26) else none)) else (bif Nat.ble pc 895 then (bif Nat.beq pc 895 then some (.iconst 1) else none) else (bif Nat.beq pc 896 then some (.isub) else none)))) else (bif Nat.ble pc 904 then (bif Nat.ble pc 900 then (bif Nat.ble pc 897 then (bif Nat.beq pc 897 then some (.goto 5) else none) else (bif Nat.beq pc 900 then some (.iload 26) else none)) else (bif Nat.ble pc 902 then (bif Nat.beq pc 902 then some (.istore 28) else none) else (bif Nat.beq pc 904 then some (.iload 28) else none))) else (bif Nat.ble pc 909 then (bif Nat.ble pc 906 then (bif Nat.beq pc 906 then some (.ifCond .eq 17) else none) else (bif Nat.beq pc 909 then some (.iload 8) else none)) else (bif Nat.ble pc 911 then (bif Nat.beq pc 911 then some (.ifCond .eq 18) else none) else (bif Nat.ble pc 914 then (bif Nat.beq pc 914 then some (.iload 26) else none) else (bif Nat.beq pc 916 then some (.iload 6) else none)))))) else (bif Nat.ble pc 931 then (bif Nat.ble pc 923 then (bif Nat.ble pc 919 then (bif Nat.ble pc 918 then (bif Nat.beq pc 918 then some (.iconst 1) else none) else (bif Nat.beq pc 919 then some (.iadd) else none)) else (bif Nat.ble pc 920 then (bif Nat.beq pc 920 then some (.if_icmp .ne 9) else none) else (bif Nat.beq pc 923 then some (.iconst (-1)) else none))) else (bif Nat.ble pc 926 then (bif Nat.ble pc 924 then (bif Nat.beq pc 924 then some (.istore 21) else none) else (bif Nat.beq pc 926 then some (.goto 49) else none)) else (bif Nat.ble pc 929 then (bif Nat.beq pc 929 then some (.iload 25) else none) else (bif Nat.beq pc 931 then some (.istore 21) else none)))) else (bif Nat.ble pc 940 then (bif Nat.ble pc 935 then (bif Nat.ble pc 933 then (bif Nat.beq pc 933 then some (.iload 28) else none) else (bif Nat.beq pc 935 then some (.bipush 18) else none)) else (bif Nat.ble pc 937 then (bif Nat.beq pc 937 then some (.if_icmp .le 9) else none) else (bif Nat.beq pc 940 then some (.ldc2_w 43) else none))) else (bif Nat.ble pc 946 then (bif Nat.ble pc 943 then (bif Nat.beq pc 943 then some (.goto 14) else none) else (bif Nat.beq pc 946 then some (.lload 10) else none)) else (bif Nat.ble pc 948 then (bif Nat.beq pc 948 then some (.bipush 18) else none) else (bif Nat.ble pc 950 then (bif Nat.beq pc 950 then some (.iload 28) else none) else (bif Nat.beq pc 952 then some (.isub) else none))))))) else (bif Nat.ble pc 984 then (bif Nat.ble pc 968 then (bif Nat.ble pc 959 then (bif Nat.ble pc 956 then (bif Nat.ble pc 953 then (bif Nat.beq pc 953 then some (.invokestatic 45) else none) else (bif Nat.beq pc 956 then some (.ldiv) else none)) else (bif Nat.ble pc 957 then (bif Nat.beq pc 957 then some (.lstore 22) else none) else (bif Nat.beq pc 959 then some (.iload 27) else none))) else (bif Nat.ble pc 964 then (bif Nat.ble pc 961 then (bif Nat.beq pc 961 then some (.ifCond .eq 11) else none) else (bif Nat.beq pc 964 then some (.iload 28) else none)) else (bif Nat.ble pc 966 then (bif Nat.beq pc 966 then some (.iload 6) else none) else (bif Nat.beq pc 968 then some (.isub) else none)))) else (bif Nat.ble pc 975 then (bif Nat.ble pc 972 then (bif Nat.ble pc 969 then (bif Nat.beq pc 969 then some (.goto 4) else none) else (bif Nat.beq pc 972 then some (.iconst 0) else none)) else (bif Nat.ble pc 973 then (bif Nat.beq pc 973 then some (.istore 24) else none) else (bif Nat.beq pc 975 then some (.iload 20) else none))) else (bif Nat.ble pc 979 then (bif Nat.ble pc 977 then (bif Nat.beq pc 977 then some (.iload 21) else none) else (bif Nat.beq pc 979 then some (.if_icmp .eq 5) else none)) else (bif Nat.ble pc 982 then (bif Nat.beq pc 982 then some (.iconst 0) else none) else (bif Nat.ble pc 983 then (bif Nat.beq pc 983 then some (.ireturn) else none) else (bif Nat.beq pc 984 then some (.iload 21) else none)))))) else (bif Nat.ble pc 999 then (bif Nat.ble pc 991 then (bif Nat.ble pc 987 then (bif Nat.ble pc 986 then (bif Nat.beq pc 986 then some (.iconst (-1)) else none) else (bif Nat.beq pc 987 then some (.if_icmp .ne 5) else none)) else (bif Nat.ble pc 990 then (bif Nat.beq pc 990 then some (.iconst 1) else none) else (bif Nat.beq pc 991 then some (.ireturn) else none))) else (bif Nat.ble pc 994 then (bif Nat.ble pc 992 then (bif Nat.beq pc 992 then some (.aload 19) else none) else (bif Nat.beq pc 994 then some (.invokevirtual 27) else none)) else (bif Nat.ble pc 997 then (bif Nat.beq pc 997 then some (.lload 22) else none) else (bif Nat.beq pc 999 then some (.lcmp) else none)))) else (bif Nat.ble pc 1008 then (bif Nat.ble pc 1003 then (bif Nat.ble pc 1000 then (bif Nat.beq pc 1000 then some (.ifCond .ne 17) else none) else (bif Nat.beq pc 1003 then some (.aload 19) else none)) else (bif Nat.ble pc 1005 then (bif Nat.beq pc 1005 then some (.invokevirtual 33) else none) else (bif Nat.beq pc 1008 then some (.iload 24) else none))) else (bif Nat.ble pc 1013 then (bif Nat.ble pc 1010 then (bif Nat.beq pc 1010 then some (.if_icmp .ne 7) else none) else (bif Nat.beq pc 1013 then some (.iconst 1) else none)) else (bif Nat.ble pc 1014 then (bif Nat.beq pc 1014 then some (.goto 4) else none) else (bif Nat.ble pc 1017 then (bif Nat.beq pc 1017 then some (.iconst 0) else none) else (bif Nat.beq pc 1018 then some (.ireturn) else none)))))))))))
def K_0 : MTab := ([(7, .int (65535)), (10, .long (9223372036854775807)), (12, .long (1000000000000000000)), (31, .long (15)), (43, .long (-2))], [], [], [(20, (0, 2, [.long 0, .int 0]))], [.byte], [], [(14, (8, none, 3, B_1)), (37, (2, none, 0, F_6)), (45, (1, none, 2, B_8))], [(23, (4, some 0, 0, B_3)), (27, (1, some 0, 0, B_4)), (33, (1, some 0, 0, B_5))], [(22, (1, some 0, 1, B_2))])
abbrev B_0 : MKall := mmBody K_0 I_0 (some .boolean) 29 1000
theorem chk_0 : mmChk code I_0 1019 = true := by decide +kernel
theorem hI_0 : ∀ pc i, I_0 pc = some i → decode code pc = .ok (i, mmLen i) := mmCut_ok chk_0
theorem T_0 (l : Launch) (Z : State) (a0 : Array Value) (hw : ∀ d ∈ tables_1, d.before a0 Z = true) : mmTabOk CT l Z a0 "com/example/sutac/sutac/csv/PlainDecimalReaderReadPinLaw" "law" room_1 K_0 :=
  ⟨⟨⟨fun x h => by cases h; exact (hw _ (List.mem_of_getElem? (i := 0) rfl)), fun x h => by cases h⟩, ⟨fun x h => (by cases h), fun x h => by cases h; exact (hw _ (List.mem_of_getElem? (i := 1) rfl))⟩, ⟨fun x h => (by cases h), fun x h => by cases h; exact (hw _ (List.mem_of_getElem? (i := 2) rfl))⟩, ⟨fun x h => (by cases h), fun x h => by cases h; exact (hw _ (List.mem_of_getElem? (i := 32) rfl))⟩, ⟨fun x h => (by cases h), fun x h => by cases h; exact (hw _ (List.mem_of_getElem? (i := 67) rfl))⟩, trivial⟩,
   trivial,
   trivial,
   ⟨⟨_, _, rfl, rfl, (hw _ (List.mem_of_getElem? (i := 8) rfl))⟩, trivial⟩,
   ⟨(hw _ (List.mem_of_getElem? (i := 3) rfl)), trivial⟩,
   trivial,
   ⟨mmCallS (hw _ (List.mem_of_getElem? (i := 4) rfl)) (hw _ (List.mem_of_getElem? (i := 5) rfl)) (hw _ (List.mem_of_getElem? (i := 6) rfl)) (hw _ (List.mem_of_getElem? (i := 7) rfl)) (by decide) (G_1 l Z a0 hw) (Nat.le_of_ble_eq_true rfl) (Nat.le_of_ble_eq_true rfl) pd_1 rfl, mmCallS (hw _ (List.mem_of_getElem? (i := 38) rfl)) (hw _ (List.mem_of_getElem? (i := 39) rfl)) (hw _ (List.mem_of_getElem? (i := 40) rfl)) (hw _ (List.mem_of_getElem? (i := 41) rfl)) (by decide) (G_6 l Z a0 hw) (Nat.le_of_ble_eq_true rfl) (Nat.le_of_ble_eq_true rfl) pd_6 rfl, mmCallS (hw _ (List.mem_of_getElem? (i := 45) rfl)) (hw _ (List.mem_of_getElem? (i := 46) rfl)) (hw _ (List.mem_of_getElem? (i := 6) rfl)) (hw _ (List.mem_of_getElem? (i := 47) rfl)) (by decide) (G_8 l Z a0 hw) (Nat.le_of_ble_eq_true rfl) (Nat.le_of_ble_eq_true rfl) pd_8 rfl, trivial⟩,
   ⟨mmCallV rfl (hw _ (List.mem_of_getElem? (i := 17) rfl)) (hw _ (List.mem_of_getElem? (i := 18) rfl)) (hw _ (List.mem_of_getElem? (i := 20) rfl)) (hw _ (List.mem_of_getElem? (i := 19) rfl)) (hw _ (List.mem_of_getElem? (i := 10) rfl)) (hw _ (List.mem_of_getElem? (i := 21) rfl)) (by decide) (G_3 l Z a0 hw) (Nat.le_of_ble_eq_true rfl) (Nat.le_of_ble_eq_true rfl) pd_3 rfl, mmCallV rfl (hw _ (List.mem_of_getElem? (i := 27) rfl)) (hw _ (List.mem_of_getElem? (i := 28) rfl)) (hw _ (List.mem_of_getElem? (i := 30) rfl)) (hw _ (List.mem_of_getElem? (i := 29) rfl)) (hw _ (List.mem_of_getElem? (i := 10) rfl)) (hw _ (List.mem_of_getElem? (i := 31) rfl)) (by decide) (G_4 l Z a0 hw) (Nat.le_of_ble_eq_true rfl) (Nat.le_of_ble_eq_true rfl) pd_4 rfl, mmCallV rfl (hw _ (List.mem_of_getElem? (i := 33) rfl)) (hw _ (List.mem_of_getElem? (i := 34) rfl)) (hw _ (List.mem_of_getElem? (i := 36) rfl)) (hw _ (List.mem_of_getElem? (i := 35) rfl)) (hw _ (List.mem_of_getElem? (i := 10) rfl)) (hw _ (List.mem_of_getElem? (i := 37) rfl)) (by decide) (G_5 l Z a0 hw) (Nat.le_of_ble_eq_true rfl) (Nat.le_of_ble_eq_true rfl) pd_5 rfl, trivial⟩,
   ⟨mmCallI rfl (hw _ (List.mem_of_getElem? (i := 11) rfl)) (hw _ (List.mem_of_getElem? (i := 12) rfl)) (hw _ (List.mem_of_getElem? (i := 10) rfl)) (hw _ (List.mem_of_getElem? (i := 13) rfl)) (by decide) (G_2 l Z a0 hw) (Nat.le_of_ble_eq_true rfl) (Nat.le_of_ble_eq_true rfl) pd_2 rfl, trivial⟩⟩
theorem pl_0 : plainFor x = true := by first | exact plainFor_of_name (by first | (simp [plainName, overriddenIn]; done) | decide +kernel) | decide +kernel
set_option maxRecDepth 65536 in
set_option maxHeartbeats 40000000 in
theorem own_pow (e : Int32) (E : Nat) (he : e.toInt = E) (hE : E ≤ 18) (H : MHeap) : B_8 [.int e] H = some (some (.long (own_p E)), H ++ [own_P], 19) := by
  have hen := own_nn he
  refine mmB_of rfl ?_
  show mmW K_8 I_8 (some .long) 1000 0 [.val (.int e), .unset] [] H 0 _
  refine mmW_steps (k := 1) (n := 999) (pc' := 2) (L' := [.val (.int e), .unset]) (S' := [.int (19 : Int32)]) (H' := H) (sl' := 0) rfl ?_
  refine mmW_newA (n := 998) rfl rfl (by decide) (by decide) ?_
  show mmW K_8 I_8 (some .long) (998) 4 [.val (.int e), .unset] [.ref H.length] (H ++ [.inr (.long, [.long 0, .long 0, .long 0, .long 0, .long 0, .long 0, .long 0, .long 0, .long 0, .long 0, .long 0, .long 0, .long 0, .long 0, .long 0, .long 0, .long 0, .long 0, .long 0])]) 19 _
  refine mmW_steps (k := 3) (n := 995) (pc' := 7) (L' := [.val (.int e), .unset]) (S' := [.long (1 : Int64), .int (0 : Int32), .ref H.length, .ref H.length]) (H' := (H ++ [.inr (.long, [.long 0, .long 0, .long 0, .long 0, .long 0, .long 0, .long 0, .long 0, .long 0, .long 0, .long 0, .long 0, .long 0, .long 0, .long 0, .long 0, .long 0, .long 0, .long 0])])) (sl' := 19) rfl ?_
  refine mmW_lastore (n := 994) rfl (mmNth_last _ _) (by decide) (by decide) ?_
  show mmW K_8 I_8 (some .long) (994) 8 [.val (.int e), .unset] [.ref H.length] (List.set (H ++ [(.inr (.long, [.long 0, .long 0, .long 0, .long 0, .long 0, .long 0, .long 0, .long 0, .long 0, .long 0, .long 0, .long 0, .long 0, .long 0, .long 0, .long 0, .long 0, .long 0, .long 0]) : MObj)]) H.length (.inr (.long, [.long 1, .long 0, .long 0, .long 0, .long 0, .long 0, .long 0, .long 0, .long 0, .long 0, .long 0, .long 0, .long 0, .long 0, .long 0, .long 0, .long 0, .long 0, .long 0]))) 19 _
  rw [mmSet_last]
  refine mmW_steps (k := 3) (n := 991) (pc' := 13) (L' := [.val (.int e), .unset]) (S' := [.long (10 : Int64), .int (1 : Int32), .ref H.length, .ref H.length]) (H' := (H ++ [.inr (.long, [.long 1, .long 0, .long 0, .long 0, .long 0, .long 0, .long 0, .long 0, .long 0, .long 0, .long 0, .long 0, .long 0, .long 0, .long 0, .long 0, .long 0, .long 0, .long 0])])) (sl' := 19) rfl ?_
  refine mmW_lastore (n := 990) rfl (mmNth_last _ _) (by decide) (by decide) ?_
  show mmW K_8 I_8 (some .long) (990) 14 [.val (.int e), .unset] [.ref H.length] (List.set (H ++ [(.inr (.long, [.long 1, .long 0, .long 0, .long 0, .long 0, .long 0, .long 0, .long 0, .long 0, .long 0, .long 0, .long 0, .long 0, .long 0, .long 0, .long 0, .long 0, .long 0, .long 0]) : MObj)]) H.length (.inr (.long, [.long 1, .long 10, .long 0, .long 0, .long 0, .long 0, .long 0, .long 0, .long 0, .long 0, .long 0, .long 0, .long 0, .long 0, .long 0, .long 0, .long 0, .long 0, .long 0]))) 19 _
  rw [mmSet_last]
  refine mmW_steps (k := 3) (n := 987) (pc' := 19) (L' := [.val (.int e), .unset]) (S' := [.long (100 : Int64), .int (2 : Int32), .ref H.length, .ref H.length]) (H' := (H ++ [.inr (.long, [.long 1, .long 10, .long 0, .long 0, .long 0, .long 0, .long 0, .long 0, .long 0, .long 0, .long 0, .long 0, .long 0, .long 0, .long 0, .long 0, .long 0, .long 0, .long 0])])) (sl' := 19) rfl ?_
  refine mmW_lastore (n := 986) rfl (mmNth_last _ _) (by decide) (by decide) ?_
  show mmW K_8 I_8 (some .long) (986) 20 [.val (.int e), .unset] [.ref H.length] (List.set (H ++ [(.inr (.long, [.long 1, .long 10, .long 0, .long 0, .long 0, .long 0, .long 0, .long 0, .long 0, .long 0, .long 0, .long 0, .long 0, .long 0, .long 0, .long 0, .long 0, .long 0, .long 0]) : MObj)]) H.length (.inr (.long, [.long 1, .long 10, .long 100, .long 0, .long 0, .long 0, .long 0, .long 0, .long 0, .long 0, .long 0, .long 0, .long 0, .long 0, .long 0, .long 0, .long 0, .long 0, .long 0]))) 19 _
  rw [mmSet_last]
  refine mmW_steps (k := 3) (n := 983) (pc' := 25) (L' := [.val (.int e), .unset]) (S' := [.long (1000 : Int64), .int (3 : Int32), .ref H.length, .ref H.length]) (H' := (H ++ [.inr (.long, [.long 1, .long 10, .long 100, .long 0, .long 0, .long 0, .long 0, .long 0, .long 0, .long 0, .long 0, .long 0, .long 0, .long 0, .long 0, .long 0, .long 0, .long 0, .long 0])])) (sl' := 19) rfl ?_
  refine mmW_lastore (n := 982) rfl (mmNth_last _ _) (by decide) (by decide) ?_
  show mmW K_8 I_8 (some .long) (982) 26 [.val (.int e), .unset] [.ref H.length] (List.set (H ++ [(.inr (.long, [.long 1, .long 10, .long 100, .long 0, .long 0, .long 0, .long 0, .long 0, .long 0, .long 0, .long 0, .long 0, .long 0, .long 0, .long 0, .long 0, .long 0, .long 0, .long 0]) : MObj)]) H.length (.inr (.long, [.long 1, .long 10, .long 100, .long 1000, .long 0, .long 0, .long 0, .long 0, .long 0, .long 0, .long 0, .long 0, .long 0, .long 0, .long 0, .long 0, .long 0, .long 0, .long 0]))) 19 _
  rw [mmSet_last]
  refine mmW_steps (k := 3) (n := 979) (pc' := 31) (L' := [.val (.int e), .unset]) (S' := [.long (10000 : Int64), .int (4 : Int32), .ref H.length, .ref H.length]) (H' := (H ++ [.inr (.long, [.long 1, .long 10, .long 100, .long 1000, .long 0, .long 0, .long 0, .long 0, .long 0, .long 0, .long 0, .long 0, .long 0, .long 0, .long 0, .long 0, .long 0, .long 0, .long 0])])) (sl' := 19) rfl ?_
  refine mmW_lastore (n := 978) rfl (mmNth_last _ _) (by decide) (by decide) ?_
  show mmW K_8 I_8 (some .long) (978) 32 [.val (.int e), .unset] [.ref H.length] (List.set (H ++ [(.inr (.long, [.long 1, .long 10, .long 100, .long 1000, .long 0, .long 0, .long 0, .long 0, .long 0, .long 0, .long 0, .long 0, .long 0, .long 0, .long 0, .long 0, .long 0, .long 0, .long 0]) : MObj)]) H.length (.inr (.long, [.long 1, .long 10, .long 100, .long 1000, .long 10000, .long 0, .long 0, .long 0, .long 0, .long 0, .long 0, .long 0, .long 0, .long 0, .long 0, .long 0, .long 0, .long 0, .long 0]))) 19 _
  rw [mmSet_last]
  refine mmW_steps (k := 3) (n := 975) (pc' := 37) (L' := [.val (.int e), .unset]) (S' := [.long (100000 : Int64), .int (5 : Int32), .ref H.length, .ref H.length]) (H' := (H ++ [.inr (.long, [.long 1, .long 10, .long 100, .long 1000, .long 10000, .long 0, .long 0, .long 0, .long 0, .long 0, .long 0, .long 0, .long 0, .long 0, .long 0, .long 0, .long 0, .long 0, .long 0])])) (sl' := 19) rfl ?_
  refine mmW_lastore (n := 974) rfl (mmNth_last _ _) (by decide) (by decide) ?_
  show mmW K_8 I_8 (some .long) (974) 38 [.val (.int e), .unset] [.ref H.length] (List.set (H ++ [(.inr (.long, [.long 1, .long 10, .long 100, .long 1000, .long 10000, .long 0, .long 0, .long 0, .long 0, .long 0, .long 0, .long 0, .long 0, .long 0, .long 0, .long 0, .long 0, .long 0, .long 0]) : MObj)]) H.length (.inr (.long, [.long 1, .long 10, .long 100, .long 1000, .long 10000, .long 100000, .long 0, .long 0, .long 0, .long 0, .long 0, .long 0, .long 0, .long 0, .long 0, .long 0, .long 0, .long 0, .long 0]))) 19 _
  rw [mmSet_last]
  refine mmW_steps (k := 3) (n := 971) (pc' := 44) (L' := [.val (.int e), .unset]) (S' := [.long (1000000 : Int64), .int (6 : Int32), .ref H.length, .ref H.length]) (H' := (H ++ [.inr (.long, [.long 1, .long 10, .long 100, .long 1000, .long 10000, .long 100000, .long 0, .long 0, .long 0, .long 0, .long 0, .long 0, .long 0, .long 0, .long 0, .long 0, .long 0, .long 0, .long 0])])) (sl' := 19) rfl ?_
  refine mmW_lastore (n := 970) rfl (mmNth_last _ _) (by decide) (by decide) ?_
  show mmW K_8 I_8 (some .long) (970) 45 [.val (.int e), .unset] [.ref H.length] (List.set (H ++ [(.inr (.long, [.long 1, .long 10, .long 100, .long 1000, .long 10000, .long 100000, .long 0, .long 0, .long 0, .long 0, .long 0, .long 0, .long 0, .long 0, .long 0, .long 0, .long 0, .long 0, .long 0]) : MObj)]) H.length (.inr (.long, [.long 1, .long 10, .long 100, .long 1000, .long 10000, .long 100000, .long 1000000, .long 0, .long 0, .long 0, .long 0, .long 0, .long 0, .long 0, .long 0, .long 0, .long 0, .long 0, .long 0]))) 19 _
  rw [mmSet_last]
  refine mmW_steps (k := 3) (n := 967) (pc' := 51) (L' := [.val (.int e), .unset]) (S' := [.long (10000000 : Int64), .int (7 : Int32), .ref H.length, .ref H.length]) (H' := (H ++ [.inr (.long, [.long 1, .long 10, .long 100, .long 1000, .long 10000, .long 100000, .long 1000000, .long 0, .long 0, .long 0, .long 0, .long 0, .long 0, .long 0, .long 0, .long 0, .long 0, .long 0, .long 0])])) (sl' := 19) rfl ?_
  refine mmW_lastore (n := 966) rfl (mmNth_last _ _) (by decide) (by decide) ?_
  show mmW K_8 I_8 (some .long) (966) 52 [.val (.int e), .unset] [.ref H.length] (List.set (H ++ [(.inr (.long, [.long 1, .long 10, .long 100, .long 1000, .long 10000, .long 100000, .long 1000000, .long 0, .long 0, .long 0, .long 0, .long 0, .long 0, .long 0, .long 0, .long 0, .long 0, .long 0, .long 0]) : MObj)]) H.length (.inr (.long, [.long 1, .long 10, .long 100, .long 1000, .long 10000, .long 100000, .long 1000000, .long 10000000, .long 0, .long 0, .long 0, .long 0, .long 0, .long 0, .long 0, .long 0, .long 0, .long 0, .long 0]))) 19 _
  rw [mmSet_last]
  refine mmW_steps (k := 3) (n := 963) (pc' := 58) (L' := [.val (.int e), .unset]) (S' := [.long (100000000 : Int64), .int (8 : Int32), .ref H.length, .ref H.length]) (H' := (H ++ [.inr (.long, [.long 1, .long 10, .long 100, .long 1000, .long 10000, .long 100000, .long 1000000, .long 10000000, .long 0, .long 0, .long 0, .long 0, .long 0, .long 0, .long 0, .long 0, .long 0, .long 0, .long 0])])) (sl' := 19) rfl ?_
  refine mmW_lastore (n := 962) rfl (mmNth_last _ _) (by decide) (by decide) ?_
  show mmW K_8 I_8 (some .long) (962) 59 [.val (.int e), .unset] [.ref H.length] (List.set (H ++ [(.inr (.long, [.long 1, .long 10, .long 100, .long 1000, .long 10000, .long 100000, .long 1000000, .long 10000000, .long 0, .long 0, .long 0, .long 0, .long 0, .long 0, .long 0, .long 0, .long 0, .long 0, .long 0]) : MObj)]) H.length (.inr (.long, [.long 1, .long 10, .long 100, .long 1000, .long 10000, .long 100000, .long 1000000, .long 10000000, .long 100000000, .long 0, .long 0, .long 0, .long 0, .long 0, .long 0, .long 0, .long 0, .long 0, .long 0]))) 19 _
  rw [mmSet_last]
  refine mmW_steps (k := 3) (n := 959) (pc' := 65) (L' := [.val (.int e), .unset]) (S' := [.long (1000000000 : Int64), .int (9 : Int32), .ref H.length, .ref H.length]) (H' := (H ++ [.inr (.long, [.long 1, .long 10, .long 100, .long 1000, .long 10000, .long 100000, .long 1000000, .long 10000000, .long 100000000, .long 0, .long 0, .long 0, .long 0, .long 0, .long 0, .long 0, .long 0, .long 0, .long 0])])) (sl' := 19) rfl ?_
  refine mmW_lastore (n := 958) rfl (mmNth_last _ _) (by decide) (by decide) ?_
  show mmW K_8 I_8 (some .long) (958) 66 [.val (.int e), .unset] [.ref H.length] (List.set (H ++ [(.inr (.long, [.long 1, .long 10, .long 100, .long 1000, .long 10000, .long 100000, .long 1000000, .long 10000000, .long 100000000, .long 0, .long 0, .long 0, .long 0, .long 0, .long 0, .long 0, .long 0, .long 0, .long 0]) : MObj)]) H.length (.inr (.long, [.long 1, .long 10, .long 100, .long 1000, .long 10000, .long 100000, .long 1000000, .long 10000000, .long 100000000, .long 1000000000, .long 0, .long 0, .long 0, .long 0, .long 0, .long 0, .long 0, .long 0, .long 0]))) 19 _
  rw [mmSet_last]
  refine mmW_steps (k := 3) (n := 955) (pc' := 72) (L' := [.val (.int e), .unset]) (S' := [.long (10000000000 : Int64), .int (10 : Int32), .ref H.length, .ref H.length]) (H' := (H ++ [.inr (.long, [.long 1, .long 10, .long 100, .long 1000, .long 10000, .long 100000, .long 1000000, .long 10000000, .long 100000000, .long 1000000000, .long 0, .long 0, .long 0, .long 0, .long 0, .long 0, .long 0, .long 0, .long 0])])) (sl' := 19) rfl ?_
  refine mmW_lastore (n := 954) rfl (mmNth_last _ _) (by decide) (by decide) ?_
  show mmW K_8 I_8 (some .long) (954) 73 [.val (.int e), .unset] [.ref H.length] (List.set (H ++ [(.inr (.long, [.long 1, .long 10, .long 100, .long 1000, .long 10000, .long 100000, .long 1000000, .long 10000000, .long 100000000, .long 1000000000, .long 0, .long 0, .long 0, .long 0, .long 0, .long 0, .long 0, .long 0, .long 0]) : MObj)]) H.length (.inr (.long, [.long 1, .long 10, .long 100, .long 1000, .long 10000, .long 100000, .long 1000000, .long 10000000, .long 100000000, .long 1000000000, .long 10000000000, .long 0, .long 0, .long 0, .long 0, .long 0, .long 0, .long 0, .long 0]))) 19 _
  rw [mmSet_last]
  refine mmW_steps (k := 3) (n := 951) (pc' := 79) (L' := [.val (.int e), .unset]) (S' := [.long (100000000000 : Int64), .int (11 : Int32), .ref H.length, .ref H.length]) (H' := (H ++ [.inr (.long, [.long 1, .long 10, .long 100, .long 1000, .long 10000, .long 100000, .long 1000000, .long 10000000, .long 100000000, .long 1000000000, .long 10000000000, .long 0, .long 0, .long 0, .long 0, .long 0, .long 0, .long 0, .long 0])])) (sl' := 19) rfl ?_
  refine mmW_lastore (n := 950) rfl (mmNth_last _ _) (by decide) (by decide) ?_
  show mmW K_8 I_8 (some .long) (950) 80 [.val (.int e), .unset] [.ref H.length] (List.set (H ++ [(.inr (.long, [.long 1, .long 10, .long 100, .long 1000, .long 10000, .long 100000, .long 1000000, .long 10000000, .long 100000000, .long 1000000000, .long 10000000000, .long 0, .long 0, .long 0, .long 0, .long 0, .long 0, .long 0, .long 0]) : MObj)]) H.length (.inr (.long, [.long 1, .long 10, .long 100, .long 1000, .long 10000, .long 100000, .long 1000000, .long 10000000, .long 100000000, .long 1000000000, .long 10000000000, .long 100000000000, .long 0, .long 0, .long 0, .long 0, .long 0, .long 0, .long 0]))) 19 _
  rw [mmSet_last]
  refine mmW_steps (k := 3) (n := 947) (pc' := 86) (L' := [.val (.int e), .unset]) (S' := [.long (1000000000000 : Int64), .int (12 : Int32), .ref H.length, .ref H.length]) (H' := (H ++ [.inr (.long, [.long 1, .long 10, .long 100, .long 1000, .long 10000, .long 100000, .long 1000000, .long 10000000, .long 100000000, .long 1000000000, .long 10000000000, .long 100000000000, .long 0, .long 0, .long 0, .long 0, .long 0, .long 0, .long 0])])) (sl' := 19) rfl ?_
  refine mmW_lastore (n := 946) rfl (mmNth_last _ _) (by decide) (by decide) ?_
  show mmW K_8 I_8 (some .long) (946) 87 [.val (.int e), .unset] [.ref H.length] (List.set (H ++ [(.inr (.long, [.long 1, .long 10, .long 100, .long 1000, .long 10000, .long 100000, .long 1000000, .long 10000000, .long 100000000, .long 1000000000, .long 10000000000, .long 100000000000, .long 0, .long 0, .long 0, .long 0, .long 0, .long 0, .long 0]) : MObj)]) H.length (.inr (.long, [.long 1, .long 10, .long 100, .long 1000, .long 10000, .long 100000, .long 1000000, .long 10000000, .long 100000000, .long 1000000000, .long 10000000000, .long 100000000000, .long 1000000000000, .long 0, .long 0, .long 0, .long 0, .long 0, .long 0]))) 19 _
  rw [mmSet_last]
  refine mmW_steps (k := 3) (n := 943) (pc' := 93) (L' := [.val (.int e), .unset]) (S' := [.long (10000000000000 : Int64), .int (13 : Int32), .ref H.length, .ref H.length]) (H' := (H ++ [.inr (.long, [.long 1, .long 10, .long 100, .long 1000, .long 10000, .long 100000, .long 1000000, .long 10000000, .long 100000000, .long 1000000000, .long 10000000000, .long 100000000000, .long 1000000000000, .long 0, .long 0, .long 0, .long 0, .long 0, .long 0])])) (sl' := 19) rfl ?_
  refine mmW_lastore (n := 942) rfl (mmNth_last _ _) (by decide) (by decide) ?_
  show mmW K_8 I_8 (some .long) (942) 94 [.val (.int e), .unset] [.ref H.length] (List.set (H ++ [(.inr (.long, [.long 1, .long 10, .long 100, .long 1000, .long 10000, .long 100000, .long 1000000, .long 10000000, .long 100000000, .long 1000000000, .long 10000000000, .long 100000000000, .long 1000000000000, .long 0, .long 0, .long 0, .long 0, .long 0, .long 0]) : MObj)]) H.length (.inr (.long, [.long 1, .long 10, .long 100, .long 1000, .long 10000, .long 100000, .long 1000000, .long 10000000, .long 100000000, .long 1000000000, .long 10000000000, .long 100000000000, .long 1000000000000, .long 10000000000000, .long 0, .long 0, .long 0, .long 0, .long 0]))) 19 _
  rw [mmSet_last]
  refine mmW_steps (k := 3) (n := 939) (pc' := 100) (L' := [.val (.int e), .unset]) (S' := [.long (100000000000000 : Int64), .int (14 : Int32), .ref H.length, .ref H.length]) (H' := (H ++ [.inr (.long, [.long 1, .long 10, .long 100, .long 1000, .long 10000, .long 100000, .long 1000000, .long 10000000, .long 100000000, .long 1000000000, .long 10000000000, .long 100000000000, .long 1000000000000, .long 10000000000000, .long 0, .long 0, .long 0, .long 0, .long 0])])) (sl' := 19) rfl ?_
  refine mmW_lastore (n := 938) rfl (mmNth_last _ _) (by decide) (by decide) ?_
  show mmW K_8 I_8 (some .long) (938) 101 [.val (.int e), .unset] [.ref H.length] (List.set (H ++ [(.inr (.long, [.long 1, .long 10, .long 100, .long 1000, .long 10000, .long 100000, .long 1000000, .long 10000000, .long 100000000, .long 1000000000, .long 10000000000, .long 100000000000, .long 1000000000000, .long 10000000000000, .long 0, .long 0, .long 0, .long 0, .long 0]) : MObj)]) H.length (.inr (.long, [.long 1, .long 10, .long 100, .long 1000, .long 10000, .long 100000, .long 1000000, .long 10000000, .long 100000000, .long 1000000000, .long 10000000000, .long 100000000000, .long 1000000000000, .long 10000000000000, .long 100000000000000, .long 0, .long 0, .long 0, .long 0]))) 19 _
  rw [mmSet_last]
  refine mmW_steps (k := 3) (n := 935) (pc' := 107) (L' := [.val (.int e), .unset]) (S' := [.long (1000000000000000 : Int64), .int (15 : Int32), .ref H.length, .ref H.length]) (H' := (H ++ [.inr (.long, [.long 1, .long 10, .long 100, .long 1000, .long 10000, .long 100000, .long 1000000, .long 10000000, .long 100000000, .long 1000000000, .long 10000000000, .long 100000000000, .long 1000000000000, .long 10000000000000, .long 100000000000000, .long 0, .long 0, .long 0, .long 0])])) (sl' := 19) rfl ?_
  refine mmW_lastore (n := 934) rfl (mmNth_last _ _) (by decide) (by decide) ?_
  show mmW K_8 I_8 (some .long) (934) 108 [.val (.int e), .unset] [.ref H.length] (List.set (H ++ [(.inr (.long, [.long 1, .long 10, .long 100, .long 1000, .long 10000, .long 100000, .long 1000000, .long 10000000, .long 100000000, .long 1000000000, .long 10000000000, .long 100000000000, .long 1000000000000, .long 10000000000000, .long 100000000000000, .long 0, .long 0, .long 0, .long 0]) : MObj)]) H.length (.inr (.long, [.long 1, .long 10, .long 100, .long 1000, .long 10000, .long 100000, .long 1000000, .long 10000000, .long 100000000, .long 1000000000, .long 10000000000, .long 100000000000, .long 1000000000000, .long 10000000000000, .long 100000000000000, .long 1000000000000000, .long 0, .long 0, .long 0]))) 19 _
  rw [mmSet_last]
  refine mmW_steps (k := 3) (n := 931) (pc' := 114) (L' := [.val (.int e), .unset]) (S' := [.long (10000000000000000 : Int64), .int (16 : Int32), .ref H.length, .ref H.length]) (H' := (H ++ [.inr (.long, [.long 1, .long 10, .long 100, .long 1000, .long 10000, .long 100000, .long 1000000, .long 10000000, .long 100000000, .long 1000000000, .long 10000000000, .long 100000000000, .long 1000000000000, .long 10000000000000, .long 100000000000000, .long 1000000000000000, .long 0, .long 0, .long 0])])) (sl' := 19) rfl ?_
  refine mmW_lastore (n := 930) rfl (mmNth_last _ _) (by decide) (by decide) ?_
  show mmW K_8 I_8 (some .long) (930) 115 [.val (.int e), .unset] [.ref H.length] (List.set (H ++ [(.inr (.long, [.long 1, .long 10, .long 100, .long 1000, .long 10000, .long 100000, .long 1000000, .long 10000000, .long 100000000, .long 1000000000, .long 10000000000, .long 100000000000, .long 1000000000000, .long 10000000000000, .long 100000000000000, .long 1000000000000000, .long 0, .long 0, .long 0]) : MObj)]) H.length (.inr (.long, [.long 1, .long 10, .long 100, .long 1000, .long 10000, .long 100000, .long 1000000, .long 10000000, .long 100000000, .long 1000000000, .long 10000000000, .long 100000000000, .long 1000000000000, .long 10000000000000, .long 100000000000000, .long 1000000000000000, .long 10000000000000000, .long 0, .long 0]))) 19 _
  rw [mmSet_last]
  refine mmW_steps (k := 3) (n := 927) (pc' := 121) (L' := [.val (.int e), .unset]) (S' := [.long (100000000000000000 : Int64), .int (17 : Int32), .ref H.length, .ref H.length]) (H' := (H ++ [.inr (.long, [.long 1, .long 10, .long 100, .long 1000, .long 10000, .long 100000, .long 1000000, .long 10000000, .long 100000000, .long 1000000000, .long 10000000000, .long 100000000000, .long 1000000000000, .long 10000000000000, .long 100000000000000, .long 1000000000000000, .long 10000000000000000, .long 0, .long 0])])) (sl' := 19) rfl ?_
  refine mmW_lastore (n := 926) rfl (mmNth_last _ _) (by decide) (by decide) ?_
  show mmW K_8 I_8 (some .long) (926) 122 [.val (.int e), .unset] [.ref H.length] (List.set (H ++ [(.inr (.long, [.long 1, .long 10, .long 100, .long 1000, .long 10000, .long 100000, .long 1000000, .long 10000000, .long 100000000, .long 1000000000, .long 10000000000, .long 100000000000, .long 1000000000000, .long 10000000000000, .long 100000000000000, .long 1000000000000000, .long 10000000000000000, .long 0, .long 0]) : MObj)]) H.length (.inr (.long, [.long 1, .long 10, .long 100, .long 1000, .long 10000, .long 100000, .long 1000000, .long 10000000, .long 100000000, .long 1000000000, .long 10000000000, .long 100000000000, .long 1000000000000, .long 10000000000000, .long 100000000000000, .long 1000000000000000, .long 10000000000000000, .long 100000000000000000, .long 0]))) 19 _
  rw [mmSet_last]
  refine mmW_steps (k := 3) (n := 923) (pc' := 128) (L' := [.val (.int e), .unset]) (S' := [.long (1000000000000000000 : Int64), .int (18 : Int32), .ref H.length, .ref H.length]) (H' := (H ++ [.inr (.long, [.long 1, .long 10, .long 100, .long 1000, .long 10000, .long 100000, .long 1000000, .long 10000000, .long 100000000, .long 1000000000, .long 10000000000, .long 100000000000, .long 1000000000000, .long 10000000000000, .long 100000000000000, .long 1000000000000000, .long 10000000000000000, .long 100000000000000000, .long 0])])) (sl' := 19) rfl ?_
  refine mmW_lastore (n := 922) rfl (mmNth_last _ _) (by decide) (by decide) ?_
  show mmW K_8 I_8 (some .long) (922) 129 [.val (.int e), .unset] [.ref H.length] (List.set (H ++ [(.inr (.long, [.long 1, .long 10, .long 100, .long 1000, .long 10000, .long 100000, .long 1000000, .long 10000000, .long 100000000, .long 1000000000, .long 10000000000, .long 100000000000, .long 1000000000000, .long 10000000000000, .long 100000000000000, .long 1000000000000000, .long 10000000000000000, .long 100000000000000000, .long 0]) : MObj)]) H.length (.inr (.long, [.long 1, .long 10, .long 100, .long 1000, .long 10000, .long 100000, .long 1000000, .long 10000000, .long 100000000, .long 1000000000, .long 10000000000, .long 100000000000, .long 1000000000000, .long 10000000000000, .long 100000000000000, .long 1000000000000000, .long 10000000000000000, .long 100000000000000000, .long 1000000000000000000]))) 19 _
  rw [mmSet_last]
  rw [own_ptab]
  refine mmW_steps (k := 3) (n := 919) (pc' := 132) (L' := [.val (.int e), .val (.ref H.length)]) (S' := [.int e, .ref H.length]) (H' := (H ++ [.inr (.long, own_l 19 own_p)])) (sl' := 19) rfl ?_
  refine mmW_laload (n := 918) rfl (mmNth_last _ _) (hen.1) (by rw [mmNth_eq, hen.2]; exact own_l_nth own_p (by omega)) ?_
  show mmW K_8 I_8 (some .long) (918) 133 [.val (.int e), .val (.ref H.length)] [.long (own_p E)] (H ++ [.inr (.long, own_l 19 own_p)]) 19 _
  exact mmW_ret (n := 917) (i := .lreturn) rfl rfl ⟨rfl, rfl, rfl⟩
set_option maxRecDepth 65536 in
set_option maxHeartbeats 40000000 in
theorem own_dig (j : Int32) (J : Nat) (hj : j.toInt = J) (hJ : J ≤ 20) (nm : Int64) (NM : Nat) (hn : nm.toInt = NM) (hN : NM < 10 ^ 18) (H : MHeap) : ∃ (d : Int32) (G : MHeap) (ds : Nat), B_7 [.int j, .long nm] H = some (some (.int d), H ++ G, ds) ∧ G.length ≤ 1 ∧ ds ≤ 19 ∧ 0 ≤ d.toInt ∧ d.toInt ≤ 9 ∧ (J < 18 → d.toInt = ((NM / 10 ^ (17 - J) % 10 : Nat) : Int)) := by
  have hlt : j < (18 : Int32) ↔ J < 18 := own_lt hj (B := 18) rfl
  by_cases hc : j < (18 : Int32)
  · have hJ2 := hlt.mp hc
    have hdv := own_dv (own_div hn (E := 17 - J) (by omega))
    refine ⟨((nm / own_p (17 - J)) % (10 : Int64)).toInt32, [own_P], 19, mmB_of rfl ?_, by decide, by decide, hdv.1, hdv.2.1, fun _ => hdv.2.2⟩
    show mmW K_7 I_7 (some .int) 1000 0 [.val (.int j), .val (.long nm), .second] [] H 0 _
    refine mmW_steps (k := 3) (n := 997) (pc' := (if if_icmp.holds .ge j (18 : Int32) = true then 21 else 6)) (L' := [.val (.int j), .val (.long nm), .second]) (S' := []) (H' := H) (sl' := 0) rfl ?_
    refine mmW_f (XT.ii_ge_f (hc)) ?_
    refine mmW_steps (k := 4) (n := 993) (pc' := 11) (L' := [.val (.int j), .val (.long nm), .second]) (S' := [.int ((17 : Int32) - j), .long nm]) (H' := H) (sl' := 0) rfl ?_
    refine mmW_callS (n := 992) rfl rfl rfl (rfl) (Nat.le_of_ble_eq_true rfl) (own_pow _ (17 - J) (own_s17 hj hJ2) (by omega) H) ?_
    show mmW K_7 I_7 (some .int) (992) 14 [.val (.int j), .val (.long nm), .second] [.long (own_p (17 - J)), .long nm] (H ++ [own_P]) 19 _
    refine mmW_ldiv (n := 991) rfl (own_pz (by omega)) ?_
    show mmW K_7 I_7 (some .int) (991) 15 [.val (.int j), .val (.long nm), .second] [.long (nm / (own_p (17 - J)))] (H ++ [own_P]) 19 _
    refine mmW_steps (k := 3) (n := 988) (pc' := 20) (L' := [.val (.int j), .val (.long nm), .second]) (S' := [.int ((nm / (own_p (17 - J))) % (10 : Int64)).toInt32]) (H' := (H ++ [own_P])) (sl' := 19) rfl ?_
    exact mmW_ret (n := 987) (i := .ireturn) rfl rfl ⟨rfl, rfl, rfl⟩
  · have e1 : (nm + j.toInt64).toInt = ((NM + J : Nat) : Int) := by rw [Kit.i64_add] <;> rw [Int32.toInt_toInt64, hn, hj] <;> omega
    have hdv := own_dv e1
    refine ⟨((nm + j.toInt64) % (10 : Int64)).toInt32, [], 0, ?_, by decide, by decide, hdv.1, hdv.2.1, fun q => absurd (hlt.mpr q) hc⟩
    rw [List.append_nil]
    refine mmB_of rfl ?_
    show mmW K_7 I_7 (some .int) 1000 0 [.val (.int j), .val (.long nm), .second] [] H 0 _
    refine mmW_steps (k := 3) (n := 997) (pc' := (if if_icmp.holds .ge j (18 : Int32) = true then 21 else 6)) (L' := [.val (.int j), .val (.long nm), .second]) (S' := []) (H' := H) (sl' := 0) rfl ?_
    refine mmW_t (XT.ii_ge_t (hc)) ?_
    refine mmW_steps (k := 7) (n := 990) (pc' := 30) (L' := [.val (.int j), .val (.long nm), .second]) (S' := [.int ((nm + j.toInt64) % (10 : Int64)).toInt32]) (H' := H) (sl' := 0) rfl ?_
    exact mmW_ret (n := 989) (i := .ireturn) rfl rfl ⟨rfl, rfl, rfl⟩
set_option maxRecDepth 65536 in
set_option maxHeartbeats 40000000 in
theorem own_at0 (i fr a e0 t jk : Int32) (I FR A E0 JK : Nat) (hi : i.toInt = I) (hfr : fr.toInt = FR) (ha : a.toInt = A) (he0 : e0.toInt = E0) (hjk : jk.toInt = JK) (gI : I ≤ 25) (gFR : FR ≤ 3) (gA : A ≤ 20) (gE1 : FR ≤ E0) (gE2 : E0 ≤ FR + 20) (gJ : JK ≤ 9) (ht : t.toInt8.toInt32 = t) (nm : Int64) (NM : Nat) (hn : nm.toInt = NM) (hN : NM < 10 ^ 18) (H : MHeap) : ∃ (v : Int32) (G : MHeap) (ds : Nat), B_1 [.int i, .int fr, .int a, .int (0 : Int32), .int e0, .int t, .int jk, .long nm] H = some (some (.int v), H ++ G, ds) ∧ G.length ≤ 1 ∧ ds ≤ 19 ∧ own_ok0 FR E0 NM t I v := by
  have l1 := own_lt hi hfr
  have l2 := own_eqw hi he0
  have l3 := own_lt he0 hi
  by_cases c1 : i < fr
  · have q1 := l1.mp c1
    refine ⟨((48 : Int32) + jk).toInt8.toInt32.toInt8.toInt32, [], 0, ?_, Nat.le_of_ble_eq_true rfl, Nat.le_of_ble_eq_true rfl, ⟨by rw [own_bb, own_bb], fun z => absurd z (by omega), fun z => absurd z (by omega)⟩⟩
    rw [List.append_nil]
    refine mmB_of rfl ?_
    show mmW K_1 I_1 (some .byte) 1000 0 [.val (.int i), .val (.int fr), .val (.int a), .val (.int (0 : Int32)), .val (.int e0), .val (.int t), .val (.int jk), .val (.long nm), .second, .unset, .unset] [] H 0 _
    refine mmW_steps (k := 3) (n := 997) (pc' := (if if_icmp.holds .ge i fr = true then 12 else 5)) (L' := [.val (.int i), .val (.int fr), .val (.int a), .val (.int (0 : Int32)), .val (.int e0), .val (.int t), .val (.int jk), .val (.long nm), .second, .unset, .unset]) (S' := []) (H' := H) (sl' := 0) rfl ?_
    refine mmW_f (XT.ii_ge_f (c1)) ?_
    refine mmW_steps (k := 4) (n := 993) (pc' := 11) (L' := [.val (.int i), .val (.int fr), .val (.int a), .val (.int (0 : Int32)), .val (.int e0), .val (.int t), .val (.int jk), .val (.long nm), .second, .unset, .unset]) (S' := [.int ((48 : Int32) + jk).toInt8.toInt32]) (H' := H) (sl' := 0) rfl ?_
    exact mmW_ret (n := 992) (i := .ireturn) rfl rfl ⟨rfl, rfl, rfl⟩
  have q1 : ¬ I < FR := fun z => c1 (l1.mpr z)
  by_cases c2 : i = e0
  · have q2 : I = E0 := l2 ▸ c2
    refine ⟨t.toInt8.toInt32, [], 0, ?_, Nat.le_of_ble_eq_true rfl, Nat.le_of_ble_eq_true rfl, by rw [ht]; exact ⟨ht, fun _ => rfl, fun _ z => absurd z (by omega)⟩⟩
    rw [List.append_nil]
    refine mmB_of rfl ?_
    show mmW K_1 I_1 (some .byte) 1000 0 [.val (.int i), .val (.int fr), .val (.int a), .val (.int (0 : Int32)), .val (.int e0), .val (.int t), .val (.int jk), .val (.long nm), .second, .unset, .unset] [] H 0 _
    refine mmW_steps (k := 3) (n := 997) (pc' := (if if_icmp.holds .ge i fr = true then 12 else 5)) (L' := [.val (.int i), .val (.int fr), .val (.int a), .val (.int (0 : Int32)), .val (.int e0), .val (.int t), .val (.int jk), .val (.long nm), .second, .unset, .unset]) (S' := []) (H' := H) (sl' := 0) rfl ?_
    refine mmW_t (XT.ii_ge_t (c1)) ?_
    refine mmW_steps (k := 3) (n := 994) (pc' := (if if_icmp.holds .ne i e0 = true then 21 else 18)) (L' := [.val (.int i), .val (.int fr), .val (.int a), .val (.int (0 : Int32)), .val (.int e0), .val (.int t), .val (.int jk), .val (.long nm), .second, .unset, .unset]) (S' := []) (H' := H) (sl' := 0) rfl ?_
    refine mmW_f (XT.ii_ne_f (c2)) ?_
    refine mmW_steps (k := 1) (n := 993) (pc' := 20) (L' := [.val (.int i), .val (.int fr), .val (.int a), .val (.int (0 : Int32)), .val (.int e0), .val (.int t), .val (.int jk), .val (.long nm), .second, .unset, .unset]) (S' := [.int t]) (H' := H) (sl' := 0) rfl ?_
    exact mmW_ret (n := 992) (i := .ireturn) rfl rfl ⟨rfl, rfl, rfl⟩
  have q2 : ¬ I = E0 := fun z => c2 (l2 ▸ z)
  by_cases c3 : e0 < i
  · have q3 := l3.mp c3
    refine ⟨(56 : Int32), [], 0, ?_, Nat.le_of_ble_eq_true rfl, Nat.le_of_ble_eq_true rfl, ⟨rfl, fun z => absurd z q2, fun _ z => absurd z (by omega)⟩⟩
    rw [List.append_nil]
    refine mmB_of rfl ?_
    show mmW K_1 I_1 (some .byte) 1000 0 [.val (.int i), .val (.int fr), .val (.int a), .val (.int (0 : Int32)), .val (.int e0), .val (.int t), .val (.int jk), .val (.long nm), .second, .unset, .unset] [] H 0 _
    refine mmW_steps (k := 3) (n := 997) (pc' := (if if_icmp.holds .ge i fr = true then 12 else 5)) (L' := [.val (.int i), .val (.int fr), .val (.int a), .val (.int (0 : Int32)), .val (.int e0), .val (.int t), .val (.int jk), .val (.long nm), .second, .unset, .unset]) (S' := []) (H' := H) (sl' := 0) rfl ?_
    refine mmW_t (XT.ii_ge_t (c1)) ?_
    refine mmW_steps (k := 3) (n := 994) (pc' := (if if_icmp.holds .ne i e0 = true then 21 else 18)) (L' := [.val (.int i), .val (.int fr), .val (.int a), .val (.int (0 : Int32)), .val (.int e0), .val (.int t), .val (.int jk), .val (.long nm), .second, .unset, .unset]) (S' := []) (H' := H) (sl' := 0) rfl ?_
    refine mmW_t (XT.ii_ne_t (c2)) ?_
    refine mmW_steps (k := 3) (n := 991) (pc' := (if if_icmp.holds .le i e0 = true then 30 else 27)) (L' := [.val (.int i), .val (.int fr), .val (.int a), .val (.int (0 : Int32)), .val (.int e0), .val (.int t), .val (.int jk), .val (.long nm), .second, .unset, .unset]) (S' := []) (H' := H) (sl' := 0) rfl ?_
    refine mmW_f (XT.ii_le_f (c3)) ?_
    refine mmW_steps (k := 1) (n := 990) (pc' := 29) (L' := [.val (.int i), .val (.int fr), .val (.int a), .val (.int (0 : Int32)), .val (.int e0), .val (.int t), .val (.int jk), .val (.long nm), .second, .unset, .unset]) (S' := [.int (56 : Int32)]) (H' := H) (sl' := 0) rfl ?_
    exact mmW_ret (n := 989) (i := .ireturn) rfl rfl ⟨rfl, rfl, rfl⟩
  have q3 : ¬ E0 < I := fun z => c3 (l3.mpr z)
  have hs := own_sub hi hfr (by omega) (by omega)
  obtain ⟨d, G, ds, hB, g1, g2, hd⟩ := own_dig (i - fr) (I - FR) (hs) (by omega) nm NM hn hN H
  refine ⟨((48 : Int32) + d).toInt8.toInt32.toInt8.toInt32, G, 0 + ds, mmB_of rfl ?_, g1, by omega, ⟨by rw [own_bb, own_bb], fun z => absurd z q2, fun _ _ => own_dok hd⟩⟩
  show mmW K_1 I_1 (some .byte) 1000 0 [.val (.int i), .val (.int fr), .val (.int a), .val (.int (0 : Int32)), .val (.int e0), .val (.int t), .val (.int jk), .val (.long nm), .second, .unset, .unset] [] H 0 _
  refine mmW_steps (k := 3) (n := 997) (pc' := (if if_icmp.holds .ge i fr = true then 12 else 5)) (L' := [.val (.int i), .val (.int fr), .val (.int a), .val (.int (0 : Int32)), .val (.int e0), .val (.int t), .val (.int jk), .val (.long nm), .second, .unset, .unset]) (S' := []) (H' := H) (sl' := 0) rfl ?_
  refine mmW_t (XT.ii_ge_t (c1)) ?_
  refine mmW_steps (k := 3) (n := 994) (pc' := (if if_icmp.holds .ne i e0 = true then 21 else 18)) (L' := [.val (.int i), .val (.int fr), .val (.int a), .val (.int (0 : Int32)), .val (.int e0), .val (.int t), .val (.int jk), .val (.long nm), .second, .unset, .unset]) (S' := []) (H' := H) (sl' := 0) rfl ?_
  refine mmW_t (XT.ii_ne_t (c2)) ?_
  refine mmW_steps (k := 3) (n := 991) (pc' := (if if_icmp.holds .le i e0 = true then 30 else 27)) (L' := [.val (.int i), .val (.int fr), .val (.int a), .val (.int (0 : Int32)), .val (.int e0), .val (.int t), .val (.int jk), .val (.long nm), .second, .unset, .unset]) (S' := []) (H' := H) (sl' := 0) rfl ?_
  refine mmW_t (XT.ii_le_t (c3)) ?_
  refine mmW_steps (k := 11) (n := 980) (pc' := 70) (L' := [.val (.int i), .val (.int fr), .val (.int a), .val (.int (0 : Int32)), .val (.int e0), .val (.int t), .val (.int jk), .val (.long nm), .second, .val (.int (i - fr)), .val (.int (i - fr))]) (S' := [.long nm, .int (i - fr), .int (48 : Int32)]) (H' := H) (sl' := 0) rfl ?_
  refine mmW_callS (n := 979) rfl rfl rfl (rfl) (Nat.le_of_ble_eq_true rfl) (hB) ?_
  show mmW K_1 I_1 (some .byte) (979) 73 [.val (.int i), .val (.int fr), .val (.int a), .val (.int (0 : Int32)), .val (.int e0), .val (.int t), .val (.int jk), .val (.long nm), .second, .val (.int (i - fr)), .val (.int (i - fr))] [.int d, .int (48 : Int32)] (H ++ G) (0 + ds) _
  refine mmW_steps (k := 2) (n := 977) (pc' := 75) (L' := [.val (.int i), .val (.int fr), .val (.int a), .val (.int (0 : Int32)), .val (.int e0), .val (.int t), .val (.int jk), .val (.long nm), .second, .val (.int (i - fr)), .val (.int (i - fr))]) (S' := [.int ((48 : Int32) + d).toInt8.toInt32]) (H' := (H ++ G)) (sl' := (0 + ds)) rfl ?_
  exact mmW_ret (n := 976) (i := .ireturn) rfl rfl ⟨rfl, rfl, rfl⟩
set_option maxRecDepth 65536 in
set_option maxHeartbeats 40000000 in
theorem own_at1 (i fr a e0 t jk : Int32) (I FR A E0 JK : Nat) (hi : i.toInt = I) (hfr : fr.toInt = FR) (ha : a.toInt = A) (he0 : e0.toInt = E0) (hjk : jk.toInt = JK) (gI : I ≤ 25) (gFR : FR ≤ 3) (gA : A ≤ 20) (gE1 : FR ≤ E0) (gE2 : E0 ≤ FR + 21) (gJ : JK ≤ 9) (ht : t.toInt8.toInt32 = t) (nm : Int64) (NM : Nat) (hn : nm.toInt = NM) (hN : NM < 10 ^ 18) (H : MHeap) : ∃ (v : Int32) (G : MHeap) (ds : Nat), B_1 [.int i, .int fr, .int a, .int (1 : Int32), .int e0, .int t, .int jk, .long nm] H = some (some (.int v), H ++ G, ds) ∧ G.length ≤ 1 ∧ ds ≤ 19 ∧ own_ok1 FR E0 NM A t I v := by
  have l1 := own_lt hi hfr
  have l2 := own_eqw hi he0
  have l3 := own_lt he0 hi
  by_cases c1 : i < fr
  · have q1 := l1.mp c1
    refine ⟨((48 : Int32) + jk).toInt8.toInt32.toInt8.toInt32, [], 0, ?_, Nat.le_of_ble_eq_true rfl, Nat.le_of_ble_eq_true rfl, ⟨by rw [own_bb, own_bb], fun z => absurd z (by omega), fun z => absurd z (by omega)⟩⟩
    rw [List.append_nil]
    refine mmB_of rfl ?_
    show mmW K_1 I_1 (some .byte) 1000 0 [.val (.int i), .val (.int fr), .val (.int a), .val (.int (1 : Int32)), .val (.int e0), .val (.int t), .val (.int jk), .val (.long nm), .second, .unset, .unset] [] H 0 _
    refine mmW_steps (k := 3) (n := 997) (pc' := (if if_icmp.holds .ge i fr = true then 12 else 5)) (L' := [.val (.int i), .val (.int fr), .val (.int a), .val (.int (1 : Int32)), .val (.int e0), .val (.int t), .val (.int jk), .val (.long nm), .second, .unset, .unset]) (S' := []) (H' := H) (sl' := 0) rfl ?_
    refine mmW_f (XT.ii_ge_f (c1)) ?_
    refine mmW_steps (k := 4) (n := 993) (pc' := 11) (L' := [.val (.int i), .val (.int fr), .val (.int a), .val (.int (1 : Int32)), .val (.int e0), .val (.int t), .val (.int jk), .val (.long nm), .second, .unset, .unset]) (S' := [.int ((48 : Int32) + jk).toInt8.toInt32]) (H' := H) (sl' := 0) rfl ?_
    exact mmW_ret (n := 992) (i := .ireturn) rfl rfl ⟨rfl, rfl, rfl⟩
  have q1 : ¬ I < FR := fun z => c1 (l1.mpr z)
  by_cases c2 : i = e0
  · have q2 : I = E0 := l2 ▸ c2
    refine ⟨t.toInt8.toInt32, [], 0, ?_, Nat.le_of_ble_eq_true rfl, Nat.le_of_ble_eq_true rfl, by rw [ht]; exact ⟨ht, fun _ => rfl, fun _ z => absurd z (by omega)⟩⟩
    rw [List.append_nil]
    refine mmB_of rfl ?_
    show mmW K_1 I_1 (some .byte) 1000 0 [.val (.int i), .val (.int fr), .val (.int a), .val (.int (1 : Int32)), .val (.int e0), .val (.int t), .val (.int jk), .val (.long nm), .second, .unset, .unset] [] H 0 _
    refine mmW_steps (k := 3) (n := 997) (pc' := (if if_icmp.holds .ge i fr = true then 12 else 5)) (L' := [.val (.int i), .val (.int fr), .val (.int a), .val (.int (1 : Int32)), .val (.int e0), .val (.int t), .val (.int jk), .val (.long nm), .second, .unset, .unset]) (S' := []) (H' := H) (sl' := 0) rfl ?_
    refine mmW_t (XT.ii_ge_t (c1)) ?_
    refine mmW_steps (k := 3) (n := 994) (pc' := (if if_icmp.holds .ne i e0 = true then 21 else 18)) (L' := [.val (.int i), .val (.int fr), .val (.int a), .val (.int (1 : Int32)), .val (.int e0), .val (.int t), .val (.int jk), .val (.long nm), .second, .unset, .unset]) (S' := []) (H' := H) (sl' := 0) rfl ?_
    refine mmW_f (XT.ii_ne_f (c2)) ?_
    refine mmW_steps (k := 1) (n := 993) (pc' := 20) (L' := [.val (.int i), .val (.int fr), .val (.int a), .val (.int (1 : Int32)), .val (.int e0), .val (.int t), .val (.int jk), .val (.long nm), .second, .unset, .unset]) (S' := [.int t]) (H' := H) (sl' := 0) rfl ?_
    exact mmW_ret (n := 992) (i := .ireturn) rfl rfl ⟨rfl, rfl, rfl⟩
  have q2 : ¬ I = E0 := fun z => c2 (l2 ▸ z)
  by_cases c3 : e0 < i
  · have q3 := l3.mp c3
    refine ⟨(56 : Int32), [], 0, ?_, Nat.le_of_ble_eq_true rfl, Nat.le_of_ble_eq_true rfl, ⟨rfl, fun z => absurd z q2, fun _ z => absurd z (by omega)⟩⟩
    rw [List.append_nil]
    refine mmB_of rfl ?_
    show mmW K_1 I_1 (some .byte) 1000 0 [.val (.int i), .val (.int fr), .val (.int a), .val (.int (1 : Int32)), .val (.int e0), .val (.int t), .val (.int jk), .val (.long nm), .second, .unset, .unset] [] H 0 _
    refine mmW_steps (k := 3) (n := 997) (pc' := (if if_icmp.holds .ge i fr = true then 12 else 5)) (L' := [.val (.int i), .val (.int fr), .val (.int a), .val (.int (1 : Int32)), .val (.int e0), .val (.int t), .val (.int jk), .val (.long nm), .second, .unset, .unset]) (S' := []) (H' := H) (sl' := 0) rfl ?_
    refine mmW_t (XT.ii_ge_t (c1)) ?_
    refine mmW_steps (k := 3) (n := 994) (pc' := (if if_icmp.holds .ne i e0 = true then 21 else 18)) (L' := [.val (.int i), .val (.int fr), .val (.int a), .val (.int (1 : Int32)), .val (.int e0), .val (.int t), .val (.int jk), .val (.long nm), .second, .unset, .unset]) (S' := []) (H' := H) (sl' := 0) rfl ?_
    refine mmW_t (XT.ii_ne_t (c2)) ?_
    refine mmW_steps (k := 3) (n := 991) (pc' := (if if_icmp.holds .le i e0 = true then 30 else 27)) (L' := [.val (.int i), .val (.int fr), .val (.int a), .val (.int (1 : Int32)), .val (.int e0), .val (.int t), .val (.int jk), .val (.long nm), .second, .unset, .unset]) (S' := []) (H' := H) (sl' := 0) rfl ?_
    refine mmW_f (XT.ii_le_f (c3)) ?_
    refine mmW_steps (k := 1) (n := 990) (pc' := 29) (L' := [.val (.int i), .val (.int fr), .val (.int a), .val (.int (1 : Int32)), .val (.int e0), .val (.int t), .val (.int jk), .val (.long nm), .second, .unset, .unset]) (S' := [.int (56 : Int32)]) (H' := H) (sl' := 0) rfl ?_
    exact mmW_ret (n := 989) (i := .ireturn) rfl rfl ⟨rfl, rfl, rfl⟩
  have q3 : ¬ E0 < I := fun z => c3 (l3.mpr z)
  have hs := own_sub hi hfr (by omega) (by omega)
  have l4 := own_eqw hs ha
  have l5 := own_lt ha hs
  by_cases c4 : (i - fr) = a
  · have q4 : I - FR = A := l4 ▸ c4
    refine ⟨(46 : Int32), [], 0, ?_, Nat.le_of_ble_eq_true rfl, Nat.le_of_ble_eq_true rfl, ⟨rfl, fun z => absurd z q2, fun _ _ => ⟨fun _ => rfl, fun z => absurd z (by omega), fun z => absurd z (by omega)⟩⟩⟩
    rw [List.append_nil]
    refine mmB_of rfl ?_
    show mmW K_1 I_1 (some .byte) 1000 0 [.val (.int i), .val (.int fr), .val (.int a), .val (.int (1 : Int32)), .val (.int e0), .val (.int t), .val (.int jk), .val (.long nm), .second, .unset, .unset] [] H 0 _
    refine mmW_steps (k := 3) (n := 997) (pc' := (if if_icmp.holds .ge i fr = true then 12 else 5)) (L' := [.val (.int i), .val (.int fr), .val (.int a), .val (.int (1 : Int32)), .val (.int e0), .val (.int t), .val (.int jk), .val (.long nm), .second, .unset, .unset]) (S' := []) (H' := H) (sl' := 0) rfl ?_
    refine mmW_t (XT.ii_ge_t (c1)) ?_
    refine mmW_steps (k := 3) (n := 994) (pc' := (if if_icmp.holds .ne i e0 = true then 21 else 18)) (L' := [.val (.int i), .val (.int fr), .val (.int a), .val (.int (1 : Int32)), .val (.int e0), .val (.int t), .val (.int jk), .val (.long nm), .second, .unset, .unset]) (S' := []) (H' := H) (sl' := 0) rfl ?_
    refine mmW_t (XT.ii_ne_t (c2)) ?_
    refine mmW_steps (k := 3) (n := 991) (pc' := (if if_icmp.holds .le i e0 = true then 30 else 27)) (L' := [.val (.int i), .val (.int fr), .val (.int a), .val (.int (1 : Int32)), .val (.int e0), .val (.int t), .val (.int jk), .val (.long nm), .second, .unset, .unset]) (S' := []) (H' := H) (sl' := 0) rfl ?_
    refine mmW_t (XT.ii_le_t (c3)) ?_
    refine mmW_steps (k := 11) (n := 980) (pc' := (if if_icmp.holds .ne (i - fr) a = true then 52 else 49)) (L' := [.val (.int i), .val (.int fr), .val (.int a), .val (.int (1 : Int32)), .val (.int e0), .val (.int t), .val (.int jk), .val (.long nm), .second, .val (.int (i - fr)), .val (.int (i - fr))]) (S' := []) (H' := H) (sl' := 0) rfl ?_
    refine mmW_f (XT.ii_ne_f (c4)) ?_
    refine mmW_steps (k := 1) (n := 979) (pc' := 51) (L' := [.val (.int i), .val (.int fr), .val (.int a), .val (.int (1 : Int32)), .val (.int e0), .val (.int t), .val (.int jk), .val (.long nm), .second, .val (.int (i - fr)), .val (.int (i - fr))]) (S' := [.int (46 : Int32)]) (H' := H) (sl' := 0) rfl ?_
    exact mmW_ret (n := 978) (i := .ireturn) rfl rfl ⟨rfl, rfl, rfl⟩
  have q4 : ¬ I - FR = A := fun z => c4 (l4 ▸ z)
  by_cases c5 : a < (i - fr)
  · have q5 := l5.mp c5
    obtain ⟨d, G, ds, hB, g1, g2, hd⟩ := own_dig ((i - fr) - (1 : Int32)) (I - FR - 1) (own_sub hs (b := (1 : Int32)) (B := 1) rfl (by omega) (by omega)) (by omega) nm NM hn hN H
    refine ⟨((48 : Int32) + d).toInt8.toInt32.toInt8.toInt32, G, 0 + ds, mmB_of rfl ?_, g1, by omega, ⟨by rw [own_bb, own_bb], fun z => absurd z q2, fun _ _ => ⟨fun z => absurd z q4, fun z => absurd z (by omega), fun _ => own_dok hd⟩⟩⟩
    show mmW K_1 I_1 (some .byte) 1000 0 [.val (.int i), .val (.int fr), .val (.int a), .val (.int (1 : Int32)), .val (.int e0), .val (.int t), .val (.int jk), .val (.long nm), .second, .unset, .unset] [] H 0 _
    refine mmW_steps (k := 3) (n := 997) (pc' := (if if_icmp.holds .ge i fr = true then 12 else 5)) (L' := [.val (.int i), .val (.int fr), .val (.int a), .val (.int (1 : Int32)), .val (.int e0), .val (.int t), .val (.int jk), .val (.long nm), .second, .unset, .unset]) (S' := []) (H' := H) (sl' := 0) rfl ?_
    refine mmW_t (XT.ii_ge_t (c1)) ?_
    refine mmW_steps (k := 3) (n := 994) (pc' := (if if_icmp.holds .ne i e0 = true then 21 else 18)) (L' := [.val (.int i), .val (.int fr), .val (.int a), .val (.int (1 : Int32)), .val (.int e0), .val (.int t), .val (.int jk), .val (.long nm), .second, .unset, .unset]) (S' := []) (H' := H) (sl' := 0) rfl ?_
    refine mmW_t (XT.ii_ne_t (c2)) ?_
    refine mmW_steps (k := 3) (n := 991) (pc' := (if if_icmp.holds .le i e0 = true then 30 else 27)) (L' := [.val (.int i), .val (.int fr), .val (.int a), .val (.int (1 : Int32)), .val (.int e0), .val (.int t), .val (.int jk), .val (.long nm), .second, .unset, .unset]) (S' := []) (H' := H) (sl' := 0) rfl ?_
    refine mmW_t (XT.ii_le_t (c3)) ?_
    refine mmW_steps (k := 11) (n := 980) (pc' := (if if_icmp.holds .ne (i - fr) a = true then 52 else 49)) (L' := [.val (.int i), .val (.int fr), .val (.int a), .val (.int (1 : Int32)), .val (.int e0), .val (.int t), .val (.int jk), .val (.long nm), .second, .val (.int (i - fr)), .val (.int (i - fr))]) (S' := []) (H' := H) (sl' := 0) rfl ?_
    refine mmW_t (XT.ii_ne_t (c4)) ?_
    refine mmW_steps (k := 3) (n := 977) (pc' := (if if_icmp.holds .le (i - fr) a = true then 64 else 58)) (L' := [.val (.int i), .val (.int fr), .val (.int a), .val (.int (1 : Int32)), .val (.int e0), .val (.int t), .val (.int jk), .val (.long nm), .second, .val (.int (i - fr)), .val (.int (i - fr))]) (S' := []) (H' := H) (sl' := 0) rfl ?_
    refine mmW_f (XT.ii_le_f (c5)) ?_
    refine mmW_steps (k := 7) (n := 970) (pc' := 70) (L' := [.val (.int i), .val (.int fr), .val (.int a), .val (.int (1 : Int32)), .val (.int e0), .val (.int t), .val (.int jk), .val (.long nm), .second, .val (.int (i - fr)), .val (.int ((i - fr) - (1 : Int32)))]) (S' := [.long nm, .int ((i - fr) - (1 : Int32)), .int (48 : Int32)]) (H' := H) (sl' := 0) rfl ?_
    refine mmW_callS (n := 969) rfl rfl rfl (rfl) (Nat.le_of_ble_eq_true rfl) (hB) ?_
    show mmW K_1 I_1 (some .byte) (969) 73 [.val (.int i), .val (.int fr), .val (.int a), .val (.int (1 : Int32)), .val (.int e0), .val (.int t), .val (.int jk), .val (.long nm), .second, .val (.int (i - fr)), .val (.int ((i - fr) - (1 : Int32)))] [.int d, .int (48 : Int32)] (H ++ G) (0 + ds) _
    refine mmW_steps (k := 2) (n := 967) (pc' := 75) (L' := [.val (.int i), .val (.int fr), .val (.int a), .val (.int (1 : Int32)), .val (.int e0), .val (.int t), .val (.int jk), .val (.long nm), .second, .val (.int (i - fr)), .val (.int ((i - fr) - (1 : Int32)))]) (S' := [.int ((48 : Int32) + d).toInt8.toInt32]) (H' := (H ++ G)) (sl' := (0 + ds)) rfl ?_
    exact mmW_ret (n := 966) (i := .ireturn) rfl rfl ⟨rfl, rfl, rfl⟩
  have q5 : ¬ A < I - FR := fun z => c5 (l5.mpr z)
  obtain ⟨d, G, ds, hB, g1, g2, hd⟩ := own_dig (i - fr) (I - FR) (hs) (by omega) nm NM hn hN H
  refine ⟨((48 : Int32) + d).toInt8.toInt32.toInt8.toInt32, G, 0 + ds, mmB_of rfl ?_, g1, by omega, ⟨by rw [own_bb, own_bb], fun z => absurd z q2, fun _ _ => ⟨fun z => absurd z q4, fun _ => own_dok hd, fun z => absurd z q5⟩⟩⟩
  show mmW K_1 I_1 (some .byte) 1000 0 [.val (.int i), .val (.int fr), .val (.int a), .val (.int (1 : Int32)), .val (.int e0), .val (.int t), .val (.int jk), .val (.long nm), .second, .unset, .unset] [] H 0 _
  refine mmW_steps (k := 3) (n := 997) (pc' := (if if_icmp.holds .ge i fr = true then 12 else 5)) (L' := [.val (.int i), .val (.int fr), .val (.int a), .val (.int (1 : Int32)), .val (.int e0), .val (.int t), .val (.int jk), .val (.long nm), .second, .unset, .unset]) (S' := []) (H' := H) (sl' := 0) rfl ?_
  refine mmW_t (XT.ii_ge_t (c1)) ?_
  refine mmW_steps (k := 3) (n := 994) (pc' := (if if_icmp.holds .ne i e0 = true then 21 else 18)) (L' := [.val (.int i), .val (.int fr), .val (.int a), .val (.int (1 : Int32)), .val (.int e0), .val (.int t), .val (.int jk), .val (.long nm), .second, .unset, .unset]) (S' := []) (H' := H) (sl' := 0) rfl ?_
  refine mmW_t (XT.ii_ne_t (c2)) ?_
  refine mmW_steps (k := 3) (n := 991) (pc' := (if if_icmp.holds .le i e0 = true then 30 else 27)) (L' := [.val (.int i), .val (.int fr), .val (.int a), .val (.int (1 : Int32)), .val (.int e0), .val (.int t), .val (.int jk), .val (.long nm), .second, .unset, .unset]) (S' := []) (H' := H) (sl' := 0) rfl ?_
  refine mmW_t (XT.ii_le_t (c3)) ?_
  refine mmW_steps (k := 11) (n := 980) (pc' := (if if_icmp.holds .ne (i - fr) a = true then 52 else 49)) (L' := [.val (.int i), .val (.int fr), .val (.int a), .val (.int (1 : Int32)), .val (.int e0), .val (.int t), .val (.int jk), .val (.long nm), .second, .val (.int (i - fr)), .val (.int (i - fr))]) (S' := []) (H' := H) (sl' := 0) rfl ?_
  refine mmW_t (XT.ii_ne_t (c4)) ?_
  refine mmW_steps (k := 3) (n := 977) (pc' := (if if_icmp.holds .le (i - fr) a = true then 64 else 58)) (L' := [.val (.int i), .val (.int fr), .val (.int a), .val (.int (1 : Int32)), .val (.int e0), .val (.int t), .val (.int jk), .val (.long nm), .second, .val (.int (i - fr)), .val (.int (i - fr))]) (S' := []) (H' := H) (sl' := 0) rfl ?_
  refine mmW_t (XT.ii_le_t (c5)) ?_
  refine mmW_steps (k := 3) (n := 974) (pc' := 70) (L' := [.val (.int i), .val (.int fr), .val (.int a), .val (.int (1 : Int32)), .val (.int e0), .val (.int t), .val (.int jk), .val (.long nm), .second, .val (.int (i - fr)), .val (.int (i - fr))]) (S' := [.long nm, .int (i - fr), .int (48 : Int32)]) (H' := H) (sl' := 0) rfl ?_
  refine mmW_callS (n := 973) rfl rfl rfl (rfl) (Nat.le_of_ble_eq_true rfl) (hB) ?_
  show mmW K_1 I_1 (some .byte) (973) 73 [.val (.int i), .val (.int fr), .val (.int a), .val (.int (1 : Int32)), .val (.int e0), .val (.int t), .val (.int jk), .val (.long nm), .second, .val (.int (i - fr)), .val (.int (i - fr))] [.int d, .int (48 : Int32)] (H ++ G) (0 + ds) _
  refine mmW_steps (k := 2) (n := 971) (pc' := 75) (L' := [.val (.int i), .val (.int fr), .val (.int a), .val (.int (1 : Int32)), .val (.int e0), .val (.int t), .val (.int jk), .val (.long nm), .second, .val (.int (i - fr)), .val (.int (i - fr))]) (S' := [.int ((48 : Int32) + d).toInt8.toInt32]) (H' := (H ++ G)) (sl' := (0 + ds)) rfl ?_
  exact mmW_ret (n := 970) (i := .ireturn) rfl rfl ⟨rfl, rfl, rfl⟩
set_option maxRecDepth 65536 in
set_option maxHeartbeats 40000000 in
theorem own_t1 {H : MHeap} {tr br P m : Nat} {c : Nat → Int32} {fr lm cn pt ix : Int32} {z : Int64} {Q : Option Value → MHeap → Nat → Prop} (hb : mmNth H br = some (.inr (.byte, own_n 26 c))) (hix : ix.toInt = P) (hP : P < 26) (hlt : ix < lm) (h1 : ¬ ((c P) - (48 : Int32)) < 0) (h2 : ¬ (9 : Int32) < ((c P) - (48 : Int32))) (w : mmW K_3 I_3 (some .int) m 12 [.val (.ref tr), .val (.ref br), .val (.int fr), .val (.int lm), .val (.long ((z * (10 : Int64)) + ((c P) - (48 : Int32)).toInt64)), .second, .val (.int (cn + (1 : Int32))), .val (.int pt), .val (.int (ix + (1 : Int32))), .unset] [] H 0 Q) : mmW K_3 I_3 (some .int) (m + 40) 12 [.val (.ref tr), .val (.ref br), .val (.int fr), .val (.int lm), .val (.long z), .second, .val (.int cn), .val (.int pt), .val (.int ix), .unset] [] H 0 Q := by
  have hin := own_nn hix
  refine mmW_steps (k := 3) (n := m + 37) (pc' := (if if_icmp.holds .ge ix lm = true then 86 else 18)) (L' := [.val (.ref tr), .val (.ref br), .val (.int fr), .val (.int lm), .val (.long z), .second, .val (.int cn), .val (.int pt), .val (.int ix), .unset]) (S' := []) (H' := H) (sl' := 0) rfl ?_
  refine mmW_f (XT.ii_ge_f (hlt)) ?_
  refine mmW_steps (k := 2) (n := m + 35) (pc' := 21) (L' := [.val (.ref tr), .val (.ref br), .val (.int fr), .val (.int lm), .val (.long z), .second, .val (.int cn), .val (.int pt), .val (.int ix), .unset]) (S' := [.int ix, .ref br]) (H' := H) (sl' := 0) rfl ?_
  refine mmW_baload (n := m + 34) rfl (hb) (hin.1) (by rw [mmNth_eq, hin.2]; exact own_n_nth c hP) ?_
  show mmW K_3 I_3 (some .int) (m + 34) 22 [.val (.ref tr), .val (.ref br), .val (.int fr), .val (.int lm), .val (.long z), .second, .val (.int cn), .val (.int pt), .val (.int ix), .unset] [.int (c P)] H 0 _
  refine mmW_steps (k := 5) (n := m + 29) (pc' := (if ifCond.holds .lt ((c P) - (48 : Int32)) = true then 57 else 32)) (L' := [.val (.ref tr), .val (.ref br), .val (.int fr), .val (.int lm), .val (.long z), .second, .val (.int cn), .val (.int pt), .val (.int ix), .val (.int ((c P) - (48 : Int32)))]) (S' := []) (H' := H) (sl' := 0) rfl ?_
  refine mmW_f (XT.i0_lt_f (h1)) ?_
  refine mmW_steps (k := 3) (n := m + 26) (pc' := (if if_icmp.holds .gt ((c P) - (48 : Int32)) (9 : Int32) = true then 57 else 39)) (L' := [.val (.ref tr), .val (.ref br), .val (.int fr), .val (.int lm), .val (.long z), .second, .val (.int cn), .val (.int pt), .val (.int ix), .val (.int ((c P) - (48 : Int32)))]) (S' := []) (H' := H) (sl' := 0) rfl ?_
  refine mmW_f (XT.ii_gt_f (h2)) ?_
  refine mmW_steps (k := 11) (n := m + 15) (pc' := 12) (L' := [.val (.ref tr), .val (.ref br), .val (.int fr), .val (.int lm), .val (.long ((z * (10 : Int64)) + ((c P) - (48 : Int32)).toInt64)), .second, .val (.int (cn + (1 : Int32))), .val (.int pt), .val (.int (ix + (1 : Int32))), .val (.int ((c P) - (48 : Int32)))]) (S' := []) (H' := H) (sl' := 0) rfl ?_
  exact mmW_forget (L := [.val (.ref tr), .val (.ref br), .val (.int fr), .val (.int lm), .val (.long ((z * (10 : Int64)) + ((c P) - (48 : Int32)).toInt64)), .second, .val (.int (cn + (1 : Int32))), .val (.int pt), .val (.int (ix + (1 : Int32))), .unset]) (⟨Or.inl rfl, ⟨Or.inl rfl, ⟨Or.inl rfl, ⟨Or.inl rfl, ⟨Or.inl rfl, ⟨Or.inl rfl, ⟨Or.inl rfl, ⟨Or.inl rfl, ⟨Or.inl rfl, ⟨Or.inr ⟨rfl, _, rfl, rfl⟩, trivial⟩⟩⟩⟩⟩⟩⟩⟩⟩⟩) (mmW_le (Nat.le_add_right _ _) w)
set_option maxRecDepth 65536 in
set_option maxHeartbeats 40000000 in
theorem own_t2 {H : MHeap} {tr br P m : Nat} {c : Nat → Int32} {fr lm cn pt ix : Int32} {z : Int64} {Q : Option Value → MHeap → Nat → Prop} (hb : mmNth H br = some (.inr (.byte, own_n 26 c))) (hix : ix.toInt = P) (hP : P < 26) (hlt : ix < lm) (h1 : c P = 46) (h2 : pt < 0) (h3 : 0 < cn) (w : mmW K_3 I_3 (some .int) m 12 [.val (.ref tr), .val (.ref br), .val (.int fr), .val (.int lm), .val (.long z), .second, .val (.int cn), .val (.int ix), .val (.int (ix + (1 : Int32))), .unset] [] H 0 Q) : mmW K_3 I_3 (some .int) (m + 40) 12 [.val (.ref tr), .val (.ref br), .val (.int fr), .val (.int lm), .val (.long z), .second, .val (.int cn), .val (.int pt), .val (.int ix), .unset] [] H 0 Q := by
  have hin := own_nn hix
  have hd : ((c P) - (48 : Int32)) < 0 := by rw [h1]; decide
  refine mmW_steps (k := 3) (n := m + 37) (pc' := (if if_icmp.holds .ge ix lm = true then 86 else 18)) (L' := [.val (.ref tr), .val (.ref br), .val (.int fr), .val (.int lm), .val (.long z), .second, .val (.int cn), .val (.int pt), .val (.int ix), .unset]) (S' := []) (H' := H) (sl' := 0) rfl ?_
  refine mmW_f (XT.ii_ge_f (hlt)) ?_
  refine mmW_steps (k := 2) (n := m + 35) (pc' := 21) (L' := [.val (.ref tr), .val (.ref br), .val (.int fr), .val (.int lm), .val (.long z), .second, .val (.int cn), .val (.int pt), .val (.int ix), .unset]) (S' := [.int ix, .ref br]) (H' := H) (sl' := 0) rfl ?_
  refine mmW_baload (n := m + 34) rfl (hb) (hin.1) (by rw [mmNth_eq, hin.2]; exact own_n_nth c hP) ?_
  show mmW K_3 I_3 (some .int) (m + 34) 22 [.val (.ref tr), .val (.ref br), .val (.int fr), .val (.int lm), .val (.long z), .second, .val (.int cn), .val (.int pt), .val (.int ix), .unset] [.int (c P)] H 0 _
  refine mmW_steps (k := 5) (n := m + 29) (pc' := (if ifCond.holds .lt ((c P) - (48 : Int32)) = true then 57 else 32)) (L' := [.val (.ref tr), .val (.ref br), .val (.int fr), .val (.int lm), .val (.long z), .second, .val (.int cn), .val (.int pt), .val (.int ix), .val (.int ((c P) - (48 : Int32)))]) (S' := []) (H' := H) (sl' := 0) rfl ?_
  refine mmW_t (XT.i0_lt_t (hd)) ?_
  refine mmW_steps (k := 2) (n := m + 27) (pc' := 60) (L' := [.val (.ref tr), .val (.ref br), .val (.int fr), .val (.int lm), .val (.long z), .second, .val (.int cn), .val (.int pt), .val (.int ix), .val (.int ((c P) - (48 : Int32)))]) (S' := [.int ix, .ref br]) (H' := H) (sl' := 0) rfl ?_
  refine mmW_baload (n := m + 26) rfl (hb) (hin.1) (by rw [mmNth_eq, hin.2]; exact own_n_nth c hP) ?_
  show mmW K_3 I_3 (some .int) (m + 26) 61 [.val (.ref tr), .val (.ref br), .val (.int fr), .val (.int lm), .val (.long z), .second, .val (.int cn), .val (.int pt), .val (.int ix), .val (.int ((c P) - (48 : Int32)))] [.int (c P)] H 0 _
  refine mmW_steps (k := 2) (n := m + 24) (pc' := (if if_icmp.holds .ne (c P) (46 : Int32) = true then 86 else 66)) (L' := [.val (.ref tr), .val (.ref br), .val (.int fr), .val (.int lm), .val (.long z), .second, .val (.int cn), .val (.int pt), .val (.int ix), .val (.int ((c P) - (48 : Int32)))]) (S' := []) (H' := H) (sl' := 0) rfl ?_
  refine mmW_f (XT.ii_ne_f (h1)) ?_
  refine mmW_steps (k := 2) (n := m + 22) (pc' := (if ifCond.holds .ge pt = true then 86 else 71)) (L' := [.val (.ref tr), .val (.ref br), .val (.int fr), .val (.int lm), .val (.long z), .second, .val (.int cn), .val (.int pt), .val (.int ix), .val (.int ((c P) - (48 : Int32)))]) (S' := []) (H' := H) (sl' := 0) rfl ?_
  refine mmW_f (XT.i0_ge_f (h2)) ?_
  refine mmW_steps (k := 2) (n := m + 20) (pc' := (if ifCond.holds .le cn = true then 86 else 76)) (L' := [.val (.ref tr), .val (.ref br), .val (.int fr), .val (.int lm), .val (.long z), .second, .val (.int cn), .val (.int pt), .val (.int ix), .val (.int ((c P) - (48 : Int32)))]) (S' := []) (H' := H) (sl' := 0) rfl ?_
  refine mmW_f (XT.i0_le_f (h3)) ?_
  refine mmW_steps (k := 4) (n := m + 16) (pc' := 12) (L' := [.val (.ref tr), .val (.ref br), .val (.int fr), .val (.int lm), .val (.long z), .second, .val (.int cn), .val (.int ix), .val (.int (ix + (1 : Int32))), .val (.int ((c P) - (48 : Int32)))]) (S' := []) (H' := H) (sl' := 0) rfl ?_
  exact mmW_forget (L := [.val (.ref tr), .val (.ref br), .val (.int fr), .val (.int lm), .val (.long z), .second, .val (.int cn), .val (.int ix), .val (.int (ix + (1 : Int32))), .unset]) (⟨Or.inl rfl, ⟨Or.inl rfl, ⟨Or.inl rfl, ⟨Or.inl rfl, ⟨Or.inl rfl, ⟨Or.inl rfl, ⟨Or.inl rfl, ⟨Or.inl rfl, ⟨Or.inl rfl, ⟨Or.inr ⟨rfl, _, rfl, rfl⟩, trivial⟩⟩⟩⟩⟩⟩⟩⟩⟩⟩) (mmW_le (Nat.le_add_right _ _) w)
set_option maxRecDepth 65536 in
set_option maxHeartbeats 40000000 in
theorem own_t3 {H : MHeap} {tr br m : Nat} {fr lm cn pt ix : Int32} {z : Int64} {Q : Option Value → MHeap → Nat → Prop} (hlt : ¬ ix < lm) (w : mmW K_3 I_3 (some .int) m 86 [.val (.ref tr), .val (.ref br), .val (.int fr), .val (.int lm), .val (.long z), .second, .val (.int cn), .val (.int pt), .val (.int ix), .unset] [] H 0 Q) : mmW K_3 I_3 (some .int) (m + 40) 12 [.val (.ref tr), .val (.ref br), .val (.int fr), .val (.int lm), .val (.long z), .second, .val (.int cn), .val (.int pt), .val (.int ix), .unset] [] H 0 Q := by
  refine mmW_steps (k := 3) (n := m + 37) (pc' := (if if_icmp.holds .ge ix lm = true then 86 else 18)) (L' := [.val (.ref tr), .val (.ref br), .val (.int fr), .val (.int lm), .val (.long z), .second, .val (.int cn), .val (.int pt), .val (.int ix), .unset]) (S' := []) (H' := H) (sl' := 0) rfl ?_
  refine mmW_t (XT.ii_ge_t (hlt)) ?_
  exact mmW_le (Nat.le_add_right _ _) w
set_option maxRecDepth 65536 in
set_option maxHeartbeats 40000000 in
theorem own_t4 {H : MHeap} {tr br P m : Nat} {c : Nat → Int32} {fr lm cn pt ix : Int32} {z : Int64} {Q : Option Value → MHeap → Nat → Prop} (hb : mmNth H br = some (.inr (.byte, own_n 26 c))) (hix : ix.toInt = P) (hP : P < 26) (hlt : ix < lm) (h1 : ((c P) - (48 : Int32)) < 0 ∨ (9 : Int32) < ((c P) - (48 : Int32))) (h2 : ¬ c P = 46 ∨ ¬ pt < 0 ∨ ¬ 0 < cn) (w : mmW K_3 I_3 (some .int) m 86 [.val (.ref tr), .val (.ref br), .val (.int fr), .val (.int lm), .val (.long z), .second, .val (.int cn), .val (.int pt), .val (.int ix), .unset] [] H 0 Q) : mmW K_3 I_3 (some .int) (m + 40) 12 [.val (.ref tr), .val (.ref br), .val (.int fr), .val (.int lm), .val (.long z), .second, .val (.int cn), .val (.int pt), .val (.int ix), .unset] [] H 0 Q := by
  have hin := own_nn hix
  have wf : ∀ d, d ≤ 40 → mmW K_3 I_3 (some .int) (m + d) 86 [.val (.ref tr), .val (.ref br), .val (.int fr), .val (.int lm), .val (.long z), .second, .val (.int cn), .val (.int pt), .val (.int ix), .val (.int ((c P) - (48 : Int32)))] [] H 0 Q := fun d hd => mmW_forget (L := [.val (.ref tr), .val (.ref br), .val (.int fr), .val (.int lm), .val (.long z), .second, .val (.int cn), .val (.int pt), .val (.int ix), .unset]) (⟨Or.inl rfl, ⟨Or.inl rfl, ⟨Or.inl rfl, ⟨Or.inl rfl, ⟨Or.inl rfl, ⟨Or.inl rfl, ⟨Or.inl rfl, ⟨Or.inl rfl, ⟨Or.inl rfl, ⟨Or.inr ⟨rfl, _, rfl, rfl⟩, trivial⟩⟩⟩⟩⟩⟩⟩⟩⟩⟩) (mmW_le (Nat.le_add_right _ _) w)
  refine mmW_steps (k := 3) (n := m + 37) (pc' := (if if_icmp.holds .ge ix lm = true then 86 else 18)) (L' := [.val (.ref tr), .val (.ref br), .val (.int fr), .val (.int lm), .val (.long z), .second, .val (.int cn), .val (.int pt), .val (.int ix), .unset]) (S' := []) (H' := H) (sl' := 0) rfl ?_
  refine mmW_f (XT.ii_ge_f (hlt)) ?_
  refine mmW_steps (k := 2) (n := m + 35) (pc' := 21) (L' := [.val (.ref tr), .val (.ref br), .val (.int fr), .val (.int lm), .val (.long z), .second, .val (.int cn), .val (.int pt), .val (.int ix), .unset]) (S' := [.int ix, .ref br]) (H' := H) (sl' := 0) rfl ?_
  refine mmW_baload (n := m + 34) rfl (hb) (hin.1) (by rw [mmNth_eq, hin.2]; exact own_n_nth c hP) ?_
  show mmW K_3 I_3 (some .int) (m + 34) 22 [.val (.ref tr), .val (.ref br), .val (.int fr), .val (.int lm), .val (.long z), .second, .val (.int cn), .val (.int pt), .val (.int ix), .unset] [.int (c P)] H 0 _
  refine mmW_steps (k := 5) (n := m + 29) (pc' := (if ifCond.holds .lt ((c P) - (48 : Int32)) = true then 57 else 32)) (L' := [.val (.ref tr), .val (.ref br), .val (.int fr), .val (.int lm), .val (.long z), .second, .val (.int cn), .val (.int pt), .val (.int ix), .val (.int ((c P) - (48 : Int32)))]) (S' := []) (H' := H) (sl' := 0) rfl ?_
  by_cases d1 : ((c P) - (48 : Int32)) < 0
  · refine mmW_t (XT.i0_lt_t (d1)) ?_
    refine mmW_steps (k := 2) (n := m + 27) (pc' := 60) (L' := [.val (.ref tr), .val (.ref br), .val (.int fr), .val (.int lm), .val (.long z), .second, .val (.int cn), .val (.int pt), .val (.int ix), .val (.int ((c P) - (48 : Int32)))]) (S' := [.int ix, .ref br]) (H' := H) (sl' := 0) rfl ?_
    refine mmW_baload (n := m + 26) rfl (hb) (hin.1) (by rw [mmNth_eq, hin.2]; exact own_n_nth c hP) ?_
    show mmW K_3 I_3 (some .int) (m + 26) 61 [.val (.ref tr), .val (.ref br), .val (.int fr), .val (.int lm), .val (.long z), .second, .val (.int cn), .val (.int pt), .val (.int ix), .val (.int ((c P) - (48 : Int32)))] [.int (c P)] H 0 _
    refine mmW_steps (k := 2) (n := m + 24) (pc' := (if if_icmp.holds .ne (c P) (46 : Int32) = true then 86 else 66)) (L' := [.val (.ref tr), .val (.ref br), .val (.int fr), .val (.int lm), .val (.long z), .second, .val (.int cn), .val (.int pt), .val (.int ix), .val (.int ((c P) - (48 : Int32)))]) (S' := []) (H' := H) (sl' := 0) rfl ?_
    by_cases e1 : (c P) = (46 : Int32)
    · refine mmW_f (XT.ii_ne_f (e1)) ?_
      refine mmW_steps (k := 2) (n := m + 22) (pc' := (if ifCond.holds .ge pt = true then 86 else 71)) (L' := [.val (.ref tr), .val (.ref br), .val (.int fr), .val (.int lm), .val (.long z), .second, .val (.int cn), .val (.int pt), .val (.int ix), .val (.int ((c P) - (48 : Int32)))]) (S' := []) (H' := H) (sl' := 0) rfl ?_
      by_cases e2 : pt < 0
      · refine mmW_f (XT.i0_ge_f (e2)) ?_
        refine mmW_steps (k := 2) (n := m + 20) (pc' := (if ifCond.holds .le cn = true then 86 else 76)) (L' := [.val (.ref tr), .val (.ref br), .val (.int fr), .val (.int lm), .val (.long z), .second, .val (.int cn), .val (.int pt), .val (.int ix), .val (.int ((c P) - (48 : Int32)))]) (S' := []) (H' := H) (sl' := 0) rfl ?_
        by_cases e3 : 0 < cn
        · exact absurd h2 (fun q => q.elim (fun z => z e1) (fun q => q.elim (fun z => z e2) (fun z => z e3)))
        · refine mmW_t (XT.i0_le_t (e3)) ?_
          exact wf 20 (by decide)
      · refine mmW_t (XT.i0_ge_t (e2)) ?_
        exact wf 22 (by decide)
    · refine mmW_t (XT.ii_ne_t (e1)) ?_
      exact wf 24 (by decide)
  · refine mmW_f (XT.i0_lt_f (d1)) ?_
    refine mmW_steps (k := 3) (n := m + 26) (pc' := (if if_icmp.holds .gt ((c P) - (48 : Int32)) (9 : Int32) = true then 57 else 39)) (L' := [.val (.ref tr), .val (.ref br), .val (.int fr), .val (.int lm), .val (.long z), .second, .val (.int cn), .val (.int pt), .val (.int ix), .val (.int ((c P) - (48 : Int32)))]) (S' := []) (H' := H) (sl' := 0) rfl ?_
    by_cases d2 : (9 : Int32) < ((c P) - (48 : Int32))
    · refine mmW_t (XT.ii_gt_t (d2)) ?_
      refine mmW_steps (k := 2) (n := m + 24) (pc' := 60) (L' := [.val (.ref tr), .val (.ref br), .val (.int fr), .val (.int lm), .val (.long z), .second, .val (.int cn), .val (.int pt), .val (.int ix), .val (.int ((c P) - (48 : Int32)))]) (S' := [.int ix, .ref br]) (H' := H) (sl' := 0) rfl ?_
      refine mmW_baload (n := m + 23) rfl (hb) (hin.1) (by rw [mmNth_eq, hin.2]; exact own_n_nth c hP) ?_
      show mmW K_3 I_3 (some .int) (m + 23) 61 [.val (.ref tr), .val (.ref br), .val (.int fr), .val (.int lm), .val (.long z), .second, .val (.int cn), .val (.int pt), .val (.int ix), .val (.int ((c P) - (48 : Int32)))] [.int (c P)] H 0 _
      refine mmW_steps (k := 2) (n := m + 21) (pc' := (if if_icmp.holds .ne (c P) (46 : Int32) = true then 86 else 66)) (L' := [.val (.ref tr), .val (.ref br), .val (.int fr), .val (.int lm), .val (.long z), .second, .val (.int cn), .val (.int pt), .val (.int ix), .val (.int ((c P) - (48 : Int32)))]) (S' := []) (H' := H) (sl' := 0) rfl ?_
      by_cases e1 : (c P) = (46 : Int32)
      · refine mmW_f (XT.ii_ne_f (e1)) ?_
        refine mmW_steps (k := 2) (n := m + 19) (pc' := (if ifCond.holds .ge pt = true then 86 else 71)) (L' := [.val (.ref tr), .val (.ref br), .val (.int fr), .val (.int lm), .val (.long z), .second, .val (.int cn), .val (.int pt), .val (.int ix), .val (.int ((c P) - (48 : Int32)))]) (S' := []) (H' := H) (sl' := 0) rfl ?_
        by_cases e2 : pt < 0
        · refine mmW_f (XT.i0_ge_f (e2)) ?_
          refine mmW_steps (k := 2) (n := m + 17) (pc' := (if ifCond.holds .le cn = true then 86 else 76)) (L' := [.val (.ref tr), .val (.ref br), .val (.int fr), .val (.int lm), .val (.long z), .second, .val (.int cn), .val (.int pt), .val (.int ix), .val (.int ((c P) - (48 : Int32)))]) (S' := []) (H' := H) (sl' := 0) rfl ?_
          by_cases e3 : 0 < cn
          · exact absurd h2 (fun q => q.elim (fun z => z e1) (fun q => q.elim (fun z => z e2) (fun z => z e3)))
          · refine mmW_t (XT.i0_le_t (e3)) ?_
            exact wf 17 (by decide)
        · refine mmW_t (XT.i0_ge_t (e2)) ?_
          exact wf 19 (by decide)
      · refine mmW_t (XT.ii_ne_t (e1)) ?_
        exact wf 21 (by decide)
    · exact absurd h1 (fun q => q.elim d1 d2)
set_option maxRecDepth 65536 in
set_option maxHeartbeats 40000000 in
theorem own_t5 {H : MHeap} {tr br m : Nat} {fr lm cn pt ix : Int32} {z : Int64} {Q : Option Value → MHeap → Nat → Prop} (h1 : cn = 0) (w : Q (some (.int (-1))) H 0) : mmW K_3 I_3 (some .int) (m + 40) 86 [.val (.ref tr), .val (.ref br), .val (.int fr), .val (.int lm), .val (.long z), .second, .val (.int cn), .val (.int pt), .val (.int ix), .unset] [] H 0 Q := by
  refine mmW_steps (k := 4) (n := m + 36) (pc' := (if ifCond.holds .eq cn = true then 104 else 95)) (L' := [.val (.ref tr), .val (.ref br), .val (.int fr), .val (.int lm), .val (.long z), .second, .val (.int cn), .val (.int pt), .val (.int ix), .val (.int ix)]) (S' := []) (H' := H) (sl' := 0) rfl ?_
  refine mmW_t (XT.i0_eq_t (h1)) ?_
  refine mmW_steps (k := 4) (n := m + 32) (pc' := 151) (L' := [.val (.ref tr), .val (.ref br), .val (.int fr), .val (.int lm), .val (.long z), .second, .val (.int cn), .val (.int pt), .val (.int ix), .val (.int (-1 : Int32))]) (S' := [.int (-1 : Int32)]) (H' := H) (sl' := 0) rfl ?_
  exact mmW_ret (n := m + 31) (i := .ireturn) rfl rfl w
set_option maxRecDepth 65536 in
set_option maxHeartbeats 40000000 in
theorem own_t6 {H : MHeap} {tr br m : Nat} {fr lm cn pt ix : Int32} {z : Int64} {Q : Option Value → MHeap → Nat → Prop} (h1 : ¬ cn = 0) (h2 : pt = (ix - (1 : Int32))) (w : Q (some (.int (-1))) H 0) : mmW K_3 I_3 (some .int) (m + 40) 86 [.val (.ref tr), .val (.ref br), .val (.int fr), .val (.int lm), .val (.long z), .second, .val (.int cn), .val (.int pt), .val (.int ix), .unset] [] H 0 Q := by
  refine mmW_steps (k := 4) (n := m + 36) (pc' := (if ifCond.holds .eq cn = true then 104 else 95)) (L' := [.val (.ref tr), .val (.ref br), .val (.int fr), .val (.int lm), .val (.long z), .second, .val (.int cn), .val (.int pt), .val (.int ix), .val (.int ix)]) (S' := []) (H' := H) (sl' := 0) rfl ?_
  refine mmW_f (XT.i0_eq_f (h1)) ?_
  refine mmW_steps (k := 5) (n := m + 31) (pc' := (if if_icmp.holds .ne pt (ix - (1 : Int32)) = true then 110 else 104)) (L' := [.val (.ref tr), .val (.ref br), .val (.int fr), .val (.int lm), .val (.long z), .second, .val (.int cn), .val (.int pt), .val (.int ix), .val (.int ix)]) (S' := []) (H' := H) (sl' := 0) rfl ?_
  refine mmW_f (XT.ii_ne_f (h2)) ?_
  refine mmW_steps (k := 4) (n := m + 27) (pc' := 151) (L' := [.val (.ref tr), .val (.ref br), .val (.int fr), .val (.int lm), .val (.long z), .second, .val (.int cn), .val (.int pt), .val (.int ix), .val (.int (-1 : Int32))]) (S' := [.int (-1 : Int32)]) (H' := H) (sl' := 0) rfl ?_
  exact mmW_ret (n := m + 26) (i := .ireturn) rfl rfl w
set_option maxRecDepth 65536 in
set_option maxHeartbeats 40000000 in
theorem own_t7 {H : MHeap} {tr br m : Nat} {fr lm cn pt ix : Int32} {z : Int64} {Q : Option Value → MHeap → Nat → Prop} {dg : Int64} {dc : Int32} (ht : mmNth H tr = some (.inl (0, [.long dg, .int dc]))) (h1 : ¬ cn = 0) (h2 : ¬ pt = (ix - (1 : Int32))) (w : Q (some (.int ix)) (H.set tr (.inl (0, [.long (if (18 : Int32) < cn then (-2 : Int64) else z), .int (if pt < 0 then (0 : Int32) else ((ix - (1 : Int32)) - pt))]))) 0) : mmW K_3 I_3 (some .int) (m + 40) 86 [.val (.ref tr), .val (.ref br), .val (.int fr), .val (.int lm), .val (.long z), .second, .val (.int cn), .val (.int pt), .val (.int ix), .unset] [] H 0 Q := by
  refine mmW_steps (k := 4) (n := m + 36) (pc' := (if ifCond.holds .eq cn = true then 104 else 95)) (L' := [.val (.ref tr), .val (.ref br), .val (.int fr), .val (.int lm), .val (.long z), .second, .val (.int cn), .val (.int pt), .val (.int ix), .val (.int ix)]) (S' := []) (H' := H) (sl' := 0) rfl ?_
  refine mmW_f (XT.i0_eq_f (h1)) ?_
  refine mmW_steps (k := 5) (n := m + 31) (pc' := (if if_icmp.holds .ne pt (ix - (1 : Int32)) = true then 110 else 104)) (L' := [.val (.ref tr), .val (.ref br), .val (.int fr), .val (.int lm), .val (.long z), .second, .val (.int cn), .val (.int pt), .val (.int ix), .val (.int ix)]) (S' := []) (H' := H) (sl' := 0) rfl ?_
  refine mmW_t (XT.ii_ne_t (h2)) ?_
  refine mmW_steps (k := 4) (n := m + 27) (pc' := (if if_icmp.holds .le cn (18 : Int32) = true then 124 else 118)) (L' := [.val (.ref tr), .val (.ref br), .val (.int fr), .val (.int lm), .val (.long z), .second, .val (.int cn), .val (.int pt), .val (.int ix), .val (.int ix)]) (S' := [.ref tr]) (H' := H) (sl' := 0) rfl ?_
  by_cases f1 : (18 : Int32) < cn
  · refine mmW_f (XT.ii_le_f (f1)) ?_
    refine mmW_steps (k := 2) (n := m + 25) (pc' := 126) (L' := [.val (.ref tr), .val (.ref br), .val (.int fr), .val (.int lm), .val (.long z), .second, .val (.int cn), .val (.int pt), .val (.int ix), .val (.int ix)]) (S' := [.long (-2 : Int64), .ref tr]) (H' := H) (sl' := 0) rfl ?_
    refine mmW_putF (n := m + 24) rfl rfl (ht) (rfl) ?_
    show mmW K_3 I_3 (some .int) (m + 24) 129 [.val (.ref tr), .val (.ref br), .val (.int fr), .val (.int lm), .val (.long z), .second, .val (.int cn), .val (.int pt), .val (.int ix), .val (.int ix)] [] (H.set tr (.inl (0, [.long (-2 : Int64), .int dc]))) 0 _
    refine mmW_steps (k := 3) (n := m + 21) (pc' := (if ifCond.holds .ge pt = true then 139 else 135)) (L' := [.val (.ref tr), .val (.ref br), .val (.int fr), .val (.int lm), .val (.long z), .second, .val (.int cn), .val (.int pt), .val (.int ix), .val (.int ix)]) (S' := [.ref tr]) (H' := (H.set tr (.inl (0, [.long (-2 : Int64), .int dc])))) (sl' := 0) rfl ?_
    by_cases f2 : pt < 0
    · refine mmW_f (XT.i0_ge_f (f2)) ?_
      refine mmW_steps (k := 2) (n := m + 19) (pc' := 146) (L' := [.val (.ref tr), .val (.ref br), .val (.int fr), .val (.int lm), .val (.long z), .second, .val (.int cn), .val (.int pt), .val (.int ix), .val (.int ix)]) (S' := [.int (0 : Int32), .ref tr]) (H' := (H.set tr (.inl (0, [.long (-2 : Int64), .int dc])))) (sl' := 0) rfl ?_
      refine mmW_putF (n := m + 18) rfl rfl (mmNth_set _ ht) (rfl) ?_
      show mmW K_3 I_3 (some .int) (m + 18) 149 [.val (.ref tr), .val (.ref br), .val (.int fr), .val (.int lm), .val (.long z), .second, .val (.int cn), .val (.int pt), .val (.int ix), .val (.int ix)] [] (List.set (H.set tr (.inl (0, [.long (-2 : Int64), .int dc]))) tr (.inl (0, [.long (-2 : Int64), .int (0 : Int32)]))) 0 _
      rw [List.set_set]
      rw [if_pos f1, if_pos f2] at w
      refine mmW_steps (k := 1) (n := m + 17) (pc' := 151) (L' := [.val (.ref tr), .val (.ref br), .val (.int fr), .val (.int lm), .val (.long z), .second, .val (.int cn), .val (.int pt), .val (.int ix), .val (.int ix)]) (S' := [.int ix]) (H' := (H.set tr (.inl (0, [.long (-2 : Int64), .int (0 : Int32)])))) (sl' := 0) rfl ?_
      exact mmW_ret (n := m + 16) (i := .ireturn) rfl rfl w
    · refine mmW_t (XT.i0_ge_t (f2)) ?_
      refine mmW_steps (k := 5) (n := m + 16) (pc' := 146) (L' := [.val (.ref tr), .val (.ref br), .val (.int fr), .val (.int lm), .val (.long z), .second, .val (.int cn), .val (.int pt), .val (.int ix), .val (.int ix)]) (S' := [.int ((ix - (1 : Int32)) - pt), .ref tr]) (H' := (H.set tr (.inl (0, [.long (-2 : Int64), .int dc])))) (sl' := 0) rfl ?_
      refine mmW_putF (n := m + 15) rfl rfl (mmNth_set _ ht) (rfl) ?_
      show mmW K_3 I_3 (some .int) (m + 15) 149 [.val (.ref tr), .val (.ref br), .val (.int fr), .val (.int lm), .val (.long z), .second, .val (.int cn), .val (.int pt), .val (.int ix), .val (.int ix)] [] (List.set (H.set tr (.inl (0, [.long (-2 : Int64), .int dc]))) tr (.inl (0, [.long (-2 : Int64), .int ((ix - (1 : Int32)) - pt)]))) 0 _
      rw [List.set_set]
      rw [if_pos f1, if_neg f2] at w
      refine mmW_steps (k := 1) (n := m + 14) (pc' := 151) (L' := [.val (.ref tr), .val (.ref br), .val (.int fr), .val (.int lm), .val (.long z), .second, .val (.int cn), .val (.int pt), .val (.int ix), .val (.int ix)]) (S' := [.int ix]) (H' := (H.set tr (.inl (0, [.long (-2 : Int64), .int ((ix - (1 : Int32)) - pt)])))) (sl' := 0) rfl ?_
      exact mmW_ret (n := m + 13) (i := .ireturn) rfl rfl w
  · refine mmW_t (XT.ii_le_t (f1)) ?_
    refine mmW_steps (k := 1) (n := m + 26) (pc' := 126) (L' := [.val (.ref tr), .val (.ref br), .val (.int fr), .val (.int lm), .val (.long z), .second, .val (.int cn), .val (.int pt), .val (.int ix), .val (.int ix)]) (S' := [.long z, .ref tr]) (H' := H) (sl' := 0) rfl ?_
    refine mmW_putF (n := m + 25) rfl rfl (ht) (rfl) ?_
    show mmW K_3 I_3 (some .int) (m + 25) 129 [.val (.ref tr), .val (.ref br), .val (.int fr), .val (.int lm), .val (.long z), .second, .val (.int cn), .val (.int pt), .val (.int ix), .val (.int ix)] [] (H.set tr (.inl (0, [.long z, .int dc]))) 0 _
    refine mmW_steps (k := 3) (n := m + 22) (pc' := (if ifCond.holds .ge pt = true then 139 else 135)) (L' := [.val (.ref tr), .val (.ref br), .val (.int fr), .val (.int lm), .val (.long z), .second, .val (.int cn), .val (.int pt), .val (.int ix), .val (.int ix)]) (S' := [.ref tr]) (H' := (H.set tr (.inl (0, [.long z, .int dc])))) (sl' := 0) rfl ?_
    by_cases f2 : pt < 0
    · refine mmW_f (XT.i0_ge_f (f2)) ?_
      refine mmW_steps (k := 2) (n := m + 20) (pc' := 146) (L' := [.val (.ref tr), .val (.ref br), .val (.int fr), .val (.int lm), .val (.long z), .second, .val (.int cn), .val (.int pt), .val (.int ix), .val (.int ix)]) (S' := [.int (0 : Int32), .ref tr]) (H' := (H.set tr (.inl (0, [.long z, .int dc])))) (sl' := 0) rfl ?_
      refine mmW_putF (n := m + 19) rfl rfl (mmNth_set _ ht) (rfl) ?_
      show mmW K_3 I_3 (some .int) (m + 19) 149 [.val (.ref tr), .val (.ref br), .val (.int fr), .val (.int lm), .val (.long z), .second, .val (.int cn), .val (.int pt), .val (.int ix), .val (.int ix)] [] (List.set (H.set tr (.inl (0, [.long z, .int dc]))) tr (.inl (0, [.long z, .int (0 : Int32)]))) 0 _
      rw [List.set_set]
      rw [if_neg f1, if_pos f2] at w
      refine mmW_steps (k := 1) (n := m + 18) (pc' := 151) (L' := [.val (.ref tr), .val (.ref br), .val (.int fr), .val (.int lm), .val (.long z), .second, .val (.int cn), .val (.int pt), .val (.int ix), .val (.int ix)]) (S' := [.int ix]) (H' := (H.set tr (.inl (0, [.long z, .int (0 : Int32)])))) (sl' := 0) rfl ?_
      exact mmW_ret (n := m + 17) (i := .ireturn) rfl rfl w
    · refine mmW_t (XT.i0_ge_t (f2)) ?_
      refine mmW_steps (k := 5) (n := m + 17) (pc' := 146) (L' := [.val (.ref tr), .val (.ref br), .val (.int fr), .val (.int lm), .val (.long z), .second, .val (.int cn), .val (.int pt), .val (.int ix), .val (.int ix)]) (S' := [.int ((ix - (1 : Int32)) - pt), .ref tr]) (H' := (H.set tr (.inl (0, [.long z, .int dc])))) (sl' := 0) rfl ?_
      refine mmW_putF (n := m + 16) rfl rfl (mmNth_set _ ht) (rfl) ?_
      show mmW K_3 I_3 (some .int) (m + 16) 149 [.val (.ref tr), .val (.ref br), .val (.int fr), .val (.int lm), .val (.long z), .second, .val (.int cn), .val (.int pt), .val (.int ix), .val (.int ix)] [] (List.set (H.set tr (.inl (0, [.long z, .int dc]))) tr (.inl (0, [.long z, .int ((ix - (1 : Int32)) - pt)]))) 0 _
      rw [List.set_set]
      rw [if_neg f1, if_neg f2] at w
      refine mmW_steps (k := 1) (n := m + 15) (pc' := 151) (L' := [.val (.ref tr), .val (.ref br), .val (.int fr), .val (.int lm), .val (.long z), .second, .val (.int cn), .val (.int pt), .val (.int ix), .val (.int ix)]) (S' := [.int ix]) (H' := (H.set tr (.inl (0, [.long z, .int ((ix - (1 : Int32)) - pt)])))) (sl' := 0) rfl ?_
      exact mmW_ret (n := m + 14) (i := .ireturn) rfl rfl w
theorem own_suc {i : Int32} {I : Nat} (h : i.toInt = (I : Int)) (hI : I ≤ 2000) : (i + (1 : Int32)).toInt = ((I + 1 : Nat) : Int) := by
  have e : (1 : Int32).toInt = 1 := rfl
  rw [Kit.i32_add (by rw [e]; omega) (by rw [e]; omega), e, h]; omega
theorem own_dn {NM J : Nat} {v : Int32} (h : own_d NM J v) : ¬ (v - (48 : Int32)) < 0 ∧ ¬ (9 : Int32) < (v - (48 : Int32)) ∧ (v - (48 : Int32)).toInt = v.toInt - 48 := by
  have e : (48 : Int32).toInt = 48 := rfl
  have z : (0 : Int32).toInt = 0 := rfl
  have n : (9 : Int32).toInt = 9 := rfl
  have h1 := h.1
  have h2 := h.2.1
  have h3 : (v - (48 : Int32)).toInt = v.toInt - 48 := by rw [Kit.i32_sub (by rw [e]; omega) (by rw [e]; omega), e]
  rw [Int32.lt_iff_toInt_lt, Int32.lt_iff_toInt_lt, h3, z, n]
  omega
theorem own_num {NM k : Nat} {z : Int64} {v : Int32} (hN : NM < 10 ^ 18) (h : own_d NM k v) (hz : k ≤ 18 → z.toInt = ((NM / 10 ^ (18 - k) : Nat) : Int)) (q : k + 1 ≤ 18) : ((z * (10 : Int64)) + (v - (48 : Int32)).toInt64).toInt = ((NM / 10 ^ (18 - (k + 1)) : Nat) : Int) := by
  have e : (10 : Int64).toInt = 10 := rfl
  have h1 := hz (by omega)
  have h2 := h.2.2 (by omega)
  have h3 := (own_dn h).2.2
  have e1 : 18 - (k + 1) = 17 - k := by omega
  have e2 : 18 - k = (17 - k) + 1 := by omega
  rw [e1]
  rw [e2, Nat.pow_succ, ← Nat.div_div_eq_div_mul] at h1
  have hM : NM / 10 ^ (17 - k) ≤ NM := Nat.div_le_self _ _
  generalize NM / 10 ^ (17 - k) = M at h1 h2 hM ⊢
  have h4 : (z * (10 : Int64)).toInt = ((M / 10 * 10 : Nat) : Int) := by
    rw [Kit.i64_mul (by rw [e, h1]; omega) (by rw [e, h1]; omega), e, h1]; omega
  have h5 : (v - (48 : Int32)).toInt64.toInt = ((M % 10 : Nat) : Int) := by rw [Int32.toInt_toInt64, h3, h2]; omega
  rw [Kit.i64_add (by rw [h4, h5]; omega) (by rw [h4, h5]; omega), h4, h5]; omega
theorem own_z0 {NM : Nat} (hN : NM < 10 ^ 18) : (0 : Int64).toInt = ((NM / 10 ^ (18 - 0) : Nat) : Int) := by
  rw [Nat.sub_zero, Nat.div_eq_of_lt hN]; rfl
theorem own_0 {x : Int32} (h : x.toInt = 0) : x = 0 := Int32.toInt_inj.mp h
theorem own_n0 {x : Int32} {X : Nat} (h : x.toInt = X) (hX : 1 ≤ X) : ¬ x = 0 := fun z => by
  rw [z] at h
  have e : (0 : Int32).toInt = 0 := rfl
  omega
theorem own_i1 {x : Int32} {X : Nat} (h : x.toInt = (X : Int)) : (x - (1 : Int32)).toInt = X - 1 := by
  have e : (1 : Int32).toInt = 1 := rfl
  have := x.toInt_lt
  rw [Kit.i32_sub (by rw [e]; omega) (by rw [e]; omega), e, h]
theorem own_pm {x : Int32} {X : Nat} (h : x.toInt = (X : Int)) (hX : 1 ≤ X) : ¬ (-1 : Int32) = (x - (1 : Int32)) := fun z => by
  have h1 := own_i1 h
  rw [← z] at h1
  have e : (-1 : Int32).toInt = -1 := rfl
  omega
theorem own_pe {p x : Int32} {P X : Nat} (hp : p.toInt = (P : Int)) (h : x.toInt = (X : Int)) (hX : X = P + 1) : p = (x - (1 : Int32)) := by
  apply Int32.toInt_inj.mp
  rw [own_i1 h, hp]; omega
theorem own_pn {p x : Int32} {P X : Nat} (hp : p.toInt = (P : Int)) (h : x.toInt = (X : Int)) (hX : P + 1 < X) : ¬ p = (x - (1 : Int32)) := fun z => by
  have h1 := own_i1 h
  rw [← z] at h1
  omega
theorem own_dc {p x : Int32} {P X B : Nat} (hp : p.toInt = (P : Int)) (h : x.toInt = (X : Int)) (hX : X = P + B + 1) (hb : X ≤ 1000) : (if p < 0 then (0 : Int32) else ((x - (1 : Int32)) - p)).toInt = (B : Int) := by
  rw [if_neg (own_nn hp).1, Kit.i32_sub (by rw [own_i1 h]; omega) (by rw [own_i1 h]; omega), own_i1 h, hp]; omega
theorem own_dz {cn : Int32} {C NM : Nat} {z : Int64} (h : cn.toInt = (C : Int)) (hz : C ≤ 18 → z.toInt = ((NM / 10 ^ (18 - C) : Nat) : Int)) (q : C ≤ 18) : (if (18 : Int32) < cn then (-2 : Int64) else z).toInt = ((NM / 10 ^ (18 - C) : Nat) : Int) := by
  have l := own_lt (a := (18 : Int32)) (A := 18) rfl h
  rw [if_neg (fun w => absurd (l.mp w) (by omega))]
  exact hz q
theorem own_dz2 {cn : Int32} {C : Nat} {z : Int64} (h : cn.toInt = (C : Int)) (q : 18 < C) : (if (18 : Int32) < cn then (-2 : Int64) else z) = (-2 : Int64) := by
  have l := own_lt (a := (18 : Int32)) (A := 18) rfl h
  rw [if_pos (l.mpr q)]
theorem mmB_ex {K : MTab} {I : Nat → Option Instr} {ret : Option FieldType} {maxL fuel : Nat} {as : List Value} {H : MHeap} {Q : Option Value → MHeap → Nat → Prop} (hl : (mmEntry as maxL).length = maxL) (w : mmW K I ret fuel 0 (mmEntry as maxL) [] H 0 Q) : ∃ v H' ds, mmBody K I ret maxL fuel as H = some (v, H', ds) ∧ Q v H' ds := by
  obtain ⟨v, H', ds, h1, h2⟩ := w
  exact ⟨v, H', ds, by unfold mmBody; rw [if_pos hl]; exact h1, h2⟩

set_option maxRecDepth 65536 in
set_option maxHeartbeats 40000000 in
theorem own_lp0 {H : MHeap} {tr br : Nat} {c : Nat → Int32} {fr lm : Int32} {Q : Option Value → MHeap → Nat → Prop} {FR E0 NM K LM A : Nat} {t : Int32} (hb : mmNth H br = some (.inr (.byte, own_n 26 c))) (hc : ∀ I, I < 26 → own_ok0 FR E0 NM t I (c I)) (ht1 : (t - (48 : Int32)) < 0 ∨ (9 : Int32) < (t - (48 : Int32))) (hlm : lm.toInt = LM) (gE : E0 ≤ 24) (gL : LM ≤ 26) (gN : NM < 10 ^ 18) (ht2 : ¬ t = 46) (hK1 : FR + K ≤ LM) (hK2 : FR + K ≤ E0) (hK3 : FR + K = LM ∨ FR + K = E0)
    (cont : ∀ (z : Int64) (cn ix : Int32), ix.toInt = ((FR + K : Nat) : Int) → cn.toInt = K → (K ≤ 18 → z.toInt = ((NM / 10 ^ (18 - K) : Nat) : Int)) → mmW K_3 I_3 (some .int) 40 86 [.val (.ref tr), .val (.ref br), .val (.int fr), .val (.int lm), .val (.long z), .second, .val (.int cn), .val (.int (-1 : Int32)), .val (.int ix), .unset] [] H 0 Q) :
    ∀ (r k : Nat) (z : Int64) (cn ix : Int32), k + r = K → ix.toInt = ((FR + k : Nat) : Int) → cn.toInt = k → (k ≤ 18 → z.toInt = ((NM / 10 ^ (18 - k) : Nat) : Int)) → mmW K_3 I_3 (some .int) (40 * r + 80) 12 [.val (.ref tr), .val (.ref br), .val (.int fr), .val (.int lm), .val (.long z), .second, .val (.int cn), .val (.int (-1 : Int32)), .val (.int ix), .unset] [] H 0 Q := by
  intro r
  induction r with
  | zero =>
    intro k z cn ix hk hix hcn hz
    obtain rfl : k = K := by omega
    refine mmW_le (n := 40 + 40) (by omega) ?_
    by_cases hl : ix < lm
    · have hl2 := (own_lt hix hlm).mp hl
      have hE : FR + k = E0 := by omega
      have hv := (hc (FR + k) (by omega)).2.1 hE
      exact own_t4 hb hix (by omega) hl (by rw [hv]; exact ht1) (Or.inl (by rw [hv]; exact ht2)) (cont z cn ix hix hcn hz)
    · exact own_t3 hl (cont z cn ix hix hcn hz)
  | succ r ih =>
    intro k z cn ix hk hix hcn hz
    have hlt : ix < lm := (own_lt hix hlm).mpr (by omega)
    have hd := (hc (FR + k) (by omega)).2.2 (by omega) (by omega)
    rw [show FR + k - FR = k by omega] at hd
    have hn := own_dn hd
    refine mmW_le (n := (40 * r + 80) + 40) (by omega) ?_
    exact own_t1 hb hix (by omega) hlt hn.1 hn.2.1 (ih (k + 1) _ _ _ (by omega) (own_suc (I := FR + k) hix (by omega)) (own_suc hcn (by omega)) (own_num gN hd hz))

set_option maxRecDepth 65536 in
set_option maxHeartbeats 40000000 in
theorem own_lp1b {H : MHeap} {tr br : Nat} {c : Nat → Int32} {fr lm : Int32} {Q : Option Value → MHeap → Nat → Prop} {FR E0 NM K LM A : Nat} {t : Int32} (hb : mmNth H br = some (.inr (.byte, own_n 26 c))) {J : Nat} {pt : Int32} (hc : ∀ I, I < 26 → own_ok1 FR E0 NM A t I (c I)) (ht1 : (t - (48 : Int32)) < 0 ∨ (9 : Int32) < (t - (48 : Int32))) (hlm : lm.toInt = LM) (gE : E0 ≤ 24) (gL : LM ≤ 26) (gN : NM < 10 ^ 18) (hpt : pt.toInt = ((FR + A : Nat) : Int)) (hK1 : FR + J + 1 ≤ LM) (hK2 : FR + J + 1 ≤ E0) (hK3 : FR + J + 1 = LM ∨ FR + J + 1 = E0)
    (cont : ∀ (z : Int64) (cn ix : Int32), ix.toInt = ((FR + J + 1 : Nat) : Int) → cn.toInt = J → (J ≤ 18 → z.toInt = ((NM / 10 ^ (18 - J) : Nat) : Int)) → mmW K_3 I_3 (some .int) 40 86 [.val (.ref tr), .val (.ref br), .val (.int fr), .val (.int lm), .val (.long z), .second, .val (.int cn), .val (.int pt), .val (.int ix), .unset] [] H 0 Q) :
    ∀ (r k : Nat) (z : Int64) (cn ix : Int32), k + r = J → A ≤ k → ix.toInt = ((FR + k + 1 : Nat) : Int) → cn.toInt = k → (k ≤ 18 → z.toInt = ((NM / 10 ^ (18 - k) : Nat) : Int)) → mmW K_3 I_3 (some .int) (40 * r + 80) 12 [.val (.ref tr), .val (.ref br), .val (.int fr), .val (.int lm), .val (.long z), .second, .val (.int cn), .val (.int pt), .val (.int ix), .unset] [] H 0 Q := by
  intro r
  induction r with
  | zero =>
    intro k z cn ix hk hA hix hcn hz
    obtain rfl : k = J := by omega
    refine mmW_le (n := 40 + 40) (by omega) ?_
    by_cases hl : ix < lm
    · have hl2 := (own_lt hix hlm).mp hl
      have hE : FR + k + 1 = E0 := by omega
      have hv := (hc (FR + k + 1) (by omega)).2.1 hE
      exact own_t4 hb hix (by omega) hl (by rw [hv]; exact ht1) (Or.inr (Or.inl (own_nn hpt).1)) (cont z cn ix hix hcn hz)
    · exact own_t3 hl (cont z cn ix hix hcn hz)
  | succ r ih =>
    intro k z cn ix hk hA hix hcn hz
    have hlt : ix < lm := (own_lt hix hlm).mpr (by omega)
    have hd := ((hc (FR + k + 1) (by omega)).2.2 (by omega) (by omega)).2.2 (by omega)
    rw [show FR + k + 1 - FR - 1 = k by omega] at hd
    have hn := own_dn hd
    refine mmW_le (n := (40 * r + 80) + 40) (by omega) ?_
    exact own_t1 hb hix (by omega) hlt hn.1 hn.2.1 (ih (k + 1) _ _ _ (by omega) (by omega) (own_suc (I := FR + k + 1) hix (by omega)) (own_suc hcn (by omega)) (own_num gN hd hz))

set_option maxRecDepth 65536 in
set_option maxHeartbeats 40000000 in
theorem own_lp1a {H : MHeap} {tr br : Nat} {c : Nat → Int32} {fr lm : Int32} {Q : Option Value → MHeap → Nat → Prop} {FR E0 NM K LM A : Nat} {t : Int32} (hb : mmNth H br = some (.inr (.byte, own_n 26 c))) (hc : ∀ I, I < 26 → own_ok1 FR E0 NM A t I (c I)) (ht1 : (t - (48 : Int32)) < 0 ∨ (9 : Int32) < (t - (48 : Int32))) (hlm : lm.toInt = LM) (gE : E0 ≤ 24) (gL : LM ≤ 26) (gN : NM < 10 ^ 18) (gA : 1 ≤ A) (gE1 : FR + A + 1 ≤ E0) (hK1 : FR + K ≤ LM) (hK2 : FR + K ≤ E0) (hK3 : FR + K = LM ∨ FR + K = E0)
    (contA : K ≤ A → ∀ (z : Int64) (cn ix : Int32), ix.toInt = ((FR + K : Nat) : Int) → cn.toInt = K → (K ≤ 18 → z.toInt = ((NM / 10 ^ (18 - K) : Nat) : Int)) → mmW K_3 I_3 (some .int) 40 86 [.val (.ref tr), .val (.ref br), .val (.int fr), .val (.int lm), .val (.long z), .second, .val (.int cn), .val (.int (-1 : Int32)), .val (.int ix), .unset] [] H 0 Q)
    (contB : ∀ J, K = J + 1 → A ≤ J → ∀ (z : Int64) (cn pt ix : Int32), pt.toInt = ((FR + A : Nat) : Int) → ix.toInt = ((FR + J + 1 : Nat) : Int) → cn.toInt = J → (J ≤ 18 → z.toInt = ((NM / 10 ^ (18 - J) : Nat) : Int)) → mmW K_3 I_3 (some .int) 40 86 [.val (.ref tr), .val (.ref br), .val (.int fr), .val (.int lm), .val (.long z), .second, .val (.int cn), .val (.int pt), .val (.int ix), .unset] [] H 0 Q) :
    ∀ (r k : Nat) (z : Int64) (cn ix : Int32), k + r = K → k ≤ A → ix.toInt = ((FR + k : Nat) : Int) → cn.toInt = k → (k ≤ 18 → z.toInt = ((NM / 10 ^ (18 - k) : Nat) : Int)) → mmW K_3 I_3 (some .int) (40 * r + 80) 12 [.val (.ref tr), .val (.ref br), .val (.int fr), .val (.int lm), .val (.long z), .second, .val (.int cn), .val (.int (-1 : Int32)), .val (.int ix), .unset] [] H 0 Q := by
  intro r
  induction r with
  | zero =>
    intro k z cn ix hk hA hix hcn hz
    obtain rfl : k = K := by omega
    refine mmW_le (n := 40 + 40) (by omega) ?_
    have hl : ¬ ix < lm := fun z => absurd ((own_lt hix hlm).mp z) (by omega)
    exact own_t3 hl (contA hA z cn ix hix hcn hz)
  | succ r ih =>
    intro k z cn ix hk hA hix hcn hz
    have hlt : ix < lm := (own_lt hix hlm).mpr (by omega)
    have ho := (hc (FR + k) (by omega)).2.2 (by omega) (by omega)
    rw [show FR + k - FR = k by omega] at ho
    refine mmW_le (n := (40 * r + 80) + 40) (by omega) ?_
    by_cases hkA : k < A
    · have hd := ho.2.1 hkA
      have hn := own_dn hd
      exact own_t1 hb hix (by omega) hlt hn.1 hn.2.1 (ih (k + 1) _ _ _ (by omega) (by omega) (own_suc (I := FR + k) hix (by omega)) (own_suc hcn (by omega)) (own_num gN hd hz))
    · obtain rfl : k = A := by omega
      have hp : (0 : Int32) < cn := (own_lt (A := 0) rfl hcn).mpr (by omega)
      refine own_t2 hb hix (by omega) hlt (ho.1 rfl) (by decide) hp ?_
      obtain ⟨J, rfl⟩ : ∃ J, K = J + 1 := ⟨K - 1, by omega⟩
      exact own_lp1b (K := 0) (J := J) hb hc ht1 hlm gE gL gN hix (by omega) (by omega) (by omega) (fun z cn ix' a1 a2 a3 => contB J rfl (by omega) z cn _ ix' hix a1 a2 a3) r k _ _ _ (by omega) (by omega) (own_suc (I := FR + k) hix (by omega)) hcn hz

set_option maxRecDepth 65536 in
set_option maxHeartbeats 40000000 in
theorem own_rdN (H : MHeap) (tr br : Nat) (c : Nat → Int32) (fr lm : Int32) (h : ¬ fr < lm) : B_3 [.ref tr, .ref br, .int fr, .int lm] H = some (some (.int (-1)), H, 0) := by
  refine mmB_of rfl ?_
  show mmW K_3 I_3 (some .int) 2000 0 [.val (.ref tr), .val (.ref br), .val (.int fr), .val (.int lm), .unset, .unset, .unset, .unset, .unset, .unset] [] H 0 _
  refine mmW_steps (k := 8) (n := 1992) (pc' := 12) (L' := [.val (.ref tr), .val (.ref br), .val (.int fr), .val (.int lm), .val (.long (0 : Int64)), .second, .val (.int (0 : Int32)), .val (.int (-1 : Int32)), .val (.int fr), .unset]) (S' := []) (H' := H) (sl' := 0) rfl ?_
  exact mmW_le (n := 40 + 40) (by decide) (own_t3 h (own_t5 (m := 0) rfl ⟨rfl, rfl, rfl⟩))
set_option maxRecDepth 65536 in
set_option maxHeartbeats 40000000 in
theorem own_rd0a (H : MHeap) (tr br : Nat) (c : Nat → Int32) (fr lm : Int32) {FR E0 NM K LM A : Nat} {t : Int32} {dg : Int64} {dd : Int32} (hb : mmNth H br = some (.inr (.byte, own_n 26 c))) (ht : mmNth H tr = some (.inl (0, [.long dg, .int dd]))) (hc : ∀ I, I < 26 → own_ok0 FR E0 NM t I (c I)) (ht1 : (t - (48 : Int32)) < 0 ∨ (9 : Int32) < (t - (48 : Int32))) (hlm : lm.toInt = LM) (gE : E0 ≤ 24) (gL : LM ≤ 26) (gN : NM < 10 ^ 18) (hfr : fr.toInt = FR) (hK1 : FR + K ≤ LM) (hK2 : FR + K ≤ E0) (hK3 : FR + K = LM ∨ FR + K = E0) (ht2 : ¬ t = 46) (hK : K = 0) : B_3 [.ref tr, .ref br, .int fr, .int lm] H = some (some (.int (-1)), H, 0) := by
  refine mmB_of rfl ?_
  show mmW K_3 I_3 (some .int) 2000 0 [.val (.ref tr), .val (.ref br), .val (.int fr), .val (.int lm), .unset, .unset, .unset, .unset, .unset, .unset] [] H 0 _
  refine mmW_steps (k := 8) (n := 1992) (pc' := 12) (L' := [.val (.ref tr), .val (.ref br), .val (.int fr), .val (.int lm), .val (.long (0 : Int64)), .second, .val (.int (0 : Int32)), .val (.int (-1 : Int32)), .val (.int fr), .unset]) (S' := []) (H' := H) (sl' := 0) rfl ?_
  exact mmW_le (by omega) (own_lp0 (A := 0) hb hc ht1 hlm gE gL gN ht2 hK1 hK2 hK3 (fun z cn ix a1 a2 a3 => own_t5 (m := 0) (own_0 (by rw [a2, hK]; rfl)) ⟨rfl, rfl, rfl⟩) K 0 _ _ _ (by omega) (by rw [hfr]; rfl) rfl (fun _ => own_z0 gN))
set_option maxRecDepth 65536 in
set_option maxHeartbeats 40000000 in
theorem own_rd0b (H : MHeap) (tr br : Nat) (c : Nat → Int32) (fr lm : Int32) {FR E0 NM K LM A : Nat} {t : Int32} {dg : Int64} {dd : Int32} (hb : mmNth H br = some (.inr (.byte, own_n 26 c))) (ht : mmNth H tr = some (.inl (0, [.long dg, .int dd]))) (hc : ∀ I, I < 26 → own_ok0 FR E0 NM t I (c I)) (ht1 : (t - (48 : Int32)) < 0 ∨ (9 : Int32) < (t - (48 : Int32))) (hlm : lm.toInt = LM) (gE : E0 ≤ 24) (gL : LM ≤ 26) (gN : NM < 10 ^ 18) (hfr : fr.toInt = FR) (hK1 : FR + K ≤ LM) (hK2 : FR + K ≤ E0) (hK3 : FR + K = LM ∨ FR + K = E0) (ht2 : ¬ t = 46) (hK : 1 ≤ K) (gK : K ≤ 30) : ∃ (ix : Int32) (z : Int64) (dc : Int32), B_3 [.ref tr, .ref br, .int fr, .int lm] H = some (some (.int ix), H.set tr (.inl (0, [.long z, .int dc])), 0) ∧ ix.toInt = ((FR + K : Nat) : Int) ∧ dc.toInt = ((0 : Nat) : Int) ∧ (K ≤ 18 → z.toInt = ((NM / 10 ^ (18 - K) : Nat) : Int)) ∧ (18 < K → z = (-2 : Int64)) := by
  have : ∃ v H' ds, B_3 [.ref tr, .ref br, .int fr, .int lm] H = some (v, H', ds) ∧ (fun v H' ds => ∃ (ix : Int32) (z : Int64) (dc : Int32), v = some (.int ix) ∧ H' = H.set tr (.inl (0, [.long z, .int dc])) ∧ ds = 0 ∧ ix.toInt = ((FR + K : Nat) : Int) ∧ dc.toInt = ((0 : Nat) : Int) ∧ (K ≤ 18 → z.toInt = ((NM / 10 ^ (18 - K) : Nat) : Int)) ∧ (18 < K → z = (-2 : Int64))) v H' ds := by
    refine mmB_ex rfl ?_
    show mmW K_3 I_3 (some .int) 2000 0 [.val (.ref tr), .val (.ref br), .val (.int fr), .val (.int lm), .unset, .unset, .unset, .unset, .unset, .unset] [] H 0 _
    refine mmW_steps (k := 8) (n := 1992) (pc' := 12) (L' := [.val (.ref tr), .val (.ref br), .val (.int fr), .val (.int lm), .val (.long (0 : Int64)), .second, .val (.int (0 : Int32)), .val (.int (-1 : Int32)), .val (.int fr), .unset]) (S' := []) (H' := H) (sl' := 0) rfl ?_
    exact mmW_le (by omega) (own_lp0 (A := 0) hb hc ht1 hlm gE gL gN ht2 hK1 hK2 hK3 (fun z cn ix a1 a2 a3 => own_t7 (m := 0) ht (own_n0 a2 (by omega)) (own_pm a1 (by omega)) ⟨_, _, _, rfl, rfl, rfl, a1, by rw [if_pos (by decide)]; rfl, own_dz a2 a3, own_dz2 a2⟩) K 0 _ _ _ (by omega) (by rw [hfr]; rfl) rfl (fun _ => own_z0 gN))
  obtain ⟨v, H', ds, h1, ix, z, dc, rfl, rfl, rfl, q1, q2, q3, q4⟩ := this
  exact ⟨ix, z, dc, h1, q1, q2, q3, q4⟩
set_option maxRecDepth 65536 in
set_option maxHeartbeats 40000000 in
theorem own_rd1a (H : MHeap) (tr br : Nat) (c : Nat → Int32) (fr lm : Int32) {FR E0 NM K LM A : Nat} {t : Int32} {dg : Int64} {dd : Int32} (hb : mmNth H br = some (.inr (.byte, own_n 26 c))) (ht : mmNth H tr = some (.inl (0, [.long dg, .int dd]))) (hc : ∀ I, I < 26 → own_ok1 FR E0 NM A t I (c I)) (ht1 : (t - (48 : Int32)) < 0 ∨ (9 : Int32) < (t - (48 : Int32))) (hlm : lm.toInt = LM) (gE : E0 ≤ 24) (gL : LM ≤ 26) (gN : NM < 10 ^ 18) (hfr : fr.toInt = FR) (hK1 : FR + K ≤ LM) (hK2 : FR + K ≤ E0) (hK3 : FR + K = LM ∨ FR + K = E0) (gA : 1 ≤ A) (gE1 : FR + A + 1 ≤ E0) (hK0 : 1 ≤ K) (hK : K ≤ A) : ∃ (ix : Int32) (z : Int64) (dc : Int32), B_3 [.ref tr, .ref br, .int fr, .int lm] H = some (some (.int ix), H.set tr (.inl (0, [.long z, .int dc])), 0) ∧ ix.toInt = ((FR + K : Nat) : Int) ∧ dc.toInt = ((0 : Nat) : Int) ∧ (K ≤ 18 → z.toInt = ((NM / 10 ^ (18 - K) : Nat) : Int)) ∧ (18 < K → z = (-2 : Int64)) := by
  have : ∃ v H' ds, B_3 [.ref tr, .ref br, .int fr, .int lm] H = some (v, H', ds) ∧ (fun v H' ds => ∃ (ix : Int32) (z : Int64) (dc : Int32), v = some (.int ix) ∧ H' = H.set tr (.inl (0, [.long z, .int dc])) ∧ ds = 0 ∧ ix.toInt = ((FR + K : Nat) : Int) ∧ dc.toInt = ((0 : Nat) : Int) ∧ (K ≤ 18 → z.toInt = ((NM / 10 ^ (18 - K) : Nat) : Int)) ∧ (18 < K → z = (-2 : Int64))) v H' ds := by
    refine mmB_ex rfl ?_
    show mmW K_3 I_3 (some .int) 2000 0 [.val (.ref tr), .val (.ref br), .val (.int fr), .val (.int lm), .unset, .unset, .unset, .unset, .unset, .unset] [] H 0 _
    refine mmW_steps (k := 8) (n := 1992) (pc' := 12) (L' := [.val (.ref tr), .val (.ref br), .val (.int fr), .val (.int lm), .val (.long (0 : Int64)), .second, .val (.int (0 : Int32)), .val (.int (-1 : Int32)), .val (.int fr), .unset]) (S' := []) (H' := H) (sl' := 0) rfl ?_
    exact mmW_le (by omega) (own_lp1a hb hc ht1 hlm gE gL gN gA gE1 hK1 hK2 hK3 (fun hKA z cn ix a1 a2 a3 => own_t7 (m := 0) ht (own_n0 a2 (by omega)) (own_pm a1 (by omega)) ⟨_, _, _, rfl, rfl, rfl, a1, by rw [if_pos (by decide)]; rfl, own_dz a2 a3, own_dz2 a2⟩) (fun J hJ hAJ z cn pt ix a0 a1 a2 a3 => absurd hK (by omega)) K 0 _ _ _ (by omega) (by omega) (by rw [hfr]; rfl) rfl (fun _ => own_z0 gN))
  obtain ⟨v, H', ds, h1, ix, z, dc, rfl, rfl, rfl, q1, q2, q3, q4⟩ := this
  exact ⟨ix, z, dc, h1, q1, q2, q3, q4⟩
set_option maxRecDepth 65536 in
set_option maxHeartbeats 40000000 in
theorem own_rd1b (H : MHeap) (tr br : Nat) (c : Nat → Int32) (fr lm : Int32) {FR E0 NM K LM A : Nat} {t : Int32} {dg : Int64} {dd : Int32} (hb : mmNth H br = some (.inr (.byte, own_n 26 c))) (ht : mmNth H tr = some (.inl (0, [.long dg, .int dd]))) (hc : ∀ I, I < 26 → own_ok1 FR E0 NM A t I (c I)) (ht1 : (t - (48 : Int32)) < 0 ∨ (9 : Int32) < (t - (48 : Int32))) (hlm : lm.toInt = LM) (gE : E0 ≤ 24) (gL : LM ≤ 26) (gN : NM < 10 ^ 18) (hfr : fr.toInt = FR) (hK1 : FR + K ≤ LM) (hK2 : FR + K ≤ E0) (hK3 : FR + K = LM ∨ FR + K = E0) (gA : 1 ≤ A) (gE1 : FR + A + 1 ≤ E0) (hK : K = A + 1) : B_3 [.ref tr, .ref br, .int fr, .int lm] H = some (some (.int (-1)), H, 0) := by
  refine mmB_of rfl ?_
  show mmW K_3 I_3 (some .int) 2000 0 [.val (.ref tr), .val (.ref br), .val (.int fr), .val (.int lm), .unset, .unset, .unset, .unset, .unset, .unset] [] H 0 _
  refine mmW_steps (k := 8) (n := 1992) (pc' := 12) (L' := [.val (.ref tr), .val (.ref br), .val (.int fr), .val (.int lm), .val (.long (0 : Int64)), .second, .val (.int (0 : Int32)), .val (.int (-1 : Int32)), .val (.int fr), .unset]) (S' := []) (H' := H) (sl' := 0) rfl ?_
  exact mmW_le (by omega) (own_lp1a hb hc ht1 hlm gE gL gN gA gE1 hK1 hK2 hK3 (fun hKA z cn ix a1 a2 a3 => absurd hKA (by omega)) (fun J hJ hAJ z cn pt ix a0 a1 a2 a3 => own_t6 (m := 0) (own_n0 a2 (by omega)) (own_pe a0 a1 (by omega)) ⟨rfl, rfl, rfl⟩) K 0 _ _ _ (by omega) (by omega) (by rw [hfr]; rfl) rfl (fun _ => own_z0 gN))
set_option maxRecDepth 65536 in
set_option maxHeartbeats 40000000 in
theorem own_rd1c (H : MHeap) (tr br : Nat) (c : Nat → Int32) (fr lm : Int32) {FR E0 NM K LM A : Nat} {t : Int32} {dg : Int64} {dd : Int32} (hb : mmNth H br = some (.inr (.byte, own_n 26 c))) (ht : mmNth H tr = some (.inl (0, [.long dg, .int dd]))) (hc : ∀ I, I < 26 → own_ok1 FR E0 NM A t I (c I)) (ht1 : (t - (48 : Int32)) < 0 ∨ (9 : Int32) < (t - (48 : Int32))) (hlm : lm.toInt = LM) (gE : E0 ≤ 24) (gL : LM ≤ 26) (gN : NM < 10 ^ 18) (hfr : fr.toInt = FR) (hK1 : FR + K ≤ LM) (hK2 : FR + K ≤ E0) (hK3 : FR + K = LM ∨ FR + K = E0) (gA : 1 ≤ A) (gE1 : FR + A + 1 ≤ E0) {J B : Nat} (hK : K = J + 1) (hJ : J = A + B) (hB : 1 ≤ B) : ∃ (ix : Int32) (z : Int64) (dc : Int32), B_3 [.ref tr, .ref br, .int fr, .int lm] H = some (some (.int ix), H.set tr (.inl (0, [.long z, .int dc])), 0) ∧ ix.toInt = ((FR + J + 1 : Nat) : Int) ∧ dc.toInt = ((B : Nat) : Int) ∧ (J ≤ 18 → z.toInt = ((NM / 10 ^ (18 - J) : Nat) : Int)) ∧ (18 < J → z = (-2 : Int64)) := by
  have : ∃ v H' ds, B_3 [.ref tr, .ref br, .int fr, .int lm] H = some (v, H', ds) ∧ (fun v H' ds => ∃ (ix : Int32) (z : Int64) (dc : Int32), v = some (.int ix) ∧ H' = H.set tr (.inl (0, [.long z, .int dc])) ∧ ds = 0 ∧ ix.toInt = ((FR + J + 1 : Nat) : Int) ∧ dc.toInt = ((B : Nat) : Int) ∧ (J ≤ 18 → z.toInt = ((NM / 10 ^ (18 - J) : Nat) : Int)) ∧ (18 < J → z = (-2 : Int64))) v H' ds := by
    refine mmB_ex rfl ?_
    show mmW K_3 I_3 (some .int) 2000 0 [.val (.ref tr), .val (.ref br), .val (.int fr), .val (.int lm), .unset, .unset, .unset, .unset, .unset, .unset] [] H 0 _
    refine mmW_steps (k := 8) (n := 1992) (pc' := 12) (L' := [.val (.ref tr), .val (.ref br), .val (.int fr), .val (.int lm), .val (.long (0 : Int64)), .second, .val (.int (0 : Int32)), .val (.int (-1 : Int32)), .val (.int fr), .unset]) (S' := []) (H' := H) (sl' := 0) rfl ?_
    exact mmW_le (by omega) (own_lp1a hb hc ht1 hlm gE gL gN gA gE1 hK1 hK2 hK3 (fun hKA z cn ix a1 a2 a3 => absurd hKA (by omega)) (fun J_ hJ_ hAJ z cn pt ix a0 a1 a2 a3 => (by have hJJ : J_ = J := (by omega); subst hJJ; exact own_t7 (m := 0) ht (own_n0 a2 (by omega)) (own_pn a0 a1 (by omega)) ⟨_, _, _, rfl, rfl, rfl, a1, own_dc a0 a1 (by omega) (by omega), own_dz a2 a3, own_dz2 a2⟩)) K 0 _ _ _ (by omega) (by omega) (by rw [hfr]; rfl) rfl (fun _ => own_z0 gN))
  obtain ⟨v, H', ds, h1, ix, z, dc, rfl, rfl, rfl, q1, q2, q3, q4⟩ := this
  exact ⟨ix, z, dc, h1, q1, q2, q3, q4⟩
set_option maxRecDepth 65536 in
set_option maxHeartbeats 40000000 in
theorem own_rd1z (H : MHeap) (tr br : Nat) (c : Nat → Int32) (fr lm : Int32) {FR E0 NM K LM A : Nat} {t : Int32} {dg : Int64} {dd : Int32} (hb : mmNth H br = some (.inr (.byte, own_n 26 c))) (ht : mmNth H tr = some (.inl (0, [.long dg, .int dd]))) (hc : ∀ I, I < 26 → own_ok1 FR E0 NM A t I (c I)) (ht1 : (t - (48 : Int32)) < 0 ∨ (9 : Int32) < (t - (48 : Int32))) (hlm : lm.toInt = LM) (gE : E0 ≤ 24) (gL : LM ≤ 26) (gN : NM < 10 ^ 18) (hfr : fr.toInt = FR) (hK1 : FR + K ≤ LM) (hK2 : FR + K ≤ E0) (hK3 : FR + K = LM ∨ FR + K = E0) (hA : A = 0) (hFE : FR < E0) (h : fr < lm) : B_3 [.ref tr, .ref br, .int fr, .int lm] H = some (some (.int (-1)), H, 0) := by
  have ho := ((hc FR (by omega)).2.2 (by omega) hFE).1 (by omega)
  refine mmB_of rfl ?_
  show mmW K_3 I_3 (some .int) 2000 0 [.val (.ref tr), .val (.ref br), .val (.int fr), .val (.int lm), .unset, .unset, .unset, .unset, .unset, .unset] [] H 0 _
  refine mmW_steps (k := 8) (n := 1992) (pc' := 12) (L' := [.val (.ref tr), .val (.ref br), .val (.int fr), .val (.int lm), .val (.long (0 : Int64)), .second, .val (.int (0 : Int32)), .val (.int (-1 : Int32)), .val (.int fr), .unset]) (S' := []) (H' := H) (sl' := 0) rfl ?_
  exact mmW_le (n := 40 + 40) (by decide) (own_t4 hb hfr (by omega) h (by rw [ho]; exact Or.inl (by decide)) (Or.inr (Or.inr (by decide))) (own_t5 (m := 0) rfl ⟨rfl, rfl, rfl⟩))
theorem own_ini (tr : Nat) (H : MHeap) : B_2 [.ref tr] H = some (none, H, 0) := rfl
set_option maxRecDepth 65536 in
set_option maxHeartbeats 40000000 in
theorem own_dgs {H : MHeap} {tr : Nat} {d : Int64} {e : Int32} (ht : mmNth H tr = some (.inl (0, [.long d, .int e]))) : B_4 [.ref tr] H = some (some (.long d), H, 0) := by
  refine mmB_of rfl ?_
  show mmW K_4 I_4 (some .long) 1000 0 [.val (.ref tr)] [] H 0 _
  refine mmW_steps (k := 1) (n := 999) (pc' := 1) (L' := [.val (.ref tr)]) (S' := [.ref tr]) (H' := H) (sl' := 0) rfl ?_
  refine mmW_getF (n := 998) rfl rfl (ht) (rfl) ?_
  show mmW K_4 I_4 (some .long) (998) 4 [.val (.ref tr)] [.long d] H 0 _
  exact mmW_ret (n := 997) (i := .lreturn) rfl rfl ⟨rfl, rfl, rfl⟩
set_option maxRecDepth 65536 in
set_option maxHeartbeats 40000000 in
theorem own_dcs {H : MHeap} {tr : Nat} {d : Int64} {e : Int32} (ht : mmNth H tr = some (.inl (0, [.long d, .int e]))) : B_5 [.ref tr] H = some (some (.int e), H, 0) := by
  refine mmB_of rfl ?_
  show mmW K_5 I_5 (some .int) 1000 0 [.val (.ref tr)] [] H 0 _
  refine mmW_steps (k := 1) (n := 999) (pc' := 1) (L' := [.val (.ref tr)]) (S' := [.ref tr]) (H' := H) (sl' := 0) rfl ?_
  refine mmW_getF (n := 998) rfl rfl (ht) (rfl) ?_
  show mmW K_5 I_5 (some .int) (998) 4 [.val (.ref tr)] [.int e] H 0 _
  exact mmW_ret (n := 997) (i := .ireturn) rfl rfl ⟨rfl, rfl, rfl⟩
set_option maxRecDepth 65536 in
set_option maxHeartbeats 40000000 in
theorem own_rdp {H : MHeap} {tr br : Nat} {dg : Int64} {dd : Int32} (hb : mmNth H br = some (.inr (.byte, [.int 49, .int 46, .int 53]))) (ht : mmNth H tr = some (.inl (0, [.long dg, .int dd]))) : B_3 [.ref tr, .ref br, .int 0, .int 3] H = some (some (.int 3), H.set tr (.inl (0, [.long 15, .int 1])), 0) := by
  refine mmB_of rfl ?_
  show mmW K_3 I_3 (some .int) 2000 0 [.val (.ref tr), .val (.ref br), .val (.int (0 : Int32)), .val (.int (3 : Int32)), .unset, .unset, .unset, .unset, .unset, .unset] [] H 0 _
  refine mmW_steps (k := 13) (n := 1987) (pc' := 21) (L' := [.val (.ref tr), .val (.ref br), .val (.int (0 : Int32)), .val (.int (3 : Int32)), .val (.long (0 : Int64)), .second, .val (.int (0 : Int32)), .val (.int (-1 : Int32)), .val (.int (0 : Int32)), .unset]) (S' := [.int (0 : Int32), .ref br]) (H' := H) (sl' := 0) rfl ?_
  refine mmW_baload (n := 1986) rfl (hb) (by decide) (rfl) ?_
  show mmW K_3 I_3 (some .int) (1986) 22 [.val (.ref tr), .val (.ref br), .val (.int (0 : Int32)), .val (.int (3 : Int32)), .val (.long (0 : Int64)), .second, .val (.int (0 : Int32)), .val (.int (-1 : Int32)), .val (.int (0 : Int32)), .unset] [.int (49 : Int32)] H 0 _
  refine mmW_steps (k := 24) (n := 1962) (pc' := 21) (L' := [.val (.ref tr), .val (.ref br), .val (.int (0 : Int32)), .val (.int (3 : Int32)), .val (.long (1 : Int64)), .second, .val (.int (1 : Int32)), .val (.int (-1 : Int32)), .val (.int (1 : Int32)), .val (.int (1 : Int32))]) (S' := [.int (1 : Int32), .ref br]) (H' := H) (sl' := 0) rfl ?_
  refine mmW_baload (n := 1961) rfl (hb) (by decide) (rfl) ?_
  show mmW K_3 I_3 (some .int) (1961) 22 [.val (.ref tr), .val (.ref br), .val (.int (0 : Int32)), .val (.int (3 : Int32)), .val (.long (1 : Int64)), .second, .val (.int (1 : Int32)), .val (.int (-1 : Int32)), .val (.int (1 : Int32)), .val (.int (1 : Int32))] [.int (46 : Int32)] H 0 _
  refine mmW_steps (k := 7) (n := 1954) (pc' := 60) (L' := [.val (.ref tr), .val (.ref br), .val (.int (0 : Int32)), .val (.int (3 : Int32)), .val (.long (1 : Int64)), .second, .val (.int (1 : Int32)), .val (.int (-1 : Int32)), .val (.int (1 : Int32)), .val (.int (-2 : Int32))]) (S' := [.int (1 : Int32), .ref br]) (H' := H) (sl' := 0) rfl ?_
  refine mmW_baload (n := 1953) rfl (hb) (by decide) (rfl) ?_
  show mmW K_3 I_3 (some .int) (1953) 61 [.val (.ref tr), .val (.ref br), .val (.int (0 : Int32)), .val (.int (3 : Int32)), .val (.long (1 : Int64)), .second, .val (.int (1 : Int32)), .val (.int (-1 : Int32)), .val (.int (1 : Int32)), .val (.int (-2 : Int32))] [.int (46 : Int32)] H 0 _
  refine mmW_steps (k := 15) (n := 1938) (pc' := 21) (L' := [.val (.ref tr), .val (.ref br), .val (.int (0 : Int32)), .val (.int (3 : Int32)), .val (.long (1 : Int64)), .second, .val (.int (1 : Int32)), .val (.int (1 : Int32)), .val (.int (2 : Int32)), .val (.int (-2 : Int32))]) (S' := [.int (2 : Int32), .ref br]) (H' := H) (sl' := 0) rfl ?_
  refine mmW_baload (n := 1937) rfl (hb) (by decide) (rfl) ?_
  show mmW K_3 I_3 (some .int) (1937) 22 [.val (.ref tr), .val (.ref br), .val (.int (0 : Int32)), .val (.int (3 : Int32)), .val (.long (1 : Int64)), .second, .val (.int (1 : Int32)), .val (.int (1 : Int32)), .val (.int (2 : Int32)), .val (.int (-2 : Int32))] [.int (53 : Int32)] H 0 _
  refine mmW_steps (k := 36) (n := 1901) (pc' := 126) (L' := [.val (.ref tr), .val (.ref br), .val (.int (0 : Int32)), .val (.int (3 : Int32)), .val (.long (15 : Int64)), .second, .val (.int (2 : Int32)), .val (.int (1 : Int32)), .val (.int (3 : Int32)), .val (.int (3 : Int32))]) (S' := [.long (15 : Int64), .ref tr]) (H' := H) (sl' := 0) rfl ?_
  refine mmW_putF (n := 1900) rfl rfl (ht) (rfl) ?_
  show mmW K_3 I_3 (some .int) (1900) 129 [.val (.ref tr), .val (.ref br), .val (.int (0 : Int32)), .val (.int (3 : Int32)), .val (.long (15 : Int64)), .second, .val (.int (2 : Int32)), .val (.int (1 : Int32)), .val (.int (3 : Int32)), .val (.int (3 : Int32))] [] (H.set tr (.inl (0, [.long (15 : Int64), .int dd]))) 0 _
  refine mmW_steps (k := 8) (n := 1892) (pc' := 146) (L' := [.val (.ref tr), .val (.ref br), .val (.int (0 : Int32)), .val (.int (3 : Int32)), .val (.long (15 : Int64)), .second, .val (.int (2 : Int32)), .val (.int (1 : Int32)), .val (.int (3 : Int32)), .val (.int (3 : Int32))]) (S' := [.int (1 : Int32), .ref tr]) (H' := (H.set tr (.inl (0, [.long (15 : Int64), .int dd])))) (sl' := 0) rfl ?_
  refine mmW_putF (n := 1891) rfl rfl (mmNth_set _ ht) (rfl) ?_
  show mmW K_3 I_3 (some .int) (1891) 149 [.val (.ref tr), .val (.ref br), .val (.int (0 : Int32)), .val (.int (3 : Int32)), .val (.long (15 : Int64)), .second, .val (.int (2 : Int32)), .val (.int (1 : Int32)), .val (.int (3 : Int32)), .val (.int (3 : Int32))] [] (List.set (H.set tr (.inl (0, [.long (15 : Int64), .int dd]))) tr (.inl (0, [.long (15 : Int64), .int (1 : Int32)]))) 0 _
  rw [List.set_set]
  refine mmW_steps (k := 1) (n := 1890) (pc' := 151) (L' := [.val (.ref tr), .val (.ref br), .val (.int (0 : Int32)), .val (.int (3 : Int32)), .val (.long (15 : Int64)), .second, .val (.int (2 : Int32)), .val (.int (1 : Int32)), .val (.int (3 : Int32)), .val (.int (3 : Int32))]) (S' := [.int (3 : Int32)]) (H' := (H.set tr (.inl (0, [.long (15 : Int64), .int (1 : Int32)])))) (sl' := 0) rfl ?_
  exact mmW_ret (n := 1889) (i := .ireturn) rfl rfl ⟨rfl, rfl, rfl⟩
theorem own_all26 {P : Nat → Prop} (h0 : P 0) (h1 : P 1) (h2 : P 2) (h3 : P 3) (h4 : P 4) (h5 : P 5) (h6 : P 6) (h7 : P 7) (h8 : P 8) (h9 : P 9) (h10 : P 10) (h11 : P 11) (h12 : P 12) (h13 : P 13) (h14 : P 14) (h15 : P 15) (h16 : P 16) (h17 : P 17) (h18 : P 18) (h19 : P 19) (h20 : P 20) (h21 : P 21) (h22 : P 22) (h23 : P 23) (h24 : P 24) (h25 : P 25) : ∀ I, I < 26 → P I := fun I h => match I, h with
  | 0, _ => h0
  | 1, _ => h1
  | 2, _ => h2
  | 3, _ => h3
  | 4, _ => h4
  | 5, _ => h5
  | 6, _ => h6
  | 7, _ => h7
  | 8, _ => h8
  | 9, _ => h9
  | 10, _ => h10
  | 11, _ => h11
  | 12, _ => h12
  | 13, _ => h13
  | 14, _ => h14
  | 15, _ => h15
  | 16, _ => h16
  | 17, _ => h17
  | 18, _ => h18
  | 19, _ => h19
  | 20, _ => h20
  | 21, _ => h21
  | 22, _ => h22
  | 23, _ => h23
  | 24, _ => h24
  | 25, _ => h25
  | n + 26, h => absurd h (by omega)
theorem own_m3 (x : Int32) : ∃ O : Nat, (x &&& (3 : Int32)).toInt = O ∧ O ≤ 3 := by
  have h1 := Kit.i32_mask x 3 (k := 2) (by decide) (by decide)
  exact ⟨(x &&& (3 : Int32)).toInt.toNat, by omega, by omega⟩
theorem own_m21 (x : Int32) : ∃ O : Nat, ((x &&& (31 : Int32)) % (21 : Int32)).toInt = O ∧ O ≤ 20 := by
  have h1 := Kit.i32_mask x 31 (k := 5) (by decide) (by decide)
  have h2 : ((x &&& 31) % 21 : Int32).toInt = (x &&& 31).toInt % 21 := Kit.i32_rem_nonneg (by rw [h1]; omega)
  exact ⟨((x &&& 31) % 21 : Int32).toInt.toNat, by omega, by omega⟩
theorem own_m10 (x : Int32) : ∃ O : Nat, ((x &&& (65535 : Int32)) % (10 : Int32)).toInt = O ∧ O ≤ 9 := by
  have h1 := Kit.i32_mask x 65535 (k := 16) (by decide) (by decide)
  have h2 : ((x &&& 65535) % 10 : Int32).toInt = (x &&& 65535).toInt % 10 := Kit.i32_rem_nonneg (by rw [h1]; omega)
  exact ⟨((x &&& 65535) % 10 : Int32).toInt.toNat, by omega, by omega⟩
theorem own_21s {a : Int32} {A : Nat} (h : a.toInt = A) (hA : A ≤ 20) : ((21 : Int32) - a).toInt = 21 - A := by
  have e0 : (21 : Int32).toInt = 21 := rfl
  rw [Kit.i32_sub (by omega) (by omega), e0, h]
theorem own_21 {a : Int32} {A : Nat} (h : a.toInt = A) (hA : A ≤ 20) : ¬ ((21 : Int32) - a) = 0 := fun z => by
  have := own_21s h hA
  rw [z] at this
  have e : (0 : Int32).toInt = 0 := rfl
  omega
theorem own_mb {a : Int32} {A : Nat} (h : a.toInt = A) (hA : A ≤ 20) (x : Int32) : ∃ B : Nat, ((x &&& (31 : Int32)) % ((21 : Int32) - a)).toInt = B ∧ A + B ≤ 20 := by
  have h1 := Kit.i32_mask x 31 (k := 5) (by decide) (by decide)
  have h5 := own_21s h hA
  have h2 : ((x &&& 31) % ((21 : Int32) - a) : Int32).toInt = (x &&& 31).toInt % ((21 : Int32) - a).toInt := Kit.i32_rem_nonneg (by rw [h1]; omega)
  rw [h5] at h2
  have b1 : 0 ≤ (x &&& 31).toInt % (21 - (A : Int)) := Int.emod_nonneg _ (by omega)
  have b2 : (x &&& 31).toInt % (21 - (A : Int)) < 21 - (A : Int) := Int.emod_lt_of_pos _ (by omega)
  exact ⟨((x &&& 31) % ((21 : Int32) - a) : Int32).toInt.toNat, by omega, by omega⟩
theorem own_nm (x : Int64) : ∃ N : Nat, ((x &&& (9223372036854775807 : Int64)) % (1000000000000000000 : Int64)).toInt = N ∧ N < 10 ^ 18 := by
  have h1 := Kit.i64_mask x 9223372036854775807 (k := 63) (by decide) (by decide)
  have e : (1000000000000000000 : Int64).toInt = 1000000000000000000 := rfl
  have h2 : ((x &&& (9223372036854775807 : Int64)) % (1000000000000000000 : Int64)).toInt = (x &&& (9223372036854775807 : Int64)).toInt % 1000000000000000000 := by
    rw [Int64.toInt_mod, e, Int.tmod_eq_emod_of_nonneg (by omega)]
  exact ⟨((x &&& (9223372036854775807 : Int64)) % (1000000000000000000 : Int64)).toInt.toNat, by omega, by omega⟩
theorem own_lm1 {x : Int32} (h : ¬ (26 : Int32) < x) : x.toInt ≤ 26 := by
  have e : (26 : Int32).toInt = 26 := rfl
  rw [Int32.lt_iff_toInt_lt, e] at h; omega
theorem own_lm2 (x : Int32) : (x % (27 : Int32)).toInt ≤ 26 := by
  have e : (27 : Int32).toInt = 27 := rfl
  rw [Int32.toInt_mod, e]
  have := Int.tmod_lt_of_pos x.toInt (b := 27) (by decide)
  omega
theorem own_tn {v : Int32} (hv : v.toInt8.toInt32 = v) (h : v < (48 : Int32) ∨ (57 : Int32) < v) : (v - (48 : Int32)) < 0 ∨ (9 : Int32) < (v - (48 : Int32)) := by
  have e : (48 : Int32).toInt = 48 := rfl
  have f : (57 : Int32).toInt = 57 := rfl
  have z : (0 : Int32).toInt = 0 := rfl
  have n : (9 : Int32).toInt = 9 := rfl
  have b : -128 ≤ v.toInt ∧ v.toInt < 128 := by
    rw [← hv, Int8.toInt_toInt32]
    exact ⟨Int8.le_toInt _, Int8.toInt_lt _⟩
  have h3 : (v - (48 : Int32)).toInt = v.toInt - 48 := by rw [Kit.i32_sub (by rw [e]; omega) (by rw [e]; omega), e]
  rw [Int32.lt_iff_toInt_lt, Int32.lt_iff_toInt_lt, e, f] at h
  rw [Int32.lt_iff_toInt_lt, Int32.lt_iff_toInt_lt, h3, z, n]
  omega
theorem own_e00 {fr a b : Int32} {FR A B : Nat} (hf : fr.toInt = FR) (ha : a.toInt = A) (hb : b.toInt = B) (g1 : FR ≤ 3) (g2 : A + B ≤ 20) : (fr + ((a + b) + (0 : Int32))).toInt = ((FR + A + B + 0 : Nat) : Int) := by
  rw [own_add hf (own_add (own_add ha hb (by omega) (by omega)) (B := 0) rfl (by omega) (by omega)) (by omega) (by omega)]
  omega
theorem own_e01 {fr a b : Int32} {FR A B : Nat} (hf : fr.toInt = FR) (ha : a.toInt = A) (hb : b.toInt = B) (g1 : FR ≤ 3) (g2 : A + B ≤ 20) : (fr + ((a + b) + (1 : Int32))).toInt = ((FR + A + B + 1 : Nat) : Int) := by
  rw [own_add hf (own_add (own_add ha hb (by omega) (by omega)) (B := 1) rfl (by omega) (by omega)) (by omega) (by omega)]
  omega
theorem own_LM {fr lm : Int32} {FR : Nat} (hf : fr.toInt = FR) (h : fr < lm) (hl : lm.toInt ≤ 26) : ∃ LM : Nat, lm.toInt = LM ∧ FR < LM ∧ LM ≤ 26 := by
  rw [Int32.lt_iff_toInt_lt, hf] at h
  exact ⟨lm.toInt.toNat, by omega, by omega, by omega⟩
theorem own_min {lm e0 : Int32} {LM E0 FR K : Nat} (hl : lm.toInt = LM) (he : e0.toInt = E0) (h1 : FR + K ≤ LM) (h2 : FR + K ≤ E0) (h3 : FR + K = LM ∨ FR + K = E0) : (if e0 < lm then e0 else lm).toInt = ((FR + K : Nat) : Int) := by
  have l := own_lt he hl
  by_cases c : e0 < lm
  · have := l.mp c
    rw [if_pos c, he]; omega
  · have : ¬ E0 < LM := fun z => c (l.mpr z)
    rw [if_neg c, hl]; omega
theorem own_same {x y : Int32} {X Y : Nat} (hx : x.toInt = (X : Int)) (hy : y.toInt = (Y : Int)) (h : X = Y) : x = y := Int32.toInt_inj.mp (by rw [hx, hy, h])
theorem own_sameL {x y : Int64} {X : Int} (hx : x.toInt = X) (hy : y.toInt = X) : x = y := Int64.toInt_inj.mp (by rw [hx, hy])
theorem own_nm1 {x : Int32} {X : Nat} (hx : x.toInt = (X : Int)) : ¬ x = (-1 : Int32) := fun z => by
  rw [z] at hx
  have e : (-1 : Int32).toInt = -1 := rfl
  omega
theorem own_nk {k a : Int32} {K A : Nat} (hk : k.toInt = (K : Int)) (ha : a.toInt = A) (h : A ≤ 20 ∧ ¬ K = A + 1) : ¬ k = (a + (1 : Int32)) := fun z => by
  have e := own_add ha (b := (1 : Int32)) (B := 1) rfl (by omega) (by omega)
  rw [← z, hk] at e
  omega

set_option maxRecDepth 65536 in
set_option maxHeartbeats 40000000 in
theorem own_tail0 (x0 x1 x2 : Int32) (x3 : Int64) (fr a b jk lm v t : Int32) (nm : Int64) (FR A B JK NM : Nat) (hfr : fr.toInt = FR) (gFR : FR ≤ 3) (ha : a.toInt = A) (hb_ : b.toInt = B) (gAB : A + B ≤ 20) (hjk : jk.toInt = JK) (gJ : JK ≤ 9) (hn : nm.toInt = NM) (hN : NM < 10 ^ 18) (hlm26 : lm.toInt ≤ 26) (ht : t.toInt8.toInt32 = t) (ht1 : (t - (48 : Int32)) < 0 ∨ (9 : Int32) < (t - (48 : Int32))) (ht2 : ¬ t = 46) : mmW K_0 I_0 (some .boolean) 900 129 [.val (.int x0), .val (.int x1), .val (.int x2), .val (.long x3), .second, .val (.int fr), .val (.int a), .val (.int b), .val (.int (0 : Int32)), .val (.int jk), .val (.long nm), .second, .val (.int lm), .val (.int v), .val (.int t), .unset, .unset, .unset, .unset, .unset, .unset, .unset, .unset, .unset, .unset, .unset, .unset, .unset, .unset] [] [] 0 (mmLawQ 56 896) := by
  have he0 := own_e00 hfr ha hb_ gFR gAB
  refine mmW_steps (k := 11) (n := 889) (pc' := 152) (L' := [.val (.int x0), .val (.int x1), .val (.int x2), .val (.long x3), .second, .val (.int fr), .val (.int a), .val (.int b), .val (.int (0 : Int32)), .val (.int jk), .val (.long nm), .second, .val (.int lm), .val (.int v), .val (.int t), .val (.int ((a + b) + (0 : Int32))), .unset, .unset, .unset, .unset, .unset, .unset, .unset, .unset, .unset, .unset, .unset, .unset, .unset]) (S' := [.int (fr + ((a + b) + (0 : Int32)))]) (H' := []) (sl' := 0) rfl ?_
  generalize (fr + ((a + b) + (0 : Int32))) = e0 at he0 ⊢
  have gA : A ≤ 20 := by omega
  obtain ⟨E0, hE0⟩ : ∃ E, E = FR + A + B + 0 := ⟨_, rfl⟩
  rw [← hE0] at he0
  have gE1 : FR ≤ E0 := by omega
  have gE2 : E0 ≤ FR + 20 := by omega
  refine mmW_steps (k := 3) (n := 886) (pc' := 158) (L' := [.val (.int x0), .val (.int x1), .val (.int x2), .val (.long x3), .second, .val (.int fr), .val (.int a), .val (.int b), .val (.int (0 : Int32)), .val (.int jk), .val (.long nm), .second, .val (.int lm), .val (.int v), .val (.int t), .val (.int ((a + b) + (0 : Int32))), .val (.int e0), .unset, .unset, .unset, .unset, .unset, .unset, .unset, .unset, .unset, .unset, .unset, .unset]) (S' := [.ref 0]) (H' := [.inr (.byte, [.int (0 : Int32), .int (0 : Int32), .int (0 : Int32), .int (0 : Int32), .int (0 : Int32), .int (0 : Int32), .int (0 : Int32), .int (0 : Int32), .int (0 : Int32), .int (0 : Int32), .int (0 : Int32), .int (0 : Int32), .int (0 : Int32), .int (0 : Int32), .int (0 : Int32), .int (0 : Int32), .int (0 : Int32), .int (0 : Int32), .int (0 : Int32), .int (0 : Int32), .int (0 : Int32), .int (0 : Int32), .int (0 : Int32), .int (0 : Int32), .int (0 : Int32), .int (0 : Int32)])]) (sl' := 26) rfl ?_
  show mmW K_0 I_0 (some .boolean) (886) 158 [.val (.int x0), .val (.int x1), .val (.int x2), .val (.long x3), .second, .val (.int fr), .val (.int a), .val (.int b), .val (.int (0 : Int32)), .val (.int jk), .val (.long nm), .second, .val (.int lm), .val (.int v), .val (.int t), .val (.int ((a + b) + (0 : Int32))), .val (.int e0), .unset, .unset, .unset, .unset, .unset, .unset, .unset, .unset, .unset, .unset, .unset, .unset] [.ref 0] (.inr (.byte, [.int (0 : Int32), .int (0 : Int32), .int (0 : Int32), .int (0 : Int32), .int (0 : Int32), .int (0 : Int32), .int (0 : Int32), .int (0 : Int32), .int (0 : Int32), .int (0 : Int32), .int (0 : Int32), .int (0 : Int32), .int (0 : Int32), .int (0 : Int32), .int (0 : Int32), .int (0 : Int32), .int (0 : Int32), .int (0 : Int32), .int (0 : Int32), .int (0 : Int32), .int (0 : Int32), .int (0 : Int32), .int (0 : Int32), .int (0 : Int32), .int (0 : Int32), .int (0 : Int32)]) :: ([] : MHeap)) 26 _
  have gl0 : ([] : MHeap).length ≤ 0 := Nat.le_of_ble_eq_true rfl
  have sl0 : 26 ≤ 26 := Nat.le_of_ble_eq_true rfl
  refine mmW_steps (k := 10) (n := 876) (pc' := 175) (L' := [.val (.int x0), .val (.int x1), .val (.int x2), .val (.long x3), .second, .val (.int fr), .val (.int a), .val (.int b), .val (.int (0 : Int32)), .val (.int jk), .val (.long nm), .second, .val (.int lm), .val (.int v), .val (.int t), .val (.int ((a + b) + (0 : Int32))), .val (.int e0), .unset, .unset, .unset, .unset, .unset, .unset, .unset, .unset, .unset, .unset, .unset, .unset]) (S' := [.long nm, .int jk, .int t, .int e0, .int (0 : Int32), .int a, .int fr, .int (0 : Int32), .int (0 : Int32), .ref 0, .ref 0]) (H' := (.inr (.byte, [.int (0 : Int32), .int (0 : Int32), .int (0 : Int32), .int (0 : Int32), .int (0 : Int32), .int (0 : Int32), .int (0 : Int32), .int (0 : Int32), .int (0 : Int32), .int (0 : Int32), .int (0 : Int32), .int (0 : Int32), .int (0 : Int32), .int (0 : Int32), .int (0 : Int32), .int (0 : Int32), .int (0 : Int32), .int (0 : Int32), .int (0 : Int32), .int (0 : Int32), .int (0 : Int32), .int (0 : Int32), .int (0 : Int32), .int (0 : Int32), .int (0 : Int32), .int (0 : Int32)]) :: ([] : MHeap))) (sl' := 26) rfl ?_
  obtain ⟨c0, K0, s0, hB, u0, d0, ok0⟩ := own_at0 (0 : Int32) fr a e0 t jk 0 FR A E0 JK rfl hfr ha he0 hjk (Nat.le_of_ble_eq_true rfl) gFR gA gE1 gE2 gJ ht nm NM hn hN (.inr (.byte, [.int (0 : Int32), .int (0 : Int32), .int (0 : Int32), .int (0 : Int32), .int (0 : Int32), .int (0 : Int32), .int (0 : Int32), .int (0 : Int32), .int (0 : Int32), .int (0 : Int32), .int (0 : Int32), .int (0 : Int32), .int (0 : Int32), .int (0 : Int32), .int (0 : Int32), .int (0 : Int32), .int (0 : Int32), .int (0 : Int32), .int (0 : Int32), .int (0 : Int32), .int (0 : Int32), .int (0 : Int32), .int (0 : Int32), .int (0 : Int32), .int (0 : Int32), .int (0 : Int32)]) :: ([] : MHeap))
  refine mmW_callS (n := 875) rfl rfl rfl (rfl) (Nat.le_of_ble_eq_true rfl) (hB) ?_
  show mmW K_0 I_0 (some .boolean) (875) 178 [.val (.int x0), .val (.int x1), .val (.int x2), .val (.long x3), .second, .val (.int fr), .val (.int a), .val (.int b), .val (.int (0 : Int32)), .val (.int jk), .val (.long nm), .second, .val (.int lm), .val (.int v), .val (.int t), .val (.int ((a + b) + (0 : Int32))), .val (.int e0), .unset, .unset, .unset, .unset, .unset, .unset, .unset, .unset, .unset, .unset, .unset, .unset] [.int c0, .int (0 : Int32), .ref 0, .ref 0] (.inr (.byte, [.int (0 : Int32), .int (0 : Int32), .int (0 : Int32), .int (0 : Int32), .int (0 : Int32), .int (0 : Int32), .int (0 : Int32), .int (0 : Int32), .int (0 : Int32), .int (0 : Int32), .int (0 : Int32), .int (0 : Int32), .int (0 : Int32), .int (0 : Int32), .int (0 : Int32), .int (0 : Int32), .int (0 : Int32), .int (0 : Int32), .int (0 : Int32), .int (0 : Int32), .int (0 : Int32), .int (0 : Int32), .int (0 : Int32), .int (0 : Int32), .int (0 : Int32), .int (0 : Int32)]) :: (([] : MHeap) ++ K0)) (26 + s0) _
  have gl1 : (([] : MHeap) ++ K0).length ≤ 1 := by rw [List.length_append]; omega
  have sl1 : (26 + s0) ≤ 45 := by omega
  clear hB
  generalize ([] : MHeap) ++ K0 = G1 at gl1 ⊢
  generalize (26 + s0) = S1 at sl1 ⊢
  refine mmW_steps (k := 1) (n := 874) (pc' := 179) (L' := [.val (.int x0), .val (.int x1), .val (.int x2), .val (.long x3), .second, .val (.int fr), .val (.int a), .val (.int b), .val (.int (0 : Int32)), .val (.int jk), .val (.long nm), .second, .val (.int lm), .val (.int v), .val (.int t), .val (.int ((a + b) + (0 : Int32))), .val (.int e0), .unset, .unset, .unset, .unset, .unset, .unset, .unset, .unset, .unset, .unset, .unset, .unset]) (S' := [.ref 0]) (H' := (.inr (.byte, [.int c0.toInt8.toInt32, .int (0 : Int32), .int (0 : Int32), .int (0 : Int32), .int (0 : Int32), .int (0 : Int32), .int (0 : Int32), .int (0 : Int32), .int (0 : Int32), .int (0 : Int32), .int (0 : Int32), .int (0 : Int32), .int (0 : Int32), .int (0 : Int32), .int (0 : Int32), .int (0 : Int32), .int (0 : Int32), .int (0 : Int32), .int (0 : Int32), .int (0 : Int32), .int (0 : Int32), .int (0 : Int32), .int (0 : Int32), .int (0 : Int32), .int (0 : Int32), .int (0 : Int32)]) :: G1)) (sl' := S1) rfl ?_
  rw [ok0.1]
  refine mmW_steps (k := 10) (n := 864) (pc' := 196) (L' := [.val (.int x0), .val (.int x1), .val (.int x2), .val (.long x3), .second, .val (.int fr), .val (.int a), .val (.int b), .val (.int (0 : Int32)), .val (.int jk), .val (.long nm), .second, .val (.int lm), .val (.int v), .val (.int t), .val (.int ((a + b) + (0 : Int32))), .val (.int e0), .unset, .unset, .unset, .unset, .unset, .unset, .unset, .unset, .unset, .unset, .unset, .unset]) (S' := [.long nm, .int jk, .int t, .int e0, .int (0 : Int32), .int a, .int fr, .int (1 : Int32), .int (1 : Int32), .ref 0, .ref 0]) (H' := (.inr (.byte, [.int c0, .int (0 : Int32), .int (0 : Int32), .int (0 : Int32), .int (0 : Int32), .int (0 : Int32), .int (0 : Int32), .int (0 : Int32), .int (0 : Int32), .int (0 : Int32), .int (0 : Int32), .int (0 : Int32), .int (0 : Int32), .int (0 : Int32), .int (0 : Int32), .int (0 : Int32), .int (0 : Int32), .int (0 : Int32), .int (0 : Int32), .int (0 : Int32), .int (0 : Int32), .int (0 : Int32), .int (0 : Int32), .int (0 : Int32), .int (0 : Int32), .int (0 : Int32)]) :: G1)) (sl' := S1) rfl ?_
  obtain ⟨c1, K1, s1, hB, u1, d1, ok1⟩ := own_at0 (1 : Int32) fr a e0 t jk 1 FR A E0 JK rfl hfr ha he0 hjk (Nat.le_of_ble_eq_true rfl) gFR gA gE1 gE2 gJ ht nm NM hn hN (.inr (.byte, [.int c0, .int (0 : Int32), .int (0 : Int32), .int (0 : Int32), .int (0 : Int32), .int (0 : Int32), .int (0 : Int32), .int (0 : Int32), .int (0 : Int32), .int (0 : Int32), .int (0 : Int32), .int (0 : Int32), .int (0 : Int32), .int (0 : Int32), .int (0 : Int32), .int (0 : Int32), .int (0 : Int32), .int (0 : Int32), .int (0 : Int32), .int (0 : Int32), .int (0 : Int32), .int (0 : Int32), .int (0 : Int32), .int (0 : Int32), .int (0 : Int32), .int (0 : Int32)]) :: G1)
  refine mmW_callS (n := 863) rfl rfl rfl (rfl) (Nat.le_of_ble_eq_true rfl) (hB) ?_
  show mmW K_0 I_0 (some .boolean) (863) 199 [.val (.int x0), .val (.int x1), .val (.int x2), .val (.long x3), .second, .val (.int fr), .val (.int a), .val (.int b), .val (.int (0 : Int32)), .val (.int jk), .val (.long nm), .second, .val (.int lm), .val (.int v), .val (.int t), .val (.int ((a + b) + (0 : Int32))), .val (.int e0), .unset, .unset, .unset, .unset, .unset, .unset, .unset, .unset, .unset, .unset, .unset, .unset] [.int c1, .int (1 : Int32), .ref 0, .ref 0] (.inr (.byte, [.int c0, .int (0 : Int32), .int (0 : Int32), .int (0 : Int32), .int (0 : Int32), .int (0 : Int32), .int (0 : Int32), .int (0 : Int32), .int (0 : Int32), .int (0 : Int32), .int (0 : Int32), .int (0 : Int32), .int (0 : Int32), .int (0 : Int32), .int (0 : Int32), .int (0 : Int32), .int (0 : Int32), .int (0 : Int32), .int (0 : Int32), .int (0 : Int32), .int (0 : Int32), .int (0 : Int32), .int (0 : Int32), .int (0 : Int32), .int (0 : Int32), .int (0 : Int32)]) :: (G1 ++ K1)) (S1 + s1) _
  have gl2 : (G1 ++ K1).length ≤ 2 := by rw [List.length_append]; omega
  have sl2 : (S1 + s1) ≤ 64 := by omega
  clear hB
  generalize G1 ++ K1 = G2 at gl2 ⊢
  generalize (S1 + s1) = S2 at sl2 ⊢
  refine mmW_steps (k := 1) (n := 862) (pc' := 200) (L' := [.val (.int x0), .val (.int x1), .val (.int x2), .val (.long x3), .second, .val (.int fr), .val (.int a), .val (.int b), .val (.int (0 : Int32)), .val (.int jk), .val (.long nm), .second, .val (.int lm), .val (.int v), .val (.int t), .val (.int ((a + b) + (0 : Int32))), .val (.int e0), .unset, .unset, .unset, .unset, .unset, .unset, .unset, .unset, .unset, .unset, .unset, .unset]) (S' := [.ref 0]) (H' := (.inr (.byte, [.int c0, .int c1.toInt8.toInt32, .int (0 : Int32), .int (0 : Int32), .int (0 : Int32), .int (0 : Int32), .int (0 : Int32), .int (0 : Int32), .int (0 : Int32), .int (0 : Int32), .int (0 : Int32), .int (0 : Int32), .int (0 : Int32), .int (0 : Int32), .int (0 : Int32), .int (0 : Int32), .int (0 : Int32), .int (0 : Int32), .int (0 : Int32), .int (0 : Int32), .int (0 : Int32), .int (0 : Int32), .int (0 : Int32), .int (0 : Int32), .int (0 : Int32), .int (0 : Int32)]) :: G2)) (sl' := S2) rfl ?_
  rw [ok1.1]
  refine mmW_steps (k := 10) (n := 852) (pc' := 217) (L' := [.val (.int x0), .val (.int x1), .val (.int x2), .val (.long x3), .second, .val (.int fr), .val (.int a), .val (.int b), .val (.int (0 : Int32)), .val (.int jk), .val (.long nm), .second, .val (.int lm), .val (.int v), .val (.int t), .val (.int ((a + b) + (0 : Int32))), .val (.int e0), .unset, .unset, .unset, .unset, .unset, .unset, .unset, .unset, .unset, .unset, .unset, .unset]) (S' := [.long nm, .int jk, .int t, .int e0, .int (0 : Int32), .int a, .int fr, .int (2 : Int32), .int (2 : Int32), .ref 0, .ref 0]) (H' := (.inr (.byte, [.int c0, .int c1, .int (0 : Int32), .int (0 : Int32), .int (0 : Int32), .int (0 : Int32), .int (0 : Int32), .int (0 : Int32), .int (0 : Int32), .int (0 : Int32), .int (0 : Int32), .int (0 : Int32), .int (0 : Int32), .int (0 : Int32), .int (0 : Int32), .int (0 : Int32), .int (0 : Int32), .int (0 : Int32), .int (0 : Int32), .int (0 : Int32), .int (0 : Int32), .int (0 : Int32), .int (0 : Int32), .int (0 : Int32), .int (0 : Int32), .int (0 : Int32)]) :: G2)) (sl' := S2) rfl ?_
  obtain ⟨c2, K2, s2, hB, u2, d2, ok2⟩ := own_at0 (2 : Int32) fr a e0 t jk 2 FR A E0 JK rfl hfr ha he0 hjk (Nat.le_of_ble_eq_true rfl) gFR gA gE1 gE2 gJ ht nm NM hn hN (.inr (.byte, [.int c0, .int c1, .int (0 : Int32), .int (0 : Int32), .int (0 : Int32), .int (0 : Int32), .int (0 : Int32), .int (0 : Int32), .int (0 : Int32), .int (0 : Int32), .int (0 : Int32), .int (0 : Int32), .int (0 : Int32), .int (0 : Int32), .int (0 : Int32), .int (0 : Int32), .int (0 : Int32), .int (0 : Int32), .int (0 : Int32), .int (0 : Int32), .int (0 : Int32), .int (0 : Int32), .int (0 : Int32), .int (0 : Int32), .int (0 : Int32), .int (0 : Int32)]) :: G2)
  refine mmW_callS (n := 851) rfl rfl rfl (rfl) (Nat.le_of_ble_eq_true rfl) (hB) ?_
  show mmW K_0 I_0 (some .boolean) (851) 220 [.val (.int x0), .val (.int x1), .val (.int x2), .val (.long x3), .second, .val (.int fr), .val (.int a), .val (.int b), .val (.int (0 : Int32)), .val (.int jk), .val (.long nm), .second, .val (.int lm), .val (.int v), .val (.int t), .val (.int ((a + b) + (0 : Int32))), .val (.int e0), .unset, .unset, .unset, .unset, .unset, .unset, .unset, .unset, .unset, .unset, .unset, .unset] [.int c2, .int (2 : Int32), .ref 0, .ref 0] (.inr (.byte, [.int c0, .int c1, .int (0 : Int32), .int (0 : Int32), .int (0 : Int32), .int (0 : Int32), .int (0 : Int32), .int (0 : Int32), .int (0 : Int32), .int (0 : Int32), .int (0 : Int32), .int (0 : Int32), .int (0 : Int32), .int (0 : Int32), .int (0 : Int32), .int (0 : Int32), .int (0 : Int32), .int (0 : Int32), .int (0 : Int32), .int (0 : Int32), .int (0 : Int32), .int (0 : Int32), .int (0 : Int32), .int (0 : Int32), .int (0 : Int32), .int (0 : Int32)]) :: (G2 ++ K2)) (S2 + s2) _
  have gl3 : (G2 ++ K2).length ≤ 3 := by rw [List.length_append]; omega
  have sl3 : (S2 + s2) ≤ 83 := by omega
  clear hB
  generalize G2 ++ K2 = G3 at gl3 ⊢
  generalize (S2 + s2) = S3 at sl3 ⊢
  refine mmW_steps (k := 1) (n := 850) (pc' := 221) (L' := [.val (.int x0), .val (.int x1), .val (.int x2), .val (.long x3), .second, .val (.int fr), .val (.int a), .val (.int b), .val (.int (0 : Int32)), .val (.int jk), .val (.long nm), .second, .val (.int lm), .val (.int v), .val (.int t), .val (.int ((a + b) + (0 : Int32))), .val (.int e0), .unset, .unset, .unset, .unset, .unset, .unset, .unset, .unset, .unset, .unset, .unset, .unset]) (S' := [.ref 0]) (H' := (.inr (.byte, [.int c0, .int c1, .int c2.toInt8.toInt32, .int (0 : Int32), .int (0 : Int32), .int (0 : Int32), .int (0 : Int32), .int (0 : Int32), .int (0 : Int32), .int (0 : Int32), .int (0 : Int32), .int (0 : Int32), .int (0 : Int32), .int (0 : Int32), .int (0 : Int32), .int (0 : Int32), .int (0 : Int32), .int (0 : Int32), .int (0 : Int32), .int (0 : Int32), .int (0 : Int32), .int (0 : Int32), .int (0 : Int32), .int (0 : Int32), .int (0 : Int32), .int (0 : Int32)]) :: G3)) (sl' := S3) rfl ?_
  rw [ok2.1]
  refine mmW_steps (k := 10) (n := 840) (pc' := 238) (L' := [.val (.int x0), .val (.int x1), .val (.int x2), .val (.long x3), .second, .val (.int fr), .val (.int a), .val (.int b), .val (.int (0 : Int32)), .val (.int jk), .val (.long nm), .second, .val (.int lm), .val (.int v), .val (.int t), .val (.int ((a + b) + (0 : Int32))), .val (.int e0), .unset, .unset, .unset, .unset, .unset, .unset, .unset, .unset, .unset, .unset, .unset, .unset]) (S' := [.long nm, .int jk, .int t, .int e0, .int (0 : Int32), .int a, .int fr, .int (3 : Int32), .int (3 : Int32), .ref 0, .ref 0]) (H' := (.inr (.byte, [.int c0, .int c1, .int c2, .int (0 : Int32), .int (0 : Int32), .int (0 : Int32), .int (0 : Int32), .int (0 : Int32), .int (0 : Int32), .int (0 : Int32), .int (0 : Int32), .int (0 : Int32), .int (0 : Int32), .int (0 : Int32), .int (0 : Int32), .int (0 : Int32), .int (0 : Int32), .int (0 : Int32), .int (0 : Int32), .int (0 : Int32), .int (0 : Int32), .int (0 : Int32), .int (0 : Int32), .int (0 : Int32), .int (0 : Int32), .int (0 : Int32)]) :: G3)) (sl' := S3) rfl ?_
  obtain ⟨c3, K3, s3, hB, u3, d3, ok3⟩ := own_at0 (3 : Int32) fr a e0 t jk 3 FR A E0 JK rfl hfr ha he0 hjk (Nat.le_of_ble_eq_true rfl) gFR gA gE1 gE2 gJ ht nm NM hn hN (.inr (.byte, [.int c0, .int c1, .int c2, .int (0 : Int32), .int (0 : Int32), .int (0 : Int32), .int (0 : Int32), .int (0 : Int32), .int (0 : Int32), .int (0 : Int32), .int (0 : Int32), .int (0 : Int32), .int (0 : Int32), .int (0 : Int32), .int (0 : Int32), .int (0 : Int32), .int (0 : Int32), .int (0 : Int32), .int (0 : Int32), .int (0 : Int32), .int (0 : Int32), .int (0 : Int32), .int (0 : Int32), .int (0 : Int32), .int (0 : Int32), .int (0 : Int32)]) :: G3)
  refine mmW_callS (n := 839) rfl rfl rfl (rfl) (Nat.le_of_ble_eq_true rfl) (hB) ?_
  show mmW K_0 I_0 (some .boolean) (839) 241 [.val (.int x0), .val (.int x1), .val (.int x2), .val (.long x3), .second, .val (.int fr), .val (.int a), .val (.int b), .val (.int (0 : Int32)), .val (.int jk), .val (.long nm), .second, .val (.int lm), .val (.int v), .val (.int t), .val (.int ((a + b) + (0 : Int32))), .val (.int e0), .unset, .unset, .unset, .unset, .unset, .unset, .unset, .unset, .unset, .unset, .unset, .unset] [.int c3, .int (3 : Int32), .ref 0, .ref 0] (.inr (.byte, [.int c0, .int c1, .int c2, .int (0 : Int32), .int (0 : Int32), .int (0 : Int32), .int (0 : Int32), .int (0 : Int32), .int (0 : Int32), .int (0 : Int32), .int (0 : Int32), .int (0 : Int32), .int (0 : Int32), .int (0 : Int32), .int (0 : Int32), .int (0 : Int32), .int (0 : Int32), .int (0 : Int32), .int (0 : Int32), .int (0 : Int32), .int (0 : Int32), .int (0 : Int32), .int (0 : Int32), .int (0 : Int32), .int (0 : Int32), .int (0 : Int32)]) :: (G3 ++ K3)) (S3 + s3) _
  have gl4 : (G3 ++ K3).length ≤ 4 := by rw [List.length_append]; omega
  have sl4 : (S3 + s3) ≤ 102 := by omega
  clear hB
  generalize G3 ++ K3 = G4 at gl4 ⊢
  generalize (S3 + s3) = S4 at sl4 ⊢
  refine mmW_steps (k := 1) (n := 838) (pc' := 242) (L' := [.val (.int x0), .val (.int x1), .val (.int x2), .val (.long x3), .second, .val (.int fr), .val (.int a), .val (.int b), .val (.int (0 : Int32)), .val (.int jk), .val (.long nm), .second, .val (.int lm), .val (.int v), .val (.int t), .val (.int ((a + b) + (0 : Int32))), .val (.int e0), .unset, .unset, .unset, .unset, .unset, .unset, .unset, .unset, .unset, .unset, .unset, .unset]) (S' := [.ref 0]) (H' := (.inr (.byte, [.int c0, .int c1, .int c2, .int c3.toInt8.toInt32, .int (0 : Int32), .int (0 : Int32), .int (0 : Int32), .int (0 : Int32), .int (0 : Int32), .int (0 : Int32), .int (0 : Int32), .int (0 : Int32), .int (0 : Int32), .int (0 : Int32), .int (0 : Int32), .int (0 : Int32), .int (0 : Int32), .int (0 : Int32), .int (0 : Int32), .int (0 : Int32), .int (0 : Int32), .int (0 : Int32), .int (0 : Int32), .int (0 : Int32), .int (0 : Int32), .int (0 : Int32)]) :: G4)) (sl' := S4) rfl ?_
  rw [ok3.1]
  refine mmW_steps (k := 10) (n := 828) (pc' := 259) (L' := [.val (.int x0), .val (.int x1), .val (.int x2), .val (.long x3), .second, .val (.int fr), .val (.int a), .val (.int b), .val (.int (0 : Int32)), .val (.int jk), .val (.long nm), .second, .val (.int lm), .val (.int v), .val (.int t), .val (.int ((a + b) + (0 : Int32))), .val (.int e0), .unset, .unset, .unset, .unset, .unset, .unset, .unset, .unset, .unset, .unset, .unset, .unset]) (S' := [.long nm, .int jk, .int t, .int e0, .int (0 : Int32), .int a, .int fr, .int (4 : Int32), .int (4 : Int32), .ref 0, .ref 0]) (H' := (.inr (.byte, [.int c0, .int c1, .int c2, .int c3, .int (0 : Int32), .int (0 : Int32), .int (0 : Int32), .int (0 : Int32), .int (0 : Int32), .int (0 : Int32), .int (0 : Int32), .int (0 : Int32), .int (0 : Int32), .int (0 : Int32), .int (0 : Int32), .int (0 : Int32), .int (0 : Int32), .int (0 : Int32), .int (0 : Int32), .int (0 : Int32), .int (0 : Int32), .int (0 : Int32), .int (0 : Int32), .int (0 : Int32), .int (0 : Int32), .int (0 : Int32)]) :: G4)) (sl' := S4) rfl ?_
  obtain ⟨c4, K4, s4, hB, u4, d4, ok4⟩ := own_at0 (4 : Int32) fr a e0 t jk 4 FR A E0 JK rfl hfr ha he0 hjk (Nat.le_of_ble_eq_true rfl) gFR gA gE1 gE2 gJ ht nm NM hn hN (.inr (.byte, [.int c0, .int c1, .int c2, .int c3, .int (0 : Int32), .int (0 : Int32), .int (0 : Int32), .int (0 : Int32), .int (0 : Int32), .int (0 : Int32), .int (0 : Int32), .int (0 : Int32), .int (0 : Int32), .int (0 : Int32), .int (0 : Int32), .int (0 : Int32), .int (0 : Int32), .int (0 : Int32), .int (0 : Int32), .int (0 : Int32), .int (0 : Int32), .int (0 : Int32), .int (0 : Int32), .int (0 : Int32), .int (0 : Int32), .int (0 : Int32)]) :: G4)
  refine mmW_callS (n := 827) rfl rfl rfl (rfl) (Nat.le_of_ble_eq_true rfl) (hB) ?_
  show mmW K_0 I_0 (some .boolean) (827) 262 [.val (.int x0), .val (.int x1), .val (.int x2), .val (.long x3), .second, .val (.int fr), .val (.int a), .val (.int b), .val (.int (0 : Int32)), .val (.int jk), .val (.long nm), .second, .val (.int lm), .val (.int v), .val (.int t), .val (.int ((a + b) + (0 : Int32))), .val (.int e0), .unset, .unset, .unset, .unset, .unset, .unset, .unset, .unset, .unset, .unset, .unset, .unset] [.int c4, .int (4 : Int32), .ref 0, .ref 0] (.inr (.byte, [.int c0, .int c1, .int c2, .int c3, .int (0 : Int32), .int (0 : Int32), .int (0 : Int32), .int (0 : Int32), .int (0 : Int32), .int (0 : Int32), .int (0 : Int32), .int (0 : Int32), .int (0 : Int32), .int (0 : Int32), .int (0 : Int32), .int (0 : Int32), .int (0 : Int32), .int (0 : Int32), .int (0 : Int32), .int (0 : Int32), .int (0 : Int32), .int (0 : Int32), .int (0 : Int32), .int (0 : Int32), .int (0 : Int32), .int (0 : Int32)]) :: (G4 ++ K4)) (S4 + s4) _
  have gl5 : (G4 ++ K4).length ≤ 5 := by rw [List.length_append]; omega
  have sl5 : (S4 + s4) ≤ 121 := by omega
  clear hB
  generalize G4 ++ K4 = G5 at gl5 ⊢
  generalize (S4 + s4) = S5 at sl5 ⊢
  refine mmW_steps (k := 1) (n := 826) (pc' := 263) (L' := [.val (.int x0), .val (.int x1), .val (.int x2), .val (.long x3), .second, .val (.int fr), .val (.int a), .val (.int b), .val (.int (0 : Int32)), .val (.int jk), .val (.long nm), .second, .val (.int lm), .val (.int v), .val (.int t), .val (.int ((a + b) + (0 : Int32))), .val (.int e0), .unset, .unset, .unset, .unset, .unset, .unset, .unset, .unset, .unset, .unset, .unset, .unset]) (S' := [.ref 0]) (H' := (.inr (.byte, [.int c0, .int c1, .int c2, .int c3, .int c4.toInt8.toInt32, .int (0 : Int32), .int (0 : Int32), .int (0 : Int32), .int (0 : Int32), .int (0 : Int32), .int (0 : Int32), .int (0 : Int32), .int (0 : Int32), .int (0 : Int32), .int (0 : Int32), .int (0 : Int32), .int (0 : Int32), .int (0 : Int32), .int (0 : Int32), .int (0 : Int32), .int (0 : Int32), .int (0 : Int32), .int (0 : Int32), .int (0 : Int32), .int (0 : Int32), .int (0 : Int32)]) :: G5)) (sl' := S5) rfl ?_
  rw [ok4.1]
  refine mmW_steps (k := 10) (n := 816) (pc' := 280) (L' := [.val (.int x0), .val (.int x1), .val (.int x2), .val (.long x3), .second, .val (.int fr), .val (.int a), .val (.int b), .val (.int (0 : Int32)), .val (.int jk), .val (.long nm), .second, .val (.int lm), .val (.int v), .val (.int t), .val (.int ((a + b) + (0 : Int32))), .val (.int e0), .unset, .unset, .unset, .unset, .unset, .unset, .unset, .unset, .unset, .unset, .unset, .unset]) (S' := [.long nm, .int jk, .int t, .int e0, .int (0 : Int32), .int a, .int fr, .int (5 : Int32), .int (5 : Int32), .ref 0, .ref 0]) (H' := (.inr (.byte, [.int c0, .int c1, .int c2, .int c3, .int c4, .int (0 : Int32), .int (0 : Int32), .int (0 : Int32), .int (0 : Int32), .int (0 : Int32), .int (0 : Int32), .int (0 : Int32), .int (0 : Int32), .int (0 : Int32), .int (0 : Int32), .int (0 : Int32), .int (0 : Int32), .int (0 : Int32), .int (0 : Int32), .int (0 : Int32), .int (0 : Int32), .int (0 : Int32), .int (0 : Int32), .int (0 : Int32), .int (0 : Int32), .int (0 : Int32)]) :: G5)) (sl' := S5) rfl ?_
  obtain ⟨c5, K5, s5, hB, u5, d5, ok5⟩ := own_at0 (5 : Int32) fr a e0 t jk 5 FR A E0 JK rfl hfr ha he0 hjk (Nat.le_of_ble_eq_true rfl) gFR gA gE1 gE2 gJ ht nm NM hn hN (.inr (.byte, [.int c0, .int c1, .int c2, .int c3, .int c4, .int (0 : Int32), .int (0 : Int32), .int (0 : Int32), .int (0 : Int32), .int (0 : Int32), .int (0 : Int32), .int (0 : Int32), .int (0 : Int32), .int (0 : Int32), .int (0 : Int32), .int (0 : Int32), .int (0 : Int32), .int (0 : Int32), .int (0 : Int32), .int (0 : Int32), .int (0 : Int32), .int (0 : Int32), .int (0 : Int32), .int (0 : Int32), .int (0 : Int32), .int (0 : Int32)]) :: G5)
  refine mmW_callS (n := 815) rfl rfl rfl (rfl) (Nat.le_of_ble_eq_true rfl) (hB) ?_
  show mmW K_0 I_0 (some .boolean) (815) 283 [.val (.int x0), .val (.int x1), .val (.int x2), .val (.long x3), .second, .val (.int fr), .val (.int a), .val (.int b), .val (.int (0 : Int32)), .val (.int jk), .val (.long nm), .second, .val (.int lm), .val (.int v), .val (.int t), .val (.int ((a + b) + (0 : Int32))), .val (.int e0), .unset, .unset, .unset, .unset, .unset, .unset, .unset, .unset, .unset, .unset, .unset, .unset] [.int c5, .int (5 : Int32), .ref 0, .ref 0] (.inr (.byte, [.int c0, .int c1, .int c2, .int c3, .int c4, .int (0 : Int32), .int (0 : Int32), .int (0 : Int32), .int (0 : Int32), .int (0 : Int32), .int (0 : Int32), .int (0 : Int32), .int (0 : Int32), .int (0 : Int32), .int (0 : Int32), .int (0 : Int32), .int (0 : Int32), .int (0 : Int32), .int (0 : Int32), .int (0 : Int32), .int (0 : Int32), .int (0 : Int32), .int (0 : Int32), .int (0 : Int32), .int (0 : Int32), .int (0 : Int32)]) :: (G5 ++ K5)) (S5 + s5) _
  have gl6 : (G5 ++ K5).length ≤ 6 := by rw [List.length_append]; omega
  have sl6 : (S5 + s5) ≤ 140 := by omega
  clear hB
  generalize G5 ++ K5 = G6 at gl6 ⊢
  generalize (S5 + s5) = S6 at sl6 ⊢
  refine mmW_steps (k := 1) (n := 814) (pc' := 284) (L' := [.val (.int x0), .val (.int x1), .val (.int x2), .val (.long x3), .second, .val (.int fr), .val (.int a), .val (.int b), .val (.int (0 : Int32)), .val (.int jk), .val (.long nm), .second, .val (.int lm), .val (.int v), .val (.int t), .val (.int ((a + b) + (0 : Int32))), .val (.int e0), .unset, .unset, .unset, .unset, .unset, .unset, .unset, .unset, .unset, .unset, .unset, .unset]) (S' := [.ref 0]) (H' := (.inr (.byte, [.int c0, .int c1, .int c2, .int c3, .int c4, .int c5.toInt8.toInt32, .int (0 : Int32), .int (0 : Int32), .int (0 : Int32), .int (0 : Int32), .int (0 : Int32), .int (0 : Int32), .int (0 : Int32), .int (0 : Int32), .int (0 : Int32), .int (0 : Int32), .int (0 : Int32), .int (0 : Int32), .int (0 : Int32), .int (0 : Int32), .int (0 : Int32), .int (0 : Int32), .int (0 : Int32), .int (0 : Int32), .int (0 : Int32), .int (0 : Int32)]) :: G6)) (sl' := S6) rfl ?_
  rw [ok5.1]
  refine mmW_steps (k := 10) (n := 804) (pc' := 303) (L' := [.val (.int x0), .val (.int x1), .val (.int x2), .val (.long x3), .second, .val (.int fr), .val (.int a), .val (.int b), .val (.int (0 : Int32)), .val (.int jk), .val (.long nm), .second, .val (.int lm), .val (.int v), .val (.int t), .val (.int ((a + b) + (0 : Int32))), .val (.int e0), .unset, .unset, .unset, .unset, .unset, .unset, .unset, .unset, .unset, .unset, .unset, .unset]) (S' := [.long nm, .int jk, .int t, .int e0, .int (0 : Int32), .int a, .int fr, .int (6 : Int32), .int (6 : Int32), .ref 0, .ref 0]) (H' := (.inr (.byte, [.int c0, .int c1, .int c2, .int c3, .int c4, .int c5, .int (0 : Int32), .int (0 : Int32), .int (0 : Int32), .int (0 : Int32), .int (0 : Int32), .int (0 : Int32), .int (0 : Int32), .int (0 : Int32), .int (0 : Int32), .int (0 : Int32), .int (0 : Int32), .int (0 : Int32), .int (0 : Int32), .int (0 : Int32), .int (0 : Int32), .int (0 : Int32), .int (0 : Int32), .int (0 : Int32), .int (0 : Int32), .int (0 : Int32)]) :: G6)) (sl' := S6) rfl ?_
  obtain ⟨c6, K6, s6, hB, u6, d6, ok6⟩ := own_at0 (6 : Int32) fr a e0 t jk 6 FR A E0 JK rfl hfr ha he0 hjk (Nat.le_of_ble_eq_true rfl) gFR gA gE1 gE2 gJ ht nm NM hn hN (.inr (.byte, [.int c0, .int c1, .int c2, .int c3, .int c4, .int c5, .int (0 : Int32), .int (0 : Int32), .int (0 : Int32), .int (0 : Int32), .int (0 : Int32), .int (0 : Int32), .int (0 : Int32), .int (0 : Int32), .int (0 : Int32), .int (0 : Int32), .int (0 : Int32), .int (0 : Int32), .int (0 : Int32), .int (0 : Int32), .int (0 : Int32), .int (0 : Int32), .int (0 : Int32), .int (0 : Int32), .int (0 : Int32), .int (0 : Int32)]) :: G6)
  refine mmW_callS (n := 803) rfl rfl rfl (rfl) (Nat.le_of_ble_eq_true rfl) (hB) ?_
  show mmW K_0 I_0 (some .boolean) (803) 306 [.val (.int x0), .val (.int x1), .val (.int x2), .val (.long x3), .second, .val (.int fr), .val (.int a), .val (.int b), .val (.int (0 : Int32)), .val (.int jk), .val (.long nm), .second, .val (.int lm), .val (.int v), .val (.int t), .val (.int ((a + b) + (0 : Int32))), .val (.int e0), .unset, .unset, .unset, .unset, .unset, .unset, .unset, .unset, .unset, .unset, .unset, .unset] [.int c6, .int (6 : Int32), .ref 0, .ref 0] (.inr (.byte, [.int c0, .int c1, .int c2, .int c3, .int c4, .int c5, .int (0 : Int32), .int (0 : Int32), .int (0 : Int32), .int (0 : Int32), .int (0 : Int32), .int (0 : Int32), .int (0 : Int32), .int (0 : Int32), .int (0 : Int32), .int (0 : Int32), .int (0 : Int32), .int (0 : Int32), .int (0 : Int32), .int (0 : Int32), .int (0 : Int32), .int (0 : Int32), .int (0 : Int32), .int (0 : Int32), .int (0 : Int32), .int (0 : Int32)]) :: (G6 ++ K6)) (S6 + s6) _
  have gl7 : (G6 ++ K6).length ≤ 7 := by rw [List.length_append]; omega
  have sl7 : (S6 + s6) ≤ 159 := by omega
  clear hB
  generalize G6 ++ K6 = G7 at gl7 ⊢
  generalize (S6 + s6) = S7 at sl7 ⊢
  refine mmW_steps (k := 1) (n := 802) (pc' := 307) (L' := [.val (.int x0), .val (.int x1), .val (.int x2), .val (.long x3), .second, .val (.int fr), .val (.int a), .val (.int b), .val (.int (0 : Int32)), .val (.int jk), .val (.long nm), .second, .val (.int lm), .val (.int v), .val (.int t), .val (.int ((a + b) + (0 : Int32))), .val (.int e0), .unset, .unset, .unset, .unset, .unset, .unset, .unset, .unset, .unset, .unset, .unset, .unset]) (S' := [.ref 0]) (H' := (.inr (.byte, [.int c0, .int c1, .int c2, .int c3, .int c4, .int c5, .int c6.toInt8.toInt32, .int (0 : Int32), .int (0 : Int32), .int (0 : Int32), .int (0 : Int32), .int (0 : Int32), .int (0 : Int32), .int (0 : Int32), .int (0 : Int32), .int (0 : Int32), .int (0 : Int32), .int (0 : Int32), .int (0 : Int32), .int (0 : Int32), .int (0 : Int32), .int (0 : Int32), .int (0 : Int32), .int (0 : Int32), .int (0 : Int32), .int (0 : Int32)]) :: G7)) (sl' := S7) rfl ?_
  rw [ok6.1]
  refine mmW_steps (k := 10) (n := 792) (pc' := 326) (L' := [.val (.int x0), .val (.int x1), .val (.int x2), .val (.long x3), .second, .val (.int fr), .val (.int a), .val (.int b), .val (.int (0 : Int32)), .val (.int jk), .val (.long nm), .second, .val (.int lm), .val (.int v), .val (.int t), .val (.int ((a + b) + (0 : Int32))), .val (.int e0), .unset, .unset, .unset, .unset, .unset, .unset, .unset, .unset, .unset, .unset, .unset, .unset]) (S' := [.long nm, .int jk, .int t, .int e0, .int (0 : Int32), .int a, .int fr, .int (7 : Int32), .int (7 : Int32), .ref 0, .ref 0]) (H' := (.inr (.byte, [.int c0, .int c1, .int c2, .int c3, .int c4, .int c5, .int c6, .int (0 : Int32), .int (0 : Int32), .int (0 : Int32), .int (0 : Int32), .int (0 : Int32), .int (0 : Int32), .int (0 : Int32), .int (0 : Int32), .int (0 : Int32), .int (0 : Int32), .int (0 : Int32), .int (0 : Int32), .int (0 : Int32), .int (0 : Int32), .int (0 : Int32), .int (0 : Int32), .int (0 : Int32), .int (0 : Int32), .int (0 : Int32)]) :: G7)) (sl' := S7) rfl ?_
  obtain ⟨c7, K7, s7, hB, u7, d7, ok7⟩ := own_at0 (7 : Int32) fr a e0 t jk 7 FR A E0 JK rfl hfr ha he0 hjk (Nat.le_of_ble_eq_true rfl) gFR gA gE1 gE2 gJ ht nm NM hn hN (.inr (.byte, [.int c0, .int c1, .int c2, .int c3, .int c4, .int c5, .int c6, .int (0 : Int32), .int (0 : Int32), .int (0 : Int32), .int (0 : Int32), .int (0 : Int32), .int (0 : Int32), .int (0 : Int32), .int (0 : Int32), .int (0 : Int32), .int (0 : Int32), .int (0 : Int32), .int (0 : Int32), .int (0 : Int32), .int (0 : Int32), .int (0 : Int32), .int (0 : Int32), .int (0 : Int32), .int (0 : Int32), .int (0 : Int32)]) :: G7)
  refine mmW_callS (n := 791) rfl rfl rfl (rfl) (Nat.le_of_ble_eq_true rfl) (hB) ?_
  show mmW K_0 I_0 (some .boolean) (791) 329 [.val (.int x0), .val (.int x1), .val (.int x2), .val (.long x3), .second, .val (.int fr), .val (.int a), .val (.int b), .val (.int (0 : Int32)), .val (.int jk), .val (.long nm), .second, .val (.int lm), .val (.int v), .val (.int t), .val (.int ((a + b) + (0 : Int32))), .val (.int e0), .unset, .unset, .unset, .unset, .unset, .unset, .unset, .unset, .unset, .unset, .unset, .unset] [.int c7, .int (7 : Int32), .ref 0, .ref 0] (.inr (.byte, [.int c0, .int c1, .int c2, .int c3, .int c4, .int c5, .int c6, .int (0 : Int32), .int (0 : Int32), .int (0 : Int32), .int (0 : Int32), .int (0 : Int32), .int (0 : Int32), .int (0 : Int32), .int (0 : Int32), .int (0 : Int32), .int (0 : Int32), .int (0 : Int32), .int (0 : Int32), .int (0 : Int32), .int (0 : Int32), .int (0 : Int32), .int (0 : Int32), .int (0 : Int32), .int (0 : Int32), .int (0 : Int32)]) :: (G7 ++ K7)) (S7 + s7) _
  have gl8 : (G7 ++ K7).length ≤ 8 := by rw [List.length_append]; omega
  have sl8 : (S7 + s7) ≤ 178 := by omega
  clear hB
  generalize G7 ++ K7 = G8 at gl8 ⊢
  generalize (S7 + s7) = S8 at sl8 ⊢
  refine mmW_steps (k := 1) (n := 790) (pc' := 330) (L' := [.val (.int x0), .val (.int x1), .val (.int x2), .val (.long x3), .second, .val (.int fr), .val (.int a), .val (.int b), .val (.int (0 : Int32)), .val (.int jk), .val (.long nm), .second, .val (.int lm), .val (.int v), .val (.int t), .val (.int ((a + b) + (0 : Int32))), .val (.int e0), .unset, .unset, .unset, .unset, .unset, .unset, .unset, .unset, .unset, .unset, .unset, .unset]) (S' := [.ref 0]) (H' := (.inr (.byte, [.int c0, .int c1, .int c2, .int c3, .int c4, .int c5, .int c6, .int c7.toInt8.toInt32, .int (0 : Int32), .int (0 : Int32), .int (0 : Int32), .int (0 : Int32), .int (0 : Int32), .int (0 : Int32), .int (0 : Int32), .int (0 : Int32), .int (0 : Int32), .int (0 : Int32), .int (0 : Int32), .int (0 : Int32), .int (0 : Int32), .int (0 : Int32), .int (0 : Int32), .int (0 : Int32), .int (0 : Int32), .int (0 : Int32)]) :: G8)) (sl' := S8) rfl ?_
  rw [ok7.1]
  refine mmW_steps (k := 10) (n := 780) (pc' := 349) (L' := [.val (.int x0), .val (.int x1), .val (.int x2), .val (.long x3), .second, .val (.int fr), .val (.int a), .val (.int b), .val (.int (0 : Int32)), .val (.int jk), .val (.long nm), .second, .val (.int lm), .val (.int v), .val (.int t), .val (.int ((a + b) + (0 : Int32))), .val (.int e0), .unset, .unset, .unset, .unset, .unset, .unset, .unset, .unset, .unset, .unset, .unset, .unset]) (S' := [.long nm, .int jk, .int t, .int e0, .int (0 : Int32), .int a, .int fr, .int (8 : Int32), .int (8 : Int32), .ref 0, .ref 0]) (H' := (.inr (.byte, [.int c0, .int c1, .int c2, .int c3, .int c4, .int c5, .int c6, .int c7, .int (0 : Int32), .int (0 : Int32), .int (0 : Int32), .int (0 : Int32), .int (0 : Int32), .int (0 : Int32), .int (0 : Int32), .int (0 : Int32), .int (0 : Int32), .int (0 : Int32), .int (0 : Int32), .int (0 : Int32), .int (0 : Int32), .int (0 : Int32), .int (0 : Int32), .int (0 : Int32), .int (0 : Int32), .int (0 : Int32)]) :: G8)) (sl' := S8) rfl ?_
  obtain ⟨c8, K8, s8, hB, u8, d8, ok8⟩ := own_at0 (8 : Int32) fr a e0 t jk 8 FR A E0 JK rfl hfr ha he0 hjk (Nat.le_of_ble_eq_true rfl) gFR gA gE1 gE2 gJ ht nm NM hn hN (.inr (.byte, [.int c0, .int c1, .int c2, .int c3, .int c4, .int c5, .int c6, .int c7, .int (0 : Int32), .int (0 : Int32), .int (0 : Int32), .int (0 : Int32), .int (0 : Int32), .int (0 : Int32), .int (0 : Int32), .int (0 : Int32), .int (0 : Int32), .int (0 : Int32), .int (0 : Int32), .int (0 : Int32), .int (0 : Int32), .int (0 : Int32), .int (0 : Int32), .int (0 : Int32), .int (0 : Int32), .int (0 : Int32)]) :: G8)
  refine mmW_callS (n := 779) rfl rfl rfl (rfl) (Nat.le_of_ble_eq_true rfl) (hB) ?_
  show mmW K_0 I_0 (some .boolean) (779) 352 [.val (.int x0), .val (.int x1), .val (.int x2), .val (.long x3), .second, .val (.int fr), .val (.int a), .val (.int b), .val (.int (0 : Int32)), .val (.int jk), .val (.long nm), .second, .val (.int lm), .val (.int v), .val (.int t), .val (.int ((a + b) + (0 : Int32))), .val (.int e0), .unset, .unset, .unset, .unset, .unset, .unset, .unset, .unset, .unset, .unset, .unset, .unset] [.int c8, .int (8 : Int32), .ref 0, .ref 0] (.inr (.byte, [.int c0, .int c1, .int c2, .int c3, .int c4, .int c5, .int c6, .int c7, .int (0 : Int32), .int (0 : Int32), .int (0 : Int32), .int (0 : Int32), .int (0 : Int32), .int (0 : Int32), .int (0 : Int32), .int (0 : Int32), .int (0 : Int32), .int (0 : Int32), .int (0 : Int32), .int (0 : Int32), .int (0 : Int32), .int (0 : Int32), .int (0 : Int32), .int (0 : Int32), .int (0 : Int32), .int (0 : Int32)]) :: (G8 ++ K8)) (S8 + s8) _
  have gl9 : (G8 ++ K8).length ≤ 9 := by rw [List.length_append]; omega
  have sl9 : (S8 + s8) ≤ 197 := by omega
  clear hB
  generalize G8 ++ K8 = G9 at gl9 ⊢
  generalize (S8 + s8) = S9 at sl9 ⊢
  refine mmW_steps (k := 1) (n := 778) (pc' := 353) (L' := [.val (.int x0), .val (.int x1), .val (.int x2), .val (.long x3), .second, .val (.int fr), .val (.int a), .val (.int b), .val (.int (0 : Int32)), .val (.int jk), .val (.long nm), .second, .val (.int lm), .val (.int v), .val (.int t), .val (.int ((a + b) + (0 : Int32))), .val (.int e0), .unset, .unset, .unset, .unset, .unset, .unset, .unset, .unset, .unset, .unset, .unset, .unset]) (S' := [.ref 0]) (H' := (.inr (.byte, [.int c0, .int c1, .int c2, .int c3, .int c4, .int c5, .int c6, .int c7, .int c8.toInt8.toInt32, .int (0 : Int32), .int (0 : Int32), .int (0 : Int32), .int (0 : Int32), .int (0 : Int32), .int (0 : Int32), .int (0 : Int32), .int (0 : Int32), .int (0 : Int32), .int (0 : Int32), .int (0 : Int32), .int (0 : Int32), .int (0 : Int32), .int (0 : Int32), .int (0 : Int32), .int (0 : Int32), .int (0 : Int32)]) :: G9)) (sl' := S9) rfl ?_
  rw [ok8.1]
  refine mmW_steps (k := 10) (n := 768) (pc' := 372) (L' := [.val (.int x0), .val (.int x1), .val (.int x2), .val (.long x3), .second, .val (.int fr), .val (.int a), .val (.int b), .val (.int (0 : Int32)), .val (.int jk), .val (.long nm), .second, .val (.int lm), .val (.int v), .val (.int t), .val (.int ((a + b) + (0 : Int32))), .val (.int e0), .unset, .unset, .unset, .unset, .unset, .unset, .unset, .unset, .unset, .unset, .unset, .unset]) (S' := [.long nm, .int jk, .int t, .int e0, .int (0 : Int32), .int a, .int fr, .int (9 : Int32), .int (9 : Int32), .ref 0, .ref 0]) (H' := (.inr (.byte, [.int c0, .int c1, .int c2, .int c3, .int c4, .int c5, .int c6, .int c7, .int c8, .int (0 : Int32), .int (0 : Int32), .int (0 : Int32), .int (0 : Int32), .int (0 : Int32), .int (0 : Int32), .int (0 : Int32), .int (0 : Int32), .int (0 : Int32), .int (0 : Int32), .int (0 : Int32), .int (0 : Int32), .int (0 : Int32), .int (0 : Int32), .int (0 : Int32), .int (0 : Int32), .int (0 : Int32)]) :: G9)) (sl' := S9) rfl ?_
  obtain ⟨c9, K9, s9, hB, u9, d9, ok9⟩ := own_at0 (9 : Int32) fr a e0 t jk 9 FR A E0 JK rfl hfr ha he0 hjk (Nat.le_of_ble_eq_true rfl) gFR gA gE1 gE2 gJ ht nm NM hn hN (.inr (.byte, [.int c0, .int c1, .int c2, .int c3, .int c4, .int c5, .int c6, .int c7, .int c8, .int (0 : Int32), .int (0 : Int32), .int (0 : Int32), .int (0 : Int32), .int (0 : Int32), .int (0 : Int32), .int (0 : Int32), .int (0 : Int32), .int (0 : Int32), .int (0 : Int32), .int (0 : Int32), .int (0 : Int32), .int (0 : Int32), .int (0 : Int32), .int (0 : Int32), .int (0 : Int32), .int (0 : Int32)]) :: G9)
  refine mmW_callS (n := 767) rfl rfl rfl (rfl) (Nat.le_of_ble_eq_true rfl) (hB) ?_
  show mmW K_0 I_0 (some .boolean) (767) 375 [.val (.int x0), .val (.int x1), .val (.int x2), .val (.long x3), .second, .val (.int fr), .val (.int a), .val (.int b), .val (.int (0 : Int32)), .val (.int jk), .val (.long nm), .second, .val (.int lm), .val (.int v), .val (.int t), .val (.int ((a + b) + (0 : Int32))), .val (.int e0), .unset, .unset, .unset, .unset, .unset, .unset, .unset, .unset, .unset, .unset, .unset, .unset] [.int c9, .int (9 : Int32), .ref 0, .ref 0] (.inr (.byte, [.int c0, .int c1, .int c2, .int c3, .int c4, .int c5, .int c6, .int c7, .int c8, .int (0 : Int32), .int (0 : Int32), .int (0 : Int32), .int (0 : Int32), .int (0 : Int32), .int (0 : Int32), .int (0 : Int32), .int (0 : Int32), .int (0 : Int32), .int (0 : Int32), .int (0 : Int32), .int (0 : Int32), .int (0 : Int32), .int (0 : Int32), .int (0 : Int32), .int (0 : Int32), .int (0 : Int32)]) :: (G9 ++ K9)) (S9 + s9) _
  have gl10 : (G9 ++ K9).length ≤ 10 := by rw [List.length_append]; omega
  have sl10 : (S9 + s9) ≤ 216 := by omega
  clear hB
  generalize G9 ++ K9 = G10 at gl10 ⊢
  generalize (S9 + s9) = S10 at sl10 ⊢
  refine mmW_steps (k := 1) (n := 766) (pc' := 376) (L' := [.val (.int x0), .val (.int x1), .val (.int x2), .val (.long x3), .second, .val (.int fr), .val (.int a), .val (.int b), .val (.int (0 : Int32)), .val (.int jk), .val (.long nm), .second, .val (.int lm), .val (.int v), .val (.int t), .val (.int ((a + b) + (0 : Int32))), .val (.int e0), .unset, .unset, .unset, .unset, .unset, .unset, .unset, .unset, .unset, .unset, .unset, .unset]) (S' := [.ref 0]) (H' := (.inr (.byte, [.int c0, .int c1, .int c2, .int c3, .int c4, .int c5, .int c6, .int c7, .int c8, .int c9.toInt8.toInt32, .int (0 : Int32), .int (0 : Int32), .int (0 : Int32), .int (0 : Int32), .int (0 : Int32), .int (0 : Int32), .int (0 : Int32), .int (0 : Int32), .int (0 : Int32), .int (0 : Int32), .int (0 : Int32), .int (0 : Int32), .int (0 : Int32), .int (0 : Int32), .int (0 : Int32), .int (0 : Int32)]) :: G10)) (sl' := S10) rfl ?_
  rw [ok9.1]
  refine mmW_steps (k := 10) (n := 756) (pc' := 395) (L' := [.val (.int x0), .val (.int x1), .val (.int x2), .val (.long x3), .second, .val (.int fr), .val (.int a), .val (.int b), .val (.int (0 : Int32)), .val (.int jk), .val (.long nm), .second, .val (.int lm), .val (.int v), .val (.int t), .val (.int ((a + b) + (0 : Int32))), .val (.int e0), .unset, .unset, .unset, .unset, .unset, .unset, .unset, .unset, .unset, .unset, .unset, .unset]) (S' := [.long nm, .int jk, .int t, .int e0, .int (0 : Int32), .int a, .int fr, .int (10 : Int32), .int (10 : Int32), .ref 0, .ref 0]) (H' := (.inr (.byte, [.int c0, .int c1, .int c2, .int c3, .int c4, .int c5, .int c6, .int c7, .int c8, .int c9, .int (0 : Int32), .int (0 : Int32), .int (0 : Int32), .int (0 : Int32), .int (0 : Int32), .int (0 : Int32), .int (0 : Int32), .int (0 : Int32), .int (0 : Int32), .int (0 : Int32), .int (0 : Int32), .int (0 : Int32), .int (0 : Int32), .int (0 : Int32), .int (0 : Int32), .int (0 : Int32)]) :: G10)) (sl' := S10) rfl ?_
  obtain ⟨c10, K10, s10, hB, u10, d10, ok10⟩ := own_at0 (10 : Int32) fr a e0 t jk 10 FR A E0 JK rfl hfr ha he0 hjk (Nat.le_of_ble_eq_true rfl) gFR gA gE1 gE2 gJ ht nm NM hn hN (.inr (.byte, [.int c0, .int c1, .int c2, .int c3, .int c4, .int c5, .int c6, .int c7, .int c8, .int c9, .int (0 : Int32), .int (0 : Int32), .int (0 : Int32), .int (0 : Int32), .int (0 : Int32), .int (0 : Int32), .int (0 : Int32), .int (0 : Int32), .int (0 : Int32), .int (0 : Int32), .int (0 : Int32), .int (0 : Int32), .int (0 : Int32), .int (0 : Int32), .int (0 : Int32), .int (0 : Int32)]) :: G10)
  refine mmW_callS (n := 755) rfl rfl rfl (rfl) (Nat.le_of_ble_eq_true rfl) (hB) ?_
  show mmW K_0 I_0 (some .boolean) (755) 398 [.val (.int x0), .val (.int x1), .val (.int x2), .val (.long x3), .second, .val (.int fr), .val (.int a), .val (.int b), .val (.int (0 : Int32)), .val (.int jk), .val (.long nm), .second, .val (.int lm), .val (.int v), .val (.int t), .val (.int ((a + b) + (0 : Int32))), .val (.int e0), .unset, .unset, .unset, .unset, .unset, .unset, .unset, .unset, .unset, .unset, .unset, .unset] [.int c10, .int (10 : Int32), .ref 0, .ref 0] (.inr (.byte, [.int c0, .int c1, .int c2, .int c3, .int c4, .int c5, .int c6, .int c7, .int c8, .int c9, .int (0 : Int32), .int (0 : Int32), .int (0 : Int32), .int (0 : Int32), .int (0 : Int32), .int (0 : Int32), .int (0 : Int32), .int (0 : Int32), .int (0 : Int32), .int (0 : Int32), .int (0 : Int32), .int (0 : Int32), .int (0 : Int32), .int (0 : Int32), .int (0 : Int32), .int (0 : Int32)]) :: (G10 ++ K10)) (S10 + s10) _
  have gl11 : (G10 ++ K10).length ≤ 11 := by rw [List.length_append]; omega
  have sl11 : (S10 + s10) ≤ 235 := by omega
  clear hB
  generalize G10 ++ K10 = G11 at gl11 ⊢
  generalize (S10 + s10) = S11 at sl11 ⊢
  refine mmW_steps (k := 1) (n := 754) (pc' := 399) (L' := [.val (.int x0), .val (.int x1), .val (.int x2), .val (.long x3), .second, .val (.int fr), .val (.int a), .val (.int b), .val (.int (0 : Int32)), .val (.int jk), .val (.long nm), .second, .val (.int lm), .val (.int v), .val (.int t), .val (.int ((a + b) + (0 : Int32))), .val (.int e0), .unset, .unset, .unset, .unset, .unset, .unset, .unset, .unset, .unset, .unset, .unset, .unset]) (S' := [.ref 0]) (H' := (.inr (.byte, [.int c0, .int c1, .int c2, .int c3, .int c4, .int c5, .int c6, .int c7, .int c8, .int c9, .int c10.toInt8.toInt32, .int (0 : Int32), .int (0 : Int32), .int (0 : Int32), .int (0 : Int32), .int (0 : Int32), .int (0 : Int32), .int (0 : Int32), .int (0 : Int32), .int (0 : Int32), .int (0 : Int32), .int (0 : Int32), .int (0 : Int32), .int (0 : Int32), .int (0 : Int32), .int (0 : Int32)]) :: G11)) (sl' := S11) rfl ?_
  rw [ok10.1]
  refine mmW_steps (k := 10) (n := 744) (pc' := 418) (L' := [.val (.int x0), .val (.int x1), .val (.int x2), .val (.long x3), .second, .val (.int fr), .val (.int a), .val (.int b), .val (.int (0 : Int32)), .val (.int jk), .val (.long nm), .second, .val (.int lm), .val (.int v), .val (.int t), .val (.int ((a + b) + (0 : Int32))), .val (.int e0), .unset, .unset, .unset, .unset, .unset, .unset, .unset, .unset, .unset, .unset, .unset, .unset]) (S' := [.long nm, .int jk, .int t, .int e0, .int (0 : Int32), .int a, .int fr, .int (11 : Int32), .int (11 : Int32), .ref 0, .ref 0]) (H' := (.inr (.byte, [.int c0, .int c1, .int c2, .int c3, .int c4, .int c5, .int c6, .int c7, .int c8, .int c9, .int c10, .int (0 : Int32), .int (0 : Int32), .int (0 : Int32), .int (0 : Int32), .int (0 : Int32), .int (0 : Int32), .int (0 : Int32), .int (0 : Int32), .int (0 : Int32), .int (0 : Int32), .int (0 : Int32), .int (0 : Int32), .int (0 : Int32), .int (0 : Int32), .int (0 : Int32)]) :: G11)) (sl' := S11) rfl ?_
  obtain ⟨c11, K11, s11, hB, u11, d11, ok11⟩ := own_at0 (11 : Int32) fr a e0 t jk 11 FR A E0 JK rfl hfr ha he0 hjk (Nat.le_of_ble_eq_true rfl) gFR gA gE1 gE2 gJ ht nm NM hn hN (.inr (.byte, [.int c0, .int c1, .int c2, .int c3, .int c4, .int c5, .int c6, .int c7, .int c8, .int c9, .int c10, .int (0 : Int32), .int (0 : Int32), .int (0 : Int32), .int (0 : Int32), .int (0 : Int32), .int (0 : Int32), .int (0 : Int32), .int (0 : Int32), .int (0 : Int32), .int (0 : Int32), .int (0 : Int32), .int (0 : Int32), .int (0 : Int32), .int (0 : Int32), .int (0 : Int32)]) :: G11)
  refine mmW_callS (n := 743) rfl rfl rfl (rfl) (Nat.le_of_ble_eq_true rfl) (hB) ?_
  show mmW K_0 I_0 (some .boolean) (743) 421 [.val (.int x0), .val (.int x1), .val (.int x2), .val (.long x3), .second, .val (.int fr), .val (.int a), .val (.int b), .val (.int (0 : Int32)), .val (.int jk), .val (.long nm), .second, .val (.int lm), .val (.int v), .val (.int t), .val (.int ((a + b) + (0 : Int32))), .val (.int e0), .unset, .unset, .unset, .unset, .unset, .unset, .unset, .unset, .unset, .unset, .unset, .unset] [.int c11, .int (11 : Int32), .ref 0, .ref 0] (.inr (.byte, [.int c0, .int c1, .int c2, .int c3, .int c4, .int c5, .int c6, .int c7, .int c8, .int c9, .int c10, .int (0 : Int32), .int (0 : Int32), .int (0 : Int32), .int (0 : Int32), .int (0 : Int32), .int (0 : Int32), .int (0 : Int32), .int (0 : Int32), .int (0 : Int32), .int (0 : Int32), .int (0 : Int32), .int (0 : Int32), .int (0 : Int32), .int (0 : Int32), .int (0 : Int32)]) :: (G11 ++ K11)) (S11 + s11) _
  have gl12 : (G11 ++ K11).length ≤ 12 := by rw [List.length_append]; omega
  have sl12 : (S11 + s11) ≤ 254 := by omega
  clear hB
  generalize G11 ++ K11 = G12 at gl12 ⊢
  generalize (S11 + s11) = S12 at sl12 ⊢
  refine mmW_steps (k := 1) (n := 742) (pc' := 422) (L' := [.val (.int x0), .val (.int x1), .val (.int x2), .val (.long x3), .second, .val (.int fr), .val (.int a), .val (.int b), .val (.int (0 : Int32)), .val (.int jk), .val (.long nm), .second, .val (.int lm), .val (.int v), .val (.int t), .val (.int ((a + b) + (0 : Int32))), .val (.int e0), .unset, .unset, .unset, .unset, .unset, .unset, .unset, .unset, .unset, .unset, .unset, .unset]) (S' := [.ref 0]) (H' := (.inr (.byte, [.int c0, .int c1, .int c2, .int c3, .int c4, .int c5, .int c6, .int c7, .int c8, .int c9, .int c10, .int c11.toInt8.toInt32, .int (0 : Int32), .int (0 : Int32), .int (0 : Int32), .int (0 : Int32), .int (0 : Int32), .int (0 : Int32), .int (0 : Int32), .int (0 : Int32), .int (0 : Int32), .int (0 : Int32), .int (0 : Int32), .int (0 : Int32), .int (0 : Int32), .int (0 : Int32)]) :: G12)) (sl' := S12) rfl ?_
  rw [ok11.1]
  refine mmW_steps (k := 10) (n := 732) (pc' := 441) (L' := [.val (.int x0), .val (.int x1), .val (.int x2), .val (.long x3), .second, .val (.int fr), .val (.int a), .val (.int b), .val (.int (0 : Int32)), .val (.int jk), .val (.long nm), .second, .val (.int lm), .val (.int v), .val (.int t), .val (.int ((a + b) + (0 : Int32))), .val (.int e0), .unset, .unset, .unset, .unset, .unset, .unset, .unset, .unset, .unset, .unset, .unset, .unset]) (S' := [.long nm, .int jk, .int t, .int e0, .int (0 : Int32), .int a, .int fr, .int (12 : Int32), .int (12 : Int32), .ref 0, .ref 0]) (H' := (.inr (.byte, [.int c0, .int c1, .int c2, .int c3, .int c4, .int c5, .int c6, .int c7, .int c8, .int c9, .int c10, .int c11, .int (0 : Int32), .int (0 : Int32), .int (0 : Int32), .int (0 : Int32), .int (0 : Int32), .int (0 : Int32), .int (0 : Int32), .int (0 : Int32), .int (0 : Int32), .int (0 : Int32), .int (0 : Int32), .int (0 : Int32), .int (0 : Int32), .int (0 : Int32)]) :: G12)) (sl' := S12) rfl ?_
  obtain ⟨c12, K12, s12, hB, u12, d12, ok12⟩ := own_at0 (12 : Int32) fr a e0 t jk 12 FR A E0 JK rfl hfr ha he0 hjk (Nat.le_of_ble_eq_true rfl) gFR gA gE1 gE2 gJ ht nm NM hn hN (.inr (.byte, [.int c0, .int c1, .int c2, .int c3, .int c4, .int c5, .int c6, .int c7, .int c8, .int c9, .int c10, .int c11, .int (0 : Int32), .int (0 : Int32), .int (0 : Int32), .int (0 : Int32), .int (0 : Int32), .int (0 : Int32), .int (0 : Int32), .int (0 : Int32), .int (0 : Int32), .int (0 : Int32), .int (0 : Int32), .int (0 : Int32), .int (0 : Int32), .int (0 : Int32)]) :: G12)
  refine mmW_callS (n := 731) rfl rfl rfl (rfl) (Nat.le_of_ble_eq_true rfl) (hB) ?_
  show mmW K_0 I_0 (some .boolean) (731) 444 [.val (.int x0), .val (.int x1), .val (.int x2), .val (.long x3), .second, .val (.int fr), .val (.int a), .val (.int b), .val (.int (0 : Int32)), .val (.int jk), .val (.long nm), .second, .val (.int lm), .val (.int v), .val (.int t), .val (.int ((a + b) + (0 : Int32))), .val (.int e0), .unset, .unset, .unset, .unset, .unset, .unset, .unset, .unset, .unset, .unset, .unset, .unset] [.int c12, .int (12 : Int32), .ref 0, .ref 0] (.inr (.byte, [.int c0, .int c1, .int c2, .int c3, .int c4, .int c5, .int c6, .int c7, .int c8, .int c9, .int c10, .int c11, .int (0 : Int32), .int (0 : Int32), .int (0 : Int32), .int (0 : Int32), .int (0 : Int32), .int (0 : Int32), .int (0 : Int32), .int (0 : Int32), .int (0 : Int32), .int (0 : Int32), .int (0 : Int32), .int (0 : Int32), .int (0 : Int32), .int (0 : Int32)]) :: (G12 ++ K12)) (S12 + s12) _
  have gl13 : (G12 ++ K12).length ≤ 13 := by rw [List.length_append]; omega
  have sl13 : (S12 + s12) ≤ 273 := by omega
  clear hB
  generalize G12 ++ K12 = G13 at gl13 ⊢
  generalize (S12 + s12) = S13 at sl13 ⊢
  refine mmW_steps (k := 1) (n := 730) (pc' := 445) (L' := [.val (.int x0), .val (.int x1), .val (.int x2), .val (.long x3), .second, .val (.int fr), .val (.int a), .val (.int b), .val (.int (0 : Int32)), .val (.int jk), .val (.long nm), .second, .val (.int lm), .val (.int v), .val (.int t), .val (.int ((a + b) + (0 : Int32))), .val (.int e0), .unset, .unset, .unset, .unset, .unset, .unset, .unset, .unset, .unset, .unset, .unset, .unset]) (S' := [.ref 0]) (H' := (.inr (.byte, [.int c0, .int c1, .int c2, .int c3, .int c4, .int c5, .int c6, .int c7, .int c8, .int c9, .int c10, .int c11, .int c12.toInt8.toInt32, .int (0 : Int32), .int (0 : Int32), .int (0 : Int32), .int (0 : Int32), .int (0 : Int32), .int (0 : Int32), .int (0 : Int32), .int (0 : Int32), .int (0 : Int32), .int (0 : Int32), .int (0 : Int32), .int (0 : Int32), .int (0 : Int32)]) :: G13)) (sl' := S13) rfl ?_
  rw [ok12.1]
  refine mmW_steps (k := 10) (n := 720) (pc' := 464) (L' := [.val (.int x0), .val (.int x1), .val (.int x2), .val (.long x3), .second, .val (.int fr), .val (.int a), .val (.int b), .val (.int (0 : Int32)), .val (.int jk), .val (.long nm), .second, .val (.int lm), .val (.int v), .val (.int t), .val (.int ((a + b) + (0 : Int32))), .val (.int e0), .unset, .unset, .unset, .unset, .unset, .unset, .unset, .unset, .unset, .unset, .unset, .unset]) (S' := [.long nm, .int jk, .int t, .int e0, .int (0 : Int32), .int a, .int fr, .int (13 : Int32), .int (13 : Int32), .ref 0, .ref 0]) (H' := (.inr (.byte, [.int c0, .int c1, .int c2, .int c3, .int c4, .int c5, .int c6, .int c7, .int c8, .int c9, .int c10, .int c11, .int c12, .int (0 : Int32), .int (0 : Int32), .int (0 : Int32), .int (0 : Int32), .int (0 : Int32), .int (0 : Int32), .int (0 : Int32), .int (0 : Int32), .int (0 : Int32), .int (0 : Int32), .int (0 : Int32), .int (0 : Int32), .int (0 : Int32)]) :: G13)) (sl' := S13) rfl ?_
  obtain ⟨c13, K13, s13, hB, u13, d13, ok13⟩ := own_at0 (13 : Int32) fr a e0 t jk 13 FR A E0 JK rfl hfr ha he0 hjk (Nat.le_of_ble_eq_true rfl) gFR gA gE1 gE2 gJ ht nm NM hn hN (.inr (.byte, [.int c0, .int c1, .int c2, .int c3, .int c4, .int c5, .int c6, .int c7, .int c8, .int c9, .int c10, .int c11, .int c12, .int (0 : Int32), .int (0 : Int32), .int (0 : Int32), .int (0 : Int32), .int (0 : Int32), .int (0 : Int32), .int (0 : Int32), .int (0 : Int32), .int (0 : Int32), .int (0 : Int32), .int (0 : Int32), .int (0 : Int32), .int (0 : Int32)]) :: G13)
  refine mmW_callS (n := 719) rfl rfl rfl (rfl) (Nat.le_of_ble_eq_true rfl) (hB) ?_
  show mmW K_0 I_0 (some .boolean) (719) 467 [.val (.int x0), .val (.int x1), .val (.int x2), .val (.long x3), .second, .val (.int fr), .val (.int a), .val (.int b), .val (.int (0 : Int32)), .val (.int jk), .val (.long nm), .second, .val (.int lm), .val (.int v), .val (.int t), .val (.int ((a + b) + (0 : Int32))), .val (.int e0), .unset, .unset, .unset, .unset, .unset, .unset, .unset, .unset, .unset, .unset, .unset, .unset] [.int c13, .int (13 : Int32), .ref 0, .ref 0] (.inr (.byte, [.int c0, .int c1, .int c2, .int c3, .int c4, .int c5, .int c6, .int c7, .int c8, .int c9, .int c10, .int c11, .int c12, .int (0 : Int32), .int (0 : Int32), .int (0 : Int32), .int (0 : Int32), .int (0 : Int32), .int (0 : Int32), .int (0 : Int32), .int (0 : Int32), .int (0 : Int32), .int (0 : Int32), .int (0 : Int32), .int (0 : Int32), .int (0 : Int32)]) :: (G13 ++ K13)) (S13 + s13) _
  have gl14 : (G13 ++ K13).length ≤ 14 := by rw [List.length_append]; omega
  have sl14 : (S13 + s13) ≤ 292 := by omega
  clear hB
  generalize G13 ++ K13 = G14 at gl14 ⊢
  generalize (S13 + s13) = S14 at sl14 ⊢
  refine mmW_steps (k := 1) (n := 718) (pc' := 468) (L' := [.val (.int x0), .val (.int x1), .val (.int x2), .val (.long x3), .second, .val (.int fr), .val (.int a), .val (.int b), .val (.int (0 : Int32)), .val (.int jk), .val (.long nm), .second, .val (.int lm), .val (.int v), .val (.int t), .val (.int ((a + b) + (0 : Int32))), .val (.int e0), .unset, .unset, .unset, .unset, .unset, .unset, .unset, .unset, .unset, .unset, .unset, .unset]) (S' := [.ref 0]) (H' := (.inr (.byte, [.int c0, .int c1, .int c2, .int c3, .int c4, .int c5, .int c6, .int c7, .int c8, .int c9, .int c10, .int c11, .int c12, .int c13.toInt8.toInt32, .int (0 : Int32), .int (0 : Int32), .int (0 : Int32), .int (0 : Int32), .int (0 : Int32), .int (0 : Int32), .int (0 : Int32), .int (0 : Int32), .int (0 : Int32), .int (0 : Int32), .int (0 : Int32), .int (0 : Int32)]) :: G14)) (sl' := S14) rfl ?_
  rw [ok13.1]
  refine mmW_steps (k := 10) (n := 708) (pc' := 487) (L' := [.val (.int x0), .val (.int x1), .val (.int x2), .val (.long x3), .second, .val (.int fr), .val (.int a), .val (.int b), .val (.int (0 : Int32)), .val (.int jk), .val (.long nm), .second, .val (.int lm), .val (.int v), .val (.int t), .val (.int ((a + b) + (0 : Int32))), .val (.int e0), .unset, .unset, .unset, .unset, .unset, .unset, .unset, .unset, .unset, .unset, .unset, .unset]) (S' := [.long nm, .int jk, .int t, .int e0, .int (0 : Int32), .int a, .int fr, .int (14 : Int32), .int (14 : Int32), .ref 0, .ref 0]) (H' := (.inr (.byte, [.int c0, .int c1, .int c2, .int c3, .int c4, .int c5, .int c6, .int c7, .int c8, .int c9, .int c10, .int c11, .int c12, .int c13, .int (0 : Int32), .int (0 : Int32), .int (0 : Int32), .int (0 : Int32), .int (0 : Int32), .int (0 : Int32), .int (0 : Int32), .int (0 : Int32), .int (0 : Int32), .int (0 : Int32), .int (0 : Int32), .int (0 : Int32)]) :: G14)) (sl' := S14) rfl ?_
  obtain ⟨c14, K14, s14, hB, u14, d14, ok14⟩ := own_at0 (14 : Int32) fr a e0 t jk 14 FR A E0 JK rfl hfr ha he0 hjk (Nat.le_of_ble_eq_true rfl) gFR gA gE1 gE2 gJ ht nm NM hn hN (.inr (.byte, [.int c0, .int c1, .int c2, .int c3, .int c4, .int c5, .int c6, .int c7, .int c8, .int c9, .int c10, .int c11, .int c12, .int c13, .int (0 : Int32), .int (0 : Int32), .int (0 : Int32), .int (0 : Int32), .int (0 : Int32), .int (0 : Int32), .int (0 : Int32), .int (0 : Int32), .int (0 : Int32), .int (0 : Int32), .int (0 : Int32), .int (0 : Int32)]) :: G14)
  refine mmW_callS (n := 707) rfl rfl rfl (rfl) (Nat.le_of_ble_eq_true rfl) (hB) ?_
  show mmW K_0 I_0 (some .boolean) (707) 490 [.val (.int x0), .val (.int x1), .val (.int x2), .val (.long x3), .second, .val (.int fr), .val (.int a), .val (.int b), .val (.int (0 : Int32)), .val (.int jk), .val (.long nm), .second, .val (.int lm), .val (.int v), .val (.int t), .val (.int ((a + b) + (0 : Int32))), .val (.int e0), .unset, .unset, .unset, .unset, .unset, .unset, .unset, .unset, .unset, .unset, .unset, .unset] [.int c14, .int (14 : Int32), .ref 0, .ref 0] (.inr (.byte, [.int c0, .int c1, .int c2, .int c3, .int c4, .int c5, .int c6, .int c7, .int c8, .int c9, .int c10, .int c11, .int c12, .int c13, .int (0 : Int32), .int (0 : Int32), .int (0 : Int32), .int (0 : Int32), .int (0 : Int32), .int (0 : Int32), .int (0 : Int32), .int (0 : Int32), .int (0 : Int32), .int (0 : Int32), .int (0 : Int32), .int (0 : Int32)]) :: (G14 ++ K14)) (S14 + s14) _
  have gl15 : (G14 ++ K14).length ≤ 15 := by rw [List.length_append]; omega
  have sl15 : (S14 + s14) ≤ 311 := by omega
  clear hB
  generalize G14 ++ K14 = G15 at gl15 ⊢
  generalize (S14 + s14) = S15 at sl15 ⊢
  refine mmW_steps (k := 1) (n := 706) (pc' := 491) (L' := [.val (.int x0), .val (.int x1), .val (.int x2), .val (.long x3), .second, .val (.int fr), .val (.int a), .val (.int b), .val (.int (0 : Int32)), .val (.int jk), .val (.long nm), .second, .val (.int lm), .val (.int v), .val (.int t), .val (.int ((a + b) + (0 : Int32))), .val (.int e0), .unset, .unset, .unset, .unset, .unset, .unset, .unset, .unset, .unset, .unset, .unset, .unset]) (S' := [.ref 0]) (H' := (.inr (.byte, [.int c0, .int c1, .int c2, .int c3, .int c4, .int c5, .int c6, .int c7, .int c8, .int c9, .int c10, .int c11, .int c12, .int c13, .int c14.toInt8.toInt32, .int (0 : Int32), .int (0 : Int32), .int (0 : Int32), .int (0 : Int32), .int (0 : Int32), .int (0 : Int32), .int (0 : Int32), .int (0 : Int32), .int (0 : Int32), .int (0 : Int32), .int (0 : Int32)]) :: G15)) (sl' := S15) rfl ?_
  rw [ok14.1]
  refine mmW_steps (k := 10) (n := 696) (pc' := 510) (L' := [.val (.int x0), .val (.int x1), .val (.int x2), .val (.long x3), .second, .val (.int fr), .val (.int a), .val (.int b), .val (.int (0 : Int32)), .val (.int jk), .val (.long nm), .second, .val (.int lm), .val (.int v), .val (.int t), .val (.int ((a + b) + (0 : Int32))), .val (.int e0), .unset, .unset, .unset, .unset, .unset, .unset, .unset, .unset, .unset, .unset, .unset, .unset]) (S' := [.long nm, .int jk, .int t, .int e0, .int (0 : Int32), .int a, .int fr, .int (15 : Int32), .int (15 : Int32), .ref 0, .ref 0]) (H' := (.inr (.byte, [.int c0, .int c1, .int c2, .int c3, .int c4, .int c5, .int c6, .int c7, .int c8, .int c9, .int c10, .int c11, .int c12, .int c13, .int c14, .int (0 : Int32), .int (0 : Int32), .int (0 : Int32), .int (0 : Int32), .int (0 : Int32), .int (0 : Int32), .int (0 : Int32), .int (0 : Int32), .int (0 : Int32), .int (0 : Int32), .int (0 : Int32)]) :: G15)) (sl' := S15) rfl ?_
  obtain ⟨c15, K15, s15, hB, u15, d15, ok15⟩ := own_at0 (15 : Int32) fr a e0 t jk 15 FR A E0 JK rfl hfr ha he0 hjk (Nat.le_of_ble_eq_true rfl) gFR gA gE1 gE2 gJ ht nm NM hn hN (.inr (.byte, [.int c0, .int c1, .int c2, .int c3, .int c4, .int c5, .int c6, .int c7, .int c8, .int c9, .int c10, .int c11, .int c12, .int c13, .int c14, .int (0 : Int32), .int (0 : Int32), .int (0 : Int32), .int (0 : Int32), .int (0 : Int32), .int (0 : Int32), .int (0 : Int32), .int (0 : Int32), .int (0 : Int32), .int (0 : Int32), .int (0 : Int32)]) :: G15)
  refine mmW_callS (n := 695) rfl rfl rfl (rfl) (Nat.le_of_ble_eq_true rfl) (hB) ?_
  show mmW K_0 I_0 (some .boolean) (695) 513 [.val (.int x0), .val (.int x1), .val (.int x2), .val (.long x3), .second, .val (.int fr), .val (.int a), .val (.int b), .val (.int (0 : Int32)), .val (.int jk), .val (.long nm), .second, .val (.int lm), .val (.int v), .val (.int t), .val (.int ((a + b) + (0 : Int32))), .val (.int e0), .unset, .unset, .unset, .unset, .unset, .unset, .unset, .unset, .unset, .unset, .unset, .unset] [.int c15, .int (15 : Int32), .ref 0, .ref 0] (.inr (.byte, [.int c0, .int c1, .int c2, .int c3, .int c4, .int c5, .int c6, .int c7, .int c8, .int c9, .int c10, .int c11, .int c12, .int c13, .int c14, .int (0 : Int32), .int (0 : Int32), .int (0 : Int32), .int (0 : Int32), .int (0 : Int32), .int (0 : Int32), .int (0 : Int32), .int (0 : Int32), .int (0 : Int32), .int (0 : Int32), .int (0 : Int32)]) :: (G15 ++ K15)) (S15 + s15) _
  have gl16 : (G15 ++ K15).length ≤ 16 := by rw [List.length_append]; omega
  have sl16 : (S15 + s15) ≤ 330 := by omega
  clear hB
  generalize G15 ++ K15 = G16 at gl16 ⊢
  generalize (S15 + s15) = S16 at sl16 ⊢
  refine mmW_steps (k := 1) (n := 694) (pc' := 514) (L' := [.val (.int x0), .val (.int x1), .val (.int x2), .val (.long x3), .second, .val (.int fr), .val (.int a), .val (.int b), .val (.int (0 : Int32)), .val (.int jk), .val (.long nm), .second, .val (.int lm), .val (.int v), .val (.int t), .val (.int ((a + b) + (0 : Int32))), .val (.int e0), .unset, .unset, .unset, .unset, .unset, .unset, .unset, .unset, .unset, .unset, .unset, .unset]) (S' := [.ref 0]) (H' := (.inr (.byte, [.int c0, .int c1, .int c2, .int c3, .int c4, .int c5, .int c6, .int c7, .int c8, .int c9, .int c10, .int c11, .int c12, .int c13, .int c14, .int c15.toInt8.toInt32, .int (0 : Int32), .int (0 : Int32), .int (0 : Int32), .int (0 : Int32), .int (0 : Int32), .int (0 : Int32), .int (0 : Int32), .int (0 : Int32), .int (0 : Int32), .int (0 : Int32)]) :: G16)) (sl' := S16) rfl ?_
  rw [ok15.1]
  refine mmW_steps (k := 10) (n := 684) (pc' := 533) (L' := [.val (.int x0), .val (.int x1), .val (.int x2), .val (.long x3), .second, .val (.int fr), .val (.int a), .val (.int b), .val (.int (0 : Int32)), .val (.int jk), .val (.long nm), .second, .val (.int lm), .val (.int v), .val (.int t), .val (.int ((a + b) + (0 : Int32))), .val (.int e0), .unset, .unset, .unset, .unset, .unset, .unset, .unset, .unset, .unset, .unset, .unset, .unset]) (S' := [.long nm, .int jk, .int t, .int e0, .int (0 : Int32), .int a, .int fr, .int (16 : Int32), .int (16 : Int32), .ref 0, .ref 0]) (H' := (.inr (.byte, [.int c0, .int c1, .int c2, .int c3, .int c4, .int c5, .int c6, .int c7, .int c8, .int c9, .int c10, .int c11, .int c12, .int c13, .int c14, .int c15, .int (0 : Int32), .int (0 : Int32), .int (0 : Int32), .int (0 : Int32), .int (0 : Int32), .int (0 : Int32), .int (0 : Int32), .int (0 : Int32), .int (0 : Int32), .int (0 : Int32)]) :: G16)) (sl' := S16) rfl ?_
  obtain ⟨c16, K16, s16, hB, u16, d16, ok16⟩ := own_at0 (16 : Int32) fr a e0 t jk 16 FR A E0 JK rfl hfr ha he0 hjk (Nat.le_of_ble_eq_true rfl) gFR gA gE1 gE2 gJ ht nm NM hn hN (.inr (.byte, [.int c0, .int c1, .int c2, .int c3, .int c4, .int c5, .int c6, .int c7, .int c8, .int c9, .int c10, .int c11, .int c12, .int c13, .int c14, .int c15, .int (0 : Int32), .int (0 : Int32), .int (0 : Int32), .int (0 : Int32), .int (0 : Int32), .int (0 : Int32), .int (0 : Int32), .int (0 : Int32), .int (0 : Int32), .int (0 : Int32)]) :: G16)
  refine mmW_callS (n := 683) rfl rfl rfl (rfl) (Nat.le_of_ble_eq_true rfl) (hB) ?_
  show mmW K_0 I_0 (some .boolean) (683) 536 [.val (.int x0), .val (.int x1), .val (.int x2), .val (.long x3), .second, .val (.int fr), .val (.int a), .val (.int b), .val (.int (0 : Int32)), .val (.int jk), .val (.long nm), .second, .val (.int lm), .val (.int v), .val (.int t), .val (.int ((a + b) + (0 : Int32))), .val (.int e0), .unset, .unset, .unset, .unset, .unset, .unset, .unset, .unset, .unset, .unset, .unset, .unset] [.int c16, .int (16 : Int32), .ref 0, .ref 0] (.inr (.byte, [.int c0, .int c1, .int c2, .int c3, .int c4, .int c5, .int c6, .int c7, .int c8, .int c9, .int c10, .int c11, .int c12, .int c13, .int c14, .int c15, .int (0 : Int32), .int (0 : Int32), .int (0 : Int32), .int (0 : Int32), .int (0 : Int32), .int (0 : Int32), .int (0 : Int32), .int (0 : Int32), .int (0 : Int32), .int (0 : Int32)]) :: (G16 ++ K16)) (S16 + s16) _
  have gl17 : (G16 ++ K16).length ≤ 17 := by rw [List.length_append]; omega
  have sl17 : (S16 + s16) ≤ 349 := by omega
  clear hB
  generalize G16 ++ K16 = G17 at gl17 ⊢
  generalize (S16 + s16) = S17 at sl17 ⊢
  refine mmW_steps (k := 1) (n := 682) (pc' := 537) (L' := [.val (.int x0), .val (.int x1), .val (.int x2), .val (.long x3), .second, .val (.int fr), .val (.int a), .val (.int b), .val (.int (0 : Int32)), .val (.int jk), .val (.long nm), .second, .val (.int lm), .val (.int v), .val (.int t), .val (.int ((a + b) + (0 : Int32))), .val (.int e0), .unset, .unset, .unset, .unset, .unset, .unset, .unset, .unset, .unset, .unset, .unset, .unset]) (S' := [.ref 0]) (H' := (.inr (.byte, [.int c0, .int c1, .int c2, .int c3, .int c4, .int c5, .int c6, .int c7, .int c8, .int c9, .int c10, .int c11, .int c12, .int c13, .int c14, .int c15, .int c16.toInt8.toInt32, .int (0 : Int32), .int (0 : Int32), .int (0 : Int32), .int (0 : Int32), .int (0 : Int32), .int (0 : Int32), .int (0 : Int32), .int (0 : Int32), .int (0 : Int32)]) :: G17)) (sl' := S17) rfl ?_
  rw [ok16.1]
  refine mmW_steps (k := 10) (n := 672) (pc' := 556) (L' := [.val (.int x0), .val (.int x1), .val (.int x2), .val (.long x3), .second, .val (.int fr), .val (.int a), .val (.int b), .val (.int (0 : Int32)), .val (.int jk), .val (.long nm), .second, .val (.int lm), .val (.int v), .val (.int t), .val (.int ((a + b) + (0 : Int32))), .val (.int e0), .unset, .unset, .unset, .unset, .unset, .unset, .unset, .unset, .unset, .unset, .unset, .unset]) (S' := [.long nm, .int jk, .int t, .int e0, .int (0 : Int32), .int a, .int fr, .int (17 : Int32), .int (17 : Int32), .ref 0, .ref 0]) (H' := (.inr (.byte, [.int c0, .int c1, .int c2, .int c3, .int c4, .int c5, .int c6, .int c7, .int c8, .int c9, .int c10, .int c11, .int c12, .int c13, .int c14, .int c15, .int c16, .int (0 : Int32), .int (0 : Int32), .int (0 : Int32), .int (0 : Int32), .int (0 : Int32), .int (0 : Int32), .int (0 : Int32), .int (0 : Int32), .int (0 : Int32)]) :: G17)) (sl' := S17) rfl ?_
  obtain ⟨c17, K17, s17, hB, u17, d17, ok17⟩ := own_at0 (17 : Int32) fr a e0 t jk 17 FR A E0 JK rfl hfr ha he0 hjk (Nat.le_of_ble_eq_true rfl) gFR gA gE1 gE2 gJ ht nm NM hn hN (.inr (.byte, [.int c0, .int c1, .int c2, .int c3, .int c4, .int c5, .int c6, .int c7, .int c8, .int c9, .int c10, .int c11, .int c12, .int c13, .int c14, .int c15, .int c16, .int (0 : Int32), .int (0 : Int32), .int (0 : Int32), .int (0 : Int32), .int (0 : Int32), .int (0 : Int32), .int (0 : Int32), .int (0 : Int32), .int (0 : Int32)]) :: G17)
  refine mmW_callS (n := 671) rfl rfl rfl (rfl) (Nat.le_of_ble_eq_true rfl) (hB) ?_
  show mmW K_0 I_0 (some .boolean) (671) 559 [.val (.int x0), .val (.int x1), .val (.int x2), .val (.long x3), .second, .val (.int fr), .val (.int a), .val (.int b), .val (.int (0 : Int32)), .val (.int jk), .val (.long nm), .second, .val (.int lm), .val (.int v), .val (.int t), .val (.int ((a + b) + (0 : Int32))), .val (.int e0), .unset, .unset, .unset, .unset, .unset, .unset, .unset, .unset, .unset, .unset, .unset, .unset] [.int c17, .int (17 : Int32), .ref 0, .ref 0] (.inr (.byte, [.int c0, .int c1, .int c2, .int c3, .int c4, .int c5, .int c6, .int c7, .int c8, .int c9, .int c10, .int c11, .int c12, .int c13, .int c14, .int c15, .int c16, .int (0 : Int32), .int (0 : Int32), .int (0 : Int32), .int (0 : Int32), .int (0 : Int32), .int (0 : Int32), .int (0 : Int32), .int (0 : Int32), .int (0 : Int32)]) :: (G17 ++ K17)) (S17 + s17) _
  have gl18 : (G17 ++ K17).length ≤ 18 := by rw [List.length_append]; omega
  have sl18 : (S17 + s17) ≤ 368 := by omega
  clear hB
  generalize G17 ++ K17 = G18 at gl18 ⊢
  generalize (S17 + s17) = S18 at sl18 ⊢
  refine mmW_steps (k := 1) (n := 670) (pc' := 560) (L' := [.val (.int x0), .val (.int x1), .val (.int x2), .val (.long x3), .second, .val (.int fr), .val (.int a), .val (.int b), .val (.int (0 : Int32)), .val (.int jk), .val (.long nm), .second, .val (.int lm), .val (.int v), .val (.int t), .val (.int ((a + b) + (0 : Int32))), .val (.int e0), .unset, .unset, .unset, .unset, .unset, .unset, .unset, .unset, .unset, .unset, .unset, .unset]) (S' := [.ref 0]) (H' := (.inr (.byte, [.int c0, .int c1, .int c2, .int c3, .int c4, .int c5, .int c6, .int c7, .int c8, .int c9, .int c10, .int c11, .int c12, .int c13, .int c14, .int c15, .int c16, .int c17.toInt8.toInt32, .int (0 : Int32), .int (0 : Int32), .int (0 : Int32), .int (0 : Int32), .int (0 : Int32), .int (0 : Int32), .int (0 : Int32), .int (0 : Int32)]) :: G18)) (sl' := S18) rfl ?_
  rw [ok17.1]
  refine mmW_steps (k := 10) (n := 660) (pc' := 579) (L' := [.val (.int x0), .val (.int x1), .val (.int x2), .val (.long x3), .second, .val (.int fr), .val (.int a), .val (.int b), .val (.int (0 : Int32)), .val (.int jk), .val (.long nm), .second, .val (.int lm), .val (.int v), .val (.int t), .val (.int ((a + b) + (0 : Int32))), .val (.int e0), .unset, .unset, .unset, .unset, .unset, .unset, .unset, .unset, .unset, .unset, .unset, .unset]) (S' := [.long nm, .int jk, .int t, .int e0, .int (0 : Int32), .int a, .int fr, .int (18 : Int32), .int (18 : Int32), .ref 0, .ref 0]) (H' := (.inr (.byte, [.int c0, .int c1, .int c2, .int c3, .int c4, .int c5, .int c6, .int c7, .int c8, .int c9, .int c10, .int c11, .int c12, .int c13, .int c14, .int c15, .int c16, .int c17, .int (0 : Int32), .int (0 : Int32), .int (0 : Int32), .int (0 : Int32), .int (0 : Int32), .int (0 : Int32), .int (0 : Int32), .int (0 : Int32)]) :: G18)) (sl' := S18) rfl ?_
  obtain ⟨c18, K18, s18, hB, u18, d18, ok18⟩ := own_at0 (18 : Int32) fr a e0 t jk 18 FR A E0 JK rfl hfr ha he0 hjk (Nat.le_of_ble_eq_true rfl) gFR gA gE1 gE2 gJ ht nm NM hn hN (.inr (.byte, [.int c0, .int c1, .int c2, .int c3, .int c4, .int c5, .int c6, .int c7, .int c8, .int c9, .int c10, .int c11, .int c12, .int c13, .int c14, .int c15, .int c16, .int c17, .int (0 : Int32), .int (0 : Int32), .int (0 : Int32), .int (0 : Int32), .int (0 : Int32), .int (0 : Int32), .int (0 : Int32), .int (0 : Int32)]) :: G18)
  refine mmW_callS (n := 659) rfl rfl rfl (rfl) (Nat.le_of_ble_eq_true rfl) (hB) ?_
  show mmW K_0 I_0 (some .boolean) (659) 582 [.val (.int x0), .val (.int x1), .val (.int x2), .val (.long x3), .second, .val (.int fr), .val (.int a), .val (.int b), .val (.int (0 : Int32)), .val (.int jk), .val (.long nm), .second, .val (.int lm), .val (.int v), .val (.int t), .val (.int ((a + b) + (0 : Int32))), .val (.int e0), .unset, .unset, .unset, .unset, .unset, .unset, .unset, .unset, .unset, .unset, .unset, .unset] [.int c18, .int (18 : Int32), .ref 0, .ref 0] (.inr (.byte, [.int c0, .int c1, .int c2, .int c3, .int c4, .int c5, .int c6, .int c7, .int c8, .int c9, .int c10, .int c11, .int c12, .int c13, .int c14, .int c15, .int c16, .int c17, .int (0 : Int32), .int (0 : Int32), .int (0 : Int32), .int (0 : Int32), .int (0 : Int32), .int (0 : Int32), .int (0 : Int32), .int (0 : Int32)]) :: (G18 ++ K18)) (S18 + s18) _
  have gl19 : (G18 ++ K18).length ≤ 19 := by rw [List.length_append]; omega
  have sl19 : (S18 + s18) ≤ 387 := by omega
  clear hB
  generalize G18 ++ K18 = G19 at gl19 ⊢
  generalize (S18 + s18) = S19 at sl19 ⊢
  refine mmW_steps (k := 1) (n := 658) (pc' := 583) (L' := [.val (.int x0), .val (.int x1), .val (.int x2), .val (.long x3), .second, .val (.int fr), .val (.int a), .val (.int b), .val (.int (0 : Int32)), .val (.int jk), .val (.long nm), .second, .val (.int lm), .val (.int v), .val (.int t), .val (.int ((a + b) + (0 : Int32))), .val (.int e0), .unset, .unset, .unset, .unset, .unset, .unset, .unset, .unset, .unset, .unset, .unset, .unset]) (S' := [.ref 0]) (H' := (.inr (.byte, [.int c0, .int c1, .int c2, .int c3, .int c4, .int c5, .int c6, .int c7, .int c8, .int c9, .int c10, .int c11, .int c12, .int c13, .int c14, .int c15, .int c16, .int c17, .int c18.toInt8.toInt32, .int (0 : Int32), .int (0 : Int32), .int (0 : Int32), .int (0 : Int32), .int (0 : Int32), .int (0 : Int32), .int (0 : Int32)]) :: G19)) (sl' := S19) rfl ?_
  rw [ok18.1]
  refine mmW_steps (k := 10) (n := 648) (pc' := 602) (L' := [.val (.int x0), .val (.int x1), .val (.int x2), .val (.long x3), .second, .val (.int fr), .val (.int a), .val (.int b), .val (.int (0 : Int32)), .val (.int jk), .val (.long nm), .second, .val (.int lm), .val (.int v), .val (.int t), .val (.int ((a + b) + (0 : Int32))), .val (.int e0), .unset, .unset, .unset, .unset, .unset, .unset, .unset, .unset, .unset, .unset, .unset, .unset]) (S' := [.long nm, .int jk, .int t, .int e0, .int (0 : Int32), .int a, .int fr, .int (19 : Int32), .int (19 : Int32), .ref 0, .ref 0]) (H' := (.inr (.byte, [.int c0, .int c1, .int c2, .int c3, .int c4, .int c5, .int c6, .int c7, .int c8, .int c9, .int c10, .int c11, .int c12, .int c13, .int c14, .int c15, .int c16, .int c17, .int c18, .int (0 : Int32), .int (0 : Int32), .int (0 : Int32), .int (0 : Int32), .int (0 : Int32), .int (0 : Int32), .int (0 : Int32)]) :: G19)) (sl' := S19) rfl ?_
  obtain ⟨c19, K19, s19, hB, u19, d19, ok19⟩ := own_at0 (19 : Int32) fr a e0 t jk 19 FR A E0 JK rfl hfr ha he0 hjk (Nat.le_of_ble_eq_true rfl) gFR gA gE1 gE2 gJ ht nm NM hn hN (.inr (.byte, [.int c0, .int c1, .int c2, .int c3, .int c4, .int c5, .int c6, .int c7, .int c8, .int c9, .int c10, .int c11, .int c12, .int c13, .int c14, .int c15, .int c16, .int c17, .int c18, .int (0 : Int32), .int (0 : Int32), .int (0 : Int32), .int (0 : Int32), .int (0 : Int32), .int (0 : Int32), .int (0 : Int32)]) :: G19)
  refine mmW_callS (n := 647) rfl rfl rfl (rfl) (Nat.le_of_ble_eq_true rfl) (hB) ?_
  show mmW K_0 I_0 (some .boolean) (647) 605 [.val (.int x0), .val (.int x1), .val (.int x2), .val (.long x3), .second, .val (.int fr), .val (.int a), .val (.int b), .val (.int (0 : Int32)), .val (.int jk), .val (.long nm), .second, .val (.int lm), .val (.int v), .val (.int t), .val (.int ((a + b) + (0 : Int32))), .val (.int e0), .unset, .unset, .unset, .unset, .unset, .unset, .unset, .unset, .unset, .unset, .unset, .unset] [.int c19, .int (19 : Int32), .ref 0, .ref 0] (.inr (.byte, [.int c0, .int c1, .int c2, .int c3, .int c4, .int c5, .int c6, .int c7, .int c8, .int c9, .int c10, .int c11, .int c12, .int c13, .int c14, .int c15, .int c16, .int c17, .int c18, .int (0 : Int32), .int (0 : Int32), .int (0 : Int32), .int (0 : Int32), .int (0 : Int32), .int (0 : Int32), .int (0 : Int32)]) :: (G19 ++ K19)) (S19 + s19) _
  have gl20 : (G19 ++ K19).length ≤ 20 := by rw [List.length_append]; omega
  have sl20 : (S19 + s19) ≤ 406 := by omega
  clear hB
  generalize G19 ++ K19 = G20 at gl20 ⊢
  generalize (S19 + s19) = S20 at sl20 ⊢
  refine mmW_steps (k := 1) (n := 646) (pc' := 606) (L' := [.val (.int x0), .val (.int x1), .val (.int x2), .val (.long x3), .second, .val (.int fr), .val (.int a), .val (.int b), .val (.int (0 : Int32)), .val (.int jk), .val (.long nm), .second, .val (.int lm), .val (.int v), .val (.int t), .val (.int ((a + b) + (0 : Int32))), .val (.int e0), .unset, .unset, .unset, .unset, .unset, .unset, .unset, .unset, .unset, .unset, .unset, .unset]) (S' := [.ref 0]) (H' := (.inr (.byte, [.int c0, .int c1, .int c2, .int c3, .int c4, .int c5, .int c6, .int c7, .int c8, .int c9, .int c10, .int c11, .int c12, .int c13, .int c14, .int c15, .int c16, .int c17, .int c18, .int c19.toInt8.toInt32, .int (0 : Int32), .int (0 : Int32), .int (0 : Int32), .int (0 : Int32), .int (0 : Int32), .int (0 : Int32)]) :: G20)) (sl' := S20) rfl ?_
  rw [ok19.1]
  refine mmW_steps (k := 10) (n := 636) (pc' := 625) (L' := [.val (.int x0), .val (.int x1), .val (.int x2), .val (.long x3), .second, .val (.int fr), .val (.int a), .val (.int b), .val (.int (0 : Int32)), .val (.int jk), .val (.long nm), .second, .val (.int lm), .val (.int v), .val (.int t), .val (.int ((a + b) + (0 : Int32))), .val (.int e0), .unset, .unset, .unset, .unset, .unset, .unset, .unset, .unset, .unset, .unset, .unset, .unset]) (S' := [.long nm, .int jk, .int t, .int e0, .int (0 : Int32), .int a, .int fr, .int (20 : Int32), .int (20 : Int32), .ref 0, .ref 0]) (H' := (.inr (.byte, [.int c0, .int c1, .int c2, .int c3, .int c4, .int c5, .int c6, .int c7, .int c8, .int c9, .int c10, .int c11, .int c12, .int c13, .int c14, .int c15, .int c16, .int c17, .int c18, .int c19, .int (0 : Int32), .int (0 : Int32), .int (0 : Int32), .int (0 : Int32), .int (0 : Int32), .int (0 : Int32)]) :: G20)) (sl' := S20) rfl ?_
  obtain ⟨c20, K20, s20, hB, u20, d20, ok20⟩ := own_at0 (20 : Int32) fr a e0 t jk 20 FR A E0 JK rfl hfr ha he0 hjk (Nat.le_of_ble_eq_true rfl) gFR gA gE1 gE2 gJ ht nm NM hn hN (.inr (.byte, [.int c0, .int c1, .int c2, .int c3, .int c4, .int c5, .int c6, .int c7, .int c8, .int c9, .int c10, .int c11, .int c12, .int c13, .int c14, .int c15, .int c16, .int c17, .int c18, .int c19, .int (0 : Int32), .int (0 : Int32), .int (0 : Int32), .int (0 : Int32), .int (0 : Int32), .int (0 : Int32)]) :: G20)
  refine mmW_callS (n := 635) rfl rfl rfl (rfl) (Nat.le_of_ble_eq_true rfl) (hB) ?_
  show mmW K_0 I_0 (some .boolean) (635) 628 [.val (.int x0), .val (.int x1), .val (.int x2), .val (.long x3), .second, .val (.int fr), .val (.int a), .val (.int b), .val (.int (0 : Int32)), .val (.int jk), .val (.long nm), .second, .val (.int lm), .val (.int v), .val (.int t), .val (.int ((a + b) + (0 : Int32))), .val (.int e0), .unset, .unset, .unset, .unset, .unset, .unset, .unset, .unset, .unset, .unset, .unset, .unset] [.int c20, .int (20 : Int32), .ref 0, .ref 0] (.inr (.byte, [.int c0, .int c1, .int c2, .int c3, .int c4, .int c5, .int c6, .int c7, .int c8, .int c9, .int c10, .int c11, .int c12, .int c13, .int c14, .int c15, .int c16, .int c17, .int c18, .int c19, .int (0 : Int32), .int (0 : Int32), .int (0 : Int32), .int (0 : Int32), .int (0 : Int32), .int (0 : Int32)]) :: (G20 ++ K20)) (S20 + s20) _
  have gl21 : (G20 ++ K20).length ≤ 21 := by rw [List.length_append]; omega
  have sl21 : (S20 + s20) ≤ 425 := by omega
  clear hB
  generalize G20 ++ K20 = G21 at gl21 ⊢
  generalize (S20 + s20) = S21 at sl21 ⊢
  refine mmW_steps (k := 1) (n := 634) (pc' := 629) (L' := [.val (.int x0), .val (.int x1), .val (.int x2), .val (.long x3), .second, .val (.int fr), .val (.int a), .val (.int b), .val (.int (0 : Int32)), .val (.int jk), .val (.long nm), .second, .val (.int lm), .val (.int v), .val (.int t), .val (.int ((a + b) + (0 : Int32))), .val (.int e0), .unset, .unset, .unset, .unset, .unset, .unset, .unset, .unset, .unset, .unset, .unset, .unset]) (S' := [.ref 0]) (H' := (.inr (.byte, [.int c0, .int c1, .int c2, .int c3, .int c4, .int c5, .int c6, .int c7, .int c8, .int c9, .int c10, .int c11, .int c12, .int c13, .int c14, .int c15, .int c16, .int c17, .int c18, .int c19, .int c20.toInt8.toInt32, .int (0 : Int32), .int (0 : Int32), .int (0 : Int32), .int (0 : Int32), .int (0 : Int32)]) :: G21)) (sl' := S21) rfl ?_
  rw [ok20.1]
  refine mmW_steps (k := 10) (n := 624) (pc' := 648) (L' := [.val (.int x0), .val (.int x1), .val (.int x2), .val (.long x3), .second, .val (.int fr), .val (.int a), .val (.int b), .val (.int (0 : Int32)), .val (.int jk), .val (.long nm), .second, .val (.int lm), .val (.int v), .val (.int t), .val (.int ((a + b) + (0 : Int32))), .val (.int e0), .unset, .unset, .unset, .unset, .unset, .unset, .unset, .unset, .unset, .unset, .unset, .unset]) (S' := [.long nm, .int jk, .int t, .int e0, .int (0 : Int32), .int a, .int fr, .int (21 : Int32), .int (21 : Int32), .ref 0, .ref 0]) (H' := (.inr (.byte, [.int c0, .int c1, .int c2, .int c3, .int c4, .int c5, .int c6, .int c7, .int c8, .int c9, .int c10, .int c11, .int c12, .int c13, .int c14, .int c15, .int c16, .int c17, .int c18, .int c19, .int c20, .int (0 : Int32), .int (0 : Int32), .int (0 : Int32), .int (0 : Int32), .int (0 : Int32)]) :: G21)) (sl' := S21) rfl ?_
  obtain ⟨c21, K21, s21, hB, u21, d21, ok21⟩ := own_at0 (21 : Int32) fr a e0 t jk 21 FR A E0 JK rfl hfr ha he0 hjk (Nat.le_of_ble_eq_true rfl) gFR gA gE1 gE2 gJ ht nm NM hn hN (.inr (.byte, [.int c0, .int c1, .int c2, .int c3, .int c4, .int c5, .int c6, .int c7, .int c8, .int c9, .int c10, .int c11, .int c12, .int c13, .int c14, .int c15, .int c16, .int c17, .int c18, .int c19, .int c20, .int (0 : Int32), .int (0 : Int32), .int (0 : Int32), .int (0 : Int32), .int (0 : Int32)]) :: G21)
  refine mmW_callS (n := 623) rfl rfl rfl (rfl) (Nat.le_of_ble_eq_true rfl) (hB) ?_
  show mmW K_0 I_0 (some .boolean) (623) 651 [.val (.int x0), .val (.int x1), .val (.int x2), .val (.long x3), .second, .val (.int fr), .val (.int a), .val (.int b), .val (.int (0 : Int32)), .val (.int jk), .val (.long nm), .second, .val (.int lm), .val (.int v), .val (.int t), .val (.int ((a + b) + (0 : Int32))), .val (.int e0), .unset, .unset, .unset, .unset, .unset, .unset, .unset, .unset, .unset, .unset, .unset, .unset] [.int c21, .int (21 : Int32), .ref 0, .ref 0] (.inr (.byte, [.int c0, .int c1, .int c2, .int c3, .int c4, .int c5, .int c6, .int c7, .int c8, .int c9, .int c10, .int c11, .int c12, .int c13, .int c14, .int c15, .int c16, .int c17, .int c18, .int c19, .int c20, .int (0 : Int32), .int (0 : Int32), .int (0 : Int32), .int (0 : Int32), .int (0 : Int32)]) :: (G21 ++ K21)) (S21 + s21) _
  have gl22 : (G21 ++ K21).length ≤ 22 := by rw [List.length_append]; omega
  have sl22 : (S21 + s21) ≤ 444 := by omega
  clear hB
  generalize G21 ++ K21 = G22 at gl22 ⊢
  generalize (S21 + s21) = S22 at sl22 ⊢
  refine mmW_steps (k := 1) (n := 622) (pc' := 652) (L' := [.val (.int x0), .val (.int x1), .val (.int x2), .val (.long x3), .second, .val (.int fr), .val (.int a), .val (.int b), .val (.int (0 : Int32)), .val (.int jk), .val (.long nm), .second, .val (.int lm), .val (.int v), .val (.int t), .val (.int ((a + b) + (0 : Int32))), .val (.int e0), .unset, .unset, .unset, .unset, .unset, .unset, .unset, .unset, .unset, .unset, .unset, .unset]) (S' := [.ref 0]) (H' := (.inr (.byte, [.int c0, .int c1, .int c2, .int c3, .int c4, .int c5, .int c6, .int c7, .int c8, .int c9, .int c10, .int c11, .int c12, .int c13, .int c14, .int c15, .int c16, .int c17, .int c18, .int c19, .int c20, .int c21.toInt8.toInt32, .int (0 : Int32), .int (0 : Int32), .int (0 : Int32), .int (0 : Int32)]) :: G22)) (sl' := S22) rfl ?_
  rw [ok21.1]
  refine mmW_steps (k := 10) (n := 612) (pc' := 671) (L' := [.val (.int x0), .val (.int x1), .val (.int x2), .val (.long x3), .second, .val (.int fr), .val (.int a), .val (.int b), .val (.int (0 : Int32)), .val (.int jk), .val (.long nm), .second, .val (.int lm), .val (.int v), .val (.int t), .val (.int ((a + b) + (0 : Int32))), .val (.int e0), .unset, .unset, .unset, .unset, .unset, .unset, .unset, .unset, .unset, .unset, .unset, .unset]) (S' := [.long nm, .int jk, .int t, .int e0, .int (0 : Int32), .int a, .int fr, .int (22 : Int32), .int (22 : Int32), .ref 0, .ref 0]) (H' := (.inr (.byte, [.int c0, .int c1, .int c2, .int c3, .int c4, .int c5, .int c6, .int c7, .int c8, .int c9, .int c10, .int c11, .int c12, .int c13, .int c14, .int c15, .int c16, .int c17, .int c18, .int c19, .int c20, .int c21, .int (0 : Int32), .int (0 : Int32), .int (0 : Int32), .int (0 : Int32)]) :: G22)) (sl' := S22) rfl ?_
  obtain ⟨c22, K22, s22, hB, u22, d22, ok22⟩ := own_at0 (22 : Int32) fr a e0 t jk 22 FR A E0 JK rfl hfr ha he0 hjk (Nat.le_of_ble_eq_true rfl) gFR gA gE1 gE2 gJ ht nm NM hn hN (.inr (.byte, [.int c0, .int c1, .int c2, .int c3, .int c4, .int c5, .int c6, .int c7, .int c8, .int c9, .int c10, .int c11, .int c12, .int c13, .int c14, .int c15, .int c16, .int c17, .int c18, .int c19, .int c20, .int c21, .int (0 : Int32), .int (0 : Int32), .int (0 : Int32), .int (0 : Int32)]) :: G22)
  refine mmW_callS (n := 611) rfl rfl rfl (rfl) (Nat.le_of_ble_eq_true rfl) (hB) ?_
  show mmW K_0 I_0 (some .boolean) (611) 674 [.val (.int x0), .val (.int x1), .val (.int x2), .val (.long x3), .second, .val (.int fr), .val (.int a), .val (.int b), .val (.int (0 : Int32)), .val (.int jk), .val (.long nm), .second, .val (.int lm), .val (.int v), .val (.int t), .val (.int ((a + b) + (0 : Int32))), .val (.int e0), .unset, .unset, .unset, .unset, .unset, .unset, .unset, .unset, .unset, .unset, .unset, .unset] [.int c22, .int (22 : Int32), .ref 0, .ref 0] (.inr (.byte, [.int c0, .int c1, .int c2, .int c3, .int c4, .int c5, .int c6, .int c7, .int c8, .int c9, .int c10, .int c11, .int c12, .int c13, .int c14, .int c15, .int c16, .int c17, .int c18, .int c19, .int c20, .int c21, .int (0 : Int32), .int (0 : Int32), .int (0 : Int32), .int (0 : Int32)]) :: (G22 ++ K22)) (S22 + s22) _
  have gl23 : (G22 ++ K22).length ≤ 23 := by rw [List.length_append]; omega
  have sl23 : (S22 + s22) ≤ 463 := by omega
  clear hB
  generalize G22 ++ K22 = G23 at gl23 ⊢
  generalize (S22 + s22) = S23 at sl23 ⊢
  refine mmW_steps (k := 1) (n := 610) (pc' := 675) (L' := [.val (.int x0), .val (.int x1), .val (.int x2), .val (.long x3), .second, .val (.int fr), .val (.int a), .val (.int b), .val (.int (0 : Int32)), .val (.int jk), .val (.long nm), .second, .val (.int lm), .val (.int v), .val (.int t), .val (.int ((a + b) + (0 : Int32))), .val (.int e0), .unset, .unset, .unset, .unset, .unset, .unset, .unset, .unset, .unset, .unset, .unset, .unset]) (S' := [.ref 0]) (H' := (.inr (.byte, [.int c0, .int c1, .int c2, .int c3, .int c4, .int c5, .int c6, .int c7, .int c8, .int c9, .int c10, .int c11, .int c12, .int c13, .int c14, .int c15, .int c16, .int c17, .int c18, .int c19, .int c20, .int c21, .int c22.toInt8.toInt32, .int (0 : Int32), .int (0 : Int32), .int (0 : Int32)]) :: G23)) (sl' := S23) rfl ?_
  rw [ok22.1]
  refine mmW_steps (k := 10) (n := 600) (pc' := 694) (L' := [.val (.int x0), .val (.int x1), .val (.int x2), .val (.long x3), .second, .val (.int fr), .val (.int a), .val (.int b), .val (.int (0 : Int32)), .val (.int jk), .val (.long nm), .second, .val (.int lm), .val (.int v), .val (.int t), .val (.int ((a + b) + (0 : Int32))), .val (.int e0), .unset, .unset, .unset, .unset, .unset, .unset, .unset, .unset, .unset, .unset, .unset, .unset]) (S' := [.long nm, .int jk, .int t, .int e0, .int (0 : Int32), .int a, .int fr, .int (23 : Int32), .int (23 : Int32), .ref 0, .ref 0]) (H' := (.inr (.byte, [.int c0, .int c1, .int c2, .int c3, .int c4, .int c5, .int c6, .int c7, .int c8, .int c9, .int c10, .int c11, .int c12, .int c13, .int c14, .int c15, .int c16, .int c17, .int c18, .int c19, .int c20, .int c21, .int c22, .int (0 : Int32), .int (0 : Int32), .int (0 : Int32)]) :: G23)) (sl' := S23) rfl ?_
  obtain ⟨c23, K23, s23, hB, u23, d23, ok23⟩ := own_at0 (23 : Int32) fr a e0 t jk 23 FR A E0 JK rfl hfr ha he0 hjk (Nat.le_of_ble_eq_true rfl) gFR gA gE1 gE2 gJ ht nm NM hn hN (.inr (.byte, [.int c0, .int c1, .int c2, .int c3, .int c4, .int c5, .int c6, .int c7, .int c8, .int c9, .int c10, .int c11, .int c12, .int c13, .int c14, .int c15, .int c16, .int c17, .int c18, .int c19, .int c20, .int c21, .int c22, .int (0 : Int32), .int (0 : Int32), .int (0 : Int32)]) :: G23)
  refine mmW_callS (n := 599) rfl rfl rfl (rfl) (Nat.le_of_ble_eq_true rfl) (hB) ?_
  show mmW K_0 I_0 (some .boolean) (599) 697 [.val (.int x0), .val (.int x1), .val (.int x2), .val (.long x3), .second, .val (.int fr), .val (.int a), .val (.int b), .val (.int (0 : Int32)), .val (.int jk), .val (.long nm), .second, .val (.int lm), .val (.int v), .val (.int t), .val (.int ((a + b) + (0 : Int32))), .val (.int e0), .unset, .unset, .unset, .unset, .unset, .unset, .unset, .unset, .unset, .unset, .unset, .unset] [.int c23, .int (23 : Int32), .ref 0, .ref 0] (.inr (.byte, [.int c0, .int c1, .int c2, .int c3, .int c4, .int c5, .int c6, .int c7, .int c8, .int c9, .int c10, .int c11, .int c12, .int c13, .int c14, .int c15, .int c16, .int c17, .int c18, .int c19, .int c20, .int c21, .int c22, .int (0 : Int32), .int (0 : Int32), .int (0 : Int32)]) :: (G23 ++ K23)) (S23 + s23) _
  have gl24 : (G23 ++ K23).length ≤ 24 := by rw [List.length_append]; omega
  have sl24 : (S23 + s23) ≤ 482 := by omega
  clear hB
  generalize G23 ++ K23 = G24 at gl24 ⊢
  generalize (S23 + s23) = S24 at sl24 ⊢
  refine mmW_steps (k := 1) (n := 598) (pc' := 698) (L' := [.val (.int x0), .val (.int x1), .val (.int x2), .val (.long x3), .second, .val (.int fr), .val (.int a), .val (.int b), .val (.int (0 : Int32)), .val (.int jk), .val (.long nm), .second, .val (.int lm), .val (.int v), .val (.int t), .val (.int ((a + b) + (0 : Int32))), .val (.int e0), .unset, .unset, .unset, .unset, .unset, .unset, .unset, .unset, .unset, .unset, .unset, .unset]) (S' := [.ref 0]) (H' := (.inr (.byte, [.int c0, .int c1, .int c2, .int c3, .int c4, .int c5, .int c6, .int c7, .int c8, .int c9, .int c10, .int c11, .int c12, .int c13, .int c14, .int c15, .int c16, .int c17, .int c18, .int c19, .int c20, .int c21, .int c22, .int c23.toInt8.toInt32, .int (0 : Int32), .int (0 : Int32)]) :: G24)) (sl' := S24) rfl ?_
  rw [ok23.1]
  refine mmW_steps (k := 10) (n := 588) (pc' := 717) (L' := [.val (.int x0), .val (.int x1), .val (.int x2), .val (.long x3), .second, .val (.int fr), .val (.int a), .val (.int b), .val (.int (0 : Int32)), .val (.int jk), .val (.long nm), .second, .val (.int lm), .val (.int v), .val (.int t), .val (.int ((a + b) + (0 : Int32))), .val (.int e0), .unset, .unset, .unset, .unset, .unset, .unset, .unset, .unset, .unset, .unset, .unset, .unset]) (S' := [.long nm, .int jk, .int t, .int e0, .int (0 : Int32), .int a, .int fr, .int (24 : Int32), .int (24 : Int32), .ref 0, .ref 0]) (H' := (.inr (.byte, [.int c0, .int c1, .int c2, .int c3, .int c4, .int c5, .int c6, .int c7, .int c8, .int c9, .int c10, .int c11, .int c12, .int c13, .int c14, .int c15, .int c16, .int c17, .int c18, .int c19, .int c20, .int c21, .int c22, .int c23, .int (0 : Int32), .int (0 : Int32)]) :: G24)) (sl' := S24) rfl ?_
  obtain ⟨c24, K24, s24, hB, u24, d24, ok24⟩ := own_at0 (24 : Int32) fr a e0 t jk 24 FR A E0 JK rfl hfr ha he0 hjk (Nat.le_of_ble_eq_true rfl) gFR gA gE1 gE2 gJ ht nm NM hn hN (.inr (.byte, [.int c0, .int c1, .int c2, .int c3, .int c4, .int c5, .int c6, .int c7, .int c8, .int c9, .int c10, .int c11, .int c12, .int c13, .int c14, .int c15, .int c16, .int c17, .int c18, .int c19, .int c20, .int c21, .int c22, .int c23, .int (0 : Int32), .int (0 : Int32)]) :: G24)
  refine mmW_callS (n := 587) rfl rfl rfl (rfl) (Nat.le_of_ble_eq_true rfl) (hB) ?_
  show mmW K_0 I_0 (some .boolean) (587) 720 [.val (.int x0), .val (.int x1), .val (.int x2), .val (.long x3), .second, .val (.int fr), .val (.int a), .val (.int b), .val (.int (0 : Int32)), .val (.int jk), .val (.long nm), .second, .val (.int lm), .val (.int v), .val (.int t), .val (.int ((a + b) + (0 : Int32))), .val (.int e0), .unset, .unset, .unset, .unset, .unset, .unset, .unset, .unset, .unset, .unset, .unset, .unset] [.int c24, .int (24 : Int32), .ref 0, .ref 0] (.inr (.byte, [.int c0, .int c1, .int c2, .int c3, .int c4, .int c5, .int c6, .int c7, .int c8, .int c9, .int c10, .int c11, .int c12, .int c13, .int c14, .int c15, .int c16, .int c17, .int c18, .int c19, .int c20, .int c21, .int c22, .int c23, .int (0 : Int32), .int (0 : Int32)]) :: (G24 ++ K24)) (S24 + s24) _
  have gl25 : (G24 ++ K24).length ≤ 25 := by rw [List.length_append]; omega
  have sl25 : (S24 + s24) ≤ 501 := by omega
  clear hB
  generalize G24 ++ K24 = G25 at gl25 ⊢
  generalize (S24 + s24) = S25 at sl25 ⊢
  refine mmW_steps (k := 1) (n := 586) (pc' := 721) (L' := [.val (.int x0), .val (.int x1), .val (.int x2), .val (.long x3), .second, .val (.int fr), .val (.int a), .val (.int b), .val (.int (0 : Int32)), .val (.int jk), .val (.long nm), .second, .val (.int lm), .val (.int v), .val (.int t), .val (.int ((a + b) + (0 : Int32))), .val (.int e0), .unset, .unset, .unset, .unset, .unset, .unset, .unset, .unset, .unset, .unset, .unset, .unset]) (S' := [.ref 0]) (H' := (.inr (.byte, [.int c0, .int c1, .int c2, .int c3, .int c4, .int c5, .int c6, .int c7, .int c8, .int c9, .int c10, .int c11, .int c12, .int c13, .int c14, .int c15, .int c16, .int c17, .int c18, .int c19, .int c20, .int c21, .int c22, .int c23, .int c24.toInt8.toInt32, .int (0 : Int32)]) :: G25)) (sl' := S25) rfl ?_
  rw [ok24.1]
  refine mmW_steps (k := 10) (n := 576) (pc' := 740) (L' := [.val (.int x0), .val (.int x1), .val (.int x2), .val (.long x3), .second, .val (.int fr), .val (.int a), .val (.int b), .val (.int (0 : Int32)), .val (.int jk), .val (.long nm), .second, .val (.int lm), .val (.int v), .val (.int t), .val (.int ((a + b) + (0 : Int32))), .val (.int e0), .unset, .unset, .unset, .unset, .unset, .unset, .unset, .unset, .unset, .unset, .unset, .unset]) (S' := [.long nm, .int jk, .int t, .int e0, .int (0 : Int32), .int a, .int fr, .int (25 : Int32), .int (25 : Int32), .ref 0, .ref 0]) (H' := (.inr (.byte, [.int c0, .int c1, .int c2, .int c3, .int c4, .int c5, .int c6, .int c7, .int c8, .int c9, .int c10, .int c11, .int c12, .int c13, .int c14, .int c15, .int c16, .int c17, .int c18, .int c19, .int c20, .int c21, .int c22, .int c23, .int c24, .int (0 : Int32)]) :: G25)) (sl' := S25) rfl ?_
  obtain ⟨c25, K25, s25, hB, u25, d25, ok25⟩ := own_at0 (25 : Int32) fr a e0 t jk 25 FR A E0 JK rfl hfr ha he0 hjk (Nat.le_of_ble_eq_true rfl) gFR gA gE1 gE2 gJ ht nm NM hn hN (.inr (.byte, [.int c0, .int c1, .int c2, .int c3, .int c4, .int c5, .int c6, .int c7, .int c8, .int c9, .int c10, .int c11, .int c12, .int c13, .int c14, .int c15, .int c16, .int c17, .int c18, .int c19, .int c20, .int c21, .int c22, .int c23, .int c24, .int (0 : Int32)]) :: G25)
  refine mmW_callS (n := 575) rfl rfl rfl (rfl) (Nat.le_of_ble_eq_true rfl) (hB) ?_
  show mmW K_0 I_0 (some .boolean) (575) 743 [.val (.int x0), .val (.int x1), .val (.int x2), .val (.long x3), .second, .val (.int fr), .val (.int a), .val (.int b), .val (.int (0 : Int32)), .val (.int jk), .val (.long nm), .second, .val (.int lm), .val (.int v), .val (.int t), .val (.int ((a + b) + (0 : Int32))), .val (.int e0), .unset, .unset, .unset, .unset, .unset, .unset, .unset, .unset, .unset, .unset, .unset, .unset] [.int c25, .int (25 : Int32), .ref 0, .ref 0] (.inr (.byte, [.int c0, .int c1, .int c2, .int c3, .int c4, .int c5, .int c6, .int c7, .int c8, .int c9, .int c10, .int c11, .int c12, .int c13, .int c14, .int c15, .int c16, .int c17, .int c18, .int c19, .int c20, .int c21, .int c22, .int c23, .int c24, .int (0 : Int32)]) :: (G25 ++ K25)) (S25 + s25) _
  have gl26 : (G25 ++ K25).length ≤ 26 := by rw [List.length_append]; omega
  have sl26 : (S25 + s25) ≤ 520 := by omega
  clear hB
  generalize G25 ++ K25 = G26 at gl26 ⊢
  generalize (S25 + s25) = S26 at sl26 ⊢
  refine mmW_steps (k := 1) (n := 574) (pc' := 744) (L' := [.val (.int x0), .val (.int x1), .val (.int x2), .val (.long x3), .second, .val (.int fr), .val (.int a), .val (.int b), .val (.int (0 : Int32)), .val (.int jk), .val (.long nm), .second, .val (.int lm), .val (.int v), .val (.int t), .val (.int ((a + b) + (0 : Int32))), .val (.int e0), .unset, .unset, .unset, .unset, .unset, .unset, .unset, .unset, .unset, .unset, .unset, .unset]) (S' := [.ref 0]) (H' := (.inr (.byte, [.int c0, .int c1, .int c2, .int c3, .int c4, .int c5, .int c6, .int c7, .int c8, .int c9, .int c10, .int c11, .int c12, .int c13, .int c14, .int c15, .int c16, .int c17, .int c18, .int c19, .int c20, .int c21, .int c22, .int c23, .int c24, .int c25.toInt8.toInt32]) :: G26)) (sl' := S26) rfl ?_
  rw [ok25.1]
  obtain ⟨c, hcd⟩ : ∃ c : Nat → Int32, c = fun k => List.getD [c0, c1, c2, c3, c4, c5, c6, c7, c8, c9, c10, c11, c12, c13, c14, c15, c16, c17, c18, c19, c20, c21, c22, c23, c24, c25] k 0 := ⟨_, rfl⟩
  have hc : ∀ I, I < 26 → own_ok0 FR E0 NM t I (c I) := own_all26 (P := fun I => own_ok0 FR E0 NM t I (c I)) (by rw [hcd]; exact ok0) (by rw [hcd]; exact ok1) (by rw [hcd]; exact ok2) (by rw [hcd]; exact ok3) (by rw [hcd]; exact ok4) (by rw [hcd]; exact ok5) (by rw [hcd]; exact ok6) (by rw [hcd]; exact ok7) (by rw [hcd]; exact ok8) (by rw [hcd]; exact ok9) (by rw [hcd]; exact ok10) (by rw [hcd]; exact ok11) (by rw [hcd]; exact ok12) (by rw [hcd]; exact ok13) (by rw [hcd]; exact ok14) (by rw [hcd]; exact ok15) (by rw [hcd]; exact ok16) (by rw [hcd]; exact ok17) (by rw [hcd]; exact ok18) (by rw [hcd]; exact ok19) (by rw [hcd]; exact ok20) (by rw [hcd]; exact ok21) (by rw [hcd]; exact ok22) (by rw [hcd]; exact ok23) (by rw [hcd]; exact ok24) (by rw [hcd]; exact ok25)
  have hcl : [.int c0, .int c1, .int c2, .int c3, .int c4, .int c5, .int c6, .int c7, .int c8, .int c9, .int c10, .int c11, .int c12, .int c13, .int c14, .int c15, .int c16, .int c17, .int c18, .int c19, .int c20, .int c21, .int c22, .int c23, .int c24, .int c25] = own_n 26 c := by rw [hcd]; rfl
  rw [hcl]
  have n0 : mmNth (.inr (.byte, own_n 26 c) :: G26) 0 = some (.inr (.byte, own_n 26 c)) := rfl
  have hl : ((.inr (.byte, own_n 26 c) :: G26) : MHeap).length ≤ 27 := by rw [List.length_cons]; omega
  generalize (.inr (.byte, own_n 26 c) :: G26) = H at n0 hl ⊢
  clear hcl hcd ok0 ok1 ok2 ok3 ok4 ok5 ok6 ok7 ok8 ok9 ok10 ok11 ok12 ok13 ok14 ok15 ok16 ok17 ok18 ok19 ok20 ok21 ok22 ok23 ok24 ok25
  refine mmW_steps (k := 2) (n := 572) (pc' := 747) (L' := [.val (.int x0), .val (.int x1), .val (.int x2), .val (.long x3), .second, .val (.int fr), .val (.int a), .val (.int b), .val (.int (0 : Int32)), .val (.int jk), .val (.long nm), .second, .val (.int lm), .val (.int v), .val (.int t), .val (.int ((a + b) + (0 : Int32))), .val (.int e0), .val (.ref 0), .unset, .unset, .unset, .unset, .unset, .unset, .unset, .unset, .unset, .unset, .unset]) (S' := [.int (3 : Int32)]) (H' := H) (sl' := S26) rfl ?_
  refine mmW_newA (n := 571) rfl rfl (by decide) (by decide) ?_
  show mmW K_0 I_0 (some .boolean) (571) 749 [.val (.int x0), .val (.int x1), .val (.int x2), .val (.long x3), .second, .val (.int fr), .val (.int a), .val (.int b), .val (.int (0 : Int32)), .val (.int jk), .val (.long nm), .second, .val (.int lm), .val (.int v), .val (.int t), .val (.int ((a + b) + (0 : Int32))), .val (.int e0), .val (.ref 0), .unset, .unset, .unset, .unset, .unset, .unset, .unset, .unset, .unset, .unset, .unset] [.ref H.length] (H ++ [.inr (.byte, [.int 0, .int 0, .int 0])]) (S26 + 3) _
  refine mmW_steps (k := 3) (n := 568) (pc' := 753) (L' := [.val (.int x0), .val (.int x1), .val (.int x2), .val (.long x3), .second, .val (.int fr), .val (.int a), .val (.int b), .val (.int (0 : Int32)), .val (.int jk), .val (.long nm), .second, .val (.int lm), .val (.int v), .val (.int t), .val (.int ((a + b) + (0 : Int32))), .val (.int e0), .val (.ref 0), .unset, .unset, .unset, .unset, .unset, .unset, .unset, .unset, .unset, .unset, .unset]) (S' := [.int (49 : Int32), .int (0 : Int32), .ref H.length, .ref H.length]) (H' := (H ++ [.inr (.byte, [.int 0, .int 0, .int 0])])) (sl' := (S26 + 3)) rfl ?_
  refine mmW_bastore (n := 567) rfl (mmNth_last _ _) (by decide) (by decide) ?_
  show mmW K_0 I_0 (some .boolean) (567) 754 [.val (.int x0), .val (.int x1), .val (.int x2), .val (.long x3), .second, .val (.int fr), .val (.int a), .val (.int b), .val (.int (0 : Int32)), .val (.int jk), .val (.long nm), .second, .val (.int lm), .val (.int v), .val (.int t), .val (.int ((a + b) + (0 : Int32))), .val (.int e0), .val (.ref 0), .unset, .unset, .unset, .unset, .unset, .unset, .unset, .unset, .unset, .unset, .unset] [.ref H.length] (List.set (H ++ [(.inr (.byte, [.int 0, .int 0, .int 0]) : MObj)]) H.length (.inr (.byte, [.int 49, .int 0, .int 0]))) (S26 + 3) _
  rw [mmSet_last]
  refine mmW_steps (k := 3) (n := 564) (pc' := 758) (L' := [.val (.int x0), .val (.int x1), .val (.int x2), .val (.long x3), .second, .val (.int fr), .val (.int a), .val (.int b), .val (.int (0 : Int32)), .val (.int jk), .val (.long nm), .second, .val (.int lm), .val (.int v), .val (.int t), .val (.int ((a + b) + (0 : Int32))), .val (.int e0), .val (.ref 0), .unset, .unset, .unset, .unset, .unset, .unset, .unset, .unset, .unset, .unset, .unset]) (S' := [.int (46 : Int32), .int (1 : Int32), .ref H.length, .ref H.length]) (H' := (H ++ [.inr (.byte, [.int 49, .int 0, .int 0])])) (sl' := (S26 + 3)) rfl ?_
  refine mmW_bastore (n := 563) rfl (mmNth_last _ _) (by decide) (by decide) ?_
  show mmW K_0 I_0 (some .boolean) (563) 759 [.val (.int x0), .val (.int x1), .val (.int x2), .val (.long x3), .second, .val (.int fr), .val (.int a), .val (.int b), .val (.int (0 : Int32)), .val (.int jk), .val (.long nm), .second, .val (.int lm), .val (.int v), .val (.int t), .val (.int ((a + b) + (0 : Int32))), .val (.int e0), .val (.ref 0), .unset, .unset, .unset, .unset, .unset, .unset, .unset, .unset, .unset, .unset, .unset] [.ref H.length] (List.set (H ++ [(.inr (.byte, [.int 49, .int 0, .int 0]) : MObj)]) H.length (.inr (.byte, [.int 49, .int 46, .int 0]))) (S26 + 3) _
  rw [mmSet_last]
  refine mmW_steps (k := 3) (n := 560) (pc' := 763) (L' := [.val (.int x0), .val (.int x1), .val (.int x2), .val (.long x3), .second, .val (.int fr), .val (.int a), .val (.int b), .val (.int (0 : Int32)), .val (.int jk), .val (.long nm), .second, .val (.int lm), .val (.int v), .val (.int t), .val (.int ((a + b) + (0 : Int32))), .val (.int e0), .val (.ref 0), .unset, .unset, .unset, .unset, .unset, .unset, .unset, .unset, .unset, .unset, .unset]) (S' := [.int (53 : Int32), .int (2 : Int32), .ref H.length, .ref H.length]) (H' := (H ++ [.inr (.byte, [.int 49, .int 46, .int 0])])) (sl' := (S26 + 3)) rfl ?_
  refine mmW_bastore (n := 559) rfl (mmNth_last _ _) (by decide) (by decide) ?_
  show mmW K_0 I_0 (some .boolean) (559) 764 [.val (.int x0), .val (.int x1), .val (.int x2), .val (.long x3), .second, .val (.int fr), .val (.int a), .val (.int b), .val (.int (0 : Int32)), .val (.int jk), .val (.long nm), .second, .val (.int lm), .val (.int v), .val (.int t), .val (.int ((a + b) + (0 : Int32))), .val (.int e0), .val (.ref 0), .unset, .unset, .unset, .unset, .unset, .unset, .unset, .unset, .unset, .unset, .unset] [.ref H.length] (List.set (H ++ [(.inr (.byte, [.int 49, .int 46, .int 0]) : MObj)]) H.length (.inr (.byte, [.int 49, .int 46, .int 53]))) (S26 + 3) _
  rw [mmSet_last]
  refine mmW_steps (k := 1) (n := 558) (pc' := 766) (L' := [.val (.int x0), .val (.int x1), .val (.int x2), .val (.long x3), .second, .val (.int fr), .val (.int a), .val (.int b), .val (.int (0 : Int32)), .val (.int jk), .val (.long nm), .second, .val (.int lm), .val (.int v), .val (.int t), .val (.int ((a + b) + (0 : Int32))), .val (.int e0), .val (.ref 0), .val (.ref H.length), .unset, .unset, .unset, .unset, .unset, .unset, .unset, .unset, .unset, .unset]) (S' := []) (H' := (H ++ [.inr (.byte, [.int 49, .int 46, .int 53])])) (sl' := (S26 + 3)) rfl ?_
  have n1 : mmNth (H ++ [.inr (.byte, [.int 49, .int 46, .int 53])]) 0 = some (.inr (.byte, own_n 26 c)) := mmNth_app _ n0
  have nb : mmNth (H ++ [.inr (.byte, [.int 49, .int 46, .int 53])]) H.length = some (.inr (.byte, [.int 49, .int 46, .int 53])) := mmNth_last _ _
  have hl1 : (H ++ [.inr (.byte, [.int 49, .int 46, .int 53])] : MHeap).length ≤ 28 := by rw [List.length_append]; simp only [List.length_cons, List.length_nil]; omega
  generalize H ++ [.inr (.byte, [.int 49, .int 46, .int 53])] = H1 at n1 nb hl1 ⊢
  generalize H.length = br at nb ⊢
  refine mmW_new (n := 557) rfl rfl ?_
  show mmW K_0 I_0 (some .boolean) (557) 769 [.val (.int x0), .val (.int x1), .val (.int x2), .val (.long x3), .second, .val (.int fr), .val (.int a), .val (.int b), .val (.int (0 : Int32)), .val (.int jk), .val (.long nm), .second, .val (.int lm), .val (.int v), .val (.int t), .val (.int ((a + b) + (0 : Int32))), .val (.int e0), .val (.ref 0), .val (.ref br), .unset, .unset, .unset, .unset, .unset, .unset, .unset, .unset, .unset, .unset] [.ref H1.length] (H1 ++ [.inl (0, [.long 0, .int 0])]) ((S26 + 3) + 2) _
  have n2 : mmNth (H1 ++ [.inl (0, [.long 0, .int 0])]) 0 = some (.inr (.byte, own_n 26 c)) := mmNth_app _ n1
  have nb2 : mmNth (H1 ++ [.inl (0, [.long 0, .int 0])]) br = some (.inr (.byte, [.int 49, .int 46, .int 53])) := mmNth_app _ nb
  have nt : mmNth (H1 ++ [.inl (0, [.long 0, .int 0])]) H1.length = some (.inl (0, [.long 0, .int 0])) := mmNth_last _ _
  have hl2 : (H1 ++ [.inl (0, [.long 0, .int 0])] : MHeap).length ≤ 29 := by rw [List.length_append]; simp only [List.length_cons, List.length_nil]; omega
  generalize H1 ++ [.inl (0, [.long 0, .int 0])] = H2 at n2 nb2 nt hl2 ⊢
  generalize H1.length = tr at nt ⊢
  refine mmW_steps (k := 1) (n := 556) (pc' := 770) (L' := [.val (.int x0), .val (.int x1), .val (.int x2), .val (.long x3), .second, .val (.int fr), .val (.int a), .val (.int b), .val (.int (0 : Int32)), .val (.int jk), .val (.long nm), .second, .val (.int lm), .val (.int v), .val (.int t), .val (.int ((a + b) + (0 : Int32))), .val (.int e0), .val (.ref 0), .val (.ref br), .unset, .unset, .unset, .unset, .unset, .unset, .unset, .unset, .unset, .unset]) (S' := [.ref tr, .ref tr]) (H' := H2) (sl' := ((S26 + 3) + 2)) rfl ?_
  refine mmW_callI (n := 555) rfl rfl rfl rfl (mmRecv_of nt) (Nat.le_of_ble_eq_true rfl) (own_ini tr H2) ?_
  show mmW K_0 I_0 (some .boolean) (555) 773 [.val (.int x0), .val (.int x1), .val (.int x2), .val (.long x3), .second, .val (.int fr), .val (.int a), .val (.int b), .val (.int (0 : Int32)), .val (.int jk), .val (.long nm), .second, .val (.int lm), .val (.int v), .val (.int t), .val (.int ((a + b) + (0 : Int32))), .val (.int e0), .val (.ref 0), .val (.ref br), .unset, .unset, .unset, .unset, .unset, .unset, .unset, .unset, .unset, .unset] [.ref tr] H2 (((S26 + 3) + 2) + 0) _
  refine mmW_steps (k := 5) (n := 550) (pc' := 781) (L' := [.val (.int x0), .val (.int x1), .val (.int x2), .val (.long x3), .second, .val (.int fr), .val (.int a), .val (.int b), .val (.int (0 : Int32)), .val (.int jk), .val (.long nm), .second, .val (.int lm), .val (.int v), .val (.int t), .val (.int ((a + b) + (0 : Int32))), .val (.int e0), .val (.ref 0), .val (.ref br), .val (.ref tr), .unset, .unset, .unset, .unset, .unset, .unset, .unset, .unset, .unset]) (S' := [.int (3 : Int32), .int (0 : Int32), .ref br, .ref tr]) (H' := H2) (sl' := (((S26 + 3) + 2) + 0)) rfl ?_
  refine mmW_callV (n := 549) rfl rfl rfl (mmRecv_of nt) (Nat.le_of_ble_eq_true rfl) (own_rdp nb2 nt) ?_
  show mmW K_0 I_0 (some .boolean) (549) 784 [.val (.int x0), .val (.int x1), .val (.int x2), .val (.long x3), .second, .val (.int fr), .val (.int a), .val (.int b), .val (.int (0 : Int32)), .val (.int jk), .val (.long nm), .second, .val (.int lm), .val (.int v), .val (.int t), .val (.int ((a + b) + (0 : Int32))), .val (.int e0), .val (.ref 0), .val (.ref br), .val (.ref tr), .unset, .unset, .unset, .unset, .unset, .unset, .unset, .unset, .unset] [.int (3 : Int32)] (H2.set tr (.inl (0, [.long 15, .int 1]))) ((((S26 + 3) + 2) + 0) + 0) _
  have hne : tr ≠ 0 := fun z => by rw [z, n2] at nt; cases nt
  have n3 : mmNth (H2.set tr (.inl (0, [.long 15, .int 1]))) 0 = some (.inr (.byte, own_n 26 c)) := mmNth_setne _ hne n2
  have nt3 : mmNth (H2.set tr (.inl (0, [.long 15, .int 1]))) tr = some (.inl (0, [.long 15, .int 1])) := mmNth_set _ nt
  have hl3 : (H2.set tr (.inl (0, [.long 15, .int 1]))).length ≤ 29 := by rw [List.length_set]; exact hl2
  generalize H2.set tr (.inl (0, [.long 15, .int 1])) = H3 at n3 nt3 hl3 ⊢
  refine mmW_steps (k := 3) (n := 546) (pc' := 790) (L' := [.val (.int x0), .val (.int x1), .val (.int x2), .val (.long x3), .second, .val (.int fr), .val (.int a), .val (.int b), .val (.int (0 : Int32)), .val (.int jk), .val (.long nm), .second, .val (.int lm), .val (.int v), .val (.int t), .val (.int ((a + b) + (0 : Int32))), .val (.int e0), .val (.ref 0), .val (.ref br), .val (.ref tr), .unset, .unset, .unset, .unset, .unset, .unset, .unset, .unset, .unset]) (S' := [.ref tr]) (H' := H3) (sl' := ((((S26 + 3) + 2) + 0) + 0)) rfl ?_
  refine mmW_callV (n := 545) rfl rfl rfl (mmRecv_of nt3) (Nat.le_of_ble_eq_true rfl) (own_dgs nt3) ?_
  show mmW K_0 I_0 (some .boolean) (545) 793 [.val (.int x0), .val (.int x1), .val (.int x2), .val (.long x3), .second, .val (.int fr), .val (.int a), .val (.int b), .val (.int (0 : Int32)), .val (.int jk), .val (.long nm), .second, .val (.int lm), .val (.int v), .val (.int t), .val (.int ((a + b) + (0 : Int32))), .val (.int e0), .val (.ref 0), .val (.ref br), .val (.ref tr), .unset, .unset, .unset, .unset, .unset, .unset, .unset, .unset, .unset] [.long (15 : Int64)] H3 (((((S26 + 3) + 2) + 0) + 0) + 0) _
  refine mmW_steps (k := 4) (n := 541) (pc' := 802) (L' := [.val (.int x0), .val (.int x1), .val (.int x2), .val (.long x3), .second, .val (.int fr), .val (.int a), .val (.int b), .val (.int (0 : Int32)), .val (.int jk), .val (.long nm), .second, .val (.int lm), .val (.int v), .val (.int t), .val (.int ((a + b) + (0 : Int32))), .val (.int e0), .val (.ref 0), .val (.ref br), .val (.ref tr), .unset, .unset, .unset, .unset, .unset, .unset, .unset, .unset, .unset]) (S' := [.ref tr]) (H' := H3) (sl' := (((((S26 + 3) + 2) + 0) + 0) + 0)) rfl ?_
  refine mmW_callV (n := 540) rfl rfl rfl (mmRecv_of nt3) (Nat.le_of_ble_eq_true rfl) (own_dcs nt3) ?_
  show mmW K_0 I_0 (some .boolean) (540) 805 [.val (.int x0), .val (.int x1), .val (.int x2), .val (.long x3), .second, .val (.int fr), .val (.int a), .val (.int b), .val (.int (0 : Int32)), .val (.int jk), .val (.long nm), .second, .val (.int lm), .val (.int v), .val (.int t), .val (.int ((a + b) + (0 : Int32))), .val (.int e0), .val (.ref 0), .val (.ref br), .val (.ref tr), .unset, .unset, .unset, .unset, .unset, .unset, .unset, .unset, .unset] [.int (1 : Int32)] H3 ((((((S26 + 3) + 2) + 0) + 0) + 0) + 0) _
  refine mmW_steps (k := 6) (n := 534) (pc' := 819) (L' := [.val (.int x0), .val (.int x1), .val (.int x2), .val (.long x3), .second, .val (.int fr), .val (.int a), .val (.int b), .val (.int (0 : Int32)), .val (.int jk), .val (.long nm), .second, .val (.int lm), .val (.int v), .val (.int t), .val (.int ((a + b) + (0 : Int32))), .val (.int e0), .val (.ref 0), .val (.ref br), .val (.ref tr), .unset, .unset, .unset, .unset, .unset, .unset, .unset, .unset, .unset]) (S' := [.int lm, .int fr, .ref 0, .ref tr]) (H' := H3) (sl' := ((((((S26 + 3) + 2) + 0) + 0) + 0) + 0)) rfl ?_
  by_cases hcl : fr < lm
  · obtain ⟨LM, hlm, hFL, hL26⟩ := own_LM hfr hcl hlm26
    obtain ⟨K, hK1, hK2, hK3⟩ : ∃ K, FR + K ≤ LM ∧ FR + K ≤ E0 ∧ (FR + K = LM ∨ FR + K = E0) := ⟨min LM E0 - FR, by omega, by omega, by omega⟩
    by_cases hK : K = 0
    · have hR := own_rd0a H3 tr 0 c fr lm (A := A) n3 nt3 hc ht1 hlm (by omega) (by omega) hN hfr hK1 hK2 hK3 ht2 hK
      refine mmW_callV (n := 533) rfl rfl rfl (mmRecv_of nt3) (Nat.le_of_ble_eq_true rfl) (hR) ?_
      show mmW K_0 I_0 (some .boolean) (533) 822 [.val (.int x0), .val (.int x1), .val (.int x2), .val (.long x3), .second, .val (.int fr), .val (.int a), .val (.int b), .val (.int (0 : Int32)), .val (.int jk), .val (.long nm), .second, .val (.int lm), .val (.int v), .val (.int t), .val (.int ((a + b) + (0 : Int32))), .val (.int e0), .val (.ref 0), .val (.ref br), .val (.ref tr), .unset, .unset, .unset, .unset, .unset, .unset, .unset, .unset, .unset] [.int (-1 : Int32)] H3 (((((((S26 + 3) + 2) + 0) + 0) + 0) + 0) + 0) _
      refine mmW_steps (k := 8) (n := 525) (pc' := (if if_icmp.holds .le lm fr = true then 847 else 837)) (L' := [.val (.int x0), .val (.int x1), .val (.int x2), .val (.long x3), .second, .val (.int fr), .val (.int a), .val (.int b), .val (.int (0 : Int32)), .val (.int jk), .val (.long nm), .second, .val (.int lm), .val (.int v), .val (.int t), .val (.int ((a + b) + (0 : Int32))), .val (.int e0), .val (.ref 0), .val (.ref br), .val (.ref tr), .val (.int (-1 : Int32)), .unset, .val (.long (0 : Int64)), .second, .val (.int (0 : Int32)), .unset, .unset, .unset, .unset]) (S' := []) (H' := H3) (sl' := (((((((S26 + 3) + 2) + 0) + 0) + 0) + 0) + 0)) rfl ?_
      refine mmW_f (XT.ii_le_f (hcl)) ?_
      refine mmW_steps (k := 5) (n := 520) (pc' := 860) (L' := [.val (.int x0), .val (.int x1), .val (.int x2), .val (.long x3), .second, .val (.int fr), .val (.int a), .val (.int b), .val (.int (0 : Int32)), .val (.int jk), .val (.long nm), .second, .val (.int lm), .val (.int v), .val (.int t), .val (.int ((a + b) + (0 : Int32))), .val (.int e0), .val (.ref 0), .val (.ref br), .val (.ref tr), .val (.int (-1 : Int32)), .unset, .val (.long (0 : Int64)), .second, .val (.int (0 : Int32)), .unset, .unset, .unset, .unset]) (S' := [.int (if e0 < lm then e0 else lm)]) (H' := H3) (sl' := ((((((((S26 + 3) + 2) + 0) + 0) + 0) + 0) + 0) + 0)) rfl ?_
      have hsp := own_min hlm he0 hK1 hK2 hK3
      generalize (if e0 < lm then e0 else lm) = sp at hsp ⊢
      refine mmW_steps (k := 4) (n := 516) (pc' := 867) (L' := [.val (.int x0), .val (.int x1), .val (.int x2), .val (.long x3), .second, .val (.int fr), .val (.int a), .val (.int b), .val (.int (0 : Int32)), .val (.int jk), .val (.long nm), .second, .val (.int lm), .val (.int v), .val (.int t), .val (.int ((a + b) + (0 : Int32))), .val (.int e0), .val (.ref 0), .val (.ref br), .val (.ref tr), .val (.int (-1 : Int32)), .unset, .val (.long (0 : Int64)), .second, .val (.int (0 : Int32)), .val (.int sp), .unset, .unset, .unset]) (S' := [.int (sp - fr)]) (H' := H3) (sl' := ((((((((S26 + 3) + 2) + 0) + 0) + 0) + 0) + 0) + 0)) rfl ?_
      have hkk := own_sub hsp hfr (by omega) (by omega)
      rw [show FR + K - FR = K by omega] at hkk
      generalize (sp - fr) = kk at hkk ⊢
      refine mmW_steps (k := 11) (n := 505) (pc' := (if ifCond.holds .eq kk = true then 923 else 909)) (L' := [.val (.int x0), .val (.int x1), .val (.int x2), .val (.long x3), .second, .val (.int fr), .val (.int a), .val (.int b), .val (.int (0 : Int32)), .val (.int jk), .val (.long nm), .second, .val (.int lm), .val (.int v), .val (.int t), .val (.int ((a + b) + (0 : Int32))), .val (.int e0), .val (.ref 0), .val (.ref br), .val (.ref tr), .val (.int (-1 : Int32)), .unset, .val (.long (0 : Int64)), .second, .val (.int (0 : Int32)), .val (.int sp), .val (.int kk), .val (.int (0 : Int32)), .val (.int kk)]) (S' := []) (H' := H3) (sl' := ((((((((S26 + 3) + 2) + 0) + 0) + 0) + 0) + 0) + 0)) rfl ?_
      refine mmW_t (XT.i0_eq_t (own_0 (by rw [hkk, hK]; rfl))) ?_
      refine mmW_steps (k := 10) (n := 495) (pc' := 991) (L' := [.val (.int x0), .val (.int x1), .val (.int x2), .val (.long x3), .second, .val (.int fr), .val (.int a), .val (.int b), .val (.int (0 : Int32)), .val (.int jk), .val (.long nm), .second, .val (.int lm), .val (.int v), .val (.int t), .val (.int ((a + b) + (0 : Int32))), .val (.int e0), .val (.ref 0), .val (.ref br), .val (.ref tr), .val (.int (-1 : Int32)), .val (.int (-1 : Int32)), .val (.long (0 : Int64)), .second, .val (.int (0 : Int32)), .val (.int sp), .val (.int kk), .val (.int (0 : Int32)), .val (.int kk)]) (S' := [.int (1 : Int32)]) (H' := H3) (sl' := ((((((((S26 + 3) + 2) + 0) + 0) + 0) + 0) + 0) + 0)) rfl ?_
      exact mmW_ret (n := 494) (i := .ireturn) rfl rfl ⟨rfl, by omega, by omega⟩
    · obtain ⟨ix, z, dc, hR, q1, q2, q3, q4⟩ := own_rd0b H3 tr 0 c fr lm (A := A) n3 nt3 hc ht1 hlm (by omega) (by omega) hN hfr hK1 hK2 hK3 ht2 (by omega) (by omega)
      refine mmW_callV (n := 533) rfl rfl rfl (mmRecv_of nt3) (Nat.le_of_ble_eq_true rfl) (hR) ?_
      show mmW K_0 I_0 (some .boolean) (533) 822 [.val (.int x0), .val (.int x1), .val (.int x2), .val (.long x3), .second, .val (.int fr), .val (.int a), .val (.int b), .val (.int (0 : Int32)), .val (.int jk), .val (.long nm), .second, .val (.int lm), .val (.int v), .val (.int t), .val (.int ((a + b) + (0 : Int32))), .val (.int e0), .val (.ref 0), .val (.ref br), .val (.ref tr), .unset, .unset, .unset, .unset, .unset, .unset, .unset, .unset, .unset] [.int ix] (H3.set tr (.inl (0, [.long z, .int dc]))) (((((((S26 + 3) + 2) + 0) + 0) + 0) + 0) + 0) _
      have nt4 : mmNth (H3.set tr (.inl (0, [.long z, .int dc]))) tr = some (.inl (0, [.long z, .int dc])) := mmNth_set _ nt3
      have hl4 : (H3.set tr (.inl (0, [.long z, .int dc]))).length ≤ 29 := by rw [List.length_set]; exact hl3
      generalize H3.set tr (.inl (0, [.long z, .int dc])) = H4 at nt4 hl4 hR ⊢
      refine mmW_steps (k := 8) (n := 525) (pc' := (if if_icmp.holds .le lm fr = true then 847 else 837)) (L' := [.val (.int x0), .val (.int x1), .val (.int x2), .val (.long x3), .second, .val (.int fr), .val (.int a), .val (.int b), .val (.int (0 : Int32)), .val (.int jk), .val (.long nm), .second, .val (.int lm), .val (.int v), .val (.int t), .val (.int ((a + b) + (0 : Int32))), .val (.int e0), .val (.ref 0), .val (.ref br), .val (.ref tr), .val (.int ix), .unset, .val (.long (0 : Int64)), .second, .val (.int (0 : Int32)), .unset, .unset, .unset, .unset]) (S' := []) (H' := H4) (sl' := (((((((S26 + 3) + 2) + 0) + 0) + 0) + 0) + 0)) rfl ?_
      refine mmW_f (XT.ii_le_f (hcl)) ?_
      refine mmW_steps (k := 5) (n := 520) (pc' := 860) (L' := [.val (.int x0), .val (.int x1), .val (.int x2), .val (.long x3), .second, .val (.int fr), .val (.int a), .val (.int b), .val (.int (0 : Int32)), .val (.int jk), .val (.long nm), .second, .val (.int lm), .val (.int v), .val (.int t), .val (.int ((a + b) + (0 : Int32))), .val (.int e0), .val (.ref 0), .val (.ref br), .val (.ref tr), .val (.int ix), .unset, .val (.long (0 : Int64)), .second, .val (.int (0 : Int32)), .unset, .unset, .unset, .unset]) (S' := [.int (if e0 < lm then e0 else lm)]) (H' := H4) (sl' := ((((((((S26 + 3) + 2) + 0) + 0) + 0) + 0) + 0) + 0)) rfl ?_
      have hsp := own_min hlm he0 hK1 hK2 hK3
      generalize (if e0 < lm then e0 else lm) = sp at hsp ⊢
      refine mmW_steps (k := 4) (n := 516) (pc' := 867) (L' := [.val (.int x0), .val (.int x1), .val (.int x2), .val (.long x3), .second, .val (.int fr), .val (.int a), .val (.int b), .val (.int (0 : Int32)), .val (.int jk), .val (.long nm), .second, .val (.int lm), .val (.int v), .val (.int t), .val (.int ((a + b) + (0 : Int32))), .val (.int e0), .val (.ref 0), .val (.ref br), .val (.ref tr), .val (.int ix), .unset, .val (.long (0 : Int64)), .second, .val (.int (0 : Int32)), .val (.int sp), .unset, .unset, .unset]) (S' := [.int (sp - fr)]) (H' := H4) (sl' := ((((((((S26 + 3) + 2) + 0) + 0) + 0) + 0) + 0) + 0)) rfl ?_
      have hkk := own_sub hsp hfr (by omega) (by omega)
      rw [show FR + K - FR = K by omega] at hkk
      generalize (sp - fr) = kk at hkk ⊢
      refine mmW_steps (k := 11) (n := 505) (pc' := (if ifCond.holds .eq kk = true then 923 else 909)) (L' := [.val (.int x0), .val (.int x1), .val (.int x2), .val (.long x3), .second, .val (.int fr), .val (.int a), .val (.int b), .val (.int (0 : Int32)), .val (.int jk), .val (.long nm), .second, .val (.int lm), .val (.int v), .val (.int t), .val (.int ((a + b) + (0 : Int32))), .val (.int e0), .val (.ref 0), .val (.ref br), .val (.ref tr), .val (.int ix), .unset, .val (.long (0 : Int64)), .second, .val (.int (0 : Int32)), .val (.int sp), .val (.int kk), .val (.int (0 : Int32)), .val (.int kk)]) (S' := []) (H' := H4) (sl' := ((((((((S26 + 3) + 2) + 0) + 0) + 0) + 0) + 0) + 0)) rfl ?_
      refine mmW_f (XT.i0_eq_f (own_n0 hkk (by omega))) ?_
      refine mmW_steps (k := 7) (n := 498) (pc' := (if if_icmp.holds .le kk (18 : Int32) = true then 946 else 940)) (L' := [.val (.int x0), .val (.int x1), .val (.int x2), .val (.long x3), .second, .val (.int fr), .val (.int a), .val (.int b), .val (.int (0 : Int32)), .val (.int jk), .val (.long nm), .second, .val (.int lm), .val (.int v), .val (.int t), .val (.int ((a + b) + (0 : Int32))), .val (.int e0), .val (.ref 0), .val (.ref br), .val (.ref tr), .val (.int ix), .val (.int sp), .val (.long (0 : Int64)), .second, .val (.int (0 : Int32)), .val (.int sp), .val (.int kk), .val (.int (0 : Int32)), .val (.int kk)]) (S' := []) (H' := H4) (sl' := ((((((((S26 + 3) + 2) + 0) + 0) + 0) + 0) + 0) + 0)) rfl ?_
      by_cases hbg : (18 : Int32) < kk
      · refine mmW_f (XT.ii_le_f (hbg)) ?_
        have hbig : 18 < K := (own_lt (a := (18 : Int32)) (A := 18) rfl hkk).mp hbg
        refine mmW_steps (k := 10) (n := 488) (pc' := (if if_icmp.holds .eq ix sp = true then 984 else 982)) (L' := [.val (.int x0), .val (.int x1), .val (.int x2), .val (.long x3), .second, .val (.int fr), .val (.int a), .val (.int b), .val (.int (0 : Int32)), .val (.int jk), .val (.long nm), .second, .val (.int lm), .val (.int v), .val (.int t), .val (.int ((a + b) + (0 : Int32))), .val (.int e0), .val (.ref 0), .val (.ref br), .val (.ref tr), .val (.int ix), .val (.int sp), .val (.long (-2 : Int64)), .second, .val (.int (0 : Int32)), .val (.int sp), .val (.int kk), .val (.int (0 : Int32)), .val (.int kk)]) (S' := []) (H' := H4) (sl' := ((((((((S26 + 3) + 2) + 0) + 0) + 0) + 0) + 0) + 0)) rfl ?_
        refine mmW_t (XT.ii_eq_t (own_same q1 hsp (by omega))) ?_
        refine mmW_steps (k := 3) (n := 485) (pc' := (if if_icmp.holds .ne sp (-1 : Int32) = true then 992 else 990)) (L' := [.val (.int x0), .val (.int x1), .val (.int x2), .val (.long x3), .second, .val (.int fr), .val (.int a), .val (.int b), .val (.int (0 : Int32)), .val (.int jk), .val (.long nm), .second, .val (.int lm), .val (.int v), .val (.int t), .val (.int ((a + b) + (0 : Int32))), .val (.int e0), .val (.ref 0), .val (.ref br), .val (.ref tr), .val (.int ix), .val (.int sp), .val (.long (-2 : Int64)), .second, .val (.int (0 : Int32)), .val (.int sp), .val (.int kk), .val (.int (0 : Int32)), .val (.int kk)]) (S' := []) (H' := H4) (sl' := ((((((((S26 + 3) + 2) + 0) + 0) + 0) + 0) + 0) + 0)) rfl ?_
        refine mmW_t (XT.ii_ne_t (own_nm1 hsp)) ?_
        refine mmW_steps (k := 1) (n := 484) (pc' := 994) (L' := [.val (.int x0), .val (.int x1), .val (.int x2), .val (.long x3), .second, .val (.int fr), .val (.int a), .val (.int b), .val (.int (0 : Int32)), .val (.int jk), .val (.long nm), .second, .val (.int lm), .val (.int v), .val (.int t), .val (.int ((a + b) + (0 : Int32))), .val (.int e0), .val (.ref 0), .val (.ref br), .val (.ref tr), .val (.int ix), .val (.int sp), .val (.long (-2 : Int64)), .second, .val (.int (0 : Int32)), .val (.int sp), .val (.int kk), .val (.int (0 : Int32)), .val (.int kk)]) (S' := [.ref tr]) (H' := H4) (sl' := ((((((((S26 + 3) + 2) + 0) + 0) + 0) + 0) + 0) + 0)) rfl ?_
        refine mmW_callV (n := 483) rfl rfl rfl (mmRecv_of nt4) (Nat.le_of_ble_eq_true rfl) (own_dgs nt4) ?_
        show mmW K_0 I_0 (some .boolean) (483) 997 [.val (.int x0), .val (.int x1), .val (.int x2), .val (.long x3), .second, .val (.int fr), .val (.int a), .val (.int b), .val (.int (0 : Int32)), .val (.int jk), .val (.long nm), .second, .val (.int lm), .val (.int v), .val (.int t), .val (.int ((a + b) + (0 : Int32))), .val (.int e0), .val (.ref 0), .val (.ref br), .val (.ref tr), .val (.int ix), .val (.int sp), .val (.long (-2 : Int64)), .second, .val (.int (0 : Int32)), .val (.int sp), .val (.int kk), .val (.int (0 : Int32)), .val (.int kk)] [.long z] H4 (((((((((S26 + 3) + 2) + 0) + 0) + 0) + 0) + 0) + 0) + 0) _
        refine mmW_steps (k := 3) (n := 480) (pc' := (if ifCond.holds .ne (XT.cmpL z (-2 : Int64)) = true then 1017 else 1003)) (L' := [.val (.int x0), .val (.int x1), .val (.int x2), .val (.long x3), .second, .val (.int fr), .val (.int a), .val (.int b), .val (.int (0 : Int32)), .val (.int jk), .val (.long nm), .second, .val (.int lm), .val (.int v), .val (.int t), .val (.int ((a + b) + (0 : Int32))), .val (.int e0), .val (.ref 0), .val (.ref br), .val (.ref tr), .val (.int ix), .val (.int sp), .val (.long (-2 : Int64)), .second, .val (.int (0 : Int32)), .val (.int sp), .val (.int kk), .val (.int (0 : Int32)), .val (.int kk)]) (S' := []) (H' := H4) (sl' := (((((((((S26 + 3) + 2) + 0) + 0) + 0) + 0) + 0) + 0) + 0)) rfl ?_
        refine mmW_f (XT.ll_ne_f (q4 hbig)) ?_
        refine mmW_steps (k := 1) (n := 479) (pc' := 1005) (L' := [.val (.int x0), .val (.int x1), .val (.int x2), .val (.long x3), .second, .val (.int fr), .val (.int a), .val (.int b), .val (.int (0 : Int32)), .val (.int jk), .val (.long nm), .second, .val (.int lm), .val (.int v), .val (.int t), .val (.int ((a + b) + (0 : Int32))), .val (.int e0), .val (.ref 0), .val (.ref br), .val (.ref tr), .val (.int ix), .val (.int sp), .val (.long (-2 : Int64)), .second, .val (.int (0 : Int32)), .val (.int sp), .val (.int kk), .val (.int (0 : Int32)), .val (.int kk)]) (S' := [.ref tr]) (H' := H4) (sl' := (((((((((S26 + 3) + 2) + 0) + 0) + 0) + 0) + 0) + 0) + 0)) rfl ?_
        refine mmW_callV (n := 478) rfl rfl rfl (mmRecv_of nt4) (Nat.le_of_ble_eq_true rfl) (own_dcs nt4) ?_
        show mmW K_0 I_0 (some .boolean) (478) 1008 [.val (.int x0), .val (.int x1), .val (.int x2), .val (.long x3), .second, .val (.int fr), .val (.int a), .val (.int b), .val (.int (0 : Int32)), .val (.int jk), .val (.long nm), .second, .val (.int lm), .val (.int v), .val (.int t), .val (.int ((a + b) + (0 : Int32))), .val (.int e0), .val (.ref 0), .val (.ref br), .val (.ref tr), .val (.int ix), .val (.int sp), .val (.long (-2 : Int64)), .second, .val (.int (0 : Int32)), .val (.int sp), .val (.int kk), .val (.int (0 : Int32)), .val (.int kk)] [.int dc] H4 ((((((((((S26 + 3) + 2) + 0) + 0) + 0) + 0) + 0) + 0) + 0) + 0) _
        refine mmW_steps (k := 2) (n := 476) (pc' := (if if_icmp.holds .ne dc (0 : Int32) = true then 1017 else 1013)) (L' := [.val (.int x0), .val (.int x1), .val (.int x2), .val (.long x3), .second, .val (.int fr), .val (.int a), .val (.int b), .val (.int (0 : Int32)), .val (.int jk), .val (.long nm), .second, .val (.int lm), .val (.int v), .val (.int t), .val (.int ((a + b) + (0 : Int32))), .val (.int e0), .val (.ref 0), .val (.ref br), .val (.ref tr), .val (.int ix), .val (.int sp), .val (.long (-2 : Int64)), .second, .val (.int (0 : Int32)), .val (.int sp), .val (.int kk), .val (.int (0 : Int32)), .val (.int kk)]) (S' := []) (H' := H4) (sl' := ((((((((((S26 + 3) + 2) + 0) + 0) + 0) + 0) + 0) + 0) + 0) + 0)) rfl ?_
        refine mmW_f (XT.ii_ne_f (own_same q2 (Y := 0) rfl rfl)) ?_
        refine mmW_steps (k := 2) (n := 474) (pc' := 1018) (L' := [.val (.int x0), .val (.int x1), .val (.int x2), .val (.long x3), .second, .val (.int fr), .val (.int a), .val (.int b), .val (.int (0 : Int32)), .val (.int jk), .val (.long nm), .second, .val (.int lm), .val (.int v), .val (.int t), .val (.int ((a + b) + (0 : Int32))), .val (.int e0), .val (.ref 0), .val (.ref br), .val (.ref tr), .val (.int ix), .val (.int sp), .val (.long (-2 : Int64)), .second, .val (.int (0 : Int32)), .val (.int sp), .val (.int kk), .val (.int (0 : Int32)), .val (.int kk)]) (S' := [.int (1 : Int32)]) (H' := H4) (sl' := ((((((((((S26 + 3) + 2) + 0) + 0) + 0) + 0) + 0) + 0) + 0) + 0)) rfl ?_
        exact mmW_ret (n := 473) (i := .ireturn) rfl rfl ⟨rfl, by omega, by omega⟩
      · refine mmW_t (XT.ii_le_t (hbg)) ?_
        have hbig : K ≤ 18 := Nat.le_of_not_lt fun z => hbg ((own_lt (a := (18 : Int32)) (A := 18) rfl hkk).mpr z)
        refine mmW_steps (k := 4) (n := 494) (pc' := 953) (L' := [.val (.int x0), .val (.int x1), .val (.int x2), .val (.long x3), .second, .val (.int fr), .val (.int a), .val (.int b), .val (.int (0 : Int32)), .val (.int jk), .val (.long nm), .second, .val (.int lm), .val (.int v), .val (.int t), .val (.int ((a + b) + (0 : Int32))), .val (.int e0), .val (.ref 0), .val (.ref br), .val (.ref tr), .val (.int ix), .val (.int sp), .val (.long (0 : Int64)), .second, .val (.int (0 : Int32)), .val (.int sp), .val (.int kk), .val (.int (0 : Int32)), .val (.int kk)]) (S' := [.int ((18 : Int32) - kk), .long nm]) (H' := H4) (sl' := ((((((((S26 + 3) + 2) + 0) + 0) + 0) + 0) + 0) + 0)) rfl ?_
        refine mmW_callS (n := 493) rfl rfl rfl (rfl) (Nat.le_of_ble_eq_true rfl) (own_pow _ (18 - K) (own_s18 hkk hbig) (by omega) H4) ?_
        show mmW K_0 I_0 (some .boolean) (493) 956 [.val (.int x0), .val (.int x1), .val (.int x2), .val (.long x3), .second, .val (.int fr), .val (.int a), .val (.int b), .val (.int (0 : Int32)), .val (.int jk), .val (.long nm), .second, .val (.int lm), .val (.int v), .val (.int t), .val (.int ((a + b) + (0 : Int32))), .val (.int e0), .val (.ref 0), .val (.ref br), .val (.ref tr), .val (.int ix), .val (.int sp), .val (.long (0 : Int64)), .second, .val (.int (0 : Int32)), .val (.int sp), .val (.int kk), .val (.int (0 : Int32)), .val (.int kk)] [.long (own_p (18 - K)), .long nm] (H4 ++ [own_P]) (((((((((S26 + 3) + 2) + 0) + 0) + 0) + 0) + 0) + 0) + 19) _
        refine mmW_ldiv (n := 492) rfl (own_pz (by omega)) ?_
        show mmW K_0 I_0 (some .boolean) (492) 957 [.val (.int x0), .val (.int x1), .val (.int x2), .val (.long x3), .second, .val (.int fr), .val (.int a), .val (.int b), .val (.int (0 : Int32)), .val (.int jk), .val (.long nm), .second, .val (.int lm), .val (.int v), .val (.int t), .val (.int ((a + b) + (0 : Int32))), .val (.int e0), .val (.ref 0), .val (.ref br), .val (.ref tr), .val (.int ix), .val (.int sp), .val (.long (0 : Int64)), .second, .val (.int (0 : Int32)), .val (.int sp), .val (.int kk), .val (.int (0 : Int32)), .val (.int kk)] [.long (nm / (own_p (18 - K)))] (H4 ++ [own_P]) (((((((((S26 + 3) + 2) + 0) + 0) + 0) + 0) + 0) + 0) + 19) _
        have nt5 := mmNth_app [own_P] nt4
        have hl5 : (H4 ++ [own_P]).length ≤ 30 := by rw [List.length_append]; simp only [List.length_cons, List.length_nil]; omega
        generalize H4 ++ [own_P] = H5 at nt5 hl5 ⊢
        refine mmW_steps (k := 8) (n := 484) (pc' := (if if_icmp.holds .eq ix sp = true then 984 else 982)) (L' := [.val (.int x0), .val (.int x1), .val (.int x2), .val (.long x3), .second, .val (.int fr), .val (.int a), .val (.int b), .val (.int (0 : Int32)), .val (.int jk), .val (.long nm), .second, .val (.int lm), .val (.int v), .val (.int t), .val (.int ((a + b) + (0 : Int32))), .val (.int e0), .val (.ref 0), .val (.ref br), .val (.ref tr), .val (.int ix), .val (.int sp), .val (.long (nm / (own_p (18 - K)))), .second, .val (.int (0 : Int32)), .val (.int sp), .val (.int kk), .val (.int (0 : Int32)), .val (.int kk)]) (S' := []) (H' := H5) (sl' := (((((((((S26 + 3) + 2) + 0) + 0) + 0) + 0) + 0) + 0) + 19)) rfl ?_
        refine mmW_t (XT.ii_eq_t (own_same q1 hsp (by omega))) ?_
        refine mmW_steps (k := 3) (n := 481) (pc' := (if if_icmp.holds .ne sp (-1 : Int32) = true then 992 else 990)) (L' := [.val (.int x0), .val (.int x1), .val (.int x2), .val (.long x3), .second, .val (.int fr), .val (.int a), .val (.int b), .val (.int (0 : Int32)), .val (.int jk), .val (.long nm), .second, .val (.int lm), .val (.int v), .val (.int t), .val (.int ((a + b) + (0 : Int32))), .val (.int e0), .val (.ref 0), .val (.ref br), .val (.ref tr), .val (.int ix), .val (.int sp), .val (.long (nm / (own_p (18 - K)))), .second, .val (.int (0 : Int32)), .val (.int sp), .val (.int kk), .val (.int (0 : Int32)), .val (.int kk)]) (S' := []) (H' := H5) (sl' := (((((((((S26 + 3) + 2) + 0) + 0) + 0) + 0) + 0) + 0) + 19)) rfl ?_
        refine mmW_t (XT.ii_ne_t (own_nm1 hsp)) ?_
        refine mmW_steps (k := 1) (n := 480) (pc' := 994) (L' := [.val (.int x0), .val (.int x1), .val (.int x2), .val (.long x3), .second, .val (.int fr), .val (.int a), .val (.int b), .val (.int (0 : Int32)), .val (.int jk), .val (.long nm), .second, .val (.int lm), .val (.int v), .val (.int t), .val (.int ((a + b) + (0 : Int32))), .val (.int e0), .val (.ref 0), .val (.ref br), .val (.ref tr), .val (.int ix), .val (.int sp), .val (.long (nm / (own_p (18 - K)))), .second, .val (.int (0 : Int32)), .val (.int sp), .val (.int kk), .val (.int (0 : Int32)), .val (.int kk)]) (S' := [.ref tr]) (H' := H5) (sl' := (((((((((S26 + 3) + 2) + 0) + 0) + 0) + 0) + 0) + 0) + 19)) rfl ?_
        refine mmW_callV (n := 479) rfl rfl rfl (mmRecv_of nt5) (Nat.le_of_ble_eq_true rfl) (own_dgs nt5) ?_
        show mmW K_0 I_0 (some .boolean) (479) 997 [.val (.int x0), .val (.int x1), .val (.int x2), .val (.long x3), .second, .val (.int fr), .val (.int a), .val (.int b), .val (.int (0 : Int32)), .val (.int jk), .val (.long nm), .second, .val (.int lm), .val (.int v), .val (.int t), .val (.int ((a + b) + (0 : Int32))), .val (.int e0), .val (.ref 0), .val (.ref br), .val (.ref tr), .val (.int ix), .val (.int sp), .val (.long (nm / (own_p (18 - K)))), .second, .val (.int (0 : Int32)), .val (.int sp), .val (.int kk), .val (.int (0 : Int32)), .val (.int kk)] [.long z] H5 ((((((((((S26 + 3) + 2) + 0) + 0) + 0) + 0) + 0) + 0) + 19) + 0) _
        refine mmW_steps (k := 3) (n := 476) (pc' := (if ifCond.holds .ne (XT.cmpL z (nm / (own_p (18 - K)))) = true then 1017 else 1003)) (L' := [.val (.int x0), .val (.int x1), .val (.int x2), .val (.long x3), .second, .val (.int fr), .val (.int a), .val (.int b), .val (.int (0 : Int32)), .val (.int jk), .val (.long nm), .second, .val (.int lm), .val (.int v), .val (.int t), .val (.int ((a + b) + (0 : Int32))), .val (.int e0), .val (.ref 0), .val (.ref br), .val (.ref tr), .val (.int ix), .val (.int sp), .val (.long (nm / (own_p (18 - K)))), .second, .val (.int (0 : Int32)), .val (.int sp), .val (.int kk), .val (.int (0 : Int32)), .val (.int kk)]) (S' := []) (H' := H5) (sl' := ((((((((((S26 + 3) + 2) + 0) + 0) + 0) + 0) + 0) + 0) + 19) + 0)) rfl ?_
        refine mmW_f (XT.ll_ne_f (own_sameL (q3 hbig) (own_div hn (by omega)))) ?_
        refine mmW_steps (k := 1) (n := 475) (pc' := 1005) (L' := [.val (.int x0), .val (.int x1), .val (.int x2), .val (.long x3), .second, .val (.int fr), .val (.int a), .val (.int b), .val (.int (0 : Int32)), .val (.int jk), .val (.long nm), .second, .val (.int lm), .val (.int v), .val (.int t), .val (.int ((a + b) + (0 : Int32))), .val (.int e0), .val (.ref 0), .val (.ref br), .val (.ref tr), .val (.int ix), .val (.int sp), .val (.long (nm / (own_p (18 - K)))), .second, .val (.int (0 : Int32)), .val (.int sp), .val (.int kk), .val (.int (0 : Int32)), .val (.int kk)]) (S' := [.ref tr]) (H' := H5) (sl' := ((((((((((S26 + 3) + 2) + 0) + 0) + 0) + 0) + 0) + 0) + 19) + 0)) rfl ?_
        refine mmW_callV (n := 474) rfl rfl rfl (mmRecv_of nt5) (Nat.le_of_ble_eq_true rfl) (own_dcs nt5) ?_
        show mmW K_0 I_0 (some .boolean) (474) 1008 [.val (.int x0), .val (.int x1), .val (.int x2), .val (.long x3), .second, .val (.int fr), .val (.int a), .val (.int b), .val (.int (0 : Int32)), .val (.int jk), .val (.long nm), .second, .val (.int lm), .val (.int v), .val (.int t), .val (.int ((a + b) + (0 : Int32))), .val (.int e0), .val (.ref 0), .val (.ref br), .val (.ref tr), .val (.int ix), .val (.int sp), .val (.long (nm / (own_p (18 - K)))), .second, .val (.int (0 : Int32)), .val (.int sp), .val (.int kk), .val (.int (0 : Int32)), .val (.int kk)] [.int dc] H5 (((((((((((S26 + 3) + 2) + 0) + 0) + 0) + 0) + 0) + 0) + 19) + 0) + 0) _
        refine mmW_steps (k := 2) (n := 472) (pc' := (if if_icmp.holds .ne dc (0 : Int32) = true then 1017 else 1013)) (L' := [.val (.int x0), .val (.int x1), .val (.int x2), .val (.long x3), .second, .val (.int fr), .val (.int a), .val (.int b), .val (.int (0 : Int32)), .val (.int jk), .val (.long nm), .second, .val (.int lm), .val (.int v), .val (.int t), .val (.int ((a + b) + (0 : Int32))), .val (.int e0), .val (.ref 0), .val (.ref br), .val (.ref tr), .val (.int ix), .val (.int sp), .val (.long (nm / (own_p (18 - K)))), .second, .val (.int (0 : Int32)), .val (.int sp), .val (.int kk), .val (.int (0 : Int32)), .val (.int kk)]) (S' := []) (H' := H5) (sl' := (((((((((((S26 + 3) + 2) + 0) + 0) + 0) + 0) + 0) + 0) + 19) + 0) + 0)) rfl ?_
        refine mmW_f (XT.ii_ne_f (own_same q2 (Y := 0) rfl rfl)) ?_
        refine mmW_steps (k := 2) (n := 470) (pc' := 1018) (L' := [.val (.int x0), .val (.int x1), .val (.int x2), .val (.long x3), .second, .val (.int fr), .val (.int a), .val (.int b), .val (.int (0 : Int32)), .val (.int jk), .val (.long nm), .second, .val (.int lm), .val (.int v), .val (.int t), .val (.int ((a + b) + (0 : Int32))), .val (.int e0), .val (.ref 0), .val (.ref br), .val (.ref tr), .val (.int ix), .val (.int sp), .val (.long (nm / (own_p (18 - K)))), .second, .val (.int (0 : Int32)), .val (.int sp), .val (.int kk), .val (.int (0 : Int32)), .val (.int kk)]) (S' := [.int (1 : Int32)]) (H' := H5) (sl' := (((((((((((S26 + 3) + 2) + 0) + 0) + 0) + 0) + 0) + 0) + 19) + 0) + 0)) rfl ?_
        exact mmW_ret (n := 469) (i := .ireturn) rfl rfl ⟨rfl, by omega, by omega⟩
  · have hR := own_rdN H3 tr 0 c fr lm hcl
    refine mmW_callV (n := 533) rfl rfl rfl (mmRecv_of nt3) (Nat.le_of_ble_eq_true rfl) (hR) ?_
    show mmW K_0 I_0 (some .boolean) (533) 822 [.val (.int x0), .val (.int x1), .val (.int x2), .val (.long x3), .second, .val (.int fr), .val (.int a), .val (.int b), .val (.int (0 : Int32)), .val (.int jk), .val (.long nm), .second, .val (.int lm), .val (.int v), .val (.int t), .val (.int ((a + b) + (0 : Int32))), .val (.int e0), .val (.ref 0), .val (.ref br), .val (.ref tr), .unset, .unset, .unset, .unset, .unset, .unset, .unset, .unset, .unset] [.int (-1 : Int32)] H3 (((((((S26 + 3) + 2) + 0) + 0) + 0) + 0) + 0) _
    refine mmW_steps (k := 8) (n := 525) (pc' := (if if_icmp.holds .le lm fr = true then 847 else 837)) (L' := [.val (.int x0), .val (.int x1), .val (.int x2), .val (.long x3), .second, .val (.int fr), .val (.int a), .val (.int b), .val (.int (0 : Int32)), .val (.int jk), .val (.long nm), .second, .val (.int lm), .val (.int v), .val (.int t), .val (.int ((a + b) + (0 : Int32))), .val (.int e0), .val (.ref 0), .val (.ref br), .val (.ref tr), .val (.int (-1 : Int32)), .unset, .val (.long (0 : Int64)), .second, .val (.int (0 : Int32)), .unset, .unset, .unset, .unset]) (S' := []) (H' := H3) (sl' := (((((((S26 + 3) + 2) + 0) + 0) + 0) + 0) + 0)) rfl ?_
    refine mmW_t (XT.ii_le_t (hcl)) ?_
    refine mmW_steps (k := 10) (n := 515) (pc' := 991) (L' := [.val (.int x0), .val (.int x1), .val (.int x2), .val (.long x3), .second, .val (.int fr), .val (.int a), .val (.int b), .val (.int (0 : Int32)), .val (.int jk), .val (.long nm), .second, .val (.int lm), .val (.int v), .val (.int t), .val (.int ((a + b) + (0 : Int32))), .val (.int e0), .val (.ref 0), .val (.ref br), .val (.ref tr), .val (.int (-1 : Int32)), .val (.int (-1 : Int32)), .val (.long (0 : Int64)), .second, .val (.int (0 : Int32)), .unset, .unset, .unset, .unset]) (S' := [.int (1 : Int32)]) (H' := H3) (sl' := (((((((S26 + 3) + 2) + 0) + 0) + 0) + 0) + 0)) rfl ?_
    exact mmW_ret (n := 514) (i := .ireturn) rfl rfl ⟨rfl, by omega, by omega⟩
set_option maxRecDepth 65536 in
set_option maxHeartbeats 40000000 in
theorem own_tail1 (x0 x1 x2 : Int32) (x3 : Int64) (fr a b jk lm v t : Int32) (nm : Int64) (FR A B JK NM : Nat) (hfr : fr.toInt = FR) (gFR : FR ≤ 3) (ha : a.toInt = A) (hb_ : b.toInt = B) (gAB : A + B ≤ 20) (hjk : jk.toInt = JK) (gJ : JK ≤ 9) (hn : nm.toInt = NM) (hN : NM < 10 ^ 18) (hlm26 : lm.toInt ≤ 26) (ht : t.toInt8.toInt32 = t) (ht1 : (t - (48 : Int32)) < 0 ∨ (9 : Int32) < (t - (48 : Int32))) : mmW K_0 I_0 (some .boolean) 900 129 [.val (.int x0), .val (.int x1), .val (.int x2), .val (.long x3), .second, .val (.int fr), .val (.int a), .val (.int b), .val (.int (1 : Int32)), .val (.int jk), .val (.long nm), .second, .val (.int lm), .val (.int v), .val (.int t), .unset, .unset, .unset, .unset, .unset, .unset, .unset, .unset, .unset, .unset, .unset, .unset, .unset, .unset] [] [] 0 (mmLawQ 56 896) := by
  have he0 := own_e01 hfr ha hb_ gFR gAB
  refine mmW_steps (k := 12) (n := 888) (pc' := 152) (L' := [.val (.int x0), .val (.int x1), .val (.int x2), .val (.long x3), .second, .val (.int fr), .val (.int a), .val (.int b), .val (.int (1 : Int32)), .val (.int jk), .val (.long nm), .second, .val (.int lm), .val (.int v), .val (.int t), .val (.int ((a + b) + (1 : Int32))), .unset, .unset, .unset, .unset, .unset, .unset, .unset, .unset, .unset, .unset, .unset, .unset, .unset]) (S' := [.int (fr + ((a + b) + (1 : Int32)))]) (H' := []) (sl' := 0) rfl ?_
  generalize (fr + ((a + b) + (1 : Int32))) = e0 at he0 ⊢
  have gA : A ≤ 20 := by omega
  obtain ⟨E0, hE0⟩ : ∃ E, E = FR + A + B + 1 := ⟨_, rfl⟩
  rw [← hE0] at he0
  have gE1 : FR ≤ E0 := by omega
  have gE2 : E0 ≤ FR + 21 := by omega
  refine mmW_steps (k := 3) (n := 885) (pc' := 158) (L' := [.val (.int x0), .val (.int x1), .val (.int x2), .val (.long x3), .second, .val (.int fr), .val (.int a), .val (.int b), .val (.int (1 : Int32)), .val (.int jk), .val (.long nm), .second, .val (.int lm), .val (.int v), .val (.int t), .val (.int ((a + b) + (1 : Int32))), .val (.int e0), .unset, .unset, .unset, .unset, .unset, .unset, .unset, .unset, .unset, .unset, .unset, .unset]) (S' := [.ref 0]) (H' := [.inr (.byte, [.int (0 : Int32), .int (0 : Int32), .int (0 : Int32), .int (0 : Int32), .int (0 : Int32), .int (0 : Int32), .int (0 : Int32), .int (0 : Int32), .int (0 : Int32), .int (0 : Int32), .int (0 : Int32), .int (0 : Int32), .int (0 : Int32), .int (0 : Int32), .int (0 : Int32), .int (0 : Int32), .int (0 : Int32), .int (0 : Int32), .int (0 : Int32), .int (0 : Int32), .int (0 : Int32), .int (0 : Int32), .int (0 : Int32), .int (0 : Int32), .int (0 : Int32), .int (0 : Int32)])]) (sl' := 26) rfl ?_
  show mmW K_0 I_0 (some .boolean) (885) 158 [.val (.int x0), .val (.int x1), .val (.int x2), .val (.long x3), .second, .val (.int fr), .val (.int a), .val (.int b), .val (.int (1 : Int32)), .val (.int jk), .val (.long nm), .second, .val (.int lm), .val (.int v), .val (.int t), .val (.int ((a + b) + (1 : Int32))), .val (.int e0), .unset, .unset, .unset, .unset, .unset, .unset, .unset, .unset, .unset, .unset, .unset, .unset] [.ref 0] (.inr (.byte, [.int (0 : Int32), .int (0 : Int32), .int (0 : Int32), .int (0 : Int32), .int (0 : Int32), .int (0 : Int32), .int (0 : Int32), .int (0 : Int32), .int (0 : Int32), .int (0 : Int32), .int (0 : Int32), .int (0 : Int32), .int (0 : Int32), .int (0 : Int32), .int (0 : Int32), .int (0 : Int32), .int (0 : Int32), .int (0 : Int32), .int (0 : Int32), .int (0 : Int32), .int (0 : Int32), .int (0 : Int32), .int (0 : Int32), .int (0 : Int32), .int (0 : Int32), .int (0 : Int32)]) :: ([] : MHeap)) 26 _
  have gl0 : ([] : MHeap).length ≤ 0 := Nat.le_of_ble_eq_true rfl
  have sl0 : 26 ≤ 26 := Nat.le_of_ble_eq_true rfl
  refine mmW_steps (k := 10) (n := 875) (pc' := 175) (L' := [.val (.int x0), .val (.int x1), .val (.int x2), .val (.long x3), .second, .val (.int fr), .val (.int a), .val (.int b), .val (.int (1 : Int32)), .val (.int jk), .val (.long nm), .second, .val (.int lm), .val (.int v), .val (.int t), .val (.int ((a + b) + (1 : Int32))), .val (.int e0), .unset, .unset, .unset, .unset, .unset, .unset, .unset, .unset, .unset, .unset, .unset, .unset]) (S' := [.long nm, .int jk, .int t, .int e0, .int (1 : Int32), .int a, .int fr, .int (0 : Int32), .int (0 : Int32), .ref 0, .ref 0]) (H' := (.inr (.byte, [.int (0 : Int32), .int (0 : Int32), .int (0 : Int32), .int (0 : Int32), .int (0 : Int32), .int (0 : Int32), .int (0 : Int32), .int (0 : Int32), .int (0 : Int32), .int (0 : Int32), .int (0 : Int32), .int (0 : Int32), .int (0 : Int32), .int (0 : Int32), .int (0 : Int32), .int (0 : Int32), .int (0 : Int32), .int (0 : Int32), .int (0 : Int32), .int (0 : Int32), .int (0 : Int32), .int (0 : Int32), .int (0 : Int32), .int (0 : Int32), .int (0 : Int32), .int (0 : Int32)]) :: ([] : MHeap))) (sl' := 26) rfl ?_
  obtain ⟨c0, K0, s0, hB, u0, d0, ok0⟩ := own_at1 (0 : Int32) fr a e0 t jk 0 FR A E0 JK rfl hfr ha he0 hjk (Nat.le_of_ble_eq_true rfl) gFR gA gE1 gE2 gJ ht nm NM hn hN (.inr (.byte, [.int (0 : Int32), .int (0 : Int32), .int (0 : Int32), .int (0 : Int32), .int (0 : Int32), .int (0 : Int32), .int (0 : Int32), .int (0 : Int32), .int (0 : Int32), .int (0 : Int32), .int (0 : Int32), .int (0 : Int32), .int (0 : Int32), .int (0 : Int32), .int (0 : Int32), .int (0 : Int32), .int (0 : Int32), .int (0 : Int32), .int (0 : Int32), .int (0 : Int32), .int (0 : Int32), .int (0 : Int32), .int (0 : Int32), .int (0 : Int32), .int (0 : Int32), .int (0 : Int32)]) :: ([] : MHeap))
  refine mmW_callS (n := 874) rfl rfl rfl (rfl) (Nat.le_of_ble_eq_true rfl) (hB) ?_
  show mmW K_0 I_0 (some .boolean) (874) 178 [.val (.int x0), .val (.int x1), .val (.int x2), .val (.long x3), .second, .val (.int fr), .val (.int a), .val (.int b), .val (.int (1 : Int32)), .val (.int jk), .val (.long nm), .second, .val (.int lm), .val (.int v), .val (.int t), .val (.int ((a + b) + (1 : Int32))), .val (.int e0), .unset, .unset, .unset, .unset, .unset, .unset, .unset, .unset, .unset, .unset, .unset, .unset] [.int c0, .int (0 : Int32), .ref 0, .ref 0] (.inr (.byte, [.int (0 : Int32), .int (0 : Int32), .int (0 : Int32), .int (0 : Int32), .int (0 : Int32), .int (0 : Int32), .int (0 : Int32), .int (0 : Int32), .int (0 : Int32), .int (0 : Int32), .int (0 : Int32), .int (0 : Int32), .int (0 : Int32), .int (0 : Int32), .int (0 : Int32), .int (0 : Int32), .int (0 : Int32), .int (0 : Int32), .int (0 : Int32), .int (0 : Int32), .int (0 : Int32), .int (0 : Int32), .int (0 : Int32), .int (0 : Int32), .int (0 : Int32), .int (0 : Int32)]) :: (([] : MHeap) ++ K0)) (26 + s0) _
  have gl1 : (([] : MHeap) ++ K0).length ≤ 1 := by rw [List.length_append]; omega
  have sl1 : (26 + s0) ≤ 45 := by omega
  clear hB
  generalize ([] : MHeap) ++ K0 = G1 at gl1 ⊢
  generalize (26 + s0) = S1 at sl1 ⊢
  refine mmW_steps (k := 1) (n := 873) (pc' := 179) (L' := [.val (.int x0), .val (.int x1), .val (.int x2), .val (.long x3), .second, .val (.int fr), .val (.int a), .val (.int b), .val (.int (1 : Int32)), .val (.int jk), .val (.long nm), .second, .val (.int lm), .val (.int v), .val (.int t), .val (.int ((a + b) + (1 : Int32))), .val (.int e0), .unset, .unset, .unset, .unset, .unset, .unset, .unset, .unset, .unset, .unset, .unset, .unset]) (S' := [.ref 0]) (H' := (.inr (.byte, [.int c0.toInt8.toInt32, .int (0 : Int32), .int (0 : Int32), .int (0 : Int32), .int (0 : Int32), .int (0 : Int32), .int (0 : Int32), .int (0 : Int32), .int (0 : Int32), .int (0 : Int32), .int (0 : Int32), .int (0 : Int32), .int (0 : Int32), .int (0 : Int32), .int (0 : Int32), .int (0 : Int32), .int (0 : Int32), .int (0 : Int32), .int (0 : Int32), .int (0 : Int32), .int (0 : Int32), .int (0 : Int32), .int (0 : Int32), .int (0 : Int32), .int (0 : Int32), .int (0 : Int32)]) :: G1)) (sl' := S1) rfl ?_
  rw [ok0.1]
  refine mmW_steps (k := 10) (n := 863) (pc' := 196) (L' := [.val (.int x0), .val (.int x1), .val (.int x2), .val (.long x3), .second, .val (.int fr), .val (.int a), .val (.int b), .val (.int (1 : Int32)), .val (.int jk), .val (.long nm), .second, .val (.int lm), .val (.int v), .val (.int t), .val (.int ((a + b) + (1 : Int32))), .val (.int e0), .unset, .unset, .unset, .unset, .unset, .unset, .unset, .unset, .unset, .unset, .unset, .unset]) (S' := [.long nm, .int jk, .int t, .int e0, .int (1 : Int32), .int a, .int fr, .int (1 : Int32), .int (1 : Int32), .ref 0, .ref 0]) (H' := (.inr (.byte, [.int c0, .int (0 : Int32), .int (0 : Int32), .int (0 : Int32), .int (0 : Int32), .int (0 : Int32), .int (0 : Int32), .int (0 : Int32), .int (0 : Int32), .int (0 : Int32), .int (0 : Int32), .int (0 : Int32), .int (0 : Int32), .int (0 : Int32), .int (0 : Int32), .int (0 : Int32), .int (0 : Int32), .int (0 : Int32), .int (0 : Int32), .int (0 : Int32), .int (0 : Int32), .int (0 : Int32), .int (0 : Int32), .int (0 : Int32), .int (0 : Int32), .int (0 : Int32)]) :: G1)) (sl' := S1) rfl ?_
  obtain ⟨c1, K1, s1, hB, u1, d1, ok1⟩ := own_at1 (1 : Int32) fr a e0 t jk 1 FR A E0 JK rfl hfr ha he0 hjk (Nat.le_of_ble_eq_true rfl) gFR gA gE1 gE2 gJ ht nm NM hn hN (.inr (.byte, [.int c0, .int (0 : Int32), .int (0 : Int32), .int (0 : Int32), .int (0 : Int32), .int (0 : Int32), .int (0 : Int32), .int (0 : Int32), .int (0 : Int32), .int (0 : Int32), .int (0 : Int32), .int (0 : Int32), .int (0 : Int32), .int (0 : Int32), .int (0 : Int32), .int (0 : Int32), .int (0 : Int32), .int (0 : Int32), .int (0 : Int32), .int (0 : Int32), .int (0 : Int32), .int (0 : Int32), .int (0 : Int32), .int (0 : Int32), .int (0 : Int32), .int (0 : Int32)]) :: G1)
  refine mmW_callS (n := 862) rfl rfl rfl (rfl) (Nat.le_of_ble_eq_true rfl) (hB) ?_
  show mmW K_0 I_0 (some .boolean) (862) 199 [.val (.int x0), .val (.int x1), .val (.int x2), .val (.long x3), .second, .val (.int fr), .val (.int a), .val (.int b), .val (.int (1 : Int32)), .val (.int jk), .val (.long nm), .second, .val (.int lm), .val (.int v), .val (.int t), .val (.int ((a + b) + (1 : Int32))), .val (.int e0), .unset, .unset, .unset, .unset, .unset, .unset, .unset, .unset, .unset, .unset, .unset, .unset] [.int c1, .int (1 : Int32), .ref 0, .ref 0] (.inr (.byte, [.int c0, .int (0 : Int32), .int (0 : Int32), .int (0 : Int32), .int (0 : Int32), .int (0 : Int32), .int (0 : Int32), .int (0 : Int32), .int (0 : Int32), .int (0 : Int32), .int (0 : Int32), .int (0 : Int32), .int (0 : Int32), .int (0 : Int32), .int (0 : Int32), .int (0 : Int32), .int (0 : Int32), .int (0 : Int32), .int (0 : Int32), .int (0 : Int32), .int (0 : Int32), .int (0 : Int32), .int (0 : Int32), .int (0 : Int32), .int (0 : Int32), .int (0 : Int32)]) :: (G1 ++ K1)) (S1 + s1) _
  have gl2 : (G1 ++ K1).length ≤ 2 := by rw [List.length_append]; omega
  have sl2 : (S1 + s1) ≤ 64 := by omega
  clear hB
  generalize G1 ++ K1 = G2 at gl2 ⊢
  generalize (S1 + s1) = S2 at sl2 ⊢
  refine mmW_steps (k := 1) (n := 861) (pc' := 200) (L' := [.val (.int x0), .val (.int x1), .val (.int x2), .val (.long x3), .second, .val (.int fr), .val (.int a), .val (.int b), .val (.int (1 : Int32)), .val (.int jk), .val (.long nm), .second, .val (.int lm), .val (.int v), .val (.int t), .val (.int ((a + b) + (1 : Int32))), .val (.int e0), .unset, .unset, .unset, .unset, .unset, .unset, .unset, .unset, .unset, .unset, .unset, .unset]) (S' := [.ref 0]) (H' := (.inr (.byte, [.int c0, .int c1.toInt8.toInt32, .int (0 : Int32), .int (0 : Int32), .int (0 : Int32), .int (0 : Int32), .int (0 : Int32), .int (0 : Int32), .int (0 : Int32), .int (0 : Int32), .int (0 : Int32), .int (0 : Int32), .int (0 : Int32), .int (0 : Int32), .int (0 : Int32), .int (0 : Int32), .int (0 : Int32), .int (0 : Int32), .int (0 : Int32), .int (0 : Int32), .int (0 : Int32), .int (0 : Int32), .int (0 : Int32), .int (0 : Int32), .int (0 : Int32), .int (0 : Int32)]) :: G2)) (sl' := S2) rfl ?_
  rw [ok1.1]
  refine mmW_steps (k := 10) (n := 851) (pc' := 217) (L' := [.val (.int x0), .val (.int x1), .val (.int x2), .val (.long x3), .second, .val (.int fr), .val (.int a), .val (.int b), .val (.int (1 : Int32)), .val (.int jk), .val (.long nm), .second, .val (.int lm), .val (.int v), .val (.int t), .val (.int ((a + b) + (1 : Int32))), .val (.int e0), .unset, .unset, .unset, .unset, .unset, .unset, .unset, .unset, .unset, .unset, .unset, .unset]) (S' := [.long nm, .int jk, .int t, .int e0, .int (1 : Int32), .int a, .int fr, .int (2 : Int32), .int (2 : Int32), .ref 0, .ref 0]) (H' := (.inr (.byte, [.int c0, .int c1, .int (0 : Int32), .int (0 : Int32), .int (0 : Int32), .int (0 : Int32), .int (0 : Int32), .int (0 : Int32), .int (0 : Int32), .int (0 : Int32), .int (0 : Int32), .int (0 : Int32), .int (0 : Int32), .int (0 : Int32), .int (0 : Int32), .int (0 : Int32), .int (0 : Int32), .int (0 : Int32), .int (0 : Int32), .int (0 : Int32), .int (0 : Int32), .int (0 : Int32), .int (0 : Int32), .int (0 : Int32), .int (0 : Int32), .int (0 : Int32)]) :: G2)) (sl' := S2) rfl ?_
  obtain ⟨c2, K2, s2, hB, u2, d2, ok2⟩ := own_at1 (2 : Int32) fr a e0 t jk 2 FR A E0 JK rfl hfr ha he0 hjk (Nat.le_of_ble_eq_true rfl) gFR gA gE1 gE2 gJ ht nm NM hn hN (.inr (.byte, [.int c0, .int c1, .int (0 : Int32), .int (0 : Int32), .int (0 : Int32), .int (0 : Int32), .int (0 : Int32), .int (0 : Int32), .int (0 : Int32), .int (0 : Int32), .int (0 : Int32), .int (0 : Int32), .int (0 : Int32), .int (0 : Int32), .int (0 : Int32), .int (0 : Int32), .int (0 : Int32), .int (0 : Int32), .int (0 : Int32), .int (0 : Int32), .int (0 : Int32), .int (0 : Int32), .int (0 : Int32), .int (0 : Int32), .int (0 : Int32), .int (0 : Int32)]) :: G2)
  refine mmW_callS (n := 850) rfl rfl rfl (rfl) (Nat.le_of_ble_eq_true rfl) (hB) ?_
  show mmW K_0 I_0 (some .boolean) (850) 220 [.val (.int x0), .val (.int x1), .val (.int x2), .val (.long x3), .second, .val (.int fr), .val (.int a), .val (.int b), .val (.int (1 : Int32)), .val (.int jk), .val (.long nm), .second, .val (.int lm), .val (.int v), .val (.int t), .val (.int ((a + b) + (1 : Int32))), .val (.int e0), .unset, .unset, .unset, .unset, .unset, .unset, .unset, .unset, .unset, .unset, .unset, .unset] [.int c2, .int (2 : Int32), .ref 0, .ref 0] (.inr (.byte, [.int c0, .int c1, .int (0 : Int32), .int (0 : Int32), .int (0 : Int32), .int (0 : Int32), .int (0 : Int32), .int (0 : Int32), .int (0 : Int32), .int (0 : Int32), .int (0 : Int32), .int (0 : Int32), .int (0 : Int32), .int (0 : Int32), .int (0 : Int32), .int (0 : Int32), .int (0 : Int32), .int (0 : Int32), .int (0 : Int32), .int (0 : Int32), .int (0 : Int32), .int (0 : Int32), .int (0 : Int32), .int (0 : Int32), .int (0 : Int32), .int (0 : Int32)]) :: (G2 ++ K2)) (S2 + s2) _
  have gl3 : (G2 ++ K2).length ≤ 3 := by rw [List.length_append]; omega
  have sl3 : (S2 + s2) ≤ 83 := by omega
  clear hB
  generalize G2 ++ K2 = G3 at gl3 ⊢
  generalize (S2 + s2) = S3 at sl3 ⊢
  refine mmW_steps (k := 1) (n := 849) (pc' := 221) (L' := [.val (.int x0), .val (.int x1), .val (.int x2), .val (.long x3), .second, .val (.int fr), .val (.int a), .val (.int b), .val (.int (1 : Int32)), .val (.int jk), .val (.long nm), .second, .val (.int lm), .val (.int v), .val (.int t), .val (.int ((a + b) + (1 : Int32))), .val (.int e0), .unset, .unset, .unset, .unset, .unset, .unset, .unset, .unset, .unset, .unset, .unset, .unset]) (S' := [.ref 0]) (H' := (.inr (.byte, [.int c0, .int c1, .int c2.toInt8.toInt32, .int (0 : Int32), .int (0 : Int32), .int (0 : Int32), .int (0 : Int32), .int (0 : Int32), .int (0 : Int32), .int (0 : Int32), .int (0 : Int32), .int (0 : Int32), .int (0 : Int32), .int (0 : Int32), .int (0 : Int32), .int (0 : Int32), .int (0 : Int32), .int (0 : Int32), .int (0 : Int32), .int (0 : Int32), .int (0 : Int32), .int (0 : Int32), .int (0 : Int32), .int (0 : Int32), .int (0 : Int32), .int (0 : Int32)]) :: G3)) (sl' := S3) rfl ?_
  rw [ok2.1]
  refine mmW_steps (k := 10) (n := 839) (pc' := 238) (L' := [.val (.int x0), .val (.int x1), .val (.int x2), .val (.long x3), .second, .val (.int fr), .val (.int a), .val (.int b), .val (.int (1 : Int32)), .val (.int jk), .val (.long nm), .second, .val (.int lm), .val (.int v), .val (.int t), .val (.int ((a + b) + (1 : Int32))), .val (.int e0), .unset, .unset, .unset, .unset, .unset, .unset, .unset, .unset, .unset, .unset, .unset, .unset]) (S' := [.long nm, .int jk, .int t, .int e0, .int (1 : Int32), .int a, .int fr, .int (3 : Int32), .int (3 : Int32), .ref 0, .ref 0]) (H' := (.inr (.byte, [.int c0, .int c1, .int c2, .int (0 : Int32), .int (0 : Int32), .int (0 : Int32), .int (0 : Int32), .int (0 : Int32), .int (0 : Int32), .int (0 : Int32), .int (0 : Int32), .int (0 : Int32), .int (0 : Int32), .int (0 : Int32), .int (0 : Int32), .int (0 : Int32), .int (0 : Int32), .int (0 : Int32), .int (0 : Int32), .int (0 : Int32), .int (0 : Int32), .int (0 : Int32), .int (0 : Int32), .int (0 : Int32), .int (0 : Int32), .int (0 : Int32)]) :: G3)) (sl' := S3) rfl ?_
  obtain ⟨c3, K3, s3, hB, u3, d3, ok3⟩ := own_at1 (3 : Int32) fr a e0 t jk 3 FR A E0 JK rfl hfr ha he0 hjk (Nat.le_of_ble_eq_true rfl) gFR gA gE1 gE2 gJ ht nm NM hn hN (.inr (.byte, [.int c0, .int c1, .int c2, .int (0 : Int32), .int (0 : Int32), .int (0 : Int32), .int (0 : Int32), .int (0 : Int32), .int (0 : Int32), .int (0 : Int32), .int (0 : Int32), .int (0 : Int32), .int (0 : Int32), .int (0 : Int32), .int (0 : Int32), .int (0 : Int32), .int (0 : Int32), .int (0 : Int32), .int (0 : Int32), .int (0 : Int32), .int (0 : Int32), .int (0 : Int32), .int (0 : Int32), .int (0 : Int32), .int (0 : Int32), .int (0 : Int32)]) :: G3)
  refine mmW_callS (n := 838) rfl rfl rfl (rfl) (Nat.le_of_ble_eq_true rfl) (hB) ?_
  show mmW K_0 I_0 (some .boolean) (838) 241 [.val (.int x0), .val (.int x1), .val (.int x2), .val (.long x3), .second, .val (.int fr), .val (.int a), .val (.int b), .val (.int (1 : Int32)), .val (.int jk), .val (.long nm), .second, .val (.int lm), .val (.int v), .val (.int t), .val (.int ((a + b) + (1 : Int32))), .val (.int e0), .unset, .unset, .unset, .unset, .unset, .unset, .unset, .unset, .unset, .unset, .unset, .unset] [.int c3, .int (3 : Int32), .ref 0, .ref 0] (.inr (.byte, [.int c0, .int c1, .int c2, .int (0 : Int32), .int (0 : Int32), .int (0 : Int32), .int (0 : Int32), .int (0 : Int32), .int (0 : Int32), .int (0 : Int32), .int (0 : Int32), .int (0 : Int32), .int (0 : Int32), .int (0 : Int32), .int (0 : Int32), .int (0 : Int32), .int (0 : Int32), .int (0 : Int32), .int (0 : Int32), .int (0 : Int32), .int (0 : Int32), .int (0 : Int32), .int (0 : Int32), .int (0 : Int32), .int (0 : Int32), .int (0 : Int32)]) :: (G3 ++ K3)) (S3 + s3) _
  have gl4 : (G3 ++ K3).length ≤ 4 := by rw [List.length_append]; omega
  have sl4 : (S3 + s3) ≤ 102 := by omega
  clear hB
  generalize G3 ++ K3 = G4 at gl4 ⊢
  generalize (S3 + s3) = S4 at sl4 ⊢
  refine mmW_steps (k := 1) (n := 837) (pc' := 242) (L' := [.val (.int x0), .val (.int x1), .val (.int x2), .val (.long x3), .second, .val (.int fr), .val (.int a), .val (.int b), .val (.int (1 : Int32)), .val (.int jk), .val (.long nm), .second, .val (.int lm), .val (.int v), .val (.int t), .val (.int ((a + b) + (1 : Int32))), .val (.int e0), .unset, .unset, .unset, .unset, .unset, .unset, .unset, .unset, .unset, .unset, .unset, .unset]) (S' := [.ref 0]) (H' := (.inr (.byte, [.int c0, .int c1, .int c2, .int c3.toInt8.toInt32, .int (0 : Int32), .int (0 : Int32), .int (0 : Int32), .int (0 : Int32), .int (0 : Int32), .int (0 : Int32), .int (0 : Int32), .int (0 : Int32), .int (0 : Int32), .int (0 : Int32), .int (0 : Int32), .int (0 : Int32), .int (0 : Int32), .int (0 : Int32), .int (0 : Int32), .int (0 : Int32), .int (0 : Int32), .int (0 : Int32), .int (0 : Int32), .int (0 : Int32), .int (0 : Int32), .int (0 : Int32)]) :: G4)) (sl' := S4) rfl ?_
  rw [ok3.1]
  refine mmW_steps (k := 10) (n := 827) (pc' := 259) (L' := [.val (.int x0), .val (.int x1), .val (.int x2), .val (.long x3), .second, .val (.int fr), .val (.int a), .val (.int b), .val (.int (1 : Int32)), .val (.int jk), .val (.long nm), .second, .val (.int lm), .val (.int v), .val (.int t), .val (.int ((a + b) + (1 : Int32))), .val (.int e0), .unset, .unset, .unset, .unset, .unset, .unset, .unset, .unset, .unset, .unset, .unset, .unset]) (S' := [.long nm, .int jk, .int t, .int e0, .int (1 : Int32), .int a, .int fr, .int (4 : Int32), .int (4 : Int32), .ref 0, .ref 0]) (H' := (.inr (.byte, [.int c0, .int c1, .int c2, .int c3, .int (0 : Int32), .int (0 : Int32), .int (0 : Int32), .int (0 : Int32), .int (0 : Int32), .int (0 : Int32), .int (0 : Int32), .int (0 : Int32), .int (0 : Int32), .int (0 : Int32), .int (0 : Int32), .int (0 : Int32), .int (0 : Int32), .int (0 : Int32), .int (0 : Int32), .int (0 : Int32), .int (0 : Int32), .int (0 : Int32), .int (0 : Int32), .int (0 : Int32), .int (0 : Int32), .int (0 : Int32)]) :: G4)) (sl' := S4) rfl ?_
  obtain ⟨c4, K4, s4, hB, u4, d4, ok4⟩ := own_at1 (4 : Int32) fr a e0 t jk 4 FR A E0 JK rfl hfr ha he0 hjk (Nat.le_of_ble_eq_true rfl) gFR gA gE1 gE2 gJ ht nm NM hn hN (.inr (.byte, [.int c0, .int c1, .int c2, .int c3, .int (0 : Int32), .int (0 : Int32), .int (0 : Int32), .int (0 : Int32), .int (0 : Int32), .int (0 : Int32), .int (0 : Int32), .int (0 : Int32), .int (0 : Int32), .int (0 : Int32), .int (0 : Int32), .int (0 : Int32), .int (0 : Int32), .int (0 : Int32), .int (0 : Int32), .int (0 : Int32), .int (0 : Int32), .int (0 : Int32), .int (0 : Int32), .int (0 : Int32), .int (0 : Int32), .int (0 : Int32)]) :: G4)
  refine mmW_callS (n := 826) rfl rfl rfl (rfl) (Nat.le_of_ble_eq_true rfl) (hB) ?_
  show mmW K_0 I_0 (some .boolean) (826) 262 [.val (.int x0), .val (.int x1), .val (.int x2), .val (.long x3), .second, .val (.int fr), .val (.int a), .val (.int b), .val (.int (1 : Int32)), .val (.int jk), .val (.long nm), .second, .val (.int lm), .val (.int v), .val (.int t), .val (.int ((a + b) + (1 : Int32))), .val (.int e0), .unset, .unset, .unset, .unset, .unset, .unset, .unset, .unset, .unset, .unset, .unset, .unset] [.int c4, .int (4 : Int32), .ref 0, .ref 0] (.inr (.byte, [.int c0, .int c1, .int c2, .int c3, .int (0 : Int32), .int (0 : Int32), .int (0 : Int32), .int (0 : Int32), .int (0 : Int32), .int (0 : Int32), .int (0 : Int32), .int (0 : Int32), .int (0 : Int32), .int (0 : Int32), .int (0 : Int32), .int (0 : Int32), .int (0 : Int32), .int (0 : Int32), .int (0 : Int32), .int (0 : Int32), .int (0 : Int32), .int (0 : Int32), .int (0 : Int32), .int (0 : Int32), .int (0 : Int32), .int (0 : Int32)]) :: (G4 ++ K4)) (S4 + s4) _
  have gl5 : (G4 ++ K4).length ≤ 5 := by rw [List.length_append]; omega
  have sl5 : (S4 + s4) ≤ 121 := by omega
  clear hB
  generalize G4 ++ K4 = G5 at gl5 ⊢
  generalize (S4 + s4) = S5 at sl5 ⊢
  refine mmW_steps (k := 1) (n := 825) (pc' := 263) (L' := [.val (.int x0), .val (.int x1), .val (.int x2), .val (.long x3), .second, .val (.int fr), .val (.int a), .val (.int b), .val (.int (1 : Int32)), .val (.int jk), .val (.long nm), .second, .val (.int lm), .val (.int v), .val (.int t), .val (.int ((a + b) + (1 : Int32))), .val (.int e0), .unset, .unset, .unset, .unset, .unset, .unset, .unset, .unset, .unset, .unset, .unset, .unset]) (S' := [.ref 0]) (H' := (.inr (.byte, [.int c0, .int c1, .int c2, .int c3, .int c4.toInt8.toInt32, .int (0 : Int32), .int (0 : Int32), .int (0 : Int32), .int (0 : Int32), .int (0 : Int32), .int (0 : Int32), .int (0 : Int32), .int (0 : Int32), .int (0 : Int32), .int (0 : Int32), .int (0 : Int32), .int (0 : Int32), .int (0 : Int32), .int (0 : Int32), .int (0 : Int32), .int (0 : Int32), .int (0 : Int32), .int (0 : Int32), .int (0 : Int32), .int (0 : Int32), .int (0 : Int32)]) :: G5)) (sl' := S5) rfl ?_
  rw [ok4.1]
  refine mmW_steps (k := 10) (n := 815) (pc' := 280) (L' := [.val (.int x0), .val (.int x1), .val (.int x2), .val (.long x3), .second, .val (.int fr), .val (.int a), .val (.int b), .val (.int (1 : Int32)), .val (.int jk), .val (.long nm), .second, .val (.int lm), .val (.int v), .val (.int t), .val (.int ((a + b) + (1 : Int32))), .val (.int e0), .unset, .unset, .unset, .unset, .unset, .unset, .unset, .unset, .unset, .unset, .unset, .unset]) (S' := [.long nm, .int jk, .int t, .int e0, .int (1 : Int32), .int a, .int fr, .int (5 : Int32), .int (5 : Int32), .ref 0, .ref 0]) (H' := (.inr (.byte, [.int c0, .int c1, .int c2, .int c3, .int c4, .int (0 : Int32), .int (0 : Int32), .int (0 : Int32), .int (0 : Int32), .int (0 : Int32), .int (0 : Int32), .int (0 : Int32), .int (0 : Int32), .int (0 : Int32), .int (0 : Int32), .int (0 : Int32), .int (0 : Int32), .int (0 : Int32), .int (0 : Int32), .int (0 : Int32), .int (0 : Int32), .int (0 : Int32), .int (0 : Int32), .int (0 : Int32), .int (0 : Int32), .int (0 : Int32)]) :: G5)) (sl' := S5) rfl ?_
  obtain ⟨c5, K5, s5, hB, u5, d5, ok5⟩ := own_at1 (5 : Int32) fr a e0 t jk 5 FR A E0 JK rfl hfr ha he0 hjk (Nat.le_of_ble_eq_true rfl) gFR gA gE1 gE2 gJ ht nm NM hn hN (.inr (.byte, [.int c0, .int c1, .int c2, .int c3, .int c4, .int (0 : Int32), .int (0 : Int32), .int (0 : Int32), .int (0 : Int32), .int (0 : Int32), .int (0 : Int32), .int (0 : Int32), .int (0 : Int32), .int (0 : Int32), .int (0 : Int32), .int (0 : Int32), .int (0 : Int32), .int (0 : Int32), .int (0 : Int32), .int (0 : Int32), .int (0 : Int32), .int (0 : Int32), .int (0 : Int32), .int (0 : Int32), .int (0 : Int32), .int (0 : Int32)]) :: G5)
  refine mmW_callS (n := 814) rfl rfl rfl (rfl) (Nat.le_of_ble_eq_true rfl) (hB) ?_
  show mmW K_0 I_0 (some .boolean) (814) 283 [.val (.int x0), .val (.int x1), .val (.int x2), .val (.long x3), .second, .val (.int fr), .val (.int a), .val (.int b), .val (.int (1 : Int32)), .val (.int jk), .val (.long nm), .second, .val (.int lm), .val (.int v), .val (.int t), .val (.int ((a + b) + (1 : Int32))), .val (.int e0), .unset, .unset, .unset, .unset, .unset, .unset, .unset, .unset, .unset, .unset, .unset, .unset] [.int c5, .int (5 : Int32), .ref 0, .ref 0] (.inr (.byte, [.int c0, .int c1, .int c2, .int c3, .int c4, .int (0 : Int32), .int (0 : Int32), .int (0 : Int32), .int (0 : Int32), .int (0 : Int32), .int (0 : Int32), .int (0 : Int32), .int (0 : Int32), .int (0 : Int32), .int (0 : Int32), .int (0 : Int32), .int (0 : Int32), .int (0 : Int32), .int (0 : Int32), .int (0 : Int32), .int (0 : Int32), .int (0 : Int32), .int (0 : Int32), .int (0 : Int32), .int (0 : Int32), .int (0 : Int32)]) :: (G5 ++ K5)) (S5 + s5) _
  have gl6 : (G5 ++ K5).length ≤ 6 := by rw [List.length_append]; omega
  have sl6 : (S5 + s5) ≤ 140 := by omega
  clear hB
  generalize G5 ++ K5 = G6 at gl6 ⊢
  generalize (S5 + s5) = S6 at sl6 ⊢
  refine mmW_steps (k := 1) (n := 813) (pc' := 284) (L' := [.val (.int x0), .val (.int x1), .val (.int x2), .val (.long x3), .second, .val (.int fr), .val (.int a), .val (.int b), .val (.int (1 : Int32)), .val (.int jk), .val (.long nm), .second, .val (.int lm), .val (.int v), .val (.int t), .val (.int ((a + b) + (1 : Int32))), .val (.int e0), .unset, .unset, .unset, .unset, .unset, .unset, .unset, .unset, .unset, .unset, .unset, .unset]) (S' := [.ref 0]) (H' := (.inr (.byte, [.int c0, .int c1, .int c2, .int c3, .int c4, .int c5.toInt8.toInt32, .int (0 : Int32), .int (0 : Int32), .int (0 : Int32), .int (0 : Int32), .int (0 : Int32), .int (0 : Int32), .int (0 : Int32), .int (0 : Int32), .int (0 : Int32), .int (0 : Int32), .int (0 : Int32), .int (0 : Int32), .int (0 : Int32), .int (0 : Int32), .int (0 : Int32), .int (0 : Int32), .int (0 : Int32), .int (0 : Int32), .int (0 : Int32), .int (0 : Int32)]) :: G6)) (sl' := S6) rfl ?_
  rw [ok5.1]
  refine mmW_steps (k := 10) (n := 803) (pc' := 303) (L' := [.val (.int x0), .val (.int x1), .val (.int x2), .val (.long x3), .second, .val (.int fr), .val (.int a), .val (.int b), .val (.int (1 : Int32)), .val (.int jk), .val (.long nm), .second, .val (.int lm), .val (.int v), .val (.int t), .val (.int ((a + b) + (1 : Int32))), .val (.int e0), .unset, .unset, .unset, .unset, .unset, .unset, .unset, .unset, .unset, .unset, .unset, .unset]) (S' := [.long nm, .int jk, .int t, .int e0, .int (1 : Int32), .int a, .int fr, .int (6 : Int32), .int (6 : Int32), .ref 0, .ref 0]) (H' := (.inr (.byte, [.int c0, .int c1, .int c2, .int c3, .int c4, .int c5, .int (0 : Int32), .int (0 : Int32), .int (0 : Int32), .int (0 : Int32), .int (0 : Int32), .int (0 : Int32), .int (0 : Int32), .int (0 : Int32), .int (0 : Int32), .int (0 : Int32), .int (0 : Int32), .int (0 : Int32), .int (0 : Int32), .int (0 : Int32), .int (0 : Int32), .int (0 : Int32), .int (0 : Int32), .int (0 : Int32), .int (0 : Int32), .int (0 : Int32)]) :: G6)) (sl' := S6) rfl ?_
  obtain ⟨c6, K6, s6, hB, u6, d6, ok6⟩ := own_at1 (6 : Int32) fr a e0 t jk 6 FR A E0 JK rfl hfr ha he0 hjk (Nat.le_of_ble_eq_true rfl) gFR gA gE1 gE2 gJ ht nm NM hn hN (.inr (.byte, [.int c0, .int c1, .int c2, .int c3, .int c4, .int c5, .int (0 : Int32), .int (0 : Int32), .int (0 : Int32), .int (0 : Int32), .int (0 : Int32), .int (0 : Int32), .int (0 : Int32), .int (0 : Int32), .int (0 : Int32), .int (0 : Int32), .int (0 : Int32), .int (0 : Int32), .int (0 : Int32), .int (0 : Int32), .int (0 : Int32), .int (0 : Int32), .int (0 : Int32), .int (0 : Int32), .int (0 : Int32), .int (0 : Int32)]) :: G6)
  refine mmW_callS (n := 802) rfl rfl rfl (rfl) (Nat.le_of_ble_eq_true rfl) (hB) ?_
  show mmW K_0 I_0 (some .boolean) (802) 306 [.val (.int x0), .val (.int x1), .val (.int x2), .val (.long x3), .second, .val (.int fr), .val (.int a), .val (.int b), .val (.int (1 : Int32)), .val (.int jk), .val (.long nm), .second, .val (.int lm), .val (.int v), .val (.int t), .val (.int ((a + b) + (1 : Int32))), .val (.int e0), .unset, .unset, .unset, .unset, .unset, .unset, .unset, .unset, .unset, .unset, .unset, .unset] [.int c6, .int (6 : Int32), .ref 0, .ref 0] (.inr (.byte, [.int c0, .int c1, .int c2, .int c3, .int c4, .int c5, .int (0 : Int32), .int (0 : Int32), .int (0 : Int32), .int (0 : Int32), .int (0 : Int32), .int (0 : Int32), .int (0 : Int32), .int (0 : Int32), .int (0 : Int32), .int (0 : Int32), .int (0 : Int32), .int (0 : Int32), .int (0 : Int32), .int (0 : Int32), .int (0 : Int32), .int (0 : Int32), .int (0 : Int32), .int (0 : Int32), .int (0 : Int32), .int (0 : Int32)]) :: (G6 ++ K6)) (S6 + s6) _
  have gl7 : (G6 ++ K6).length ≤ 7 := by rw [List.length_append]; omega
  have sl7 : (S6 + s6) ≤ 159 := by omega
  clear hB
  generalize G6 ++ K6 = G7 at gl7 ⊢
  generalize (S6 + s6) = S7 at sl7 ⊢
  refine mmW_steps (k := 1) (n := 801) (pc' := 307) (L' := [.val (.int x0), .val (.int x1), .val (.int x2), .val (.long x3), .second, .val (.int fr), .val (.int a), .val (.int b), .val (.int (1 : Int32)), .val (.int jk), .val (.long nm), .second, .val (.int lm), .val (.int v), .val (.int t), .val (.int ((a + b) + (1 : Int32))), .val (.int e0), .unset, .unset, .unset, .unset, .unset, .unset, .unset, .unset, .unset, .unset, .unset, .unset]) (S' := [.ref 0]) (H' := (.inr (.byte, [.int c0, .int c1, .int c2, .int c3, .int c4, .int c5, .int c6.toInt8.toInt32, .int (0 : Int32), .int (0 : Int32), .int (0 : Int32), .int (0 : Int32), .int (0 : Int32), .int (0 : Int32), .int (0 : Int32), .int (0 : Int32), .int (0 : Int32), .int (0 : Int32), .int (0 : Int32), .int (0 : Int32), .int (0 : Int32), .int (0 : Int32), .int (0 : Int32), .int (0 : Int32), .int (0 : Int32), .int (0 : Int32), .int (0 : Int32)]) :: G7)) (sl' := S7) rfl ?_
  rw [ok6.1]
  refine mmW_steps (k := 10) (n := 791) (pc' := 326) (L' := [.val (.int x0), .val (.int x1), .val (.int x2), .val (.long x3), .second, .val (.int fr), .val (.int a), .val (.int b), .val (.int (1 : Int32)), .val (.int jk), .val (.long nm), .second, .val (.int lm), .val (.int v), .val (.int t), .val (.int ((a + b) + (1 : Int32))), .val (.int e0), .unset, .unset, .unset, .unset, .unset, .unset, .unset, .unset, .unset, .unset, .unset, .unset]) (S' := [.long nm, .int jk, .int t, .int e0, .int (1 : Int32), .int a, .int fr, .int (7 : Int32), .int (7 : Int32), .ref 0, .ref 0]) (H' := (.inr (.byte, [.int c0, .int c1, .int c2, .int c3, .int c4, .int c5, .int c6, .int (0 : Int32), .int (0 : Int32), .int (0 : Int32), .int (0 : Int32), .int (0 : Int32), .int (0 : Int32), .int (0 : Int32), .int (0 : Int32), .int (0 : Int32), .int (0 : Int32), .int (0 : Int32), .int (0 : Int32), .int (0 : Int32), .int (0 : Int32), .int (0 : Int32), .int (0 : Int32), .int (0 : Int32), .int (0 : Int32), .int (0 : Int32)]) :: G7)) (sl' := S7) rfl ?_
  obtain ⟨c7, K7, s7, hB, u7, d7, ok7⟩ := own_at1 (7 : Int32) fr a e0 t jk 7 FR A E0 JK rfl hfr ha he0 hjk (Nat.le_of_ble_eq_true rfl) gFR gA gE1 gE2 gJ ht nm NM hn hN (.inr (.byte, [.int c0, .int c1, .int c2, .int c3, .int c4, .int c5, .int c6, .int (0 : Int32), .int (0 : Int32), .int (0 : Int32), .int (0 : Int32), .int (0 : Int32), .int (0 : Int32), .int (0 : Int32), .int (0 : Int32), .int (0 : Int32), .int (0 : Int32), .int (0 : Int32), .int (0 : Int32), .int (0 : Int32), .int (0 : Int32), .int (0 : Int32), .int (0 : Int32), .int (0 : Int32), .int (0 : Int32), .int (0 : Int32)]) :: G7)
  refine mmW_callS (n := 790) rfl rfl rfl (rfl) (Nat.le_of_ble_eq_true rfl) (hB) ?_
  show mmW K_0 I_0 (some .boolean) (790) 329 [.val (.int x0), .val (.int x1), .val (.int x2), .val (.long x3), .second, .val (.int fr), .val (.int a), .val (.int b), .val (.int (1 : Int32)), .val (.int jk), .val (.long nm), .second, .val (.int lm), .val (.int v), .val (.int t), .val (.int ((a + b) + (1 : Int32))), .val (.int e0), .unset, .unset, .unset, .unset, .unset, .unset, .unset, .unset, .unset, .unset, .unset, .unset] [.int c7, .int (7 : Int32), .ref 0, .ref 0] (.inr (.byte, [.int c0, .int c1, .int c2, .int c3, .int c4, .int c5, .int c6, .int (0 : Int32), .int (0 : Int32), .int (0 : Int32), .int (0 : Int32), .int (0 : Int32), .int (0 : Int32), .int (0 : Int32), .int (0 : Int32), .int (0 : Int32), .int (0 : Int32), .int (0 : Int32), .int (0 : Int32), .int (0 : Int32), .int (0 : Int32), .int (0 : Int32), .int (0 : Int32), .int (0 : Int32), .int (0 : Int32), .int (0 : Int32)]) :: (G7 ++ K7)) (S7 + s7) _
  have gl8 : (G7 ++ K7).length ≤ 8 := by rw [List.length_append]; omega
  have sl8 : (S7 + s7) ≤ 178 := by omega
  clear hB
  generalize G7 ++ K7 = G8 at gl8 ⊢
  generalize (S7 + s7) = S8 at sl8 ⊢
  refine mmW_steps (k := 1) (n := 789) (pc' := 330) (L' := [.val (.int x0), .val (.int x1), .val (.int x2), .val (.long x3), .second, .val (.int fr), .val (.int a), .val (.int b), .val (.int (1 : Int32)), .val (.int jk), .val (.long nm), .second, .val (.int lm), .val (.int v), .val (.int t), .val (.int ((a + b) + (1 : Int32))), .val (.int e0), .unset, .unset, .unset, .unset, .unset, .unset, .unset, .unset, .unset, .unset, .unset, .unset]) (S' := [.ref 0]) (H' := (.inr (.byte, [.int c0, .int c1, .int c2, .int c3, .int c4, .int c5, .int c6, .int c7.toInt8.toInt32, .int (0 : Int32), .int (0 : Int32), .int (0 : Int32), .int (0 : Int32), .int (0 : Int32), .int (0 : Int32), .int (0 : Int32), .int (0 : Int32), .int (0 : Int32), .int (0 : Int32), .int (0 : Int32), .int (0 : Int32), .int (0 : Int32), .int (0 : Int32), .int (0 : Int32), .int (0 : Int32), .int (0 : Int32), .int (0 : Int32)]) :: G8)) (sl' := S8) rfl ?_
  rw [ok7.1]
  refine mmW_steps (k := 10) (n := 779) (pc' := 349) (L' := [.val (.int x0), .val (.int x1), .val (.int x2), .val (.long x3), .second, .val (.int fr), .val (.int a), .val (.int b), .val (.int (1 : Int32)), .val (.int jk), .val (.long nm), .second, .val (.int lm), .val (.int v), .val (.int t), .val (.int ((a + b) + (1 : Int32))), .val (.int e0), .unset, .unset, .unset, .unset, .unset, .unset, .unset, .unset, .unset, .unset, .unset, .unset]) (S' := [.long nm, .int jk, .int t, .int e0, .int (1 : Int32), .int a, .int fr, .int (8 : Int32), .int (8 : Int32), .ref 0, .ref 0]) (H' := (.inr (.byte, [.int c0, .int c1, .int c2, .int c3, .int c4, .int c5, .int c6, .int c7, .int (0 : Int32), .int (0 : Int32), .int (0 : Int32), .int (0 : Int32), .int (0 : Int32), .int (0 : Int32), .int (0 : Int32), .int (0 : Int32), .int (0 : Int32), .int (0 : Int32), .int (0 : Int32), .int (0 : Int32), .int (0 : Int32), .int (0 : Int32), .int (0 : Int32), .int (0 : Int32), .int (0 : Int32), .int (0 : Int32)]) :: G8)) (sl' := S8) rfl ?_
  obtain ⟨c8, K8, s8, hB, u8, d8, ok8⟩ := own_at1 (8 : Int32) fr a e0 t jk 8 FR A E0 JK rfl hfr ha he0 hjk (Nat.le_of_ble_eq_true rfl) gFR gA gE1 gE2 gJ ht nm NM hn hN (.inr (.byte, [.int c0, .int c1, .int c2, .int c3, .int c4, .int c5, .int c6, .int c7, .int (0 : Int32), .int (0 : Int32), .int (0 : Int32), .int (0 : Int32), .int (0 : Int32), .int (0 : Int32), .int (0 : Int32), .int (0 : Int32), .int (0 : Int32), .int (0 : Int32), .int (0 : Int32), .int (0 : Int32), .int (0 : Int32), .int (0 : Int32), .int (0 : Int32), .int (0 : Int32), .int (0 : Int32), .int (0 : Int32)]) :: G8)
  refine mmW_callS (n := 778) rfl rfl rfl (rfl) (Nat.le_of_ble_eq_true rfl) (hB) ?_
  show mmW K_0 I_0 (some .boolean) (778) 352 [.val (.int x0), .val (.int x1), .val (.int x2), .val (.long x3), .second, .val (.int fr), .val (.int a), .val (.int b), .val (.int (1 : Int32)), .val (.int jk), .val (.long nm), .second, .val (.int lm), .val (.int v), .val (.int t), .val (.int ((a + b) + (1 : Int32))), .val (.int e0), .unset, .unset, .unset, .unset, .unset, .unset, .unset, .unset, .unset, .unset, .unset, .unset] [.int c8, .int (8 : Int32), .ref 0, .ref 0] (.inr (.byte, [.int c0, .int c1, .int c2, .int c3, .int c4, .int c5, .int c6, .int c7, .int (0 : Int32), .int (0 : Int32), .int (0 : Int32), .int (0 : Int32), .int (0 : Int32), .int (0 : Int32), .int (0 : Int32), .int (0 : Int32), .int (0 : Int32), .int (0 : Int32), .int (0 : Int32), .int (0 : Int32), .int (0 : Int32), .int (0 : Int32), .int (0 : Int32), .int (0 : Int32), .int (0 : Int32), .int (0 : Int32)]) :: (G8 ++ K8)) (S8 + s8) _
  have gl9 : (G8 ++ K8).length ≤ 9 := by rw [List.length_append]; omega
  have sl9 : (S8 + s8) ≤ 197 := by omega
  clear hB
  generalize G8 ++ K8 = G9 at gl9 ⊢
  generalize (S8 + s8) = S9 at sl9 ⊢
  refine mmW_steps (k := 1) (n := 777) (pc' := 353) (L' := [.val (.int x0), .val (.int x1), .val (.int x2), .val (.long x3), .second, .val (.int fr), .val (.int a), .val (.int b), .val (.int (1 : Int32)), .val (.int jk), .val (.long nm), .second, .val (.int lm), .val (.int v), .val (.int t), .val (.int ((a + b) + (1 : Int32))), .val (.int e0), .unset, .unset, .unset, .unset, .unset, .unset, .unset, .unset, .unset, .unset, .unset, .unset]) (S' := [.ref 0]) (H' := (.inr (.byte, [.int c0, .int c1, .int c2, .int c3, .int c4, .int c5, .int c6, .int c7, .int c8.toInt8.toInt32, .int (0 : Int32), .int (0 : Int32), .int (0 : Int32), .int (0 : Int32), .int (0 : Int32), .int (0 : Int32), .int (0 : Int32), .int (0 : Int32), .int (0 : Int32), .int (0 : Int32), .int (0 : Int32), .int (0 : Int32), .int (0 : Int32), .int (0 : Int32), .int (0 : Int32), .int (0 : Int32), .int (0 : Int32)]) :: G9)) (sl' := S9) rfl ?_
  rw [ok8.1]
  refine mmW_steps (k := 10) (n := 767) (pc' := 372) (L' := [.val (.int x0), .val (.int x1), .val (.int x2), .val (.long x3), .second, .val (.int fr), .val (.int a), .val (.int b), .val (.int (1 : Int32)), .val (.int jk), .val (.long nm), .second, .val (.int lm), .val (.int v), .val (.int t), .val (.int ((a + b) + (1 : Int32))), .val (.int e0), .unset, .unset, .unset, .unset, .unset, .unset, .unset, .unset, .unset, .unset, .unset, .unset]) (S' := [.long nm, .int jk, .int t, .int e0, .int (1 : Int32), .int a, .int fr, .int (9 : Int32), .int (9 : Int32), .ref 0, .ref 0]) (H' := (.inr (.byte, [.int c0, .int c1, .int c2, .int c3, .int c4, .int c5, .int c6, .int c7, .int c8, .int (0 : Int32), .int (0 : Int32), .int (0 : Int32), .int (0 : Int32), .int (0 : Int32), .int (0 : Int32), .int (0 : Int32), .int (0 : Int32), .int (0 : Int32), .int (0 : Int32), .int (0 : Int32), .int (0 : Int32), .int (0 : Int32), .int (0 : Int32), .int (0 : Int32), .int (0 : Int32), .int (0 : Int32)]) :: G9)) (sl' := S9) rfl ?_
  obtain ⟨c9, K9, s9, hB, u9, d9, ok9⟩ := own_at1 (9 : Int32) fr a e0 t jk 9 FR A E0 JK rfl hfr ha he0 hjk (Nat.le_of_ble_eq_true rfl) gFR gA gE1 gE2 gJ ht nm NM hn hN (.inr (.byte, [.int c0, .int c1, .int c2, .int c3, .int c4, .int c5, .int c6, .int c7, .int c8, .int (0 : Int32), .int (0 : Int32), .int (0 : Int32), .int (0 : Int32), .int (0 : Int32), .int (0 : Int32), .int (0 : Int32), .int (0 : Int32), .int (0 : Int32), .int (0 : Int32), .int (0 : Int32), .int (0 : Int32), .int (0 : Int32), .int (0 : Int32), .int (0 : Int32), .int (0 : Int32), .int (0 : Int32)]) :: G9)
  refine mmW_callS (n := 766) rfl rfl rfl (rfl) (Nat.le_of_ble_eq_true rfl) (hB) ?_
  show mmW K_0 I_0 (some .boolean) (766) 375 [.val (.int x0), .val (.int x1), .val (.int x2), .val (.long x3), .second, .val (.int fr), .val (.int a), .val (.int b), .val (.int (1 : Int32)), .val (.int jk), .val (.long nm), .second, .val (.int lm), .val (.int v), .val (.int t), .val (.int ((a + b) + (1 : Int32))), .val (.int e0), .unset, .unset, .unset, .unset, .unset, .unset, .unset, .unset, .unset, .unset, .unset, .unset] [.int c9, .int (9 : Int32), .ref 0, .ref 0] (.inr (.byte, [.int c0, .int c1, .int c2, .int c3, .int c4, .int c5, .int c6, .int c7, .int c8, .int (0 : Int32), .int (0 : Int32), .int (0 : Int32), .int (0 : Int32), .int (0 : Int32), .int (0 : Int32), .int (0 : Int32), .int (0 : Int32), .int (0 : Int32), .int (0 : Int32), .int (0 : Int32), .int (0 : Int32), .int (0 : Int32), .int (0 : Int32), .int (0 : Int32), .int (0 : Int32), .int (0 : Int32)]) :: (G9 ++ K9)) (S9 + s9) _
  have gl10 : (G9 ++ K9).length ≤ 10 := by rw [List.length_append]; omega
  have sl10 : (S9 + s9) ≤ 216 := by omega
  clear hB
  generalize G9 ++ K9 = G10 at gl10 ⊢
  generalize (S9 + s9) = S10 at sl10 ⊢
  refine mmW_steps (k := 1) (n := 765) (pc' := 376) (L' := [.val (.int x0), .val (.int x1), .val (.int x2), .val (.long x3), .second, .val (.int fr), .val (.int a), .val (.int b), .val (.int (1 : Int32)), .val (.int jk), .val (.long nm), .second, .val (.int lm), .val (.int v), .val (.int t), .val (.int ((a + b) + (1 : Int32))), .val (.int e0), .unset, .unset, .unset, .unset, .unset, .unset, .unset, .unset, .unset, .unset, .unset, .unset]) (S' := [.ref 0]) (H' := (.inr (.byte, [.int c0, .int c1, .int c2, .int c3, .int c4, .int c5, .int c6, .int c7, .int c8, .int c9.toInt8.toInt32, .int (0 : Int32), .int (0 : Int32), .int (0 : Int32), .int (0 : Int32), .int (0 : Int32), .int (0 : Int32), .int (0 : Int32), .int (0 : Int32), .int (0 : Int32), .int (0 : Int32), .int (0 : Int32), .int (0 : Int32), .int (0 : Int32), .int (0 : Int32), .int (0 : Int32), .int (0 : Int32)]) :: G10)) (sl' := S10) rfl ?_
  rw [ok9.1]
  refine mmW_steps (k := 10) (n := 755) (pc' := 395) (L' := [.val (.int x0), .val (.int x1), .val (.int x2), .val (.long x3), .second, .val (.int fr), .val (.int a), .val (.int b), .val (.int (1 : Int32)), .val (.int jk), .val (.long nm), .second, .val (.int lm), .val (.int v), .val (.int t), .val (.int ((a + b) + (1 : Int32))), .val (.int e0), .unset, .unset, .unset, .unset, .unset, .unset, .unset, .unset, .unset, .unset, .unset, .unset]) (S' := [.long nm, .int jk, .int t, .int e0, .int (1 : Int32), .int a, .int fr, .int (10 : Int32), .int (10 : Int32), .ref 0, .ref 0]) (H' := (.inr (.byte, [.int c0, .int c1, .int c2, .int c3, .int c4, .int c5, .int c6, .int c7, .int c8, .int c9, .int (0 : Int32), .int (0 : Int32), .int (0 : Int32), .int (0 : Int32), .int (0 : Int32), .int (0 : Int32), .int (0 : Int32), .int (0 : Int32), .int (0 : Int32), .int (0 : Int32), .int (0 : Int32), .int (0 : Int32), .int (0 : Int32), .int (0 : Int32), .int (0 : Int32), .int (0 : Int32)]) :: G10)) (sl' := S10) rfl ?_
  obtain ⟨c10, K10, s10, hB, u10, d10, ok10⟩ := own_at1 (10 : Int32) fr a e0 t jk 10 FR A E0 JK rfl hfr ha he0 hjk (Nat.le_of_ble_eq_true rfl) gFR gA gE1 gE2 gJ ht nm NM hn hN (.inr (.byte, [.int c0, .int c1, .int c2, .int c3, .int c4, .int c5, .int c6, .int c7, .int c8, .int c9, .int (0 : Int32), .int (0 : Int32), .int (0 : Int32), .int (0 : Int32), .int (0 : Int32), .int (0 : Int32), .int (0 : Int32), .int (0 : Int32), .int (0 : Int32), .int (0 : Int32), .int (0 : Int32), .int (0 : Int32), .int (0 : Int32), .int (0 : Int32), .int (0 : Int32), .int (0 : Int32)]) :: G10)
  refine mmW_callS (n := 754) rfl rfl rfl (rfl) (Nat.le_of_ble_eq_true rfl) (hB) ?_
  show mmW K_0 I_0 (some .boolean) (754) 398 [.val (.int x0), .val (.int x1), .val (.int x2), .val (.long x3), .second, .val (.int fr), .val (.int a), .val (.int b), .val (.int (1 : Int32)), .val (.int jk), .val (.long nm), .second, .val (.int lm), .val (.int v), .val (.int t), .val (.int ((a + b) + (1 : Int32))), .val (.int e0), .unset, .unset, .unset, .unset, .unset, .unset, .unset, .unset, .unset, .unset, .unset, .unset] [.int c10, .int (10 : Int32), .ref 0, .ref 0] (.inr (.byte, [.int c0, .int c1, .int c2, .int c3, .int c4, .int c5, .int c6, .int c7, .int c8, .int c9, .int (0 : Int32), .int (0 : Int32), .int (0 : Int32), .int (0 : Int32), .int (0 : Int32), .int (0 : Int32), .int (0 : Int32), .int (0 : Int32), .int (0 : Int32), .int (0 : Int32), .int (0 : Int32), .int (0 : Int32), .int (0 : Int32), .int (0 : Int32), .int (0 : Int32), .int (0 : Int32)]) :: (G10 ++ K10)) (S10 + s10) _
  have gl11 : (G10 ++ K10).length ≤ 11 := by rw [List.length_append]; omega
  have sl11 : (S10 + s10) ≤ 235 := by omega
  clear hB
  generalize G10 ++ K10 = G11 at gl11 ⊢
  generalize (S10 + s10) = S11 at sl11 ⊢
  refine mmW_steps (k := 1) (n := 753) (pc' := 399) (L' := [.val (.int x0), .val (.int x1), .val (.int x2), .val (.long x3), .second, .val (.int fr), .val (.int a), .val (.int b), .val (.int (1 : Int32)), .val (.int jk), .val (.long nm), .second, .val (.int lm), .val (.int v), .val (.int t), .val (.int ((a + b) + (1 : Int32))), .val (.int e0), .unset, .unset, .unset, .unset, .unset, .unset, .unset, .unset, .unset, .unset, .unset, .unset]) (S' := [.ref 0]) (H' := (.inr (.byte, [.int c0, .int c1, .int c2, .int c3, .int c4, .int c5, .int c6, .int c7, .int c8, .int c9, .int c10.toInt8.toInt32, .int (0 : Int32), .int (0 : Int32), .int (0 : Int32), .int (0 : Int32), .int (0 : Int32), .int (0 : Int32), .int (0 : Int32), .int (0 : Int32), .int (0 : Int32), .int (0 : Int32), .int (0 : Int32), .int (0 : Int32), .int (0 : Int32), .int (0 : Int32), .int (0 : Int32)]) :: G11)) (sl' := S11) rfl ?_
  rw [ok10.1]
  refine mmW_steps (k := 10) (n := 743) (pc' := 418) (L' := [.val (.int x0), .val (.int x1), .val (.int x2), .val (.long x3), .second, .val (.int fr), .val (.int a), .val (.int b), .val (.int (1 : Int32)), .val (.int jk), .val (.long nm), .second, .val (.int lm), .val (.int v), .val (.int t), .val (.int ((a + b) + (1 : Int32))), .val (.int e0), .unset, .unset, .unset, .unset, .unset, .unset, .unset, .unset, .unset, .unset, .unset, .unset]) (S' := [.long nm, .int jk, .int t, .int e0, .int (1 : Int32), .int a, .int fr, .int (11 : Int32), .int (11 : Int32), .ref 0, .ref 0]) (H' := (.inr (.byte, [.int c0, .int c1, .int c2, .int c3, .int c4, .int c5, .int c6, .int c7, .int c8, .int c9, .int c10, .int (0 : Int32), .int (0 : Int32), .int (0 : Int32), .int (0 : Int32), .int (0 : Int32), .int (0 : Int32), .int (0 : Int32), .int (0 : Int32), .int (0 : Int32), .int (0 : Int32), .int (0 : Int32), .int (0 : Int32), .int (0 : Int32), .int (0 : Int32), .int (0 : Int32)]) :: G11)) (sl' := S11) rfl ?_
  obtain ⟨c11, K11, s11, hB, u11, d11, ok11⟩ := own_at1 (11 : Int32) fr a e0 t jk 11 FR A E0 JK rfl hfr ha he0 hjk (Nat.le_of_ble_eq_true rfl) gFR gA gE1 gE2 gJ ht nm NM hn hN (.inr (.byte, [.int c0, .int c1, .int c2, .int c3, .int c4, .int c5, .int c6, .int c7, .int c8, .int c9, .int c10, .int (0 : Int32), .int (0 : Int32), .int (0 : Int32), .int (0 : Int32), .int (0 : Int32), .int (0 : Int32), .int (0 : Int32), .int (0 : Int32), .int (0 : Int32), .int (0 : Int32), .int (0 : Int32), .int (0 : Int32), .int (0 : Int32), .int (0 : Int32), .int (0 : Int32)]) :: G11)
  refine mmW_callS (n := 742) rfl rfl rfl (rfl) (Nat.le_of_ble_eq_true rfl) (hB) ?_
  show mmW K_0 I_0 (some .boolean) (742) 421 [.val (.int x0), .val (.int x1), .val (.int x2), .val (.long x3), .second, .val (.int fr), .val (.int a), .val (.int b), .val (.int (1 : Int32)), .val (.int jk), .val (.long nm), .second, .val (.int lm), .val (.int v), .val (.int t), .val (.int ((a + b) + (1 : Int32))), .val (.int e0), .unset, .unset, .unset, .unset, .unset, .unset, .unset, .unset, .unset, .unset, .unset, .unset] [.int c11, .int (11 : Int32), .ref 0, .ref 0] (.inr (.byte, [.int c0, .int c1, .int c2, .int c3, .int c4, .int c5, .int c6, .int c7, .int c8, .int c9, .int c10, .int (0 : Int32), .int (0 : Int32), .int (0 : Int32), .int (0 : Int32), .int (0 : Int32), .int (0 : Int32), .int (0 : Int32), .int (0 : Int32), .int (0 : Int32), .int (0 : Int32), .int (0 : Int32), .int (0 : Int32), .int (0 : Int32), .int (0 : Int32), .int (0 : Int32)]) :: (G11 ++ K11)) (S11 + s11) _
  have gl12 : (G11 ++ K11).length ≤ 12 := by rw [List.length_append]; omega
  have sl12 : (S11 + s11) ≤ 254 := by omega
  clear hB
  generalize G11 ++ K11 = G12 at gl12 ⊢
  generalize (S11 + s11) = S12 at sl12 ⊢
  refine mmW_steps (k := 1) (n := 741) (pc' := 422) (L' := [.val (.int x0), .val (.int x1), .val (.int x2), .val (.long x3), .second, .val (.int fr), .val (.int a), .val (.int b), .val (.int (1 : Int32)), .val (.int jk), .val (.long nm), .second, .val (.int lm), .val (.int v), .val (.int t), .val (.int ((a + b) + (1 : Int32))), .val (.int e0), .unset, .unset, .unset, .unset, .unset, .unset, .unset, .unset, .unset, .unset, .unset, .unset]) (S' := [.ref 0]) (H' := (.inr (.byte, [.int c0, .int c1, .int c2, .int c3, .int c4, .int c5, .int c6, .int c7, .int c8, .int c9, .int c10, .int c11.toInt8.toInt32, .int (0 : Int32), .int (0 : Int32), .int (0 : Int32), .int (0 : Int32), .int (0 : Int32), .int (0 : Int32), .int (0 : Int32), .int (0 : Int32), .int (0 : Int32), .int (0 : Int32), .int (0 : Int32), .int (0 : Int32), .int (0 : Int32), .int (0 : Int32)]) :: G12)) (sl' := S12) rfl ?_
  rw [ok11.1]
  refine mmW_steps (k := 10) (n := 731) (pc' := 441) (L' := [.val (.int x0), .val (.int x1), .val (.int x2), .val (.long x3), .second, .val (.int fr), .val (.int a), .val (.int b), .val (.int (1 : Int32)), .val (.int jk), .val (.long nm), .second, .val (.int lm), .val (.int v), .val (.int t), .val (.int ((a + b) + (1 : Int32))), .val (.int e0), .unset, .unset, .unset, .unset, .unset, .unset, .unset, .unset, .unset, .unset, .unset, .unset]) (S' := [.long nm, .int jk, .int t, .int e0, .int (1 : Int32), .int a, .int fr, .int (12 : Int32), .int (12 : Int32), .ref 0, .ref 0]) (H' := (.inr (.byte, [.int c0, .int c1, .int c2, .int c3, .int c4, .int c5, .int c6, .int c7, .int c8, .int c9, .int c10, .int c11, .int (0 : Int32), .int (0 : Int32), .int (0 : Int32), .int (0 : Int32), .int (0 : Int32), .int (0 : Int32), .int (0 : Int32), .int (0 : Int32), .int (0 : Int32), .int (0 : Int32), .int (0 : Int32), .int (0 : Int32), .int (0 : Int32), .int (0 : Int32)]) :: G12)) (sl' := S12) rfl ?_
  obtain ⟨c12, K12, s12, hB, u12, d12, ok12⟩ := own_at1 (12 : Int32) fr a e0 t jk 12 FR A E0 JK rfl hfr ha he0 hjk (Nat.le_of_ble_eq_true rfl) gFR gA gE1 gE2 gJ ht nm NM hn hN (.inr (.byte, [.int c0, .int c1, .int c2, .int c3, .int c4, .int c5, .int c6, .int c7, .int c8, .int c9, .int c10, .int c11, .int (0 : Int32), .int (0 : Int32), .int (0 : Int32), .int (0 : Int32), .int (0 : Int32), .int (0 : Int32), .int (0 : Int32), .int (0 : Int32), .int (0 : Int32), .int (0 : Int32), .int (0 : Int32), .int (0 : Int32), .int (0 : Int32), .int (0 : Int32)]) :: G12)
  refine mmW_callS (n := 730) rfl rfl rfl (rfl) (Nat.le_of_ble_eq_true rfl) (hB) ?_
  show mmW K_0 I_0 (some .boolean) (730) 444 [.val (.int x0), .val (.int x1), .val (.int x2), .val (.long x3), .second, .val (.int fr), .val (.int a), .val (.int b), .val (.int (1 : Int32)), .val (.int jk), .val (.long nm), .second, .val (.int lm), .val (.int v), .val (.int t), .val (.int ((a + b) + (1 : Int32))), .val (.int e0), .unset, .unset, .unset, .unset, .unset, .unset, .unset, .unset, .unset, .unset, .unset, .unset] [.int c12, .int (12 : Int32), .ref 0, .ref 0] (.inr (.byte, [.int c0, .int c1, .int c2, .int c3, .int c4, .int c5, .int c6, .int c7, .int c8, .int c9, .int c10, .int c11, .int (0 : Int32), .int (0 : Int32), .int (0 : Int32), .int (0 : Int32), .int (0 : Int32), .int (0 : Int32), .int (0 : Int32), .int (0 : Int32), .int (0 : Int32), .int (0 : Int32), .int (0 : Int32), .int (0 : Int32), .int (0 : Int32), .int (0 : Int32)]) :: (G12 ++ K12)) (S12 + s12) _
  have gl13 : (G12 ++ K12).length ≤ 13 := by rw [List.length_append]; omega
  have sl13 : (S12 + s12) ≤ 273 := by omega
  clear hB
  generalize G12 ++ K12 = G13 at gl13 ⊢
  generalize (S12 + s12) = S13 at sl13 ⊢
  refine mmW_steps (k := 1) (n := 729) (pc' := 445) (L' := [.val (.int x0), .val (.int x1), .val (.int x2), .val (.long x3), .second, .val (.int fr), .val (.int a), .val (.int b), .val (.int (1 : Int32)), .val (.int jk), .val (.long nm), .second, .val (.int lm), .val (.int v), .val (.int t), .val (.int ((a + b) + (1 : Int32))), .val (.int e0), .unset, .unset, .unset, .unset, .unset, .unset, .unset, .unset, .unset, .unset, .unset, .unset]) (S' := [.ref 0]) (H' := (.inr (.byte, [.int c0, .int c1, .int c2, .int c3, .int c4, .int c5, .int c6, .int c7, .int c8, .int c9, .int c10, .int c11, .int c12.toInt8.toInt32, .int (0 : Int32), .int (0 : Int32), .int (0 : Int32), .int (0 : Int32), .int (0 : Int32), .int (0 : Int32), .int (0 : Int32), .int (0 : Int32), .int (0 : Int32), .int (0 : Int32), .int (0 : Int32), .int (0 : Int32), .int (0 : Int32)]) :: G13)) (sl' := S13) rfl ?_
  rw [ok12.1]
  refine mmW_steps (k := 10) (n := 719) (pc' := 464) (L' := [.val (.int x0), .val (.int x1), .val (.int x2), .val (.long x3), .second, .val (.int fr), .val (.int a), .val (.int b), .val (.int (1 : Int32)), .val (.int jk), .val (.long nm), .second, .val (.int lm), .val (.int v), .val (.int t), .val (.int ((a + b) + (1 : Int32))), .val (.int e0), .unset, .unset, .unset, .unset, .unset, .unset, .unset, .unset, .unset, .unset, .unset, .unset]) (S' := [.long nm, .int jk, .int t, .int e0, .int (1 : Int32), .int a, .int fr, .int (13 : Int32), .int (13 : Int32), .ref 0, .ref 0]) (H' := (.inr (.byte, [.int c0, .int c1, .int c2, .int c3, .int c4, .int c5, .int c6, .int c7, .int c8, .int c9, .int c10, .int c11, .int c12, .int (0 : Int32), .int (0 : Int32), .int (0 : Int32), .int (0 : Int32), .int (0 : Int32), .int (0 : Int32), .int (0 : Int32), .int (0 : Int32), .int (0 : Int32), .int (0 : Int32), .int (0 : Int32), .int (0 : Int32), .int (0 : Int32)]) :: G13)) (sl' := S13) rfl ?_
  obtain ⟨c13, K13, s13, hB, u13, d13, ok13⟩ := own_at1 (13 : Int32) fr a e0 t jk 13 FR A E0 JK rfl hfr ha he0 hjk (Nat.le_of_ble_eq_true rfl) gFR gA gE1 gE2 gJ ht nm NM hn hN (.inr (.byte, [.int c0, .int c1, .int c2, .int c3, .int c4, .int c5, .int c6, .int c7, .int c8, .int c9, .int c10, .int c11, .int c12, .int (0 : Int32), .int (0 : Int32), .int (0 : Int32), .int (0 : Int32), .int (0 : Int32), .int (0 : Int32), .int (0 : Int32), .int (0 : Int32), .int (0 : Int32), .int (0 : Int32), .int (0 : Int32), .int (0 : Int32), .int (0 : Int32)]) :: G13)
  refine mmW_callS (n := 718) rfl rfl rfl (rfl) (Nat.le_of_ble_eq_true rfl) (hB) ?_
  show mmW K_0 I_0 (some .boolean) (718) 467 [.val (.int x0), .val (.int x1), .val (.int x2), .val (.long x3), .second, .val (.int fr), .val (.int a), .val (.int b), .val (.int (1 : Int32)), .val (.int jk), .val (.long nm), .second, .val (.int lm), .val (.int v), .val (.int t), .val (.int ((a + b) + (1 : Int32))), .val (.int e0), .unset, .unset, .unset, .unset, .unset, .unset, .unset, .unset, .unset, .unset, .unset, .unset] [.int c13, .int (13 : Int32), .ref 0, .ref 0] (.inr (.byte, [.int c0, .int c1, .int c2, .int c3, .int c4, .int c5, .int c6, .int c7, .int c8, .int c9, .int c10, .int c11, .int c12, .int (0 : Int32), .int (0 : Int32), .int (0 : Int32), .int (0 : Int32), .int (0 : Int32), .int (0 : Int32), .int (0 : Int32), .int (0 : Int32), .int (0 : Int32), .int (0 : Int32), .int (0 : Int32), .int (0 : Int32), .int (0 : Int32)]) :: (G13 ++ K13)) (S13 + s13) _
  have gl14 : (G13 ++ K13).length ≤ 14 := by rw [List.length_append]; omega
  have sl14 : (S13 + s13) ≤ 292 := by omega
  clear hB
  generalize G13 ++ K13 = G14 at gl14 ⊢
  generalize (S13 + s13) = S14 at sl14 ⊢
  refine mmW_steps (k := 1) (n := 717) (pc' := 468) (L' := [.val (.int x0), .val (.int x1), .val (.int x2), .val (.long x3), .second, .val (.int fr), .val (.int a), .val (.int b), .val (.int (1 : Int32)), .val (.int jk), .val (.long nm), .second, .val (.int lm), .val (.int v), .val (.int t), .val (.int ((a + b) + (1 : Int32))), .val (.int e0), .unset, .unset, .unset, .unset, .unset, .unset, .unset, .unset, .unset, .unset, .unset, .unset]) (S' := [.ref 0]) (H' := (.inr (.byte, [.int c0, .int c1, .int c2, .int c3, .int c4, .int c5, .int c6, .int c7, .int c8, .int c9, .int c10, .int c11, .int c12, .int c13.toInt8.toInt32, .int (0 : Int32), .int (0 : Int32), .int (0 : Int32), .int (0 : Int32), .int (0 : Int32), .int (0 : Int32), .int (0 : Int32), .int (0 : Int32), .int (0 : Int32), .int (0 : Int32), .int (0 : Int32), .int (0 : Int32)]) :: G14)) (sl' := S14) rfl ?_
  rw [ok13.1]
  refine mmW_steps (k := 10) (n := 707) (pc' := 487) (L' := [.val (.int x0), .val (.int x1), .val (.int x2), .val (.long x3), .second, .val (.int fr), .val (.int a), .val (.int b), .val (.int (1 : Int32)), .val (.int jk), .val (.long nm), .second, .val (.int lm), .val (.int v), .val (.int t), .val (.int ((a + b) + (1 : Int32))), .val (.int e0), .unset, .unset, .unset, .unset, .unset, .unset, .unset, .unset, .unset, .unset, .unset, .unset]) (S' := [.long nm, .int jk, .int t, .int e0, .int (1 : Int32), .int a, .int fr, .int (14 : Int32), .int (14 : Int32), .ref 0, .ref 0]) (H' := (.inr (.byte, [.int c0, .int c1, .int c2, .int c3, .int c4, .int c5, .int c6, .int c7, .int c8, .int c9, .int c10, .int c11, .int c12, .int c13, .int (0 : Int32), .int (0 : Int32), .int (0 : Int32), .int (0 : Int32), .int (0 : Int32), .int (0 : Int32), .int (0 : Int32), .int (0 : Int32), .int (0 : Int32), .int (0 : Int32), .int (0 : Int32), .int (0 : Int32)]) :: G14)) (sl' := S14) rfl ?_
  obtain ⟨c14, K14, s14, hB, u14, d14, ok14⟩ := own_at1 (14 : Int32) fr a e0 t jk 14 FR A E0 JK rfl hfr ha he0 hjk (Nat.le_of_ble_eq_true rfl) gFR gA gE1 gE2 gJ ht nm NM hn hN (.inr (.byte, [.int c0, .int c1, .int c2, .int c3, .int c4, .int c5, .int c6, .int c7, .int c8, .int c9, .int c10, .int c11, .int c12, .int c13, .int (0 : Int32), .int (0 : Int32), .int (0 : Int32), .int (0 : Int32), .int (0 : Int32), .int (0 : Int32), .int (0 : Int32), .int (0 : Int32), .int (0 : Int32), .int (0 : Int32), .int (0 : Int32), .int (0 : Int32)]) :: G14)
  refine mmW_callS (n := 706) rfl rfl rfl (rfl) (Nat.le_of_ble_eq_true rfl) (hB) ?_
  show mmW K_0 I_0 (some .boolean) (706) 490 [.val (.int x0), .val (.int x1), .val (.int x2), .val (.long x3), .second, .val (.int fr), .val (.int a), .val (.int b), .val (.int (1 : Int32)), .val (.int jk), .val (.long nm), .second, .val (.int lm), .val (.int v), .val (.int t), .val (.int ((a + b) + (1 : Int32))), .val (.int e0), .unset, .unset, .unset, .unset, .unset, .unset, .unset, .unset, .unset, .unset, .unset, .unset] [.int c14, .int (14 : Int32), .ref 0, .ref 0] (.inr (.byte, [.int c0, .int c1, .int c2, .int c3, .int c4, .int c5, .int c6, .int c7, .int c8, .int c9, .int c10, .int c11, .int c12, .int c13, .int (0 : Int32), .int (0 : Int32), .int (0 : Int32), .int (0 : Int32), .int (0 : Int32), .int (0 : Int32), .int (0 : Int32), .int (0 : Int32), .int (0 : Int32), .int (0 : Int32), .int (0 : Int32), .int (0 : Int32)]) :: (G14 ++ K14)) (S14 + s14) _
  have gl15 : (G14 ++ K14).length ≤ 15 := by rw [List.length_append]; omega
  have sl15 : (S14 + s14) ≤ 311 := by omega
  clear hB
  generalize G14 ++ K14 = G15 at gl15 ⊢
  generalize (S14 + s14) = S15 at sl15 ⊢
  refine mmW_steps (k := 1) (n := 705) (pc' := 491) (L' := [.val (.int x0), .val (.int x1), .val (.int x2), .val (.long x3), .second, .val (.int fr), .val (.int a), .val (.int b), .val (.int (1 : Int32)), .val (.int jk), .val (.long nm), .second, .val (.int lm), .val (.int v), .val (.int t), .val (.int ((a + b) + (1 : Int32))), .val (.int e0), .unset, .unset, .unset, .unset, .unset, .unset, .unset, .unset, .unset, .unset, .unset, .unset]) (S' := [.ref 0]) (H' := (.inr (.byte, [.int c0, .int c1, .int c2, .int c3, .int c4, .int c5, .int c6, .int c7, .int c8, .int c9, .int c10, .int c11, .int c12, .int c13, .int c14.toInt8.toInt32, .int (0 : Int32), .int (0 : Int32), .int (0 : Int32), .int (0 : Int32), .int (0 : Int32), .int (0 : Int32), .int (0 : Int32), .int (0 : Int32), .int (0 : Int32), .int (0 : Int32), .int (0 : Int32)]) :: G15)) (sl' := S15) rfl ?_
  rw [ok14.1]
  refine mmW_steps (k := 10) (n := 695) (pc' := 510) (L' := [.val (.int x0), .val (.int x1), .val (.int x2), .val (.long x3), .second, .val (.int fr), .val (.int a), .val (.int b), .val (.int (1 : Int32)), .val (.int jk), .val (.long nm), .second, .val (.int lm), .val (.int v), .val (.int t), .val (.int ((a + b) + (1 : Int32))), .val (.int e0), .unset, .unset, .unset, .unset, .unset, .unset, .unset, .unset, .unset, .unset, .unset, .unset]) (S' := [.long nm, .int jk, .int t, .int e0, .int (1 : Int32), .int a, .int fr, .int (15 : Int32), .int (15 : Int32), .ref 0, .ref 0]) (H' := (.inr (.byte, [.int c0, .int c1, .int c2, .int c3, .int c4, .int c5, .int c6, .int c7, .int c8, .int c9, .int c10, .int c11, .int c12, .int c13, .int c14, .int (0 : Int32), .int (0 : Int32), .int (0 : Int32), .int (0 : Int32), .int (0 : Int32), .int (0 : Int32), .int (0 : Int32), .int (0 : Int32), .int (0 : Int32), .int (0 : Int32), .int (0 : Int32)]) :: G15)) (sl' := S15) rfl ?_
  obtain ⟨c15, K15, s15, hB, u15, d15, ok15⟩ := own_at1 (15 : Int32) fr a e0 t jk 15 FR A E0 JK rfl hfr ha he0 hjk (Nat.le_of_ble_eq_true rfl) gFR gA gE1 gE2 gJ ht nm NM hn hN (.inr (.byte, [.int c0, .int c1, .int c2, .int c3, .int c4, .int c5, .int c6, .int c7, .int c8, .int c9, .int c10, .int c11, .int c12, .int c13, .int c14, .int (0 : Int32), .int (0 : Int32), .int (0 : Int32), .int (0 : Int32), .int (0 : Int32), .int (0 : Int32), .int (0 : Int32), .int (0 : Int32), .int (0 : Int32), .int (0 : Int32), .int (0 : Int32)]) :: G15)
  refine mmW_callS (n := 694) rfl rfl rfl (rfl) (Nat.le_of_ble_eq_true rfl) (hB) ?_
  show mmW K_0 I_0 (some .boolean) (694) 513 [.val (.int x0), .val (.int x1), .val (.int x2), .val (.long x3), .second, .val (.int fr), .val (.int a), .val (.int b), .val (.int (1 : Int32)), .val (.int jk), .val (.long nm), .second, .val (.int lm), .val (.int v), .val (.int t), .val (.int ((a + b) + (1 : Int32))), .val (.int e0), .unset, .unset, .unset, .unset, .unset, .unset, .unset, .unset, .unset, .unset, .unset, .unset] [.int c15, .int (15 : Int32), .ref 0, .ref 0] (.inr (.byte, [.int c0, .int c1, .int c2, .int c3, .int c4, .int c5, .int c6, .int c7, .int c8, .int c9, .int c10, .int c11, .int c12, .int c13, .int c14, .int (0 : Int32), .int (0 : Int32), .int (0 : Int32), .int (0 : Int32), .int (0 : Int32), .int (0 : Int32), .int (0 : Int32), .int (0 : Int32), .int (0 : Int32), .int (0 : Int32), .int (0 : Int32)]) :: (G15 ++ K15)) (S15 + s15) _
  have gl16 : (G15 ++ K15).length ≤ 16 := by rw [List.length_append]; omega
  have sl16 : (S15 + s15) ≤ 330 := by omega
  clear hB
  generalize G15 ++ K15 = G16 at gl16 ⊢
  generalize (S15 + s15) = S16 at sl16 ⊢
  refine mmW_steps (k := 1) (n := 693) (pc' := 514) (L' := [.val (.int x0), .val (.int x1), .val (.int x2), .val (.long x3), .second, .val (.int fr), .val (.int a), .val (.int b), .val (.int (1 : Int32)), .val (.int jk), .val (.long nm), .second, .val (.int lm), .val (.int v), .val (.int t), .val (.int ((a + b) + (1 : Int32))), .val (.int e0), .unset, .unset, .unset, .unset, .unset, .unset, .unset, .unset, .unset, .unset, .unset, .unset]) (S' := [.ref 0]) (H' := (.inr (.byte, [.int c0, .int c1, .int c2, .int c3, .int c4, .int c5, .int c6, .int c7, .int c8, .int c9, .int c10, .int c11, .int c12, .int c13, .int c14, .int c15.toInt8.toInt32, .int (0 : Int32), .int (0 : Int32), .int (0 : Int32), .int (0 : Int32), .int (0 : Int32), .int (0 : Int32), .int (0 : Int32), .int (0 : Int32), .int (0 : Int32), .int (0 : Int32)]) :: G16)) (sl' := S16) rfl ?_
  rw [ok15.1]
  refine mmW_steps (k := 10) (n := 683) (pc' := 533) (L' := [.val (.int x0), .val (.int x1), .val (.int x2), .val (.long x3), .second, .val (.int fr), .val (.int a), .val (.int b), .val (.int (1 : Int32)), .val (.int jk), .val (.long nm), .second, .val (.int lm), .val (.int v), .val (.int t), .val (.int ((a + b) + (1 : Int32))), .val (.int e0), .unset, .unset, .unset, .unset, .unset, .unset, .unset, .unset, .unset, .unset, .unset, .unset]) (S' := [.long nm, .int jk, .int t, .int e0, .int (1 : Int32), .int a, .int fr, .int (16 : Int32), .int (16 : Int32), .ref 0, .ref 0]) (H' := (.inr (.byte, [.int c0, .int c1, .int c2, .int c3, .int c4, .int c5, .int c6, .int c7, .int c8, .int c9, .int c10, .int c11, .int c12, .int c13, .int c14, .int c15, .int (0 : Int32), .int (0 : Int32), .int (0 : Int32), .int (0 : Int32), .int (0 : Int32), .int (0 : Int32), .int (0 : Int32), .int (0 : Int32), .int (0 : Int32), .int (0 : Int32)]) :: G16)) (sl' := S16) rfl ?_
  obtain ⟨c16, K16, s16, hB, u16, d16, ok16⟩ := own_at1 (16 : Int32) fr a e0 t jk 16 FR A E0 JK rfl hfr ha he0 hjk (Nat.le_of_ble_eq_true rfl) gFR gA gE1 gE2 gJ ht nm NM hn hN (.inr (.byte, [.int c0, .int c1, .int c2, .int c3, .int c4, .int c5, .int c6, .int c7, .int c8, .int c9, .int c10, .int c11, .int c12, .int c13, .int c14, .int c15, .int (0 : Int32), .int (0 : Int32), .int (0 : Int32), .int (0 : Int32), .int (0 : Int32), .int (0 : Int32), .int (0 : Int32), .int (0 : Int32), .int (0 : Int32), .int (0 : Int32)]) :: G16)
  refine mmW_callS (n := 682) rfl rfl rfl (rfl) (Nat.le_of_ble_eq_true rfl) (hB) ?_
  show mmW K_0 I_0 (some .boolean) (682) 536 [.val (.int x0), .val (.int x1), .val (.int x2), .val (.long x3), .second, .val (.int fr), .val (.int a), .val (.int b), .val (.int (1 : Int32)), .val (.int jk), .val (.long nm), .second, .val (.int lm), .val (.int v), .val (.int t), .val (.int ((a + b) + (1 : Int32))), .val (.int e0), .unset, .unset, .unset, .unset, .unset, .unset, .unset, .unset, .unset, .unset, .unset, .unset] [.int c16, .int (16 : Int32), .ref 0, .ref 0] (.inr (.byte, [.int c0, .int c1, .int c2, .int c3, .int c4, .int c5, .int c6, .int c7, .int c8, .int c9, .int c10, .int c11, .int c12, .int c13, .int c14, .int c15, .int (0 : Int32), .int (0 : Int32), .int (0 : Int32), .int (0 : Int32), .int (0 : Int32), .int (0 : Int32), .int (0 : Int32), .int (0 : Int32), .int (0 : Int32), .int (0 : Int32)]) :: (G16 ++ K16)) (S16 + s16) _
  have gl17 : (G16 ++ K16).length ≤ 17 := by rw [List.length_append]; omega
  have sl17 : (S16 + s16) ≤ 349 := by omega
  clear hB
  generalize G16 ++ K16 = G17 at gl17 ⊢
  generalize (S16 + s16) = S17 at sl17 ⊢
  refine mmW_steps (k := 1) (n := 681) (pc' := 537) (L' := [.val (.int x0), .val (.int x1), .val (.int x2), .val (.long x3), .second, .val (.int fr), .val (.int a), .val (.int b), .val (.int (1 : Int32)), .val (.int jk), .val (.long nm), .second, .val (.int lm), .val (.int v), .val (.int t), .val (.int ((a + b) + (1 : Int32))), .val (.int e0), .unset, .unset, .unset, .unset, .unset, .unset, .unset, .unset, .unset, .unset, .unset, .unset]) (S' := [.ref 0]) (H' := (.inr (.byte, [.int c0, .int c1, .int c2, .int c3, .int c4, .int c5, .int c6, .int c7, .int c8, .int c9, .int c10, .int c11, .int c12, .int c13, .int c14, .int c15, .int c16.toInt8.toInt32, .int (0 : Int32), .int (0 : Int32), .int (0 : Int32), .int (0 : Int32), .int (0 : Int32), .int (0 : Int32), .int (0 : Int32), .int (0 : Int32), .int (0 : Int32)]) :: G17)) (sl' := S17) rfl ?_
  rw [ok16.1]
  refine mmW_steps (k := 10) (n := 671) (pc' := 556) (L' := [.val (.int x0), .val (.int x1), .val (.int x2), .val (.long x3), .second, .val (.int fr), .val (.int a), .val (.int b), .val (.int (1 : Int32)), .val (.int jk), .val (.long nm), .second, .val (.int lm), .val (.int v), .val (.int t), .val (.int ((a + b) + (1 : Int32))), .val (.int e0), .unset, .unset, .unset, .unset, .unset, .unset, .unset, .unset, .unset, .unset, .unset, .unset]) (S' := [.long nm, .int jk, .int t, .int e0, .int (1 : Int32), .int a, .int fr, .int (17 : Int32), .int (17 : Int32), .ref 0, .ref 0]) (H' := (.inr (.byte, [.int c0, .int c1, .int c2, .int c3, .int c4, .int c5, .int c6, .int c7, .int c8, .int c9, .int c10, .int c11, .int c12, .int c13, .int c14, .int c15, .int c16, .int (0 : Int32), .int (0 : Int32), .int (0 : Int32), .int (0 : Int32), .int (0 : Int32), .int (0 : Int32), .int (0 : Int32), .int (0 : Int32), .int (0 : Int32)]) :: G17)) (sl' := S17) rfl ?_
  obtain ⟨c17, K17, s17, hB, u17, d17, ok17⟩ := own_at1 (17 : Int32) fr a e0 t jk 17 FR A E0 JK rfl hfr ha he0 hjk (Nat.le_of_ble_eq_true rfl) gFR gA gE1 gE2 gJ ht nm NM hn hN (.inr (.byte, [.int c0, .int c1, .int c2, .int c3, .int c4, .int c5, .int c6, .int c7, .int c8, .int c9, .int c10, .int c11, .int c12, .int c13, .int c14, .int c15, .int c16, .int (0 : Int32), .int (0 : Int32), .int (0 : Int32), .int (0 : Int32), .int (0 : Int32), .int (0 : Int32), .int (0 : Int32), .int (0 : Int32), .int (0 : Int32)]) :: G17)
  refine mmW_callS (n := 670) rfl rfl rfl (rfl) (Nat.le_of_ble_eq_true rfl) (hB) ?_
  show mmW K_0 I_0 (some .boolean) (670) 559 [.val (.int x0), .val (.int x1), .val (.int x2), .val (.long x3), .second, .val (.int fr), .val (.int a), .val (.int b), .val (.int (1 : Int32)), .val (.int jk), .val (.long nm), .second, .val (.int lm), .val (.int v), .val (.int t), .val (.int ((a + b) + (1 : Int32))), .val (.int e0), .unset, .unset, .unset, .unset, .unset, .unset, .unset, .unset, .unset, .unset, .unset, .unset] [.int c17, .int (17 : Int32), .ref 0, .ref 0] (.inr (.byte, [.int c0, .int c1, .int c2, .int c3, .int c4, .int c5, .int c6, .int c7, .int c8, .int c9, .int c10, .int c11, .int c12, .int c13, .int c14, .int c15, .int c16, .int (0 : Int32), .int (0 : Int32), .int (0 : Int32), .int (0 : Int32), .int (0 : Int32), .int (0 : Int32), .int (0 : Int32), .int (0 : Int32), .int (0 : Int32)]) :: (G17 ++ K17)) (S17 + s17) _
  have gl18 : (G17 ++ K17).length ≤ 18 := by rw [List.length_append]; omega
  have sl18 : (S17 + s17) ≤ 368 := by omega
  clear hB
  generalize G17 ++ K17 = G18 at gl18 ⊢
  generalize (S17 + s17) = S18 at sl18 ⊢
  refine mmW_steps (k := 1) (n := 669) (pc' := 560) (L' := [.val (.int x0), .val (.int x1), .val (.int x2), .val (.long x3), .second, .val (.int fr), .val (.int a), .val (.int b), .val (.int (1 : Int32)), .val (.int jk), .val (.long nm), .second, .val (.int lm), .val (.int v), .val (.int t), .val (.int ((a + b) + (1 : Int32))), .val (.int e0), .unset, .unset, .unset, .unset, .unset, .unset, .unset, .unset, .unset, .unset, .unset, .unset]) (S' := [.ref 0]) (H' := (.inr (.byte, [.int c0, .int c1, .int c2, .int c3, .int c4, .int c5, .int c6, .int c7, .int c8, .int c9, .int c10, .int c11, .int c12, .int c13, .int c14, .int c15, .int c16, .int c17.toInt8.toInt32, .int (0 : Int32), .int (0 : Int32), .int (0 : Int32), .int (0 : Int32), .int (0 : Int32), .int (0 : Int32), .int (0 : Int32), .int (0 : Int32)]) :: G18)) (sl' := S18) rfl ?_
  rw [ok17.1]
  refine mmW_steps (k := 10) (n := 659) (pc' := 579) (L' := [.val (.int x0), .val (.int x1), .val (.int x2), .val (.long x3), .second, .val (.int fr), .val (.int a), .val (.int b), .val (.int (1 : Int32)), .val (.int jk), .val (.long nm), .second, .val (.int lm), .val (.int v), .val (.int t), .val (.int ((a + b) + (1 : Int32))), .val (.int e0), .unset, .unset, .unset, .unset, .unset, .unset, .unset, .unset, .unset, .unset, .unset, .unset]) (S' := [.long nm, .int jk, .int t, .int e0, .int (1 : Int32), .int a, .int fr, .int (18 : Int32), .int (18 : Int32), .ref 0, .ref 0]) (H' := (.inr (.byte, [.int c0, .int c1, .int c2, .int c3, .int c4, .int c5, .int c6, .int c7, .int c8, .int c9, .int c10, .int c11, .int c12, .int c13, .int c14, .int c15, .int c16, .int c17, .int (0 : Int32), .int (0 : Int32), .int (0 : Int32), .int (0 : Int32), .int (0 : Int32), .int (0 : Int32), .int (0 : Int32), .int (0 : Int32)]) :: G18)) (sl' := S18) rfl ?_
  obtain ⟨c18, K18, s18, hB, u18, d18, ok18⟩ := own_at1 (18 : Int32) fr a e0 t jk 18 FR A E0 JK rfl hfr ha he0 hjk (Nat.le_of_ble_eq_true rfl) gFR gA gE1 gE2 gJ ht nm NM hn hN (.inr (.byte, [.int c0, .int c1, .int c2, .int c3, .int c4, .int c5, .int c6, .int c7, .int c8, .int c9, .int c10, .int c11, .int c12, .int c13, .int c14, .int c15, .int c16, .int c17, .int (0 : Int32), .int (0 : Int32), .int (0 : Int32), .int (0 : Int32), .int (0 : Int32), .int (0 : Int32), .int (0 : Int32), .int (0 : Int32)]) :: G18)
  refine mmW_callS (n := 658) rfl rfl rfl (rfl) (Nat.le_of_ble_eq_true rfl) (hB) ?_
  show mmW K_0 I_0 (some .boolean) (658) 582 [.val (.int x0), .val (.int x1), .val (.int x2), .val (.long x3), .second, .val (.int fr), .val (.int a), .val (.int b), .val (.int (1 : Int32)), .val (.int jk), .val (.long nm), .second, .val (.int lm), .val (.int v), .val (.int t), .val (.int ((a + b) + (1 : Int32))), .val (.int e0), .unset, .unset, .unset, .unset, .unset, .unset, .unset, .unset, .unset, .unset, .unset, .unset] [.int c18, .int (18 : Int32), .ref 0, .ref 0] (.inr (.byte, [.int c0, .int c1, .int c2, .int c3, .int c4, .int c5, .int c6, .int c7, .int c8, .int c9, .int c10, .int c11, .int c12, .int c13, .int c14, .int c15, .int c16, .int c17, .int (0 : Int32), .int (0 : Int32), .int (0 : Int32), .int (0 : Int32), .int (0 : Int32), .int (0 : Int32), .int (0 : Int32), .int (0 : Int32)]) :: (G18 ++ K18)) (S18 + s18) _
  have gl19 : (G18 ++ K18).length ≤ 19 := by rw [List.length_append]; omega
  have sl19 : (S18 + s18) ≤ 387 := by omega
  clear hB
  generalize G18 ++ K18 = G19 at gl19 ⊢
  generalize (S18 + s18) = S19 at sl19 ⊢
  refine mmW_steps (k := 1) (n := 657) (pc' := 583) (L' := [.val (.int x0), .val (.int x1), .val (.int x2), .val (.long x3), .second, .val (.int fr), .val (.int a), .val (.int b), .val (.int (1 : Int32)), .val (.int jk), .val (.long nm), .second, .val (.int lm), .val (.int v), .val (.int t), .val (.int ((a + b) + (1 : Int32))), .val (.int e0), .unset, .unset, .unset, .unset, .unset, .unset, .unset, .unset, .unset, .unset, .unset, .unset]) (S' := [.ref 0]) (H' := (.inr (.byte, [.int c0, .int c1, .int c2, .int c3, .int c4, .int c5, .int c6, .int c7, .int c8, .int c9, .int c10, .int c11, .int c12, .int c13, .int c14, .int c15, .int c16, .int c17, .int c18.toInt8.toInt32, .int (0 : Int32), .int (0 : Int32), .int (0 : Int32), .int (0 : Int32), .int (0 : Int32), .int (0 : Int32), .int (0 : Int32)]) :: G19)) (sl' := S19) rfl ?_
  rw [ok18.1]
  refine mmW_steps (k := 10) (n := 647) (pc' := 602) (L' := [.val (.int x0), .val (.int x1), .val (.int x2), .val (.long x3), .second, .val (.int fr), .val (.int a), .val (.int b), .val (.int (1 : Int32)), .val (.int jk), .val (.long nm), .second, .val (.int lm), .val (.int v), .val (.int t), .val (.int ((a + b) + (1 : Int32))), .val (.int e0), .unset, .unset, .unset, .unset, .unset, .unset, .unset, .unset, .unset, .unset, .unset, .unset]) (S' := [.long nm, .int jk, .int t, .int e0, .int (1 : Int32), .int a, .int fr, .int (19 : Int32), .int (19 : Int32), .ref 0, .ref 0]) (H' := (.inr (.byte, [.int c0, .int c1, .int c2, .int c3, .int c4, .int c5, .int c6, .int c7, .int c8, .int c9, .int c10, .int c11, .int c12, .int c13, .int c14, .int c15, .int c16, .int c17, .int c18, .int (0 : Int32), .int (0 : Int32), .int (0 : Int32), .int (0 : Int32), .int (0 : Int32), .int (0 : Int32), .int (0 : Int32)]) :: G19)) (sl' := S19) rfl ?_
  obtain ⟨c19, K19, s19, hB, u19, d19, ok19⟩ := own_at1 (19 : Int32) fr a e0 t jk 19 FR A E0 JK rfl hfr ha he0 hjk (Nat.le_of_ble_eq_true rfl) gFR gA gE1 gE2 gJ ht nm NM hn hN (.inr (.byte, [.int c0, .int c1, .int c2, .int c3, .int c4, .int c5, .int c6, .int c7, .int c8, .int c9, .int c10, .int c11, .int c12, .int c13, .int c14, .int c15, .int c16, .int c17, .int c18, .int (0 : Int32), .int (0 : Int32), .int (0 : Int32), .int (0 : Int32), .int (0 : Int32), .int (0 : Int32), .int (0 : Int32)]) :: G19)
  refine mmW_callS (n := 646) rfl rfl rfl (rfl) (Nat.le_of_ble_eq_true rfl) (hB) ?_
  show mmW K_0 I_0 (some .boolean) (646) 605 [.val (.int x0), .val (.int x1), .val (.int x2), .val (.long x3), .second, .val (.int fr), .val (.int a), .val (.int b), .val (.int (1 : Int32)), .val (.int jk), .val (.long nm), .second, .val (.int lm), .val (.int v), .val (.int t), .val (.int ((a + b) + (1 : Int32))), .val (.int e0), .unset, .unset, .unset, .unset, .unset, .unset, .unset, .unset, .unset, .unset, .unset, .unset] [.int c19, .int (19 : Int32), .ref 0, .ref 0] (.inr (.byte, [.int c0, .int c1, .int c2, .int c3, .int c4, .int c5, .int c6, .int c7, .int c8, .int c9, .int c10, .int c11, .int c12, .int c13, .int c14, .int c15, .int c16, .int c17, .int c18, .int (0 : Int32), .int (0 : Int32), .int (0 : Int32), .int (0 : Int32), .int (0 : Int32), .int (0 : Int32), .int (0 : Int32)]) :: (G19 ++ K19)) (S19 + s19) _
  have gl20 : (G19 ++ K19).length ≤ 20 := by rw [List.length_append]; omega
  have sl20 : (S19 + s19) ≤ 406 := by omega
  clear hB
  generalize G19 ++ K19 = G20 at gl20 ⊢
  generalize (S19 + s19) = S20 at sl20 ⊢
  refine mmW_steps (k := 1) (n := 645) (pc' := 606) (L' := [.val (.int x0), .val (.int x1), .val (.int x2), .val (.long x3), .second, .val (.int fr), .val (.int a), .val (.int b), .val (.int (1 : Int32)), .val (.int jk), .val (.long nm), .second, .val (.int lm), .val (.int v), .val (.int t), .val (.int ((a + b) + (1 : Int32))), .val (.int e0), .unset, .unset, .unset, .unset, .unset, .unset, .unset, .unset, .unset, .unset, .unset, .unset]) (S' := [.ref 0]) (H' := (.inr (.byte, [.int c0, .int c1, .int c2, .int c3, .int c4, .int c5, .int c6, .int c7, .int c8, .int c9, .int c10, .int c11, .int c12, .int c13, .int c14, .int c15, .int c16, .int c17, .int c18, .int c19.toInt8.toInt32, .int (0 : Int32), .int (0 : Int32), .int (0 : Int32), .int (0 : Int32), .int (0 : Int32), .int (0 : Int32)]) :: G20)) (sl' := S20) rfl ?_
  rw [ok19.1]
  refine mmW_steps (k := 10) (n := 635) (pc' := 625) (L' := [.val (.int x0), .val (.int x1), .val (.int x2), .val (.long x3), .second, .val (.int fr), .val (.int a), .val (.int b), .val (.int (1 : Int32)), .val (.int jk), .val (.long nm), .second, .val (.int lm), .val (.int v), .val (.int t), .val (.int ((a + b) + (1 : Int32))), .val (.int e0), .unset, .unset, .unset, .unset, .unset, .unset, .unset, .unset, .unset, .unset, .unset, .unset]) (S' := [.long nm, .int jk, .int t, .int e0, .int (1 : Int32), .int a, .int fr, .int (20 : Int32), .int (20 : Int32), .ref 0, .ref 0]) (H' := (.inr (.byte, [.int c0, .int c1, .int c2, .int c3, .int c4, .int c5, .int c6, .int c7, .int c8, .int c9, .int c10, .int c11, .int c12, .int c13, .int c14, .int c15, .int c16, .int c17, .int c18, .int c19, .int (0 : Int32), .int (0 : Int32), .int (0 : Int32), .int (0 : Int32), .int (0 : Int32), .int (0 : Int32)]) :: G20)) (sl' := S20) rfl ?_
  obtain ⟨c20, K20, s20, hB, u20, d20, ok20⟩ := own_at1 (20 : Int32) fr a e0 t jk 20 FR A E0 JK rfl hfr ha he0 hjk (Nat.le_of_ble_eq_true rfl) gFR gA gE1 gE2 gJ ht nm NM hn hN (.inr (.byte, [.int c0, .int c1, .int c2, .int c3, .int c4, .int c5, .int c6, .int c7, .int c8, .int c9, .int c10, .int c11, .int c12, .int c13, .int c14, .int c15, .int c16, .int c17, .int c18, .int c19, .int (0 : Int32), .int (0 : Int32), .int (0 : Int32), .int (0 : Int32), .int (0 : Int32), .int (0 : Int32)]) :: G20)
  refine mmW_callS (n := 634) rfl rfl rfl (rfl) (Nat.le_of_ble_eq_true rfl) (hB) ?_
  show mmW K_0 I_0 (some .boolean) (634) 628 [.val (.int x0), .val (.int x1), .val (.int x2), .val (.long x3), .second, .val (.int fr), .val (.int a), .val (.int b), .val (.int (1 : Int32)), .val (.int jk), .val (.long nm), .second, .val (.int lm), .val (.int v), .val (.int t), .val (.int ((a + b) + (1 : Int32))), .val (.int e0), .unset, .unset, .unset, .unset, .unset, .unset, .unset, .unset, .unset, .unset, .unset, .unset] [.int c20, .int (20 : Int32), .ref 0, .ref 0] (.inr (.byte, [.int c0, .int c1, .int c2, .int c3, .int c4, .int c5, .int c6, .int c7, .int c8, .int c9, .int c10, .int c11, .int c12, .int c13, .int c14, .int c15, .int c16, .int c17, .int c18, .int c19, .int (0 : Int32), .int (0 : Int32), .int (0 : Int32), .int (0 : Int32), .int (0 : Int32), .int (0 : Int32)]) :: (G20 ++ K20)) (S20 + s20) _
  have gl21 : (G20 ++ K20).length ≤ 21 := by rw [List.length_append]; omega
  have sl21 : (S20 + s20) ≤ 425 := by omega
  clear hB
  generalize G20 ++ K20 = G21 at gl21 ⊢
  generalize (S20 + s20) = S21 at sl21 ⊢
  refine mmW_steps (k := 1) (n := 633) (pc' := 629) (L' := [.val (.int x0), .val (.int x1), .val (.int x2), .val (.long x3), .second, .val (.int fr), .val (.int a), .val (.int b), .val (.int (1 : Int32)), .val (.int jk), .val (.long nm), .second, .val (.int lm), .val (.int v), .val (.int t), .val (.int ((a + b) + (1 : Int32))), .val (.int e0), .unset, .unset, .unset, .unset, .unset, .unset, .unset, .unset, .unset, .unset, .unset, .unset]) (S' := [.ref 0]) (H' := (.inr (.byte, [.int c0, .int c1, .int c2, .int c3, .int c4, .int c5, .int c6, .int c7, .int c8, .int c9, .int c10, .int c11, .int c12, .int c13, .int c14, .int c15, .int c16, .int c17, .int c18, .int c19, .int c20.toInt8.toInt32, .int (0 : Int32), .int (0 : Int32), .int (0 : Int32), .int (0 : Int32), .int (0 : Int32)]) :: G21)) (sl' := S21) rfl ?_
  rw [ok20.1]
  refine mmW_steps (k := 10) (n := 623) (pc' := 648) (L' := [.val (.int x0), .val (.int x1), .val (.int x2), .val (.long x3), .second, .val (.int fr), .val (.int a), .val (.int b), .val (.int (1 : Int32)), .val (.int jk), .val (.long nm), .second, .val (.int lm), .val (.int v), .val (.int t), .val (.int ((a + b) + (1 : Int32))), .val (.int e0), .unset, .unset, .unset, .unset, .unset, .unset, .unset, .unset, .unset, .unset, .unset, .unset]) (S' := [.long nm, .int jk, .int t, .int e0, .int (1 : Int32), .int a, .int fr, .int (21 : Int32), .int (21 : Int32), .ref 0, .ref 0]) (H' := (.inr (.byte, [.int c0, .int c1, .int c2, .int c3, .int c4, .int c5, .int c6, .int c7, .int c8, .int c9, .int c10, .int c11, .int c12, .int c13, .int c14, .int c15, .int c16, .int c17, .int c18, .int c19, .int c20, .int (0 : Int32), .int (0 : Int32), .int (0 : Int32), .int (0 : Int32), .int (0 : Int32)]) :: G21)) (sl' := S21) rfl ?_
  obtain ⟨c21, K21, s21, hB, u21, d21, ok21⟩ := own_at1 (21 : Int32) fr a e0 t jk 21 FR A E0 JK rfl hfr ha he0 hjk (Nat.le_of_ble_eq_true rfl) gFR gA gE1 gE2 gJ ht nm NM hn hN (.inr (.byte, [.int c0, .int c1, .int c2, .int c3, .int c4, .int c5, .int c6, .int c7, .int c8, .int c9, .int c10, .int c11, .int c12, .int c13, .int c14, .int c15, .int c16, .int c17, .int c18, .int c19, .int c20, .int (0 : Int32), .int (0 : Int32), .int (0 : Int32), .int (0 : Int32), .int (0 : Int32)]) :: G21)
  refine mmW_callS (n := 622) rfl rfl rfl (rfl) (Nat.le_of_ble_eq_true rfl) (hB) ?_
  show mmW K_0 I_0 (some .boolean) (622) 651 [.val (.int x0), .val (.int x1), .val (.int x2), .val (.long x3), .second, .val (.int fr), .val (.int a), .val (.int b), .val (.int (1 : Int32)), .val (.int jk), .val (.long nm), .second, .val (.int lm), .val (.int v), .val (.int t), .val (.int ((a + b) + (1 : Int32))), .val (.int e0), .unset, .unset, .unset, .unset, .unset, .unset, .unset, .unset, .unset, .unset, .unset, .unset] [.int c21, .int (21 : Int32), .ref 0, .ref 0] (.inr (.byte, [.int c0, .int c1, .int c2, .int c3, .int c4, .int c5, .int c6, .int c7, .int c8, .int c9, .int c10, .int c11, .int c12, .int c13, .int c14, .int c15, .int c16, .int c17, .int c18, .int c19, .int c20, .int (0 : Int32), .int (0 : Int32), .int (0 : Int32), .int (0 : Int32), .int (0 : Int32)]) :: (G21 ++ K21)) (S21 + s21) _
  have gl22 : (G21 ++ K21).length ≤ 22 := by rw [List.length_append]; omega
  have sl22 : (S21 + s21) ≤ 444 := by omega
  clear hB
  generalize G21 ++ K21 = G22 at gl22 ⊢
  generalize (S21 + s21) = S22 at sl22 ⊢
  refine mmW_steps (k := 1) (n := 621) (pc' := 652) (L' := [.val (.int x0), .val (.int x1), .val (.int x2), .val (.long x3), .second, .val (.int fr), .val (.int a), .val (.int b), .val (.int (1 : Int32)), .val (.int jk), .val (.long nm), .second, .val (.int lm), .val (.int v), .val (.int t), .val (.int ((a + b) + (1 : Int32))), .val (.int e0), .unset, .unset, .unset, .unset, .unset, .unset, .unset, .unset, .unset, .unset, .unset, .unset]) (S' := [.ref 0]) (H' := (.inr (.byte, [.int c0, .int c1, .int c2, .int c3, .int c4, .int c5, .int c6, .int c7, .int c8, .int c9, .int c10, .int c11, .int c12, .int c13, .int c14, .int c15, .int c16, .int c17, .int c18, .int c19, .int c20, .int c21.toInt8.toInt32, .int (0 : Int32), .int (0 : Int32), .int (0 : Int32), .int (0 : Int32)]) :: G22)) (sl' := S22) rfl ?_
  rw [ok21.1]
  refine mmW_steps (k := 10) (n := 611) (pc' := 671) (L' := [.val (.int x0), .val (.int x1), .val (.int x2), .val (.long x3), .second, .val (.int fr), .val (.int a), .val (.int b), .val (.int (1 : Int32)), .val (.int jk), .val (.long nm), .second, .val (.int lm), .val (.int v), .val (.int t), .val (.int ((a + b) + (1 : Int32))), .val (.int e0), .unset, .unset, .unset, .unset, .unset, .unset, .unset, .unset, .unset, .unset, .unset, .unset]) (S' := [.long nm, .int jk, .int t, .int e0, .int (1 : Int32), .int a, .int fr, .int (22 : Int32), .int (22 : Int32), .ref 0, .ref 0]) (H' := (.inr (.byte, [.int c0, .int c1, .int c2, .int c3, .int c4, .int c5, .int c6, .int c7, .int c8, .int c9, .int c10, .int c11, .int c12, .int c13, .int c14, .int c15, .int c16, .int c17, .int c18, .int c19, .int c20, .int c21, .int (0 : Int32), .int (0 : Int32), .int (0 : Int32), .int (0 : Int32)]) :: G22)) (sl' := S22) rfl ?_
  obtain ⟨c22, K22, s22, hB, u22, d22, ok22⟩ := own_at1 (22 : Int32) fr a e0 t jk 22 FR A E0 JK rfl hfr ha he0 hjk (Nat.le_of_ble_eq_true rfl) gFR gA gE1 gE2 gJ ht nm NM hn hN (.inr (.byte, [.int c0, .int c1, .int c2, .int c3, .int c4, .int c5, .int c6, .int c7, .int c8, .int c9, .int c10, .int c11, .int c12, .int c13, .int c14, .int c15, .int c16, .int c17, .int c18, .int c19, .int c20, .int c21, .int (0 : Int32), .int (0 : Int32), .int (0 : Int32), .int (0 : Int32)]) :: G22)
  refine mmW_callS (n := 610) rfl rfl rfl (rfl) (Nat.le_of_ble_eq_true rfl) (hB) ?_
  show mmW K_0 I_0 (some .boolean) (610) 674 [.val (.int x0), .val (.int x1), .val (.int x2), .val (.long x3), .second, .val (.int fr), .val (.int a), .val (.int b), .val (.int (1 : Int32)), .val (.int jk), .val (.long nm), .second, .val (.int lm), .val (.int v), .val (.int t), .val (.int ((a + b) + (1 : Int32))), .val (.int e0), .unset, .unset, .unset, .unset, .unset, .unset, .unset, .unset, .unset, .unset, .unset, .unset] [.int c22, .int (22 : Int32), .ref 0, .ref 0] (.inr (.byte, [.int c0, .int c1, .int c2, .int c3, .int c4, .int c5, .int c6, .int c7, .int c8, .int c9, .int c10, .int c11, .int c12, .int c13, .int c14, .int c15, .int c16, .int c17, .int c18, .int c19, .int c20, .int c21, .int (0 : Int32), .int (0 : Int32), .int (0 : Int32), .int (0 : Int32)]) :: (G22 ++ K22)) (S22 + s22) _
  have gl23 : (G22 ++ K22).length ≤ 23 := by rw [List.length_append]; omega
  have sl23 : (S22 + s22) ≤ 463 := by omega
  clear hB
  generalize G22 ++ K22 = G23 at gl23 ⊢
  generalize (S22 + s22) = S23 at sl23 ⊢
  refine mmW_steps (k := 1) (n := 609) (pc' := 675) (L' := [.val (.int x0), .val (.int x1), .val (.int x2), .val (.long x3), .second, .val (.int fr), .val (.int a), .val (.int b), .val (.int (1 : Int32)), .val (.int jk), .val (.long nm), .second, .val (.int lm), .val (.int v), .val (.int t), .val (.int ((a + b) + (1 : Int32))), .val (.int e0), .unset, .unset, .unset, .unset, .unset, .unset, .unset, .unset, .unset, .unset, .unset, .unset]) (S' := [.ref 0]) (H' := (.inr (.byte, [.int c0, .int c1, .int c2, .int c3, .int c4, .int c5, .int c6, .int c7, .int c8, .int c9, .int c10, .int c11, .int c12, .int c13, .int c14, .int c15, .int c16, .int c17, .int c18, .int c19, .int c20, .int c21, .int c22.toInt8.toInt32, .int (0 : Int32), .int (0 : Int32), .int (0 : Int32)]) :: G23)) (sl' := S23) rfl ?_
  rw [ok22.1]
  refine mmW_steps (k := 10) (n := 599) (pc' := 694) (L' := [.val (.int x0), .val (.int x1), .val (.int x2), .val (.long x3), .second, .val (.int fr), .val (.int a), .val (.int b), .val (.int (1 : Int32)), .val (.int jk), .val (.long nm), .second, .val (.int lm), .val (.int v), .val (.int t), .val (.int ((a + b) + (1 : Int32))), .val (.int e0), .unset, .unset, .unset, .unset, .unset, .unset, .unset, .unset, .unset, .unset, .unset, .unset]) (S' := [.long nm, .int jk, .int t, .int e0, .int (1 : Int32), .int a, .int fr, .int (23 : Int32), .int (23 : Int32), .ref 0, .ref 0]) (H' := (.inr (.byte, [.int c0, .int c1, .int c2, .int c3, .int c4, .int c5, .int c6, .int c7, .int c8, .int c9, .int c10, .int c11, .int c12, .int c13, .int c14, .int c15, .int c16, .int c17, .int c18, .int c19, .int c20, .int c21, .int c22, .int (0 : Int32), .int (0 : Int32), .int (0 : Int32)]) :: G23)) (sl' := S23) rfl ?_
  obtain ⟨c23, K23, s23, hB, u23, d23, ok23⟩ := own_at1 (23 : Int32) fr a e0 t jk 23 FR A E0 JK rfl hfr ha he0 hjk (Nat.le_of_ble_eq_true rfl) gFR gA gE1 gE2 gJ ht nm NM hn hN (.inr (.byte, [.int c0, .int c1, .int c2, .int c3, .int c4, .int c5, .int c6, .int c7, .int c8, .int c9, .int c10, .int c11, .int c12, .int c13, .int c14, .int c15, .int c16, .int c17, .int c18, .int c19, .int c20, .int c21, .int c22, .int (0 : Int32), .int (0 : Int32), .int (0 : Int32)]) :: G23)
  refine mmW_callS (n := 598) rfl rfl rfl (rfl) (Nat.le_of_ble_eq_true rfl) (hB) ?_
  show mmW K_0 I_0 (some .boolean) (598) 697 [.val (.int x0), .val (.int x1), .val (.int x2), .val (.long x3), .second, .val (.int fr), .val (.int a), .val (.int b), .val (.int (1 : Int32)), .val (.int jk), .val (.long nm), .second, .val (.int lm), .val (.int v), .val (.int t), .val (.int ((a + b) + (1 : Int32))), .val (.int e0), .unset, .unset, .unset, .unset, .unset, .unset, .unset, .unset, .unset, .unset, .unset, .unset] [.int c23, .int (23 : Int32), .ref 0, .ref 0] (.inr (.byte, [.int c0, .int c1, .int c2, .int c3, .int c4, .int c5, .int c6, .int c7, .int c8, .int c9, .int c10, .int c11, .int c12, .int c13, .int c14, .int c15, .int c16, .int c17, .int c18, .int c19, .int c20, .int c21, .int c22, .int (0 : Int32), .int (0 : Int32), .int (0 : Int32)]) :: (G23 ++ K23)) (S23 + s23) _
  have gl24 : (G23 ++ K23).length ≤ 24 := by rw [List.length_append]; omega
  have sl24 : (S23 + s23) ≤ 482 := by omega
  clear hB
  generalize G23 ++ K23 = G24 at gl24 ⊢
  generalize (S23 + s23) = S24 at sl24 ⊢
  refine mmW_steps (k := 1) (n := 597) (pc' := 698) (L' := [.val (.int x0), .val (.int x1), .val (.int x2), .val (.long x3), .second, .val (.int fr), .val (.int a), .val (.int b), .val (.int (1 : Int32)), .val (.int jk), .val (.long nm), .second, .val (.int lm), .val (.int v), .val (.int t), .val (.int ((a + b) + (1 : Int32))), .val (.int e0), .unset, .unset, .unset, .unset, .unset, .unset, .unset, .unset, .unset, .unset, .unset, .unset]) (S' := [.ref 0]) (H' := (.inr (.byte, [.int c0, .int c1, .int c2, .int c3, .int c4, .int c5, .int c6, .int c7, .int c8, .int c9, .int c10, .int c11, .int c12, .int c13, .int c14, .int c15, .int c16, .int c17, .int c18, .int c19, .int c20, .int c21, .int c22, .int c23.toInt8.toInt32, .int (0 : Int32), .int (0 : Int32)]) :: G24)) (sl' := S24) rfl ?_
  rw [ok23.1]
  refine mmW_steps (k := 10) (n := 587) (pc' := 717) (L' := [.val (.int x0), .val (.int x1), .val (.int x2), .val (.long x3), .second, .val (.int fr), .val (.int a), .val (.int b), .val (.int (1 : Int32)), .val (.int jk), .val (.long nm), .second, .val (.int lm), .val (.int v), .val (.int t), .val (.int ((a + b) + (1 : Int32))), .val (.int e0), .unset, .unset, .unset, .unset, .unset, .unset, .unset, .unset, .unset, .unset, .unset, .unset]) (S' := [.long nm, .int jk, .int t, .int e0, .int (1 : Int32), .int a, .int fr, .int (24 : Int32), .int (24 : Int32), .ref 0, .ref 0]) (H' := (.inr (.byte, [.int c0, .int c1, .int c2, .int c3, .int c4, .int c5, .int c6, .int c7, .int c8, .int c9, .int c10, .int c11, .int c12, .int c13, .int c14, .int c15, .int c16, .int c17, .int c18, .int c19, .int c20, .int c21, .int c22, .int c23, .int (0 : Int32), .int (0 : Int32)]) :: G24)) (sl' := S24) rfl ?_
  obtain ⟨c24, K24, s24, hB, u24, d24, ok24⟩ := own_at1 (24 : Int32) fr a e0 t jk 24 FR A E0 JK rfl hfr ha he0 hjk (Nat.le_of_ble_eq_true rfl) gFR gA gE1 gE2 gJ ht nm NM hn hN (.inr (.byte, [.int c0, .int c1, .int c2, .int c3, .int c4, .int c5, .int c6, .int c7, .int c8, .int c9, .int c10, .int c11, .int c12, .int c13, .int c14, .int c15, .int c16, .int c17, .int c18, .int c19, .int c20, .int c21, .int c22, .int c23, .int (0 : Int32), .int (0 : Int32)]) :: G24)
  refine mmW_callS (n := 586) rfl rfl rfl (rfl) (Nat.le_of_ble_eq_true rfl) (hB) ?_
  show mmW K_0 I_0 (some .boolean) (586) 720 [.val (.int x0), .val (.int x1), .val (.int x2), .val (.long x3), .second, .val (.int fr), .val (.int a), .val (.int b), .val (.int (1 : Int32)), .val (.int jk), .val (.long nm), .second, .val (.int lm), .val (.int v), .val (.int t), .val (.int ((a + b) + (1 : Int32))), .val (.int e0), .unset, .unset, .unset, .unset, .unset, .unset, .unset, .unset, .unset, .unset, .unset, .unset] [.int c24, .int (24 : Int32), .ref 0, .ref 0] (.inr (.byte, [.int c0, .int c1, .int c2, .int c3, .int c4, .int c5, .int c6, .int c7, .int c8, .int c9, .int c10, .int c11, .int c12, .int c13, .int c14, .int c15, .int c16, .int c17, .int c18, .int c19, .int c20, .int c21, .int c22, .int c23, .int (0 : Int32), .int (0 : Int32)]) :: (G24 ++ K24)) (S24 + s24) _
  have gl25 : (G24 ++ K24).length ≤ 25 := by rw [List.length_append]; omega
  have sl25 : (S24 + s24) ≤ 501 := by omega
  clear hB
  generalize G24 ++ K24 = G25 at gl25 ⊢
  generalize (S24 + s24) = S25 at sl25 ⊢
  refine mmW_steps (k := 1) (n := 585) (pc' := 721) (L' := [.val (.int x0), .val (.int x1), .val (.int x2), .val (.long x3), .second, .val (.int fr), .val (.int a), .val (.int b), .val (.int (1 : Int32)), .val (.int jk), .val (.long nm), .second, .val (.int lm), .val (.int v), .val (.int t), .val (.int ((a + b) + (1 : Int32))), .val (.int e0), .unset, .unset, .unset, .unset, .unset, .unset, .unset, .unset, .unset, .unset, .unset, .unset]) (S' := [.ref 0]) (H' := (.inr (.byte, [.int c0, .int c1, .int c2, .int c3, .int c4, .int c5, .int c6, .int c7, .int c8, .int c9, .int c10, .int c11, .int c12, .int c13, .int c14, .int c15, .int c16, .int c17, .int c18, .int c19, .int c20, .int c21, .int c22, .int c23, .int c24.toInt8.toInt32, .int (0 : Int32)]) :: G25)) (sl' := S25) rfl ?_
  rw [ok24.1]
  refine mmW_steps (k := 10) (n := 575) (pc' := 740) (L' := [.val (.int x0), .val (.int x1), .val (.int x2), .val (.long x3), .second, .val (.int fr), .val (.int a), .val (.int b), .val (.int (1 : Int32)), .val (.int jk), .val (.long nm), .second, .val (.int lm), .val (.int v), .val (.int t), .val (.int ((a + b) + (1 : Int32))), .val (.int e0), .unset, .unset, .unset, .unset, .unset, .unset, .unset, .unset, .unset, .unset, .unset, .unset]) (S' := [.long nm, .int jk, .int t, .int e0, .int (1 : Int32), .int a, .int fr, .int (25 : Int32), .int (25 : Int32), .ref 0, .ref 0]) (H' := (.inr (.byte, [.int c0, .int c1, .int c2, .int c3, .int c4, .int c5, .int c6, .int c7, .int c8, .int c9, .int c10, .int c11, .int c12, .int c13, .int c14, .int c15, .int c16, .int c17, .int c18, .int c19, .int c20, .int c21, .int c22, .int c23, .int c24, .int (0 : Int32)]) :: G25)) (sl' := S25) rfl ?_
  obtain ⟨c25, K25, s25, hB, u25, d25, ok25⟩ := own_at1 (25 : Int32) fr a e0 t jk 25 FR A E0 JK rfl hfr ha he0 hjk (Nat.le_of_ble_eq_true rfl) gFR gA gE1 gE2 gJ ht nm NM hn hN (.inr (.byte, [.int c0, .int c1, .int c2, .int c3, .int c4, .int c5, .int c6, .int c7, .int c8, .int c9, .int c10, .int c11, .int c12, .int c13, .int c14, .int c15, .int c16, .int c17, .int c18, .int c19, .int c20, .int c21, .int c22, .int c23, .int c24, .int (0 : Int32)]) :: G25)
  refine mmW_callS (n := 574) rfl rfl rfl (rfl) (Nat.le_of_ble_eq_true rfl) (hB) ?_
  show mmW K_0 I_0 (some .boolean) (574) 743 [.val (.int x0), .val (.int x1), .val (.int x2), .val (.long x3), .second, .val (.int fr), .val (.int a), .val (.int b), .val (.int (1 : Int32)), .val (.int jk), .val (.long nm), .second, .val (.int lm), .val (.int v), .val (.int t), .val (.int ((a + b) + (1 : Int32))), .val (.int e0), .unset, .unset, .unset, .unset, .unset, .unset, .unset, .unset, .unset, .unset, .unset, .unset] [.int c25, .int (25 : Int32), .ref 0, .ref 0] (.inr (.byte, [.int c0, .int c1, .int c2, .int c3, .int c4, .int c5, .int c6, .int c7, .int c8, .int c9, .int c10, .int c11, .int c12, .int c13, .int c14, .int c15, .int c16, .int c17, .int c18, .int c19, .int c20, .int c21, .int c22, .int c23, .int c24, .int (0 : Int32)]) :: (G25 ++ K25)) (S25 + s25) _
  have gl26 : (G25 ++ K25).length ≤ 26 := by rw [List.length_append]; omega
  have sl26 : (S25 + s25) ≤ 520 := by omega
  clear hB
  generalize G25 ++ K25 = G26 at gl26 ⊢
  generalize (S25 + s25) = S26 at sl26 ⊢
  refine mmW_steps (k := 1) (n := 573) (pc' := 744) (L' := [.val (.int x0), .val (.int x1), .val (.int x2), .val (.long x3), .second, .val (.int fr), .val (.int a), .val (.int b), .val (.int (1 : Int32)), .val (.int jk), .val (.long nm), .second, .val (.int lm), .val (.int v), .val (.int t), .val (.int ((a + b) + (1 : Int32))), .val (.int e0), .unset, .unset, .unset, .unset, .unset, .unset, .unset, .unset, .unset, .unset, .unset, .unset]) (S' := [.ref 0]) (H' := (.inr (.byte, [.int c0, .int c1, .int c2, .int c3, .int c4, .int c5, .int c6, .int c7, .int c8, .int c9, .int c10, .int c11, .int c12, .int c13, .int c14, .int c15, .int c16, .int c17, .int c18, .int c19, .int c20, .int c21, .int c22, .int c23, .int c24, .int c25.toInt8.toInt32]) :: G26)) (sl' := S26) rfl ?_
  rw [ok25.1]
  obtain ⟨c, hcd⟩ : ∃ c : Nat → Int32, c = fun k => List.getD [c0, c1, c2, c3, c4, c5, c6, c7, c8, c9, c10, c11, c12, c13, c14, c15, c16, c17, c18, c19, c20, c21, c22, c23, c24, c25] k 0 := ⟨_, rfl⟩
  have hc : ∀ I, I < 26 → own_ok1 FR E0 NM A t I (c I) := own_all26 (P := fun I => own_ok1 FR E0 NM A t I (c I)) (by rw [hcd]; exact ok0) (by rw [hcd]; exact ok1) (by rw [hcd]; exact ok2) (by rw [hcd]; exact ok3) (by rw [hcd]; exact ok4) (by rw [hcd]; exact ok5) (by rw [hcd]; exact ok6) (by rw [hcd]; exact ok7) (by rw [hcd]; exact ok8) (by rw [hcd]; exact ok9) (by rw [hcd]; exact ok10) (by rw [hcd]; exact ok11) (by rw [hcd]; exact ok12) (by rw [hcd]; exact ok13) (by rw [hcd]; exact ok14) (by rw [hcd]; exact ok15) (by rw [hcd]; exact ok16) (by rw [hcd]; exact ok17) (by rw [hcd]; exact ok18) (by rw [hcd]; exact ok19) (by rw [hcd]; exact ok20) (by rw [hcd]; exact ok21) (by rw [hcd]; exact ok22) (by rw [hcd]; exact ok23) (by rw [hcd]; exact ok24) (by rw [hcd]; exact ok25)
  have hcl : [.int c0, .int c1, .int c2, .int c3, .int c4, .int c5, .int c6, .int c7, .int c8, .int c9, .int c10, .int c11, .int c12, .int c13, .int c14, .int c15, .int c16, .int c17, .int c18, .int c19, .int c20, .int c21, .int c22, .int c23, .int c24, .int c25] = own_n 26 c := by rw [hcd]; rfl
  rw [hcl]
  have n0 : mmNth (.inr (.byte, own_n 26 c) :: G26) 0 = some (.inr (.byte, own_n 26 c)) := rfl
  have hl : ((.inr (.byte, own_n 26 c) :: G26) : MHeap).length ≤ 27 := by rw [List.length_cons]; omega
  generalize (.inr (.byte, own_n 26 c) :: G26) = H at n0 hl ⊢
  clear hcl hcd ok0 ok1 ok2 ok3 ok4 ok5 ok6 ok7 ok8 ok9 ok10 ok11 ok12 ok13 ok14 ok15 ok16 ok17 ok18 ok19 ok20 ok21 ok22 ok23 ok24 ok25
  refine mmW_steps (k := 2) (n := 571) (pc' := 747) (L' := [.val (.int x0), .val (.int x1), .val (.int x2), .val (.long x3), .second, .val (.int fr), .val (.int a), .val (.int b), .val (.int (1 : Int32)), .val (.int jk), .val (.long nm), .second, .val (.int lm), .val (.int v), .val (.int t), .val (.int ((a + b) + (1 : Int32))), .val (.int e0), .val (.ref 0), .unset, .unset, .unset, .unset, .unset, .unset, .unset, .unset, .unset, .unset, .unset]) (S' := [.int (3 : Int32)]) (H' := H) (sl' := S26) rfl ?_
  refine mmW_newA (n := 570) rfl rfl (by decide) (by decide) ?_
  show mmW K_0 I_0 (some .boolean) (570) 749 [.val (.int x0), .val (.int x1), .val (.int x2), .val (.long x3), .second, .val (.int fr), .val (.int a), .val (.int b), .val (.int (1 : Int32)), .val (.int jk), .val (.long nm), .second, .val (.int lm), .val (.int v), .val (.int t), .val (.int ((a + b) + (1 : Int32))), .val (.int e0), .val (.ref 0), .unset, .unset, .unset, .unset, .unset, .unset, .unset, .unset, .unset, .unset, .unset] [.ref H.length] (H ++ [.inr (.byte, [.int 0, .int 0, .int 0])]) (S26 + 3) _
  refine mmW_steps (k := 3) (n := 567) (pc' := 753) (L' := [.val (.int x0), .val (.int x1), .val (.int x2), .val (.long x3), .second, .val (.int fr), .val (.int a), .val (.int b), .val (.int (1 : Int32)), .val (.int jk), .val (.long nm), .second, .val (.int lm), .val (.int v), .val (.int t), .val (.int ((a + b) + (1 : Int32))), .val (.int e0), .val (.ref 0), .unset, .unset, .unset, .unset, .unset, .unset, .unset, .unset, .unset, .unset, .unset]) (S' := [.int (49 : Int32), .int (0 : Int32), .ref H.length, .ref H.length]) (H' := (H ++ [.inr (.byte, [.int 0, .int 0, .int 0])])) (sl' := (S26 + 3)) rfl ?_
  refine mmW_bastore (n := 566) rfl (mmNth_last _ _) (by decide) (by decide) ?_
  show mmW K_0 I_0 (some .boolean) (566) 754 [.val (.int x0), .val (.int x1), .val (.int x2), .val (.long x3), .second, .val (.int fr), .val (.int a), .val (.int b), .val (.int (1 : Int32)), .val (.int jk), .val (.long nm), .second, .val (.int lm), .val (.int v), .val (.int t), .val (.int ((a + b) + (1 : Int32))), .val (.int e0), .val (.ref 0), .unset, .unset, .unset, .unset, .unset, .unset, .unset, .unset, .unset, .unset, .unset] [.ref H.length] (List.set (H ++ [(.inr (.byte, [.int 0, .int 0, .int 0]) : MObj)]) H.length (.inr (.byte, [.int 49, .int 0, .int 0]))) (S26 + 3) _
  rw [mmSet_last]
  refine mmW_steps (k := 3) (n := 563) (pc' := 758) (L' := [.val (.int x0), .val (.int x1), .val (.int x2), .val (.long x3), .second, .val (.int fr), .val (.int a), .val (.int b), .val (.int (1 : Int32)), .val (.int jk), .val (.long nm), .second, .val (.int lm), .val (.int v), .val (.int t), .val (.int ((a + b) + (1 : Int32))), .val (.int e0), .val (.ref 0), .unset, .unset, .unset, .unset, .unset, .unset, .unset, .unset, .unset, .unset, .unset]) (S' := [.int (46 : Int32), .int (1 : Int32), .ref H.length, .ref H.length]) (H' := (H ++ [.inr (.byte, [.int 49, .int 0, .int 0])])) (sl' := (S26 + 3)) rfl ?_
  refine mmW_bastore (n := 562) rfl (mmNth_last _ _) (by decide) (by decide) ?_
  show mmW K_0 I_0 (some .boolean) (562) 759 [.val (.int x0), .val (.int x1), .val (.int x2), .val (.long x3), .second, .val (.int fr), .val (.int a), .val (.int b), .val (.int (1 : Int32)), .val (.int jk), .val (.long nm), .second, .val (.int lm), .val (.int v), .val (.int t), .val (.int ((a + b) + (1 : Int32))), .val (.int e0), .val (.ref 0), .unset, .unset, .unset, .unset, .unset, .unset, .unset, .unset, .unset, .unset, .unset] [.ref H.length] (List.set (H ++ [(.inr (.byte, [.int 49, .int 0, .int 0]) : MObj)]) H.length (.inr (.byte, [.int 49, .int 46, .int 0]))) (S26 + 3) _
  rw [mmSet_last]
  refine mmW_steps (k := 3) (n := 559) (pc' := 763) (L' := [.val (.int x0), .val (.int x1), .val (.int x2), .val (.long x3), .second, .val (.int fr), .val (.int a), .val (.int b), .val (.int (1 : Int32)), .val (.int jk), .val (.long nm), .second, .val (.int lm), .val (.int v), .val (.int t), .val (.int ((a + b) + (1 : Int32))), .val (.int e0), .val (.ref 0), .unset, .unset, .unset, .unset, .unset, .unset, .unset, .unset, .unset, .unset, .unset]) (S' := [.int (53 : Int32), .int (2 : Int32), .ref H.length, .ref H.length]) (H' := (H ++ [.inr (.byte, [.int 49, .int 46, .int 0])])) (sl' := (S26 + 3)) rfl ?_
  refine mmW_bastore (n := 558) rfl (mmNth_last _ _) (by decide) (by decide) ?_
  show mmW K_0 I_0 (some .boolean) (558) 764 [.val (.int x0), .val (.int x1), .val (.int x2), .val (.long x3), .second, .val (.int fr), .val (.int a), .val (.int b), .val (.int (1 : Int32)), .val (.int jk), .val (.long nm), .second, .val (.int lm), .val (.int v), .val (.int t), .val (.int ((a + b) + (1 : Int32))), .val (.int e0), .val (.ref 0), .unset, .unset, .unset, .unset, .unset, .unset, .unset, .unset, .unset, .unset, .unset] [.ref H.length] (List.set (H ++ [(.inr (.byte, [.int 49, .int 46, .int 0]) : MObj)]) H.length (.inr (.byte, [.int 49, .int 46, .int 53]))) (S26 + 3) _
  rw [mmSet_last]
  refine mmW_steps (k := 1) (n := 557) (pc' := 766) (L' := [.val (.int x0), .val (.int x1), .val (.int x2), .val (.long x3), .second, .val (.int fr), .val (.int a), .val (.int b), .val (.int (1 : Int32)), .val (.int jk), .val (.long nm), .second, .val (.int lm), .val (.int v), .val (.int t), .val (.int ((a + b) + (1 : Int32))), .val (.int e0), .val (.ref 0), .val (.ref H.length), .unset, .unset, .unset, .unset, .unset, .unset, .unset, .unset, .unset, .unset]) (S' := []) (H' := (H ++ [.inr (.byte, [.int 49, .int 46, .int 53])])) (sl' := (S26 + 3)) rfl ?_
  have n1 : mmNth (H ++ [.inr (.byte, [.int 49, .int 46, .int 53])]) 0 = some (.inr (.byte, own_n 26 c)) := mmNth_app _ n0
  have nb : mmNth (H ++ [.inr (.byte, [.int 49, .int 46, .int 53])]) H.length = some (.inr (.byte, [.int 49, .int 46, .int 53])) := mmNth_last _ _
  have hl1 : (H ++ [.inr (.byte, [.int 49, .int 46, .int 53])] : MHeap).length ≤ 28 := by rw [List.length_append]; simp only [List.length_cons, List.length_nil]; omega
  generalize H ++ [.inr (.byte, [.int 49, .int 46, .int 53])] = H1 at n1 nb hl1 ⊢
  generalize H.length = br at nb ⊢
  refine mmW_new (n := 556) rfl rfl ?_
  show mmW K_0 I_0 (some .boolean) (556) 769 [.val (.int x0), .val (.int x1), .val (.int x2), .val (.long x3), .second, .val (.int fr), .val (.int a), .val (.int b), .val (.int (1 : Int32)), .val (.int jk), .val (.long nm), .second, .val (.int lm), .val (.int v), .val (.int t), .val (.int ((a + b) + (1 : Int32))), .val (.int e0), .val (.ref 0), .val (.ref br), .unset, .unset, .unset, .unset, .unset, .unset, .unset, .unset, .unset, .unset] [.ref H1.length] (H1 ++ [.inl (0, [.long 0, .int 0])]) ((S26 + 3) + 2) _
  have n2 : mmNth (H1 ++ [.inl (0, [.long 0, .int 0])]) 0 = some (.inr (.byte, own_n 26 c)) := mmNth_app _ n1
  have nb2 : mmNth (H1 ++ [.inl (0, [.long 0, .int 0])]) br = some (.inr (.byte, [.int 49, .int 46, .int 53])) := mmNth_app _ nb
  have nt : mmNth (H1 ++ [.inl (0, [.long 0, .int 0])]) H1.length = some (.inl (0, [.long 0, .int 0])) := mmNth_last _ _
  have hl2 : (H1 ++ [.inl (0, [.long 0, .int 0])] : MHeap).length ≤ 29 := by rw [List.length_append]; simp only [List.length_cons, List.length_nil]; omega
  generalize H1 ++ [.inl (0, [.long 0, .int 0])] = H2 at n2 nb2 nt hl2 ⊢
  generalize H1.length = tr at nt ⊢
  refine mmW_steps (k := 1) (n := 555) (pc' := 770) (L' := [.val (.int x0), .val (.int x1), .val (.int x2), .val (.long x3), .second, .val (.int fr), .val (.int a), .val (.int b), .val (.int (1 : Int32)), .val (.int jk), .val (.long nm), .second, .val (.int lm), .val (.int v), .val (.int t), .val (.int ((a + b) + (1 : Int32))), .val (.int e0), .val (.ref 0), .val (.ref br), .unset, .unset, .unset, .unset, .unset, .unset, .unset, .unset, .unset, .unset]) (S' := [.ref tr, .ref tr]) (H' := H2) (sl' := ((S26 + 3) + 2)) rfl ?_
  refine mmW_callI (n := 554) rfl rfl rfl rfl (mmRecv_of nt) (Nat.le_of_ble_eq_true rfl) (own_ini tr H2) ?_
  show mmW K_0 I_0 (some .boolean) (554) 773 [.val (.int x0), .val (.int x1), .val (.int x2), .val (.long x3), .second, .val (.int fr), .val (.int a), .val (.int b), .val (.int (1 : Int32)), .val (.int jk), .val (.long nm), .second, .val (.int lm), .val (.int v), .val (.int t), .val (.int ((a + b) + (1 : Int32))), .val (.int e0), .val (.ref 0), .val (.ref br), .unset, .unset, .unset, .unset, .unset, .unset, .unset, .unset, .unset, .unset] [.ref tr] H2 (((S26 + 3) + 2) + 0) _
  refine mmW_steps (k := 5) (n := 549) (pc' := 781) (L' := [.val (.int x0), .val (.int x1), .val (.int x2), .val (.long x3), .second, .val (.int fr), .val (.int a), .val (.int b), .val (.int (1 : Int32)), .val (.int jk), .val (.long nm), .second, .val (.int lm), .val (.int v), .val (.int t), .val (.int ((a + b) + (1 : Int32))), .val (.int e0), .val (.ref 0), .val (.ref br), .val (.ref tr), .unset, .unset, .unset, .unset, .unset, .unset, .unset, .unset, .unset]) (S' := [.int (3 : Int32), .int (0 : Int32), .ref br, .ref tr]) (H' := H2) (sl' := (((S26 + 3) + 2) + 0)) rfl ?_
  refine mmW_callV (n := 548) rfl rfl rfl (mmRecv_of nt) (Nat.le_of_ble_eq_true rfl) (own_rdp nb2 nt) ?_
  show mmW K_0 I_0 (some .boolean) (548) 784 [.val (.int x0), .val (.int x1), .val (.int x2), .val (.long x3), .second, .val (.int fr), .val (.int a), .val (.int b), .val (.int (1 : Int32)), .val (.int jk), .val (.long nm), .second, .val (.int lm), .val (.int v), .val (.int t), .val (.int ((a + b) + (1 : Int32))), .val (.int e0), .val (.ref 0), .val (.ref br), .val (.ref tr), .unset, .unset, .unset, .unset, .unset, .unset, .unset, .unset, .unset] [.int (3 : Int32)] (H2.set tr (.inl (0, [.long 15, .int 1]))) ((((S26 + 3) + 2) + 0) + 0) _
  have hne : tr ≠ 0 := fun z => by rw [z, n2] at nt; cases nt
  have n3 : mmNth (H2.set tr (.inl (0, [.long 15, .int 1]))) 0 = some (.inr (.byte, own_n 26 c)) := mmNth_setne _ hne n2
  have nt3 : mmNth (H2.set tr (.inl (0, [.long 15, .int 1]))) tr = some (.inl (0, [.long 15, .int 1])) := mmNth_set _ nt
  have hl3 : (H2.set tr (.inl (0, [.long 15, .int 1]))).length ≤ 29 := by rw [List.length_set]; exact hl2
  generalize H2.set tr (.inl (0, [.long 15, .int 1])) = H3 at n3 nt3 hl3 ⊢
  refine mmW_steps (k := 3) (n := 545) (pc' := 790) (L' := [.val (.int x0), .val (.int x1), .val (.int x2), .val (.long x3), .second, .val (.int fr), .val (.int a), .val (.int b), .val (.int (1 : Int32)), .val (.int jk), .val (.long nm), .second, .val (.int lm), .val (.int v), .val (.int t), .val (.int ((a + b) + (1 : Int32))), .val (.int e0), .val (.ref 0), .val (.ref br), .val (.ref tr), .unset, .unset, .unset, .unset, .unset, .unset, .unset, .unset, .unset]) (S' := [.ref tr]) (H' := H3) (sl' := ((((S26 + 3) + 2) + 0) + 0)) rfl ?_
  refine mmW_callV (n := 544) rfl rfl rfl (mmRecv_of nt3) (Nat.le_of_ble_eq_true rfl) (own_dgs nt3) ?_
  show mmW K_0 I_0 (some .boolean) (544) 793 [.val (.int x0), .val (.int x1), .val (.int x2), .val (.long x3), .second, .val (.int fr), .val (.int a), .val (.int b), .val (.int (1 : Int32)), .val (.int jk), .val (.long nm), .second, .val (.int lm), .val (.int v), .val (.int t), .val (.int ((a + b) + (1 : Int32))), .val (.int e0), .val (.ref 0), .val (.ref br), .val (.ref tr), .unset, .unset, .unset, .unset, .unset, .unset, .unset, .unset, .unset] [.long (15 : Int64)] H3 (((((S26 + 3) + 2) + 0) + 0) + 0) _
  refine mmW_steps (k := 4) (n := 540) (pc' := 802) (L' := [.val (.int x0), .val (.int x1), .val (.int x2), .val (.long x3), .second, .val (.int fr), .val (.int a), .val (.int b), .val (.int (1 : Int32)), .val (.int jk), .val (.long nm), .second, .val (.int lm), .val (.int v), .val (.int t), .val (.int ((a + b) + (1 : Int32))), .val (.int e0), .val (.ref 0), .val (.ref br), .val (.ref tr), .unset, .unset, .unset, .unset, .unset, .unset, .unset, .unset, .unset]) (S' := [.ref tr]) (H' := H3) (sl' := (((((S26 + 3) + 2) + 0) + 0) + 0)) rfl ?_
  refine mmW_callV (n := 539) rfl rfl rfl (mmRecv_of nt3) (Nat.le_of_ble_eq_true rfl) (own_dcs nt3) ?_
  show mmW K_0 I_0 (some .boolean) (539) 805 [.val (.int x0), .val (.int x1), .val (.int x2), .val (.long x3), .second, .val (.int fr), .val (.int a), .val (.int b), .val (.int (1 : Int32)), .val (.int jk), .val (.long nm), .second, .val (.int lm), .val (.int v), .val (.int t), .val (.int ((a + b) + (1 : Int32))), .val (.int e0), .val (.ref 0), .val (.ref br), .val (.ref tr), .unset, .unset, .unset, .unset, .unset, .unset, .unset, .unset, .unset] [.int (1 : Int32)] H3 ((((((S26 + 3) + 2) + 0) + 0) + 0) + 0) _
  refine mmW_steps (k := 6) (n := 533) (pc' := 819) (L' := [.val (.int x0), .val (.int x1), .val (.int x2), .val (.long x3), .second, .val (.int fr), .val (.int a), .val (.int b), .val (.int (1 : Int32)), .val (.int jk), .val (.long nm), .second, .val (.int lm), .val (.int v), .val (.int t), .val (.int ((a + b) + (1 : Int32))), .val (.int e0), .val (.ref 0), .val (.ref br), .val (.ref tr), .unset, .unset, .unset, .unset, .unset, .unset, .unset, .unset, .unset]) (S' := [.int lm, .int fr, .ref 0, .ref tr]) (H' := H3) (sl' := ((((((S26 + 3) + 2) + 0) + 0) + 0) + 0)) rfl ?_
  by_cases hcl : fr < lm
  · obtain ⟨LM, hlm, hFL, hL26⟩ := own_LM hfr hcl hlm26
    obtain ⟨K, hK1, hK2, hK3⟩ : ∃ K, FR + K ≤ LM ∧ FR + K ≤ E0 ∧ (FR + K = LM ∨ FR + K = E0) := ⟨min LM E0 - FR, by omega, by omega, by omega⟩
    by_cases hA0 : A = 0
    · have hR := own_rd1z H3 tr 0 c fr lm (A := A) n3 nt3 hc ht1 hlm (by omega) (by omega) hN hfr hK1 hK2 hK3 hA0 (by omega) hcl
      refine mmW_callV (n := 532) rfl rfl rfl (mmRecv_of nt3) (Nat.le_of_ble_eq_true rfl) (hR) ?_
      show mmW K_0 I_0 (some .boolean) (532) 822 [.val (.int x0), .val (.int x1), .val (.int x2), .val (.long x3), .second, .val (.int fr), .val (.int a), .val (.int b), .val (.int (1 : Int32)), .val (.int jk), .val (.long nm), .second, .val (.int lm), .val (.int v), .val (.int t), .val (.int ((a + b) + (1 : Int32))), .val (.int e0), .val (.ref 0), .val (.ref br), .val (.ref tr), .unset, .unset, .unset, .unset, .unset, .unset, .unset, .unset, .unset] [.int (-1 : Int32)] H3 (((((((S26 + 3) + 2) + 0) + 0) + 0) + 0) + 0) _
      refine mmW_steps (k := 8) (n := 524) (pc' := (if if_icmp.holds .le lm fr = true then 847 else 837)) (L' := [.val (.int x0), .val (.int x1), .val (.int x2), .val (.long x3), .second, .val (.int fr), .val (.int a), .val (.int b), .val (.int (1 : Int32)), .val (.int jk), .val (.long nm), .second, .val (.int lm), .val (.int v), .val (.int t), .val (.int ((a + b) + (1 : Int32))), .val (.int e0), .val (.ref 0), .val (.ref br), .val (.ref tr), .val (.int (-1 : Int32)), .unset, .val (.long (0 : Int64)), .second, .val (.int (0 : Int32)), .unset, .unset, .unset, .unset]) (S' := []) (H' := H3) (sl' := (((((((S26 + 3) + 2) + 0) + 0) + 0) + 0) + 0)) rfl ?_
      refine mmW_f (XT.ii_le_f (hcl)) ?_
      refine mmW_steps (k := 4) (n := 520) (pc' := (if ifCond.holds .ne a = true then 853 else 847)) (L' := [.val (.int x0), .val (.int x1), .val (.int x2), .val (.long x3), .second, .val (.int fr), .val (.int a), .val (.int b), .val (.int (1 : Int32)), .val (.int jk), .val (.long nm), .second, .val (.int lm), .val (.int v), .val (.int t), .val (.int ((a + b) + (1 : Int32))), .val (.int e0), .val (.ref 0), .val (.ref br), .val (.ref tr), .val (.int (-1 : Int32)), .unset, .val (.long (0 : Int64)), .second, .val (.int (0 : Int32)), .unset, .unset, .unset, .unset]) (S' := []) (H' := H3) (sl' := (((((((S26 + 3) + 2) + 0) + 0) + 0) + 0) + 0)) rfl ?_
      refine mmW_f (XT.i0_ne_f (own_0 (by rw [ha, hA0]; rfl))) ?_
      refine mmW_steps (k := 10) (n := 510) (pc' := 991) (L' := [.val (.int x0), .val (.int x1), .val (.int x2), .val (.long x3), .second, .val (.int fr), .val (.int a), .val (.int b), .val (.int (1 : Int32)), .val (.int jk), .val (.long nm), .second, .val (.int lm), .val (.int v), .val (.int t), .val (.int ((a + b) + (1 : Int32))), .val (.int e0), .val (.ref 0), .val (.ref br), .val (.ref tr), .val (.int (-1 : Int32)), .val (.int (-1 : Int32)), .val (.long (0 : Int64)), .second, .val (.int (0 : Int32)), .unset, .unset, .unset, .unset]) (S' := [.int (1 : Int32)]) (H' := H3) (sl' := (((((((S26 + 3) + 2) + 0) + 0) + 0) + 0) + 0)) rfl ?_
      exact mmW_ret (n := 509) (i := .ireturn) rfl rfl ⟨rfl, by omega, by omega⟩
    · by_cases hKA : K ≤ A
      · obtain ⟨ix, z, dc, hR, q1, q2, q3, q4⟩ := own_rd1a H3 tr 0 c fr lm (A := A) n3 nt3 hc ht1 hlm (by omega) (by omega) hN hfr hK1 hK2 hK3 (by omega) (by omega) (by omega) hKA
        refine mmW_callV (n := 532) rfl rfl rfl (mmRecv_of nt3) (Nat.le_of_ble_eq_true rfl) (hR) ?_
        show mmW K_0 I_0 (some .boolean) (532) 822 [.val (.int x0), .val (.int x1), .val (.int x2), .val (.long x3), .second, .val (.int fr), .val (.int a), .val (.int b), .val (.int (1 : Int32)), .val (.int jk), .val (.long nm), .second, .val (.int lm), .val (.int v), .val (.int t), .val (.int ((a + b) + (1 : Int32))), .val (.int e0), .val (.ref 0), .val (.ref br), .val (.ref tr), .unset, .unset, .unset, .unset, .unset, .unset, .unset, .unset, .unset] [.int ix] (H3.set tr (.inl (0, [.long z, .int dc]))) (((((((S26 + 3) + 2) + 0) + 0) + 0) + 0) + 0) _
        have nt4 : mmNth (H3.set tr (.inl (0, [.long z, .int dc]))) tr = some (.inl (0, [.long z, .int dc])) := mmNth_set _ nt3
        have hl4 : (H3.set tr (.inl (0, [.long z, .int dc]))).length ≤ 29 := by rw [List.length_set]; exact hl3
        generalize H3.set tr (.inl (0, [.long z, .int dc])) = H4 at nt4 hl4 hR ⊢
        refine mmW_steps (k := 8) (n := 524) (pc' := (if if_icmp.holds .le lm fr = true then 847 else 837)) (L' := [.val (.int x0), .val (.int x1), .val (.int x2), .val (.long x3), .second, .val (.int fr), .val (.int a), .val (.int b), .val (.int (1 : Int32)), .val (.int jk), .val (.long nm), .second, .val (.int lm), .val (.int v), .val (.int t), .val (.int ((a + b) + (1 : Int32))), .val (.int e0), .val (.ref 0), .val (.ref br), .val (.ref tr), .val (.int ix), .unset, .val (.long (0 : Int64)), .second, .val (.int (0 : Int32)), .unset, .unset, .unset, .unset]) (S' := []) (H' := H4) (sl' := (((((((S26 + 3) + 2) + 0) + 0) + 0) + 0) + 0)) rfl ?_
        refine mmW_f (XT.ii_le_f (hcl)) ?_
        refine mmW_steps (k := 4) (n := 520) (pc' := (if ifCond.holds .ne a = true then 853 else 847)) (L' := [.val (.int x0), .val (.int x1), .val (.int x2), .val (.long x3), .second, .val (.int fr), .val (.int a), .val (.int b), .val (.int (1 : Int32)), .val (.int jk), .val (.long nm), .second, .val (.int lm), .val (.int v), .val (.int t), .val (.int ((a + b) + (1 : Int32))), .val (.int e0), .val (.ref 0), .val (.ref br), .val (.ref tr), .val (.int ix), .unset, .val (.long (0 : Int64)), .second, .val (.int (0 : Int32)), .unset, .unset, .unset, .unset]) (S' := []) (H' := H4) (sl' := (((((((S26 + 3) + 2) + 0) + 0) + 0) + 0) + 0)) rfl ?_
        refine mmW_t (XT.i0_ne_t (own_n0 ha (by omega))) ?_
        refine mmW_steps (k := 3) (n := 517) (pc' := 860) (L' := [.val (.int x0), .val (.int x1), .val (.int x2), .val (.long x3), .second, .val (.int fr), .val (.int a), .val (.int b), .val (.int (1 : Int32)), .val (.int jk), .val (.long nm), .second, .val (.int lm), .val (.int v), .val (.int t), .val (.int ((a + b) + (1 : Int32))), .val (.int e0), .val (.ref 0), .val (.ref br), .val (.ref tr), .val (.int ix), .unset, .val (.long (0 : Int64)), .second, .val (.int (0 : Int32)), .unset, .unset, .unset, .unset]) (S' := [.int (if e0 < lm then e0 else lm)]) (H' := H4) (sl' := ((((((((S26 + 3) + 2) + 0) + 0) + 0) + 0) + 0) + 0)) rfl ?_
        have hsp := own_min hlm he0 hK1 hK2 hK3
        generalize (if e0 < lm then e0 else lm) = sp at hsp ⊢
        refine mmW_steps (k := 4) (n := 513) (pc' := 867) (L' := [.val (.int x0), .val (.int x1), .val (.int x2), .val (.long x3), .second, .val (.int fr), .val (.int a), .val (.int b), .val (.int (1 : Int32)), .val (.int jk), .val (.long nm), .second, .val (.int lm), .val (.int v), .val (.int t), .val (.int ((a + b) + (1 : Int32))), .val (.int e0), .val (.ref 0), .val (.ref br), .val (.ref tr), .val (.int ix), .unset, .val (.long (0 : Int64)), .second, .val (.int (0 : Int32)), .val (.int sp), .unset, .unset, .unset]) (S' := [.int (sp - fr)]) (H' := H4) (sl' := ((((((((S26 + 3) + 2) + 0) + 0) + 0) + 0) + 0) + 0)) rfl ?_
        have hkk := own_sub hsp hfr (by omega) (by omega)
        rw [show FR + K - FR = K by omega] at hkk
        generalize (sp - fr) = kk at hkk ⊢
        refine mmW_steps (k := 6) (n := 507) (pc' := (if if_icmp.holds .le kk a = true then 885 else 881)) (L' := [.val (.int x0), .val (.int x1), .val (.int x2), .val (.long x3), .second, .val (.int fr), .val (.int a), .val (.int b), .val (.int (1 : Int32)), .val (.int jk), .val (.long nm), .second, .val (.int lm), .val (.int v), .val (.int t), .val (.int ((a + b) + (1 : Int32))), .val (.int e0), .val (.ref 0), .val (.ref br), .val (.ref tr), .val (.int ix), .unset, .val (.long (0 : Int64)), .second, .val (.int (0 : Int32)), .val (.int sp), .val (.int kk), .unset, .unset]) (S' := []) (H' := H4) (sl' := ((((((((S26 + 3) + 2) + 0) + 0) + 0) + 0) + 0) + 0)) rfl ?_
        refine mmW_t (XT.ii_le_t (fun z => absurd ((own_lt ha hkk).mp z) (by omega))) ?_
        refine mmW_steps (k := 8) (n := 499) (pc' := (if ifCond.holds .eq kk = true then 923 else 909)) (L' := [.val (.int x0), .val (.int x1), .val (.int x2), .val (.long x3), .second, .val (.int fr), .val (.int a), .val (.int b), .val (.int (1 : Int32)), .val (.int jk), .val (.long nm), .second, .val (.int lm), .val (.int v), .val (.int t), .val (.int ((a + b) + (1 : Int32))), .val (.int e0), .val (.ref 0), .val (.ref br), .val (.ref tr), .val (.int ix), .unset, .val (.long (0 : Int64)), .second, .val (.int (0 : Int32)), .val (.int sp), .val (.int kk), .val (.int (0 : Int32)), .val (.int kk)]) (S' := []) (H' := H4) (sl' := ((((((((S26 + 3) + 2) + 0) + 0) + 0) + 0) + 0) + 0)) rfl ?_
        refine mmW_f (XT.i0_eq_f (own_n0 hkk (by omega))) ?_
        refine mmW_steps (k := 7) (n := 492) (pc' := (if if_icmp.holds .ne kk (a + (1 : Int32)) = true then 929 else 923)) (L' := [.val (.int x0), .val (.int x1), .val (.int x2), .val (.long x3), .second, .val (.int fr), .val (.int a), .val (.int b), .val (.int (1 : Int32)), .val (.int jk), .val (.long nm), .second, .val (.int lm), .val (.int v), .val (.int t), .val (.int ((a + b) + (1 : Int32))), .val (.int e0), .val (.ref 0), .val (.ref br), .val (.ref tr), .val (.int ix), .unset, .val (.long (0 : Int64)), .second, .val (.int (0 : Int32)), .val (.int sp), .val (.int kk), .val (.int (0 : Int32)), .val (.int kk)]) (S' := []) (H' := H4) (sl' := ((((((((S26 + 3) + 2) + 0) + 0) + 0) + 0) + 0) + 0)) rfl ?_
        refine mmW_t (XT.ii_ne_t (own_nk hkk ha (by omega))) ?_
        refine mmW_steps (k := 5) (n := 487) (pc' := (if if_icmp.holds .le kk (18 : Int32) = true then 946 else 940)) (L' := [.val (.int x0), .val (.int x1), .val (.int x2), .val (.long x3), .second, .val (.int fr), .val (.int a), .val (.int b), .val (.int (1 : Int32)), .val (.int jk), .val (.long nm), .second, .val (.int lm), .val (.int v), .val (.int t), .val (.int ((a + b) + (1 : Int32))), .val (.int e0), .val (.ref 0), .val (.ref br), .val (.ref tr), .val (.int ix), .val (.int sp), .val (.long (0 : Int64)), .second, .val (.int (0 : Int32)), .val (.int sp), .val (.int kk), .val (.int (0 : Int32)), .val (.int kk)]) (S' := []) (H' := H4) (sl' := ((((((((S26 + 3) + 2) + 0) + 0) + 0) + 0) + 0) + 0)) rfl ?_
        by_cases hbg : (18 : Int32) < kk
        · refine mmW_f (XT.ii_le_f (hbg)) ?_
          have hbig : 18 < K := (own_lt (a := (18 : Int32)) (A := 18) rfl hkk).mp hbg
          refine mmW_steps (k := 10) (n := 477) (pc' := (if if_icmp.holds .eq ix sp = true then 984 else 982)) (L' := [.val (.int x0), .val (.int x1), .val (.int x2), .val (.long x3), .second, .val (.int fr), .val (.int a), .val (.int b), .val (.int (1 : Int32)), .val (.int jk), .val (.long nm), .second, .val (.int lm), .val (.int v), .val (.int t), .val (.int ((a + b) + (1 : Int32))), .val (.int e0), .val (.ref 0), .val (.ref br), .val (.ref tr), .val (.int ix), .val (.int sp), .val (.long (-2 : Int64)), .second, .val (.int (0 : Int32)), .val (.int sp), .val (.int kk), .val (.int (0 : Int32)), .val (.int kk)]) (S' := []) (H' := H4) (sl' := ((((((((S26 + 3) + 2) + 0) + 0) + 0) + 0) + 0) + 0)) rfl ?_
          refine mmW_t (XT.ii_eq_t (own_same q1 hsp (by omega))) ?_
          refine mmW_steps (k := 3) (n := 474) (pc' := (if if_icmp.holds .ne sp (-1 : Int32) = true then 992 else 990)) (L' := [.val (.int x0), .val (.int x1), .val (.int x2), .val (.long x3), .second, .val (.int fr), .val (.int a), .val (.int b), .val (.int (1 : Int32)), .val (.int jk), .val (.long nm), .second, .val (.int lm), .val (.int v), .val (.int t), .val (.int ((a + b) + (1 : Int32))), .val (.int e0), .val (.ref 0), .val (.ref br), .val (.ref tr), .val (.int ix), .val (.int sp), .val (.long (-2 : Int64)), .second, .val (.int (0 : Int32)), .val (.int sp), .val (.int kk), .val (.int (0 : Int32)), .val (.int kk)]) (S' := []) (H' := H4) (sl' := ((((((((S26 + 3) + 2) + 0) + 0) + 0) + 0) + 0) + 0)) rfl ?_
          refine mmW_t (XT.ii_ne_t (own_nm1 hsp)) ?_
          refine mmW_steps (k := 1) (n := 473) (pc' := 994) (L' := [.val (.int x0), .val (.int x1), .val (.int x2), .val (.long x3), .second, .val (.int fr), .val (.int a), .val (.int b), .val (.int (1 : Int32)), .val (.int jk), .val (.long nm), .second, .val (.int lm), .val (.int v), .val (.int t), .val (.int ((a + b) + (1 : Int32))), .val (.int e0), .val (.ref 0), .val (.ref br), .val (.ref tr), .val (.int ix), .val (.int sp), .val (.long (-2 : Int64)), .second, .val (.int (0 : Int32)), .val (.int sp), .val (.int kk), .val (.int (0 : Int32)), .val (.int kk)]) (S' := [.ref tr]) (H' := H4) (sl' := ((((((((S26 + 3) + 2) + 0) + 0) + 0) + 0) + 0) + 0)) rfl ?_
          refine mmW_callV (n := 472) rfl rfl rfl (mmRecv_of nt4) (Nat.le_of_ble_eq_true rfl) (own_dgs nt4) ?_
          show mmW K_0 I_0 (some .boolean) (472) 997 [.val (.int x0), .val (.int x1), .val (.int x2), .val (.long x3), .second, .val (.int fr), .val (.int a), .val (.int b), .val (.int (1 : Int32)), .val (.int jk), .val (.long nm), .second, .val (.int lm), .val (.int v), .val (.int t), .val (.int ((a + b) + (1 : Int32))), .val (.int e0), .val (.ref 0), .val (.ref br), .val (.ref tr), .val (.int ix), .val (.int sp), .val (.long (-2 : Int64)), .second, .val (.int (0 : Int32)), .val (.int sp), .val (.int kk), .val (.int (0 : Int32)), .val (.int kk)] [.long z] H4 (((((((((S26 + 3) + 2) + 0) + 0) + 0) + 0) + 0) + 0) + 0) _
          refine mmW_steps (k := 3) (n := 469) (pc' := (if ifCond.holds .ne (XT.cmpL z (-2 : Int64)) = true then 1017 else 1003)) (L' := [.val (.int x0), .val (.int x1), .val (.int x2), .val (.long x3), .second, .val (.int fr), .val (.int a), .val (.int b), .val (.int (1 : Int32)), .val (.int jk), .val (.long nm), .second, .val (.int lm), .val (.int v), .val (.int t), .val (.int ((a + b) + (1 : Int32))), .val (.int e0), .val (.ref 0), .val (.ref br), .val (.ref tr), .val (.int ix), .val (.int sp), .val (.long (-2 : Int64)), .second, .val (.int (0 : Int32)), .val (.int sp), .val (.int kk), .val (.int (0 : Int32)), .val (.int kk)]) (S' := []) (H' := H4) (sl' := (((((((((S26 + 3) + 2) + 0) + 0) + 0) + 0) + 0) + 0) + 0)) rfl ?_
          refine mmW_f (XT.ll_ne_f (q4 hbig)) ?_
          refine mmW_steps (k := 1) (n := 468) (pc' := 1005) (L' := [.val (.int x0), .val (.int x1), .val (.int x2), .val (.long x3), .second, .val (.int fr), .val (.int a), .val (.int b), .val (.int (1 : Int32)), .val (.int jk), .val (.long nm), .second, .val (.int lm), .val (.int v), .val (.int t), .val (.int ((a + b) + (1 : Int32))), .val (.int e0), .val (.ref 0), .val (.ref br), .val (.ref tr), .val (.int ix), .val (.int sp), .val (.long (-2 : Int64)), .second, .val (.int (0 : Int32)), .val (.int sp), .val (.int kk), .val (.int (0 : Int32)), .val (.int kk)]) (S' := [.ref tr]) (H' := H4) (sl' := (((((((((S26 + 3) + 2) + 0) + 0) + 0) + 0) + 0) + 0) + 0)) rfl ?_
          refine mmW_callV (n := 467) rfl rfl rfl (mmRecv_of nt4) (Nat.le_of_ble_eq_true rfl) (own_dcs nt4) ?_
          show mmW K_0 I_0 (some .boolean) (467) 1008 [.val (.int x0), .val (.int x1), .val (.int x2), .val (.long x3), .second, .val (.int fr), .val (.int a), .val (.int b), .val (.int (1 : Int32)), .val (.int jk), .val (.long nm), .second, .val (.int lm), .val (.int v), .val (.int t), .val (.int ((a + b) + (1 : Int32))), .val (.int e0), .val (.ref 0), .val (.ref br), .val (.ref tr), .val (.int ix), .val (.int sp), .val (.long (-2 : Int64)), .second, .val (.int (0 : Int32)), .val (.int sp), .val (.int kk), .val (.int (0 : Int32)), .val (.int kk)] [.int dc] H4 ((((((((((S26 + 3) + 2) + 0) + 0) + 0) + 0) + 0) + 0) + 0) + 0) _
          refine mmW_steps (k := 2) (n := 465) (pc' := (if if_icmp.holds .ne dc (0 : Int32) = true then 1017 else 1013)) (L' := [.val (.int x0), .val (.int x1), .val (.int x2), .val (.long x3), .second, .val (.int fr), .val (.int a), .val (.int b), .val (.int (1 : Int32)), .val (.int jk), .val (.long nm), .second, .val (.int lm), .val (.int v), .val (.int t), .val (.int ((a + b) + (1 : Int32))), .val (.int e0), .val (.ref 0), .val (.ref br), .val (.ref tr), .val (.int ix), .val (.int sp), .val (.long (-2 : Int64)), .second, .val (.int (0 : Int32)), .val (.int sp), .val (.int kk), .val (.int (0 : Int32)), .val (.int kk)]) (S' := []) (H' := H4) (sl' := ((((((((((S26 + 3) + 2) + 0) + 0) + 0) + 0) + 0) + 0) + 0) + 0)) rfl ?_
          refine mmW_f (XT.ii_ne_f (own_same q2 (Y := 0) rfl rfl)) ?_
          refine mmW_steps (k := 2) (n := 463) (pc' := 1018) (L' := [.val (.int x0), .val (.int x1), .val (.int x2), .val (.long x3), .second, .val (.int fr), .val (.int a), .val (.int b), .val (.int (1 : Int32)), .val (.int jk), .val (.long nm), .second, .val (.int lm), .val (.int v), .val (.int t), .val (.int ((a + b) + (1 : Int32))), .val (.int e0), .val (.ref 0), .val (.ref br), .val (.ref tr), .val (.int ix), .val (.int sp), .val (.long (-2 : Int64)), .second, .val (.int (0 : Int32)), .val (.int sp), .val (.int kk), .val (.int (0 : Int32)), .val (.int kk)]) (S' := [.int (1 : Int32)]) (H' := H4) (sl' := ((((((((((S26 + 3) + 2) + 0) + 0) + 0) + 0) + 0) + 0) + 0) + 0)) rfl ?_
          exact mmW_ret (n := 462) (i := .ireturn) rfl rfl ⟨rfl, by omega, by omega⟩
        · refine mmW_t (XT.ii_le_t (hbg)) ?_
          have hbig : K ≤ 18 := Nat.le_of_not_lt fun z => hbg ((own_lt (a := (18 : Int32)) (A := 18) rfl hkk).mpr z)
          refine mmW_steps (k := 4) (n := 483) (pc' := 953) (L' := [.val (.int x0), .val (.int x1), .val (.int x2), .val (.long x3), .second, .val (.int fr), .val (.int a), .val (.int b), .val (.int (1 : Int32)), .val (.int jk), .val (.long nm), .second, .val (.int lm), .val (.int v), .val (.int t), .val (.int ((a + b) + (1 : Int32))), .val (.int e0), .val (.ref 0), .val (.ref br), .val (.ref tr), .val (.int ix), .val (.int sp), .val (.long (0 : Int64)), .second, .val (.int (0 : Int32)), .val (.int sp), .val (.int kk), .val (.int (0 : Int32)), .val (.int kk)]) (S' := [.int ((18 : Int32) - kk), .long nm]) (H' := H4) (sl' := ((((((((S26 + 3) + 2) + 0) + 0) + 0) + 0) + 0) + 0)) rfl ?_
          refine mmW_callS (n := 482) rfl rfl rfl (rfl) (Nat.le_of_ble_eq_true rfl) (own_pow _ (18 - K) (own_s18 hkk hbig) (by omega) H4) ?_
          show mmW K_0 I_0 (some .boolean) (482) 956 [.val (.int x0), .val (.int x1), .val (.int x2), .val (.long x3), .second, .val (.int fr), .val (.int a), .val (.int b), .val (.int (1 : Int32)), .val (.int jk), .val (.long nm), .second, .val (.int lm), .val (.int v), .val (.int t), .val (.int ((a + b) + (1 : Int32))), .val (.int e0), .val (.ref 0), .val (.ref br), .val (.ref tr), .val (.int ix), .val (.int sp), .val (.long (0 : Int64)), .second, .val (.int (0 : Int32)), .val (.int sp), .val (.int kk), .val (.int (0 : Int32)), .val (.int kk)] [.long (own_p (18 - K)), .long nm] (H4 ++ [own_P]) (((((((((S26 + 3) + 2) + 0) + 0) + 0) + 0) + 0) + 0) + 19) _
          refine mmW_ldiv (n := 481) rfl (own_pz (by omega)) ?_
          show mmW K_0 I_0 (some .boolean) (481) 957 [.val (.int x0), .val (.int x1), .val (.int x2), .val (.long x3), .second, .val (.int fr), .val (.int a), .val (.int b), .val (.int (1 : Int32)), .val (.int jk), .val (.long nm), .second, .val (.int lm), .val (.int v), .val (.int t), .val (.int ((a + b) + (1 : Int32))), .val (.int e0), .val (.ref 0), .val (.ref br), .val (.ref tr), .val (.int ix), .val (.int sp), .val (.long (0 : Int64)), .second, .val (.int (0 : Int32)), .val (.int sp), .val (.int kk), .val (.int (0 : Int32)), .val (.int kk)] [.long (nm / (own_p (18 - K)))] (H4 ++ [own_P]) (((((((((S26 + 3) + 2) + 0) + 0) + 0) + 0) + 0) + 0) + 19) _
          have nt5 := mmNth_app [own_P] nt4
          have hl5 : (H4 ++ [own_P]).length ≤ 30 := by rw [List.length_append]; simp only [List.length_cons, List.length_nil]; omega
          generalize H4 ++ [own_P] = H5 at nt5 hl5 ⊢
          refine mmW_steps (k := 8) (n := 473) (pc' := (if if_icmp.holds .eq ix sp = true then 984 else 982)) (L' := [.val (.int x0), .val (.int x1), .val (.int x2), .val (.long x3), .second, .val (.int fr), .val (.int a), .val (.int b), .val (.int (1 : Int32)), .val (.int jk), .val (.long nm), .second, .val (.int lm), .val (.int v), .val (.int t), .val (.int ((a + b) + (1 : Int32))), .val (.int e0), .val (.ref 0), .val (.ref br), .val (.ref tr), .val (.int ix), .val (.int sp), .val (.long (nm / (own_p (18 - K)))), .second, .val (.int (0 : Int32)), .val (.int sp), .val (.int kk), .val (.int (0 : Int32)), .val (.int kk)]) (S' := []) (H' := H5) (sl' := (((((((((S26 + 3) + 2) + 0) + 0) + 0) + 0) + 0) + 0) + 19)) rfl ?_
          refine mmW_t (XT.ii_eq_t (own_same q1 hsp (by omega))) ?_
          refine mmW_steps (k := 3) (n := 470) (pc' := (if if_icmp.holds .ne sp (-1 : Int32) = true then 992 else 990)) (L' := [.val (.int x0), .val (.int x1), .val (.int x2), .val (.long x3), .second, .val (.int fr), .val (.int a), .val (.int b), .val (.int (1 : Int32)), .val (.int jk), .val (.long nm), .second, .val (.int lm), .val (.int v), .val (.int t), .val (.int ((a + b) + (1 : Int32))), .val (.int e0), .val (.ref 0), .val (.ref br), .val (.ref tr), .val (.int ix), .val (.int sp), .val (.long (nm / (own_p (18 - K)))), .second, .val (.int (0 : Int32)), .val (.int sp), .val (.int kk), .val (.int (0 : Int32)), .val (.int kk)]) (S' := []) (H' := H5) (sl' := (((((((((S26 + 3) + 2) + 0) + 0) + 0) + 0) + 0) + 0) + 19)) rfl ?_
          refine mmW_t (XT.ii_ne_t (own_nm1 hsp)) ?_
          refine mmW_steps (k := 1) (n := 469) (pc' := 994) (L' := [.val (.int x0), .val (.int x1), .val (.int x2), .val (.long x3), .second, .val (.int fr), .val (.int a), .val (.int b), .val (.int (1 : Int32)), .val (.int jk), .val (.long nm), .second, .val (.int lm), .val (.int v), .val (.int t), .val (.int ((a + b) + (1 : Int32))), .val (.int e0), .val (.ref 0), .val (.ref br), .val (.ref tr), .val (.int ix), .val (.int sp), .val (.long (nm / (own_p (18 - K)))), .second, .val (.int (0 : Int32)), .val (.int sp), .val (.int kk), .val (.int (0 : Int32)), .val (.int kk)]) (S' := [.ref tr]) (H' := H5) (sl' := (((((((((S26 + 3) + 2) + 0) + 0) + 0) + 0) + 0) + 0) + 19)) rfl ?_
          refine mmW_callV (n := 468) rfl rfl rfl (mmRecv_of nt5) (Nat.le_of_ble_eq_true rfl) (own_dgs nt5) ?_
          show mmW K_0 I_0 (some .boolean) (468) 997 [.val (.int x0), .val (.int x1), .val (.int x2), .val (.long x3), .second, .val (.int fr), .val (.int a), .val (.int b), .val (.int (1 : Int32)), .val (.int jk), .val (.long nm), .second, .val (.int lm), .val (.int v), .val (.int t), .val (.int ((a + b) + (1 : Int32))), .val (.int e0), .val (.ref 0), .val (.ref br), .val (.ref tr), .val (.int ix), .val (.int sp), .val (.long (nm / (own_p (18 - K)))), .second, .val (.int (0 : Int32)), .val (.int sp), .val (.int kk), .val (.int (0 : Int32)), .val (.int kk)] [.long z] H5 ((((((((((S26 + 3) + 2) + 0) + 0) + 0) + 0) + 0) + 0) + 19) + 0) _
          refine mmW_steps (k := 3) (n := 465) (pc' := (if ifCond.holds .ne (XT.cmpL z (nm / (own_p (18 - K)))) = true then 1017 else 1003)) (L' := [.val (.int x0), .val (.int x1), .val (.int x2), .val (.long x3), .second, .val (.int fr), .val (.int a), .val (.int b), .val (.int (1 : Int32)), .val (.int jk), .val (.long nm), .second, .val (.int lm), .val (.int v), .val (.int t), .val (.int ((a + b) + (1 : Int32))), .val (.int e0), .val (.ref 0), .val (.ref br), .val (.ref tr), .val (.int ix), .val (.int sp), .val (.long (nm / (own_p (18 - K)))), .second, .val (.int (0 : Int32)), .val (.int sp), .val (.int kk), .val (.int (0 : Int32)), .val (.int kk)]) (S' := []) (H' := H5) (sl' := ((((((((((S26 + 3) + 2) + 0) + 0) + 0) + 0) + 0) + 0) + 19) + 0)) rfl ?_
          refine mmW_f (XT.ll_ne_f (own_sameL (q3 hbig) (own_div hn (by omega)))) ?_
          refine mmW_steps (k := 1) (n := 464) (pc' := 1005) (L' := [.val (.int x0), .val (.int x1), .val (.int x2), .val (.long x3), .second, .val (.int fr), .val (.int a), .val (.int b), .val (.int (1 : Int32)), .val (.int jk), .val (.long nm), .second, .val (.int lm), .val (.int v), .val (.int t), .val (.int ((a + b) + (1 : Int32))), .val (.int e0), .val (.ref 0), .val (.ref br), .val (.ref tr), .val (.int ix), .val (.int sp), .val (.long (nm / (own_p (18 - K)))), .second, .val (.int (0 : Int32)), .val (.int sp), .val (.int kk), .val (.int (0 : Int32)), .val (.int kk)]) (S' := [.ref tr]) (H' := H5) (sl' := ((((((((((S26 + 3) + 2) + 0) + 0) + 0) + 0) + 0) + 0) + 19) + 0)) rfl ?_
          refine mmW_callV (n := 463) rfl rfl rfl (mmRecv_of nt5) (Nat.le_of_ble_eq_true rfl) (own_dcs nt5) ?_
          show mmW K_0 I_0 (some .boolean) (463) 1008 [.val (.int x0), .val (.int x1), .val (.int x2), .val (.long x3), .second, .val (.int fr), .val (.int a), .val (.int b), .val (.int (1 : Int32)), .val (.int jk), .val (.long nm), .second, .val (.int lm), .val (.int v), .val (.int t), .val (.int ((a + b) + (1 : Int32))), .val (.int e0), .val (.ref 0), .val (.ref br), .val (.ref tr), .val (.int ix), .val (.int sp), .val (.long (nm / (own_p (18 - K)))), .second, .val (.int (0 : Int32)), .val (.int sp), .val (.int kk), .val (.int (0 : Int32)), .val (.int kk)] [.int dc] H5 (((((((((((S26 + 3) + 2) + 0) + 0) + 0) + 0) + 0) + 0) + 19) + 0) + 0) _
          refine mmW_steps (k := 2) (n := 461) (pc' := (if if_icmp.holds .ne dc (0 : Int32) = true then 1017 else 1013)) (L' := [.val (.int x0), .val (.int x1), .val (.int x2), .val (.long x3), .second, .val (.int fr), .val (.int a), .val (.int b), .val (.int (1 : Int32)), .val (.int jk), .val (.long nm), .second, .val (.int lm), .val (.int v), .val (.int t), .val (.int ((a + b) + (1 : Int32))), .val (.int e0), .val (.ref 0), .val (.ref br), .val (.ref tr), .val (.int ix), .val (.int sp), .val (.long (nm / (own_p (18 - K)))), .second, .val (.int (0 : Int32)), .val (.int sp), .val (.int kk), .val (.int (0 : Int32)), .val (.int kk)]) (S' := []) (H' := H5) (sl' := (((((((((((S26 + 3) + 2) + 0) + 0) + 0) + 0) + 0) + 0) + 19) + 0) + 0)) rfl ?_
          refine mmW_f (XT.ii_ne_f (own_same q2 (Y := 0) rfl rfl)) ?_
          refine mmW_steps (k := 2) (n := 459) (pc' := 1018) (L' := [.val (.int x0), .val (.int x1), .val (.int x2), .val (.long x3), .second, .val (.int fr), .val (.int a), .val (.int b), .val (.int (1 : Int32)), .val (.int jk), .val (.long nm), .second, .val (.int lm), .val (.int v), .val (.int t), .val (.int ((a + b) + (1 : Int32))), .val (.int e0), .val (.ref 0), .val (.ref br), .val (.ref tr), .val (.int ix), .val (.int sp), .val (.long (nm / (own_p (18 - K)))), .second, .val (.int (0 : Int32)), .val (.int sp), .val (.int kk), .val (.int (0 : Int32)), .val (.int kk)]) (S' := [.int (1 : Int32)]) (H' := H5) (sl' := (((((((((((S26 + 3) + 2) + 0) + 0) + 0) + 0) + 0) + 0) + 19) + 0) + 0)) rfl ?_
          exact mmW_ret (n := 458) (i := .ireturn) rfl rfl ⟨rfl, by omega, by omega⟩
      · by_cases hKA1 : K = A + 1
        · have hR := own_rd1b H3 tr 0 c fr lm (A := A) n3 nt3 hc ht1 hlm (by omega) (by omega) hN hfr hK1 hK2 hK3 (by omega) (by omega) hKA1
          refine mmW_callV (n := 532) rfl rfl rfl (mmRecv_of nt3) (Nat.le_of_ble_eq_true rfl) (hR) ?_
          show mmW K_0 I_0 (some .boolean) (532) 822 [.val (.int x0), .val (.int x1), .val (.int x2), .val (.long x3), .second, .val (.int fr), .val (.int a), .val (.int b), .val (.int (1 : Int32)), .val (.int jk), .val (.long nm), .second, .val (.int lm), .val (.int v), .val (.int t), .val (.int ((a + b) + (1 : Int32))), .val (.int e0), .val (.ref 0), .val (.ref br), .val (.ref tr), .unset, .unset, .unset, .unset, .unset, .unset, .unset, .unset, .unset] [.int (-1 : Int32)] H3 (((((((S26 + 3) + 2) + 0) + 0) + 0) + 0) + 0) _
          refine mmW_steps (k := 8) (n := 524) (pc' := (if if_icmp.holds .le lm fr = true then 847 else 837)) (L' := [.val (.int x0), .val (.int x1), .val (.int x2), .val (.long x3), .second, .val (.int fr), .val (.int a), .val (.int b), .val (.int (1 : Int32)), .val (.int jk), .val (.long nm), .second, .val (.int lm), .val (.int v), .val (.int t), .val (.int ((a + b) + (1 : Int32))), .val (.int e0), .val (.ref 0), .val (.ref br), .val (.ref tr), .val (.int (-1 : Int32)), .unset, .val (.long (0 : Int64)), .second, .val (.int (0 : Int32)), .unset, .unset, .unset, .unset]) (S' := []) (H' := H3) (sl' := (((((((S26 + 3) + 2) + 0) + 0) + 0) + 0) + 0)) rfl ?_
          refine mmW_f (XT.ii_le_f (hcl)) ?_
          refine mmW_steps (k := 4) (n := 520) (pc' := (if ifCond.holds .ne a = true then 853 else 847)) (L' := [.val (.int x0), .val (.int x1), .val (.int x2), .val (.long x3), .second, .val (.int fr), .val (.int a), .val (.int b), .val (.int (1 : Int32)), .val (.int jk), .val (.long nm), .second, .val (.int lm), .val (.int v), .val (.int t), .val (.int ((a + b) + (1 : Int32))), .val (.int e0), .val (.ref 0), .val (.ref br), .val (.ref tr), .val (.int (-1 : Int32)), .unset, .val (.long (0 : Int64)), .second, .val (.int (0 : Int32)), .unset, .unset, .unset, .unset]) (S' := []) (H' := H3) (sl' := (((((((S26 + 3) + 2) + 0) + 0) + 0) + 0) + 0)) rfl ?_
          refine mmW_t (XT.i0_ne_t (own_n0 ha (by omega))) ?_
          refine mmW_steps (k := 3) (n := 517) (pc' := 860) (L' := [.val (.int x0), .val (.int x1), .val (.int x2), .val (.long x3), .second, .val (.int fr), .val (.int a), .val (.int b), .val (.int (1 : Int32)), .val (.int jk), .val (.long nm), .second, .val (.int lm), .val (.int v), .val (.int t), .val (.int ((a + b) + (1 : Int32))), .val (.int e0), .val (.ref 0), .val (.ref br), .val (.ref tr), .val (.int (-1 : Int32)), .unset, .val (.long (0 : Int64)), .second, .val (.int (0 : Int32)), .unset, .unset, .unset, .unset]) (S' := [.int (if e0 < lm then e0 else lm)]) (H' := H3) (sl' := ((((((((S26 + 3) + 2) + 0) + 0) + 0) + 0) + 0) + 0)) rfl ?_
          have hsp := own_min hlm he0 hK1 hK2 hK3
          generalize (if e0 < lm then e0 else lm) = sp at hsp ⊢
          refine mmW_steps (k := 4) (n := 513) (pc' := 867) (L' := [.val (.int x0), .val (.int x1), .val (.int x2), .val (.long x3), .second, .val (.int fr), .val (.int a), .val (.int b), .val (.int (1 : Int32)), .val (.int jk), .val (.long nm), .second, .val (.int lm), .val (.int v), .val (.int t), .val (.int ((a + b) + (1 : Int32))), .val (.int e0), .val (.ref 0), .val (.ref br), .val (.ref tr), .val (.int (-1 : Int32)), .unset, .val (.long (0 : Int64)), .second, .val (.int (0 : Int32)), .val (.int sp), .unset, .unset, .unset]) (S' := [.int (sp - fr)]) (H' := H3) (sl' := ((((((((S26 + 3) + 2) + 0) + 0) + 0) + 0) + 0) + 0)) rfl ?_
          have hkk := own_sub hsp hfr (by omega) (by omega)
          rw [show FR + K - FR = K by omega] at hkk
          generalize (sp - fr) = kk at hkk ⊢
          refine mmW_steps (k := 6) (n := 507) (pc' := (if if_icmp.holds .le kk a = true then 885 else 881)) (L' := [.val (.int x0), .val (.int x1), .val (.int x2), .val (.long x3), .second, .val (.int fr), .val (.int a), .val (.int b), .val (.int (1 : Int32)), .val (.int jk), .val (.long nm), .second, .val (.int lm), .val (.int v), .val (.int t), .val (.int ((a + b) + (1 : Int32))), .val (.int e0), .val (.ref 0), .val (.ref br), .val (.ref tr), .val (.int (-1 : Int32)), .unset, .val (.long (0 : Int64)), .second, .val (.int (0 : Int32)), .val (.int sp), .val (.int kk), .unset, .unset]) (S' := []) (H' := H3) (sl' := ((((((((S26 + 3) + 2) + 0) + 0) + 0) + 0) + 0) + 0)) rfl ?_
          refine mmW_f (XT.ii_le_f ((own_lt ha hkk).mpr (by omega))) ?_
          refine mmW_steps (k := 9) (n := 498) (pc' := 902) (L' := [.val (.int x0), .val (.int x1), .val (.int x2), .val (.long x3), .second, .val (.int fr), .val (.int a), .val (.int b), .val (.int (1 : Int32)), .val (.int jk), .val (.long nm), .second, .val (.int lm), .val (.int v), .val (.int t), .val (.int ((a + b) + (1 : Int32))), .val (.int e0), .val (.ref 0), .val (.ref br), .val (.ref tr), .val (.int (-1 : Int32)), .unset, .val (.long (0 : Int64)), .second, .val (.int (0 : Int32)), .val (.int sp), .val (.int kk), .val (.int (1 : Int32)), .unset]) (S' := [.int (kk - (1 : Int32))]) (H' := H3) (sl' := ((((((((S26 + 3) + 2) + 0) + 0) + 0) + 0) + 0) + 0)) rfl ?_
          have hct := own_sub hkk (b := (1 : Int32)) (B := 1) rfl (by omega) (by omega)
          generalize (kk - (1 : Int32)) = ct at hct ⊢
          refine mmW_steps (k := 3) (n := 495) (pc' := (if ifCond.holds .eq ct = true then 923 else 909)) (L' := [.val (.int x0), .val (.int x1), .val (.int x2), .val (.long x3), .second, .val (.int fr), .val (.int a), .val (.int b), .val (.int (1 : Int32)), .val (.int jk), .val (.long nm), .second, .val (.int lm), .val (.int v), .val (.int t), .val (.int ((a + b) + (1 : Int32))), .val (.int e0), .val (.ref 0), .val (.ref br), .val (.ref tr), .val (.int (-1 : Int32)), .unset, .val (.long (0 : Int64)), .second, .val (.int (0 : Int32)), .val (.int sp), .val (.int kk), .val (.int (1 : Int32)), .val (.int ct)]) (S' := []) (H' := H3) (sl' := ((((((((S26 + 3) + 2) + 0) + 0) + 0) + 0) + 0) + 0)) rfl ?_
          refine mmW_f (XT.i0_eq_f (own_n0 hct (by omega))) ?_
          refine mmW_steps (k := 7) (n := 488) (pc' := (if if_icmp.holds .ne kk (a + (1 : Int32)) = true then 929 else 923)) (L' := [.val (.int x0), .val (.int x1), .val (.int x2), .val (.long x3), .second, .val (.int fr), .val (.int a), .val (.int b), .val (.int (1 : Int32)), .val (.int jk), .val (.long nm), .second, .val (.int lm), .val (.int v), .val (.int t), .val (.int ((a + b) + (1 : Int32))), .val (.int e0), .val (.ref 0), .val (.ref br), .val (.ref tr), .val (.int (-1 : Int32)), .unset, .val (.long (0 : Int64)), .second, .val (.int (0 : Int32)), .val (.int sp), .val (.int kk), .val (.int (1 : Int32)), .val (.int ct)]) (S' := []) (H' := H3) (sl' := ((((((((S26 + 3) + 2) + 0) + 0) + 0) + 0) + 0) + 0)) rfl ?_
          refine mmW_f (XT.ii_ne_f (own_same hkk (own_add ha (b := (1 : Int32)) (B := 1) rfl (by omega) (by omega)) hKA1)) ?_
          refine mmW_steps (k := 10) (n := 478) (pc' := 991) (L' := [.val (.int x0), .val (.int x1), .val (.int x2), .val (.long x3), .second, .val (.int fr), .val (.int a), .val (.int b), .val (.int (1 : Int32)), .val (.int jk), .val (.long nm), .second, .val (.int lm), .val (.int v), .val (.int t), .val (.int ((a + b) + (1 : Int32))), .val (.int e0), .val (.ref 0), .val (.ref br), .val (.ref tr), .val (.int (-1 : Int32)), .val (.int (-1 : Int32)), .val (.long (0 : Int64)), .second, .val (.int (0 : Int32)), .val (.int sp), .val (.int kk), .val (.int (1 : Int32)), .val (.int ct)]) (S' := [.int (1 : Int32)]) (H' := H3) (sl' := ((((((((S26 + 3) + 2) + 0) + 0) + 0) + 0) + 0) + 0)) rfl ?_
          exact mmW_ret (n := 477) (i := .ireturn) rfl rfl ⟨rfl, by omega, by omega⟩
        · obtain ⟨J, hKJ⟩ : ∃ J, K = J + 1 := ⟨K - 1, by omega⟩
          obtain ⟨B', hJB⟩ : ∃ B', J = A + B' := ⟨J - A, by omega⟩
          obtain ⟨ix, z, dc, hR, q1, q2, q3, q4⟩ := own_rd1c H3 tr 0 c fr lm (A := A) n3 nt3 hc ht1 hlm (by omega) (by omega) hN hfr hK1 hK2 hK3 (by omega) (by omega) hKJ hJB (by omega)
          refine mmW_callV (n := 532) rfl rfl rfl (mmRecv_of nt3) (Nat.le_of_ble_eq_true rfl) (hR) ?_
          show mmW K_0 I_0 (some .boolean) (532) 822 [.val (.int x0), .val (.int x1), .val (.int x2), .val (.long x3), .second, .val (.int fr), .val (.int a), .val (.int b), .val (.int (1 : Int32)), .val (.int jk), .val (.long nm), .second, .val (.int lm), .val (.int v), .val (.int t), .val (.int ((a + b) + (1 : Int32))), .val (.int e0), .val (.ref 0), .val (.ref br), .val (.ref tr), .unset, .unset, .unset, .unset, .unset, .unset, .unset, .unset, .unset] [.int ix] (H3.set tr (.inl (0, [.long z, .int dc]))) (((((((S26 + 3) + 2) + 0) + 0) + 0) + 0) + 0) _
          have nt4 : mmNth (H3.set tr (.inl (0, [.long z, .int dc]))) tr = some (.inl (0, [.long z, .int dc])) := mmNth_set _ nt3
          have hl4 : (H3.set tr (.inl (0, [.long z, .int dc]))).length ≤ 29 := by rw [List.length_set]; exact hl3
          generalize H3.set tr (.inl (0, [.long z, .int dc])) = H4 at nt4 hl4 hR ⊢
          refine mmW_steps (k := 8) (n := 524) (pc' := (if if_icmp.holds .le lm fr = true then 847 else 837)) (L' := [.val (.int x0), .val (.int x1), .val (.int x2), .val (.long x3), .second, .val (.int fr), .val (.int a), .val (.int b), .val (.int (1 : Int32)), .val (.int jk), .val (.long nm), .second, .val (.int lm), .val (.int v), .val (.int t), .val (.int ((a + b) + (1 : Int32))), .val (.int e0), .val (.ref 0), .val (.ref br), .val (.ref tr), .val (.int ix), .unset, .val (.long (0 : Int64)), .second, .val (.int (0 : Int32)), .unset, .unset, .unset, .unset]) (S' := []) (H' := H4) (sl' := (((((((S26 + 3) + 2) + 0) + 0) + 0) + 0) + 0)) rfl ?_
          refine mmW_f (XT.ii_le_f (hcl)) ?_
          refine mmW_steps (k := 4) (n := 520) (pc' := (if ifCond.holds .ne a = true then 853 else 847)) (L' := [.val (.int x0), .val (.int x1), .val (.int x2), .val (.long x3), .second, .val (.int fr), .val (.int a), .val (.int b), .val (.int (1 : Int32)), .val (.int jk), .val (.long nm), .second, .val (.int lm), .val (.int v), .val (.int t), .val (.int ((a + b) + (1 : Int32))), .val (.int e0), .val (.ref 0), .val (.ref br), .val (.ref tr), .val (.int ix), .unset, .val (.long (0 : Int64)), .second, .val (.int (0 : Int32)), .unset, .unset, .unset, .unset]) (S' := []) (H' := H4) (sl' := (((((((S26 + 3) + 2) + 0) + 0) + 0) + 0) + 0)) rfl ?_
          refine mmW_t (XT.i0_ne_t (own_n0 ha (by omega))) ?_
          refine mmW_steps (k := 3) (n := 517) (pc' := 860) (L' := [.val (.int x0), .val (.int x1), .val (.int x2), .val (.long x3), .second, .val (.int fr), .val (.int a), .val (.int b), .val (.int (1 : Int32)), .val (.int jk), .val (.long nm), .second, .val (.int lm), .val (.int v), .val (.int t), .val (.int ((a + b) + (1 : Int32))), .val (.int e0), .val (.ref 0), .val (.ref br), .val (.ref tr), .val (.int ix), .unset, .val (.long (0 : Int64)), .second, .val (.int (0 : Int32)), .unset, .unset, .unset, .unset]) (S' := [.int (if e0 < lm then e0 else lm)]) (H' := H4) (sl' := ((((((((S26 + 3) + 2) + 0) + 0) + 0) + 0) + 0) + 0)) rfl ?_
          have hsp := own_min hlm he0 hK1 hK2 hK3
          generalize (if e0 < lm then e0 else lm) = sp at hsp ⊢
          refine mmW_steps (k := 4) (n := 513) (pc' := 867) (L' := [.val (.int x0), .val (.int x1), .val (.int x2), .val (.long x3), .second, .val (.int fr), .val (.int a), .val (.int b), .val (.int (1 : Int32)), .val (.int jk), .val (.long nm), .second, .val (.int lm), .val (.int v), .val (.int t), .val (.int ((a + b) + (1 : Int32))), .val (.int e0), .val (.ref 0), .val (.ref br), .val (.ref tr), .val (.int ix), .unset, .val (.long (0 : Int64)), .second, .val (.int (0 : Int32)), .val (.int sp), .unset, .unset, .unset]) (S' := [.int (sp - fr)]) (H' := H4) (sl' := ((((((((S26 + 3) + 2) + 0) + 0) + 0) + 0) + 0) + 0)) rfl ?_
          have hkk := own_sub hsp hfr (by omega) (by omega)
          rw [show FR + K - FR = K by omega] at hkk
          generalize (sp - fr) = kk at hkk ⊢
          refine mmW_steps (k := 6) (n := 507) (pc' := (if if_icmp.holds .le kk a = true then 885 else 881)) (L' := [.val (.int x0), .val (.int x1), .val (.int x2), .val (.long x3), .second, .val (.int fr), .val (.int a), .val (.int b), .val (.int (1 : Int32)), .val (.int jk), .val (.long nm), .second, .val (.int lm), .val (.int v), .val (.int t), .val (.int ((a + b) + (1 : Int32))), .val (.int e0), .val (.ref 0), .val (.ref br), .val (.ref tr), .val (.int ix), .unset, .val (.long (0 : Int64)), .second, .val (.int (0 : Int32)), .val (.int sp), .val (.int kk), .unset, .unset]) (S' := []) (H' := H4) (sl' := ((((((((S26 + 3) + 2) + 0) + 0) + 0) + 0) + 0) + 0)) rfl ?_
          refine mmW_f (XT.ii_le_f ((own_lt ha hkk).mpr (by omega))) ?_
          refine mmW_steps (k := 9) (n := 498) (pc' := 902) (L' := [.val (.int x0), .val (.int x1), .val (.int x2), .val (.long x3), .second, .val (.int fr), .val (.int a), .val (.int b), .val (.int (1 : Int32)), .val (.int jk), .val (.long nm), .second, .val (.int lm), .val (.int v), .val (.int t), .val (.int ((a + b) + (1 : Int32))), .val (.int e0), .val (.ref 0), .val (.ref br), .val (.ref tr), .val (.int ix), .unset, .val (.long (0 : Int64)), .second, .val (.int (0 : Int32)), .val (.int sp), .val (.int kk), .val (.int (1 : Int32)), .unset]) (S' := [.int (kk - (1 : Int32))]) (H' := H4) (sl' := ((((((((S26 + 3) + 2) + 0) + 0) + 0) + 0) + 0) + 0)) rfl ?_
          have hct := own_sub hkk (b := (1 : Int32)) (B := 1) rfl (by omega) (by omega)
          rw [show K - 1 = J by omega] at hct
          generalize (kk - (1 : Int32)) = ct at hct ⊢
          refine mmW_steps (k := 3) (n := 495) (pc' := (if ifCond.holds .eq ct = true then 923 else 909)) (L' := [.val (.int x0), .val (.int x1), .val (.int x2), .val (.long x3), .second, .val (.int fr), .val (.int a), .val (.int b), .val (.int (1 : Int32)), .val (.int jk), .val (.long nm), .second, .val (.int lm), .val (.int v), .val (.int t), .val (.int ((a + b) + (1 : Int32))), .val (.int e0), .val (.ref 0), .val (.ref br), .val (.ref tr), .val (.int ix), .unset, .val (.long (0 : Int64)), .second, .val (.int (0 : Int32)), .val (.int sp), .val (.int kk), .val (.int (1 : Int32)), .val (.int ct)]) (S' := []) (H' := H4) (sl' := ((((((((S26 + 3) + 2) + 0) + 0) + 0) + 0) + 0) + 0)) rfl ?_
          refine mmW_f (XT.i0_eq_f (own_n0 hct (by omega))) ?_
          refine mmW_steps (k := 7) (n := 488) (pc' := (if if_icmp.holds .ne kk (a + (1 : Int32)) = true then 929 else 923)) (L' := [.val (.int x0), .val (.int x1), .val (.int x2), .val (.long x3), .second, .val (.int fr), .val (.int a), .val (.int b), .val (.int (1 : Int32)), .val (.int jk), .val (.long nm), .second, .val (.int lm), .val (.int v), .val (.int t), .val (.int ((a + b) + (1 : Int32))), .val (.int e0), .val (.ref 0), .val (.ref br), .val (.ref tr), .val (.int ix), .unset, .val (.long (0 : Int64)), .second, .val (.int (0 : Int32)), .val (.int sp), .val (.int kk), .val (.int (1 : Int32)), .val (.int ct)]) (S' := []) (H' := H4) (sl' := ((((((((S26 + 3) + 2) + 0) + 0) + 0) + 0) + 0) + 0)) rfl ?_
          refine mmW_t (XT.ii_ne_t (own_nk hkk ha (by omega))) ?_
          refine mmW_steps (k := 5) (n := 483) (pc' := (if if_icmp.holds .le ct (18 : Int32) = true then 946 else 940)) (L' := [.val (.int x0), .val (.int x1), .val (.int x2), .val (.long x3), .second, .val (.int fr), .val (.int a), .val (.int b), .val (.int (1 : Int32)), .val (.int jk), .val (.long nm), .second, .val (.int lm), .val (.int v), .val (.int t), .val (.int ((a + b) + (1 : Int32))), .val (.int e0), .val (.ref 0), .val (.ref br), .val (.ref tr), .val (.int ix), .val (.int sp), .val (.long (0 : Int64)), .second, .val (.int (0 : Int32)), .val (.int sp), .val (.int kk), .val (.int (1 : Int32)), .val (.int ct)]) (S' := []) (H' := H4) (sl' := ((((((((S26 + 3) + 2) + 0) + 0) + 0) + 0) + 0) + 0)) rfl ?_
          by_cases hbg : (18 : Int32) < ct
          · refine mmW_f (XT.ii_le_f (hbg)) ?_
            have hbig : 18 < J := (own_lt (a := (18 : Int32)) (A := 18) rfl hct).mp hbg
            refine mmW_steps (k := 13) (n := 470) (pc' := (if if_icmp.holds .eq ix sp = true then 984 else 982)) (L' := [.val (.int x0), .val (.int x1), .val (.int x2), .val (.long x3), .second, .val (.int fr), .val (.int a), .val (.int b), .val (.int (1 : Int32)), .val (.int jk), .val (.long nm), .second, .val (.int lm), .val (.int v), .val (.int t), .val (.int ((a + b) + (1 : Int32))), .val (.int e0), .val (.ref 0), .val (.ref br), .val (.ref tr), .val (.int ix), .val (.int sp), .val (.long (-2 : Int64)), .second, .val (.int (ct - a)), .val (.int sp), .val (.int kk), .val (.int (1 : Int32)), .val (.int ct)]) (S' := []) (H' := H4) (sl' := ((((((((S26 + 3) + 2) + 0) + 0) + 0) + 0) + 0) + 0)) rfl ?_
            refine mmW_t (XT.ii_eq_t (own_same q1 hsp (by omega))) ?_
            refine mmW_steps (k := 3) (n := 467) (pc' := (if if_icmp.holds .ne sp (-1 : Int32) = true then 992 else 990)) (L' := [.val (.int x0), .val (.int x1), .val (.int x2), .val (.long x3), .second, .val (.int fr), .val (.int a), .val (.int b), .val (.int (1 : Int32)), .val (.int jk), .val (.long nm), .second, .val (.int lm), .val (.int v), .val (.int t), .val (.int ((a + b) + (1 : Int32))), .val (.int e0), .val (.ref 0), .val (.ref br), .val (.ref tr), .val (.int ix), .val (.int sp), .val (.long (-2 : Int64)), .second, .val (.int (ct - a)), .val (.int sp), .val (.int kk), .val (.int (1 : Int32)), .val (.int ct)]) (S' := []) (H' := H4) (sl' := ((((((((S26 + 3) + 2) + 0) + 0) + 0) + 0) + 0) + 0)) rfl ?_
            refine mmW_t (XT.ii_ne_t (own_nm1 hsp)) ?_
            refine mmW_steps (k := 1) (n := 466) (pc' := 994) (L' := [.val (.int x0), .val (.int x1), .val (.int x2), .val (.long x3), .second, .val (.int fr), .val (.int a), .val (.int b), .val (.int (1 : Int32)), .val (.int jk), .val (.long nm), .second, .val (.int lm), .val (.int v), .val (.int t), .val (.int ((a + b) + (1 : Int32))), .val (.int e0), .val (.ref 0), .val (.ref br), .val (.ref tr), .val (.int ix), .val (.int sp), .val (.long (-2 : Int64)), .second, .val (.int (ct - a)), .val (.int sp), .val (.int kk), .val (.int (1 : Int32)), .val (.int ct)]) (S' := [.ref tr]) (H' := H4) (sl' := ((((((((S26 + 3) + 2) + 0) + 0) + 0) + 0) + 0) + 0)) rfl ?_
            refine mmW_callV (n := 465) rfl rfl rfl (mmRecv_of nt4) (Nat.le_of_ble_eq_true rfl) (own_dgs nt4) ?_
            show mmW K_0 I_0 (some .boolean) (465) 997 [.val (.int x0), .val (.int x1), .val (.int x2), .val (.long x3), .second, .val (.int fr), .val (.int a), .val (.int b), .val (.int (1 : Int32)), .val (.int jk), .val (.long nm), .second, .val (.int lm), .val (.int v), .val (.int t), .val (.int ((a + b) + (1 : Int32))), .val (.int e0), .val (.ref 0), .val (.ref br), .val (.ref tr), .val (.int ix), .val (.int sp), .val (.long (-2 : Int64)), .second, .val (.int (ct - a)), .val (.int sp), .val (.int kk), .val (.int (1 : Int32)), .val (.int ct)] [.long z] H4 (((((((((S26 + 3) + 2) + 0) + 0) + 0) + 0) + 0) + 0) + 0) _
            refine mmW_steps (k := 3) (n := 462) (pc' := (if ifCond.holds .ne (XT.cmpL z (-2 : Int64)) = true then 1017 else 1003)) (L' := [.val (.int x0), .val (.int x1), .val (.int x2), .val (.long x3), .second, .val (.int fr), .val (.int a), .val (.int b), .val (.int (1 : Int32)), .val (.int jk), .val (.long nm), .second, .val (.int lm), .val (.int v), .val (.int t), .val (.int ((a + b) + (1 : Int32))), .val (.int e0), .val (.ref 0), .val (.ref br), .val (.ref tr), .val (.int ix), .val (.int sp), .val (.long (-2 : Int64)), .second, .val (.int (ct - a)), .val (.int sp), .val (.int kk), .val (.int (1 : Int32)), .val (.int ct)]) (S' := []) (H' := H4) (sl' := (((((((((S26 + 3) + 2) + 0) + 0) + 0) + 0) + 0) + 0) + 0)) rfl ?_
            refine mmW_f (XT.ll_ne_f (q4 hbig)) ?_
            refine mmW_steps (k := 1) (n := 461) (pc' := 1005) (L' := [.val (.int x0), .val (.int x1), .val (.int x2), .val (.long x3), .second, .val (.int fr), .val (.int a), .val (.int b), .val (.int (1 : Int32)), .val (.int jk), .val (.long nm), .second, .val (.int lm), .val (.int v), .val (.int t), .val (.int ((a + b) + (1 : Int32))), .val (.int e0), .val (.ref 0), .val (.ref br), .val (.ref tr), .val (.int ix), .val (.int sp), .val (.long (-2 : Int64)), .second, .val (.int (ct - a)), .val (.int sp), .val (.int kk), .val (.int (1 : Int32)), .val (.int ct)]) (S' := [.ref tr]) (H' := H4) (sl' := (((((((((S26 + 3) + 2) + 0) + 0) + 0) + 0) + 0) + 0) + 0)) rfl ?_
            refine mmW_callV (n := 460) rfl rfl rfl (mmRecv_of nt4) (Nat.le_of_ble_eq_true rfl) (own_dcs nt4) ?_
            show mmW K_0 I_0 (some .boolean) (460) 1008 [.val (.int x0), .val (.int x1), .val (.int x2), .val (.long x3), .second, .val (.int fr), .val (.int a), .val (.int b), .val (.int (1 : Int32)), .val (.int jk), .val (.long nm), .second, .val (.int lm), .val (.int v), .val (.int t), .val (.int ((a + b) + (1 : Int32))), .val (.int e0), .val (.ref 0), .val (.ref br), .val (.ref tr), .val (.int ix), .val (.int sp), .val (.long (-2 : Int64)), .second, .val (.int (ct - a)), .val (.int sp), .val (.int kk), .val (.int (1 : Int32)), .val (.int ct)] [.int dc] H4 ((((((((((S26 + 3) + 2) + 0) + 0) + 0) + 0) + 0) + 0) + 0) + 0) _
            refine mmW_steps (k := 2) (n := 458) (pc' := (if if_icmp.holds .ne dc (ct - a) = true then 1017 else 1013)) (L' := [.val (.int x0), .val (.int x1), .val (.int x2), .val (.long x3), .second, .val (.int fr), .val (.int a), .val (.int b), .val (.int (1 : Int32)), .val (.int jk), .val (.long nm), .second, .val (.int lm), .val (.int v), .val (.int t), .val (.int ((a + b) + (1 : Int32))), .val (.int e0), .val (.ref 0), .val (.ref br), .val (.ref tr), .val (.int ix), .val (.int sp), .val (.long (-2 : Int64)), .second, .val (.int (ct - a)), .val (.int sp), .val (.int kk), .val (.int (1 : Int32)), .val (.int ct)]) (S' := []) (H' := H4) (sl' := ((((((((((S26 + 3) + 2) + 0) + 0) + 0) + 0) + 0) + 0) + 0) + 0)) rfl ?_
            refine mmW_f (XT.ii_ne_f (own_same q2 (own_sub hct ha (by omega) (by omega)) (by omega))) ?_
            refine mmW_steps (k := 2) (n := 456) (pc' := 1018) (L' := [.val (.int x0), .val (.int x1), .val (.int x2), .val (.long x3), .second, .val (.int fr), .val (.int a), .val (.int b), .val (.int (1 : Int32)), .val (.int jk), .val (.long nm), .second, .val (.int lm), .val (.int v), .val (.int t), .val (.int ((a + b) + (1 : Int32))), .val (.int e0), .val (.ref 0), .val (.ref br), .val (.ref tr), .val (.int ix), .val (.int sp), .val (.long (-2 : Int64)), .second, .val (.int (ct - a)), .val (.int sp), .val (.int kk), .val (.int (1 : Int32)), .val (.int ct)]) (S' := [.int (1 : Int32)]) (H' := H4) (sl' := ((((((((((S26 + 3) + 2) + 0) + 0) + 0) + 0) + 0) + 0) + 0) + 0)) rfl ?_
            exact mmW_ret (n := 455) (i := .ireturn) rfl rfl ⟨rfl, by omega, by omega⟩
          · refine mmW_t (XT.ii_le_t (hbg)) ?_
            have hbig : J ≤ 18 := Nat.le_of_not_lt fun z => hbg ((own_lt (a := (18 : Int32)) (A := 18) rfl hct).mpr z)
            refine mmW_steps (k := 4) (n := 479) (pc' := 953) (L' := [.val (.int x0), .val (.int x1), .val (.int x2), .val (.long x3), .second, .val (.int fr), .val (.int a), .val (.int b), .val (.int (1 : Int32)), .val (.int jk), .val (.long nm), .second, .val (.int lm), .val (.int v), .val (.int t), .val (.int ((a + b) + (1 : Int32))), .val (.int e0), .val (.ref 0), .val (.ref br), .val (.ref tr), .val (.int ix), .val (.int sp), .val (.long (0 : Int64)), .second, .val (.int (0 : Int32)), .val (.int sp), .val (.int kk), .val (.int (1 : Int32)), .val (.int ct)]) (S' := [.int ((18 : Int32) - ct), .long nm]) (H' := H4) (sl' := ((((((((S26 + 3) + 2) + 0) + 0) + 0) + 0) + 0) + 0)) rfl ?_
            refine mmW_callS (n := 478) rfl rfl rfl (rfl) (Nat.le_of_ble_eq_true rfl) (own_pow _ (18 - J) (own_s18 hct hbig) (by omega) H4) ?_
            show mmW K_0 I_0 (some .boolean) (478) 956 [.val (.int x0), .val (.int x1), .val (.int x2), .val (.long x3), .second, .val (.int fr), .val (.int a), .val (.int b), .val (.int (1 : Int32)), .val (.int jk), .val (.long nm), .second, .val (.int lm), .val (.int v), .val (.int t), .val (.int ((a + b) + (1 : Int32))), .val (.int e0), .val (.ref 0), .val (.ref br), .val (.ref tr), .val (.int ix), .val (.int sp), .val (.long (0 : Int64)), .second, .val (.int (0 : Int32)), .val (.int sp), .val (.int kk), .val (.int (1 : Int32)), .val (.int ct)] [.long (own_p (18 - J)), .long nm] (H4 ++ [own_P]) (((((((((S26 + 3) + 2) + 0) + 0) + 0) + 0) + 0) + 0) + 19) _
            refine mmW_ldiv (n := 477) rfl (own_pz (by omega)) ?_
            show mmW K_0 I_0 (some .boolean) (477) 957 [.val (.int x0), .val (.int x1), .val (.int x2), .val (.long x3), .second, .val (.int fr), .val (.int a), .val (.int b), .val (.int (1 : Int32)), .val (.int jk), .val (.long nm), .second, .val (.int lm), .val (.int v), .val (.int t), .val (.int ((a + b) + (1 : Int32))), .val (.int e0), .val (.ref 0), .val (.ref br), .val (.ref tr), .val (.int ix), .val (.int sp), .val (.long (0 : Int64)), .second, .val (.int (0 : Int32)), .val (.int sp), .val (.int kk), .val (.int (1 : Int32)), .val (.int ct)] [.long (nm / (own_p (18 - J)))] (H4 ++ [own_P]) (((((((((S26 + 3) + 2) + 0) + 0) + 0) + 0) + 0) + 0) + 19) _
            have nt5 := mmNth_app [own_P] nt4
            have hl5 : (H4 ++ [own_P]).length ≤ 30 := by rw [List.length_append]; simp only [List.length_cons, List.length_nil]; omega
            generalize H4 ++ [own_P] = H5 at nt5 hl5 ⊢
            refine mmW_steps (k := 11) (n := 466) (pc' := (if if_icmp.holds .eq ix sp = true then 984 else 982)) (L' := [.val (.int x0), .val (.int x1), .val (.int x2), .val (.long x3), .second, .val (.int fr), .val (.int a), .val (.int b), .val (.int (1 : Int32)), .val (.int jk), .val (.long nm), .second, .val (.int lm), .val (.int v), .val (.int t), .val (.int ((a + b) + (1 : Int32))), .val (.int e0), .val (.ref 0), .val (.ref br), .val (.ref tr), .val (.int ix), .val (.int sp), .val (.long (nm / (own_p (18 - J)))), .second, .val (.int (ct - a)), .val (.int sp), .val (.int kk), .val (.int (1 : Int32)), .val (.int ct)]) (S' := []) (H' := H5) (sl' := (((((((((S26 + 3) + 2) + 0) + 0) + 0) + 0) + 0) + 0) + 19)) rfl ?_
            refine mmW_t (XT.ii_eq_t (own_same q1 hsp (by omega))) ?_
            refine mmW_steps (k := 3) (n := 463) (pc' := (if if_icmp.holds .ne sp (-1 : Int32) = true then 992 else 990)) (L' := [.val (.int x0), .val (.int x1), .val (.int x2), .val (.long x3), .second, .val (.int fr), .val (.int a), .val (.int b), .val (.int (1 : Int32)), .val (.int jk), .val (.long nm), .second, .val (.int lm), .val (.int v), .val (.int t), .val (.int ((a + b) + (1 : Int32))), .val (.int e0), .val (.ref 0), .val (.ref br), .val (.ref tr), .val (.int ix), .val (.int sp), .val (.long (nm / (own_p (18 - J)))), .second, .val (.int (ct - a)), .val (.int sp), .val (.int kk), .val (.int (1 : Int32)), .val (.int ct)]) (S' := []) (H' := H5) (sl' := (((((((((S26 + 3) + 2) + 0) + 0) + 0) + 0) + 0) + 0) + 19)) rfl ?_
            refine mmW_t (XT.ii_ne_t (own_nm1 hsp)) ?_
            refine mmW_steps (k := 1) (n := 462) (pc' := 994) (L' := [.val (.int x0), .val (.int x1), .val (.int x2), .val (.long x3), .second, .val (.int fr), .val (.int a), .val (.int b), .val (.int (1 : Int32)), .val (.int jk), .val (.long nm), .second, .val (.int lm), .val (.int v), .val (.int t), .val (.int ((a + b) + (1 : Int32))), .val (.int e0), .val (.ref 0), .val (.ref br), .val (.ref tr), .val (.int ix), .val (.int sp), .val (.long (nm / (own_p (18 - J)))), .second, .val (.int (ct - a)), .val (.int sp), .val (.int kk), .val (.int (1 : Int32)), .val (.int ct)]) (S' := [.ref tr]) (H' := H5) (sl' := (((((((((S26 + 3) + 2) + 0) + 0) + 0) + 0) + 0) + 0) + 19)) rfl ?_
            refine mmW_callV (n := 461) rfl rfl rfl (mmRecv_of nt5) (Nat.le_of_ble_eq_true rfl) (own_dgs nt5) ?_
            show mmW K_0 I_0 (some .boolean) (461) 997 [.val (.int x0), .val (.int x1), .val (.int x2), .val (.long x3), .second, .val (.int fr), .val (.int a), .val (.int b), .val (.int (1 : Int32)), .val (.int jk), .val (.long nm), .second, .val (.int lm), .val (.int v), .val (.int t), .val (.int ((a + b) + (1 : Int32))), .val (.int e0), .val (.ref 0), .val (.ref br), .val (.ref tr), .val (.int ix), .val (.int sp), .val (.long (nm / (own_p (18 - J)))), .second, .val (.int (ct - a)), .val (.int sp), .val (.int kk), .val (.int (1 : Int32)), .val (.int ct)] [.long z] H5 ((((((((((S26 + 3) + 2) + 0) + 0) + 0) + 0) + 0) + 0) + 19) + 0) _
            refine mmW_steps (k := 3) (n := 458) (pc' := (if ifCond.holds .ne (XT.cmpL z (nm / (own_p (18 - J)))) = true then 1017 else 1003)) (L' := [.val (.int x0), .val (.int x1), .val (.int x2), .val (.long x3), .second, .val (.int fr), .val (.int a), .val (.int b), .val (.int (1 : Int32)), .val (.int jk), .val (.long nm), .second, .val (.int lm), .val (.int v), .val (.int t), .val (.int ((a + b) + (1 : Int32))), .val (.int e0), .val (.ref 0), .val (.ref br), .val (.ref tr), .val (.int ix), .val (.int sp), .val (.long (nm / (own_p (18 - J)))), .second, .val (.int (ct - a)), .val (.int sp), .val (.int kk), .val (.int (1 : Int32)), .val (.int ct)]) (S' := []) (H' := H5) (sl' := ((((((((((S26 + 3) + 2) + 0) + 0) + 0) + 0) + 0) + 0) + 19) + 0)) rfl ?_
            refine mmW_f (XT.ll_ne_f (own_sameL (q3 hbig) (own_div hn (by omega)))) ?_
            refine mmW_steps (k := 1) (n := 457) (pc' := 1005) (L' := [.val (.int x0), .val (.int x1), .val (.int x2), .val (.long x3), .second, .val (.int fr), .val (.int a), .val (.int b), .val (.int (1 : Int32)), .val (.int jk), .val (.long nm), .second, .val (.int lm), .val (.int v), .val (.int t), .val (.int ((a + b) + (1 : Int32))), .val (.int e0), .val (.ref 0), .val (.ref br), .val (.ref tr), .val (.int ix), .val (.int sp), .val (.long (nm / (own_p (18 - J)))), .second, .val (.int (ct - a)), .val (.int sp), .val (.int kk), .val (.int (1 : Int32)), .val (.int ct)]) (S' := [.ref tr]) (H' := H5) (sl' := ((((((((((S26 + 3) + 2) + 0) + 0) + 0) + 0) + 0) + 0) + 19) + 0)) rfl ?_
            refine mmW_callV (n := 456) rfl rfl rfl (mmRecv_of nt5) (Nat.le_of_ble_eq_true rfl) (own_dcs nt5) ?_
            show mmW K_0 I_0 (some .boolean) (456) 1008 [.val (.int x0), .val (.int x1), .val (.int x2), .val (.long x3), .second, .val (.int fr), .val (.int a), .val (.int b), .val (.int (1 : Int32)), .val (.int jk), .val (.long nm), .second, .val (.int lm), .val (.int v), .val (.int t), .val (.int ((a + b) + (1 : Int32))), .val (.int e0), .val (.ref 0), .val (.ref br), .val (.ref tr), .val (.int ix), .val (.int sp), .val (.long (nm / (own_p (18 - J)))), .second, .val (.int (ct - a)), .val (.int sp), .val (.int kk), .val (.int (1 : Int32)), .val (.int ct)] [.int dc] H5 (((((((((((S26 + 3) + 2) + 0) + 0) + 0) + 0) + 0) + 0) + 19) + 0) + 0) _
            refine mmW_steps (k := 2) (n := 454) (pc' := (if if_icmp.holds .ne dc (ct - a) = true then 1017 else 1013)) (L' := [.val (.int x0), .val (.int x1), .val (.int x2), .val (.long x3), .second, .val (.int fr), .val (.int a), .val (.int b), .val (.int (1 : Int32)), .val (.int jk), .val (.long nm), .second, .val (.int lm), .val (.int v), .val (.int t), .val (.int ((a + b) + (1 : Int32))), .val (.int e0), .val (.ref 0), .val (.ref br), .val (.ref tr), .val (.int ix), .val (.int sp), .val (.long (nm / (own_p (18 - J)))), .second, .val (.int (ct - a)), .val (.int sp), .val (.int kk), .val (.int (1 : Int32)), .val (.int ct)]) (S' := []) (H' := H5) (sl' := (((((((((((S26 + 3) + 2) + 0) + 0) + 0) + 0) + 0) + 0) + 19) + 0) + 0)) rfl ?_
            refine mmW_f (XT.ii_ne_f (own_same q2 (own_sub hct ha (by omega) (by omega)) (by omega))) ?_
            refine mmW_steps (k := 2) (n := 452) (pc' := 1018) (L' := [.val (.int x0), .val (.int x1), .val (.int x2), .val (.long x3), .second, .val (.int fr), .val (.int a), .val (.int b), .val (.int (1 : Int32)), .val (.int jk), .val (.long nm), .second, .val (.int lm), .val (.int v), .val (.int t), .val (.int ((a + b) + (1 : Int32))), .val (.int e0), .val (.ref 0), .val (.ref br), .val (.ref tr), .val (.int ix), .val (.int sp), .val (.long (nm / (own_p (18 - J)))), .second, .val (.int (ct - a)), .val (.int sp), .val (.int kk), .val (.int (1 : Int32)), .val (.int ct)]) (S' := [.int (1 : Int32)]) (H' := H5) (sl' := (((((((((((S26 + 3) + 2) + 0) + 0) + 0) + 0) + 0) + 0) + 19) + 0) + 0)) rfl ?_
            exact mmW_ret (n := 451) (i := .ireturn) rfl rfl ⟨rfl, by omega, by omega⟩
  · have hR := own_rdN H3 tr 0 c fr lm hcl
    refine mmW_callV (n := 532) rfl rfl rfl (mmRecv_of nt3) (Nat.le_of_ble_eq_true rfl) (hR) ?_
    show mmW K_0 I_0 (some .boolean) (532) 822 [.val (.int x0), .val (.int x1), .val (.int x2), .val (.long x3), .second, .val (.int fr), .val (.int a), .val (.int b), .val (.int (1 : Int32)), .val (.int jk), .val (.long nm), .second, .val (.int lm), .val (.int v), .val (.int t), .val (.int ((a + b) + (1 : Int32))), .val (.int e0), .val (.ref 0), .val (.ref br), .val (.ref tr), .unset, .unset, .unset, .unset, .unset, .unset, .unset, .unset, .unset] [.int (-1 : Int32)] H3 (((((((S26 + 3) + 2) + 0) + 0) + 0) + 0) + 0) _
    refine mmW_steps (k := 8) (n := 524) (pc' := (if if_icmp.holds .le lm fr = true then 847 else 837)) (L' := [.val (.int x0), .val (.int x1), .val (.int x2), .val (.long x3), .second, .val (.int fr), .val (.int a), .val (.int b), .val (.int (1 : Int32)), .val (.int jk), .val (.long nm), .second, .val (.int lm), .val (.int v), .val (.int t), .val (.int ((a + b) + (1 : Int32))), .val (.int e0), .val (.ref 0), .val (.ref br), .val (.ref tr), .val (.int (-1 : Int32)), .unset, .val (.long (0 : Int64)), .second, .val (.int (0 : Int32)), .unset, .unset, .unset, .unset]) (S' := []) (H' := H3) (sl' := (((((((S26 + 3) + 2) + 0) + 0) + 0) + 0) + 0)) rfl ?_
    refine mmW_t (XT.ii_le_t (hcl)) ?_
    refine mmW_steps (k := 10) (n := 514) (pc' := 991) (L' := [.val (.int x0), .val (.int x1), .val (.int x2), .val (.long x3), .second, .val (.int fr), .val (.int a), .val (.int b), .val (.int (1 : Int32)), .val (.int jk), .val (.long nm), .second, .val (.int lm), .val (.int v), .val (.int t), .val (.int ((a + b) + (1 : Int32))), .val (.int e0), .val (.ref 0), .val (.ref br), .val (.ref tr), .val (.int (-1 : Int32)), .val (.int (-1 : Int32)), .val (.long (0 : Int64)), .second, .val (.int (0 : Int32)), .unset, .unset, .unset, .unset]) (S' := [.int (1 : Int32)]) (H' := H3) (sl' := (((((((S26 + 3) + 2) + 0) + 0) + 0) + 0) + 0)) rfl ?_
    exact mmW_ret (n := 513) (i := .ireturn) rfl rfl ⟨rfl, by omega, by omega⟩
set_option maxRecDepth 65536 in
set_option maxHeartbeats 40000000 in
theorem law_run (x0 : Int32) (x1 : Int32) (x2 : Int32) (x3 : Int64) : ∃ H' ds, B_0 [.int x0, .int x1, .int x2, .long x3] [] = some (some (.int 1), H', ds) ∧ H'.length ≤ 56 ∧ ds ≤ 896 := by
  refine mmLaw_of rfl ?_
  show mmW K_0 I_0 (some .boolean) 1000 0 [.val (.int x0), .val (.int x1), .val (.int x2), .val (.long x3), .second, .unset, .unset, .unset, .unset, .unset, .unset, .unset, .unset, .unset, .unset, .unset, .unset, .unset, .unset, .unset, .unset, .unset, .unset, .unset, .unset, .unset, .unset, .unset, .unset] [] [] 0 _
  refine mmW_steps (k := 3) (n := 997) (pc' := 3) (L' := [.val (.int x0), .val (.int x1), .val (.int x2), .val (.long x3), .second, .unset, .unset, .unset, .unset, .unset, .unset, .unset, .unset, .unset, .unset, .unset, .unset, .unset, .unset, .unset, .unset, .unset, .unset, .unset, .unset, .unset, .unset, .unset, .unset]) (S' := [.int (x0 &&& (3 : Int32))]) (H' := []) (sl' := 0) rfl ?_
  have hfr := own_m3 x0
  generalize (x0 &&& (3 : Int32)) = fr at hfr ⊢
  obtain ⟨FR, hfr, gFR⟩ := hfr
  refine mmW_steps (k := 8) (n := 989) (pc' := 14) (L' := [.val (.int x0), .val (.int x1), .val (.int x2), .val (.long x3), .second, .val (.int fr), .unset, .unset, .unset, .unset, .unset, .unset, .unset, .unset, .unset, .unset, .unset, .unset, .unset, .unset, .unset, .unset, .unset, .unset, .unset, .unset, .unset, .unset, .unset]) (S' := [.int (((XT.ushr x0 (2 : Int32)) &&& (31 : Int32)) % (21 : Int32))]) (H' := []) (sl' := 0) rfl ?_
  have ha := own_m21 (XT.ushr x0 (2 : Int32))
  generalize (((XT.ushr x0 (2 : Int32)) &&& (31 : Int32)) % (21 : Int32)) = a at ha ⊢
  obtain ⟨A, ha, gA⟩ := ha
  refine mmW_steps (k := 9) (n := 980) (pc' := 28) (L' := [.val (.int x0), .val (.int x1), .val (.int x2), .val (.long x3), .second, .val (.int fr), .val (.int a), .unset, .unset, .unset, .unset, .unset, .unset, .unset, .unset, .unset, .unset, .unset, .unset, .unset, .unset, .unset, .unset, .unset, .unset, .unset, .unset, .unset, .unset]) (S' := [.int ((21 : Int32) - a), .int ((XT.ushr x0 (7 : Int32)) &&& (31 : Int32))]) (H' := []) (sl' := 0) rfl ?_
  refine mmW_irem (n := 979) rfl (own_21 ha gA) ?_
  show mmW K_0 I_0 (some .boolean) (979) 29 [.val (.int x0), .val (.int x1), .val (.int x2), .val (.long x3), .second, .val (.int fr), .val (.int a), .unset, .unset, .unset, .unset, .unset, .unset, .unset, .unset, .unset, .unset, .unset, .unset, .unset, .unset, .unset, .unset, .unset, .unset, .unset, .unset, .unset, .unset] [.int (((XT.ushr x0 (7 : Int32)) &&& (31 : Int32)) % ((21 : Int32) - a))] [] 0 _
  have hb_ := own_mb ha gA (XT.ushr x0 (7 : Int32))
  generalize (((XT.ushr x0 (7 : Int32)) &&& (31 : Int32)) % ((21 : Int32) - a)) = b at hb_ ⊢
  obtain ⟨B, hb_, gAB⟩ := hb_
  refine mmW_steps (k := 7) (n := 972) (pc' := (if ifCond.holds .eq ((XT.ushr x0 (12 : Int32)) &&& (1 : Int32)) = true then 44 else 40)) (L' := [.val (.int x0), .val (.int x1), .val (.int x2), .val (.long x3), .second, .val (.int fr), .val (.int a), .val (.int b), .unset, .unset, .unset, .unset, .unset, .unset, .unset, .unset, .unset, .unset, .unset, .unset, .unset, .unset, .unset, .unset, .unset, .unset, .unset, .unset, .unset]) (S' := []) (H' := []) (sl' := 0) rfl ?_
  by_cases hp : ((XT.ushr x0 (12 : Int32)) &&& (1 : Int32)) = 0
  · refine mmW_t (XT.i0_eq_t (hp)) ?_
    refine mmW_steps (k := 9) (n := 963) (pc' := 57) (L' := [.val (.int x0), .val (.int x1), .val (.int x2), .val (.long x3), .second, .val (.int fr), .val (.int a), .val (.int b), .val (.int (0 : Int32)), .unset, .unset, .unset, .unset, .unset, .unset, .unset, .unset, .unset, .unset, .unset, .unset, .unset, .unset, .unset, .unset, .unset, .unset, .unset, .unset]) (S' := [.int (((XT.ushr x0 (13 : Int32)) &&& (65535 : Int32)) % (10 : Int32))]) (H' := []) (sl' := 0) rfl ?_
    have hjk := own_m10 (XT.ushr x0 (13 : Int32))
    generalize (((XT.ushr x0 (13 : Int32)) &&& (65535 : Int32)) % (10 : Int32)) = jk at hjk ⊢
    obtain ⟨JK, hjk, gJ⟩ := hjk
    refine mmW_steps (k := 6) (n := 957) (pc' := 68) (L' := [.val (.int x0), .val (.int x1), .val (.int x2), .val (.long x3), .second, .val (.int fr), .val (.int a), .val (.int b), .val (.int (0 : Int32)), .val (.int jk), .unset, .unset, .unset, .unset, .unset, .unset, .unset, .unset, .unset, .unset, .unset, .unset, .unset, .unset, .unset, .unset, .unset, .unset, .unset]) (S' := [.long ((x3 &&& (9223372036854775807 : Int64)) % (1000000000000000000 : Int64))]) (H' := []) (sl' := 0) rfl ?_
    have hn := own_nm x3
    generalize ((x3 &&& (9223372036854775807 : Int64)) % (1000000000000000000 : Int64)) = nm at hn ⊢
    obtain ⟨NM, hn, hN⟩ := hn
    refine mmW_steps (k := 4) (n := 953) (pc' := (if if_icmp.holds .gt x1 (26 : Int32) = true then 80 else 76)) (L' := [.val (.int x0), .val (.int x1), .val (.int x2), .val (.long x3), .second, .val (.int fr), .val (.int a), .val (.int b), .val (.int (0 : Int32)), .val (.int jk), .val (.long nm), .second, .unset, .unset, .unset, .unset, .unset, .unset, .unset, .unset, .unset, .unset, .unset, .unset, .unset, .unset, .unset, .unset, .unset]) (S' := []) (H' := []) (sl' := 0) rfl ?_
    by_cases hlim : (26 : Int32) < x1
    · refine mmW_t (XT.ii_gt_t (hlim)) ?_
      refine mmW_steps (k := 6) (n := 947) (pc' := 88) (L' := [.val (.int x0), .val (.int x1), .val (.int x2), .val (.long x3), .second, .val (.int fr), .val (.int a), .val (.int b), .val (.int (0 : Int32)), .val (.int jk), .val (.long nm), .second, .val (.int (x1 % (27 : Int32))), .unset, .unset, .unset, .unset, .unset, .unset, .unset, .unset, .unset, .unset, .unset, .unset, .unset, .unset, .unset, .unset]) (S' := [.int x2.toInt8.toInt32]) (H' := []) (sl' := 0) rfl ?_
      have hv := own_bb x2
      generalize x2.toInt8.toInt32 = v at hv ⊢
      have hlm26 := own_lm2 x1
      refine mmW_steps (k := 6) (n := 941) (pc' := (if if_icmp.holds .lt v (48 : Int32) = true then 108 else 101)) (L' := [.val (.int x0), .val (.int x1), .val (.int x2), .val (.long x3), .second, .val (.int fr), .val (.int a), .val (.int b), .val (.int (0 : Int32)), .val (.int jk), .val (.long nm), .second, .val (.int (x1 % (27 : Int32))), .val (.int v), .val (.int v), .unset, .unset, .unset, .unset, .unset, .unset, .unset, .unset, .unset, .unset, .unset, .unset, .unset, .unset]) (S' := []) (H' := []) (sl' := 0) rfl ?_
      by_cases hc3 : v < (48 : Int32)
      · refine mmW_t (XT.ii_lt_t (hc3)) ?_
        refine mmW_steps (k := 3) (n := 938) (pc' := (if if_icmp.holds .ne v (46 : Int32) = true then 129 else 115)) (L' := [.val (.int x0), .val (.int x1), .val (.int x2), .val (.long x3), .second, .val (.int fr), .val (.int a), .val (.int b), .val (.int (0 : Int32)), .val (.int jk), .val (.long nm), .second, .val (.int (x1 % (27 : Int32))), .val (.int v), .val (.int v), .unset, .unset, .unset, .unset, .unset, .unset, .unset, .unset, .unset, .unset, .unset, .unset, .unset, .unset]) (S' := []) (H' := []) (sl' := 0) rfl ?_
        by_cases hc4 : v = (46 : Int32)
        · refine mmW_f (XT.ii_ne_f (hc4)) ?_
          refine mmW_steps (k := 4) (n := 934) (pc' := 129) (L' := [.val (.int x0), .val (.int x1), .val (.int x2), .val (.long x3), .second, .val (.int fr), .val (.int a), .val (.int b), .val (.int (0 : Int32)), .val (.int jk), .val (.long nm), .second, .val (.int (x1 % (27 : Int32))), .val (.int v), .val (.int (58 : Int32)), .unset, .unset, .unset, .unset, .unset, .unset, .unset, .unset, .unset, .unset, .unset, .unset, .unset, .unset]) (S' := []) (H' := []) (sl' := 0) rfl ?_
          exact mmW_le (Nat.le_of_ble_eq_true rfl) (own_tail0 x0 x1 x2 x3 fr a b jk _ v _ nm FR A B JK NM hfr gFR ha hb_ gAB hjk gJ hn hN hlm26 rfl ((by decide)) (by decide))
        · refine mmW_t (XT.ii_ne_t (hc4)) ?_
          exact mmW_le (Nat.le_of_ble_eq_true rfl) (own_tail0 x0 x1 x2 x3 fr a b jk _ v _ nm FR A B JK NM hfr gFR ha hb_ gAB hjk gJ hn hN hlm26 hv (own_tn hv (Or.inl hc3)) hc4)
      · refine mmW_f (XT.ii_lt_f (hc3)) ?_
        refine mmW_steps (k := 3) (n := 938) (pc' := (if if_icmp.holds .le v (57 : Int32) = true then 115 else 108)) (L' := [.val (.int x0), .val (.int x1), .val (.int x2), .val (.long x3), .second, .val (.int fr), .val (.int a), .val (.int b), .val (.int (0 : Int32)), .val (.int jk), .val (.long nm), .second, .val (.int (x1 % (27 : Int32))), .val (.int v), .val (.int v), .unset, .unset, .unset, .unset, .unset, .unset, .unset, .unset, .unset, .unset, .unset, .unset, .unset, .unset]) (S' := []) (H' := []) (sl' := 0) rfl ?_
        by_cases hc4 : (57 : Int32) < v
        · refine mmW_f (XT.ii_le_f (hc4)) ?_
          refine mmW_steps (k := 3) (n := 935) (pc' := (if if_icmp.holds .ne v (46 : Int32) = true then 129 else 115)) (L' := [.val (.int x0), .val (.int x1), .val (.int x2), .val (.long x3), .second, .val (.int fr), .val (.int a), .val (.int b), .val (.int (0 : Int32)), .val (.int jk), .val (.long nm), .second, .val (.int (x1 % (27 : Int32))), .val (.int v), .val (.int v), .unset, .unset, .unset, .unset, .unset, .unset, .unset, .unset, .unset, .unset, .unset, .unset, .unset, .unset]) (S' := []) (H' := []) (sl' := 0) rfl ?_
          by_cases hc5 : v = (46 : Int32)
          · refine mmW_f (XT.ii_ne_f (hc5)) ?_
            refine mmW_steps (k := 4) (n := 931) (pc' := 129) (L' := [.val (.int x0), .val (.int x1), .val (.int x2), .val (.long x3), .second, .val (.int fr), .val (.int a), .val (.int b), .val (.int (0 : Int32)), .val (.int jk), .val (.long nm), .second, .val (.int (x1 % (27 : Int32))), .val (.int v), .val (.int (58 : Int32)), .unset, .unset, .unset, .unset, .unset, .unset, .unset, .unset, .unset, .unset, .unset, .unset, .unset, .unset]) (S' := []) (H' := []) (sl' := 0) rfl ?_
            exact mmW_le (Nat.le_of_ble_eq_true rfl) (own_tail0 x0 x1 x2 x3 fr a b jk _ v _ nm FR A B JK NM hfr gFR ha hb_ gAB hjk gJ hn hN hlm26 rfl ((by decide)) (by decide))
          · refine mmW_t (XT.ii_ne_t (hc5)) ?_
            exact mmW_le (Nat.le_of_ble_eq_true rfl) (own_tail0 x0 x1 x2 x3 fr a b jk _ v _ nm FR A B JK NM hfr gFR ha hb_ gAB hjk gJ hn hN hlm26 hv (own_tn hv (Or.inr hc4)) hc5)
        · refine mmW_t (XT.ii_le_t (hc4)) ?_
          refine mmW_steps (k := 4) (n := 934) (pc' := 129) (L' := [.val (.int x0), .val (.int x1), .val (.int x2), .val (.long x3), .second, .val (.int fr), .val (.int a), .val (.int b), .val (.int (0 : Int32)), .val (.int jk), .val (.long nm), .second, .val (.int (x1 % (27 : Int32))), .val (.int v), .val (.int (58 : Int32)), .unset, .unset, .unset, .unset, .unset, .unset, .unset, .unset, .unset, .unset, .unset, .unset, .unset, .unset]) (S' := []) (H' := []) (sl' := 0) rfl ?_
          exact mmW_le (Nat.le_of_ble_eq_true rfl) (own_tail0 x0 x1 x2 x3 fr a b jk _ v _ nm FR A B JK NM hfr gFR ha hb_ gAB hjk gJ hn hN hlm26 rfl ((by decide)) (by decide))
    · refine mmW_f (XT.ii_gt_f (hlim)) ?_
      refine mmW_steps (k := 5) (n := 948) (pc' := 88) (L' := [.val (.int x0), .val (.int x1), .val (.int x2), .val (.long x3), .second, .val (.int fr), .val (.int a), .val (.int b), .val (.int (0 : Int32)), .val (.int jk), .val (.long nm), .second, .val (.int x1), .unset, .unset, .unset, .unset, .unset, .unset, .unset, .unset, .unset, .unset, .unset, .unset, .unset, .unset, .unset, .unset]) (S' := [.int x2.toInt8.toInt32]) (H' := []) (sl' := 0) rfl ?_
      have hv := own_bb x2
      generalize x2.toInt8.toInt32 = v at hv ⊢
      have hlm26 := own_lm1 hlim
      refine mmW_steps (k := 6) (n := 942) (pc' := (if if_icmp.holds .lt v (48 : Int32) = true then 108 else 101)) (L' := [.val (.int x0), .val (.int x1), .val (.int x2), .val (.long x3), .second, .val (.int fr), .val (.int a), .val (.int b), .val (.int (0 : Int32)), .val (.int jk), .val (.long nm), .second, .val (.int x1), .val (.int v), .val (.int v), .unset, .unset, .unset, .unset, .unset, .unset, .unset, .unset, .unset, .unset, .unset, .unset, .unset, .unset]) (S' := []) (H' := []) (sl' := 0) rfl ?_
      by_cases hc3 : v < (48 : Int32)
      · refine mmW_t (XT.ii_lt_t (hc3)) ?_
        refine mmW_steps (k := 3) (n := 939) (pc' := (if if_icmp.holds .ne v (46 : Int32) = true then 129 else 115)) (L' := [.val (.int x0), .val (.int x1), .val (.int x2), .val (.long x3), .second, .val (.int fr), .val (.int a), .val (.int b), .val (.int (0 : Int32)), .val (.int jk), .val (.long nm), .second, .val (.int x1), .val (.int v), .val (.int v), .unset, .unset, .unset, .unset, .unset, .unset, .unset, .unset, .unset, .unset, .unset, .unset, .unset, .unset]) (S' := []) (H' := []) (sl' := 0) rfl ?_
        by_cases hc4 : v = (46 : Int32)
        · refine mmW_f (XT.ii_ne_f (hc4)) ?_
          refine mmW_steps (k := 4) (n := 935) (pc' := 129) (L' := [.val (.int x0), .val (.int x1), .val (.int x2), .val (.long x3), .second, .val (.int fr), .val (.int a), .val (.int b), .val (.int (0 : Int32)), .val (.int jk), .val (.long nm), .second, .val (.int x1), .val (.int v), .val (.int (58 : Int32)), .unset, .unset, .unset, .unset, .unset, .unset, .unset, .unset, .unset, .unset, .unset, .unset, .unset, .unset]) (S' := []) (H' := []) (sl' := 0) rfl ?_
          exact mmW_le (Nat.le_of_ble_eq_true rfl) (own_tail0 x0 x1 x2 x3 fr a b jk _ v _ nm FR A B JK NM hfr gFR ha hb_ gAB hjk gJ hn hN hlm26 rfl ((by decide)) (by decide))
        · refine mmW_t (XT.ii_ne_t (hc4)) ?_
          exact mmW_le (Nat.le_of_ble_eq_true rfl) (own_tail0 x0 x1 x2 x3 fr a b jk _ v _ nm FR A B JK NM hfr gFR ha hb_ gAB hjk gJ hn hN hlm26 hv (own_tn hv (Or.inl hc3)) hc4)
      · refine mmW_f (XT.ii_lt_f (hc3)) ?_
        refine mmW_steps (k := 3) (n := 939) (pc' := (if if_icmp.holds .le v (57 : Int32) = true then 115 else 108)) (L' := [.val (.int x0), .val (.int x1), .val (.int x2), .val (.long x3), .second, .val (.int fr), .val (.int a), .val (.int b), .val (.int (0 : Int32)), .val (.int jk), .val (.long nm), .second, .val (.int x1), .val (.int v), .val (.int v), .unset, .unset, .unset, .unset, .unset, .unset, .unset, .unset, .unset, .unset, .unset, .unset, .unset, .unset]) (S' := []) (H' := []) (sl' := 0) rfl ?_
        by_cases hc4 : (57 : Int32) < v
        · refine mmW_f (XT.ii_le_f (hc4)) ?_
          refine mmW_steps (k := 3) (n := 936) (pc' := (if if_icmp.holds .ne v (46 : Int32) = true then 129 else 115)) (L' := [.val (.int x0), .val (.int x1), .val (.int x2), .val (.long x3), .second, .val (.int fr), .val (.int a), .val (.int b), .val (.int (0 : Int32)), .val (.int jk), .val (.long nm), .second, .val (.int x1), .val (.int v), .val (.int v), .unset, .unset, .unset, .unset, .unset, .unset, .unset, .unset, .unset, .unset, .unset, .unset, .unset, .unset]) (S' := []) (H' := []) (sl' := 0) rfl ?_
          by_cases hc5 : v = (46 : Int32)
          · refine mmW_f (XT.ii_ne_f (hc5)) ?_
            refine mmW_steps (k := 4) (n := 932) (pc' := 129) (L' := [.val (.int x0), .val (.int x1), .val (.int x2), .val (.long x3), .second, .val (.int fr), .val (.int a), .val (.int b), .val (.int (0 : Int32)), .val (.int jk), .val (.long nm), .second, .val (.int x1), .val (.int v), .val (.int (58 : Int32)), .unset, .unset, .unset, .unset, .unset, .unset, .unset, .unset, .unset, .unset, .unset, .unset, .unset, .unset]) (S' := []) (H' := []) (sl' := 0) rfl ?_
            exact mmW_le (Nat.le_of_ble_eq_true rfl) (own_tail0 x0 x1 x2 x3 fr a b jk _ v _ nm FR A B JK NM hfr gFR ha hb_ gAB hjk gJ hn hN hlm26 rfl ((by decide)) (by decide))
          · refine mmW_t (XT.ii_ne_t (hc5)) ?_
            exact mmW_le (Nat.le_of_ble_eq_true rfl) (own_tail0 x0 x1 x2 x3 fr a b jk _ v _ nm FR A B JK NM hfr gFR ha hb_ gAB hjk gJ hn hN hlm26 hv (own_tn hv (Or.inr hc4)) hc5)
        · refine mmW_t (XT.ii_le_t (hc4)) ?_
          refine mmW_steps (k := 4) (n := 935) (pc' := 129) (L' := [.val (.int x0), .val (.int x1), .val (.int x2), .val (.long x3), .second, .val (.int fr), .val (.int a), .val (.int b), .val (.int (0 : Int32)), .val (.int jk), .val (.long nm), .second, .val (.int x1), .val (.int v), .val (.int (58 : Int32)), .unset, .unset, .unset, .unset, .unset, .unset, .unset, .unset, .unset, .unset, .unset, .unset, .unset, .unset]) (S' := []) (H' := []) (sl' := 0) rfl ?_
          exact mmW_le (Nat.le_of_ble_eq_true rfl) (own_tail0 x0 x1 x2 x3 fr a b jk _ v _ nm FR A B JK NM hfr gFR ha hb_ gAB hjk gJ hn hN hlm26 rfl ((by decide)) (by decide))
  · refine mmW_f (XT.i0_eq_f (hp)) ?_
    refine mmW_steps (k := 10) (n := 962) (pc' := 57) (L' := [.val (.int x0), .val (.int x1), .val (.int x2), .val (.long x3), .second, .val (.int fr), .val (.int a), .val (.int b), .val (.int (1 : Int32)), .unset, .unset, .unset, .unset, .unset, .unset, .unset, .unset, .unset, .unset, .unset, .unset, .unset, .unset, .unset, .unset, .unset, .unset, .unset, .unset]) (S' := [.int (((XT.ushr x0 (13 : Int32)) &&& (65535 : Int32)) % (10 : Int32))]) (H' := []) (sl' := 0) rfl ?_
    have hjk := own_m10 (XT.ushr x0 (13 : Int32))
    generalize (((XT.ushr x0 (13 : Int32)) &&& (65535 : Int32)) % (10 : Int32)) = jk at hjk ⊢
    obtain ⟨JK, hjk, gJ⟩ := hjk
    refine mmW_steps (k := 6) (n := 956) (pc' := 68) (L' := [.val (.int x0), .val (.int x1), .val (.int x2), .val (.long x3), .second, .val (.int fr), .val (.int a), .val (.int b), .val (.int (1 : Int32)), .val (.int jk), .unset, .unset, .unset, .unset, .unset, .unset, .unset, .unset, .unset, .unset, .unset, .unset, .unset, .unset, .unset, .unset, .unset, .unset, .unset]) (S' := [.long ((x3 &&& (9223372036854775807 : Int64)) % (1000000000000000000 : Int64))]) (H' := []) (sl' := 0) rfl ?_
    have hn := own_nm x3
    generalize ((x3 &&& (9223372036854775807 : Int64)) % (1000000000000000000 : Int64)) = nm at hn ⊢
    obtain ⟨NM, hn, hN⟩ := hn
    refine mmW_steps (k := 4) (n := 952) (pc' := (if if_icmp.holds .gt x1 (26 : Int32) = true then 80 else 76)) (L' := [.val (.int x0), .val (.int x1), .val (.int x2), .val (.long x3), .second, .val (.int fr), .val (.int a), .val (.int b), .val (.int (1 : Int32)), .val (.int jk), .val (.long nm), .second, .unset, .unset, .unset, .unset, .unset, .unset, .unset, .unset, .unset, .unset, .unset, .unset, .unset, .unset, .unset, .unset, .unset]) (S' := []) (H' := []) (sl' := 0) rfl ?_
    by_cases hlim : (26 : Int32) < x1
    · refine mmW_t (XT.ii_gt_t (hlim)) ?_
      refine mmW_steps (k := 6) (n := 946) (pc' := 88) (L' := [.val (.int x0), .val (.int x1), .val (.int x2), .val (.long x3), .second, .val (.int fr), .val (.int a), .val (.int b), .val (.int (1 : Int32)), .val (.int jk), .val (.long nm), .second, .val (.int (x1 % (27 : Int32))), .unset, .unset, .unset, .unset, .unset, .unset, .unset, .unset, .unset, .unset, .unset, .unset, .unset, .unset, .unset, .unset]) (S' := [.int x2.toInt8.toInt32]) (H' := []) (sl' := 0) rfl ?_
      have hv := own_bb x2
      generalize x2.toInt8.toInt32 = v at hv ⊢
      have hlm26 := own_lm2 x1
      refine mmW_steps (k := 6) (n := 940) (pc' := (if if_icmp.holds .lt v (48 : Int32) = true then 108 else 101)) (L' := [.val (.int x0), .val (.int x1), .val (.int x2), .val (.long x3), .second, .val (.int fr), .val (.int a), .val (.int b), .val (.int (1 : Int32)), .val (.int jk), .val (.long nm), .second, .val (.int (x1 % (27 : Int32))), .val (.int v), .val (.int v), .unset, .unset, .unset, .unset, .unset, .unset, .unset, .unset, .unset, .unset, .unset, .unset, .unset, .unset]) (S' := []) (H' := []) (sl' := 0) rfl ?_
      by_cases hc3 : v < (48 : Int32)
      · refine mmW_t (XT.ii_lt_t (hc3)) ?_
        refine mmW_steps (k := 3) (n := 937) (pc' := (if if_icmp.holds .ne v (46 : Int32) = true then 129 else 115)) (L' := [.val (.int x0), .val (.int x1), .val (.int x2), .val (.long x3), .second, .val (.int fr), .val (.int a), .val (.int b), .val (.int (1 : Int32)), .val (.int jk), .val (.long nm), .second, .val (.int (x1 % (27 : Int32))), .val (.int v), .val (.int v), .unset, .unset, .unset, .unset, .unset, .unset, .unset, .unset, .unset, .unset, .unset, .unset, .unset, .unset]) (S' := []) (H' := []) (sl' := 0) rfl ?_
        by_cases hc4 : v = (46 : Int32)
        · refine mmW_f (XT.ii_ne_f (hc4)) ?_
          refine mmW_steps (k := 5) (n := 932) (pc' := 129) (L' := [.val (.int x0), .val (.int x1), .val (.int x2), .val (.long x3), .second, .val (.int fr), .val (.int a), .val (.int b), .val (.int (1 : Int32)), .val (.int jk), .val (.long nm), .second, .val (.int (x1 % (27 : Int32))), .val (.int v), .val (.int (46 : Int32)), .unset, .unset, .unset, .unset, .unset, .unset, .unset, .unset, .unset, .unset, .unset, .unset, .unset, .unset]) (S' := []) (H' := []) (sl' := 0) rfl ?_
          exact mmW_le (Nat.le_of_ble_eq_true rfl) (own_tail1 x0 x1 x2 x3 fr a b jk _ v _ nm FR A B JK NM hfr gFR ha hb_ gAB hjk gJ hn hN hlm26 rfl ((by decide)))
        · refine mmW_t (XT.ii_ne_t (hc4)) ?_
          exact mmW_le (Nat.le_of_ble_eq_true rfl) (own_tail1 x0 x1 x2 x3 fr a b jk _ v _ nm FR A B JK NM hfr gFR ha hb_ gAB hjk gJ hn hN hlm26 hv (own_tn hv (Or.inl hc3)))
      · refine mmW_f (XT.ii_lt_f (hc3)) ?_
        refine mmW_steps (k := 3) (n := 937) (pc' := (if if_icmp.holds .le v (57 : Int32) = true then 115 else 108)) (L' := [.val (.int x0), .val (.int x1), .val (.int x2), .val (.long x3), .second, .val (.int fr), .val (.int a), .val (.int b), .val (.int (1 : Int32)), .val (.int jk), .val (.long nm), .second, .val (.int (x1 % (27 : Int32))), .val (.int v), .val (.int v), .unset, .unset, .unset, .unset, .unset, .unset, .unset, .unset, .unset, .unset, .unset, .unset, .unset, .unset]) (S' := []) (H' := []) (sl' := 0) rfl ?_
        by_cases hc4 : (57 : Int32) < v
        · refine mmW_f (XT.ii_le_f (hc4)) ?_
          refine mmW_steps (k := 3) (n := 934) (pc' := (if if_icmp.holds .ne v (46 : Int32) = true then 129 else 115)) (L' := [.val (.int x0), .val (.int x1), .val (.int x2), .val (.long x3), .second, .val (.int fr), .val (.int a), .val (.int b), .val (.int (1 : Int32)), .val (.int jk), .val (.long nm), .second, .val (.int (x1 % (27 : Int32))), .val (.int v), .val (.int v), .unset, .unset, .unset, .unset, .unset, .unset, .unset, .unset, .unset, .unset, .unset, .unset, .unset, .unset]) (S' := []) (H' := []) (sl' := 0) rfl ?_
          by_cases hc5 : v = (46 : Int32)
          · refine mmW_f (XT.ii_ne_f (hc5)) ?_
            refine mmW_steps (k := 5) (n := 929) (pc' := 129) (L' := [.val (.int x0), .val (.int x1), .val (.int x2), .val (.long x3), .second, .val (.int fr), .val (.int a), .val (.int b), .val (.int (1 : Int32)), .val (.int jk), .val (.long nm), .second, .val (.int (x1 % (27 : Int32))), .val (.int v), .val (.int (46 : Int32)), .unset, .unset, .unset, .unset, .unset, .unset, .unset, .unset, .unset, .unset, .unset, .unset, .unset, .unset]) (S' := []) (H' := []) (sl' := 0) rfl ?_
            exact mmW_le (Nat.le_of_ble_eq_true rfl) (own_tail1 x0 x1 x2 x3 fr a b jk _ v _ nm FR A B JK NM hfr gFR ha hb_ gAB hjk gJ hn hN hlm26 rfl ((by decide)))
          · refine mmW_t (XT.ii_ne_t (hc5)) ?_
            exact mmW_le (Nat.le_of_ble_eq_true rfl) (own_tail1 x0 x1 x2 x3 fr a b jk _ v _ nm FR A B JK NM hfr gFR ha hb_ gAB hjk gJ hn hN hlm26 hv (own_tn hv (Or.inr hc4)))
        · refine mmW_t (XT.ii_le_t (hc4)) ?_
          refine mmW_steps (k := 5) (n := 932) (pc' := 129) (L' := [.val (.int x0), .val (.int x1), .val (.int x2), .val (.long x3), .second, .val (.int fr), .val (.int a), .val (.int b), .val (.int (1 : Int32)), .val (.int jk), .val (.long nm), .second, .val (.int (x1 % (27 : Int32))), .val (.int v), .val (.int (46 : Int32)), .unset, .unset, .unset, .unset, .unset, .unset, .unset, .unset, .unset, .unset, .unset, .unset, .unset, .unset]) (S' := []) (H' := []) (sl' := 0) rfl ?_
          exact mmW_le (Nat.le_of_ble_eq_true rfl) (own_tail1 x0 x1 x2 x3 fr a b jk _ v _ nm FR A B JK NM hfr gFR ha hb_ gAB hjk gJ hn hN hlm26 rfl ((by decide)))
    · refine mmW_f (XT.ii_gt_f (hlim)) ?_
      refine mmW_steps (k := 5) (n := 947) (pc' := 88) (L' := [.val (.int x0), .val (.int x1), .val (.int x2), .val (.long x3), .second, .val (.int fr), .val (.int a), .val (.int b), .val (.int (1 : Int32)), .val (.int jk), .val (.long nm), .second, .val (.int x1), .unset, .unset, .unset, .unset, .unset, .unset, .unset, .unset, .unset, .unset, .unset, .unset, .unset, .unset, .unset, .unset]) (S' := [.int x2.toInt8.toInt32]) (H' := []) (sl' := 0) rfl ?_
      have hv := own_bb x2
      generalize x2.toInt8.toInt32 = v at hv ⊢
      have hlm26 := own_lm1 hlim
      refine mmW_steps (k := 6) (n := 941) (pc' := (if if_icmp.holds .lt v (48 : Int32) = true then 108 else 101)) (L' := [.val (.int x0), .val (.int x1), .val (.int x2), .val (.long x3), .second, .val (.int fr), .val (.int a), .val (.int b), .val (.int (1 : Int32)), .val (.int jk), .val (.long nm), .second, .val (.int x1), .val (.int v), .val (.int v), .unset, .unset, .unset, .unset, .unset, .unset, .unset, .unset, .unset, .unset, .unset, .unset, .unset, .unset]) (S' := []) (H' := []) (sl' := 0) rfl ?_
      by_cases hc3 : v < (48 : Int32)
      · refine mmW_t (XT.ii_lt_t (hc3)) ?_
        refine mmW_steps (k := 3) (n := 938) (pc' := (if if_icmp.holds .ne v (46 : Int32) = true then 129 else 115)) (L' := [.val (.int x0), .val (.int x1), .val (.int x2), .val (.long x3), .second, .val (.int fr), .val (.int a), .val (.int b), .val (.int (1 : Int32)), .val (.int jk), .val (.long nm), .second, .val (.int x1), .val (.int v), .val (.int v), .unset, .unset, .unset, .unset, .unset, .unset, .unset, .unset, .unset, .unset, .unset, .unset, .unset, .unset]) (S' := []) (H' := []) (sl' := 0) rfl ?_
        by_cases hc4 : v = (46 : Int32)
        · refine mmW_f (XT.ii_ne_f (hc4)) ?_
          refine mmW_steps (k := 5) (n := 933) (pc' := 129) (L' := [.val (.int x0), .val (.int x1), .val (.int x2), .val (.long x3), .second, .val (.int fr), .val (.int a), .val (.int b), .val (.int (1 : Int32)), .val (.int jk), .val (.long nm), .second, .val (.int x1), .val (.int v), .val (.int (46 : Int32)), .unset, .unset, .unset, .unset, .unset, .unset, .unset, .unset, .unset, .unset, .unset, .unset, .unset, .unset]) (S' := []) (H' := []) (sl' := 0) rfl ?_
          exact mmW_le (Nat.le_of_ble_eq_true rfl) (own_tail1 x0 x1 x2 x3 fr a b jk _ v _ nm FR A B JK NM hfr gFR ha hb_ gAB hjk gJ hn hN hlm26 rfl ((by decide)))
        · refine mmW_t (XT.ii_ne_t (hc4)) ?_
          exact mmW_le (Nat.le_of_ble_eq_true rfl) (own_tail1 x0 x1 x2 x3 fr a b jk _ v _ nm FR A B JK NM hfr gFR ha hb_ gAB hjk gJ hn hN hlm26 hv (own_tn hv (Or.inl hc3)))
      · refine mmW_f (XT.ii_lt_f (hc3)) ?_
        refine mmW_steps (k := 3) (n := 938) (pc' := (if if_icmp.holds .le v (57 : Int32) = true then 115 else 108)) (L' := [.val (.int x0), .val (.int x1), .val (.int x2), .val (.long x3), .second, .val (.int fr), .val (.int a), .val (.int b), .val (.int (1 : Int32)), .val (.int jk), .val (.long nm), .second, .val (.int x1), .val (.int v), .val (.int v), .unset, .unset, .unset, .unset, .unset, .unset, .unset, .unset, .unset, .unset, .unset, .unset, .unset, .unset]) (S' := []) (H' := []) (sl' := 0) rfl ?_
        by_cases hc4 : (57 : Int32) < v
        · refine mmW_f (XT.ii_le_f (hc4)) ?_
          refine mmW_steps (k := 3) (n := 935) (pc' := (if if_icmp.holds .ne v (46 : Int32) = true then 129 else 115)) (L' := [.val (.int x0), .val (.int x1), .val (.int x2), .val (.long x3), .second, .val (.int fr), .val (.int a), .val (.int b), .val (.int (1 : Int32)), .val (.int jk), .val (.long nm), .second, .val (.int x1), .val (.int v), .val (.int v), .unset, .unset, .unset, .unset, .unset, .unset, .unset, .unset, .unset, .unset, .unset, .unset, .unset, .unset]) (S' := []) (H' := []) (sl' := 0) rfl ?_
          by_cases hc5 : v = (46 : Int32)
          · refine mmW_f (XT.ii_ne_f (hc5)) ?_
            refine mmW_steps (k := 5) (n := 930) (pc' := 129) (L' := [.val (.int x0), .val (.int x1), .val (.int x2), .val (.long x3), .second, .val (.int fr), .val (.int a), .val (.int b), .val (.int (1 : Int32)), .val (.int jk), .val (.long nm), .second, .val (.int x1), .val (.int v), .val (.int (46 : Int32)), .unset, .unset, .unset, .unset, .unset, .unset, .unset, .unset, .unset, .unset, .unset, .unset, .unset, .unset]) (S' := []) (H' := []) (sl' := 0) rfl ?_
            exact mmW_le (Nat.le_of_ble_eq_true rfl) (own_tail1 x0 x1 x2 x3 fr a b jk _ v _ nm FR A B JK NM hfr gFR ha hb_ gAB hjk gJ hn hN hlm26 rfl ((by decide)))
          · refine mmW_t (XT.ii_ne_t (hc5)) ?_
            exact mmW_le (Nat.le_of_ble_eq_true rfl) (own_tail1 x0 x1 x2 x3 fr a b jk _ v _ nm FR A B JK NM hfr gFR ha hb_ gAB hjk gJ hn hN hlm26 hv (own_tn hv (Or.inr hc4)))
        · refine mmW_t (XT.ii_le_t (hc4)) ?_
          refine mmW_steps (k := 5) (n := 933) (pc' := 129) (L' := [.val (.int x0), .val (.int x1), .val (.int x2), .val (.long x3), .second, .val (.int fr), .val (.int a), .val (.int b), .val (.int (1 : Int32)), .val (.int jk), .val (.long nm), .second, .val (.int x1), .val (.int v), .val (.int (46 : Int32)), .unset, .unset, .unset, .unset, .unset, .unset, .unset, .unset, .unset, .unset, .unset, .unset, .unset, .unset]) (S' := []) (H' := []) (sl' := 0) rfl ?_
          exact mmW_le (Nat.le_of_ble_eq_true rfl) (own_tail1 x0 x1 x2 x3 fr a b jk _ v _ nm FR A B JK NM hfr gFR ha hb_ gAB hjk gJ hn hN hlm26 rfl ((by decide)))

set_option maxRecDepth 65536 in
set_option maxHeartbeats 40000000 in
theorem law_met (l : Launch) (Z : State) (a0 : Array Value) (hw : ∀ d ∈ tables_1, d.before a0 Z = true) (ws : List Jvm.Cond) (x0 : Int32) (x1 : Int32) (x2 : Int32) (x3 : Int64) (h0 : Heap) :
    MetFree l x (head1 (Jvm.Cond.code x code maxLocals ret :: ws) room_1) (fun a U => a = #[(.int x0), (.int x1), (.int x2), (.long x3)] ∧ Z.Warmed39 U.vm ∧ U.heap = h0) (fun _ _ _ _ _ => True) (fun _ U o U' => ∃ v L, o = .returned v ∧ (v = some (.int 1) ∧ Fr h0.size L) ∧ FrameEnd U o U' L room_1.cells room_1.slots) := by
  obtain ⟨H', ds, hrun, hc, hs⟩ := law_run x0 x1 x2 x3
  have q := mmMet (CT := CT) (n0 := h0.size) (h0 := h0) (y := x) (bytes := code) (maxL := 29) (ret := some .boolean) (rm := room_1) pl_0 hI_0 (CT_ok l Z a0 hw) (T_0 l Z a0 hw) ws hrun ⟨rfl, fun i o h => by simp at h⟩ (by rw [List.length_nil, Nat.zero_add]; exact hc) hs
  intro p e ha hc hk s m args below hf happ hP hK
  obtain ⟨n, o, h1, h2, h3, v, L, h4, ⟨h5, h6, -⟩, h7⟩ := q p e ha hc hk s m args below hf happ hP hK
  exact ⟨n, o, h1, h2, h3, v, L, h4, ⟨h5, h6⟩, h7⟩
set_option maxRecDepth 65536 in
set_option maxHeartbeats 40000000 in
theorem comes_1 {Post : Tables → Env → Array Value → State → Outcome → State → Prop} (hpost : ∀ tb e args s v u, (limb_1_1.after args s (.returned v) u = true ∧ limb_1_2.after args s (.returned v) u = true ∧ True) → FrameEnd s (.returned v) u (Jvm.fieldLocs frame_1_writes args s ++ Jvm.arrayLocs frame_1_arrays args s ++ Jvm.staticLocs frame_1_statics s) 56 896 → Post tb e args s (.returned v) u) :
    ArmFor flags0 classFile x code maxLocals ret World_1 tables_1 room_1 Calls_1 rest_1 Pre_1 Post := by
  intro l hfl _ _ p e ha hc hk s m args below hf hA hF happ hP
  obtain ⟨hcalls, hrest, hpre⟩ := hP
  obtain ⟨-, -, -, hnamed, -, -, -, hat⟩ := (Spec.applies_iff hf).mp happ
  obtain ⟨hg, hn⟩ := and_e (Cond.before_iff.mp (show (Jvm.Cond.and given_1 narrow_1).before args s = true from hpre))
  obtain ⟨c0, d0⟩ := and_e hg
  obtain ⟨c1, d1⟩ := and_e d0
  obtain ⟨c2, d2⟩ := and_e d1
  obtain ⟨c3, d3⟩ := and_e d2
  have c4 := d3
  obtain ⟨w0, w1, w2, w3, rfl⟩ : ∃ w0 w1 w2 w3 : Value, args = #[w0, w1, w2, w3] := by
    have hs : args.size = 4 := by simpa [Cond.value, given_1] using c0
    obtain ⟨L⟩ := args
    match L, hs with
    | [w0, w1, w2, w3], _ => exact ⟨w0, w1, w2, w3, rfl⟩
  have hw := fun d (hd : d ∈ tables_1) => atoms_spec (ws := Jvm.Cond.code x code maxLocals ret :: tables_1) hat d (List.mem_cons_of_mem _ hd)
  obtain ⟨x0, ei0⟩ := is_v c1
  obtain rfl : w0 = (.int x0) := Option.some.inj ei0
  obtain ⟨x1, ei1⟩ := is_v c2
  obtain rfl : w1 = (.int x1) := Option.some.inj ei1
  obtain ⟨x2, ei2⟩ := is_v c3
  obtain rfl : w2 = (.int x2) := Option.some.inj ei2
  obtain ⟨x3, ei3⟩ := isL_v c4
  obtain rfl : w3 = (.long x3) := Option.some.inj ei3
  obtain ⟨n, o, h1, h2, h3, _, L, rfl, ⟨rfl, N⟩, hq⟩ := law_met l s _ hw tables_1 x0 x1 x2 x3 s.heap p e ha hc hk s m _ below hf ((Spec.applies_iff_loose hf).mp happ).1 ⟨rfl, State.Warmed39.refl s, rfl⟩ trivial
  refine ⟨n, _, h1, h2, h3, hpost _ _ _ _ _ _ ⟨Cond.after_iff.mpr rfl, Cond.after_iff.mpr (eq_i res_at (Term.int_eval (1)) rfl), trivial⟩ ⟨hq.1, hq.2.1, (hq.2.2.sift fun y hy => Or.inr (N y hy)).mono (by decide) (by decide)⟩⟩
theorem main_1_1 : Claimed_1_1 := comes_1 fun _ _ _ _ _ _ h hF => ⟨h.1, hF⟩
theorem main_1_2 : Claimed_1_2 := comes_1 fun _ _ _ _ _ _ h hF => ⟨h.2.1, hF⟩
end Jvm.Pilot.@@N@@
namespace Jvm.Pilot.@@N@@
open Jvm Jvm.ClassFile Sem Op Lib Jvm.Free Jvm.Stand Jvm.Pilot.@@N@@.Jvm.D
/-! MADE BY PROGRAM (witnessworld.py) out of the Statement's table words and the real class files: 12 classes; the members and pool entries that the words name. The judged class is class 1, her method 1. -/
namespace start1
open Jvm.ClassFile
def u (s : String) : CpInfo := .utf8 (stringToUtf16 s)
/-- a pool by its gaps: so many unusable entries, then the entry; so many at the end -/
def gap : Nat → List CpInfo → List CpInfo
  | 0, r => r
  | n + 1, r => .unusable :: gap n r
def poolList (es : List (Nat × CpInfo)) (last : Nat) : List CpInfo := es.foldr (fun e r => gap e.1 (e.2 :: r)) (gap last [])
def pool (es : List (Nat × CpInfo)) (last : Nat) : Array CpInfo := ⟨poolList es last⟩
def fileOf (pool : Array CpInfo) (this : Nat) (attrs : Array Attribute := #[]) (ms : Array MethodInfo := #[]) (fl : Nat := 33) (sup : Nat := 0) (ifs : Array Nat := #[]) (fds : Array FieldInfo := #[]) : ClassFile where
  minorVersion := 0
  majorVersion := 65
  constantPool := pool
  accessFlags := fl
  thisClass := this
  superClass := sup
  interfaces := ifs
  fields := fds
  methods := ms
  attributes := attrs
def plain (name : String) (sup : Option ClassId) : Class where
  name := name
  kind := .ordinary
  loader := none
  accessFlags := 33
  super := sup
  interfaces := #[]
  cf := none
  fields := #[]
  methods := #[]
  instanceTypes := #[]
  staticTypes := #[]
  resolved := #[]
  callSites := []
  init := .initialized
  statics := none
  mirror := none

def pool0 : Array CpInfo := pool [(5, u "<init>"), (0, u "()V"), (1, .class_ 10), (1, u "java/lang/Object")] 113

def k0c0 : Code := { maxStack := 0, maxLocals := 1, code := object_method_1_code, exceptionTable := #[], attributes := #[] }
def k0m0 : Method := { name := "<init>", desc := "()V", sig := { parameters := [], returnType := none }, accessFlags := 1, code := some k0c0 }
/-- java/lang/Object -/
def k0 : Class := { plain "java/lang/Object" none with
  accessFlags := 33
  interfaces := #[]
  cf := some (fileOf pool0 8 #[] #[{ accessFlags := 1, nameIndex := 5, descriptorIndex := 6, attributes := #[] }] 33 0 #[] #[])
  fields := #[]
  methods := #[k0m0]
  instanceTypes := #[]
  staticTypes := #[]
  resolved := Array.replicate 124 none
  statics := none }

def pool1 : Array CpInfo := pool [(2, .class_ 4), (0, .nameAndType 5 6), (0, u "java/lang/Object"), (0, u "<init>"), (0, u "()V"), (0, .integer 65535), (2, .long 9223372036854775807), (1, .long 1000000000000000000), (1, .methodref 15 16), (0, .class_ 17), (0, .nameAndType 18 19), (0, u "com/example/sutac/sutac/csv/PlainDecimalReaderReadPinLaw"), (0, u "at"), (0, u "(IIIZIBIJ)B"), (0, .class_ 21), (0, u "com/example/sutac/sutac/csv/InputNumbers$PlainDecimalReader"), (0, .methodref 20 3), (0, .methodref 20 24), (0, .nameAndType 25 26), (0, u "read"), (0, u "([BII)I"), (0, .methodref 20 28), (0, .nameAndType 29 30), (0, u "digits"), (0, u "()J"), (0, .long 15), (1, .methodref 20 34), (0, .nameAndType 35 36), (0, u "decimals"), (0, u "()I"), (0, .methodref 38 39), (0, .class_ 40), (0, .nameAndType 41 42), (0, u "java/lang/Math"), (0, u "min"), (0, u "(II)I"), (0, .long 18446744073709551614), (1, .methodref 15 46), (0, .nameAndType 47 48), (0, u "pow10"), (0, u "(I)J"), (0, .methodref 15 50), (0, .nameAndType 51 52), (0, u "digit"), (0, u "(IJ)I"), (0, .long 10), (1, .long 100), (1, .long 1000), (1, .long 10000), (1, .long 100000), (1, .long 1000000), (1, .long 10000000), (1, .long 100000000), (1, .long 1000000000), (1, .long 10000000000), (1, .long 100000000000), (1, .long 1000000000000), (1, .long 10000000000000), (1, .long 100000000000000), (1, .long 1000000000000000), (1, .long 10000000000000000), (1, .long 100000000000000000), (3, u "law"), (0, u "(IIIJ)Z")] 9

def k1m0 : Method := { name := "<init>", desc := "()V", sig := { parameters := [], returnType := none }, accessFlags := 1, code := none }
def k1c1 : Code := { maxStack := 12, maxLocals := 29, code := code, exceptionTable := #[], attributes := #[] }
def k1m1 : Method := { name := "law", desc := "(IIIJ)Z", sig := { parameters := [.int, .int, .int, .long], returnType := some .boolean }, accessFlags := 9, code := some k1c1 }
def k1c2 : Code := { maxStack := 4, maxLocals := 11, code := method_3_code, exceptionTable := #[], attributes := #[] }
def k1m2 : Method := { name := "at", desc := "(IIIZIBIJ)B", sig := { parameters := [.int, .int, .int, .boolean, .int, .byte, .int, .long], returnType := some .byte }, accessFlags := 10, code := some k1c2 }
def k1c3 : Code := { maxStack := 4, maxLocals := 3, code := method_4_code, exceptionTable := #[], attributes := #[] }
def k1m3 : Method := { name := "digit", desc := "(IJ)I", sig := { parameters := [.int, .long], returnType := some .int }, accessFlags := 10, code := some k1c3 }
def k1c4 : Code := { maxStack := 5, maxLocals := 2, code := method_5_code, exceptionTable := #[], attributes := #[] }
def k1m4 : Method := { name := "pow10", desc := "(I)J", sig := { parameters := [.int], returnType := some .long }, accessFlags := 10, code := some k1c4 }
/-- com/example/sutac/sutac/csv/PlainDecimalReaderReadPinLaw -/
def k1 : Class := { plain "com/example/sutac/sutac/csv/PlainDecimalReaderReadPinLaw" (some 0) with
  accessFlags := 49
  interfaces := #[]
  cf := some (fileOf pool1 15 #[] #[{ accessFlags := 1, nameIndex := 5, descriptorIndex := 6, attributes := #[] }, { accessFlags := 9, nameIndex := 89, descriptorIndex := 90, attributes := #[] }, { accessFlags := 10, nameIndex := 18, descriptorIndex := 19, attributes := #[] }, { accessFlags := 10, nameIndex := 51, descriptorIndex := 52, attributes := #[] }, { accessFlags := 10, nameIndex := 47, descriptorIndex := 48, attributes := #[] }] 49 2 #[] #[])
  fields := #[]
  methods := #[k1m0, k1m1, k1m2, k1m3, k1m4]
  instanceTypes := #[]
  staticTypes := #[]
  resolved := Array.replicate 100 none
  statics := none }

def pool2 : Array CpInfo := pool [(1, .class_ 2), (0, u "com/example/sutac/sutac/csv/InputNumbers"), (0, .methodref 4 5), (0, .class_ 6), (0, .nameAndType 7 8), (0, u "java/lang/Object"), (0, u "<init>"), (0, u "()V"), (0, .long 10), (1, .long 18446744073709551614), (1, .fieldref 14 15), (0, .class_ 16), (0, .nameAndType 17 18), (0, u "com/example/sutac/sutac/csv/InputNumbers$PlainDecimalReader"), (0, u "digits"), (0, u "J"), (0, .fieldref 14 20), (0, .nameAndType 21 22), (0, u "decimals"), (0, u "I"), (2, u "read"), (0, u "([BII)I"), (3, u "()J"), (0, u "()I")] 5

def k2c0 : Code := { maxStack := 1, maxLocals := 1, code := prog_34_method_1_code, exceptionTable := #[], attributes := #[] }
def k2m0 : Method := { name := "<init>", desc := "()V", sig := { parameters := [], returnType := none }, accessFlags := 1, code := some k2c0 }
def k2c1 : Code := { maxStack := 4, maxLocals := 10, code := prog_34_method_2_code, exceptionTable := #[], attributes := #[] }
def k2m1 : Method := { name := "read", desc := "([BII)I", sig := { parameters := [(.array .byte), .int, .int], returnType := some .int }, accessFlags := 1, code := some k2c1 }
def k2c2 : Code := { maxStack := 2, maxLocals := 1, code := prog_34_method_3_code, exceptionTable := #[], attributes := #[] }
def k2m2 : Method := { name := "digits", desc := "()J", sig := { parameters := [], returnType := some .long }, accessFlags := 1, code := some k2c2 }
def k2c3 : Code := { maxStack := 1, maxLocals := 1, code := prog_34_method_4_code, exceptionTable := #[], attributes := #[] }
def k2m3 : Method := { name := "decimals", desc := "()I", sig := { parameters := [], returnType := some .int }, accessFlags := 1, code := some k2c3 }
/-- com/example/sutac/sutac/csv/InputNumbers$PlainDecimalReader -/
def k2 : Class := { plain "com/example/sutac/sutac/csv/InputNumbers$PlainDecimalReader" (some 0) with
  accessFlags := 49
  interfaces := #[]
  cf := some (fileOf pool2 14 #[.nestHost 1] #[{ accessFlags := 1, nameIndex := 7, descriptorIndex := 8, attributes := #[] }, { accessFlags := 1, nameIndex := 25, descriptorIndex := 26, attributes := #[] }, { accessFlags := 1, nameIndex := 17, descriptorIndex := 30, attributes := #[] }, { accessFlags := 1, nameIndex := 21, descriptorIndex := 31, attributes := #[] }] 49 4 #[] #[{ accessFlags := 2, nameIndex := 17, descriptorIndex := 18, attributes := #[] }, { accessFlags := 2, nameIndex := 21, descriptorIndex := 22, attributes := #[] }])
  fields := #[{ name := "digits", type := .long, accessFlags := 2, slot := 0, constantValue := 0 }, { name := "decimals", type := .int, accessFlags := 2, slot := 1, constantValue := 0 }]
  methods := #[k2m0, k2m1, k2m2, k2m3]
  instanceTypes := #[.long, .int]
  staticTypes := #[]
  resolved := Array.replicate 37 none
  statics := none }

def pool3 : Array CpInfo := pool [(1, .class_ 2), (0, u "java/lang/Math"), (1, .class_ 6), (1, u "java/lang/Object"), (0, u "<init>"), (0, u "()V"), (89, .class_ 100), (1, u "java/lang/Math$RandomNumberGeneratorHolder"), (71, u "negativeZeroFloatBits"), (0, u "J"), (2, u "negativeZeroDoubleBits"), (24, u "min"), (43, u "$assertionsDisabled"), (0, u "Z"), (88, u "(II)I"), (2, u "twoToTheDoubleScaleDown"), (0, u "D"), (4, u "twoToTheDoubleScaleUp"), (9, u "E"), (3, u "PI"), (2, u "TAU"), (2, u "DEGREES_TO_RADIANS"), (0, u "RADIANS_TO_DEGREES")] 94

def k3m0 : Method := { name := "<init>", desc := "()V", sig := { parameters := [], returnType := none }, accessFlags := 2, code := none }
def k3c1 : Code := { maxStack := 2, maxLocals := 2, code := jdk_29_method_69_code, exceptionTable := #[], attributes := #[] }
def k3m1 : Method := { name := "min", desc := "(II)I", sig := { parameters := [.int, .int], returnType := some .int }, accessFlags := 9, code := some k3c1 }
/-- java/lang/Math -/
def k3 : Class := { plain "java/lang/Math" (some 0) with
  accessFlags := 49
  interfaces := #[]
  cf := some (fileOf pool3 1 #[.nestMembers #[98]] #[{ accessFlags := 2, nameIndex := 7, descriptorIndex := 8, attributes := #[] }, { accessFlags := 9, nameIndex := 201, descriptorIndex := 335, attributes := #[] }] 49 4 #[] #[{ accessFlags := 25, nameIndex := 354, descriptorIndex := 339, attributes := #[] }, { accessFlags := 25, nameIndex := 358, descriptorIndex := 339, attributes := #[] }, { accessFlags := 25, nameIndex := 361, descriptorIndex := 339, attributes := #[] }, { accessFlags := 26, nameIndex := 364, descriptorIndex := 339, attributes := #[] }, { accessFlags := 26, nameIndex := 365, descriptorIndex := 339, attributes := #[] }, { accessFlags := 26, nameIndex := 172, descriptorIndex := 173, attributes := #[] }, { accessFlags := 26, nameIndex := 176, descriptorIndex := 173, attributes := #[] }, { accessFlags := 8, nameIndex := 344, descriptorIndex := 339, attributes := #[] }, { accessFlags := 8, nameIndex := 338, descriptorIndex := 339, attributes := #[] }, { accessFlags := 4120, nameIndex := 245, descriptorIndex := 246, attributes := #[] }])
  fields := #[{ name := "E", type := .double, accessFlags := 25, slot := 0, constantValue := 0 }, { name := "PI", type := .double, accessFlags := 25, slot := 1, constantValue := 0 }, { name := "TAU", type := .double, accessFlags := 25, slot := 2, constantValue := 0 }, { name := "DEGREES_TO_RADIANS", type := .double, accessFlags := 26, slot := 3, constantValue := 0 }, { name := "RADIANS_TO_DEGREES", type := .double, accessFlags := 26, slot := 4, constantValue := 0 }, { name := "negativeZeroFloatBits", type := .long, accessFlags := 26, slot := 5, constantValue := 0 }, { name := "negativeZeroDoubleBits", type := .long, accessFlags := 26, slot := 6, constantValue := 0 }, { name := "twoToTheDoubleScaleUp", type := .double, accessFlags := 8, slot := 7, constantValue := 0 }, { name := "twoToTheDoubleScaleDown", type := .double, accessFlags := 8, slot := 8, constantValue := 0 }, { name := "$assertionsDisabled", type := .boolean, accessFlags := 4120, slot := 9, constantValue := 0 }]
  methods := #[k3m0, k3m1]
  instanceTypes := #[]
  staticTypes := #[.double, .double, .double, .double, .double, .long, .long, .double, .double, .boolean]
  resolved := Array.replicate 460 none
  statics := none }

def pool4 : Array CpInfo := pool [(1, u "java/lang/Cloneable"), (0, .class_ 1), (0, u "java/lang/Object"), (0, .class_ 3)] 3

/-- java/lang/Cloneable -/
def k4 : Class := { plain "java/lang/Cloneable" (some 0) with
  accessFlags := 1537
  interfaces := #[]
  cf := some (fileOf pool4 2 #[] #[] 1537 4 #[] #[])
  fields := #[]
  methods := #[]
  instanceTypes := #[]
  staticTypes := #[]
  resolved := Array.replicate 8 none
  statics := none }

def pool5 : Array CpInfo := pool [(1, u "java/io/Serializable"), (0, .class_ 1), (0, u "java/lang/Object"), (0, .class_ 3)] 3

/-- java/io/Serializable -/
def k5 : Class := { plain "java/io/Serializable" (some 0) with
  accessFlags := 1537
  interfaces := #[]
  cf := some (fileOf pool5 2 #[] #[] 1537 4 #[] #[])
  fields := #[]
  methods := #[]
  instanceTypes := #[]
  staticTypes := #[]
  resolved := Array.replicate 8 none
  statics := none }

/-- the primitive byte -/
def k6 : Class := { plain "byte" none with kind := .primitive 'B', accessFlags := 0x411 }
/-- [B -/
def k7 : Class := { plain "[B" (some 0) with kind := .array 6 .byte, interfaces := #[4, 5], accessFlags := 1041 }

/-- the primitive int -/
def k8 : Class := { plain "int" none with kind := .primitive 'I', accessFlags := 0x411 }
/-- [I -/
def k9 : Class := { plain "[I" (some 0) with kind := .array 8 .int, interfaces := #[4, 5], accessFlags := 1041 }

/-- the primitive long -/
def k10 : Class := { plain "long" none with kind := .primitive 'J', accessFlags := 0x411 }
/-- [J -/
def k11 : Class := { plain "[J" (some 0) with kind := .array 10 .long, interfaces := #[4, 5], accessFlags := 1041 }

def heap : Heap := #[]
def classes : Array Class := #[k0, k1, k2, k3, k4, k5, k6, k7, k8, k9, k10, k11]
def interned : List (Array UInt16 × Addr) := []
def slotsUsed : Nat := 0
def theMethod : MethodId := ⟨1, 1⟩
def args0 : Array Value := #[.int 5, .int 5, .int 5, .long 5]
def aboutOver (below : List Frame) : State where
  vm := { classes := classes, interned := interned.toArray }
  heap := heap
  slotsUsed := slotsUsed
  threads := #[{ frames := .invoking theMethod args0 :: below }]
def below0 : List Frame := [.native { method := ⟨0, 0⟩, args := #[] }]
def about1 : State := aboutOver below0
def p0 : Program := .bare "" "" ""
def e0 : Env := launch0.env 0 0 0
theorem w_frames : about1.frames = Frame.invoking theMethod args0 :: below0 := rfl
set_option maxRecDepth 65536 in
theorem w_args : argsFit about1.vm theMethod args0 = true := by decide +kernel
set_option maxRecDepth 65536 in
theorem w_heap : heapFits about1 = true := by decide +kernel
set_option maxRecDepth 65536 in
theorem w_runnable : about1.curStatus? = some .runnable := by decide +kernel
set_option maxRecDepth 65536 in
theorem w_alone : about1.alone = true := by decide +kernel
set_option maxRecDepth 65536 in
theorem w_named : about1.methodNamed? x = some theMethod := by decide +kernel
set_option maxRecDepth 65536 in
theorem w_hears : about1.hears theMethod below0 = true := by decide +kernel
set_option maxRecDepth 65536 in
theorem w_ripe : about1.ripe theMethod args0 below0 = true := by decide +kernel
theorem w_running : about1.status = .running := rfl
set_option maxRecDepth 65536 in
theorem w_room : about1.hasRoom e0.platform room_1 = true :=
  launch0.hasRoom_least _ room_1 (by decide +kernel) (by decide +kernel) (by decide +kernel) (by decide +kernel) (by decide +kernel) (by decide +kernel)
theorem allAtoms_all (ts : List Jvm.Cond) (a : Array Jvm.Value) (st : Jvm.State) : (allAtoms ts).before a st = ts.all (fun c => c.before a st) := by
  induction ts with
  | nil => rfl
  | cons c t ih =>
    show (Jvm.Cond.and c (allAtoms t)).before a st = _
    rw [Jvm.Cond.before_and, ih, List.all_cons]
def words1 : List Jvm.Cond := Jvm.Cond.code x code maxLocals ret :: tables_1
/-- a 'code' word, met by the world's own term for the bytes: nothing is compared byte by byte -/
theorem code_word {y : MethodName} {bytes : ByteArray} {mx : Nat} {rt : Option FieldType} {a : Array Value} {s : State} {m : MethodId} {meth : Method} {c : Code} (h1 : s.methodNamed? y = some m) (h2 : s.vm.method? m = some meth) (h3 : meth.code = some c) (h4 : c.code = bytes)
    (h5 : (c.maxLocals == mx && c.exceptionTable.isEmpty && decide (c.maxStack ≤ mostOperands) && decide (meth.sig.returnType = rt) && !meth.locks && decide (parseMethodDescriptor y.desc = some meth.sig)) = true) : (Jvm.Cond.code y bytes mx rt).before a s = true := by
  simp only [Bool.and_eq_true, beq_iff_eq, Bool.not_eq_true', decide_eq_true_eq] at h5
  obtain ⟨⟨⟨⟨⟨g1, g2⟩, g3⟩, g4⟩, g5⟩, g6⟩ := h5
  simp [Cond.before, Cond.holds, Cond.value, h1, h2, h3, h4, g1, g2, g3, g4, g5, g6]
def isCode : Jvm.Cond → Bool
  | .code _ _ _ _ => true
  | _ => false
theorem all_split {L : List Jvm.Cond} {P : Jvm.Cond → Bool} (h1 : L.all (fun c => isCode c || P c) = true) (h2 : ∀ c ∈ L.filter isCode, P c = true) : L.all P = true := by
  refine List.all_eq_true.mpr fun c hc => ?_
  have h := List.all_eq_true.mp h1 c hc
  rcases Bool.eq_false_or_eq_true (isCode c) with hi | hi
  · exact h2 c (List.mem_filter.mpr ⟨hc, hi⟩)
  · simpa [hi] using h
set_option maxRecDepth 65536 in
theorem w_c0 : (Jvm.Cond.code x code maxLocals ret).before args0 about1 = true := code_word (m := ⟨1, 1⟩) (meth := k1m1) (c := k1c1) (by decide +kernel) rfl rfl rfl (by decide +kernel)
set_option maxRecDepth 65536 in
theorem w_c1 : (Jvm.Cond.code ({ cls := "com/example/sutac/sutac/csv/PlainDecimalReaderReadPinLaw", name := "at", desc := "(IIIZIBIJ)B" } : Jvm.MethodName) method_3_code (11 : Nat) (Option.some Jvm.ClassFile.FieldType.byte)).before args0 about1 = true := code_word (m := ⟨1, 2⟩) (meth := k1m2) (c := k1c2) (by decide +kernel) rfl rfl rfl (by decide +kernel)
set_option maxRecDepth 65536 in
theorem w_c2 : (Jvm.Cond.code ({ cls := "com/example/sutac/sutac/csv/InputNumbers$PlainDecimalReader", name := "<init>", desc := "()V" } : Jvm.MethodName) prog_34_method_1_code (1 : Nat) (Option.none : Option Jvm.ClassFile.FieldType)).before args0 about1 = true := code_word (m := ⟨2, 0⟩) (meth := k2m0) (c := k2c0) (by decide +kernel) rfl rfl rfl (by decide +kernel)
set_option maxRecDepth 65536 in
theorem w_c3 : (Jvm.Cond.code ({ cls := "java/lang/Object", name := "<init>", desc := "()V" } : Jvm.MethodName) object_method_1_code (1 : Nat) (Option.none : Option Jvm.ClassFile.FieldType)).before args0 about1 = true := code_word (m := ⟨0, 0⟩) (meth := k0m0) (c := k0c0) (by decide +kernel) rfl rfl rfl (by decide +kernel)
set_option maxRecDepth 65536 in
theorem w_c4 : (Jvm.Cond.code ({ cls := "com/example/sutac/sutac/csv/InputNumbers$PlainDecimalReader", name := "read", desc := "([BII)I" } : Jvm.MethodName) prog_34_method_2_code (10 : Nat) (Option.some Jvm.ClassFile.FieldType.int)).before args0 about1 = true := code_word (m := ⟨2, 1⟩) (meth := k2m1) (c := k2c1) (by decide +kernel) rfl rfl rfl (by decide +kernel)
set_option maxRecDepth 65536 in
theorem w_c5 : (Jvm.Cond.code ({ cls := "com/example/sutac/sutac/csv/InputNumbers$PlainDecimalReader", name := "digits", desc := "()J" } : Jvm.MethodName) prog_34_method_3_code (1 : Nat) (Option.some Jvm.ClassFile.FieldType.long)).before args0 about1 = true := code_word (m := ⟨2, 2⟩) (meth := k2m2) (c := k2c2) (by decide +kernel) rfl rfl rfl (by decide +kernel)
set_option maxRecDepth 65536 in
theorem w_c6 : (Jvm.Cond.code ({ cls := "com/example/sutac/sutac/csv/InputNumbers$PlainDecimalReader", name := "decimals", desc := "()I" } : Jvm.MethodName) prog_34_method_4_code (1 : Nat) (Option.some Jvm.ClassFile.FieldType.int)).before args0 about1 = true := code_word (m := ⟨2, 3⟩) (meth := k2m3) (c := k2c3) (by decide +kernel) rfl rfl rfl (by decide +kernel)
set_option maxRecDepth 65536 in
theorem w_c7 : (Jvm.Cond.code ({ cls := "java/lang/Math", name := "min", desc := "(II)I" } : Jvm.MethodName) jdk_29_method_69_code (2 : Nat) (Option.some Jvm.ClassFile.FieldType.int)).before args0 about1 = true := code_word (m := ⟨3, 1⟩) (meth := k3m1) (c := k3c1) (by decide +kernel) rfl rfl rfl (by decide +kernel)
set_option maxRecDepth 65536 in
theorem w_c8 : (Jvm.Cond.code ({ cls := "com/example/sutac/sutac/csv/PlainDecimalReaderReadPinLaw", name := "digit", desc := "(IJ)I" } : Jvm.MethodName) method_4_code (3 : Nat) (Option.some Jvm.ClassFile.FieldType.int)).before args0 about1 = true := code_word (m := ⟨1, 3⟩) (meth := k1m3) (c := k1c3) (by decide +kernel) rfl rfl rfl (by decide +kernel)
set_option maxRecDepth 65536 in
theorem w_c9 : (Jvm.Cond.code ({ cls := "com/example/sutac/sutac/csv/PlainDecimalReaderReadPinLaw", name := "pow10", desc := "(I)J" } : Jvm.MethodName) method_5_code (2 : Nat) (Option.some Jvm.ClassFile.FieldType.long)).before args0 about1 = true := code_word (m := ⟨1, 4⟩) (meth := k1m4) (c := k1c4) (by decide +kernel) rfl rfl rfl (by decide +kernel)
def codes1 : List Jvm.Cond := [Jvm.Cond.code x code maxLocals ret, Jvm.Cond.code ({ cls := "com/example/sutac/sutac/csv/PlainDecimalReaderReadPinLaw", name := "at", desc := "(IIIZIBIJ)B" } : Jvm.MethodName) method_3_code (11 : Nat) (Option.some Jvm.ClassFile.FieldType.byte), Jvm.Cond.code ({ cls := "com/example/sutac/sutac/csv/InputNumbers$PlainDecimalReader", name := "<init>", desc := "()V" } : Jvm.MethodName) prog_34_method_1_code (1 : Nat) (Option.none : Option Jvm.ClassFile.FieldType), Jvm.Cond.code ({ cls := "java/lang/Object", name := "<init>", desc := "()V" } : Jvm.MethodName) object_method_1_code (1 : Nat) (Option.none : Option Jvm.ClassFile.FieldType), Jvm.Cond.code ({ cls := "com/example/sutac/sutac/csv/InputNumbers$PlainDecimalReader", name := "read", desc := "([BII)I" } : Jvm.MethodName) prog_34_method_2_code (10 : Nat) (Option.some Jvm.ClassFile.FieldType.int), Jvm.Cond.code ({ cls := "com/example/sutac/sutac/csv/InputNumbers$PlainDecimalReader", name := "digits", desc := "()J" } : Jvm.MethodName) prog_34_method_3_code (1 : Nat) (Option.some Jvm.ClassFile.FieldType.long), Jvm.Cond.code ({ cls := "com/example/sutac/sutac/csv/InputNumbers$PlainDecimalReader", name := "decimals", desc := "()I" } : Jvm.MethodName) prog_34_method_4_code (1 : Nat) (Option.some Jvm.ClassFile.FieldType.int), Jvm.Cond.code ({ cls := "java/lang/Math", name := "min", desc := "(II)I" } : Jvm.MethodName) jdk_29_method_69_code (2 : Nat) (Option.some Jvm.ClassFile.FieldType.int), Jvm.Cond.code ({ cls := "com/example/sutac/sutac/csv/PlainDecimalReaderReadPinLaw", name := "digit", desc := "(IJ)I" } : Jvm.MethodName) method_4_code (3 : Nat) (Option.some Jvm.ClassFile.FieldType.int), Jvm.Cond.code ({ cls := "com/example/sutac/sutac/csv/PlainDecimalReaderReadPinLaw", name := "pow10", desc := "(I)J" } : Jvm.MethodName) method_5_code (2 : Nat) (Option.some Jvm.ClassFile.FieldType.long)]
set_option maxRecDepth 65536 in
theorem codes_eq : words1.filter isCode = codes1 := rfl
theorem w_codes : ∀ c ∈ words1.filter isCode, c.before args0 about1 = true := by
  rw [codes_eq]
  intro c hc
  simp only [codes1, List.mem_cons, List.not_mem_nil, or_false] at hc
  rcases hc with rfl | rfl | rfl | rfl | rfl | rfl | rfl | rfl | rfl | rfl
  · exact w_c0
  · exact w_c1
  · exact w_c2
  · exact w_c3
  · exact w_c4
  · exact w_c5
  · exact w_c6
  · exact w_c7
  · exact w_c8
  · exact w_c9
set_option maxRecDepth 65536 in
theorem w_t1 : (words1.take 24).all (fun c => isCode c || c.before args0 about1) = true := by decide +kernel
set_option maxRecDepth 65536 in
theorem w_t2 : ((words1.drop 24).take 24).all (fun c => isCode c || c.before args0 about1) = true := by decide +kernel
set_option maxRecDepth 65536 in
theorem w_t3 : ((words1.drop 24).drop 24).all (fun c => isCode c || c.before args0 about1) = true := by decide +kernel
theorem w_tables : (allAtoms (Jvm.Cond.code x code maxLocals ret :: tables_1)).before args0 about1 = true := by
  rw [allAtoms_all]
  show words1.all (fun c => c.before args0 about1) = true
  refine all_split ?_ w_codes
  rw [← List.take_append_drop 24 words1, List.all_append, w_t1, ← List.take_append_drop 24 (words1.drop 24), List.all_append, w_t2, w_t3]
  rfl
set_option maxRecDepth 65536 in
theorem w_case : (Jvm.Cond.and given_1 narrow_1).before args0 about1 = true := by decide +kernel
theorem w_applies : (headSpec (Jvm.Cond.code x code maxLocals ret :: tables_1) room_1).applies x e0.platform about1 = true :=
  (Spec.applies_iff w_frames).mpr ⟨w_running, w_runnable, w_alone, w_named, w_hears, w_ripe, w_room, w_tables⟩
theorem atStart : AtStart classFile x code maxLocals ret World_1 tables_1 room_1 Calls_1 rest_1 Pre_1 launch0 p0 e0 about1 theMethod args0 below0 :=
  ⟨lists_1, trivial, launch0.admits_env _ _ _, launch0.least_env, fairChoices_fair.cas, fairChoices_fair.clock, w_frames, w_args, w_heap, w_applies, trivial, trivial, w_case⟩
end start1
theorem witness_1 : WitnessClaimed_1 := ⟨start1.p0, start1.e0, start1.about1, start1.theMethod, start1.args0, start1.below0, start1.atStart⟩
end Jvm.Pilot.@@N@@
