import JvmDerived
import JvmDerived.Pilot.@@N@@Statement
import JvmDerived.Pilot.@@N@@Code
set_option linter.unusedVariables false
set_option linter.unusedSimpArgs false
namespace Jvm.Pilot.@@N@@
open Jvm Jvm.ClassFile Sem Op Lib Jvm.Free Jvm.Stand Jvm.LawKit Jvm.RoadKit Bundle Jvm.Pilot.@@N@@.Jvm.D
/-! ## A LITTLE MACHINE: the walk of a law as a function. Its cells are the new ones alone; a reference is a cell's place among them. -/
abbrev OCell := (Nat ⊕ FieldType) × List Value
abbrev OHeap := List OCell
abbrev OFld := String × String × String × FieldType
abbrev OKls := String × Nat × List OFld
abbrev OEnt := Nat × Nat × Nat × Int
abbrev ORow := Nat × Instr × Nat
abbrev OMth := MethodName × ByteArray × Nat × Option FieldType × Nat × List (List ORow) × List (Nat × OEnt)
abbrev OPrg := List OMth × List OKls × List FieldType
abbrev OMth.nm (q : OMth) : MethodName := q.1
abbrev OMth.bs (q : OMth) : ByteArray := q.2.1
abbrev OMth.ml (q : OMth) : Nat := q.2.2.1
abbrev OMth.rt (q : OMth) : Option FieldType := q.2.2.2.1
abbrev OMth.na (q : OMth) : Nat := q.2.2.2.2.1
abbrev OMth.cd (q : OMth) : List (List ORow) := q.2.2.2.2.2.1
abbrev OMth.en (q : OMth) : List (Nat × OEnt) := q.2.2.2.2.2.2
def own_sh (n : Nat) : Value → Value
  | .ref a => .ref (n + a)
  | v => v
def own_shS (n : Nat) : Slot → Slot
  | .val v => .val (own_sh n v)
  | s => s
abbrev own_fr (n : Nat) (m : MethodId) (pc : Nat) (L : List Slot) (S : List Value) : JFrame := mkF m pc (L.map (own_shS n)).toArray (S.map (own_sh n))
def own_wt (S : List Value) : Nat := (S.map fun v => v.category).sum
/-! ### the locals -/
def own_set (L : List Slot) (i : Nat) (x : Slot) : Option (List Slot) := if i < L.length then some (L.set i x) else none
def own_self (L : List Slot) (i : Nat) (v : Value) : Option (List Slot) :=
  match own_set L i (.val v) with
  | none => none
  | some M => if v.category = 2 then (match M[i + 1]? with
      | none => none
      | some (.val o) => if o.category = 2 then (match own_set M (i + 2) .unset with
          | none => none
          | some N => own_set N (i + 1) .second) else own_set M (i + 1) .second
      | some _ => own_set M (i + 1) .second) else some M
def own_sto (L : List Slot) (i : Nat) (v : Value) : Option (List Slot) :=
  match L[i]? with
  | none => none
  | some .second => (match own_set L (i - 1) .unset with
      | none => none
      | some M => own_self M i v)
  | some (.val o) => if o.category = 2 then (match own_set L (i + 1) .unset with
      | none => none
      | some M => own_self M i v) else own_self L i v
  | some .unset => own_self L i v
def own_entry (as : List Value) (ml : Nat) : List Slot :=
  let f := as.flatMap fun v => if v.category = 2 then [Slot.val v, .second] else [Slot.val v]
  f ++ List.replicate (ml - f.length) .unset
/-! ### steps that read and write the frame alone -/
def own_ilen : Instr → Nat
  | .aload _ | .astore _ | .iload _ | .istore _ | .lload _ | .lstore _ | .bipush _ | .ldc _ | .newarray _ => 2
  | .sipush _ | .goto _ | .ifCond _ _ | .if_icmp _ _ | .if_acmp _ _ | .ifnull _ | .ifnonnull _ | .iinc _ _ | .getfield _ | .putfield _ | .getstatic _ | .new _ | .invokestatic _ | .invokespecial _ | .invokevirtual _ | .ldc_w _ | .ldc2_w _ | .checkcast _ => 3
  | _ => 1
abbrev OFr := Nat × List Slot × List Value
def own_ldI (k t : Nat) (L : List Slot) (S : List Value) : Option OFr := match L[k]? with | some (.val (.int v)) => some (t, L, .int v :: S) | _ => none
def own_ldJ (k t : Nat) (L : List Slot) (S : List Value) : Option OFr := match L[k]? with | some (.val (.long v)) => some (t, L, .long v :: S) | _ => none
def own_ldA (k t : Nat) (L : List Slot) (S : List Value) : Option OFr := match L[k]? with | some (.val (.ref v)) => some (t, L, .ref v :: S) | some (.val .null) => some (t, L, .null :: S) | _ => none
def own_stI (k t : Nat) (L : List Slot) (S : List Value) : Option OFr := match S with | .int x :: r => (match own_sto L k (.int x) with | some M => some (t, M, r) | none => none) | _ => none
def own_stJ (k t : Nat) (L : List Slot) (S : List Value) : Option OFr := match S with | .long x :: r => (match own_sto L k (.long x) with | some M => some (t, M, r) | none => none) | _ => none
def own_stA (k t : Nat) (L : List Slot) (S : List Value) : Option OFr := match S with | .ref x :: r => (match own_sto L k (.ref x) with | some M => some (t, M, r) | none => none) | .null :: r => (match own_sto L k .null with | some M => some (t, M, r) | none => none) | _ => none
def own_b32 (f : Int32 → Int32 → Int32) (t : Nat) (L : List Slot) (S : List Value) : Option OFr := match S with | .int y :: .int x :: r => some (t, L, .int (f x y) :: r) | _ => none
def own_d32 (f : Int32 → Int32 → Int32) (t : Nat) (L : List Slot) (S : List Value) : Option OFr := match S with | .int y :: .int x :: r => (if y = 0 then none else some (t, L, .int (f x y) :: r)) | _ => none
def own_u32 (f : Int32 → Value) (t : Nat) (L : List Slot) (S : List Value) : Option OFr := match S with | .int x :: r => some (t, L, f x :: r) | _ => none
def own_b64 (f : Int64 → Int64 → Value) (t : Nat) (L : List Slot) (S : List Value) : Option OFr := match S with | .long y :: .long x :: r => some (t, L, f x y :: r) | _ => none
def own_d64 (f : Int64 → Int64 → Int64) (t : Nat) (L : List Slot) (S : List Value) : Option OFr := match S with | .long y :: .long x :: r => (if y = 0 then none else some (t, L, .long (f x y) :: r)) | _ => none
def own_s64 (f : Int64 → Int32 → Int64) (t : Nat) (L : List Slot) (S : List Value) : Option OFr := match S with | .int y :: .long x :: r => some (t, L, .long (f x y) :: r) | _ => none
def own_u64 (f : Int64 → Value) (t : Nat) (L : List Slot) (S : List Value) : Option OFr := match S with | .long x :: r => some (t, L, f x :: r) | _ => none
def own_br (b : Bool) (t pc : Nat) (L : List Slot) (S : List Value) : Option OFr := match b with | true => some (t, L, S) | false => some (pc + 3, L, S)
def own_jmp (pc : Nat) (o : Int) : Option Nat := if 0 ≤ (pc : Int) + o then some ((pc : Int) + o).toNat else none
def own_pure (i : Instr) (t pc : Nat) (L : List Slot) (S : List Value) : Option OFr :=
  match i with
  | .iload k => own_ldI k t L S
  | .iload_n k => own_ldI k.val t L S
  | .lload k => own_ldJ k t L S
  | .lload_n k => own_ldJ k.val t L S
  | .aload k => own_ldA k t L S
  | .aload_n k => own_ldA k.val t L S
  | .istore k => own_stI k t L S
  | .istore_n k => own_stI k.val t L S
  | .lstore k => own_stJ k t L S
  | .lstore_n k => own_stJ k.val t L S
  | .astore k => own_stA k t L S
  | .astore_n k => own_stA k.val t L S
  | .iconst z => some (t, L, .int (Int32.ofInt z) :: S)
  | .bipush z => some (t, L, .int (Int8.ofInt z).toInt32 :: S)
  | .sipush z => some (t, L, .int (Int16.ofInt z).toInt32 :: S)
  | .lconst k => some (t, L, .long (Int64.ofNat k) :: S)
  | .aconst_null => some (t, L, .null :: S)
  | .iadd => own_b32 (fun x y => x + y) t L S
  | .isub => own_b32 (fun x y => x - y) t L S
  | .imul => own_b32 (fun x y => x * y) t L S
  | .iand => own_b32 (fun x y => x &&& y) t L S
  | .ior => own_b32 (fun x y => x ||| y) t L S
  | .ixor => own_b32 (fun x y => x ^^^ y) t L S
  | .ishl => own_b32 (fun x y => x <<< (y &&& 31)) t L S
  | .ishr => own_b32 (fun x y => x >>> (y &&& 31)) t L S
  | .iushr => own_b32 (fun x y => (x.toUInt32 >>> (y &&& 31).toUInt32).toInt32) t L S
  | .idiv => own_d32 (fun x y => x / y) t L S
  | .irem => own_d32 (fun x y => x % y) t L S
  | .ineg => own_u32 (fun x => .int (-x)) t L S
  | .i2l => own_u32 (fun x => .long x.toInt64) t L S
  | .i2b => own_u32 (fun x => .int x.toInt8.toInt32) t L S
  | .i2c => own_u32 (fun x => .int x.toUInt32.toUInt16.toUInt32.toInt32) t L S
  | .i2s => own_u32 (fun x => .int x.toInt16.toInt32) t L S
  | .ladd => own_b64 (fun x y => .long (x + y)) t L S
  | .lsub => own_b64 (fun x y => .long (x - y)) t L S
  | .lmul => own_b64 (fun x y => .long (x * y)) t L S
  | .land => own_b64 (fun x y => .long (x &&& y)) t L S
  | .lor => own_b64 (fun x y => .long (x ||| y)) t L S
  | .lxor => own_b64 (fun x y => .long (x ^^^ y)) t L S
  | .lcmp => own_b64 (fun x y => .int (lcmpW x y)) t L S
  | .ldiv => own_d64 (fun x y => x / y) t L S
  | .lrem => own_d64 (fun x y => x - (x / y) * y) t L S
  | .lshl => own_s64 (fun x y => x <<< (y &&& 0x3f).toInt64) t L S
  | .lshr => own_s64 (fun x y => x >>> (y &&& 0x3f).toInt64) t L S
  | .lushr => own_s64 (fun x y => (x.toUInt64 >>> (y &&& 0x3f).toInt64.toUInt64).toInt64) t L S
  | .lneg => own_u64 (fun x => .long (-x)) t L S
  | .l2i => own_u64 (fun x => .int x.toInt32) t L S
  | .iinc k c => (match L[k]? with | some (.val (.int x)) => (match own_sto L k (.int (x + Int32.ofInt c)) with | some M => some (t, M, S) | none => none) | _ => none)
  | .dup => (match S with | v :: r => (if v.category = 1 then some (t, L, v :: v :: r) else none) | _ => none)
  | .pop => (match S with | v :: r => (if v.category = 1 then some (t, L, r) else none) | _ => none)
  | .dup_x1 => (match S with | v :: w :: r => (if v.category = 1 ∧ w.category = 1 then some (t, L, v :: w :: v :: r) else none) | _ => none)
  | .dup_x2 => (match S with | v :: w :: u :: r => (if v.category = 1 ∧ w.category = 1 ∧ u.category = 1 then some (t, L, v :: w :: u :: v :: r) else none) | _ => none)
  | .dup2 => (match S with | .long v :: r => some (t, L, .long v :: .long v :: r) | v :: w :: r => (if v.category = 1 ∧ w.category = 1 then some (t, L, v :: w :: v :: w :: r) else none) | _ => none)
  | .goto _ => some (t, L, S)
  | .ifCond cd _ => (match S with | .int x :: r => own_br (ifCond.holds cd x) t pc L r | _ => none)
  | .if_icmp cd _ => (match S with | .int y :: .int x :: r => own_br (if_icmp.holds cd x y) t pc L r | _ => none)
  | .ifnull _ => (match S with | .null :: r => some (t, L, r) | .ref _ :: r => some (pc + 3, L, r) | _ => none)
  | .ifnonnull _ => (match S with | .null :: r => some (pc + 3, L, r) | .ref _ :: r => some (t, L, r) | _ => none)
  | .lookupswitch df ps => (match S with | .int x :: r => (match own_jmp pc (lookupswitch.offset ps.toList df x.toInt) with | some q => some (q, L, r) | none => none) | _ => none)
  | _ => none
/-! ### rows and entries -/
def own_row : List ORow → Nat → Option (Instr × Nat)
  | [], _ => none
  | (k, i, t) :: r, pc => if k = pc then some (i, t) else own_row r pc
def own_at (q : OMth) (pc : Nat) : Option (Instr × Nat) := match q.cd[pc / 16]? with | some r => own_row r pc | none => none
def own_ent : List (Nat × OEnt) → Nat → Option OEnt
  | [], _ => none
  | (k, e) :: r, i => if k = i then some e else own_ent r i
/-! ### steps that read or write the heap -/
abbrev OSt := Nat × List Slot × List Value × OHeap
def own_nar (ty : FieldType) (v : Value) : Option Value :=
  match ty, v with
  | .int, .int x => some (.int x)
  | .long, .long x => some (.long x)
  | .boolean, .int x => some (.int (x &&& 1))
  | .byte, .int x => some (.int x.toInt8.toInt32)
  | .char, .int x => some (.int x.toUInt32.toUInt16.toUInt32.toInt32)
  | .short, .int x => some (.int x.toInt16.toInt32)
  | .object _, .ref a => some (.ref a)
  | .object _, .null => some .null
  | .array _, .ref a => some (.ref a)
  | .array _, .null => some .null
  | _, _ => none
def own_prim : FieldType → Bool
  | .object _ | .array _ | .float | .double => false
  | _ => true
def own_ix (j : Int32) : Option Nat := if j < 0 then none else some j.toNatClampNeg
def own_arr (H : OHeap) (a : Nat) (ty : FieldType) : Option (List Value) := match H[a]? with | some (.inr ty', vs) => (if ty' = ty then some vs else none) | _ => none
def own_obj (H : OHeap) (a k : Nat) : Option (List Value) := match H[a]? with | some (.inl k', vs) => (if k' = k then some vs else none) | _ => none
def own_ald (ty : FieldType) (t : Nat) (L : List Slot) (S : List Value) (H : OHeap) : Option OSt :=
  match S with
  | .int j :: .ref a :: r => (match own_arr H a ty with
    | some vs => (match own_ix j with
      | some q => (match vs[q]? with
        | some v => some (t, L, v :: r, H)
        | none => none)
      | none => none)
    | none => none)
  | _ => none
def own_ast (ty : FieldType) (t : Nat) (L : List Slot) (S : List Value) (H : OHeap) : Option OSt :=
  match S with
  | v :: .int j :: .ref a :: r => (match own_arr H a ty with
    | some vs => (match own_ix j with
      | some q => (if q < vs.length then (match own_nar ty v with
        | some w => some (t, L, r, H.set a (.inr ty, vs.set q w))
        | none => none) else none)
      | none => none)
    | none => none)
  | _ => none
def own_heap (P : OPrg) (mt : OMth) (d lo : Nat) (i : Instr) (t : Nat) (L : List Slot) (S : List Value) (H : OHeap) : Option OSt :=
  match i with
  | .getfield x => (match own_ent mt.en x with
    | some (6, k, j, _) => (match S with
      | .ref a :: r => (match own_obj H a k with
        | some vs => (match vs[j]? with
          | some v => some (t, L, v :: r, H)
          | none => none)
        | none => none)
      | _ => none)
    | _ => none)
  | .putfield x => (match own_ent mt.en x with
    | some (6, k, j, 1) => (match S with
      | v :: .ref a :: r => (match own_obj H a k with
        | some vs => (match P.2.1[k]? with
          | some c => (match c.2.2[j]? with
            | some f => (match own_nar f.2.2.2 v with
              | some w => some (t, L, r, H.set a (.inl k, vs.set j w))
              | none => none)
            | none => none)
          | none => none)
        | none => none)
      | _ => none)
    | _ => none)
  | .new x => (match own_ent mt.en x with
    | some (7, k, _, _) => (match P.2.1[k]? with
      | some c => some (t, L, .ref H.length :: S, H ++ [(.inl k, c.2.2.map fun f => defaultValue f.2.2.2)])
      | none => none)
    | _ => none)
  | .newarray ty => (match S with
    | .int n :: r => (match own_ix n with
      | some q => (if newarray.typeOf ty ∈ P.2.2 ∧ q * 8 ≤ 536870912 then some (t, L, .ref H.length :: r, H ++ [(.inr (newarray.typeOf ty), List.replicate q (defaultValue (newarray.typeOf ty)))]) else none)
      | none => none)
    | _ => none)
  | .arraylength => (match S with
    | .ref a :: r => (match H[a]? with
      | some (.inr _, vs) => some (t, L, .int vs.length.toInt32 :: r, H)
      | _ => none)
    | _ => none)
  | .iaload => own_ald .int t L S H
  | .laload => own_ald .long t L S H
  | .caload => own_ald .char t L S H
  | .baload => own_ald .byte t L S H
  | .iastore => own_ast .int t L S H
  | .lastore => own_ast .long t L S H
  | .castore => own_ast .char t L S H
  | .bastore => own_ast .byte t L S H
  | .ldc x => (match own_ent mt.en x with
    | some (8, _, _, v) => some (t, L, .int (Int32.ofInt v) :: S, H)
    | _ => none)
  | .ldc_w x => (match own_ent mt.en x with
    | some (8, _, _, v) => some (t, L, .int (Int32.ofInt v) :: S, H)
    | _ => none)
  | .ldc2_w x => (match own_ent mt.en x with
    | some (9, _, _, v) => some (t, L, .long (Int64.ofInt v) :: S, H)
    | _ => none)
  | .checkcast x => (match own_ent mt.en x with
    | some (12, _, _, _) => (match S with
      | .ref a :: r => (match own_arr H a .int with
        | some _ => some (t, L, .ref a :: r, H)
        | none => none)
      | _ => none)
    | _ => none)
  | .invokespecial x => (match own_ent mt.en x with
    | some (2, _, _, _) => (match S with
      | .ref _ :: r => (if 1 ≤ d ∧ own_wt r + 12 ≤ lo then some (t, L, r, H) else none)
      | _ => none)
    | _ => none)
  | .invokestatic x => (match own_ent mt.en x with
    | some (10, _, _, _) => (match S with
      | .int nn :: .int dp :: .ref b :: .int sp :: .ref a :: r => (match own_arr H a .int with
        | some vs => (match own_arr H b .int with
          | some vd => (match own_ix nn with
            | some n => (match own_ix dp with
              | some q => (match own_ix sp with
                | some p => (if (1 ≤ d ∧ own_wt r + (nativeFrameWords "java/lang/System" "arraycopy" 5 + 11) ≤ lo) ∧ p + n ≤ vs.length ∧ q + n ≤ vd.length then
                    some (t, L, r, H.set b (.inr .int, vd.take q ++ (vs.drop p).take n ++ vd.drop (q + n))) else none)
                | none => none)
              | none => none)
            | none => none)
          | none => none)
        | none => none)
      | _ => none)
    | _ => none)
  | .invokevirtual x => (match own_ent mt.en x with
    | some (11, _, _, _) => (match S with
      | .ref a :: r => (match own_arr H a .int with
        | some vs => (if 1 ≤ d ∧ own_wt r + 14 ≤ lo then some (t, L, .ref H.length :: r, H ++ [(.inr .int, vs)]) else none)
        | none => none)
      | _ => none)
    | _ => none)
  | _ => none
def own_step (P : OPrg) (mt : OMth) (d lo : Nat) (i : Instr) (t pc : Nat) (L : List Slot) (S : List Value) (H : OHeap) : Option OSt :=
  match own_pure i t pc L S with
  | some (pc', L', S') => some (pc', L', S', H)
  | none => own_heap P mt d lo i t L S H
/-! ### returns, calls, the run -/
def own_ret (mt : OMth) (i : Instr) (S : List Value) : Option (Option Value) :=
  match i with
  | .return_ => (match mt.rt, S with
    | none, [] => some none
    | _, _ => none)
  | .ireturn => (match mt.rt, S with
    | some .int, .int z :: _ => some (some (.int z))
    | some .boolean, .int z :: _ => some (some (.int (z &&& 1)))
    | some .byte, .int z :: _ => some (some (.int z.toInt8.toInt32))
    | some .char, .int z :: _ => some (some (.int z.toUInt32.toUInt16.toUInt32.toInt32))
    | some .short, .int z :: _ => some (some (.int z.toInt16.toInt32))
    | _, _ => none)
  | .lreturn => (match mt.rt, S with
    | some .long, .long z :: _ => some (some (.long z))
    | _, _ => none)
  | .areturn => (match mt.rt, S with
    | some (.array _), .ref a :: _ => some (some (.ref a))
    | some (.array _), .null :: _ => some (some .null)
    | some (.object _), .ref a :: _ => some (some (.ref a))
    | some (.object _), .null :: _ => some (some .null)
    | _, _ => none)
  | _ => none
def own_split : Nat → List Value → List Value → Option (List Value × List Value)
  | 0, S, acc => some (acc, S)
  | n + 1, v :: S, acc => own_split n S (v :: acc)
  | _ + 1, [], _ => none
/-- the callee's number, its arguments in order, what lies under them -/
def own_call (P : OPrg) (mt : OMth) (i : Instr) (S : List Value) (H : OHeap) : Option (Nat × List Value × List Value) :=
  match i with
  | .invokestatic x => (match own_ent mt.en x with
    | some (0, j, _, _) => (match P.1[j]? with
      | some mj => (match own_split mj.na S [] with
        | some (as, r) => some (j, as, r)
        | none => none)
      | none => none)
    | _ => none)
  | .invokespecial x => (match own_ent mt.en x with
    | some (1, j, _, _) => (match P.1[j]? with
      | some mj => (match own_split mj.na S [] with
        | some (.ref a :: as, r) => some (j, .ref a :: as, r)
        | _ => none)
      | none => none)
    | some (5, j, k, _) => (match P.1[j]? with
      | some mj => (match own_split mj.na S [] with
        | some (.ref a :: as, r) => (match own_obj H a k with
          | some _ => some (j, .ref a :: as, r)
          | none => none)
        | _ => none)
      | none => none)
    | _ => none)
  | .invokevirtual x => (match own_ent mt.en x with
    | some (3, j, k, _) => (match P.1[j]? with
      | some mj => (match own_split mj.na S [] with
        | some (.ref a :: as, r) => (match own_obj H a k with
          | some _ => some (j, .ref a :: as, r)
          | none => none)
        | _ => none)
      | none => none)
    | some (4, j, k, _) => (match P.1[j]? with
      | some mj => (match own_split mj.na S [] with
        | some (.ref a :: as, r) => (match own_obj H a k with
          | some _ => some (j, .ref a :: as, r)
          | none => none)
        | _ => none)
      | none => none)
    | some (13, j, k, _) => (match P.1[j]? with
      | some mj => (match own_split mj.na S [] with
        | some (.ref a :: as, r) => (match own_obj H a k with
          | some _ => some (j, .ref a :: as, r)
          | none => none)
        | _ => none)
      | none => none)
    | _ => none)
  | _ => none
def own_exec (P : OPrg) : Nat → Nat → Nat → Nat → Nat → List Slot → List Value → OHeap → Option (Option Value × OHeap)
  | 0, _, _, _, _, _, _, _ => none
  | q + 1, i, d, lo, pc, L, S, H =>
    match P.1[i]? with
    | none => none
    | some mt =>
      match own_at mt pc with
      | none => none
      | some (ins, t) =>
        match own_ret mt ins S with
        | some v => some (v, H)
        | none =>
          match own_call P mt ins S H with
          | some (j, as, r) =>
            (match P.1[j]? with
            | none => none
            | some mj =>
              if 1 ≤ d ∧ own_wt r + (mj.ml + 11) ≤ lo ∧ (own_entry as mj.ml).length = mj.ml then
                (match own_exec P q j (d - 1) (lo - (own_wt r + (mj.ml + 11))) 0 (own_entry as mj.ml) [] H with
                | some (v, H') => own_exec P q i d lo t L (v.toList ++ r) H'
                | none => none)
              else none)
          | none =>
            match own_step P mt d lo ins t pc L S H with
            | some (pc', L', S', H') => own_exec P q i d lo pc' L' S' H'
            | none => none
/-! ## WHAT THE LITTLE MACHINE's RUN SAYS OF THE MODEL's -/
theorem own_cat {n : Nat} (v : Value) : (own_sh n v).category = v.category := by cases v <;> rfl
theorem own_get {n : Nat} {L : List Slot} {k : Nat} {x : Slot} (h : L[k]? = some x) : ((L.map (own_shS n)).toArray)[k]? = some (own_shS n x) := by simp [h]
theorem own_set_ok {n : Nat} {L M : List Slot} {i : Nat} {x : Slot} (h : own_set L i x = some M) : setAt (L.map (own_shS n)).toArray i (own_shS n x) = some (M.map (own_shS n)).toArray := by
  unfold own_set at h
  split at h
  · cases h; simp [setAt, List.map_set, *]
  · cases h
theorem own_set_len {L M : List Slot} {i : Nat} {x : Slot} (h : own_set L i x = some M) : M.length = L.length := by
  unfold own_set at h
  split at h
  · cases h; simp
  · cases h
theorem own_self_ok {n : Nat} {L M : List Slot} {i : Nat} {v : Value} (h : own_self L i v = some M) : storeSelf (L.map (own_shS n)).toArray i (own_sh n v) = some (M.map (own_shS n)).toArray ∧ M.length = L.length := by
  unfold own_self at h
  split at h
  · cases h
  · rename_i A hA
    have e1 := own_set_ok (n := n) hA
    have l1 := own_set_len hA
    simp only [own_shS] at e1
    simp only [storeSelf, Option.bind_eq_bind, e1, Option.bind_some, own_cat]
    split at h
    · rename_i hc
      simp only [hc, if_true]
      split at h
      · cases h
      · rename_i o ho
        have g1 := own_get (n := n) ho
        simp only [own_shS] at g1
        simp only [g1, Option.bind_some, own_cat]
        split at h
        · rename_i hc2
          simp only [hc2, if_true]
          split at h
          · cases h
          · rename_i B hB
            have e2 := own_set_ok (n := n) hB
            have e3 := own_set_ok (n := n) h
            simp only [own_shS] at e2 e3
            simp only [e2, Option.bind_some, e3]
            exact ⟨trivial, by rw [own_set_len h, own_set_len hB, l1]⟩
        · rename_i hc2
          have e3 := own_set_ok (n := n) h
          simp only [own_shS] at e3
          simp only [hc2, if_false, e3]
          exact ⟨trivial, by rw [own_set_len h, l1]⟩
      · rename_i o hno ho
        have g1 := own_get (n := n) ho
        have e3 := own_set_ok (n := n) h
        cases o with
        | val w => exact absurd rfl (hno w)
        | unset => simp only [own_shS] at g1 e3; simp only [g1, Option.bind_some, e3]; exact ⟨trivial, by rw [own_set_len h, l1]⟩
        | second => simp only [own_shS] at g1 e3; simp only [g1, Option.bind_some, e3]; exact ⟨trivial, by rw [own_set_len h, l1]⟩
    · rename_i hc
      cases h
      simp only [hc, if_false]
      exact ⟨trivial, l1⟩
theorem own_sto_ok {n : Nat} {L M : List Slot} {i : Nat} {v : Value} (h : own_sto L i v = some M) : storeLocals (L.map (own_shS n)).toArray i (own_sh n v) = some (M.map (own_shS n)).toArray ∧ M.length = L.length := by
  unfold own_sto at h
  split at h
  · cases h
  · rename_i ho
    have g1 := own_get (n := n) ho
    simp only [own_shS] at g1
    split at h
    · cases h
    · rename_i A hA
      have e1 := own_set_ok (n := n) hA
      simp only [own_shS] at e1
      have e2 := own_self_ok (n := n) h
      simp only [storeLocals, Option.bind_eq_bind, g1, Option.bind_some, e1, e2.1]
      exact ⟨trivial, by rw [e2.2, own_set_len hA]⟩
  · rename_i o ho
    have g1 := own_get (n := n) ho
    simp only [own_shS] at g1
    split at h
    · rename_i hc
      split at h
      · cases h
      · rename_i A hA
        have e1 := own_set_ok (n := n) hA
        simp only [own_shS] at e1
        have e2 := own_self_ok (n := n) h
        simp only [storeLocals, Option.bind_eq_bind, g1, Option.bind_some, own_cat, hc, if_true, e1, e2.1]
        exact ⟨trivial, by rw [e2.2, own_set_len hA]⟩
    · rename_i hc
      have e2 := own_self_ok (n := n) h
      simp only [storeLocals, Option.bind_eq_bind, g1, Option.bind_some, own_cat, hc, if_false, e2.1]
      exact ⟨trivial, e2.2⟩
  · rename_i ho
    have g1 := own_get (n := n) ho
    simp only [own_shS] at g1
    have e2 := own_self_ok (n := n) h
    simp only [storeLocals, Option.bind_eq_bind, g1, Option.bind_some, e2.1]
    exact ⟨trivial, e2.2⟩
/-! ### decoded rows -/
def own_tgt (pc len t : Nat) (i : Instr) : Bool :=
  match i with
  | .goto o | .ifCond _ o | .if_icmp _ o | .ifnull o | .ifnonnull o => len == 3 && (decide (0 ≤ (pc : Int) + o) && ((pc : Int) + o).toNat == t)
  | .lookupswitch _ ps => (ps.toList.zip ps.toList.tail).all fun q => decide (q.1.1 < q.2.1)
  | j => len == own_ilen j && t == pc + own_ilen j
def own_okI (b : ByteArray) (x : ORow) : Bool :=
  match decode b x.1 with
  | .ok (i, len) => decide (i = x.2.1) && own_tgt x.1 len x.2.2 i
  | _ => false
theorem own_okI_spec {b : ByteArray} {pc t : Nat} {i : Instr} (h : own_okI b (pc, i, t) = true) : ∃ len, decode b pc = .ok (i, len) ∧ own_tgt pc len t i = true := by
  unfold own_okI at h
  split at h
  · rename_i j len hd
    simp only [Bool.and_eq_true, decide_eq_true_eq] at h
    obtain ⟨rfl, h2⟩ := h
    exact ⟨len, hd, h2⟩
  · cases h
theorem own_row_mem : ∀ {r : List ORow} {pc : Nat} {i : Instr} {t : Nat}, own_row r pc = some (i, t) → (pc, i, t) ∈ r
  | [], _, _, _, h => by cases h
  | (k, i', t') :: r, pc, i, t, h => by
    simp only [own_row] at h
    split at h
    · rename_i e; subst e; cases h; exact List.mem_cons_self ..
    · exact List.mem_cons_of_mem _ (own_row_mem h)
theorem own_at_ok {mt : OMth} (hc : ∀ r ∈ mt.cd, ∀ x ∈ r, own_okI mt.bs x = true) {pc t : Nat} {i : Instr} (h : own_at mt pc = some (i, t)) : ∃ len, decode mt.bs pc = .ok (i, len) ∧ own_tgt pc len t i = true := by
  unfold own_at at h
  split at h
  · rename_i r hr
    exact own_okI_spec (hc r (List.mem_of_getElem? hr) _ (own_row_mem h))
  · cases h
theorem own_t {a b len t : Nat} (h : (len == a && t == b) = true) : len = a ∧ t = b := by simpa using h
theorem own_tj {len t pc : Nat} {o : Int} (h : (len == 3 && (decide (0 ≤ (pc : Int) + o) && ((pc : Int) + o).toNat == t)) = true) : len = 3 ∧ 0 ≤ (pc : Int) + o ∧ ((pc : Int) + o).toNat = t := by simpa using h
/-! ### the frame's steps -/
section OwnPure
variable {p : Program} {e : Env} {m : MethodId} {below : List Frame} {c : Code} {T target : State} {n pc t : Nat} {L L' : List Slot} {S S' : List Value} {pc' len : Nat}
theorem own_dupx2 {g : JFrame} (h : At T m c below) (hx : p.tables.exec = Jvm.exec) (hg : g.method = m) {x y z : Value} {rest : List Value} (hd : decode c.code g.pc = .ok (.dup_x2, 1)) (hs : g.stack = x :: y :: z :: rest) (hc : x.category = 1) (hc' : y.category = 1) (hc2 : z.category = 1)
    (hr : Steps p.tables e below (T.setTop { g with pc := g.pc + 1, stack := x :: y :: z :: x :: rest }) target) : Steps p.tables e below (T.setTop g) target := by
  subst hg
  jvm_step h [h.top, hx, hd, hs, hc, hc', hc2]
  exact hr
theorem own_lsw {g : JFrame} (h : At T m c below) (hx : p.tables.exec = Jvm.exec) (hg : g.method = m) {df : Int} {ps : Array (Int × Int)} {pc0 pc1 : Nat} (hinc : ∀ a b a' b' : Int, ((a, b), a', b') ∈ ps.toList.zip ps.toList.tail → a < a') (hpc : g.pc = pc0) (hd : decode c.code g.pc = .ok (.lookupswitch df ps, len)) {i : Int32} {rest : List Value} (hs : g.stack = .int i :: rest)
    (ho : 0 ≤ (pc0 : Int) + lookupswitch.offset ps.toList df i.toInt) (hp : ((pc0 : Int) + lookupswitch.offset ps.toList df i.toInt).toNat = pc1)
    (hr : Steps p.tables e below (T.setTop { g with pc := pc1, stack := rest }) target) : Steps p.tables e below (T.setTop g) target := by
  subst hg hpc hp
  jvm_step h [h.top, hx, hd, hs, ho, lookupswitch.wp_chain]
  exact ⟨hinc, hr⟩
set_option maxHeartbeats 4000000 in
theorem own_pure_ok {i : Instr} (h : At T m c below) (hx : p.tables.exec = Jvm.exec) (hd : decode c.code pc = .ok (i, len)) (ht : own_tgt pc len t i = true) (e1 : own_pure i t pc L S = some (pc', L', S'))
    (hr : Steps p.tables e below (T.setTop (own_fr n m pc' L' S')) target) : Steps p.tables e below (T.setTop (own_fr n m pc L S)) target ∧ L'.length = L.length := by
  cases i with
  | iload k =>
    obtain ⟨rfl, rfl⟩ := own_t ht
    simp only [own_pure, own_ldI] at e1
    split at e1 <;> cases e1
    rename_i v hv
    exact ⟨XS.iload h hx rfl hd (own_get hv) hr, rfl⟩
  | iload_n k =>
    obtain ⟨rfl, rfl⟩ := own_t ht
    simp only [own_pure, own_ldI] at e1
    split at e1 <;> cases e1
    rename_i v hv
    exact ⟨XS.iloadN h hx rfl hd (own_get hv) hr, rfl⟩
  | lload k =>
    obtain ⟨rfl, rfl⟩ := own_t ht
    simp only [own_pure, own_ldJ] at e1
    split at e1 <;> cases e1
    rename_i v hv
    exact ⟨XS.lload h hx rfl hd (own_get hv) hr, rfl⟩
  | lload_n k =>
    obtain ⟨rfl, rfl⟩ := own_t ht
    simp only [own_pure, own_ldJ] at e1
    split at e1 <;> cases e1
    rename_i v hv
    exact ⟨XS.lloadN h hx rfl hd (own_get hv) hr, rfl⟩
  | aload k =>
    obtain ⟨rfl, rfl⟩ := own_t ht
    simp only [own_pure, own_ldA] at e1
    split at e1 <;> cases e1
    · rename_i v hv
      exact ⟨XS.aload h hx rfl hd (own_get hv) rfl hr, rfl⟩
    · rename_i hv
      exact ⟨XS.aload h hx rfl hd (own_get hv) rfl hr, rfl⟩
  | aload_n k =>
    obtain ⟨rfl, rfl⟩ := own_t ht
    simp only [own_pure, own_ldA] at e1
    split at e1 <;> cases e1
    · rename_i v hv
      exact ⟨XS.aloadN h hx rfl hd (own_get hv) rfl hr, rfl⟩
    · rename_i hv
      exact ⟨XS.aloadN h hx rfl hd (own_get hv) rfl hr, rfl⟩
  | istore k =>
    obtain ⟨rfl, rfl⟩ := own_t ht
    simp only [own_pure, own_stI] at e1
    split at e1 <;> try cases e1
    split at e1 <;> cases e1
    rename_i hv
    exact ⟨XS.istore h hx rfl hd rfl (own_sto_ok (n := n) hv).1 hr, (own_sto_ok (n := n) hv).2⟩
  | istore_n k =>
    obtain ⟨rfl, rfl⟩ := own_t ht
    simp only [own_pure, own_stI] at e1
    split at e1 <;> try cases e1
    split at e1 <;> cases e1
    rename_i hv
    exact ⟨XS.istoreN h hx rfl hd rfl (own_sto_ok (n := n) hv).1 hr, (own_sto_ok (n := n) hv).2⟩
  | lstore k =>
    obtain ⟨rfl, rfl⟩ := own_t ht
    simp only [own_pure, own_stJ] at e1
    split at e1 <;> try cases e1
    split at e1 <;> cases e1
    rename_i hv
    exact ⟨XS.lstore h hx rfl hd rfl (own_sto_ok (n := n) hv).1 hr, (own_sto_ok (n := n) hv).2⟩
  | lstore_n k =>
    obtain ⟨rfl, rfl⟩ := own_t ht
    simp only [own_pure, own_stJ] at e1
    split at e1 <;> try cases e1
    split at e1 <;> cases e1
    rename_i hv
    exact ⟨XS.lstoreN h hx rfl hd rfl (own_sto_ok (n := n) hv).1 hr, (own_sto_ok (n := n) hv).2⟩
  | astore k =>
    obtain ⟨rfl, rfl⟩ := own_t ht
    simp only [own_pure, own_stA] at e1
    split at e1 <;> try cases e1
    · split at e1 <;> cases e1
      rename_i hv
      exact ⟨XS.astore h hx rfl hd rfl rfl (own_sto_ok (n := n) hv).1 hr, (own_sto_ok (n := n) hv).2⟩
    · split at e1 <;> cases e1
      rename_i hv
      exact ⟨XS.astore h hx rfl hd rfl rfl (own_sto_ok (n := n) hv).1 hr, (own_sto_ok (n := n) hv).2⟩
  | astore_n k =>
    obtain ⟨rfl, rfl⟩ := own_t ht
    simp only [own_pure, own_stA] at e1
    split at e1 <;> try cases e1
    · split at e1 <;> cases e1
      rename_i hv
      exact ⟨XS.astoreN h hx rfl hd rfl rfl (own_sto_ok (n := n) hv).1 hr, (own_sto_ok (n := n) hv).2⟩
    · split at e1 <;> cases e1
      rename_i hv
      exact ⟨XS.astoreN h hx rfl hd rfl rfl (own_sto_ok (n := n) hv).1 hr, (own_sto_ok (n := n) hv).2⟩
  | iconst z => obtain ⟨rfl, rfl⟩ := own_t ht; cases e1; exact ⟨XS.iconst h hx rfl hd hr, rfl⟩
  | bipush z => obtain ⟨rfl, rfl⟩ := own_t ht; cases e1; exact ⟨XS.bipush h hx rfl hd hr, rfl⟩
  | sipush z => obtain ⟨rfl, rfl⟩ := own_t ht; cases e1; exact ⟨XS.sipush h hx rfl hd hr, rfl⟩
  | lconst z => obtain ⟨rfl, rfl⟩ := own_t ht; cases e1; exact ⟨XS.lconst h hx rfl hd hr, rfl⟩
  | aconst_null => obtain ⟨rfl, rfl⟩ := own_t ht; cases e1; exact ⟨XS.aconstNull h hx rfl hd hr, rfl⟩
  | iadd =>
    obtain ⟨rfl, rfl⟩ := own_t ht
    simp only [own_pure, own_b32] at e1
    split at e1 <;> cases e1
    exact ⟨XS.iadd h hx rfl hd rfl hr, rfl⟩
  | isub =>
    obtain ⟨rfl, rfl⟩ := own_t ht
    simp only [own_pure, own_b32] at e1
    split at e1 <;> cases e1
    exact ⟨XS.isub h hx rfl hd rfl hr, rfl⟩
  | imul =>
    obtain ⟨rfl, rfl⟩ := own_t ht
    simp only [own_pure, own_b32] at e1
    split at e1 <;> cases e1
    exact ⟨XS.imul h hx rfl hd rfl hr, rfl⟩
  | iand =>
    obtain ⟨rfl, rfl⟩ := own_t ht
    simp only [own_pure, own_b32] at e1
    split at e1 <;> cases e1
    exact ⟨XS.iand h hx rfl hd rfl hr, rfl⟩
  | ior =>
    obtain ⟨rfl, rfl⟩ := own_t ht
    simp only [own_pure, own_b32] at e1
    split at e1 <;> cases e1
    exact ⟨XS.ior h hx rfl hd rfl hr, rfl⟩
  | ixor =>
    obtain ⟨rfl, rfl⟩ := own_t ht
    simp only [own_pure, own_b32] at e1
    split at e1 <;> cases e1
    exact ⟨XS.ixor h hx rfl hd rfl hr, rfl⟩
  | ishl =>
    obtain ⟨rfl, rfl⟩ := own_t ht
    simp only [own_pure, own_b32] at e1
    split at e1 <;> cases e1
    exact ⟨XS.ishl h hx rfl hd rfl hr, rfl⟩
  | ishr =>
    obtain ⟨rfl, rfl⟩ := own_t ht
    simp only [own_pure, own_b32] at e1
    split at e1 <;> cases e1
    exact ⟨XS.ishr h hx rfl hd rfl hr, rfl⟩
  | iushr =>
    obtain ⟨rfl, rfl⟩ := own_t ht
    simp only [own_pure, own_b32] at e1
    split at e1 <;> cases e1
    exact ⟨XS.iushr h hx rfl hd rfl hr, rfl⟩
  | idiv =>
    obtain ⟨rfl, rfl⟩ := own_t ht
    simp only [own_pure, own_d32] at e1
    split at e1 <;> try cases e1
    split at e1 <;> cases e1
    rename_i hy
    exact ⟨XS.idiv h hx rfl hd rfl hy hr, rfl⟩
  | irem =>
    obtain ⟨rfl, rfl⟩ := own_t ht
    simp only [own_pure, own_d32] at e1
    split at e1 <;> try cases e1
    split at e1 <;> cases e1
    rename_i hy
    exact ⟨XS.irem h hx rfl hd rfl hy (by rw [irem_eq_mod]; exact hr), rfl⟩
  | ineg =>
    obtain ⟨rfl, rfl⟩ := own_t ht
    simp only [own_pure, own_u32] at e1
    split at e1 <;> cases e1
    exact ⟨XS.ineg h hx rfl hd rfl hr, rfl⟩
  | i2l =>
    obtain ⟨rfl, rfl⟩ := own_t ht
    simp only [own_pure, own_u32] at e1
    split at e1 <;> cases e1
    exact ⟨XS.i2l h hx rfl hd rfl hr, rfl⟩
  | i2b =>
    obtain ⟨rfl, rfl⟩ := own_t ht
    simp only [own_pure, own_u32] at e1
    split at e1 <;> cases e1
    exact ⟨XS.i2b h hx rfl hd rfl hr, rfl⟩
  | i2c =>
    obtain ⟨rfl, rfl⟩ := own_t ht
    simp only [own_pure, own_u32] at e1
    split at e1 <;> cases e1
    exact ⟨XS.i2c h hx rfl hd rfl hr, rfl⟩
  | i2s =>
    obtain ⟨rfl, rfl⟩ := own_t ht
    simp only [own_pure, own_u32] at e1
    split at e1 <;> cases e1
    exact ⟨XS.i2s h hx rfl hd rfl hr, rfl⟩
  | ladd =>
    obtain ⟨rfl, rfl⟩ := own_t ht
    simp only [own_pure, own_b64] at e1
    split at e1 <;> cases e1
    exact ⟨XS.ladd h hx rfl hd rfl hr, rfl⟩
  | lsub =>
    obtain ⟨rfl, rfl⟩ := own_t ht
    simp only [own_pure, own_b64] at e1
    split at e1 <;> cases e1
    exact ⟨XS.lsub h hx rfl hd rfl hr, rfl⟩
  | lmul =>
    obtain ⟨rfl, rfl⟩ := own_t ht
    simp only [own_pure, own_b64] at e1
    split at e1 <;> cases e1
    exact ⟨XS.lmul h hx rfl hd rfl hr, rfl⟩
  | land =>
    obtain ⟨rfl, rfl⟩ := own_t ht
    simp only [own_pure, own_b64] at e1
    split at e1 <;> cases e1
    exact ⟨XS.land h hx rfl hd rfl hr, rfl⟩
  | lor =>
    obtain ⟨rfl, rfl⟩ := own_t ht
    simp only [own_pure, own_b64] at e1
    split at e1 <;> cases e1
    exact ⟨XS.lor h hx rfl hd rfl hr, rfl⟩
  | lxor =>
    obtain ⟨rfl, rfl⟩ := own_t ht
    simp only [own_pure, own_b64] at e1
    split at e1 <;> cases e1
    exact ⟨XS.lxor h hx rfl hd rfl hr, rfl⟩
  | lcmp =>
    obtain ⟨rfl, rfl⟩ := own_t ht
    simp only [own_pure, own_b64] at e1
    split at e1 <;> cases e1
    exact ⟨XS.lcmp h hx rfl hd rfl hr, rfl⟩
  | ldiv =>
    obtain ⟨rfl, rfl⟩ := own_t ht
    simp only [own_pure, own_d64] at e1
    split at e1 <;> try cases e1
    split at e1 <;> cases e1
    rename_i hy
    exact ⟨XS.ldiv h hx rfl hd rfl hy hr, rfl⟩
  | lrem =>
    obtain ⟨rfl, rfl⟩ := own_t ht
    simp only [own_pure, own_d64] at e1
    split at e1 <;> try cases e1
    split at e1 <;> cases e1
    rename_i hy
    exact ⟨XS.lrem h hx rfl hd rfl hy hr, rfl⟩
  | lshl =>
    obtain ⟨rfl, rfl⟩ := own_t ht
    simp only [own_pure, own_s64] at e1
    split at e1 <;> cases e1
    exact ⟨XS.lshl h hx rfl hd rfl hr, rfl⟩
  | lshr =>
    obtain ⟨rfl, rfl⟩ := own_t ht
    simp only [own_pure, own_s64] at e1
    split at e1 <;> cases e1
    exact ⟨XS.lshr h hx rfl hd rfl hr, rfl⟩
  | lushr =>
    obtain ⟨rfl, rfl⟩ := own_t ht
    simp only [own_pure, own_s64] at e1
    split at e1 <;> cases e1
    exact ⟨XS.lushr h hx rfl hd rfl hr, rfl⟩
  | lneg =>
    obtain ⟨rfl, rfl⟩ := own_t ht
    simp only [own_pure, own_u64] at e1
    split at e1 <;> cases e1
    exact ⟨XS.lneg h hx rfl hd rfl hr, rfl⟩
  | l2i =>
    obtain ⟨rfl, rfl⟩ := own_t ht
    simp only [own_pure, own_u64] at e1
    split at e1 <;> cases e1
    exact ⟨XS.l2i h hx rfl hd rfl hr, rfl⟩
  | iinc k z =>
    obtain ⟨rfl, rfl⟩ := own_t ht
    simp only [own_pure] at e1
    split at e1 <;> try cases e1
    rename_i v hv
    split at e1 <;> cases e1
    rename_i hw
    exact ⟨XS.iinc h hx rfl hd (own_get hv) (own_sto_ok (n := n) hw).1 hr, (own_sto_ok (n := n) hw).2⟩
  | dup =>
    obtain ⟨rfl, rfl⟩ := own_t ht
    simp only [own_pure] at e1
    split at e1 <;> try cases e1
    split at e1 <;> cases e1
    rename_i hv
    exact ⟨XS.dup h hx rfl hd rfl (by rw [own_cat]; exact hv) hr, rfl⟩
  | pop =>
    obtain ⟨rfl, rfl⟩ := own_t ht
    simp only [own_pure] at e1
    split at e1 <;> try cases e1
    split at e1 <;> cases e1
    rename_i hv
    exact ⟨XS.pop h hx rfl hd rfl (by rw [own_cat]; exact hv) hr, rfl⟩
  | dup_x1 =>
    obtain ⟨rfl, rfl⟩ := own_t ht
    simp only [own_pure] at e1
    split at e1 <;> try cases e1
    split at e1 <;> cases e1
    rename_i hv
    exact ⟨XS.dupX1 h hx rfl hd rfl (by rw [own_cat]; exact hv.1) (by rw [own_cat]; exact hv.2) hr, rfl⟩
  | dup_x2 =>
    obtain ⟨rfl, rfl⟩ := own_t ht
    simp only [own_pure] at e1
    split at e1 <;> try cases e1
    split at e1 <;> cases e1
    rename_i hv
    exact ⟨own_dupx2 h hx rfl hd rfl (by rw [own_cat]; exact hv.1) (by rw [own_cat]; exact hv.2.1) (by rw [own_cat]; exact hv.2.2) hr, rfl⟩
  | dup2 =>
    obtain ⟨rfl, rfl⟩ := own_t ht
    simp only [own_pure] at e1
    split at e1 <;> try cases e1
    · exact ⟨Jvm.Free.XT.dup2L h hx rfl hd rfl hr, rfl⟩
    · split at e1 <;> cases e1
      rename_i hv
      exact ⟨Jvm.Free.XT.dup2 h hx rfl hd rfl (by rw [own_cat]; exact hv.1) (by rw [own_cat]; exact hv.2) hr, rfl⟩
  | goto o =>
    obtain ⟨rfl, h1, h2⟩ := own_tj ht
    cases e1
    exact ⟨XS.goto h hx rfl (pc0 := pc) rfl hd h1 h2 hr, rfl⟩
  | ifCond cd o =>
    obtain ⟨rfl, h1, h2⟩ := own_tj ht
    simp only [own_pure] at e1
    split at e1 <;> try cases e1
    unfold own_br at e1
    split at e1 <;> cases e1
    · rename_i hb
      exact ⟨XS.ifYes h hx rfl (pc0 := pc) rfl hd rfl hb h1 h2 hr, rfl⟩
    · rename_i hb
      exact ⟨XS.ifNo h hx rfl hd rfl hb hr, rfl⟩
  | if_icmp cd o =>
    obtain ⟨rfl, h1, h2⟩ := own_tj ht
    simp only [own_pure] at e1
    split at e1 <;> try cases e1
    unfold own_br at e1
    split at e1 <;> cases e1
    · rename_i hb
      exact ⟨XS.icmpYes h hx rfl (pc0 := pc) rfl hd rfl hb h1 h2 hr, rfl⟩
    · rename_i hb
      exact ⟨XS.icmpNo h hx rfl hd rfl hb hr, rfl⟩
  | ifnull o =>
    obtain ⟨rfl, h1, h2⟩ := own_tj ht
    simp only [own_pure] at e1
    split at e1 <;> cases e1
    · exact ⟨XS.ifnullYes h hx rfl (pc0 := pc) rfl hd rfl h1 h2 hr, rfl⟩
    · exact ⟨XS.ifnullNo h hx rfl hd rfl hr, rfl⟩
  | ifnonnull o =>
    obtain ⟨rfl, h1, h2⟩ := own_tj ht
    simp only [own_pure] at e1
    split at e1 <;> cases e1
    · exact ⟨XS.ifnonnullNo h hx rfl hd rfl hr, rfl⟩
    · exact ⟨XS.ifnonnullYes h hx rfl (pc0 := pc) rfl hd rfl h1 h2 hr, rfl⟩
  | lookupswitch df ps =>
    simp only [own_pure] at e1
    split at e1 <;> try cases e1
    split at e1 <;> cases e1
    rename_i hj
    unfold own_jmp at hj
    split at hj <;> cases hj
    rename_i h1
    have ht' : ((ps.toList.zip ps.toList.tail).all fun q => decide (q.1.1 < q.2.1)) = true := ht
    exact ⟨own_lsw h hx rfl (pc0 := pc) (fun a b a' b' hm => by simpa using List.all_eq_true.mp ht' _ hm) rfl hd rfl h1 rfl hr, rfl⟩
  | _ => exact nomatch (show (none : Option OFr) = some _ from e1)
end OwnPure
/-! ### the heap -/
def own_cw (K : List OKls) : OCell → Nat
  | (.inl k, _) => (match K[k]? with | some c => c.2.1 | none => 0)
  | (.inr _, vs) => vs.length
def own_w (K : List OKls) (H : OHeap) : Nat := (H.map (own_cw K)).sum
def own_repC (Z : State) (n : Nat) (K : List OKls) (h : Heap) (a : Addr) : OCell → Prop
  | (.inl k, vs) => ∃ c : OKls, K[k]? = some c ∧ Exa Z h a c.1 ∧ vs.length = c.2.2.length ∧ ∀ (j : Nat) (f : OFld) (v : Value), c.2.2[j]? = some f → vs[j]? = some v → Fld Z h a f.1 f.2.1 f.2.2.1 (own_sh n v)
  | (.inr ty, vs) => ∃ cl : Cell, Arr Z h a cl ty ∧ cl.slots = (vs.map (own_sh n)).toArray ∧ vs.length < 2 ^ 31 ∧ Exa Z h a ("[" ++ ty.toString) ∧ own_prim ty = true ∧ ∀ v ∈ vs, fits ty v = true
def own_rep (Z : State) (n : Nat) (K : List OKls) (H : OHeap) (h : Heap) : Prop := h.size = n + H.length ∧ ∀ (i : Nat) (c : OCell), H[i]? = some c → own_repC Z n K h (n + i) c
/-- what the class table says is so -/
def own_okK (Z : State) (a0 : Array Value) (K : List OKls) : Prop := ∀ (k : Nat) (c : OKls), K[k]? = some c → (Jvm.Cond.instantiable c.1 c.2.1).before a0 Z = true ∧ (Jvm.Cond.initialized c.1).before a0 Z = true ∧
  (∀ f ∈ c.2.2, Laid Z a0 c.1 f.1 f.2.1 f.2.2.1 ∧ parseFieldDescriptor f.2.2.1 = some f.2.2.2) ∧ (c.2.2.map fun f => f.2.1).Nodup
theorem own_default (n : Nat) (ty : FieldType) : own_sh n (defaultValue ty) = defaultValue ty := by cases ty <;> rfl
theorem own_fit_default {ty : FieldType} (h : own_prim ty = true) : fits ty (defaultValue ty) = true := by cases ty <;> first | rfl | decide | cases h
theorem own_nar_ok {n : Nat} {ty : FieldType} {v w : Value} (h : own_nar ty v = some w) : narrow ty (own_sh n v) = own_sh n w ∧ fits ty (own_sh n w) = true ∧ fits ty w = true := by
  unfold own_nar at h
  split at h <;> cases h
  · exact ⟨rfl, rfl, rfl⟩
  · exact ⟨rfl, rfl, rfl⟩
  · exact ⟨rfl, fits_nar_bool _, fits_nar_bool _⟩
  · exact ⟨rfl, fits_nar_byte _, fits_nar_byte _⟩
  · exact ⟨rfl, fits_nar_char _, fits_nar_char _⟩
  · exact ⟨rfl, fits_nar_short _, fits_nar_short _⟩
  · exact ⟨rfl, rfl, rfl⟩
  · exact ⟨rfl, rfl, rfl⟩
  · exact ⟨rfl, rfl, rfl⟩
  · exact ⟨rfl, rfl, rfl⟩
theorem own_prim_sh {n : Nat} {ty : FieldType} (h : own_prim ty = true) {v : Value} (hf : fits ty v = true) : own_sh n v = v := by
  cases v <;> first | rfl | (cases ty <;> first | (simp [own_prim] at h; done) | (simp [fits] at hf; done))
section OwnHeap
variable {Z : State} {n : Nat} {K : List OKls} {H : OHeap} {h h' : Heap}
theorem own_repC_ext {a : Addr} {c : OCell} (E : Ext h h') (q : own_repC Z n K h a c) : own_repC Z n K h' a c := by
  obtain ⟨k | ty, vs⟩ := c
  · obtain ⟨c, h1, h2, h3, h4⟩ := q
    exact ⟨c, h1, h2.ext E, h3, fun j f v e1 e2 => (h4 j f v e1 e2).ext E⟩
  · obtain ⟨cl, h1, h2, h3, h4, h5⟩ := q
    exact ⟨cl, h1.ext E, h2, h3, h4.ext E, h5⟩
theorem own_repC_other {a b : Addr} {c : OCell} {sl : Nat} {v : Value} (W : Wr h h' a sl v) (hne : b ≠ a) (q : own_repC Z n K h b c) : own_repC Z n K h' b c := by
  obtain ⟨k | ty, vs⟩ := c
  · obtain ⟨c, h1, h2, h3, h4⟩ := q
    exact ⟨c, h1, h2.wr W, h3, fun j f v e1 e2 => (h4 j f v e1 e2).other W (Or.inl hne)⟩
  · obtain ⟨cl, h1, h2, h3, h4, h5⟩ := q
    exact ⟨cl, h1.other W hne, h2, h3, h4.wr W, h5⟩
theorem own_repC_keep {a b : Addr} {c : OCell} (W : Keep h h' [a]) (hne : b ≠ a) (q : own_repC Z n K h b c) : own_repC Z n K h' b c := by
  have hn : b ∉ [a] := by simpa using hne
  obtain ⟨k | ty, vs⟩ := c
  · obtain ⟨c, h1, h2, h3, h4⟩ := q
    exact ⟨c, h1, h2.keep W, h3, fun j f v e1 e2 => (h4 j f v e1 e2).keep W hn⟩
  · obtain ⟨cl, h1, h2, h3, h4, h5⟩ := q
    exact ⟨cl, ⟨W.2.1 _ _ h1.1 hn, h1.2⟩, h2, h3, h4.keep W, h5⟩
theorem own_rep_push {c : OCell} (q : own_rep Z n K H h) (E : Ext h h') (hs : h'.size = h.size + 1) (hc : own_repC Z n K h' (n + H.length) c) : own_rep Z n K (H ++ [c]) h' := by
  refine ⟨by rw [hs, q.1, List.length_append]; simp only [List.length_cons, List.length_nil]; omega, fun i d hd => ?_⟩
  rcases Nat.lt_trichotomy i H.length with hi | hi | hi
  · rw [List.getElem?_append_left hi] at hd
    exact own_repC_ext E (q.2 i d hd)
  · subst hi
    rw [List.getElem?_append_right (Nat.le_refl _)] at hd
    simp only [Nat.sub_self, List.getElem?_cons_zero, Option.some.injEq] at hd
    subst hd; exact hc
  · rw [List.getElem?_append_right (by omega), List.getElem?_eq_none (by simp only [List.length_cons, List.length_nil]; omega)] at hd
    cases hd
theorem own_rep_set {a : Nat} {c c' : OCell} (q : own_rep Z n K H h) (ha : H[a]? = some c) (hs : h'.size = h.size) (ho : ∀ (b : Nat) (d : OCell), b ≠ a → H[b]? = some d → own_repC Z n K h' (n + b) d) (hc : own_repC Z n K h' (n + a) c') : own_rep Z n K (H.set a c') h' := by
  refine ⟨by rw [hs, q.1, List.length_set], fun i d hd => ?_⟩
  by_cases e : i = a
  · subst e
    rw [List.getElem?_set_self (List.getElem?_eq_some_iff.mp ha).1] at hd
    cases hd; exact hc
  · rw [List.getElem?_set_ne (Ne.symm e)] at hd
    exact ho i d e hd
theorem own_obj_at {a k : Nat} {vs : List Value} (h1 : own_obj H a k = some vs) : H[a]? = some (.inl k, vs) := by
  unfold own_obj at h1
  split at h1 <;> try cases h1
  rename_i k' ws hk
  split at h1 <;> cases h1
  rename_i e; subst e; exact hk
theorem own_arr_at {a : Nat} {ty : FieldType} {vs : List Value} (h1 : own_arr H a ty = some vs) : H[a]? = some (.inr ty, vs) := by
  unfold own_arr at h1
  split at h1 <;> try cases h1
  rename_i k' ws hk
  split at h1 <;> cases h1
  rename_i e; subst e; exact hk
theorem own_ix_ok {j : Int32} {q : Nat} (h1 : own_ix j = some q) : ¬ j < 0 ∧ j.toNatClampNeg = q := by
  unfold own_ix at h1
  split at h1 <;> cases h1
  rename_i e; exact ⟨e, rfl⟩
theorem own_rep_fld {a0 : Array Value} {a k j : Nat} {vs : List Value} {c : OKls} {f : OFld} {w : Value} (hK : own_okK Z a0 K) (q : own_rep Z n K H h) (ha : H[a]? = some (.inl k, vs)) (hk : K[k]? = some c) (hf : c.2.2[j]? = some f) (W : Wr h h' (n + a) (Jvm.RoadKit.slotOf Z f.1 f.2.1 f.2.2.1) (own_sh n w)) :
    own_rep Z n K (H.set a (.inl k, vs.set j w)) h' := by
  refine own_rep_set q ha W.size (fun b d hb hd => own_repC_other W (fun e => hb (Nat.add_left_cancel e)) (q.2 b d hd)) ?_
  obtain ⟨c', h1, h2, h3, h4⟩ := q.2 a _ ha
  cases hk.symm.trans h1
  refine ⟨c, hk, h2.wr W, by rw [List.length_set]; exact h3, fun j' f' v e1 e2 => ?_⟩
  obtain ⟨-, -, hL, hN⟩ := hK k c hk
  by_cases e : j' = j
  · subst e
    cases hf.symm.trans e1
    have hlt : j' < vs.length := by rw [h3]; exact (List.getElem?_eq_some_iff.mp hf).1
    rw [List.getElem?_set_self hlt] at e2
    cases e2
    exact (h4 j' f _ hf (List.getElem?_eq_getElem hlt)).same W
  · rw [List.getElem?_set_ne (Ne.symm e)] at e2
    refine (h4 j' f' v e1 e2).other W (Or.inr ?_)
    obtain ⟨l1, t1⟩ := hL f' (List.mem_of_getElem? e1)
    obtain ⟨l2, t2⟩ := hL f (List.mem_of_getElem? hf)
    refine Jvm.RoadKit.slot_ne l1 l2 (fun en => e ?_) t1 t2
    obtain ⟨i1, g1⟩ := List.getElem?_eq_some_iff.mp e1
    obtain ⟨i2, g2⟩ := List.getElem?_eq_some_iff.mp hf
    have := (List.getElem_inj (i := j') (j := j) (h₀ := by rw [List.length_map]; exact i1) (h₁ := by rw [List.length_map]; exact i2) hN).mp (by rw [List.getElem_map, List.getElem_map, g1, g2]; exact en)
    exact this
theorem own_rep_elem {a q : Nat} {ty : FieldType} {vs : List Value} {w : Value} {cl : Cell} (r : own_rep Z n K H h) (ha : H[a]? = some (.inr ty, vs)) (A : Arr Z h (n + a) cl ty) (hs : cl.slots = (vs.map (own_sh n)).toArray) (hf : fits ty w = true) (W : Wr h h' (n + a) q (own_sh n w)) :
    own_rep Z n K (H.set a (.inr ty, vs.set q w)) h' := by
  refine own_rep_set r ha W.size (fun b d hb hd => own_repC_other W (fun e => hb (Nat.add_left_cancel e)) (r.2 b d hd)) ?_
  obtain ⟨cl', h1, h2, h3, h4, h5, h6⟩ := r.2 a _ ha
  refine ⟨cl.setSlot q (own_sh n w), A.same W, ?_, by rw [List.length_set]; exact h3, h4.wr W, h5, fun v hv => ?_⟩
  · show cl.slots.setIfInBounds q (own_sh n w) = _
    rw [hs]; simp [List.map_set]
  · rcases List.mem_or_eq_of_mem_set hv with h7 | rfl
    · exact h6 v h7
    · exact hf
theorem own_w_app (c : OCell) : own_w K (H ++ [c]) = own_w K H + own_cw K c := by simp [own_w]
theorem own_w_set {a : Nat} {c c' : OCell} (ha : H[a]? = some c) (hw : own_cw K c' = own_cw K c) : own_w K (H.set a c') = own_w K H := by
  unfold own_w
  rw [List.map_set, hw]
  have : (H.map (own_cw K))[a]? = some (own_cw K c) := by simp [ha]
  congr 1
  obtain ⟨i, e⟩ := List.getElem?_eq_some_iff.mp this
  rw [← e]; exact List.set_getElem_self i
end OwnHeap
/-! ### the words of the sheet -/
def own_okD (k : Nat) (mj : OMth) : Prop := ∃ ps r, parseMethodDescriptor mj.nm.desc = some ⟨ps, r⟩ ∧ ps.length + k = mj.na
def own_okY (y : MethodName) : Prop := y.cls ≠ "java/lang/invoke/MethodHandle" ∧ y.cls ≠ "java/lang/invoke/VarHandle"
def own_okE (Z : State) (a0 : Array Value) (P : OPrg) (y : MethodName) (x : Nat) (t : OEnt) : Prop :=
  match t with
  | (0, j, _, _) => ∃ mj : OMth, P.1[j]? = some mj ∧ (Jvm.Cond.methodLink y.cls x mj.nm).before a0 Z = true ∧ (Jvm.Cond.static mj.nm).before a0 Z = true ∧ (Jvm.Cond.initialized mj.nm.cls).before a0 Z = true ∧ own_okY mj.nm ∧ own_okD 0 mj
  | (1, j, _, _) => ∃ mj : OMth, P.1[j]? = some mj ∧ mj.nm.name = "<init>" ∧ mj.rt = none ∧ (Jvm.Cond.methodLink y.cls x mj.nm).before a0 Z = true ∧ (Jvm.Cond.instanceMethod mj.nm).before a0 Z = true ∧ (Jvm.Cond.initialized mj.nm.cls).before a0 Z = true ∧ own_okY mj.nm ∧ own_okD 1 mj
  | (2, _, _, _) => (Jvm.Cond.methodLink y.cls x Lib.objectInit).before a0 Z = true ∧ (Jvm.Cond.instanceMethod Lib.objectInit).before a0 Z = true ∧ (Jvm.Cond.code Lib.objectInit ⟨#[0xb1]⟩ 1 none).before a0 Z = true
  | (3, j, k, _) => ∃ (mj : OMth) (c : OKls) (v : MethodName), P.1[j]? = some mj ∧ P.2.1[k]? = some c ∧ v.desc = mj.nm.desc ∧ (Jvm.Cond.methodLink y.cls x v).before a0 Z = true ∧ (Jvm.Cond.declares v).before a0 Z = true ∧ (Jvm.Cond.selects c.1 v mj.nm).before a0 Z = true ∧ (Jvm.Cond.instanceMethod mj.nm).before a0 Z = true ∧ (Jvm.Cond.initialized mj.nm.cls).before a0 Z = true ∧ (∀ s : State, Z.Warmed39 s.vm → NotFace s v) ∧ own_okY v ∧ own_okD 1 mj
  | (4, j, _, _) => ∃ mj : OMth, P.1[j]? = some mj ∧ (Jvm.Cond.methodLink y.cls x mj.nm).before a0 Z = true ∧ (Jvm.Cond.instanceMethod mj.nm).before a0 Z = true ∧ (Jvm.Cond.privateMethod mj.nm).before a0 Z = true ∧ (∀ s : State, Z.Warmed39 s.vm → NotFace s mj.nm) ∧ (Jvm.Cond.initialized mj.nm.cls).before a0 Z = true ∧ own_okY mj.nm ∧ own_okD 1 mj
  | (5, j, k, _) => ∃ (mj : OMth) (c : OKls), P.1[j]? = some mj ∧ P.2.1[k]? = some c ∧ mj.nm.name ≠ "<init>" ∧ (Jvm.Cond.methodLink y.cls x mj.nm).before a0 Z = true ∧ (Jvm.Cond.instanceMethod mj.nm).before a0 Z = true ∧ (Jvm.Cond.superclass y.cls mj.nm.cls).before a0 Z = true ∧ NotFace Z mj.nm ∧ (Jvm.Cond.initialized mj.nm.cls).before a0 Z = true ∧ own_okY mj.nm ∧ own_okD 1 mj
  | (13, j, k, _) => ∃ (mj : OMth) (c : OKls) (v : MethodName) (ow : String), P.1[j]? = some mj ∧ P.2.1[k]? = some c ∧ v.desc = mj.nm.desc ∧ (Jvm.Cond.methodLink y.cls x v).before a0 Z = true ∧ (Jvm.Cond.sameMethod v.cls ow v.name v.desc).before a0 Z = true ∧ (Jvm.Cond.declares ⟨ow, v.name, v.desc⟩).before a0 Z = true ∧ (Jvm.Cond.selects c.1 v mj.nm).before a0 Z = true ∧ (Jvm.Cond.instanceMethod mj.nm).before a0 Z = true ∧ (Jvm.Cond.initialized mj.nm.cls).before a0 Z = true ∧ (ow ≠ "java/lang/invoke/MethodHandle" ∧ ow ≠ "java/lang/invoke/VarHandle") ∧ own_okD 1 mj
  | (6, k, j, u) => ∃ (c : OKls) (f : OFld) (R0 : String), P.2.1[k]? = some c ∧ c.2.2[j]? = some f ∧ (Jvm.Cond.fieldLink y.cls x R0 f.2.1 f.2.2.1).before a0 Z = true ∧ Via Z R0 f.1 f.2.1 f.2.2.1 ∧
      (u = 1 → (Jvm.Cond.lays c.1 f.1 f.2.1 f.2.2.1).before a0 Z = true ∨ ((Jvm.Cond.laysFinal c.1 f.1 f.2.1 f.2.2.1).before a0 Z = true ∧ y.cls = f.1 ∧ y.name = "<init>"))
  | (7, k, _, _) => ∃ c : OKls, P.2.1[k]? = some c ∧ (Jvm.Cond.classLink y.cls x c.1).before a0 Z = true
  | (8, _, _, v) => (Jvm.Cond.constant y.cls x (Int32.ofInt v)).before a0 Z = true
  | (9, _, _, v) => (Jvm.Cond.constantLong y.cls x (Int64.ofInt v)).before a0 Z = true
  | (10, _, _, _) => (Jvm.Cond.methodLink y.cls x Jvm.Stand.acN).before a0 Z = true ∧ (Jvm.Cond.native Jvm.Stand.acN).before a0 Z = true ∧ (Jvm.Cond.static Jvm.Stand.acN).before a0 Z = true ∧ (Jvm.Cond.initialized "java/lang/System").before a0 Z = true
  | (11, _, _, _) => (Jvm.Cond.methodLink y.cls x ⟨"[I", "clone", "()Ljava/lang/Object;"⟩).before a0 Z = true ∧ (Jvm.Cond.sameMethod "[I" "java/lang/Object" "clone" "()Ljava/lang/Object;").before a0 Z = true ∧ (Jvm.Cond.native ⟨"java/lang/Object", "clone", "()Ljava/lang/Object;"⟩).before a0 Z = true ∧ (Jvm.Cond.instanceMethod ⟨"java/lang/Object", "clone", "()Ljava/lang/Object;"⟩).before a0 Z = true ∧ (Jvm.Cond.selects "[I" ⟨"[I", "clone", "()Ljava/lang/Object;"⟩ ⟨"java/lang/Object", "clone", "()Ljava/lang/Object;"⟩).before a0 Z = true ∧ (Jvm.Cond.castable "[I" "java/lang/Cloneable").before a0 Z = true
  | (12, _, _, _) => (Jvm.Cond.classLink y.cls x "[I").before a0 Z = true
  | _ => False
def own_okM (Z : State) (a0 : Array Value) (P : OPrg) (mt : OMth) : Prop :=
  plainFor mt.nm = true ∧ (Jvm.Cond.code mt.nm mt.bs mt.ml mt.rt).before a0 Z = true ∧ (∀ r ∈ mt.cd, ∀ x ∈ r, own_okI mt.bs x = true) ∧ ∀ x ∈ mt.en, own_okE Z a0 P mt.nm x.1 x.2
/-- all that the tables of a claim owe -/
def own_good (Z : State) (a0 : Array Value) (P : OPrg) : Prop := (∀ mt ∈ P.1, own_okM Z a0 P mt) ∧ own_okK Z a0 P.2.1 ∧ ∀ ty ∈ P.2.2, (Jvm.Cond.arrayClass ty).before a0 Z = true ∧ own_prim ty = true
theorem own_ent_mem : ∀ {r : List (Nat × OEnt)} {x : Nat} {t : OEnt}, own_ent r x = some t → (x, t) ∈ r
  | [], _, _, h => by cases h
  | (k, i) :: r, x, t, h => by
    simp only [own_ent] at h
    split at h
    · rename_i e; subst e; cases h; exact List.mem_cons_self ..
    · exact List.mem_cons_of_mem _ (own_ent_mem h)
theorem own_wt_sh {n : Nat} (S : List Value) : ((S.map (own_sh n)).map fun v => v.category).sum = own_wt S := by
  unfold own_wt
  rw [List.map_map]
  congr 1
  exact List.map_congr_left fun v _ => own_cat v
theorem own_split_ok : ∀ {k : Nat} {S acc as r : List Value}, own_split k S acc = some (as, r) → as.reverse ++ r = acc.reverse ++ S ∧ as.length = acc.length + k
  | 0, S, acc, as, r, h => by cases h; exact ⟨rfl, rfl⟩
  | k + 1, v :: S, acc, as, r, h => by
    obtain ⟨h1, h2⟩ := own_split_ok (k := k) h
    exact ⟨by rw [h1]; simp, by rw [h2]; simp only [List.length_cons]; omega⟩
  | _ + 1, [], _, _, _, h => by cases h
theorem own_args_ok {n : Nat} (as : List Value) (ml : Nat) : argsToLocals (as.map (own_sh n)).toArray ml = ((own_entry as ml).map (own_shS n)).toArray := by
  have key : ∀ (as : List Value) (acc : Array Slot), (as.map (own_sh n)).foldl (fun acc v => if v.category = 2 then (acc.push (.val v)).push .second else acc.push (.val v)) acc = acc ++ ((as.flatMap fun v => if v.category = 2 then [Slot.val v, .second] else [Slot.val v]).map (own_shS n)).toArray := by
    intro as
    induction as with
    | nil => intro acc; simp
    | cons v r ih =>
      intro acc
      simp only [List.map_cons, List.foldl_cons, own_cat, List.flatMap_cons, List.map_append]
      split
      · rw [ih]
        apply Array.ext'
        simp [own_shS, own_sh]
      · rw [ih]
        apply Array.ext'
        simp [own_shS, own_sh]
  have k0 := key as #[]
  simp only [Array.empty_append] at k0
  unfold argsToLocals own_entry
  simp only [List.foldl_toArray', List.size_toArray]
  rw [k0]
  apply Array.ext'
  simp [own_shS]
section OwnArr
variable {Z : State} {n : Nat} {K : List OKls} {H H' : OHeap} {h : Heap} {ty : FieldType} {t pc' : Nat} {L L' : List Slot} {S S' : List Value}
theorem own_in {j : Int32} {q k : Nat} (hq : own_ix j = some q) (hk : q < k) : ¬ (j < 0 ∨ k ≤ j.toNatClampNeg) := by
  obtain ⟨h1, h2⟩ := own_ix_ok hq
  rintro (h3 | h3)
  · exact h1 h3
  · omega
theorem own_ald_ok (hr : own_rep Z n K H h) (hs : own_ald ty t L S H = some (pc', L', S', H')) : ∃ (j : Int32) (a : Nat) (r : List Value) (v : Value) (cl : Cell), S = .int j :: .ref a :: r ∧ pc' = t ∧ L' = L ∧ S' = v :: r ∧ H' = H ∧ Arr Z h (n + a) cl ty ∧ ¬ (j < 0 ∨ cl.slots.size ≤ j.toNatClampNeg) ∧ cl.slots[j.toNatClampNeg]? = some (own_sh n v) := by
  unfold own_ald at hs
  split at hs <;> try cases hs
  rename_i j a r
  split at hs <;> try cases hs
  rename_i vs ha
  split at hs <;> try cases hs
  rename_i q hq
  split at hs <;> cases hs
  rename_i v hv
  obtain ⟨cl, A, h2, -⟩ := hr.2 a _ (own_arr_at ha)
  have hsz : cl.slots.size = vs.length := by rw [h2]; simp
  refine ⟨j, a, r, v, cl, rfl, rfl, rfl, rfl, rfl, A, by rw [hsz]; exact own_in hq (List.getElem?_eq_some_iff.mp hv).1, ?_⟩
  rw [(own_ix_ok hq).2, h2]
  simp [hv]
theorem own_ast_ok (hr : own_rep Z n K H h) (hs : own_ast ty t L S H = some (pc', L', S', H')) : ∃ (v w : Value) (j : Int32) (a q : Nat) (r vs : List Value) (cl : Cell), S = v :: .int j :: .ref a :: r ∧ pc' = t ∧ L' = L ∧ S' = r ∧ H' = H.set a (.inr ty, vs.set q w) ∧ H[a]? = some (.inr ty, vs) ∧ Arr Z h (n + a) cl ty ∧ cl.slots = (vs.map (own_sh n)).toArray ∧ ¬ (j < 0 ∨ cl.slots.size ≤ j.toNatClampNeg) ∧ j.toNatClampNeg = q ∧ own_nar ty v = some w := by
  unfold own_ast at hs
  split at hs <;> try cases hs
  rename_i v j a r
  split at hs <;> try cases hs
  rename_i vs ha
  split at hs <;> try cases hs
  rename_i q hq
  split at hs <;> try cases hs
  rename_i hlt
  split at hs <;> cases hs
  rename_i w hw
  obtain ⟨cl, A, h2, -⟩ := hr.2 a _ (own_arr_at ha)
  have hsz : cl.slots.size = vs.length := by rw [h2]; simp
  exact ⟨v, w, j, a, q, _, vs, cl, rfl, rfl, rfl, rfl, rfl, own_arr_at ha, A, h2, by rw [hsz]; exact own_in hq hlt, (own_ix_ok hq).2, hw⟩
theorem own_len {k : Nat} (hk : k < 2 ^ 31) : k.toInt32.toNatClampNeg = k ∧ ¬ k.toInt32 < 0 := by
  have e := len_toInt hk
  constructor
  · simp only [Int32.toNatClampNeg, e]; omega
  · rw [Int32.lt_iff_toInt_lt, e]; have : (0 : Int32).toInt = 0 := rfl
    omega
theorem own_map_prim (hp : own_prim ty = true) {vs : List Value} (hf : ∀ v ∈ vs, fits ty v = true) : vs.map (own_sh n) = vs := by
  conv => rhs; rw [← List.map_id vs]
  exact List.map_congr_left fun v hv => own_prim_sh hp (hf v hv)
theorem own_arv {a : Addr} {vs : List Value} {dv : Value} (q : own_repC Z n K h a (.inr ty, vs)) : ∃ k, Arv Z h a k ty vs.length.toInt32 vs dv := by
  obtain ⟨cl, A, h2, h3, h4, h5, h6⟩ := q
  rw [own_map_prim h5 h6] at h2
  obtain ⟨e1, e2⟩ := own_len h3
  have hsz : cl.slots.size = vs.length := by rw [h2]; simp
  have hg : ∀ i, i < vs.length → vs[i]? = some (vs.getD i dv) := fun i hi => by simp [List.getD_eq_getElem?_getD, hi]
  refine ⟨cl.cls, cl, A, rfl, by rw [hsz, e1], e2, fun i hi => ?_, fun i hi => ?_⟩
  · rw [hsz] at hi; rw [h2]; simpa using hg i hi
  · rw [hsz] at hi
    exact h6 _ (List.mem_of_getElem? (hg i hi))
theorem own_arv_inv {a : Addr} {k : ClassId} {z : Int32} {vs : List Value} {dv : Value} (hz : z.toNatClampNeg = vs.length) (hl : vs.length < 2 ^ 31) (hp : own_prim ty = true) (F : Arv Z h a k ty z vs dv) (E : Exa Z h a ("[" ++ ty.toString)) : own_repC Z n K h a (.inr ty, vs) := by
  obtain ⟨cl, A, -, h2, -, h4, h5⟩ := F
  rw [hz] at h2
  have hg : ∀ i, i < vs.length → vs[i]? = some (vs.getD i dv) := fun i hi => by simp [List.getD_eq_getElem?_getD, hi]
  have hf : ∀ v ∈ vs, fits ty v = true := fun v hv => by
    obtain ⟨i, hi, e⟩ := List.mem_iff_getElem.mp hv
    have := h5 i (by omega)
    rw [List.getD_eq_getElem?_getD, List.getElem?_eq_getElem hi] at this
    rw [← e]; exact this
  refine ⟨cl, A, ?_, hl, E, hp, hf⟩
  rw [own_map_prim hp hf]
  apply Array.ext
  · simp [h2]
  · intro i hi1 hi2
    have h7 := h4 i hi1
    rw [Array.getElem?_eq_getElem hi1] at h7
    have h8 := hg i (by omega)
    rw [List.getElem?_eq_getElem (by omega)] at h8
    simp only [List.getElem_toArray]
    exact (Option.some.inj h7).trans (Option.some.inj h8).symm
theorem own_us {vs : List Value} {p k : Nat} {dv : Value} (h : p + k ≤ vs.length) : (vs.drop p).take k = (List.range k).map fun i => vs.getD (p + i) dv := by
  apply List.ext_getElem
  · simp; omega
  · intro i h1 h2
    simp only [List.length_map, List.length_range] at h2
    simp [List.getD_eq_getElem?_getD, show p + i < vs.length by omega]
end OwnArr
section OwnMain
variable {l : Launch} {Z : State} {a0 : Array Value} {n : Nat} {P : OPrg}
set_option maxHeartbeats 4000000 in
theorem own_heap_ok (G : own_good Z a0 P) {mt : OMth} (hM : mt ∈ P.1) {d lo : Nat} {i : Instr} {t pc pc' len : Nat} {L L' : List Slot} {S S' : List Value} {H H' : OHeap} (hs : own_heap P mt d lo i t L S H = some (pc', L', S', H'))
    {p : Program} {e : Env} {R : Room} {s : State} {m : MethodId} {args : Array Value} {below : List Frame} {meth : Method} {c : Code} {T : State} {locs : List Loc} {cells slots : Nat}
    (X : Stand p l e R s m args below meth c T locs cells slots) (hx : p.tables.exec = Jvm.exec) (hZ : Z.Warmed39 s.vm) (hml : c.maxLocals = mt.ml) (hown : s.vm.findClass mt.nm.cls = some m.cls) (hnm : meth.name = mt.nm.name)
    (hd : decode c.code pc = .ok (i, len)) (ht : own_tgt pc len t i = true) (hL : L.length = mt.ml) (hbd : s.heap.size + cells = n + H.length ∨ (H = [] ∧ P.2.1 = [] ∧ P.2.2 = []))
    (hr : own_rep Z n P.2.1 H T.heap) (hf : Fr n locs) (hdf : d ≤ R.frames) (hlo : lo ≤ R.locals) (hce : cells + (H'.length - H.length) ≤ R.cells) (hsl : slots + (own_w P.2.1 H' - own_w P.2.1 H) ≤ R.slots) :
    L' = L ∧ H.length ≤ H'.length ∧ own_w P.2.1 H ≤ own_w P.2.1 H' ∧ ∃ (T' : State) (locs' : List Loc), Stand p l e R s m args below meth c T' locs' (cells + (H'.length - H.length)) (slots + (own_w P.2.1 H' - own_w P.2.1 H)) ∧ own_rep Z n P.2.1 H' T'.heap ∧ Fr n locs' ∧
      ∀ target, Steps p.tables e below (T'.setTop (own_fr n m pc' L' S')) target → Steps p.tables e below (T.setTop (own_fr n m pc L S)) target := by
  obtain ⟨GM, GK, GA⟩ := G
  obtain ⟨-, -, -, GE⟩ := GM mt hM
  have hz : (L.map (own_shS n)).toArray.size = c.maxLocals := by rw [hml, ← hL]; simp
  have ent : ∀ {x t}, own_ent mt.en x = some t → own_okE Z a0 P mt.nm x t := fun h => GE _ (own_ent_mem h)
  have same : ∀ {T' : State} {S' : List Value} {pc' : Nat}, Stand p l e R s m args below meth c T' locs cells slots → T'.heap = T.heap → (∀ target, Steps p.tables e below (T'.setTop (own_fr n m pc' L S')) target → Steps p.tables e below (T.setTop (own_fr n m pc L S)) target) →
      L = L ∧ H.length ≤ H.length ∧ own_w P.2.1 H ≤ own_w P.2.1 H ∧ ∃ (T' : State) (locs' : List Loc), Stand p l e R s m args below meth c T' locs' (cells + (H.length - H.length)) (slots + (own_w P.2.1 H - own_w P.2.1 H)) ∧ own_rep Z n P.2.1 H T'.heap ∧ Fr n locs' ∧
      ∀ target, Steps p.tables e below (T'.setTop (own_fr n m pc' L S')) target → Steps p.tables e below (T.setTop (own_fr n m pc L S)) target := by
    intro T' S' pc' X' eT st
    refine ⟨rfl, Nat.le_refl _, Nat.le_refl _, T', locs, ?_, by rw [eT]; exact hr, hf, st⟩
    rw [Nat.sub_self, Nat.sub_self]; exact X'
  have wrote : ∀ {T' : State} {S' : List Value} {pc' : Nat} {a sl : Nat} {c0 c1 : OCell}, H[a]? = some c0 → own_cw P.2.1 c1 = own_cw P.2.1 c0 → Stand p l e R s m args below meth c T' (locs ++ [⟨n + a, sl⟩]) cells slots → own_rep Z n P.2.1 (H.set a c1) T'.heap → (∀ target, Steps p.tables e below (T'.setTop (own_fr n m pc' L S')) target → Steps p.tables e below (T.setTop (own_fr n m pc L S)) target) →
      L = L ∧ H.length ≤ (H.set a c1).length ∧ own_w P.2.1 H ≤ own_w P.2.1 (H.set a c1) ∧ ∃ (T' : State) (locs' : List Loc), Stand p l e R s m args below meth c T' locs' (cells + ((H.set a c1).length - H.length)) (slots + (own_w P.2.1 (H.set a c1) - own_w P.2.1 H)) ∧ own_rep Z n P.2.1 (H.set a c1) T'.heap ∧ Fr n locs' ∧
      ∀ target, Steps p.tables e below (T'.setTop (own_fr n m pc' L S')) target → Steps p.tables e below (T.setTop (own_fr n m pc L S)) target := by
    intro T' S' pc' a sl c0 c1 h0 hw X' hr' st
    have e1 : (H.set a c1).length = H.length := List.length_set ..
    have e2 : own_w P.2.1 (H.set a c1) = own_w P.2.1 H := own_w_set h0 hw
    refine ⟨rfl, by omega, by omega, T', _, ?_, hr', Fr.snoc X' hf (Nat.le_add_right _ _), st⟩
    rw [e1, e2, Nat.sub_self, Nat.sub_self]; exact X'
  have made : ∀ {T' : State} {h' : Heap} {S' : List Value} {pc' w : Nat} {c1 : OCell}, s.heap.size + cells = n + H.length → own_cw P.2.1 c1 = w → Stand p l e R s m args below meth c T' locs (cells + 1) (slots + w) → T'.heap = h' → Ext T.heap h' → T.heap.size < h'.size → own_repC Z n P.2.1 h' T.heap.size c1 → (∀ target, Steps p.tables e below (T'.setTop (own_fr n m pc' L (.ref H.length :: S'))) target → Steps p.tables e below (T.setTop (own_fr n m pc L S)) target) →
      L = L ∧ H.length ≤ (H ++ [c1]).length ∧ own_w P.2.1 H ≤ own_w P.2.1 (H ++ [c1]) ∧ ∃ (T' : State) (locs' : List Loc), Stand p l e R s m args below meth c T' locs' (cells + ((H ++ [c1]).length - H.length)) (slots + (own_w P.2.1 (H ++ [c1]) - own_w P.2.1 H)) ∧ own_rep Z n P.2.1 (H ++ [c1]) T'.heap ∧ Fr n locs' ∧
      ∀ target, Steps p.tables e below (T'.setTop (own_fr n m pc' L (.ref H.length :: S'))) target → Steps p.tables e below (T.setTop (own_fr n m pc L S)) target := by
    intro T' h' S' pc' w c1 hb hw X' eT E hlt hc st
    have e1 : (H ++ [c1]).length = H.length + 1 := by simp
    have e2 := own_w_app (K := P.2.1) (H := H) c1
    have hsz := X'.heapSize
    have h0 := hr.1
    refine ⟨rfl, by omega, by omega, T', locs, ?_, ?_, hf, st⟩
    · rw [e1, e2, hw, Nat.add_sub_cancel_left, Nat.add_sub_cancel_left]; exact X'
    · rw [eT]
      refine own_rep_push hr E (by rw [eT] at hsz; omega) ?_
      rw [← h0]; exact hc
  have cap : ∀ {c1 : OCell}, H' = H ++ [c1] → cells + 1 ≤ R.cells ∧ slots + own_cw P.2.1 c1 ≤ R.slots := by
    rintro c1 rfl
    rw [own_w_app] at hsl
    rw [List.length_append] at hce
    simp only [List.length_cons, List.length_nil] at hce
    omega
  cases i with
  | getfield x =>
    obtain ⟨rfl, rfl⟩ := own_t ht
    simp only [own_heap] at hs
    split at hs <;> try cases hs
    rename_i k j u he
    split at hs <;> try cases hs
    rename_i a r
    split at hs <;> try cases hs
    rename_i vs ho
    split at hs <;> cases hs
    rename_i v hv
    obtain ⟨kc, f, R0, h1, h2, h3, h4, -⟩ := ent he
    obtain ⟨kc', g1, -, -, g4⟩ := hr.2 a _ (own_obj_at ho)
    cases h1.symm.trans g1
    obtain ⟨T', X', eT, st⟩ := getF X hx hZ hown (host := "") (Or.inl h3) h4 rfl (g4 j f v h2 hv) (g := own_fr n m pc L (.ref a :: r)) rfl rfl hd
    exact same X' eT st
  | putfield x =>
    obtain ⟨rfl, rfl⟩ := own_t ht
    simp only [own_heap] at hs
    split at hs <;> try cases hs
    rename_i k j he
    split at hs <;> try cases hs
    rename_i v a r
    split at hs <;> try cases hs
    rename_i vs ho
    split at hs <;> try cases hs
    rename_i kc hk
    split at hs <;> try cases hs
    rename_i f hf'
    split at hs <;> cases hs
    rename_i w hw
    obtain ⟨kc', f', R0, h1, h2, h3, h4, h5⟩ := ent he
    cases hk.symm.trans h1
    cases hf'.symm.trans h2
    obtain ⟨kc', g1, g2, g3, g4⟩ := hr.2 a _ (own_obj_at ho)
    cases hk.symm.trans g1
    obtain ⟨w1, w2, w3, -⟩ := GK k kc hk
    have hj : j < vs.length := by rw [g3]; exact (List.getElem?_eq_some_iff.mp hf').1
    obtain ⟨n1, n2, -⟩ := own_nar_ok (n := n) hw
    obtain ⟨T', h', X', eT, W, st⟩ := putFN X hx hZ hown h3 h4 rfl (g4 j f _ hf' (List.getElem?_eq_getElem hj)) g2 ((h5 rfl).imp id fun q => ⟨q.1, q.2.1, hnm.trans q.2.2⟩) w1 (w3 f (List.mem_of_getElem? hf')).2 n1 n2 (g := own_fr n m pc L (v :: .ref a :: _)) rfl rfl hd
    exact wrote (own_obj_at ho) rfl X' (by rw [eT]; exact own_rep_fld GK hr (own_obj_at ho) hk hf' W) st
  | new x =>
    obtain ⟨rfl, rfl⟩ := own_t ht
    simp only [own_heap] at hs
    split at hs <;> try cases hs
    rename_i k j u he
    split at hs <;> cases hs
    rename_i kc hk
    obtain ⟨kc', h1, h2⟩ := ent he
    cases hk.symm.trans h1
    obtain ⟨w1, w2, w3, -⟩ := GK k kc hk
    have hw : own_cw P.2.1 ((.inl k, kc.2.2.map fun f => defaultValue f.2.2.2) : OCell) = kc.2.1 := by simp [own_cw, hk]
    obtain ⟨hc1, hc2⟩ := cap rfl
    rw [hw] at hc2
    obtain ⟨T', h', X', eT, E, A, D, -, st⟩ := newO X hx hZ hown h2 w1 w2 rfl (g := own_fr n m pc L S) rfl hd hc1 hc2
    refine made (hbd.resolve_right fun q => by rw [q.2.1] at hk; simp at hk) hw X' eT E A.lt ⟨kc, hk, A, by simp, fun j f v e1 e2 => ?_⟩ ?_
    · obtain ⟨l1, t1⟩ := w3 f (List.mem_of_getElem? e1)
      rw [List.getElem?_map, e1] at e2
      cases e2
      rw [own_default]
      exact D l1 t1
    · rw [hr.1] at st; exact st
  | newarray ty =>
    obtain ⟨rfl, rfl⟩ := own_t ht
    simp only [own_heap] at hs
    split at hs <;> try cases hs
    rename_i z r
    split at hs <;> try cases hs
    rename_i q hq
    split at hs <;> cases hs
    rename_i hA
    obtain ⟨hq1, hq2⟩ := own_ix_ok hq
    obtain ⟨a1, a2⟩ := GA _ hA.1
    have hw : own_cw P.2.1 ((.inr (newarray.typeOf ty), List.replicate q (defaultValue (newarray.typeOf ty))) : OCell) = q := by simp [own_cw]
    obtain ⟨hc1, hc2⟩ := cap rfl
    rw [hw] at hc2
    obtain ⟨T', h', cA, X', eT, E, A, Ex, st⟩ := newPE X hx hZ a1 rfl (g := own_fr n m pc L (.int z :: r)) rfl hd rfl hq1 (cap := q) (Nat.le_of_eq hq2) hA.2 hc1 hc2 rfl
    refine made (hbd.resolve_right fun q => by have := hA.1; rw [q.2.2] at this; simp at this) hw X' eT E Ex.lt ⟨_, A, ?_, ?_, Ex, a2, fun v hv => ?_⟩ ?_
    · simp [newA, hq2, own_default]
    · rw [List.length_replicate]; omega
    · rw [List.eq_of_mem_replicate hv]; exact own_fit_default a2
    · rw [hr.1] at st; exact st
  | arraylength =>
    obtain ⟨rfl, rfl⟩ := own_t ht
    simp only [own_heap] at hs
    split at hs <;> try cases hs
    rename_i a r
    split at hs <;> cases hs
    rename_i ty vs ha
    obtain ⟨cl, A, h2, -⟩ := hr.2 a _ ha
    have hsz : cl.slots.size = vs.length := by rw [h2]; simp
    exact same X rfl fun target k => X.arraylength hx A.1 (State.isArrayOf_alike hZ.alike A.2.1) (g := own_fr n m pc L (.ref a :: r)) rfl rfl hd target (by rw [hsz]; exact k)
  | iaload =>
    obtain ⟨rfl, rfl⟩ := own_t ht
    obtain ⟨j, a, r, v, cl, rfl, rfl, rfl, rfl, rfl, A, h1, h2⟩ := own_ald_ok hr hs
    exact same X rfl fun target k => X.iaload hx A.1 (State.isArrayOf_alike hZ.alike A.2.1) A.2.2 h1 h2 (g := own_fr n m pc L' (.int j :: .ref a :: r)) rfl rfl hd target k
  | laload =>
    obtain ⟨rfl, rfl⟩ := own_t ht
    obtain ⟨j, a, r, v, cl, rfl, rfl, rfl, rfl, rfl, A, h1, h2⟩ := own_ald_ok hr hs
    exact same X rfl fun target k => X.laload hx A.1 (State.isArrayOf_alike hZ.alike A.2.1) A.2.2 h1 h2 (g := own_fr n m pc L' (.int j :: .ref a :: r)) rfl rfl hd target k
  | caload =>
    obtain ⟨rfl, rfl⟩ := own_t ht
    obtain ⟨j, a, r, v, cl, rfl, rfl, rfl, rfl, rfl, A, h1, h2⟩ := own_ald_ok hr hs
    exact same X rfl fun target k => X.caload hx A.1 (State.isArrayOf_alike hZ.alike A.2.1) A.2.2 h1 h2 (g := own_fr n m pc L' (.int j :: .ref a :: r)) rfl rfl hd target k
  | baload =>
    obtain ⟨rfl, rfl⟩ := own_t ht
    obtain ⟨j, a, r, v, cl, rfl, rfl, rfl, rfl, rfl, A, h1, h2⟩ := own_ald_ok hr hs
    exact same X rfl fun target k => X.baloadBytes hx A.1 (State.isArrayOf_alike hZ.alike A.2.1) A.2.2 h1 h2 (g := own_fr n m pc L' (.int j :: .ref a :: r)) rfl rfl hd target k
  | iastore =>
    obtain ⟨rfl, rfl⟩ := own_t ht
    obtain ⟨v, w, j, a, q, r, vs, cl, rfl, rfl, rfl, rfl, rfl, ha, A, h0, h1, rfl, h2⟩ := own_ast_ok hr hs
    cases v <;> cases h2
    rename_i z
    obtain ⟨T', h', X', eT, W, st⟩ := stI X hx hZ rfl A h1 (g := own_fr n m pc L' (.int z :: .int j :: .ref a :: S')) rfl rfl hd
    exact wrote ha (by simp [own_cw]) X' (by rw [eT]; exact own_rep_elem hr ha A h0 (own_nar_ok (n := n) (v := .int z) rfl).2.2 W) st
  | lastore =>
    obtain ⟨rfl, rfl⟩ := own_t ht
    obtain ⟨v, w, j, a, q, r, vs, cl, rfl, rfl, rfl, rfl, rfl, ha, A, h0, h1, rfl, h2⟩ := own_ast_ok hr hs
    cases v <;> cases h2
    rename_i z
    obtain ⟨T', h', X', eT, W, st⟩ := stJ X hx hZ rfl A h1 (g := own_fr n m pc L' (.long z :: .int j :: .ref a :: S')) rfl rfl hd
    exact wrote ha (by simp [own_cw]) X' (by rw [eT]; exact own_rep_elem hr ha A h0 (own_nar_ok (n := n) (v := .long z) rfl).2.2 W) st
  | castore =>
    obtain ⟨rfl, rfl⟩ := own_t ht
    obtain ⟨v, w, j, a, q, r, vs, cl, rfl, rfl, rfl, rfl, rfl, ha, A, h0, h1, rfl, h2⟩ := own_ast_ok hr hs
    cases v <;> cases h2
    rename_i z
    obtain ⟨T', h', X', eT, W, st⟩ := stC X hx hZ rfl A h1 (g := own_fr n m pc L' (.int z :: .int j :: .ref a :: S')) rfl rfl hd
    exact wrote ha (by simp [own_cw]) X' (by rw [eT]; exact own_rep_elem hr ha A h0 (own_nar_ok (n := n) (v := .int z) rfl).2.2 W) st
  | bastore =>
    obtain ⟨rfl, rfl⟩ := own_t ht
    obtain ⟨v, w, j, a, q, r, vs, cl, rfl, rfl, rfl, rfl, rfl, ha, A, h0, h1, rfl, h2⟩ := own_ast_ok hr hs
    cases v <;> cases h2
    rename_i z
    obtain ⟨T', h', X', eT, W, st⟩ := stB X hx hZ rfl A h1 (g := own_fr n m pc L' (.int z :: .int j :: .ref a :: S')) rfl rfl hd
    exact wrote ha (by simp [own_cw]) X' (by rw [eT]; exact own_rep_elem hr ha A h0 (own_nar_ok (n := n) (v := .int z) rfl).2.2 W) st
  | ldc x =>
    obtain ⟨rfl, rfl⟩ := own_t ht
    simp only [own_heap] at hs
    split at hs <;> cases hs
    rename_i he
    exact same X rfl fun target k => X.ldcInt hx hown (mvT hZ (ent he)) (g := own_fr n m pc L S) rfl hd target k
  | ldc_w x =>
    obtain ⟨rfl, rfl⟩ := own_t ht
    simp only [own_heap] at hs
    split at hs <;> cases hs
    rename_i he
    exact same X rfl fun target k => X.ldcwInt hx hown (mvT hZ (ent he)) (g := own_fr n m pc L S) rfl hd target k
  | ldc2_w x =>
    obtain ⟨rfl, rfl⟩ := own_t ht
    simp only [own_heap] at hs
    split at hs <;> cases hs
    rename_i he
    exact same X rfl fun target k => X.ldc2Long hx hown (mvT hZ (ent he)) (g := own_fr n m pc L S) rfl hd target k
  | checkcast x =>
    obtain ⟨rfl, rfl⟩ := own_t ht
    simp only [own_heap] at hs
    split at hs <;> try cases hs
    rename_i he
    split at hs <;> try cases hs
    rename_i a r
    split at hs <;> cases hs
    rename_i vs ha
    obtain ⟨cl, A, h2, -, Ex, -⟩ := hr.2 a _ (own_arr_at ha)
    obtain ⟨T', X', eT, st⟩ := castY X hx hZ hown (ent he) rfl (Ins.self (show Exa Z T.heap (n + a) "[I" from Ex)) (g := own_fr n m pc L (.ref a :: r)) rfl rfl hd
    exact same X' eT st
  | invokespecial x =>
    obtain ⟨rfl, rfl⟩ := own_t ht
    simp only [own_heap] at hs
    split at hs <;> try cases hs
    rename_i he
    split at hs <;> try cases hs
    rename_i a r
    split at hs <;> cases hs
    rename_i hq
    obtain ⟨w1, w2, w3⟩ := ent he
    obtain ⟨T', X', eT, st⟩ := initO X hx hZ hown w1 w2 w3 rfl (g := own_fr n m pc L (.ref a :: S')) rfl hz rfl hd (by omega) (W := own_wt S') (by show 2 * 0 + _ ≤ _; rw [own_wt_sh]; omega) (by omega)
    exact same X' eT st
  | invokestatic x =>
    obtain ⟨rfl, rfl⟩ := own_t ht
    simp only [own_heap] at hs
    split at hs <;> try cases hs
    rename_i he
    split at hs <;> try cases hs
    rename_i nn dp b sp a r
    split at hs <;> try cases hs
    rename_i vs ha
    split at hs <;> try cases hs
    rename_i vd hb'
    split at hs <;> try cases hs
    rename_i k hn
    split at hs <;> try cases hs
    rename_i q hq
    split at hs <;> try cases hs
    rename_i p' hp
    split at hs <;> cases hs
    rename_i hh
    obtain ⟨⟨r1, r2⟩, r3, r4⟩ := hh
    obtain ⟨w1, w2, w3, w4⟩ := ent he
    obtain ⟨n1, n2⟩ := own_ix_ok hn
    obtain ⟨q1, q2⟩ := own_ix_ok hq
    obtain ⟨p1, p2⟩ := own_ix_ok hp
    have ca := hr.2 a _ (own_arr_at ha)
    have cb := hr.2 b _ (own_arr_at hb')
    obtain ⟨ka, Fa⟩ := own_arv (dv := .int 0) ca
    obtain ⟨kb, Fb⟩ := own_arv (dv := .int 0) cb
    obtain ⟨-, -, -, la, -⟩ := ca
    obtain ⟨-, -, -, lb, Eb, pb, fb⟩ := cb
    obtain ⟨sa, -⟩ := own_len la
    obtain ⟨sb, -⟩ := own_len lb
    obtain ⟨T', h', L2, X', eT, N', Kp, F', st⟩ := cpA X hx hZ hown w1 w2 w3 w4 rfl Fa Fb (Or.inl ⟨rfl, rfl⟩) p1 q1 n1 (by rw [sa, p2, n2]; exact r3) (by rw [sb, q2, n2]; exact r4) rfl (by rw [q2, n2]; exact r4) hf (Nat.le_add_right n b) (g := own_fr n m pc L (.int nn :: .int dp :: .ref b :: .int sp :: .ref a :: S')) rfl hz rfl hd (by omega) (W := own_wt S') (by show 2 * 0 + _ ≤ _; rw [own_wt_sh]; omega) (by omega)
    have ha0 := own_arr_at hb'
    have hb := hbd.resolve_right fun q => by rw [q.1] at ha0; simp at ha0
    rw [p2, n2, q2, ← own_us r3] at F'
    have hlen : (vd.take q ++ (vs.drop p').take k ++ vd.drop (q + k)).length = vd.length := by
      simp only [List.length_append, List.length_take, List.length_drop]; omega
    have e1 : (H.set b ((.inr .int, vd.take q ++ (vs.drop p').take k ++ vd.drop (q + k)) : OCell)).length = H.length := List.length_set ..
    have e2 : own_w P.2.1 (H.set b ((.inr .int, vd.take q ++ (vs.drop p').take k ++ vd.drop (q + k)) : OCell)) = own_w P.2.1 H := own_w_set ha0 (by simp only [own_cw]; exact hlen)
    refine ⟨rfl, by omega, by omega, T', L2, ?_, ?_, N', st⟩
    · rw [e1, e2, Nat.sub_self, Nat.sub_self]; exact X'
    · rw [eT]
      have hsz : h'.size = T.heap.size := by
        have u1 := X'.heapSize
        have u2 := Kp.1
        have u3 := hr.1
        rw [eT] at u1; omega
      refine own_rep_set hr ha0 hsz (fun b' d' hb2 hd2 => own_repC_keep Kp (fun e => hb2 (Nat.add_left_cancel e)) (hr.2 b' d' hd2)) (own_arv_inv (by rw [hlen]; exact sb) (by rw [hlen]; exact lb) pb F' (Eb.keep Kp))
  | invokevirtual x =>
    obtain ⟨rfl, rfl⟩ := own_t ht
    simp only [own_heap] at hs
    split at hs <;> try cases hs
    rename_i he
    split at hs <;> try cases hs
    rename_i a r
    split at hs <;> try cases hs
    rename_i vs ha
    split at hs <;> cases hs
    rename_i hq
    obtain ⟨w1, w2, w3, w4, w5, w6⟩ := ent he
    have ca := hr.2 a _ (own_arr_at ha)
    obtain ⟨ka, Fa⟩ := own_arv (dv := .int 0) ca
    obtain ⟨-, -, -, la, Ea, pa, fa⟩ := ca
    obtain ⟨sa, -⟩ := own_len la
    have hw : own_cw P.2.1 ((.inr .int, vs) : OCell) = vs.length := rfl
    obtain ⟨hc1, hc2⟩ := cap rfl
    rw [hw] at hc2
    obtain ⟨T', h', X', eT, E, F', E', st⟩ := cloneH X hx hZ hown w1 w2 w3 w4 w5 w6 rfl Fa.arh (show Exa Z T.heap (n + a) "[I" from Ea) (g := own_fr n m pc L (.ref a :: r)) rfl hz rfl hd (by omega) (W := own_wt r) (cap := vs.length) (by show 2 * 0 + _ ≤ _; rw [own_wt_sh]; omega) (by omega) (Nat.le_of_eq sa) hc1 hc2
    refine made (hbd.resolve_right fun q => by have := own_arr_at ha; rw [q.1] at this; simp at this) hw X' eT E E'.lt (own_arv_inv sa la pa F' E') ?_
    rw [hr.1] at st; exact st
  | _ => exact nomatch (show (none : Option OSt) = some _ from hs)
/-! ### how a run grows -/
theorem own_sto_len {L M : List Slot} {i : Nat} {v : Value} (h : own_sto L i v = some M) : M.length = L.length := (own_sto_ok (n := 0) h).2
theorem own_pure_len {i : Instr} {t pc pc' : Nat} {L L' : List Slot} {S S' : List Value} (e1 : own_pure i t pc L S = some (pc', L', S')) : L'.length = L.length := by
  have st : ∀ {k t : Nat} {v : Value} {r : List Value}, (match own_sto L k v with | some M => some (t, M, r) | none => none : Option OFr) = some (pc', L', S') → L'.length = L.length := by
    intro k t v r h
    split at h <;> cases h
    rename_i hv; exact own_sto_len hv
  have ldI : ∀ {k}, own_ldI k t L S = some (pc', L', S') → L'.length = L.length := by intro k h; unfold own_ldI at h; split at h <;> cases h; rfl
  have ldJ : ∀ {k}, own_ldJ k t L S = some (pc', L', S') → L'.length = L.length := by intro k h; unfold own_ldJ at h; split at h <;> cases h; rfl
  have ldA : ∀ {k}, own_ldA k t L S = some (pc', L', S') → L'.length = L.length := by intro k h; unfold own_ldA at h; split at h <;> cases h <;> rfl
  have stI : ∀ {k}, own_stI k t L S = some (pc', L', S') → L'.length = L.length := by intro k h; unfold own_stI at h; split at h <;> first | exact st h | cases h
  have stJ : ∀ {k}, own_stJ k t L S = some (pc', L', S') → L'.length = L.length := by intro k h; unfold own_stJ at h; split at h <;> first | exact st h | cases h
  have stA : ∀ {k}, own_stA k t L S = some (pc', L', S') → L'.length = L.length := by intro k h; unfold own_stA at h; split at h <;> first | exact st h | cases h
  have b32 : ∀ {f}, own_b32 f t L S = some (pc', L', S') → L'.length = L.length := by intro k h; unfold own_b32 at h; split at h <;> cases h; rfl
  have d32 : ∀ {f}, own_d32 f t L S = some (pc', L', S') → L'.length = L.length := by intro k h; unfold own_d32 at h; split at h <;> try cases h
                                                                                      split at h <;> cases h; rfl
  have u32 : ∀ {f}, own_u32 f t L S = some (pc', L', S') → L'.length = L.length := by intro k h; unfold own_u32 at h; split at h <;> cases h; rfl
  have b64 : ∀ {f}, own_b64 f t L S = some (pc', L', S') → L'.length = L.length := by intro k h; unfold own_b64 at h; split at h <;> cases h; rfl
  have d64 : ∀ {f}, own_d64 f t L S = some (pc', L', S') → L'.length = L.length := by intro k h; unfold own_d64 at h; split at h <;> try cases h
                                                                                      split at h <;> cases h; rfl
  have s64 : ∀ {f}, own_s64 f t L S = some (pc', L', S') → L'.length = L.length := by intro k h; unfold own_s64 at h; split at h <;> cases h; rfl
  have u64 : ∀ {f}, own_u64 f t L S = some (pc', L', S') → L'.length = L.length := by intro k h; unfold own_u64 at h; split at h <;> cases h; rfl
  have br : ∀ {b : Bool} {r : List Value}, own_br b t pc L r = some (pc', L', S') → L'.length = L.length := by intro b r h; unfold own_br at h; split at h <;> cases h <;> rfl
  unfold own_pure at e1
  split at e1 <;> first
    | exact ldI e1 | exact ldJ e1 | exact ldA e1 | exact stI e1 | exact stJ e1 | exact stA e1 | exact b32 e1 | exact d32 e1 | exact u32 e1 | exact b64 e1 | exact d64 e1 | exact s64 e1 | exact u64 e1
    | (cases e1; rfl)
    | (cases e1; done)
    | (split at e1 <;> first
        | exact st e1 | exact br e1 | (cases e1; rfl) | (cases e1; done)
        | (split at e1 <;> first | (cases e1; rfl) | cases e1 | exact st e1))
theorem own_heap_mono {mt : OMth} {d lo : Nat} {i : Instr} {t pc' : Nat} {L L' : List Slot} {S S' : List Value} {H H' : OHeap} (hs : own_heap P mt d lo i t L S H = some (pc', L', S', H')) : L' = L ∧ H.length ≤ H'.length ∧ own_w P.2.1 H ≤ own_w P.2.1 H' := by
  have app : ∀ c : OCell, H.length ≤ (H ++ [c]).length ∧ own_w P.2.1 H ≤ own_w P.2.1 (H ++ [c]) := fun c => ⟨by simp, by rw [own_w_app]; exact Nat.le_add_right _ _⟩
  have set : ∀ {a : Nat} {c c' : OCell}, H[a]? = some c → own_cw P.2.1 c' = own_cw P.2.1 c → H.length ≤ (H.set a c').length ∧ own_w P.2.1 H ≤ own_w P.2.1 (H.set a c') := fun h1 h2 => ⟨by simp, by rw [own_w_set h1 h2]; exact Nat.le_refl _⟩
  have ald : ∀ {ty}, own_ald ty t L S H = some (pc', L', S', H') → L' = L ∧ H.length ≤ H'.length ∧ own_w P.2.1 H ≤ own_w P.2.1 H' := by
    intro ty h
    unfold own_ald at h
    split at h <;> try cases h
    split at h <;> try cases h
    split at h <;> try cases h
    split at h <;> cases h
    exact ⟨rfl, Nat.le_refl _, Nat.le_refl _⟩
  have ast : ∀ {ty}, own_ast ty t L S H = some (pc', L', S', H') → L' = L ∧ H.length ≤ H'.length ∧ own_w P.2.1 H ≤ own_w P.2.1 H' := by
    intro ty h
    unfold own_ast at h
    split at h <;> try cases h
    split at h <;> try cases h
    rename_i vs ha
    split at h <;> try cases h
    split at h <;> try cases h
    split at h <;> cases h
    exact ⟨rfl, set (own_arr_at ha) (by simp [own_cw])⟩
  cases i with
  | getfield x =>
    simp only [own_heap] at hs
    split at hs <;> try cases hs
    split at hs <;> try cases hs
    split at hs <;> try cases hs
    split at hs <;> cases hs
    exact ⟨rfl, Nat.le_refl _, Nat.le_refl _⟩
  | putfield x =>
    simp only [own_heap] at hs
    split at hs <;> try cases hs
    split at hs <;> try cases hs
    split at hs <;> try cases hs
    rename_i vs ho
    split at hs <;> try cases hs
    split at hs <;> try cases hs
    split at hs <;> cases hs
    exact ⟨rfl, set (own_obj_at ho) rfl⟩
  | new x =>
    simp only [own_heap] at hs
    split at hs <;> try cases hs
    split at hs <;> cases hs
    exact ⟨rfl, app _⟩
  | newarray x =>
    simp only [own_heap] at hs
    split at hs <;> try cases hs
    split at hs <;> try cases hs
    split at hs <;> cases hs
    exact ⟨rfl, app _⟩
  | arraylength =>
    simp only [own_heap] at hs
    split at hs <;> try cases hs
    split at hs <;> cases hs
    exact ⟨rfl, Nat.le_refl _, Nat.le_refl _⟩
  | iaload => exact ald hs
  | laload => exact ald hs
  | caload => exact ald hs
  | baload => exact ald hs
  | iastore => exact ast hs
  | lastore => exact ast hs
  | castore => exact ast hs
  | bastore => exact ast hs
  | ldc x => simp only [own_heap] at hs; split at hs <;> cases hs; exact ⟨rfl, Nat.le_refl _, Nat.le_refl _⟩
  | ldc_w x => simp only [own_heap] at hs; split at hs <;> cases hs; exact ⟨rfl, Nat.le_refl _, Nat.le_refl _⟩
  | ldc2_w x => simp only [own_heap] at hs; split at hs <;> cases hs; exact ⟨rfl, Nat.le_refl _, Nat.le_refl _⟩
  | checkcast x =>
    simp only [own_heap] at hs
    split at hs <;> try cases hs
    split at hs <;> try cases hs
    split at hs <;> cases hs
    exact ⟨rfl, Nat.le_refl _, Nat.le_refl _⟩
  | invokespecial x =>
    simp only [own_heap] at hs
    split at hs <;> try cases hs
    split at hs <;> try cases hs
    split at hs <;> cases hs
    exact ⟨rfl, Nat.le_refl _, Nat.le_refl _⟩
  | invokestatic x =>
    simp only [own_heap] at hs
    split at hs <;> try cases hs
    split at hs <;> try cases hs
    split at hs <;> try cases hs
    split at hs <;> try cases hs
    rename_i vd hb'
    split at hs <;> try cases hs
    split at hs <;> try cases hs
    split at hs <;> try cases hs
    split at hs <;> cases hs
    rename_i hh
    refine ⟨rfl, set (own_arr_at hb') ?_⟩
    simp only [own_cw, List.length_append, List.length_take, List.length_drop]; omega
  | invokevirtual x =>
    simp only [own_heap] at hs
    split at hs <;> try cases hs
    split at hs <;> try cases hs
    split at hs <;> try cases hs
    split at hs <;> cases hs
    exact ⟨rfl, app _⟩
  | _ => exact nomatch (show (none : Option OSt) = some _ from hs)
theorem own_step_mono {mt : OMth} {d lo : Nat} {i : Instr} {t pc pc' : Nat} {L L' : List Slot} {S S' : List Value} {H H' : OHeap} (hs : own_step P mt d lo i t pc L S H = some (pc', L', S', H')) : L'.length = L.length ∧ H.length ≤ H'.length ∧ own_w P.2.1 H ≤ own_w P.2.1 H' := by
  unfold own_step at hs
  split at hs
  · rename_i e1
    cases hs
    exact ⟨own_pure_len e1, Nat.le_refl _, Nat.le_refl _⟩
  · obtain ⟨rfl, h1, h2⟩ := own_heap_mono hs
    exact ⟨rfl, h1, h2⟩
theorem own_ret_none {mt : OMth} {i : Instr} {S : List Value} {v : Option Value} (h : own_ret mt i S = some v) (hr : mt.rt = none) : v = none := by
  unfold own_ret at h
  rw [hr] at h
  split at h <;> try cases h
  all_goals (split at h <;> first | (cases h; rfl) | (cases h; done))
theorem own_exec_mono : ∀ (q i d lo pc : Nat) (mt : OMth) (L : List Slot) (S : List Value) (H : OHeap) (v : Option Value) (H' : OHeap), P.1[i]? = some mt → own_exec P q i d lo pc L S H = some (v, H') → H.length ≤ H'.length ∧ own_w P.2.1 H ≤ own_w P.2.1 H' ∧ (mt.rt = none → v = none) := by
  intro q
  induction q with
  | zero => intro i d lo pc mt L S H v H' _ h; cases h
  | succ q ih =>
    intro i d lo pc mt L S H v H' hi h
    simp only [own_exec, hi] at h
    split at h
    · cases h
    · rename_i ins t hat
      split at h
      · rename_i w hw
        cases h
        exact ⟨Nat.le_refl _, Nat.le_refl _, own_ret_none hw⟩
      · split at h
        · rename_i j as r hc
          split at h
          · cases h
          · rename_i mj hj
            split at h
            · split at h
              · rename_i v1 H1 he
                obtain ⟨a1, a2, -⟩ := ih j _ _ _ mj _ _ _ _ _ hj he
                obtain ⟨b1, b2, b3⟩ := ih i _ _ _ mt _ _ _ _ _ hi h
                exact ⟨Nat.le_trans a1 b1, Nat.le_trans a2 b2, b3⟩
              · cases h
            · cases h
        · split at h
          · rename_i pc' L' S' H1 hs
            obtain ⟨-, a1, a2⟩ := own_step_mono hs
            obtain ⟨b1, b2, b3⟩ := ih i _ _ _ mt _ _ _ _ _ hi h
            exact ⟨Nat.le_trans a1 b1, Nat.le_trans a2 b2, b3⟩
          · cases h
/-! ### a program that makes nothing -/
theorem own_heap_nil (hK : P.2.1 = []) (hA : P.2.2 = []) {mt : OMth} {d lo : Nat} {i : Instr} {t pc' : Nat} {L L' : List Slot} {S S' : List Value} {H' : OHeap} (hs : own_heap P mt d lo i t L S [] = some (pc', L', S', H')) : H' = [] := by
  have arr : ∀ {a ty vs}, own_arr [] a ty = some vs → False := fun h => by simpa using own_arr_at h
  have obj : ∀ {a k vs}, own_obj [] a k = some vs → False := fun h => by simpa using own_obj_at h
  have ald : ∀ {ty}, own_ald ty t L S [] = some (pc', L', S', H') → H' = [] := by
    intro ty h
    unfold own_ald at h
    split at h <;> try cases h
  have ast : ∀ {ty}, own_ast ty t L S [] = some (pc', L', S', H') → H' = [] := by
    intro ty h
    unfold own_ast at h
    split at h <;> try cases h
  cases i with
  | getfield x =>
    simp only [own_heap] at hs
    split at hs <;> try cases hs
    split at hs <;> try cases hs
  | putfield x =>
    simp only [own_heap] at hs
    split at hs <;> try cases hs
    split at hs <;> try cases hs
  | new x =>
    simp only [own_heap, hK] at hs
    split at hs <;> try cases hs
  | newarray x =>
    simp only [own_heap, hA] at hs
    split at hs <;> try cases hs
    split at hs <;> try cases hs
  | arraylength =>
    simp only [own_heap] at hs
    split at hs <;> try cases hs
  | iaload => exact ald (ty := .int) hs
  | laload => exact ald (ty := .long) hs
  | caload => exact ald (ty := .char) hs
  | baload => exact ald (ty := .byte) hs
  | iastore => exact ast (ty := .int) hs
  | lastore => exact ast (ty := .long) hs
  | castore => exact ast (ty := .char) hs
  | bastore => exact ast (ty := .byte) hs
  | ldc x => simp only [own_heap] at hs; split at hs <;> cases hs; rfl
  | ldc_w x => simp only [own_heap] at hs; split at hs <;> cases hs; rfl
  | ldc2_w x => simp only [own_heap] at hs; split at hs <;> cases hs; rfl
  | checkcast x =>
    simp only [own_heap] at hs
    split at hs <;> try cases hs
    split at hs <;> try cases hs
  | invokespecial x =>
    simp only [own_heap] at hs
    split at hs <;> try cases hs
    split at hs <;> try cases hs
    split at hs <;> cases hs
    rfl
  | invokestatic x =>
    simp only [own_heap] at hs
    split at hs <;> try cases hs
    split at hs <;> try cases hs
  | invokevirtual x =>
    simp only [own_heap] at hs
    split at hs <;> try cases hs
    split at hs <;> try cases hs
  | _ => exact nomatch (show (none : Option OSt) = some _ from hs)
theorem own_exec_nil (hK : P.2.1 = []) (hA : P.2.2 = []) : ∀ (q i d lo pc : Nat) (L : List Slot) (S : List Value) {v : Option Value} (H' : OHeap), own_exec P q i d lo pc L S [] = some (v, H') → H' = [] := by
  intro q
  induction q with
  | zero => intro i d lo pc L S v H' h; cases h
  | succ q ih =>
    intro i d lo pc L S v H' h
    simp only [own_exec] at h
    split at h
    · cases h
    · split at h
      · cases h
      · split at h
        · cases h; rfl
        · split at h
          · split at h
            · cases h
            · split at h
              · split at h
                · rename_i he
                  cases ih _ _ _ _ _ _ _ he
                  exact ih _ _ _ _ _ _ _ h
                · cases h
              · cases h
          · split at h
            · rename_i hs
              unfold own_step at hs
              split at hs
              · cases hs; exact ih _ _ _ _ _ _ _ h
              · cases own_heap_nil hK hA hs
                exact ih _ _ _ _ _ _ _ h
            · cases h
/-! ### the run is the model's -/
def own_Snd (l : Launch) (Z : State) (n : Nat) (P : OPrg) (q : Nat) : Prop :=
  ∀ (i d lo pc : Nat) (mt : OMth) (L : List Slot) (S : List Value) (H : OHeap) (v : Option Value) (H' : OHeap), P.1[i]? = some mt → own_exec P q i d lo pc L S H = some (v, H') → L.length = mt.ml →
  ∀ (p : Program) (e : Env) (R : Room) (s : State) (m : MethodId) (args : Array Value) (below : List Frame) (meth : Method) (c : Code) (T : State) (locs : List Loc) (cells slots : Nat),
    Stand p l e R s m args below meth c T locs cells slots → p.tables.exec = Jvm.exec → Z.Warmed39 s.vm → c.code = mt.bs → c.maxLocals = mt.ml → s.vm.findClass mt.nm.cls = some m.cls → meth.sig.returnType = mt.rt → meth.name = mt.nm.name → (s.heap.size + cells = n + H.length ∨ (H = [] ∧ P.2.1 = [] ∧ P.2.2 = [])) →
    own_rep Z n P.2.1 H T.heap → Fr n locs → d ≤ R.frames → lo ≤ R.locals → cells + (H'.length - H.length) ≤ R.cells → slots + (own_w P.2.1 H' - own_w P.2.1 H) ≤ R.slots →
    ∃ (T' : State) (locs' : List Loc), Stand p l e R s m args below meth c T' locs' (cells + (H'.length - H.length)) (slots + (own_w P.2.1 H' - own_w P.2.1 H)) ∧ own_rep Z n P.2.1 H' T'.heap ∧ Fr n locs' ∧
      ∀ fs : List Frame, (∀ (f : JFrame) (acts : List Action), f.method = m → f.locked = none → f.entered = [] → (doReturn e (T'.setTop f) acts (v.map (own_sh n))).1 = T'.setFrames fs) → Steps p.tables e below (T.setTop (own_fr n m pc L S)) (T'.setFrames fs)
theorem own_met (G : own_good Z a0 P) {q : Nat} (hS : own_Snd l Z n P q) {j d lo : Nat} {mj : OMth} {as : List Value} {H H' : OHeap} {v : Option Value} (hj : P.1[j]? = some mj) (he : own_exec P q j d lo 0 (own_entry as mj.ml) [] H = some (v, H')) (hlen : (own_entry as mj.ml).length = mj.ml) (ws : List Jvm.Cond) (R : Room)
    (hdf : d ≤ R.frames) (hlo : lo ≤ R.locals) (hc : H'.length - H.length ≤ R.cells) (hs : own_w P.2.1 H' - own_w P.2.1 H ≤ R.slots) (h : Heap) (hr : own_rep Z n P.2.1 H h) :
    MetFree l mj.nm (head1 (Jvm.Cond.code mj.nm mj.bs mj.ml mj.rt :: ws) R) (fun a U => a = (as.map (own_sh n)).toArray ∧ Z.Warmed39 U.vm ∧ U.heap = h) (fun _ _ _ _ _ => True)
      (fun _ U o U' => ∃ w L, o = .returned w ∧ (w = v.map (own_sh n) ∧ own_rep Z n P.2.1 H' U'.heap ∧ Fr n L) ∧ FrameEnd U o U' L (H'.length - H.length) (own_w P.2.1 H' - own_w P.2.1 H)) := by
  obtain ⟨GM, -, -⟩ := G
  obtain ⟨hpl, -, -, -⟩ := GM mj (List.mem_of_getElem? hj)
  refine MetFree.of_bodySF hpl hisR ?_
  intro p e s m args below meth c s₁ Bd hml0 hP hK
  obtain ⟨rfl, hZ, hh⟩ := hP
  have hown := findClass_of_methodNamed Bd.named
  have hnm := (name_of_methodNamed Bd.named Bd.method).1
  have X0 : Stand p l e R s m _ below meth c s₁ [] 0 0 := Stand.of_body Bd
  have e0 : s₁.heap = h := by rw [← hh, Bd.state]; rfl
  obtain ⟨-, -, hvn⟩ := own_exec_mono q j d lo 0 mj _ _ _ _ _ hj he
  obtain ⟨T', locs', X', hr', N', st⟩ := hS j d lo 0 mj _ [] H v H' hj he hlen p e R s m _ below meth c s₁ [] 0 0 X0 Bd.exec hZ Bd.bytes hml0 hown Bd.returns hnm (Or.inl (by rw [hh, hr.1]; rfl)) (by rw [e0]; exact hr) (Fr.nil n) hdf hlo (by omega) (by omega)
  obtain ⟨fs, hl, hrun, hended, hW, hsame⟩ := X'.leave (v := v.map (own_sh n)) (fun h => by rw [Bd.returns] at h; rw [hvn h]; rfl)
  have ef : entryFrame m (as.map (own_sh n)).toArray mj.ml = own_fr n m 0 (own_entry as mj.ml) [] := by
    unfold entryFrame; rw [own_args_ok]; rfl
  refine ⟨_, _, castTop ef (st fs hl), hrun, hended, _, _, rfl, ⟨rfl, hr', N'⟩, ⟨_, rfl⟩, hW, hsame.mono (by omega) (by omega)⟩
theorem own_private {s : State} {args : Array Value} {y : MethodName} (hnf : NotFace s y) (hp : (Jvm.Cond.privateMethod y).before args s = true) (hi : (Jvm.Cond.instanceMethod y).before args s = true) (hy : own_okY y) : (Jvm.Cond.selects y.cls y y).before args s = true := by
  obtain ⟨mk, methM, hnamed, -, -, -⟩ := Cond.instanceMethod_spec hi
  obtain ⟨k, h1, h2⟩ := hnf mk hnamed
  exact selects_self_of_private (findClass_of_methodNamed hnamed) h1 h2 (Cond.privateMethod_at hp) hi hy
theorem own_same {s : State} {args : Array Value} {y : MethodName} (hnf : NotFace s y) (hi : (Jvm.Cond.instanceMethod y).before args s = true) (hy : own_okY y) : (Jvm.Cond.sameMethod y.cls y.cls y.name y.desc).before args s = true := by
  obtain ⟨mk, methM, hnamed, -, -, -⟩ := Cond.instanceMethod_spec hi
  obtain ⟨k, h1, h2⟩ := hnf mk hnamed
  have h3 := findClass_of_methodNamed hnamed
  have h4 := State.methodFound?_of_named hnamed hy
  have h5 : s.methodNamed? ⟨y.cls, y.name, y.desc⟩ = some mk := hnamed
  simp only [Cond.before, Cond.holds, Cond.value, h3, h4, h5, h1]
  simp [h2]
set_option maxHeartbeats 4000000 in
theorem own_call_ok (G : own_good Z a0 P) {q : Nat} (hS : own_Snd l Z n P q) {mt : OMth} (hM : mt ∈ P.1) {ins : Instr} {t pc len j d lo : Nat} {L : List Slot} {S as r : List Value} {H H1 : OHeap} {mj : OMth} {v : Option Value} (hc : own_call P mt ins S H = some (j, as, r)) (hj : P.1[j]? = some mj)
    (hq : 1 ≤ d ∧ own_wt r + (mj.ml + 11) ≤ lo ∧ (own_entry as mj.ml).length = mj.ml) (he : own_exec P q j (d - 1) (lo - (own_wt r + (mj.ml + 11))) 0 (own_entry as mj.ml) [] H = some (v, H1))
    {p : Program} {e : Env} {R : Room} {s : State} {m : MethodId} {args : Array Value} {below : List Frame} {meth : Method} {c : Code} {T : State} {locs : List Loc} {cells slots : Nat}
    (X : Stand p l e R s m args below meth c T locs cells slots) (hx : p.tables.exec = Jvm.exec) (hZ : Z.Warmed39 s.vm) (hml : c.maxLocals = mt.ml) (hown : s.vm.findClass mt.nm.cls = some m.cls)
    (hd : decode c.code pc = .ok (ins, len)) (ht : own_tgt pc len t ins = true) (hL : L.length = mt.ml)
    (hr : own_rep Z n P.2.1 H T.heap) (hf : Fr n locs) (hdf : d ≤ R.frames) (hlo : lo ≤ R.locals) (hce : cells + (H1.length - H.length) ≤ R.cells) (hsl : slots + (own_w P.2.1 H1 - own_w P.2.1 H) ≤ R.slots) :
    ∃ (T' : State) (locs' : List Loc), Stand p l e R s m args below meth c T' locs' (cells + (H1.length - H.length)) (slots + (own_w P.2.1 H1 - own_w P.2.1 H)) ∧ own_rep Z n P.2.1 H1 T'.heap ∧ Fr n locs' ∧
      ∀ target, Steps p.tables e below (T'.setTop (own_fr n m t L (v.toList ++ r))) target → Steps p.tables e below (T.setTop (own_fr n m pc L S)) target := by
  have G' := G
  obtain ⟨GM, GK, GA⟩ := G
  obtain ⟨-, -, -, GE⟩ := GM mt hM
  obtain ⟨-, wc, -, -⟩ := GM mj (List.mem_of_getElem? hj)
  have hz : (L.map (own_shS n)).toArray.size = c.maxLocals := by rw [hml, ← hL]; simp
  have ent : ∀ {x t}, own_ent mt.en x = some t → own_okE Z a0 P mt.nm x t := fun h => GE _ (own_ent_mem h)
  have ev : (v.toList ++ r).map (own_sh n) = (v.map (own_sh n)).toList ++ r.map (own_sh n) := by cases v <;> simp
  have hK := fun (wz : (Jvm.Cond.initialized mj.nm.cls).before a0 Z = true) => backOf (rm := ({ frames := d - 1, cells := H1.length - H.length, slots := own_w P.2.1 H1 - own_w P.2.1 H, locals := lo - (own_wt r + (mj.ml + 11)) } : Room)) (Q := fun w h' L => w = v.map (own_sh n) ∧ own_rep Z n P.2.1 H1 h' ∧ Fr n L) (l := l) (h := T.heap) (R := R) (below := below) (e := e) (args := args) (p := p) (W := own_wt r) (len := 3) (own_met G' hS hj he hq.2.2 [] ({ frames := d - 1, cells := H1.length - H.length, slots := own_w P.2.1 H1 - own_w P.2.1 H, locals := lo - (own_wt r + (mj.ml + 11)) } : Room) (Nat.le_refl _) (Nat.le_refl _) (Nat.le_refl _) (Nat.le_refl _) T.heap hr) hZ wc wz (by show d - 1 + 1 ≤ _; omega) (by show own_wt r + (mj.ml + 11) + (lo - (own_wt r + (mj.ml + 11))) ≤ _; omega)
  have hW : 2 * (own_fr n m pc L S).monitorRoom + ((r.map (own_sh n)).map fun v => v.category).sum ≤ own_wt r := by show 2 * 0 + _ ≤ _; rw [own_wt_sh]; omega
  have hpre : ∀ (a : Array Value), a = (as.map (own_sh n)).toArray → ∀ vm₁ : Vm, s.WarmedH vm₁ → (a = (as.map (own_sh n)).toArray ∧ (T.setVm vm₁).heap = T.heap ∧ cells + (H1.length - H.length) ≤ R.cells ∧ slots + (own_w P.2.1 H1 - own_w P.2.1 H) ≤ R.slots) := fun a ha vm₁ _ => ⟨ha, rfl, hce, hsl⟩
  cases ins with
  | invokestatic x =>
    obtain ⟨rfl, rfl⟩ := own_t ht
    simp only [own_call] at hc
    split at hc <;> try cases hc
    rename_i j' u1 u2 hen
    split at hc <;> try cases hc
    rename_i mj' hj'
    split at hc <;> cases hc
    rename_i hsp
    cases hj.symm.trans hj'
    obtain ⟨mj', g1, g2, g3, g4, g5, ps, rr, g6, g7⟩ := ent hen
    cases hj.symm.trans g1
    obtain ⟨s1, s2⟩ := own_split_ok hsp
    obtain ⟨w, vm₁, ⟨T1, L1, k1, n1⟩, -, X1, ⟨Lc, hQ, l1, y1, z1⟩, st⟩ := Jvm.LawKit.callS X hx (y := mj.nm) hown (mvT hZ g2) (mvT hZ g3) (mvT hZ g4) (mvT hZ wc) g5 (hK g4) (g := own_fr n m pc L S) rfl hz (argsL := as.map (own_sh n)) (rest := r.map (own_sh n)) (lenOf g6 (by rw [List.length_map, s2, ← g7]; simp)) (by show S.map (own_sh n) = _; rw [← List.map_reverse, ← List.map_append, s1]; rfl) hW hd (hpre _ rfl)
    dsimp only [Pt.U, Pt.locs, Pt.cells, Pt.slots] at X1 l1 y1 z1 st hQ
    subst l1 y1 z1
    obtain ⟨rfl, q2, q3⟩ := hQ
    refine ⟨T1, _, X1, q2, Fr.app hf q3, fun target k => st target ?_⟩
    rw [← ev]; exact k
  | invokespecial x =>
    obtain ⟨rfl, rfl⟩ := own_t ht
    simp only [own_call] at hc
    split at hc
    · rename_i j' u1 u2 hen
      split at hc <;> try cases hc
      rename_i mj' hj'
      split at hc <;> cases hc
      rename_i a as' hsp
      cases hj.symm.trans hj'
      obtain ⟨mj', g1, g2, g3, g4, g5, g6, g7, ps, rr, g8, g9⟩ := ent hen
      cases hj.symm.trans g1
      obtain ⟨s1, s2⟩ := own_split_ok hsp
      simp only [List.length_cons, List.length_nil] at s2
      obtain ⟨w, vm₁, ⟨T1, L1, k1, n1⟩, -, X1, ⟨Lc, hQ, l1, y1, z1⟩, st⟩ := X.specialBack hx (y := mj.nm) g2 hown (mvT hZ g4) (mvT hZ g5) (mvT hZ (show (Jvm.Cond.code mj.nm mj.bs mj.ml none).before a0 Z = true from g3 ▸ wc)) g7 (hK g6) (g := own_fr n m pc L S) rfl hz (Steps.refl _) (a := n + a) (argsL := as'.map (own_sh n)) (rest := r.map (own_sh n)) (lenOf g8 (by rw [List.length_map]; omega)) (by
        show S.map (own_sh n) = _
        rw [show S = as'.reverse ++ .ref a :: r by simpa using s1.symm]
        simp [own_sh]) hW hd (hpre _ (by simp [own_sh]))
      dsimp only [Pt.U, Pt.locs, Pt.cells, Pt.slots] at X1 l1 y1 z1 st hQ
      subst l1 y1 z1
      obtain ⟨rfl, q2, q3⟩ := hQ
      refine ⟨T1, _, X1, q2, Fr.app hf q3, fun target k => st.trans ?_⟩
      rw [← ev]; exact k
    · rename_i j' k0 u2 hen
      split at hc <;> try cases hc
      rename_i mj' hj'
      split at hc <;> try cases hc
      rename_i a as' r' hsp
      split at hc <;> cases hc
      rename_i vs ho
      cases hj.symm.trans hj'
      obtain ⟨mj', kc, g1, g2, g3, g4, g5, g6, g7, g8, g9, ps, rr, g11, g12⟩ := ent hen
      cases hj.symm.trans g1
      obtain ⟨s1, s2⟩ := own_split_ok hsp
      simp only [List.length_cons, List.length_nil] at s2
      obtain ⟨kc', f1, f2, -, -⟩ := hr.2 a _ (own_obj_at ho)
      obtain ⟨w, vm₁, ⟨T1, L1, k1, n1⟩, -, X1, ⟨Lc, hQ, l1, y1, z1⟩, st⟩ := superBack X hx hZ (y := mj.nm) hown g4 (own_same g7 g5 g9) g5 g6 g3 (hK g8) rfl (Ins.self f2) (g := own_fr n m pc L S) rfl hz wc (argsL := as'.map (own_sh n)) (rest := r.map (own_sh n)) (lenOf g11 (by rw [List.length_map]; omega)) (by
        show S.map (own_sh n) = _
        rw [show S = as'.reverse ++ .ref a :: r by simpa using s1.symm]
        simp [own_sh]) hW hd (hpre _ (by simp [own_sh]))
      dsimp only [Pt.U, Pt.locs, Pt.cells, Pt.slots] at X1 l1 y1 z1 st hQ
      subst l1 y1 z1
      obtain ⟨rfl, q2, q3⟩ := hQ
      refine ⟨T1, _, X1, q2, Fr.app hf q3, fun target k => st.trans ?_⟩
      rw [← ev]; exact k
    · cases hc
  | invokevirtual x =>
    obtain ⟨rfl, rfl⟩ := own_t ht
    simp only [own_call] at hc
    split at hc
    · rename_i j' k0 u2 hen
      split at hc <;> try cases hc
      rename_i mj' hj'
      split at hc <;> try cases hc
      rename_i a as' r' hsp
      split at hc <;> cases hc
      rename_i vs ho
      cases hj.symm.trans hj'
      obtain ⟨mj', kc, yv, g1, g2, g3, g4, g5, g6, g7, g8, g9, g10, ps, rr, g11, g12⟩ := ent hen
      cases hj.symm.trans g1
      obtain ⟨s1, s2⟩ := own_split_ok hsp
      simp only [List.length_cons, List.length_nil] at s2
      obtain ⟨kc', f1, f2, -, -⟩ := hr.2 a _ (own_obj_at ho)
      cases g2.symm.trans f1
      obtain ⟨cq, kq, qa, qb, qc⟩ := isOf hZ rfl f2
      obtain ⟨w, vm₁, ⟨T1, L1, k1, n1⟩, -, X1, ⟨Lc, hQ, l1, y1, z1⟩, st⟩ := X.virtualBack hx (y := yv) (z := mj.nm) hown (mvT hZ g4) (mvT hZ g5) (g9 s hZ) (mvT hZ g6) (mvT hZ g7) g10 (hK g8) qa qc (g := own_fr n m pc L S) rfl hz (Steps.refl _) (argsL := as'.map (own_sh n)) (rest := r.map (own_sh n)) (by rw [g3]; exact lenOf g11 (by rw [List.length_map]; omega)) (by
        show S.map (own_sh n) = _
        rw [show S = as'.reverse ++ .ref a :: r by simpa using s1.symm]
        simp [own_sh]) hW hd (hpre _ (by simp [own_sh]))
      dsimp only [Pt.U, Pt.locs, Pt.cells, Pt.slots] at X1 l1 y1 z1 st hQ
      subst l1 y1 z1
      obtain ⟨rfl, q2, q3⟩ := hQ
      refine ⟨T1, _, X1, q2, Fr.app hf q3, fun target k => st.trans ?_⟩
      rw [← ev]; exact k
    · rename_i j' k0 u2 hen
      split at hc <;> try cases hc
      rename_i mj' hj'
      split at hc <;> try cases hc
      rename_i a as' r' hsp
      split at hc <;> cases hc
      rename_i vs ho
      cases hj.symm.trans hj'
      obtain ⟨mj', g1, g4, g5, g6, g7, g8, g9, ps, rr, g11, g12⟩ := ent hen
      cases hj.symm.trans g1
      obtain ⟨s1, s2⟩ := own_split_ok hsp
      simp only [List.length_cons, List.length_nil] at s2
      obtain ⟨kc', f1, f2, -, -⟩ := hr.2 a _ (own_obj_at ho)
      obtain ⟨cq, qa, qb⟩ := f2.cell
      have wp := mvP (args := args) hZ g6
      have wi := mvT (args := args) hZ g5
      obtain ⟨w, vm₁, ⟨T1, L1, k1, n1⟩, -, X1, ⟨Lc, hQ, l1, y1, z1⟩, st⟩ := X.privateBack hx (y := mj.nm) hown (mvT hZ g4) wi (own_private (g7 s hZ) wp wi g9) (Cond.privateMethod_at wp) (mvT hZ wc) g9 (hK g8) (g := own_fr n m pc L S) rfl hz (Steps.refl _) (a := n + a) qa qb (argsL := as'.map (own_sh n)) (rest := r.map (own_sh n)) (lenOf g11 (by rw [List.length_map]; omega)) (by
        show S.map (own_sh n) = _
        rw [show S = as'.reverse ++ .ref a :: r by simpa using s1.symm]
        simp [own_sh]) hW hd (hpre _ (by simp [own_sh]))
      dsimp only [Pt.U, Pt.locs, Pt.cells, Pt.slots] at X1 l1 y1 z1 st hQ
      subst l1 y1 z1
      obtain ⟨rfl, q2, q3⟩ := hQ
      refine ⟨T1, _, X1, q2, Fr.app hf q3, fun target k => st.trans ?_⟩
      rw [← ev]; exact k
    · rename_i j' k0 u2 hen
      split at hc <;> try cases hc
      rename_i mj' hj'
      split at hc <;> try cases hc
      rename_i a as' r' hsp
      split at hc <;> cases hc
      rename_i vs ho
      cases hj.symm.trans hj'
      obtain ⟨mj', kc, yv, ow, g1, g2, g3, g4, g5, g6, g7, g8, g9, g10, ps, rr, g11, g12⟩ := ent hen
      cases hj.symm.trans g1
      obtain ⟨s1, s2⟩ := own_split_ok hsp
      simp only [List.length_cons, List.length_nil] at s2
      obtain ⟨kc', f1, f2, -, -⟩ := hr.2 a _ (own_obj_at ho)
      cases g2.symm.trans f1
      obtain ⟨cq, kq, qa, qb, qc⟩ := isOf hZ rfl f2
      obtain ⟨w, vm₁, ⟨T1, L1, k1, n1⟩, -, X1, ⟨Lc, hQ, l1, y1, z1⟩, st⟩ := X.virtualBackUp hx (x := yv) (y := mj.nm) (owner := ow) hown (mvT hZ g4) (mvT hZ g5) (mvT hZ g6) g10 (mvT hZ g7) (mvT hZ g8) (hK g9) qa qc (g := own_fr n m pc L S) rfl hz (Steps.refl _) (argsL := as'.map (own_sh n)) (rest := r.map (own_sh n)) (by rw [g3]; exact lenOf g11 (by rw [List.length_map]; omega)) (by
        show S.map (own_sh n) = _
        rw [show S = as'.reverse ++ .ref a :: r by simpa using s1.symm]
        simp [own_sh]) hW hd (hpre _ (by simp [own_sh]))
      dsimp only [Pt.U, Pt.locs, Pt.cells, Pt.slots] at X1 l1 y1 z1 st hQ
      subst l1 y1 z1
      obtain ⟨rfl, q2, q3⟩ := hQ
      refine ⟨T1, _, X1, q2, Fr.app hf q3, fun target k => st.trans ?_⟩
      rw [← ev]; exact k
    · cases hc
  | _ => exact nomatch (show (none : Option (Nat × List Value × List Value)) = some _ from hc)
theorem own_ret_ok {mt : OMth} {i : Instr} {S : List Value} {v : Option Value} (h : own_ret mt i S = some v) {pc len t : Nat} {L : List Slot}
    {p : Program} {e : Env} {R : Room} {s : State} {m : MethodId} {args : Array Value} {below : List Frame} {meth : Method} {c : Code} {T : State} {locs : List Loc} {cells slots : Nat}
    (X : Stand p l e R s m args below meth c T locs cells slots) (hx : p.tables.exec = Jvm.exec) (hret : meth.sig.returnType = mt.rt) (hd : decode c.code pc = .ok (i, len)) (ht : own_tgt pc len t i = true) {fs : List Frame}
    (hl : ∀ (f : JFrame) (acts : List Action), f.method = m → f.locked = none → f.entered = [] → (doReturn e (T.setTop f) acts (v.map (own_sh n))).1 = T.setFrames fs) : Steps p.tables e below (T.setTop (own_fr n m pc L S)) (T.setFrames fs) := by
  cases i with
  | return_ =>
    obtain ⟨rfl, rfl⟩ := own_t ht
    simp only [own_ret] at h
    split at h <;> cases h
    rename_i h1
    exact X.returnOut hx (hret.trans h1) hd hl
  | ireturn =>
    obtain ⟨rfl, rfl⟩ := own_t ht
    simp only [own_ret] at h
    split at h <;> cases h
    · rename_i h1
      exact retOut X hx (hret.trans h1) rfl (Or.inl ⟨rfl, Or.inl rfl, _, rfl⟩) hd hl
    · rename_i h1
      exact retN X hx (t := .boolean) (hret.trans h1) (by simp) hd hl
    · rename_i h1
      exact retN X hx (t := .byte) (hret.trans h1) (by simp) hd hl
    · rename_i h1
      exact retN X hx (t := .char) (hret.trans h1) (by simp) hd hl
    · rename_i h1
      exact retN X hx (t := .short) (hret.trans h1) (by simp) hd hl
  | lreturn =>
    obtain ⟨rfl, rfl⟩ := own_t ht
    simp only [own_ret] at h
    split at h <;> cases h
    rename_i h1
    exact retOut X hx (hret.trans h1) rfl (Or.inr (Or.inl ⟨rfl, rfl, _, rfl⟩)) hd hl
  | areturn =>
    obtain ⟨rfl, rfl⟩ := own_t ht
    simp only [own_ret] at h
    split at h <;> cases h
    all_goals
      rename_i h1
      exact retOut X hx (hret.trans h1) rfl (Or.inr (Or.inr (Or.inr (Or.inr ⟨rfl, rfl, rfl⟩)))) hd hl
  | _ => exact nomatch (show (none : Option (Option Value)) = some _ from h)
theorem own_sound (l : Launch) {n : Nat} (G : own_good Z a0 P) : ∀ q, own_Snd l Z n P q := by
  intro q
  induction q with
  | zero => intro i d lo pc mt L S H v H' _ h; cases h
  | succ q ih =>
    intro i d lo pc mt L S H v H' hi h hL p e R s m args below meth c T locs cells slots X hx hZ hby hml hown hret hnm hb hr hf hdf hlo hce hsl
    have hM : mt ∈ P.1 := List.mem_of_getElem? hi
    obtain ⟨-, -, hcd, -⟩ := G.1 mt hM
    simp only [own_exec, hi] at h
    split at h
    · cases h
    · rename_i ins t hat
      obtain ⟨len, hd0, ht⟩ := own_at_ok hcd hat
      have hd : decode c.code pc = .ok (ins, len) := by rw [hby]; exact hd0
      split at h
      · rename_i w hw
        cases h
        refine ⟨T, locs, ?_, hr, hf, fun fs hl => own_ret_ok hw X hx hret hd ht hl⟩
        rw [Nat.sub_self, Nat.sub_self]; exact X
      · split at h
        · rename_i j as r hc
          split at h
          · cases h
          · rename_i mj hj
            split at h
            · rename_i hq
              split at h
              · rename_i v1 H1 he
                obtain ⟨a1, a2, -⟩ := own_exec_mono q j _ _ _ mj _ _ _ _ _ hj he
                obtain ⟨b1, b2, -⟩ := own_exec_mono q i _ _ _ mt _ _ _ _ _ hi h
                obtain ⟨T1, locs1, X1, hr1, hf1, st1⟩ := own_call_ok G ih hM hc hj hq he X hx hZ hml hown hd ht hL hr hf hdf hlo (by omega) (by omega)
                obtain ⟨T2, locs2, X2, hr2, hf2, st2⟩ := ih i d lo t mt L _ H1 v H' hi h hL p e R s m args below meth c T1 locs1 _ _ X1 hx hZ hby hml hown hret hnm (hb.elim (fun q => Or.inl (by omega)) fun q => Or.inr ⟨own_exec_nil q.2.1 q.2.2 _ _ _ _ _ _ _ _ (by have := he; rw [q.1] at this; exact this), q.2⟩) hr1 hf1 hdf hlo (by omega) (by omega)
                exact ⟨T2, locs2, X2.more (by omega) (by omega), hr2, hf2, fun fs hl => st1 _ (st2 fs hl)⟩
              · cases h
            · cases h
        · split at h
          · rename_i pc' L' S' H1 hs
            obtain ⟨a0, a1, a2⟩ := own_step_mono hs
            obtain ⟨b1, b2, -⟩ := own_exec_mono q i _ _ _ mt _ _ _ _ _ hi h
            unfold own_step at hs
            split at hs
            · rename_i e1
              cases hs
              obtain ⟨T2, locs2, X2, hr2, hf2, st2⟩ := ih i d lo pc' mt L' S' H v H' hi h (by omega) p e R s m args below meth c T locs cells slots X hx hZ hby hml hown hret hnm hb hr hf hdf hlo hce hsl
              exact ⟨T2, locs2, X2, hr2, hf2, fun fs hl => (own_pure_ok X.here hx hd ht e1 (st2 fs hl)).1⟩
            · obtain ⟨rfl, -, -, T1, locs1, X1, hr1, hf1, st1⟩ := own_heap_ok G hM hs X hx hZ hml hown hnm hd ht hL hb hr hf hdf hlo (by omega) (by omega)
              obtain ⟨T2, locs2, X2, hr2, hf2, st2⟩ := ih i d lo pc' mt L' S' H1 v H' hi h hL p e R s m args below meth c T1 locs1 _ _ X1 hx hZ hby hml hown hret hnm (hb.elim (fun q => Or.inl (by omega)) fun q => Or.inr ⟨own_heap_nil q.2.1 q.2.2 (by have := hs; rw [q.1] at this; exact this), q.2⟩) hr1 hf1 hdf hlo (by omega) (by omega)
              exact ⟨T2, locs2, X2.more (by omega) (by omega), hr2, hf2, fun fs hl => st1 _ (st2 fs hl)⟩
          · cases h
end OwnMain
/-! ## RUNS: with fuel enough -/
def own_run (P : OPrg) (i d lo pc : Nat) (L : List Slot) (S : List Value) (H : OHeap) (r : Option Value × OHeap) : Prop := ∃ q, own_exec P q i d lo pc L S H = some r
section OwnRun
variable {P : OPrg} {mt : OMth} {d d' lo lo' : Nat} {ins : Instr} {t pc : Nat} {L : List Slot} {S : List Value} {H : OHeap}
theorem own_heap_more {z : OSt} (hd : d ≤ d') (hl : lo ≤ lo') (h : own_heap P mt d lo ins t L S H = some z) : own_heap P mt d' lo' ins t L S H = some z := by
  cases ins with
  | invokespecial x =>
    simp only [own_heap] at h ⊢
    split at h <;> try cases h
    split at h <;> try cases h
    split at h <;> cases h
    rename_i hq
    rw [if_pos ⟨Nat.le_trans hq.1 hd, Nat.le_trans hq.2 hl⟩]
  | invokestatic x =>
    simp only [own_heap] at h ⊢
    split at h <;> try cases h
    split at h <;> try cases h
    split at h <;> try cases h
    rename_i e1
    split at h <;> try cases h
    rename_i e2
    split at h <;> try cases h
    rename_i e3
    split at h <;> try cases h
    rename_i e4
    split at h <;> try cases h
    rename_i e5
    split at h <;> cases h
    rename_i hq
    rw [if_pos ⟨⟨Nat.le_trans hq.1.1 hd, Nat.le_trans hq.1.2 hl⟩, hq.2⟩]
  | invokevirtual x =>
    simp only [own_heap] at h ⊢
    split at h <;> try cases h
    split at h <;> try cases h
    split at h <;> try cases h
    rename_i e1
    split at h <;> cases h
    rename_i hq
    rw [if_pos ⟨Nat.le_trans hq.1 hd, Nat.le_trans hq.2 hl⟩]
  | _ => exact h
theorem own_step_more {z : OSt} (hd : d ≤ d') (hl : lo ≤ lo') (h : own_step P mt d lo ins t pc L S H = some z) : own_step P mt d' lo' ins t pc L S H = some z := by
  unfold own_step at h ⊢
  split
  · rename_i e; simp only [e] at h; exact h
  · rename_i e; simp only [e] at h; exact own_heap_more hd hl h
end OwnRun
theorem own_exec_more {P : OPrg} : ∀ (q : Nat) {q' i d d' lo lo' pc : Nat} {L : List Slot} {S : List Value} {H : OHeap} {r : Option Value × OHeap}, q ≤ q' → d ≤ d' → lo ≤ lo' → own_exec P q i d lo pc L S H = some r → own_exec P q' i d' lo' pc L S H = some r := by
  intro q
  induction q with
  | zero => intro q' i d d' lo lo' pc L S H r _ _ _ h; cases h
  | succ q ih =>
    intro q' i d d' lo lo' pc L S H r hq hd hl h
    obtain ⟨q', rfl⟩ : ∃ k, q' = k + 1 := ⟨q' - 1, by omega⟩
    have hq' : q ≤ q' := by omega
    simp only [own_exec] at h ⊢
    split
    · rename_i e; simp only [e] at h; cases h
    · rename_i mt e; simp only [e] at h
      split
      · rename_i e1; simp only [e1] at h; cases h
      · rename_i ins t e1; simp only [e1] at h
        split
        · rename_i v e2; simp only [e2] at h; exact h
        · rename_i e2; simp only [e2] at h
          split
          · rename_i j as r' e3; simp only [e3] at h
            split
            · rename_i e4; simp only [e4] at h; cases h
            · rename_i mj e4; simp only [e4] at h
              split at h
              · rename_i hc
                rw [if_pos ⟨Nat.le_trans hc.1 hd, Nat.le_trans hc.2.1 hl, hc.2.2⟩]
                split at h
                · rename_i v H' e5
                  have e6 := ih hq' (show d - 1 ≤ d' - 1 by omega) (show lo - (own_wt r' + (mj.ml + 11)) ≤ lo' - (own_wt r' + (mj.ml + 11)) by omega) e5
                  simp only [e6]
                  exact ih hq' hd hl h
                · cases h
              · cases h
          · rename_i e3; simp only [e3] at h
            split at h
            · rename_i e4
              simp only [own_step_more hd hl e4]
              exact ih hq' hd hl h
            · cases h
section OwnRun
variable {P : OPrg} {i d d' lo lo' pc : Nat} {L : List Slot} {S : List Value} {H : OHeap} {r : Option Value × OHeap}
theorem own_run.more (hd : d ≤ d') (hl : lo ≤ lo') (h : own_run P i d lo pc L S H r) : own_run P i d' lo' pc L S H r := h.imp fun q hq => own_exec_more q (Nat.le_refl _) hd hl hq
theorem own_run.fuel (q : Nat) (h : own_exec P q i d lo pc L S H = some r) : own_run P i d lo pc L S H r := ⟨q, h⟩
/-- so many steps of the frame and the heap, no call among them -/
def own_go (P : OPrg) (mt : OMth) (d lo : Nat) : Nat → Nat → List Slot → List Value → OHeap → Option OSt
  | 0, pc, L, S, H => some (pc, L, S, H)
  | q + 1, pc, L, S, H =>
    match own_at mt pc with
    | none => none
    | some (ins, t) =>
      match own_ret mt ins S with
      | some _ => none
      | none =>
        match own_call P mt ins S H with
        | some _ => none
        | none =>
          match own_step P mt d lo ins t pc L S H with
          | some (pc', L', S', H') => own_go P mt d lo q pc' L' S' H'
          | none => none
theorem own_run.go {mt : OMth} (hi : P.1[i]? = some mt) (q : Nat) : ∀ {pc pc' : Nat} {L L' : List Slot} {S S' : List Value} {H H' : OHeap}, own_go P mt d lo q pc L S H = some (pc', L', S', H') → own_run P i d lo pc' L' S' H' r → own_run P i d lo pc L S H r := by
  induction q with
  | zero => intro pc pc' L L' S S' H H' h k; cases h; exact k
  | succ q ih =>
    intro pc pc' L L' S S' H H' h k
    simp only [own_go] at h
    split at h
    · cases h
    · rename_i ins t e1
      split at h
      · cases h
      · rename_i e2
        split at h
        · cases h
        · rename_i e3
          split at h
          · rename_i e4
            obtain ⟨f, hf⟩ := ih h k
            exact ⟨f + 1, by simp only [own_exec, hi, e1, e2, e3, e4]; exact hf⟩
          · cases h
theorem own_run.ret {mt : OMth} (hi : P.1[i]? = some mt) {ins : Instr} {t : Nat} {v : Option Value} (h1 : own_at mt pc = some (ins, t)) (h2 : own_ret mt ins S = some v) : own_run P i d lo pc L S H (v, H) := ⟨1, by simp only [own_exec, hi, h1, h2]⟩
theorem own_run.call {mt mj : OMth} (hi : P.1[i]? = some mt) {ins : Instr} {t j : Nat} {as r' : List Value} {v : Option Value} {H' : OHeap} (h1 : own_at mt pc = some (ins, t)) (h2 : own_ret mt ins S = none) (h3 : own_call P mt ins S H = some (j, as, r')) (hj : P.1[j]? = some mj)
    (h4 : 1 ≤ d ∧ own_wt r' + (mj.ml + 11) ≤ lo ∧ (own_entry as mj.ml).length = mj.ml) (k1 : own_run P j (d - 1) (lo - (own_wt r' + (mj.ml + 11))) 0 (own_entry as mj.ml) [] H (v, H')) (k2 : own_run P i d lo t L (v.toList ++ r') H' r) : own_run P i d lo pc L S H r := by
  obtain ⟨q1, e1⟩ := k1
  obtain ⟨q2, e2⟩ := k2
  refine ⟨max q1 q2 + 1, ?_⟩
  simp only [own_exec, hi, h1, h2, h3, hj, if_pos h4, own_exec_more q1 (Nat.le_max_left q1 q2) (Nat.le_refl _) (Nat.le_refl _) e1]
  exact own_exec_more q2 (Nat.le_max_right q1 q2) (Nat.le_refl _) (Nat.le_refl _) e2
end OwnRun
/-- a run of the law that ends: the model's -/
theorem own_law (l : Launch) {Z : State} {a0 : Array Value} {P : OPrg} (G : own_good Z a0 P) {mt : OMth} (hi : P.1[0]? = some mt) {as : List Value} {v : Option Value} {H' : OHeap} {d lo : Nat} (hlen : (own_entry as mt.ml).length = mt.ml) (h : own_run P 0 d lo 0 (own_entry as mt.ml) [] [] (v, H')) (ws : List Jvm.Cond) (R : Room)
    (hdf : d ≤ R.frames) (hlo : lo ≤ R.locals) (hc : H'.length ≤ R.cells) (hs : own_w P.2.1 H' ≤ R.slots) :
    MetFree l mt.nm (head1 (Jvm.Cond.code mt.nm mt.bs mt.ml mt.rt :: ws) R) (fun a U => a = (as.map (own_sh Z.heap.size)).toArray ∧ Z.Warmed39 U.vm ∧ U.heap = Z.heap) (fun _ _ _ _ _ => True)
      (fun _ U o U' => ∃ w L, o = .returned w ∧ (w = v.map (own_sh Z.heap.size) ∧ Fr Z.heap.size L) ∧ FrameEnd U o U' L H'.length (own_w P.2.1 H')) := by
  obtain ⟨q, h⟩ := h
  have h0 : own_w P.2.1 [] = 0 := rfl
  have hr : own_rep Z Z.heap.size P.2.1 [] Z.heap := ⟨rfl, fun i c hc => by simp at hc⟩
  have M := own_met G (own_sound l G q) hi h hlen ws R hdf hlo (by simpa using hc) (by rw [h0]; simpa using hs) Z.heap hr
  refine M.mono (fun _ _ h => h) (fun _ _ _ _ _ h => h) (fun _ _ o U' _ h => ?_)
  obtain ⟨w, L, e1, ⟨e2, -, e3⟩, e4⟩ := h
  refine ⟨w, L, e1, ⟨e2, e3⟩, ?_⟩
  rw [h0] at e4
  exact e4
/-! ### one law an entry -/
section OwnEnts
variable {Z : State} {a0 : Array Value} {P : OPrg} {y : MethodName} {x : Nat}
theorem own_e0 {j a : Nat} {b : Int} {mj : OMth} (h1 : P.1[j]? = some mj) (h2 : (Jvm.Cond.methodLink y.cls x mj.nm).before a0 Z = true) (h3 : (Jvm.Cond.static mj.nm).before a0 Z = true) (h4 : (Jvm.Cond.initialized mj.nm.cls).before a0 Z = true) (h5 : own_okY mj.nm) (h6 : own_okD 0 mj) : own_okE Z a0 P y x (0, j, a, b) := ⟨mj, h1, h2, h3, h4, h5, h6⟩
theorem own_e1 {j a : Nat} {b : Int} {mj : OMth} (h1 : P.1[j]? = some mj) (g1 : mj.nm.name = "<init>") (g2 : mj.rt = none) (h2 : (Jvm.Cond.methodLink y.cls x mj.nm).before a0 Z = true) (h3 : (Jvm.Cond.instanceMethod mj.nm).before a0 Z = true) (h4 : (Jvm.Cond.initialized mj.nm.cls).before a0 Z = true) (h5 : own_okY mj.nm) (h6 : own_okD 1 mj) : own_okE Z a0 P y x (1, j, a, b) := ⟨mj, h1, g1, g2, h2, h3, h4, h5, h6⟩
theorem own_e2 {j a : Nat} {b : Int} (h1 : (Jvm.Cond.methodLink y.cls x Lib.objectInit).before a0 Z = true) (h2 : (Jvm.Cond.instanceMethod Lib.objectInit).before a0 Z = true) (h3 : (Jvm.Cond.code Lib.objectInit ⟨#[0xb1]⟩ 1 none).before a0 Z = true) : own_okE Z a0 P y x (2, j, a, b) := ⟨h1, h2, h3⟩
theorem own_e3 {j k : Nat} {b : Int} {mj : OMth} {c : OKls} {v : MethodName} (h1 : P.1[j]? = some mj) (h2 : P.2.1[k]? = some c) (h3 : v.desc = mj.nm.desc) (h4 : (Jvm.Cond.methodLink y.cls x v).before a0 Z = true) (h5 : (Jvm.Cond.declares v).before a0 Z = true) (h6 : (Jvm.Cond.selects c.1 v mj.nm).before a0 Z = true) (h7 : (Jvm.Cond.instanceMethod mj.nm).before a0 Z = true) (h8 : (Jvm.Cond.initialized mj.nm.cls).before a0 Z = true) (h9 : ∀ s : State, Z.Warmed39 s.vm → NotFace s v) (h10 : own_okY v) (h11 : own_okD 1 mj) : own_okE Z a0 P y x (3, j, k, b) := ⟨mj, c, v, h1, h2, h3, h4, h5, h6, h7, h8, h9, h10, h11⟩
theorem own_e4 {j k : Nat} {b : Int} {mj : OMth} (h1 : P.1[j]? = some mj) (h2 : (Jvm.Cond.methodLink y.cls x mj.nm).before a0 Z = true) (h3 : (Jvm.Cond.instanceMethod mj.nm).before a0 Z = true) (h4 : (Jvm.Cond.privateMethod mj.nm).before a0 Z = true) (h5 : ∀ s : State, Z.Warmed39 s.vm → NotFace s mj.nm) (h6 : (Jvm.Cond.initialized mj.nm.cls).before a0 Z = true) (h7 : own_okY mj.nm) (h8 : own_okD 1 mj) : own_okE Z a0 P y x (4, j, k, b) := ⟨mj, h1, h2, h3, h4, h5, h6, h7, h8⟩
theorem own_e6 {k j : Nat} {u : Int} {c : OKls} {f : OFld} {R0 : String} (h1 : P.2.1[k]? = some c) (h2 : c.2.2[j]? = some f) (h3 : (Jvm.Cond.fieldLink y.cls x R0 f.2.1 f.2.2.1).before a0 Z = true) (h4 : Via Z R0 f.1 f.2.1 f.2.2.1) (h5 : u = 1 → (Jvm.Cond.lays c.1 f.1 f.2.1 f.2.2.1).before a0 Z = true ∨ ((Jvm.Cond.laysFinal c.1 f.1 f.2.1 f.2.2.1).before a0 Z = true ∧ y.cls = f.1 ∧ y.name = "<init>")) : own_okE Z a0 P y x (6, k, j, u) := ⟨c, f, R0, h1, h2, h3, h4, h5⟩
theorem own_e7 {k j : Nat} {u : Int} {c : OKls} (h1 : P.2.1[k]? = some c) (h2 : (Jvm.Cond.classLink y.cls x c.1).before a0 Z = true) : own_okE Z a0 P y x (7, k, j, u) := ⟨c, h1, h2⟩
theorem own_e8 {k j : Nat} {u : Int} {w : Int32} (h1 : Int32.ofInt u = w) (h2 : (Jvm.Cond.constant y.cls x w).before a0 Z = true) : own_okE Z a0 P y x (8, k, j, u) := by subst h1; exact h2
theorem own_e9 {k j : Nat} {u : Int} {w : Int64} (h1 : Int64.ofInt u = w) (h2 : (Jvm.Cond.constantLong y.cls x w).before a0 Z = true) : own_okE Z a0 P y x (9, k, j, u) := by subst h1; exact h2
theorem own_e10 {k j : Nat} {u : Int} (h1 : (Jvm.Cond.methodLink y.cls x Jvm.Stand.acN).before a0 Z = true) (h2 : (Jvm.Cond.native Jvm.Stand.acN).before a0 Z = true) (h3 : (Jvm.Cond.static Jvm.Stand.acN).before a0 Z = true) (h4 : (Jvm.Cond.initialized "java/lang/System").before a0 Z = true) : own_okE Z a0 P y x (10, k, j, u) := ⟨h1, h2, h3, h4⟩
theorem own_e11 {k j : Nat} {u : Int} (h1 : (Jvm.Cond.methodLink y.cls x ⟨"[I", "clone", "()Ljava/lang/Object;"⟩).before a0 Z = true) (h2 : (Jvm.Cond.sameMethod "[I" "java/lang/Object" "clone" "()Ljava/lang/Object;").before a0 Z = true) (h3 : (Jvm.Cond.native ⟨"java/lang/Object", "clone", "()Ljava/lang/Object;"⟩).before a0 Z = true) (h4 : (Jvm.Cond.instanceMethod ⟨"java/lang/Object", "clone", "()Ljava/lang/Object;"⟩).before a0 Z = true) (h5 : (Jvm.Cond.selects "[I" ⟨"[I", "clone", "()Ljava/lang/Object;"⟩ ⟨"java/lang/Object", "clone", "()Ljava/lang/Object;"⟩).before a0 Z = true) (h6 : (Jvm.Cond.castable "[I" "java/lang/Cloneable").before a0 Z = true) : own_okE Z a0 P y x (11, k, j, u) := ⟨h1, h2, h3, h4, h5, h6⟩
theorem own_e12 {k j : Nat} {u : Int} (h1 : (Jvm.Cond.classLink y.cls x "[I").before a0 Z = true) : own_okE Z a0 P y x (12, k, j, u) := h1
theorem own_e5 {j k : Nat} {b : Int} {mj : OMth} {c : OKls} (h1 : P.1[j]? = some mj) (h2 : P.2.1[k]? = some c) (h3 : mj.nm.name ≠ "<init>") (h4 : (Jvm.Cond.methodLink y.cls x mj.nm).before a0 Z = true) (h5 : (Jvm.Cond.instanceMethod mj.nm).before a0 Z = true) (h6 : (Jvm.Cond.superclass y.cls mj.nm.cls).before a0 Z = true) (h7 : NotFace Z mj.nm) (h8 : (Jvm.Cond.initialized mj.nm.cls).before a0 Z = true) (h9 : own_okY mj.nm) (h10 : own_okD 1 mj) : own_okE Z a0 P y x (5, j, k, b) := ⟨mj, c, h1, h2, h3, h4, h5, h6, h7, h8, h9, h10⟩
theorem own_e13 {j k : Nat} {b : Int} {mj : OMth} {c : OKls} {v : MethodName} {ow : String} (h1 : P.1[j]? = some mj) (h2 : P.2.1[k]? = some c) (h3 : v.desc = mj.nm.desc) (h4 : (Jvm.Cond.methodLink y.cls x v).before a0 Z = true) (h5 : (Jvm.Cond.sameMethod v.cls ow v.name v.desc).before a0 Z = true) (h6 : (Jvm.Cond.declares ⟨ow, v.name, v.desc⟩).before a0 Z = true) (h7 : (Jvm.Cond.selects c.1 v mj.nm).before a0 Z = true) (h8 : (Jvm.Cond.instanceMethod mj.nm).before a0 Z = true) (h9 : (Jvm.Cond.initialized mj.nm.cls).before a0 Z = true) (h10 : ow ≠ "java/lang/invoke/MethodHandle" ∧ ow ≠ "java/lang/invoke/VarHandle") (h11 : own_okD 1 mj) : own_okE Z a0 P y x (13, j, k, b) := ⟨mj, c, v, ow, h1, h2, h3, h4, h5, h6, h7, h8, h9, h10, h11⟩
theorem own_nf {s : State} {args : Array Value} {C : String} {y y' : MethodName} (hc : y.cls = y'.cls) (w : (Jvm.Cond.selects C y' y').before args s = true) : NotFace s y := fun r0 h0 => by
  obtain ⟨c2, r2, m2, q1, q2, q3, q4, kP, hkP, hkPi⟩ := Cond.selects_spec w
  have e1 := findClass_of_methodNamed h0
  have e2 := findClass_of_methodNamed q3
  rw [hc] at e1
  have e3 : r0.cls = m2.cls := Option.some.inj (e1.symm.trans e2)
  exact ⟨kP, by rw [e3]; exact hkP, hkPi⟩
end OwnEnts
/-! ## RUNS WITH THE FRAMES BENEATH: what a walk is printed in -/
abbrev OFm := Nat × Nat × Nat × Nat × List Slot × List Value
def own_ks (P : OPrg) (Q : Option Value → OHeap → Prop) : List OFm → Nat → Nat → Nat → Nat → List Slot → List Value → OHeap → Prop
  | [], i, d, lo, pc, L, S, H => ∃ v H', own_run P i d lo pc L S H (v, H') ∧ Q v H'
  | (i', d', lo', t', L', S') :: st, i, d, lo, pc, L, S, H => ∃ v H', own_run P i d lo pc L S H (v, H') ∧ own_ks P Q st i' d' lo' t' L' (v.toList ++ S') H'
section OwnKs
variable {P : OPrg} {Q : Option Value → OHeap → Prop} {st : List OFm} {i d lo pc : Nat} {L : List Slot} {S : List Value} {H : OHeap} {mt mj : OMth}
theorem own_ks.of {i' d' lo' pc' : Nat} {L' : List Slot} {S' : List Value} {H' : OHeap} (h : ∀ r, own_run P i' d' lo' pc' L' S' H' r → own_run P i d lo pc L S H r) (k : own_ks P Q st i' d' lo' pc' L' S' H') : own_ks P Q st i d lo pc L S H := by
  cases st with
  | nil => obtain ⟨v, H2, k, q⟩ := k; exact ⟨v, H2, h _ k, q⟩
  | cons f st => obtain ⟨v, H2, k, q⟩ := k; exact ⟨v, H2, h _ k, q⟩
theorem own_ks.go (hi : P.1[i]? = some mt) (n : Nat) {pc' : Nat} {L' : List Slot} {S' : List Value} {H' : OHeap} (h : own_go P mt d lo n pc L S H = some (pc', L', S', H')) (k : own_ks P Q st i d lo pc' L' S' H') : own_ks P Q st i d lo pc L S H :=
  own_ks.of (fun _ => own_run.go hi n h) k
theorem own_go1 {ins : Instr} {t : Nat} {z : OSt} (h1 : own_at mt pc = some (ins, t)) (h2 : own_ret mt ins S = none) (h3 : own_call P mt ins S H = none) (h4 : own_step P mt d lo ins t pc L S H = some z) : own_go P mt d lo 1 pc L S H = some z := by
  obtain ⟨a, b, c, e⟩ := z
  simp only [own_go, h1, h2, h3, h4]
theorem own_ks.br2 (hi : P.1[i]? = some mt) {cd : ClassFile.Cond} {o : Int} {t pc' : Nat} {x y : Int32} {b : Bool} (h1 : own_at mt pc = some (.if_icmp cd o, t)) (hb : if_icmp.holds cd x y = b) (hp : (match b with | true => t | false => pc + 3) = pc') (k : own_ks P Q st i d lo pc' L S H) : own_ks P Q st i d lo pc L (.int y :: .int x :: S) H := by
  refine own_ks.go hi 1 (own_go1 h1 rfl rfl ?_) k
  subst hp
  simp only [own_step, own_pure, hb, own_br]
  cases b <;> rfl
theorem own_ks.br1 (hi : P.1[i]? = some mt) {cd : ClassFile.Cond} {o : Int} {t pc' : Nat} {x : Int32} {b : Bool} (h1 : own_at mt pc = some (.ifCond cd o, t)) (hb : ifCond.holds cd x = b) (hp : (match b with | true => t | false => pc + 3) = pc') (k : own_ks P Q st i d lo pc' L S H) : own_ks P Q st i d lo pc L (.int x :: S) H := by
  refine own_ks.go hi 1 (own_go1 h1 rfl rfl ?_) k
  subst hp
  simp only [own_step, own_pure, hb, own_br]
  cases b <;> rfl
theorem own_ks.sw (hi : P.1[i]? = some mt) {df : Int} {ps : Array (Int × Int)} {t pc' : Nat} {x : Int32} (h1 : own_at mt pc = some (.lookupswitch df ps, t)) (hj : own_jmp pc (lookupswitch.offset ps.toList df x.toInt) = some pc') (k : own_ks P Q st i d lo pc' L S H) : own_ks P Q st i d lo pc L (.int x :: S) H := by
  refine own_ks.go hi 1 (own_go1 h1 rfl rfl ?_) k
  simp only [own_step, own_pure, hj]
/-- the room that a call takes -/
def own_fitc (d lo ml : Nat) (as r : List Value) : Bool := Nat.ble 1 d && (Nat.ble (own_wt r + (ml + 11)) lo && (own_entry as ml).length == ml)
theorem own_fitc_ok {d lo ml : Nat} {as r : List Value} (h : own_fitc d lo ml as r = true) : 1 ≤ d ∧ own_wt r + (ml + 11) ≤ lo ∧ (own_entry as ml).length = ml := by
  simp only [own_fitc, Bool.and_eq_true, Nat.ble_eq, beq_iff_eq] at h
  exact h
theorem own_ks.into (hi : P.1[i]? = some mt) {ins : Instr} {t j d' lo' : Nat} {as r' : List Value} (h1 : own_at mt pc = some (ins, t)) (h2 : own_ret mt ins S = none) (h3 : own_call P mt ins S H = some (j, as, r')) (hj : P.1[j]? = some mj) (h4 : own_fitc d lo mj.ml as r' = true) (hd : d - 1 = d') (hl : lo - (own_wt r' + (mj.ml + 11)) = lo') {L' : List Slot} (hL : own_entry as mj.ml = L')
    (k : own_ks P Q ((i, d, lo, t, L, r') :: st) j d' lo' 0 L' [] H) : own_ks P Q st i d lo pc L S H := by
  subst hd hl hL
  obtain ⟨v, H', k1, k2⟩ := k
  cases st with
  | nil => obtain ⟨v2, H2, k3, q⟩ := k2; exact ⟨v2, H2, own_run.call hi h1 h2 h3 hj (own_fitc_ok h4) k1 k3, q⟩
  | cons f st => obtain ⟨v2, H2, k3, q⟩ := k2; exact ⟨v2, H2, own_run.call hi h1 h2 h3 hj (own_fitc_ok h4) k1 k3, q⟩
theorem own_ks.call (hi : P.1[i]? = some mt) {ins : Instr} {t j : Nat} {as r' : List Value} {v : Option Value} {H' : OHeap} {S' : List Value} (h1 : own_at mt pc = some (ins, t)) (h2 : own_ret mt ins S = none) (h3 : own_call P mt ins S H = some (j, as, r')) (hj : P.1[j]? = some mj) (h4 : own_fitc d lo mj.ml as r' = true)
    (k1 : own_run P j (d - 1) (lo - (own_wt r' + (mj.ml + 11))) 0 (own_entry as mj.ml) [] H (v, H')) (hS : v.toList ++ r' = S') (k : own_ks P Q st i d lo t L S' H') : own_ks P Q st i d lo pc L S H := by
  subst hS
  exact own_ks.of (fun _ k2 => own_run.call hi h1 h2 h3 hj (own_fitc_ok h4) k1 k2) k
theorem own_ks.back (hi : P.1[i]? = some mt) {ins : Instr} {t : Nat} {v : Option Value} {i' d' lo' t' : Nat} {L' : List Slot} {S' S2 : List Value} (h1 : own_at mt pc = some (ins, t)) (h2 : own_ret mt ins S = some v) (hS : v.toList ++ S' = S2) (k : own_ks P Q st i' d' lo' t' L' S2 H) : own_ks P Q ((i', d', lo', t', L', S') :: st) i d lo pc L S H := by
  subst hS
  exact ⟨v, H, own_run.ret hi h1 h2, k⟩
theorem own_ks.ret (hi : P.1[i]? = some mt) {ins : Instr} {t : Nat} {v : Option Value} (h1 : own_at mt pc = some (ins, t)) (h2 : own_ret mt ins S = some v) (q : Q v H) : own_ks P Q [] i d lo pc L S H := ⟨v, H, own_run.ret hi h1 h2, q⟩
theorem own_nt {x c : Int32} {k : Int} (h : ¬ x = c) (e : c.toInt = k) : ¬ (k = x.toInt) := fun q => h (Int32.toInt_inj.mp (q.symm.trans e.symm))
theorem own_yt {x c : Int32} {k : Int} (h : x = c) (e : c.toInt = k) : k = x.toInt := by subst h; exact e.symm
end OwnKs
/-- what a law owes at its end -/
def own_end (K : List OKls) (cells slots : Nat) (v : Option Value) (H : OHeap) : Prop := v = some (.int 1) ∧ H.length ≤ cells ∧ own_w K H ≤ slots
theorem own_endOk {K : List OKls} {cells slots : Nat} {v : Option Value} {H : OHeap} (h1 : v = some (.int 1)) (h2 : Nat.ble H.length cells = true) (h3 : Nat.ble (own_w K H) slots = true) : own_end K cells slots v H := ⟨h1, Nat.le_of_ble_eq_true h2, Nat.le_of_ble_eq_true h3⟩
theorem own_ks_run {P : OPrg} {i d lo pc : Nat} {L : List Slot} {S : List Value} {H : OHeap} {v : Option Value} {H' : OHeap} (k : own_ks P (fun w G => w = v ∧ G = H') [] i d lo pc L S H) : own_run P i d lo pc L S H (v, H') := by
  obtain ⟨w, G, h, rfl, rfl⟩ := k
  exact h
section OwnKs2
variable {P : OPrg} {Q : Option Value → OHeap → Prop} {st : List OFm} {i d lo pc t a q : Nat} {L : List Slot} {S vs : List Value} {H : OHeap} {mt : OMth} {j : Int32} {v : Value}
theorem own_ks.iaload (hi : P.1[i]? = some mt) (h1 : own_at mt pc = some (.iaload, t)) (ha : own_arr H a .int = some vs) (hq : own_ix j = some q) (hv : vs[q]? = some v) (k : own_ks P Q st i d lo t L (v :: S) H) : own_ks P Q st i d lo pc L (.int j :: .ref a :: S) H :=
  own_ks.go hi 1 (own_go1 h1 rfl rfl (by simp only [own_step, own_pure, own_heap, own_ald, ha, hq, hv])) k
theorem own_ks.laload (hi : P.1[i]? = some mt) (h1 : own_at mt pc = some (.laload, t)) (ha : own_arr H a .long = some vs) (hq : own_ix j = some q) (hv : vs[q]? = some v) (k : own_ks P Q st i d lo t L (v :: S) H) : own_ks P Q st i d lo pc L (.int j :: .ref a :: S) H :=
  own_ks.go hi 1 (own_go1 h1 rfl rfl (by simp only [own_step, own_pure, own_heap, own_ald, ha, hq, hv])) k
theorem own_ks.iastore {x : Int32} {H' : OHeap} (hi : P.1[i]? = some mt) (h1 : own_at mt pc = some (.iastore, t)) (ha : own_arr H a .int = some vs) (hq : own_ix j = some q) (hl : q < vs.length) (hH : H.set a (.inr .int, vs.set q (.int x)) = H') (k : own_ks P Q st i d lo t L S H') : own_ks P Q st i d lo pc L (.int x :: .int j :: .ref a :: S) H := by
  subst hH
  exact own_ks.go hi 1 (own_go1 h1 rfl rfl (by simp only [own_step, own_pure, own_heap, own_ast, ha, hq, if_pos hl, own_nar])) k
theorem own_ks.lastore {x : Int64} {H' : OHeap} (hi : P.1[i]? = some mt) (h1 : own_at mt pc = some (.lastore, t)) (ha : own_arr H a .long = some vs) (hq : own_ix j = some q) (hl : q < vs.length) (hH : H.set a (.inr .long, vs.set q (.long x)) = H') (k : own_ks P Q st i d lo t L S H') : own_ks P Q st i d lo pc L (.long x :: .int j :: .ref a :: S) H := by
  subst hH
  exact own_ks.go hi 1 (own_go1 h1 rfl rfl (by simp only [own_step, own_pure, own_heap, own_ast, ha, hq, if_pos hl, own_nar])) k
theorem own_ks.alen {ty : FieldType} {z : Int32} (hi : P.1[i]? = some mt) (h1 : own_at mt pc = some (.arraylength, t)) (ha : H[a]? = some (.inr ty, vs)) (hz : vs.length.toInt32 = z) (k : own_ks P Q st i d lo t L (.int z :: S) H) : own_ks P Q st i d lo pc L (.ref a :: S) H := by
  subst hz
  exact own_ks.go hi 1 (own_go1 h1 rfl rfl (by simp only [own_step, own_pure, own_heap, ha])) k
end OwnKs2
/-! ## the program: printed by wip/tools/gen.py out of the sheet -/
def own_k0 : OKls := ("evenkeel/group/LagHoldings", 7, [("evenkeel/group/LagHoldings", "dealt", "[I", (.array .int)), ("evenkeel/group/LagHoldings", "dealtBefore", "[I", (.array .int)), ("evenkeel/group/LagHoldings", "count", "[I", (.array .int)), ("evenkeel/group/LagHoldings", "takenStart", "[I", (.array .int)), ("evenkeel/group/LagHoldings", "taken", "[I", (.array .int)), ("evenkeel/group/LagHoldings", "lastDealt", "[I", (.array .int)), ("evenkeel/group/LagHoldings", "dealtCount", "I", .int)])
def own_r0 : List (List ORow) := [[(0, .iload_n 2, 1), (1, .ldc 16, 3), (3, .iand, 4), (4, .iconst 3, 5), (5, .irem, 6), (6, .istore_n 3, 7), (7, .iload_n 3, 8), (8, .iconst 1, 9), (9, .iadd, 10), (10, .iconst 3, 11), (11, .irem, 12), (12, .istore 4, 14), (14, .bipush 6, 16)],
  [(16, .newarray .int, 18), (18, .astore 5, 20), (20, .aload 5, 22), (22, .iconst 0, 23), (23, .iload_n 0, 24), (24, .iconst 0, 25), (25, .invokestatic 17, 28), (28, .iastore, 29), (29, .aload 5, 31), (31, .iconst 1, 32)],
  [(32, .iload_n 0, 33), (33, .iconst 1, 34), (34, .invokestatic 17, 37), (37, .iastore, 38), (38, .aload 5, 40), (40, .iconst 2, 41), (41, .iload_n 0, 42), (42, .iconst 2, 43), (43, .invokestatic 17, 46), (46, .iastore, 47), (47, .aload 5, 49)],
  [(49, .iconst 3, 50), (50, .iload_n 0, 51), (51, .iconst 3, 52), (52, .invokestatic 17, 55), (55, .iastore, 56), (56, .aload 5, 58), (58, .iconst 4, 59), (59, .iload_n 0, 60), (60, .iconst 4, 61), (61, .invokestatic 17, 64)],
  [(64, .iastore, 65), (65, .aload 5, 67), (67, .iconst 5, 68), (68, .iload_n 0, 69), (69, .iconst 5, 70), (70, .invokestatic 17, 73), (73, .iastore, 74), (74, .iconst 3, 75), (75, .newarray .int, 77), (77, .astore 6, 79), (79, .aload 6, 81)],
  [(81, .aload 5, 83), (83, .iconst 0, 84), (84, .iaload, 85), (85, .dup2, 86), (86, .iaload, 87), (87, .iconst 1, 88), (88, .iadd, 89), (89, .iastore, 90), (90, .aload 6, 92), (92, .aload 5, 94), (94, .iconst 1, 95), (95, .iaload, 96)],
  [(96, .dup2, 97), (97, .iaload, 98), (98, .iconst 1, 99), (99, .iadd, 100), (100, .iastore, 101), (101, .aload 6, 103), (103, .aload 5, 105), (105, .iconst 2, 106), (106, .iaload, 107), (107, .dup2, 108), (108, .iaload, 109), (109, .iconst 1, 110), (110, .iadd, 111), (111, .iastore, 112)],
  [(112, .aload 6, 114), (114, .aload 5, 116), (116, .iconst 3, 117), (117, .iaload, 118), (118, .dup2, 119), (119, .iaload, 120), (120, .iconst 1, 121), (121, .iadd, 122), (122, .iastore, 123), (123, .aload 6, 125), (125, .aload 5, 127), (127, .iconst 4, 128)],
  [(128, .iaload, 129), (129, .dup2, 130), (130, .iaload, 131), (131, .iconst 1, 132), (132, .iadd, 133), (133, .iastore, 134), (134, .aload 6, 136), (136, .aload 5, 138), (138, .iconst 5, 139), (139, .iaload, 140), (140, .dup2, 141), (141, .iaload, 142), (142, .iconst 1, 143), (143, .iadd, 144)],
  [(144, .iastore, 145), (145, .new 8, 148), (148, .dup, 149), (149, .aload 6, 151), (151, .aload 5, 153), (153, .invokespecial 23, 156), (156, .astore 7, 158), (158, .iconst 2, 159), (159, .newarray .int, 161)],
  [(161, .astore 8, 163), (163, .aload 7, 165), (165, .aload 5, 167), (167, .iload_n 1, 168), (168, .iload_n 3, 169), (169, .iload 4, 171), (171, .iconst 0, 172), (172, .aload 8, 174), (174, .invokestatic 26, 177)],
  [(177, .aload 7, 179), (179, .aload 5, 181), (181, .iload_n 1, 182), (182, .iload_n 3, 183), (183, .iload 4, 185), (185, .iconst 1, 186), (186, .aload 8, 188), (188, .invokestatic 26, 191), (191, .aload 7, 193)],
  [(193, .aload 5, 195), (195, .iload_n 1, 196), (196, .iload_n 3, 197), (197, .iload 4, 199), (199, .iconst 2, 200), (200, .aload 8, 202), (202, .invokestatic 26, 205), (205, .aload 7, 207), (207, .aload 5, 209)],
  [(209, .iload_n 1, 210), (210, .iload_n 3, 211), (211, .iload 4, 213), (213, .iconst 3, 214), (214, .aload 8, 216), (216, .invokestatic 26, 219), (219, .aload 7, 221), (221, .aload 5, 223), (223, .iload_n 1, 224)],
  [(224, .iload_n 3, 225), (225, .iload 4, 227), (227, .iconst 4, 228), (228, .aload 8, 230), (230, .invokestatic 26, 233), (233, .aload 7, 235), (235, .aload 5, 237), (237, .iload_n 1, 238), (238, .iload_n 3, 239), (239, .iload 4, 241)],
  [(241, .iconst 5, 242), (242, .aload 8, 244), (244, .invokestatic 26, 247), (247, .aload 8, 249), (249, .iconst 1, 250), (250, .iaload, 251), (251, .istore 9, 253), (253, .aload 7, 255), (255, .iload_n 3, 256)],
  [(256, .invokevirtual 30, 259), (259, .astore 10, 261), (261, .aload 10, 263), (263, .arraylength, 264), (264, .iload 9, 266), (266, .invokestatic 34, 269), (269, .if_icmp .eq 5, 274)],
  [(272, .iconst 0, 273), (273, .ireturn, 274), (274, .aload 10, 276), (276, .iconst 0, 277), (277, .iload 9, 279), (279, .invokestatic 38, 282), (282, .ifCond .eq 62, 344), (285, .aload 10, 287), (287, .iconst 1, 288)],
  [(288, .iload 9, 290), (290, .invokestatic 38, 293), (293, .ifCond .eq 51, 344), (296, .aload 10, 298), (298, .iconst 2, 299), (299, .iload 9, 301), (301, .invokestatic 38, 304)],
  [(304, .ifCond .eq 40, 344), (307, .aload 10, 309), (309, .iconst 3, 310), (310, .iload 9, 312), (312, .invokestatic 38, 315), (315, .ifCond .eq 29, 344), (318, .aload 10, 320)],
  [(320, .iconst 4, 321), (321, .iload 9, 323), (323, .invokestatic 38, 326), (326, .ifCond .eq 18, 344), (329, .aload 10, 331), (331, .iconst 5, 332), (332, .iload 9, 334), (334, .invokestatic 38, 337)],
  [(337, .ifCond .eq 7, 344), (340, .iconst 1, 341), (341, .goto 4, 345), (344, .iconst 0, 345), (345, .ireturn, 346)]]
def own_m0 : OMth := (x, code, maxLocals, ret, 3, own_r0, [(8, (7, 0, 0, 0)), (16, (8, 0, 0, 2147483647)), (17, (0, 1, 0, 0)), (23, (1, 2, 0, 0)), (26, (0, 7, 0, 0)), (30, (3, 8, 0, 0)), (34, (0, 9, 0, 0)), (38, (0, 10, 0, 0))])
def own_r1 : List (List ORow) := [[(0, .iload_n 0, 1), (1, .iconst 2, 2), (2, .iload_n 1, 3), (3, .imul, 4), (4, .iushr, 5), (5, .iconst 3, 6), (6, .iand, 7), (7, .iconst 3, 8), (8, .irem, 9), (9, .ireturn, 10)]]
def own_m1 : OMth := (⟨"evenkeel/group/LagHoldingsPlacesPinLaw", "taker", "(II)I"⟩, method_2_code, 2, (some .int), 2, own_r1, [])
def own_r2 : List (List ORow) := [[(0, .aload_n 0, 1), (1, .invokespecial 1, 4), (4, .aload_n 0, 5), (5, .iconst 0, 6), (6, .newarray .int, 8), (8, .putfield 7, 11), (11, .aload_n 0, 12), (12, .iconst 0, 13), (13, .newarray .int, 15), (15, .putfield 13, 18)],
  [(18, .aload_n 0, 19), (19, .aload_n 1, 20), (20, .invokevirtual 16, 23), (23, .checkcast 17, 26), (26, .putfield 21, 29), (29, .aload_n 0, 30), (30, .aload_n 1, 31), (31, .arraylength, 32)],
  [(32, .iconst 1, 33), (33, .iadd, 34), (34, .newarray .int, 36), (36, .putfield 24, 39), (39, .iconst 0, 40), (40, .istore_n 3, 41), (41, .iload_n 3, 42), (42, .aload_n 1, 43), (43, .arraylength, 44), (44, .if_icmp .ge 27, 71), (47, .aload_n 0, 48)],
  [(48, .getfield 24, 51), (51, .iload_n 3, 52), (52, .iconst 1, 53), (53, .iadd, 54), (54, .aload_n 0, 55), (55, .getfield 24, 58), (58, .iload_n 3, 59), (59, .iaload, 60), (60, .aload_n 1, 61), (61, .iload_n 3, 62), (62, .iaload, 63), (63, .iadd, 64)],
  [(64, .iastore, 65), (65, .iinc 3 1, 68), (68, .goto (-27), 41), (71, .aload_n 0, 72), (72, .aload_n 2, 73), (73, .arraylength, 74), (74, .newarray .int, 76), (76, .putfield 27, 79), (79, .aload_n 0, 80)],
  [(80, .aload_n 2, 81), (81, .aload_n 0, 82), (82, .getfield 24, 85), (85, .aload_n 1, 86), (86, .arraylength, 87), (87, .invokestatic 30, 90), (90, .invokevirtual 36, 93), (93, .aload_n 0, 94), (94, .aload_n 1, 95), (95, .arraylength, 96)],
  [(96, .newarray .int, 98), (98, .putfield 40, 101), (101, .aload_n 0, 102), (102, .getfield 40, 105), (105, .iconst (-1), 106), (106, .invokestatic 43, 109), (109, .return_, 110)]]
def own_m2 : OMth := (⟨"evenkeel/group/LagHoldings", "<init>", "([I[I)V"⟩, prog_63_method_1_code, 4, none, 3, own_r2, [(1, (2, 0, 0, 0)), (7, (6, 0, 0, 1)), (13, (6, 0, 1, 1)), (16, (11, 0, 0, 0)), (17, (12, 0, 0, 0)), (21, (6, 0, 2, 1)), (24, (6, 0, 3, 1)), (27, (6, 0, 4, 1)), (30, (0, 3, 0, 0)), (36, (4, 5, 0, 0)), (40, (6, 0, 5, 1)), (43, (0, 6, 0, 0))])
def own_r3 : List (List ORow) := [[(0, .iload_n 1, 1), (1, .aload_n 0, 2), (2, .arraylength, 3), (3, .if_icmp .ne 11, 14), (6, .aload_n 0, 7), (7, .invokevirtual 316, 10), (10, .checkcast 317, 13), (13, .areturn, 14), (14, .iload_n 1, 15), (15, .newarray .int, 17)],
  [(17, .astore_n 2, 18), (18, .aload_n 0, 19), (19, .iconst 0, 20), (20, .aload_n 2, 21), (21, .iconst 0, 22), (22, .aload_n 0, 23), (23, .arraylength, 24), (24, .iload_n 1, 25), (25, .invokestatic 304, 28), (28, .invokestatic 150, 31), (31, .aload_n 2, 32)],
  [(32, .areturn, 33)]]
def own_m3 : OMth := (⟨"java/util/Arrays", "copyOf", "([II)[I"⟩, jdk_65_method_123_code, 3, (some (.array .int)), 2, own_r3, [(150, (10, 0, 0, 0)), (304, (0, 4, 0, 0))])
def own_r4 : List (List ORow) := [[(0, .iload_n 0, 1), (1, .iload_n 1, 2), (2, .if_icmp .gt 7, 9), (5, .iload_n 0, 6), (6, .goto 4, 10), (9, .iload_n 1, 10), (10, .ireturn, 11)]]
def own_m4 : OMth := (⟨"java/lang/Math", "min", "(II)I"⟩, jdk_29_method_69_code, 2, (some .int), 2, own_r4, [])
def own_r5 : List (List ORow) := [[(0, .iconst 0, 1), (1, .istore_n 3, 2), (2, .iload_n 3, 3), (3, .aload_n 0, 4), (4, .getfield 27, 7), (7, .arraylength, 8), (8, .if_icmp .ge 25, 33), (11, .aload_n 0, 12), (12, .getfield 27, 15), (15, .aload_n 2, 16)],
  [(16, .aload_n 1, 17), (17, .iload_n 3, 18), (18, .iaload, 19), (19, .dup2, 20), (20, .iaload, 21), (21, .dup_x2, 22), (22, .iconst 1, 23), (23, .iadd, 24), (24, .iastore, 25), (25, .iload_n 3, 26), (26, .iastore, 27), (27, .iinc 3 1, 30), (30, .goto (-28), 2)],
  [(33, .return_, 34)]]
def own_m5 : OMth := (⟨"evenkeel/group/LagHoldings", "layOut", "([I[I)V"⟩, prog_63_method_2_code, 4, none, 3, own_r5, [(27, (6, 0, 4, 0))])
def own_r6 : List (List ORow) := [[(0, .iconst 0, 1), (1, .istore_n 2, 2), (2, .aload_n 0, 3), (3, .arraylength, 4), (4, .istore_n 3, 5), (5, .iload_n 2, 6), (6, .iload_n 3, 7), (7, .if_icmp .ge 13, 20), (10, .aload_n 0, 11), (11, .iload_n 2, 12), (12, .iload_n 1, 13), (13, .iastore, 14), (14, .iinc 2 1, 17)],
  [(17, .goto (-12), 5), (20, .return_, 21)]]
def own_m6 : OMth := (⟨"java/util/Arrays", "fill", "([II)V"⟩, jdk_65_method_103_code, 4, none, 2, own_r6, [])
def own_r7 : List (List ORow) := [[(0, .aload_n 1, 1), (1, .iload 5, 3), (3, .iaload, 4), (4, .istore 7, 6), (6, .iload_n 2, 7), (7, .iconst 2, 8), (8, .iload 5, 10), (10, .imul, 11), (11, .iushr, 12), (12, .iconst 3, 13), (13, .iand, 14), (14, .istore 8, 16)],
  [(16, .iload 7, 18), (18, .iload_n 3, 19), (19, .if_icmp .ne 62, 81), (22, .iload 8, 24), (24, .iconst 1, 25), (25, .iand, 26), (26, .ifCond .eq 29, 55), (29, .aload_n 0, 30), (30, .iload_n 3, 31), (31, .aload 6, 33)],
  [(33, .iconst 0, 34), (34, .iaload, 35), (35, .invokevirtual 7, 38), (38, .iload 8, 40), (40, .iconst 3, 41), (41, .if_icmp .ne 27, 68), (44, .aload_n 0, 45), (45, .iload 4, 47), (47, .iload 5, 49)],
  [(49, .invokevirtual 13, 52), (52, .goto 16, 68), (55, .aload 6, 57), (57, .iconst 1, 58), (58, .aload 6, 60), (60, .iconst 1, 61), (61, .iaload, 62), (62, .iconst 1, 63), (63, .iload 5, 65)],
  [(65, .ishl, 66), (66, .ior, 67), (67, .iastore, 68), (68, .aload 6, 70), (70, .iconst 0, 71), (71, .aload 6, 73), (73, .iconst 0, 74), (74, .iaload, 75), (75, .iconst 1, 76), (76, .iadd, 77), (77, .iastore, 78), (78, .goto 46, 124)],
  [(81, .iload 8, 83), (83, .iconst 1, 84), (84, .if_icmp .ne 26, 110), (87, .aload_n 0, 88), (88, .iload_n 3, 89), (89, .iload 5, 91), (91, .invokevirtual 13, 94), (94, .aload 6, 96)],
  [(96, .iconst 1, 97), (97, .aload 6, 99), (99, .iconst 1, 100), (100, .iaload, 101), (101, .iconst 1, 102), (102, .iload 5, 104), (104, .ishl, 105), (105, .ior, 106), (106, .iastore, 107), (107, .goto 17, 124), (110, .iload 8, 112)],
  [(112, .iconst 2, 113), (113, .if_icmp .ne 11, 124), (116, .aload_n 0, 117), (117, .iload 4, 119), (119, .iload 5, 121), (121, .invokevirtual 13, 124), (124, .return_, 125)]]
def own_m7 : OMth := (⟨"evenkeel/group/LagHoldingsPlacesPinLaw", "step", "(Levenkeel/group/LagHoldings;[IIIII[I)V"⟩, method_3_code, 9, none, 7, own_r7, [(7, (3, 11, 0, 0)), (13, (3, 12, 0, 0))])
def own_r8 : List (List ORow) := [[(0, .aload_n 0, 1), (1, .getfield 21, 4), (4, .iload_n 1, 5), (5, .iaload, 6), (6, .newarray .int, 8), (8, .astore_n 2, 9), (9, .aload_n 0, 10), (10, .getfield 40, 13), (13, .iload_n 1, 14), (14, .iaload, 15), (15, .ifCond .ge 58, 73)],
  [(18, .iconst 0, 19), (19, .istore_n 3, 20), (20, .aload_n 0, 21), (21, .getfield 24, 24), (24, .iload_n 1, 25), (25, .iaload, 26), (26, .istore 4, 28), (28, .iload 4, 30), (30, .aload_n 0, 31), (31, .getfield 24, 34)],
  [(34, .iload_n 1, 35), (35, .iconst 1, 36), (36, .iadd, 37), (37, .iaload, 38), (38, .if_icmp .ge 33, 71), (41, .aload_n 0, 42), (42, .getfield 27, 45), (45, .iload 4, 47), (47, .iaload, 48)],
  [(48, .iconst (-1), 49), (49, .if_icmp .eq 16, 65), (52, .aload_n 2, 53), (53, .iload_n 3, 54), (54, .iinc 3 1, 57), (57, .aload_n 0, 58), (58, .getfield 27, 61), (61, .iload 4, 63), (63, .iaload, 64)],
  [(64, .iastore, 65), (65, .iinc 4 1, 68), (68, .goto (-40), 28), (71, .aload_n 2, 72), (72, .areturn, 73), (73, .aload_n 0, 74), (74, .getfield 24, 77), (77, .iload_n 1, 78), (78, .iconst 1, 79), (79, .iadd, 80)],
  [(80, .iaload, 81), (81, .iconst 1, 82), (82, .isub, 83), (83, .istore_n 3, 84), (84, .aload_n 0, 85), (85, .getfield 40, 88), (88, .iload_n 1, 89), (89, .iaload, 90), (90, .istore 4, 92), (92, .aload_n 2, 93), (93, .arraylength, 94), (94, .iconst 1, 95), (95, .isub, 96)],
  [(96, .istore 5, 98), (98, .iload 5, 100), (100, .ifCond .lt 102, 202), (103, .iload_n 3, 104), (104, .aload_n 0, 105), (105, .getfield 24, 108), (108, .iload_n 1, 109), (109, .iaload, 110), (110, .if_icmp .lt 19, 129)],
  [(113, .aload_n 0, 114), (114, .getfield 27, 117), (117, .iload_n 3, 118), (118, .iaload, 119), (119, .iconst (-1), 120), (120, .if_icmp .ne 9, 129), (123, .iinc 3 (-1), 126), (126, .goto (-23), 103)],
  [(129, .iload 4, 131), (131, .ifCond .lt 52, 183), (134, .iload_n 3, 135), (135, .aload_n 0, 136), (136, .getfield 24, 139), (139, .iload_n 1, 140), (140, .iaload, 141), (141, .if_icmp .lt 19, 160)],
  [(144, .aload_n 0, 145), (145, .getfield 7, 148), (148, .iload 4, 150), (150, .iaload, 151), (151, .aload_n 0, 152), (152, .getfield 27, 155), (155, .iload_n 3, 156), (156, .iaload, 157), (157, .if_icmp .le 26, 183)],
  [(160, .aload_n 2, 161), (161, .iload 5, 163), (163, .aload_n 0, 164), (164, .getfield 7, 167), (167, .iload 4, 169), (169, .iaload, 170), (170, .iastore, 171), (171, .aload_n 0, 172), (172, .getfield 13, 175), (175, .iload 4, 177)],
  [(177, .iaload, 178), (178, .istore 4, 180), (180, .goto 16, 196), (183, .aload_n 2, 184), (184, .iload 5, 186), (186, .aload_n 0, 187), (187, .getfield 27, 190), (190, .iload_n 3, 191), (191, .iinc 3 (-1), 194)],
  [(194, .iaload, 195), (195, .iastore, 196), (196, .iinc 5 (-1), 199), (199, .goto (-101), 98), (202, .aload_n 2, 203), (203, .areturn, 204)]]
def own_m8 : OMth := (⟨"evenkeel/group/LagHoldings", "places", "(I)[I"⟩, prog_63_method_8_code, 6, (some (.array .int)), 2, own_r8, [(7, (6, 0, 0, 1)), (13, (6, 0, 1, 1)), (21, (6, 0, 2, 0)), (24, (6, 0, 3, 0)), (27, (6, 0, 4, 0)), (40, (6, 0, 5, 0))])
def own_r9 : List (List ORow) := [[(0, .iload_n 0, 1), (1, .iconst 1, 2), (2, .iand, 3), (3, .iload_n 0, 4), (4, .iconst 1, 5), (5, .iushr, 6), (6, .iconst 1, 7), (7, .iand, 8), (8, .iadd, 9), (9, .iload_n 0, 10), (10, .iconst 2, 11), (11, .iushr, 12), (12, .iconst 1, 13), (13, .iand, 14), (14, .iadd, 15), (15, .iload_n 0, 16)],
  [(16, .iconst 3, 17), (17, .iushr, 18), (18, .iconst 1, 19), (19, .iand, 20), (20, .iadd, 21), (21, .iload_n 0, 22), (22, .iconst 4, 23), (23, .iushr, 24), (24, .iconst 1, 25), (25, .iand, 26), (26, .iadd, 27), (27, .iload_n 0, 28), (28, .iconst 5, 29), (29, .iushr, 30), (30, .iconst 1, 31), (31, .iand, 32)],
  [(32, .iadd, 33), (33, .ireturn, 34)]]
def own_m9 : OMth := (⟨"evenkeel/group/LagHoldingsPlacesPinLaw", "pop6", "(I)I"⟩, method_4_code, 1, (some .int), 1, own_r9, [])
def own_r10 : List (List ORow) := [[(0, .iload_n 1, 1), (1, .aload_n 0, 2), (2, .arraylength, 3), (3, .if_icmp .lt 5, 8), (6, .iconst 1, 7), (7, .ireturn, 8), (8, .aload_n 0, 9), (9, .iload_n 1, 10), (10, .iaload, 11), (11, .istore_n 3, 12), (12, .iload_n 3, 13), (13, .ifCond .lt 8, 21)],
  [(16, .iload_n 3, 17), (17, .iconst 5, 18), (18, .if_icmp .le 5, 23), (21, .iconst 0, 22), (22, .ireturn, 23), (23, .iload_n 2, 24), (24, .iload_n 3, 25), (25, .iushr, 26), (26, .iconst 1, 27), (27, .iand, 28), (28, .ifCond .ne 5, 33), (31, .iconst 0, 32)],
  [(32, .ireturn, 33), (33, .iload_n 1, 34), (34, .ifCond .le 14, 48), (37, .aload_n 0, 38), (38, .iload_n 1, 39), (39, .iconst 1, 40), (40, .isub, 41), (41, .iaload, 42), (42, .iload_n 3, 43), (43, .if_icmp .lt 5, 48), (46, .iconst 0, 47), (47, .ireturn, 48)],
  [(48, .iconst 1, 49), (49, .ireturn, 50)]]
def own_m10 : OMth := (⟨"evenkeel/group/LagHoldingsPlacesPinLaw", "check", "([III)Z"⟩, method_5_code, 4, (some .boolean), 3, own_r10, [])
def own_r11 : List (List ORow) := [[(0, .aload_n 0, 1), (1, .getfield 27, 4), (4, .aload_n 0, 5), (5, .getfield 24, 8), (8, .iload_n 1, 9), (9, .iaload, 10), (10, .iload_n 2, 11), (11, .iadd, 12), (12, .iconst (-1), 13), (13, .iastore, 14), (14, .aload_n 0, 15), (15, .getfield 21, 18)],
  [(18, .iload_n 1, 19), (19, .dup2, 20), (20, .iaload, 21), (21, .iconst 1, 22), (22, .isub, 23), (23, .iastore, 24), (24, .return_, 25)]]
def own_m11 : OMth := (⟨"evenkeel/group/LagHoldings", "gaveUp", "(II)V"⟩, prog_63_method_5_code, 3, none, 3, own_r11, [(21, (6, 0, 2, 0)), (24, (6, 0, 3, 0)), (27, (6, 0, 4, 0))])
def own_r12 : List (List ORow) := [[(0, .aload_n 0, 1), (1, .getfield 47, 4), (4, .aload_n 0, 5), (5, .getfield 7, 8), (8, .arraylength, 9), (9, .if_icmp .ne 41, 50), (12, .aload_n 0, 13), (13, .aload_n 0, 14), (14, .getfield 7, 17)],
  [(17, .bipush 16, 19), (19, .iconst 2, 20), (20, .aload_n 0, 21), (21, .getfield 47, 24), (24, .imul, 25), (25, .invokestatic 51, 28), (28, .invokestatic 30, 31), (31, .putfield 7, 34)],
  [(34, .aload_n 0, 35), (35, .aload_n 0, 36), (36, .getfield 13, 39), (39, .aload_n 0, 40), (40, .getfield 7, 43), (43, .arraylength, 44), (44, .invokestatic 30, 47), (47, .putfield 13, 50)],
  [(50, .aload_n 0, 51), (51, .getfield 7, 54), (54, .aload_n 0, 55), (55, .getfield 47, 58), (58, .iload_n 2, 59), (59, .iastore, 60), (60, .aload_n 0, 61), (61, .getfield 13, 64)],
  [(64, .aload_n 0, 65), (65, .getfield 47, 68), (68, .aload_n 0, 69), (69, .getfield 40, 72), (72, .iload_n 1, 73), (73, .iaload, 74), (74, .iastore, 75), (75, .aload_n 0, 76), (76, .getfield 40, 79), (79, .iload_n 1, 80)],
  [(80, .aload_n 0, 81), (81, .dup, 82), (82, .getfield 47, 85), (85, .dup_x1, 86), (86, .iconst 1, 87), (87, .iadd, 88), (88, .putfield 47, 91), (91, .iastore, 92), (92, .aload_n 0, 93), (93, .getfield 21, 96)],
  [(96, .iload_n 1, 97), (97, .dup2, 98), (98, .iaload, 99), (99, .iconst 1, 100), (100, .iadd, 101), (101, .iastore, 102), (102, .return_, 103)]]
def own_m12 : OMth := (⟨"evenkeel/group/LagHoldings", "dealt", "(II)V"⟩, prog_63_method_6_code, 3, none, 3, own_r12, [(7, (6, 0, 0, 1)), (13, (6, 0, 1, 1)), (21, (6, 0, 2, 0)), (30, (0, 3, 0, 0)), (40, (6, 0, 5, 0)), (47, (6, 0, 6, 1)), (51, (0, 13, 0, 0))])
def own_r13 : List (List ORow) := [[(0, .iload_n 0, 1), (1, .iload_n 1, 2), (2, .if_icmp .lt 7, 9), (5, .iload_n 0, 6), (6, .goto 4, 10), (9, .iload_n 1, 10), (10, .ireturn, 11)]]
def own_m13 : OMth := (⟨"java/lang/Math", "max", "(II)I"⟩, jdk_29_method_65_code, 2, (some .int), 2, own_r13, [])
def own_P : OPrg := ([own_m0, own_m1, own_m2, own_m3, own_m4, own_m5, own_m6, own_m7, own_m8, own_m9, own_m10, own_m11, own_m12, own_m13], [own_k0], [.int])
theorem own_pd0 : parseMethodDescriptor "(II)I" = some ⟨[.int, .int], some .int⟩ := by decide +kernel
theorem own_pd1 : parseMethodDescriptor "([I[I)V" = some ⟨[(.array .int), (.array .int)], none⟩ := by decide +kernel
theorem own_pd2 : parseMethodDescriptor "(Levenkeel/group/LagHoldings;[IIIII[I)V" = some ⟨[(.object "evenkeel/group/LagHoldings"), (.array .int), .int, .int, .int, .int, (.array .int)], none⟩ := by decide +kernel
theorem own_pd3 : parseMethodDescriptor "(I)[I" = some ⟨[.int], some (.array .int)⟩ := by decide +kernel
theorem own_pd4 : parseMethodDescriptor "(I)I" = some ⟨[.int], some .int⟩ := by decide +kernel
theorem own_pd5 : parseMethodDescriptor "([III)Z" = some ⟨[(.array .int), .int, .int], some .boolean⟩ := by decide +kernel
theorem own_pd6 : parseMethodDescriptor "([II)[I" = some ⟨[(.array .int), .int], some (.array .int)⟩ := by decide +kernel
theorem own_pd7 : parseMethodDescriptor "([II)V" = some ⟨[(.array .int), .int], none⟩ := by decide +kernel
theorem own_pd8 : parseMethodDescriptor "(II)V" = some ⟨[.int, .int], none⟩ := by decide +kernel
theorem own_pf4 : plainFor ⟨"java/lang/Math", "min", "(II)I"⟩ = true := by decide +kernel
theorem own_pf13 : plainFor ⟨"java/lang/Math", "max", "(II)I"⟩ = true := by decide +kernel
theorem own_pn0 : plainName "evenkeel/group/LagHoldingsPlacesPinLaw" = true := by first | (simp [plainName, overriddenIn]; done) | decide +kernel
theorem own_pn1 : plainName "evenkeel/group/LagHoldings" = true := by first | (simp [plainName, overriddenIn]; done) | decide +kernel
theorem own_pn2 : plainName "java/util/Arrays" = true := by first | (simp [plainName, overriddenIn]; done) | decide +kernel
theorem own_rk0 : ∀ r ∈ own_r0, ∀ x ∈ r, own_okI code x = true := by decide +kernel
theorem own_rk1 : ∀ r ∈ own_r1, ∀ x ∈ r, own_okI method_2_code x = true := by decide +kernel
theorem own_rk2 : ∀ r ∈ own_r2, ∀ x ∈ r, own_okI prog_63_method_1_code x = true := by decide +kernel
theorem own_rk3 : ∀ r ∈ own_r3, ∀ x ∈ r, own_okI jdk_65_method_123_code x = true := by decide +kernel
theorem own_rk4 : ∀ r ∈ own_r4, ∀ x ∈ r, own_okI jdk_29_method_69_code x = true := by decide +kernel
theorem own_rk5 : ∀ r ∈ own_r5, ∀ x ∈ r, own_okI prog_63_method_2_code x = true := by decide +kernel
theorem own_rk6 : ∀ r ∈ own_r6, ∀ x ∈ r, own_okI jdk_65_method_103_code x = true := by decide +kernel
theorem own_rk7 : ∀ r ∈ own_r7, ∀ x ∈ r, own_okI method_3_code x = true := by decide +kernel
theorem own_rk8 : ∀ r ∈ own_r8, ∀ x ∈ r, own_okI prog_63_method_8_code x = true := by decide +kernel
theorem own_rk9 : ∀ r ∈ own_r9, ∀ x ∈ r, own_okI method_4_code x = true := by decide +kernel
theorem own_rk10 : ∀ r ∈ own_r10, ∀ x ∈ r, own_okI method_5_code x = true := by decide +kernel
theorem own_rk11 : ∀ r ∈ own_r11, ∀ x ∈ r, own_okI prog_63_method_5_code x = true := by decide +kernel
theorem own_rk12 : ∀ r ∈ own_r12, ∀ x ∈ r, own_okI prog_63_method_6_code x = true := by decide +kernel
theorem own_rk13 : ∀ r ∈ own_r13, ∀ x ∈ r, own_okI jdk_29_method_65_code x = true := by decide +kernel
abbrev own_hw (Z : State) (a0 : Array Value) : Prop := ∀ d ∈ Jvm.Cond.code x code maxLocals ret :: tables_1, d.before a0 Z = true
set_option maxRecDepth 65536 in
theorem own_g0 {Z : State} {a0 : Array Value} (hw : own_hw Z a0) : own_okM Z a0 own_P own_m0 := ⟨plainFor_of_name own_pn0, (hw _ (List.mem_of_getElem? (i := 0) rfl)), own_rk0, List.forall_mem_cons.mpr ⟨own_e7 (c := own_k0) rfl (hw _ (List.mem_of_getElem? (i := 7) rfl)),
    List.forall_mem_cons.mpr ⟨own_e8 (by decide) (hw _ (List.mem_of_getElem? (i := 1) rfl)),
    List.forall_mem_cons.mpr ⟨own_e0 (mj := own_m1) rfl (hw _ (List.mem_of_getElem? (i := 3) rfl)) (hw _ (List.mem_of_getElem? (i := 4) rfl)) (hw _ (List.mem_of_getElem? (i := 5) rfl)) ⟨by decide, by decide⟩ ⟨_, _, own_pd0, rfl⟩,
    List.forall_mem_cons.mpr ⟨own_e1 (mj := own_m2) rfl rfl rfl (hw _ (List.mem_of_getElem? (i := 10) rfl)) (hw _ (List.mem_of_getElem? (i := 11) rfl)) (hw _ (List.mem_of_getElem? (i := 9) rfl)) ⟨by decide, by decide⟩ ⟨_, _, own_pd1, rfl⟩,
    List.forall_mem_cons.mpr ⟨own_e0 (mj := own_m7) rfl (hw _ (List.mem_of_getElem? (i := 56) rfl)) (hw _ (List.mem_of_getElem? (i := 57) rfl)) (hw _ (List.mem_of_getElem? (i := 5) rfl)) ⟨by decide, by decide⟩ ⟨_, _, own_pd2, rfl⟩,
    List.forall_mem_cons.mpr ⟨own_e3 (mj := own_m8) (c := own_k0) (v := ⟨"evenkeel/group/LagHoldings", "places", "(I)[I"⟩) rfl rfl rfl (hw _ (List.mem_of_getElem? (i := 59) rfl)) (hw _ (List.mem_of_getElem? (i := 60) rfl)) (hw _ (List.mem_of_getElem? (i := 62) rfl)) (hw _ (List.mem_of_getElem? (i := 61) rfl)) (hw _ (List.mem_of_getElem? (i := 9) rfl)) (fun s hZ => notFace_of_selects (args := #[]) (mvT hZ (hw _ (List.mem_of_getElem? (i := 62) rfl)))) ⟨by decide, by decide⟩ ⟨_, _, own_pd3, rfl⟩,
    List.forall_mem_cons.mpr ⟨own_e0 (mj := own_m9) rfl (hw _ (List.mem_of_getElem? (i := 64) rfl)) (hw _ (List.mem_of_getElem? (i := 65) rfl)) (hw _ (List.mem_of_getElem? (i := 5) rfl)) ⟨by decide, by decide⟩ ⟨_, _, own_pd4, rfl⟩,
    List.forall_mem_cons.mpr ⟨own_e0 (mj := own_m10) rfl (hw _ (List.mem_of_getElem? (i := 67) rfl)) (hw _ (List.mem_of_getElem? (i := 68) rfl)) (hw _ (List.mem_of_getElem? (i := 5) rfl)) ⟨by decide, by decide⟩ ⟨_, _, own_pd5, rfl⟩,
    List.forall_mem_nil _⟩⟩⟩⟩⟩⟩⟩⟩⟩
set_option maxRecDepth 65536 in
theorem own_g1 {Z : State} {a0 : Array Value} (hw : own_hw Z a0) : own_okM Z a0 own_P own_m1 := ⟨plainFor_of_name own_pn0, (hw _ (List.mem_of_getElem? (i := 6) rfl)), own_rk1, List.forall_mem_nil _⟩
set_option maxRecDepth 65536 in
theorem own_g2 {Z : State} {a0 : Array Value} (hw : own_hw Z a0) : own_okM Z a0 own_P own_m2 := ⟨plainFor_of_name own_pn1, (hw _ (List.mem_of_getElem? (i := 12) rfl)), own_rk2, List.forall_mem_cons.mpr ⟨own_e2 (hw _ (List.mem_of_getElem? (i := 13) rfl)) (hw _ (List.mem_of_getElem? (i := 14) rfl)) (hw _ (List.mem_of_getElem? (i := 15) rfl)),
    List.forall_mem_cons.mpr ⟨own_e6 (c := own_k0) (R0 := "evenkeel/group/LagHoldings") rfl rfl (hw _ (List.mem_of_getElem? (i := 16) rfl)) Via.refl (fun _ => Or.inl (hw _ (List.mem_of_getElem? (i := 17) rfl))),
    List.forall_mem_cons.mpr ⟨own_e6 (c := own_k0) (R0 := "evenkeel/group/LagHoldings") rfl rfl (hw _ (List.mem_of_getElem? (i := 18) rfl)) Via.refl (fun _ => Or.inl (hw _ (List.mem_of_getElem? (i := 19) rfl))),
    List.forall_mem_cons.mpr ⟨own_e11 (hw _ (List.mem_of_getElem? (i := 20) rfl)) (hw _ (List.mem_of_getElem? (i := 21) rfl)) (hw _ (List.mem_of_getElem? (i := 25) rfl)) (hw _ (List.mem_of_getElem? (i := 23) rfl)) (hw _ (List.mem_of_getElem? (i := 24) rfl)) (hw _ (List.mem_of_getElem? (i := 26) rfl)),
    List.forall_mem_cons.mpr ⟨own_e12 (hw _ (List.mem_of_getElem? (i := 27) rfl)),
    List.forall_mem_cons.mpr ⟨own_e6 (c := own_k0) (R0 := "evenkeel/group/LagHoldings") rfl rfl (hw _ (List.mem_of_getElem? (i := 29) rfl)) Via.refl (fun _ => Or.inr ⟨(hw _ (List.mem_of_getElem? (i := 30) rfl)), rfl, rfl⟩),
    List.forall_mem_cons.mpr ⟨own_e6 (c := own_k0) (R0 := "evenkeel/group/LagHoldings") rfl rfl (hw _ (List.mem_of_getElem? (i := 31) rfl)) Via.refl (fun _ => Or.inr ⟨(hw _ (List.mem_of_getElem? (i := 32) rfl)), rfl, rfl⟩),
    List.forall_mem_cons.mpr ⟨own_e6 (c := own_k0) (R0 := "evenkeel/group/LagHoldings") rfl rfl (hw _ (List.mem_of_getElem? (i := 33) rfl)) Via.refl (fun _ => Or.inr ⟨(hw _ (List.mem_of_getElem? (i := 34) rfl)), rfl, rfl⟩),
    List.forall_mem_cons.mpr ⟨own_e0 (mj := own_m3) rfl (hw _ (List.mem_of_getElem? (i := 35) rfl)) (hw _ (List.mem_of_getElem? (i := 36) rfl)) (hw _ (List.mem_of_getElem? (i := 37) rfl)) ⟨by decide, by decide⟩ ⟨_, _, own_pd6, rfl⟩,
    List.forall_mem_cons.mpr ⟨own_e4 (mj := own_m5) rfl (hw _ (List.mem_of_getElem? (i := 47) rfl)) (hw _ (List.mem_of_getElem? (i := 48) rfl)) (hw _ (List.mem_of_getElem? (i := 49) rfl)) (fun s hZ => own_nf (y := ⟨"evenkeel/group/LagHoldings", "layOut", "([I[I)V"⟩) (y' := ⟨"evenkeel/group/LagHoldings", "places", "(I)[I"⟩) rfl (mvT (args := #[]) hZ (hw _ (List.mem_of_getElem? (i := 62) rfl)))) (hw _ (List.mem_of_getElem? (i := 9) rfl)) ⟨by decide, by decide⟩ ⟨_, _, own_pd1, rfl⟩,
    List.forall_mem_cons.mpr ⟨own_e6 (c := own_k0) (R0 := "evenkeel/group/LagHoldings") rfl rfl (hw _ (List.mem_of_getElem? (i := 51) rfl)) Via.refl (fun _ => Or.inr ⟨(hw _ (List.mem_of_getElem? (i := 52) rfl)), rfl, rfl⟩),
    List.forall_mem_cons.mpr ⟨own_e0 (mj := own_m6) rfl (hw _ (List.mem_of_getElem? (i := 53) rfl)) (hw _ (List.mem_of_getElem? (i := 54) rfl)) (hw _ (List.mem_of_getElem? (i := 37) rfl)) ⟨by decide, by decide⟩ ⟨_, _, own_pd7, rfl⟩,
    List.forall_mem_nil _⟩⟩⟩⟩⟩⟩⟩⟩⟩⟩⟩⟩⟩
set_option maxRecDepth 65536 in
theorem own_g3 {Z : State} {a0 : Array Value} (hw : own_hw Z a0) : own_okM Z a0 own_P own_m3 := ⟨plainFor_of_name own_pn2, (hw _ (List.mem_of_getElem? (i := 38) rfl)), own_rk3, List.forall_mem_cons.mpr ⟨own_e10 (hw _ (List.mem_of_getElem? (i := 43) rfl)) (hw _ (List.mem_of_getElem? (i := 46) rfl)) (hw _ (List.mem_of_getElem? (i := 44) rfl)) (hw _ (List.mem_of_getElem? (i := 45) rfl)),
    List.forall_mem_cons.mpr ⟨own_e0 (mj := own_m4) rfl (hw _ (List.mem_of_getElem? (i := 39) rfl)) (hw _ (List.mem_of_getElem? (i := 40) rfl)) (hw _ (List.mem_of_getElem? (i := 41) rfl)) ⟨by decide, by decide⟩ ⟨_, _, own_pd0, rfl⟩,
    List.forall_mem_nil _⟩⟩⟩
set_option maxRecDepth 65536 in
theorem own_g4 {Z : State} {a0 : Array Value} (hw : own_hw Z a0) : own_okM Z a0 own_P own_m4 := ⟨own_pf4, (hw _ (List.mem_of_getElem? (i := 42) rfl)), own_rk4, List.forall_mem_nil _⟩
set_option maxRecDepth 65536 in
theorem own_g5 {Z : State} {a0 : Array Value} (hw : own_hw Z a0) : own_okM Z a0 own_P own_m5 := ⟨plainFor_of_name own_pn1, (hw _ (List.mem_of_getElem? (i := 50) rfl)), own_rk5, List.forall_mem_cons.mpr ⟨own_e6 (c := own_k0) (R0 := "evenkeel/group/LagHoldings") rfl rfl (hw _ (List.mem_of_getElem? (i := 33) rfl)) Via.refl (fun q => absurd q (by decide)),
    List.forall_mem_nil _⟩⟩
set_option maxRecDepth 65536 in
theorem own_g6 {Z : State} {a0 : Array Value} (hw : own_hw Z a0) : own_okM Z a0 own_P own_m6 := ⟨plainFor_of_name own_pn2, (hw _ (List.mem_of_getElem? (i := 55) rfl)), own_rk6, List.forall_mem_nil _⟩
set_option maxRecDepth 65536 in
theorem own_g7 {Z : State} {a0 : Array Value} (hw : own_hw Z a0) : own_okM Z a0 own_P own_m7 := ⟨plainFor_of_name own_pn0, (hw _ (List.mem_of_getElem? (i := 58) rfl)), own_rk7, List.forall_mem_cons.mpr ⟨own_e3 (mj := own_m11) (c := own_k0) (v := ⟨"evenkeel/group/LagHoldings", "gaveUp", "(II)V"⟩) rfl rfl rfl (hw _ (List.mem_of_getElem? (i := 70) rfl)) (hw _ (List.mem_of_getElem? (i := 71) rfl)) (hw _ (List.mem_of_getElem? (i := 73) rfl)) (hw _ (List.mem_of_getElem? (i := 72) rfl)) (hw _ (List.mem_of_getElem? (i := 9) rfl)) (fun s hZ => own_nf (y := ⟨"evenkeel/group/LagHoldings", "gaveUp", "(II)V"⟩) (y' := ⟨"evenkeel/group/LagHoldings", "places", "(I)[I"⟩) rfl (mvT (args := #[]) hZ (hw _ (List.mem_of_getElem? (i := 62) rfl)))) ⟨by decide, by decide⟩ ⟨_, _, own_pd8, rfl⟩,
    List.forall_mem_cons.mpr ⟨own_e3 (mj := own_m12) (c := own_k0) (v := ⟨"evenkeel/group/LagHoldings", "dealt", "(II)V"⟩) rfl rfl rfl (hw _ (List.mem_of_getElem? (i := 75) rfl)) (hw _ (List.mem_of_getElem? (i := 76) rfl)) (hw _ (List.mem_of_getElem? (i := 78) rfl)) (hw _ (List.mem_of_getElem? (i := 77) rfl)) (hw _ (List.mem_of_getElem? (i := 9) rfl)) (fun s hZ => own_nf (y := ⟨"evenkeel/group/LagHoldings", "dealt", "(II)V"⟩) (y' := ⟨"evenkeel/group/LagHoldings", "places", "(I)[I"⟩) rfl (mvT (args := #[]) hZ (hw _ (List.mem_of_getElem? (i := 62) rfl)))) ⟨by decide, by decide⟩ ⟨_, _, own_pd8, rfl⟩,
    List.forall_mem_nil _⟩⟩⟩
set_option maxRecDepth 65536 in
theorem own_g8 {Z : State} {a0 : Array Value} (hw : own_hw Z a0) : own_okM Z a0 own_P own_m8 := ⟨plainFor_of_name own_pn1, (hw _ (List.mem_of_getElem? (i := 63) rfl)), own_rk8, List.forall_mem_cons.mpr ⟨own_e6 (c := own_k0) (R0 := "evenkeel/group/LagHoldings") rfl rfl (hw _ (List.mem_of_getElem? (i := 16) rfl)) Via.refl (fun _ => Or.inl (hw _ (List.mem_of_getElem? (i := 17) rfl))),
    List.forall_mem_cons.mpr ⟨own_e6 (c := own_k0) (R0 := "evenkeel/group/LagHoldings") rfl rfl (hw _ (List.mem_of_getElem? (i := 18) rfl)) Via.refl (fun _ => Or.inl (hw _ (List.mem_of_getElem? (i := 19) rfl))),
    List.forall_mem_cons.mpr ⟨own_e6 (c := own_k0) (R0 := "evenkeel/group/LagHoldings") rfl rfl (hw _ (List.mem_of_getElem? (i := 29) rfl)) Via.refl (fun q => absurd q (by decide)),
    List.forall_mem_cons.mpr ⟨own_e6 (c := own_k0) (R0 := "evenkeel/group/LagHoldings") rfl rfl (hw _ (List.mem_of_getElem? (i := 31) rfl)) Via.refl (fun q => absurd q (by decide)),
    List.forall_mem_cons.mpr ⟨own_e6 (c := own_k0) (R0 := "evenkeel/group/LagHoldings") rfl rfl (hw _ (List.mem_of_getElem? (i := 33) rfl)) Via.refl (fun q => absurd q (by decide)),
    List.forall_mem_cons.mpr ⟨own_e6 (c := own_k0) (R0 := "evenkeel/group/LagHoldings") rfl rfl (hw _ (List.mem_of_getElem? (i := 51) rfl)) Via.refl (fun q => absurd q (by decide)),
    List.forall_mem_nil _⟩⟩⟩⟩⟩⟩⟩
set_option maxRecDepth 65536 in
theorem own_g9 {Z : State} {a0 : Array Value} (hw : own_hw Z a0) : own_okM Z a0 own_P own_m9 := ⟨plainFor_of_name own_pn0, (hw _ (List.mem_of_getElem? (i := 66) rfl)), own_rk9, List.forall_mem_nil _⟩
set_option maxRecDepth 65536 in
theorem own_g10 {Z : State} {a0 : Array Value} (hw : own_hw Z a0) : own_okM Z a0 own_P own_m10 := ⟨plainFor_of_name own_pn0, (hw _ (List.mem_of_getElem? (i := 69) rfl)), own_rk10, List.forall_mem_nil _⟩
set_option maxRecDepth 65536 in
theorem own_g11 {Z : State} {a0 : Array Value} (hw : own_hw Z a0) : own_okM Z a0 own_P own_m11 := ⟨plainFor_of_name own_pn1, (hw _ (List.mem_of_getElem? (i := 74) rfl)), own_rk11, List.forall_mem_cons.mpr ⟨own_e6 (c := own_k0) (R0 := "evenkeel/group/LagHoldings") rfl rfl (hw _ (List.mem_of_getElem? (i := 29) rfl)) Via.refl (fun q => absurd q (by decide)),
    List.forall_mem_cons.mpr ⟨own_e6 (c := own_k0) (R0 := "evenkeel/group/LagHoldings") rfl rfl (hw _ (List.mem_of_getElem? (i := 31) rfl)) Via.refl (fun q => absurd q (by decide)),
    List.forall_mem_cons.mpr ⟨own_e6 (c := own_k0) (R0 := "evenkeel/group/LagHoldings") rfl rfl (hw _ (List.mem_of_getElem? (i := 33) rfl)) Via.refl (fun q => absurd q (by decide)),
    List.forall_mem_nil _⟩⟩⟩⟩
set_option maxRecDepth 65536 in
theorem own_g12 {Z : State} {a0 : Array Value} (hw : own_hw Z a0) : own_okM Z a0 own_P own_m12 := ⟨plainFor_of_name own_pn1, (hw _ (List.mem_of_getElem? (i := 79) rfl)), own_rk12, List.forall_mem_cons.mpr ⟨own_e6 (c := own_k0) (R0 := "evenkeel/group/LagHoldings") rfl rfl (hw _ (List.mem_of_getElem? (i := 16) rfl)) Via.refl (fun _ => Or.inl (hw _ (List.mem_of_getElem? (i := 17) rfl))),
    List.forall_mem_cons.mpr ⟨own_e6 (c := own_k0) (R0 := "evenkeel/group/LagHoldings") rfl rfl (hw _ (List.mem_of_getElem? (i := 18) rfl)) Via.refl (fun _ => Or.inl (hw _ (List.mem_of_getElem? (i := 19) rfl))),
    List.forall_mem_cons.mpr ⟨own_e6 (c := own_k0) (R0 := "evenkeel/group/LagHoldings") rfl rfl (hw _ (List.mem_of_getElem? (i := 29) rfl)) Via.refl (fun q => absurd q (by decide)),
    List.forall_mem_cons.mpr ⟨own_e0 (mj := own_m3) rfl (hw _ (List.mem_of_getElem? (i := 35) rfl)) (hw _ (List.mem_of_getElem? (i := 36) rfl)) (hw _ (List.mem_of_getElem? (i := 37) rfl)) ⟨by decide, by decide⟩ ⟨_, _, own_pd6, rfl⟩,
    List.forall_mem_cons.mpr ⟨own_e6 (c := own_k0) (R0 := "evenkeel/group/LagHoldings") rfl rfl (hw _ (List.mem_of_getElem? (i := 51) rfl)) Via.refl (fun q => absurd q (by decide)),
    List.forall_mem_cons.mpr ⟨own_e6 (c := own_k0) (R0 := "evenkeel/group/LagHoldings") rfl rfl (hw _ (List.mem_of_getElem? (i := 80) rfl)) Via.refl (fun _ => Or.inl (hw _ (List.mem_of_getElem? (i := 81) rfl))),
    List.forall_mem_cons.mpr ⟨own_e0 (mj := own_m13) rfl (hw _ (List.mem_of_getElem? (i := 82) rfl)) (hw _ (List.mem_of_getElem? (i := 83) rfl)) (hw _ (List.mem_of_getElem? (i := 41) rfl)) ⟨by decide, by decide⟩ ⟨_, _, own_pd0, rfl⟩,
    List.forall_mem_nil _⟩⟩⟩⟩⟩⟩⟩⟩
set_option maxRecDepth 65536 in
theorem own_g13 {Z : State} {a0 : Array Value} (hw : own_hw Z a0) : own_okM Z a0 own_P own_m13 := ⟨own_pf13, (hw _ (List.mem_of_getElem? (i := 84) rfl)), own_rk13, List.forall_mem_nil _⟩
set_option maxRecDepth 65536 in
theorem own_G {Z : State} {a0 : Array Value} (hw : own_hw Z a0) : own_good Z a0 own_P := by
  refine ⟨List.forall_mem_cons.mpr ⟨own_g0 hw, List.forall_mem_cons.mpr ⟨own_g1 hw, List.forall_mem_cons.mpr ⟨own_g2 hw, List.forall_mem_cons.mpr ⟨own_g3 hw, List.forall_mem_cons.mpr ⟨own_g4 hw, List.forall_mem_cons.mpr ⟨own_g5 hw, List.forall_mem_cons.mpr ⟨own_g6 hw, List.forall_mem_cons.mpr ⟨own_g7 hw, List.forall_mem_cons.mpr ⟨own_g8 hw, List.forall_mem_cons.mpr ⟨own_g9 hw, List.forall_mem_cons.mpr ⟨own_g10 hw, List.forall_mem_cons.mpr ⟨own_g11 hw, List.forall_mem_cons.mpr ⟨own_g12 hw, List.forall_mem_cons.mpr ⟨own_g13 hw, List.forall_mem_nil _⟩⟩⟩⟩⟩⟩⟩⟩⟩⟩⟩⟩⟩⟩, ?_, ?_⟩
  · intro k c hk
    have hk2 := List.mem_of_getElem? hk
    simp only [own_P, List.mem_cons, List.not_mem_nil, or_false] at hk2
    rcases hk2 with rfl
    · exact ⟨(hw _ (List.mem_of_getElem? (i := 8) rfl)), (hw _ (List.mem_of_getElem? (i := 9) rfl)), List.forall_mem_cons.mpr ⟨⟨Or.inl (hw _ (List.mem_of_getElem? (i := 17) rfl)), by decide +kernel⟩,
      List.forall_mem_cons.mpr ⟨⟨Or.inl (hw _ (List.mem_of_getElem? (i := 19) rfl)), by decide +kernel⟩,
      List.forall_mem_cons.mpr ⟨⟨Or.inr (hw _ (List.mem_of_getElem? (i := 30) rfl)), by decide +kernel⟩,
      List.forall_mem_cons.mpr ⟨⟨Or.inr (hw _ (List.mem_of_getElem? (i := 32) rfl)), by decide +kernel⟩,
      List.forall_mem_cons.mpr ⟨⟨Or.inr (hw _ (List.mem_of_getElem? (i := 34) rfl)), by decide +kernel⟩,
      List.forall_mem_cons.mpr ⟨⟨Or.inr (hw _ (List.mem_of_getElem? (i := 52) rfl)), by decide +kernel⟩,
      List.forall_mem_cons.mpr ⟨⟨Or.inl (hw _ (List.mem_of_getElem? (i := 81) rfl)), by decide +kernel⟩,
      List.forall_mem_nil _⟩⟩⟩⟩⟩⟩⟩, by decide +kernel⟩
  · exact List.forall_mem_cons.mpr ⟨⟨(hw _ (List.mem_of_getElem? (i := 2) rfl)), rfl⟩, List.forall_mem_nil _⟩
abbrev own_goal (as : List Value) : Prop := own_ks own_P (own_end own_P.2.1 40 256) [] 0 7 176 0 (own_entry as own_m0.ml) [] []
/-! ## the law: lists in cells, little facts on ints -/
theorem own_run.to {P : OPrg} {i d lo pc : Nat} {L : List Slot} {S : List Value} {H : OHeap} {v : Option Value} {G G' : OHeap} (h : own_run P i d lo pc L S H (v, G)) (e : G = G') : own_run P i d lo pc L S H (v, G') := e ▸ h
theorem own_ks.newi {P : OPrg} {Q : Option Value → OHeap → Prop} {st : List OFm} {i d lo pc t q : Nat} {L : List Slot} {S : List Value} {H : OHeap} {mt : OMth} {j : Int32} (hi : P.1[i]? = some mt) (h1 : own_at mt pc = some (.newarray .int, t)) (hq : own_ix j = some q) (hm : newarray.typeOf .int ∈ P.2.2) (hs : q * 8 ≤ 536870912)
    (k : own_ks P Q st i d lo t L (.ref H.length :: S) (H ++ [(.inr .int, List.replicate q (.int 0))])) : own_ks P Q st i d lo pc L (.int j :: S) H :=
  own_ks.go hi 1 (own_go1 h1 rfl rfl (by simp only [own_step, own_pure, own_heap, hq, if_pos (And.intro hm hs)]; rfl)) k
def own_iv (l : List Int32) : List Value := l.map Value.int
theorem own_iv_get {l : List Int32} {q : Nat} {v : Int32} (h : l[q]? = some v) : (own_iv l)[q]? = some (.int v) := by simp [own_iv, h]
theorem own_iv_set (l : List Int32) (q : Nat) (v : Int32) : (own_iv l).set q (.int v) = own_iv (l.set q v) := by simp [own_iv, List.map_set]
theorem own_iv_len (l : List Int32) : (own_iv l).length = l.length := by simp [own_iv]
theorem own_lt' {l : List Int32} {q : Nat} (h : q < l.length) : q < (own_iv l).length := by rw [own_iv_len]; exact h
theorem own_lt {l : List Int32} {q : Nat} {v : Int32} (h : l[q]? = some v) : q < (own_iv l).length := own_lt' (List.getElem?_eq_some_iff.mp h).1
theorem own_rep_iv (n : Nat) : List.replicate n (Value.int 0) = own_iv (List.replicate n 0) := by simp [own_iv]
def own_F0 (tk tw cs ss ts nx ld : List Int32) (i0 hb : Int32) : OHeap := [(.inr .int, own_iv tk), (.inr .int, own_iv tw), (.inl 0, [.ref 3, .ref 4, .ref 5, .ref 6, .ref 7, .ref 9, .int 0]), (.inr .int, []), (.inr .int, []), (.inr .int, own_iv cs), (.inr .int, own_iv ss), (.inr .int, own_iv ts), (.inr .int, own_iv nx), (.inr .int, own_iv ld), (.inr .int, [.int i0, .int hb])]
def own_F1 (tk tw cs ss ts nx ld D B : List Int32) (n i0 hb : Int32) : OHeap := [(.inr .int, own_iv tk), (.inr .int, own_iv tw), (.inl 0, [.ref 11, .ref 12, .ref 5, .ref 6, .ref 7, .ref 9, .int n]), (.inr .int, []), (.inr .int, []), (.inr .int, own_iv cs), (.inr .int, own_iv ss), (.inr .int, own_iv ts), (.inr .int, own_iv nx), (.inr .int, own_iv ld), (.inr .int, [.int i0, .int hb]), (.inr .int, own_iv D), (.inr .int, own_iv B)]
theorem own_ixo0 : ∀ k < 40, own_ix (Int32.ofNat k) = some k := by decide
theorem own_ixo {k : Nat} (h : k ≤ 39) : own_ix (Int32.ofNat k) = some k := own_ixo0 k (by omega)
theorem own_olt0 : ∀ a < 40, ∀ b < 40, a < b → Int32.ofNat a < Int32.ofNat b := by decide +kernel
theorem own_olt {a b : Nat} (h : a < b) (ha : a ≤ 39) (hb : b ≤ 39) : Int32.ofNat a < Int32.ofNat b := own_olt0 a (by omega) b (by omega) h
theorem own_ole0 : ∀ a < 40, ∀ b < 40, b ≤ a → ¬ (Int32.ofNat a < Int32.ofNat b) := by decide +kernel
theorem own_ole {a b : Nat} (h : b ≤ a) (ha : a ≤ 39) (hb : b ≤ 39) : ¬ (Int32.ofNat a < Int32.ofNat b) := own_ole0 a (by omega) b (by omega) h
theorem own_oeq0 : ∀ a < 40, ∀ b < 40, Int32.ofNat a = Int32.ofNat b → a = b := by decide +kernel
theorem own_on00 : ∀ k < 40, ¬ (Int32.ofNat k < (0 : Int32)) := by decide
theorem own_on0 {k : Nat} (h : k ≤ 39) : ¬ (Int32.ofNat k < (0 : Int32)) := own_on00 k (by omega)
theorem own_ixm0 : ∀ k < 40, own_ix (Int32.ofNat (k + 1) - (1 : Int32)) = some k := by decide
theorem own_ixm {k : Nat} (h : k ≤ 39) : own_ix (Int32.ofNat (k + 1) - (1 : Int32)) = some k := own_ixm0 k (by omega)
theorem own_mlt0 : ∀ k < 40, ∀ s < 40, k ≤ s → Int32.ofNat k - (1 : Int32) < Int32.ofNat s := by decide +kernel
theorem own_mlt {k s : Nat} (h : k ≤ s) (hs : s ≤ 39) : Int32.ofNat k - (1 : Int32) < Int32.ofNat s := own_mlt0 k (by omega) s (by omega) h
theorem own_mnlt0 : ∀ k < 40, ∀ s < 40, s ≤ k → ¬ (Int32.ofNat (k + 1) - (1 : Int32) < Int32.ofNat s) := by decide +kernel
theorem own_mnlt {k s : Nat} (h : s ≤ k) (hk : k ≤ 39) : ¬ (Int32.ofNat (k + 1) - (1 : Int32) < Int32.ofNat s) := own_mnlt0 k (by omega) s (by omega) h
theorem own_mdec0 : ∀ k < 40, Int32.ofNat (k + 1) - (1 : Int32) + (-1 : Int32) = Int32.ofNat k - (1 : Int32) := by decide
theorem own_mdec {k : Nat} (h : k ≤ 39) : Int32.ofNat (k + 1) - (1 : Int32) + (-1 : Int32) = Int32.ofNat k - (1 : Int32) := own_mdec0 k (by omega)
theorem own_mn00 : ∀ k < 40, ¬ (Int32.ofNat (k + 1) - (1 : Int32) < (0 : Int32)) := by decide
theorem own_mn0 {k : Nat} (h : k ≤ 39) : ¬ (Int32.ofNat (k + 1) - (1 : Int32) < (0 : Int32)) := own_mn00 k (by omega)
theorem own_n160 : ∀ k < 16, ¬ (Int32.ofNat k = (16 : Int32)) := by decide
theorem own_s1 (n : Nat) : Int32.ofNat n + (1 : Int32) = Int32.ofNat (n + 1) := (Int32.ofNat_add n 1).symm
theorem own_os1 (X : List Int32) (y : Int32) : Int32.ofNat X.length + (1 : Int32) = Int32.ofNat (X ++ [y]).length := by rw [List.length_append]; exact own_s1 _
def own_nn (y : Int32) : Bool := if y = -1 then false else true
theorem own_fn {y : Int32} {Y : List Int32} (h : y = -1) : (y :: Y).filter own_nn = Y.filter own_nn := by simp [own_nn, h]
theorem own_fp {y : Int32} {Y : List Int32} (h : ¬ y = -1) : (y :: Y).filter own_nn = y :: Y.filter own_nn := by simp [own_nn, h]
theorem own_sapp (X Z : List Int32) (y : Int32) : (X ++ (0 :: Z)).set X.length y = (X ++ [y]) ++ Z := by rw [List.set_append_right _ _ (Nat.le_refl _), Nat.sub_self]; simp
theorem own_srep (n : Nat) (X : List Int32) (y : Int32) : (List.replicate (n + 1) 0 ++ X).set n y = List.replicate n 0 ++ (y :: X) := by
  rw [List.replicate_succ', List.append_assoc, List.set_append_right _ _ (by simp)]; simp
theorem own_runat (pre R pst : List Int32) (r : Int32) : (pre ++ (R.reverse ++ (r :: pst)))[pre.length + R.length]? = some r := by
  rw [List.getElem?_append_right (by omega), List.getElem?_append_right (by simp)]; simp
theorem own_runset (pre R rest post : List Int32) (r y : Int32) : (pre ++ (R.reverse ++ ((r :: rest) ++ post))).set (pre.length + R.length) y = pre ++ ((y :: R).reverse ++ (rest ++ post)) := by
  rw [List.set_append_right _ _ (by omega), List.set_append_right _ _ (by simp)]; simp
def own_sk : List Int32 → List Int32
  | [] => []
  | r :: R => if r = -1 then own_sk R else r :: R
theorem own_skn {r : Int32} {R : List Int32} (h : r = -1) : own_sk (r :: R) = own_sk R := by simp [own_sk, h]
theorem own_skp {r : Int32} {R : List Int32} (h : ¬ r = -1) : own_sk (r :: R) = r :: R := by simp [own_sk, h]
def own_mgF (f : List Int32 → List Int32 → List Int32) : List Int32 → List Int32 → List Int32
  | [], [] => []
  | r :: R2, [] => r :: f R2 []
  | [], d :: ds2 => d :: f [] ds2
  | r :: R2, d :: ds2 => if r < d then d :: f (r :: R2) ds2 else r :: f R2 (d :: ds2)
def own_mgl : Nat → List Int32 → List Int32 → List Int32
  | 0 => fun _ _ => []
  | n + 1 => fun R ds => own_mgF (own_mgl n) (own_sk R) ds
def own_chain (D B : List Int32) : Nat → Int32 → List Int32 → Prop
  | _, a, [] => a = -1
  | n, a, d :: ds => ∃ j, j < n ∧ a = Int32.ofNat j ∧ D[j]? = some d ∧ ∃ a2, B[j]? = some a2 ∧ own_chain D B j a2 ds
theorem own_chI {D B : List Int32} {n j : Nat} {d a2 : Int32} {ds : List Int32} (h1 : j < n) (h2 : D[j]? = some d) (h3 : B[j]? = some a2) (h4 : own_chain D B j a2 ds) : own_chain D B n (Int32.ofNat j) (d :: ds) := by
  simp only [own_chain]
  exact ⟨j, h1, rfl, h2, a2, h3, h4⟩
theorem own_chS {D B : List Int32} (N : Nat) (v w : Int32) (ds : List Int32) : ∀ (n n' : Nat) (a : Int32), n ≤ N → n ≤ n' → own_chain D B n a ds → own_chain (D.set N v) (B.set N w) n' a ds := by
  induction ds with
  | nil => intro n n' a _ _ h; exact h
  | cons d ds ih =>
    intro n n' a h1 h0 h
    simp only [own_chain] at h
    obtain ⟨j, h2, rfl, h3, a2, h4, h5⟩ := h
    exact own_chI (by omega) (by rw [List.getElem?_set_ne (by omega)]; exact h3) (by rw [List.getElem?_set_ne (by omega)]; exact h4) (ih j j a2 (by omega) (Nat.le_refl _) h5)
set_option maxRecDepth 100000 in
set_option maxHeartbeats 4000000 in
theorem own_gu0 (tk tw cs ss ts nx ld : List Int32) (i0 hb : Int32) (m i s c : Int32) (qm q : Nat) (hm : own_ix m = some qm) (hs : ss[qm]? = some s) (hq : own_ix (s + i) = some q) (hl : q < ts.length) (hc : cs[qm]? = some c) :
    own_run own_P 11 5 142 0 (own_entry [.ref 2, .int m, .int i] own_m11.ml) [] (own_F0 tk tw cs ss ts nx ld i0 hb) (none, (own_F0 tk tw (cs.set qm (c - (1 : Int32))) ss (ts.set q (-1 : Int32)) nx ld i0 hb)) := by
  refine own_ks_run ?_
  refine own_ks.go (mt := own_m11) rfl 5 (pc' := 9) (L' := [.val (.ref 2), .val (.int m), .val (.int i)]) (S' := [.int m, .ref 6, .ref 7]) (H' := (own_F0 tk tw cs ss ts nx ld i0 hb)) rfl ?_
  refine own_ks.iaload (mt := own_m11) rfl (t := 10) (a := 6) (v := .int s) rfl rfl hm (own_iv_get hs) ?_
  refine own_ks.go (mt := own_m11) rfl 3 (pc' := 13) (L' := [.val (.ref 2), .val (.int m), .val (.int i)]) (S' := [.int (-1 : Int32), .int (s + i), .ref 7]) (H' := (own_F0 tk tw cs ss ts nx ld i0 hb)) rfl ?_
  refine own_ks.iastore (mt := own_m11) rfl (t := 14) (a := 7) (H' := (own_F0 tk tw cs ss (ts.set q (-1 : Int32)) nx ld i0 hb)) rfl rfl hq (own_lt' hl) (by rw [own_iv_set]; rfl) ?_
  refine own_ks.go (mt := own_m11) rfl 4 (pc' := 20) (L' := [.val (.ref 2), .val (.int m), .val (.int i)]) (S' := [.int m, .ref 5, .int m, .ref 5]) (H' := (own_F0 tk tw cs ss (ts.set q (-1 : Int32)) nx ld i0 hb)) rfl ?_
  refine own_ks.iaload (mt := own_m11) rfl (t := 21) (a := 5) (v := .int c) rfl rfl hm (own_iv_get hc) ?_
  refine own_ks.go (mt := own_m11) rfl 2 (pc' := 23) (L' := [.val (.ref 2), .val (.int m), .val (.int i)]) (S' := [.int (c - (1 : Int32)), .int m, .ref 5]) (H' := (own_F0 tk tw cs ss (ts.set q (-1 : Int32)) nx ld i0 hb)) rfl ?_
  refine own_ks.iastore (mt := own_m11) rfl (t := 24) (a := 5) (H' := (own_F0 tk tw (cs.set qm (c - (1 : Int32))) ss (ts.set q (-1 : Int32)) nx ld i0 hb)) rfl rfl hm (own_lt hc) (by rw [own_iv_set]; rfl) ?_
  exact own_ks.ret (mt := own_m11) rfl (ins := .return_) (t := 25) (v := none) rfl rfl ⟨rfl, rfl⟩
set_option maxRecDepth 100000 in
set_option maxHeartbeats 4000000 in
theorem own_gu1 (tk tw cs ss ts nx ld D B : List Int32) (n i0 hb : Int32) (m i s c : Int32) (qm q : Nat) (hm : own_ix m = some qm) (hs : ss[qm]? = some s) (hq : own_ix (s + i) = some q) (hl : q < ts.length) (hc : cs[qm]? = some c) :
    own_run own_P 11 5 142 0 (own_entry [.ref 2, .int m, .int i] own_m11.ml) [] (own_F1 tk tw cs ss ts nx ld D B n i0 hb) (none, (own_F1 tk tw (cs.set qm (c - (1 : Int32))) ss (ts.set q (-1 : Int32)) nx ld D B n i0 hb)) := by
  refine own_ks_run ?_
  refine own_ks.go (mt := own_m11) rfl 5 (pc' := 9) (L' := [.val (.ref 2), .val (.int m), .val (.int i)]) (S' := [.int m, .ref 6, .ref 7]) (H' := (own_F1 tk tw cs ss ts nx ld D B n i0 hb)) rfl ?_
  refine own_ks.iaload (mt := own_m11) rfl (t := 10) (a := 6) (v := .int s) rfl rfl hm (own_iv_get hs) ?_
  refine own_ks.go (mt := own_m11) rfl 3 (pc' := 13) (L' := [.val (.ref 2), .val (.int m), .val (.int i)]) (S' := [.int (-1 : Int32), .int (s + i), .ref 7]) (H' := (own_F1 tk tw cs ss ts nx ld D B n i0 hb)) rfl ?_
  refine own_ks.iastore (mt := own_m11) rfl (t := 14) (a := 7) (H' := (own_F1 tk tw cs ss (ts.set q (-1 : Int32)) nx ld D B n i0 hb)) rfl rfl hq (own_lt' hl) (by rw [own_iv_set]; rfl) ?_
  refine own_ks.go (mt := own_m11) rfl 4 (pc' := 20) (L' := [.val (.ref 2), .val (.int m), .val (.int i)]) (S' := [.int m, .ref 5, .int m, .ref 5]) (H' := (own_F1 tk tw cs ss (ts.set q (-1 : Int32)) nx ld D B n i0 hb)) rfl ?_
  refine own_ks.iaload (mt := own_m11) rfl (t := 21) (a := 5) (v := .int c) rfl rfl hm (own_iv_get hc) ?_
  refine own_ks.go (mt := own_m11) rfl 2 (pc' := 23) (L' := [.val (.ref 2), .val (.int m), .val (.int i)]) (S' := [.int (c - (1 : Int32)), .int m, .ref 5]) (H' := (own_F1 tk tw cs ss (ts.set q (-1 : Int32)) nx ld D B n i0 hb)) rfl ?_
  refine own_ks.iastore (mt := own_m11) rfl (t := 24) (a := 5) (H' := (own_F1 tk tw (cs.set qm (c - (1 : Int32))) ss (ts.set q (-1 : Int32)) nx ld D B n i0 hb)) rfl rfl hm (own_lt hc) (by rw [own_iv_set]; rfl) ?_
  exact own_ks.ret (mt := own_m11) rfl (ins := .return_) (t := 25) (v := none) rfl rfl ⟨rfl, rfl⟩
set_option maxRecDepth 100000 in
set_option maxHeartbeats 4000000 in
theorem own_dl0 (tk tw cs ss ts nx ld : List Int32) (i0 hb : Int32) (m p l c : Int32) (qm : Nat) (hm : own_ix m = some qm) (hl : ld[qm]? = some l) (hc : cs[qm]? = some c) :
    own_run own_P 12 5 142 0 (own_entry [.ref 2, .int m, .int p] own_m12.ml) [] (own_F0 tk tw cs ss ts nx ld i0 hb) (none, (own_F1 tk tw (cs.set qm (c + (1 : Int32))) ss ts nx (ld.set qm (0 : Int32)) [p, (0 : Int32), (0 : Int32), (0 : Int32), (0 : Int32), (0 : Int32), (0 : Int32), (0 : Int32), (0 : Int32), (0 : Int32), (0 : Int32), (0 : Int32), (0 : Int32), (0 : Int32), (0 : Int32), (0 : Int32)] [l, (0 : Int32), (0 : Int32), (0 : Int32), (0 : Int32), (0 : Int32), (0 : Int32), (0 : Int32), (0 : Int32), (0 : Int32), (0 : Int32), (0 : Int32), (0 : Int32), (0 : Int32), (0 : Int32), (0 : Int32)] (1 : Int32) i0 hb)) := by
  refine own_ks_run ?_
  refine own_ks.go (mt := own_m12) rfl 14 (pc' := 25) (L' := [.val (.ref 2), .val (.int m), .val (.int p)]) (S' := [.int (0 : Int32), .int (16 : Int32), .ref 3, .ref 2]) (H' := (own_F0 tk tw cs ss ts nx ld i0 hb)) rfl ?_
  refine own_ks.into (mt := own_m12) (mj := own_m13) rfl (ins := .invokestatic 51) (t := 28) (j := 13) (as := [.int (16 : Int32), .int (0 : Int32)]) (r' := [.ref 3, .ref 2]) (L' := [.val (.int (16 : Int32)), .val (.int (0 : Int32))]) rfl rfl rfl rfl rfl rfl rfl rfl ?_
  refine own_ks.go (mt := own_m13) rfl 5 (pc' := 10) (L' := [.val (.int (16 : Int32)), .val (.int (0 : Int32))]) (S' := [.int (16 : Int32)]) (H' := (own_F0 tk tw cs ss ts nx ld i0 hb)) rfl ?_
  refine own_ks.back (mt := own_m13) rfl (ins := .ireturn) (t := 11) (v := some (.int (16 : Int32))) (S2 := [.int (16 : Int32), .ref 3, .ref 2]) rfl rfl rfl ?_
  refine own_ks.into (mt := own_m12) (mj := own_m3) rfl (ins := .invokestatic 30) (t := 31) (j := 3) (as := [.ref 3, .int (16 : Int32)]) (r' := [.ref 2]) (L' := [.val (.ref 3), .val (.int (16 : Int32)), .unset]) rfl rfl rfl rfl rfl rfl rfl rfl ?_
  refine own_ks.go (mt := own_m3) rfl 14 (pc' := 25) (L' := [.val (.ref 3), .val (.int (16 : Int32)), .val (.ref 11)]) (S' := [.int (16 : Int32), .int (0 : Int32), .int (0 : Int32), .ref 11, .int (0 : Int32), .ref 3]) (H' := ((own_F0 tk tw cs ss ts nx ld i0 hb) ++ [(.inr .int, [.int (0 : Int32), .int (0 : Int32), .int (0 : Int32), .int (0 : Int32), .int (0 : Int32), .int (0 : Int32), .int (0 : Int32), .int (0 : Int32), .int (0 : Int32), .int (0 : Int32), .int (0 : Int32), .int (0 : Int32), .int (0 : Int32), .int (0 : Int32), .int (0 : Int32), .int (0 : Int32)])])) rfl ?_
  refine own_ks.into (mt := own_m3) (mj := own_m4) rfl (ins := .invokestatic 304) (t := 28) (j := 4) (as := [.int (0 : Int32), .int (16 : Int32)]) (r' := [.int (0 : Int32), .ref 11, .int (0 : Int32), .ref 3]) (L' := [.val (.int (0 : Int32)), .val (.int (16 : Int32))]) rfl rfl rfl rfl rfl rfl rfl rfl ?_
  refine own_ks.go (mt := own_m4) rfl 5 (pc' := 10) (L' := [.val (.int (0 : Int32)), .val (.int (16 : Int32))]) (S' := [.int (0 : Int32)]) (H' := ((own_F0 tk tw cs ss ts nx ld i0 hb) ++ [(.inr .int, [.int (0 : Int32), .int (0 : Int32), .int (0 : Int32), .int (0 : Int32), .int (0 : Int32), .int (0 : Int32), .int (0 : Int32), .int (0 : Int32), .int (0 : Int32), .int (0 : Int32), .int (0 : Int32), .int (0 : Int32), .int (0 : Int32), .int (0 : Int32), .int (0 : Int32), .int (0 : Int32)])])) rfl ?_
  refine own_ks.back (mt := own_m4) rfl (ins := .ireturn) (t := 11) (v := some (.int (0 : Int32))) (S2 := [.int (0 : Int32), .int (0 : Int32), .ref 11, .int (0 : Int32), .ref 3]) rfl rfl rfl ?_
  refine own_ks.go (mt := own_m3) rfl 2 (pc' := 32) (L' := [.val (.ref 3), .val (.int (16 : Int32)), .val (.ref 11)]) (S' := [.ref 11]) (H' := ((own_F0 tk tw cs ss ts nx ld i0 hb) ++ [(.inr .int, [.int (0 : Int32), .int (0 : Int32), .int (0 : Int32), .int (0 : Int32), .int (0 : Int32), .int (0 : Int32), .int (0 : Int32), .int (0 : Int32), .int (0 : Int32), .int (0 : Int32), .int (0 : Int32), .int (0 : Int32), .int (0 : Int32), .int (0 : Int32), .int (0 : Int32), .int (0 : Int32)])])) rfl ?_
  refine own_ks.back (mt := own_m3) rfl (ins := .areturn) (t := 33) (v := some (.ref 11)) (S2 := [.ref 11, .ref 2]) rfl rfl rfl ?_
  refine own_ks.go (mt := own_m12) rfl 7 (pc' := 44) (L' := [.val (.ref 2), .val (.int m), .val (.int p)]) (S' := [.int (16 : Int32), .ref 4, .ref 2]) (H' := [(.inr .int, (own_iv tk)), (.inr .int, (own_iv tw)), (.inl 0, [.ref 11, .ref 4, .ref 5, .ref 6, .ref 7, .ref 9, .int (0 : Int32)]), (.inr .int, []), (.inr .int, []), (.inr .int, (own_iv cs)), (.inr .int, (own_iv ss)), (.inr .int, (own_iv ts)), (.inr .int, (own_iv nx)), (.inr .int, (own_iv ld)), (.inr .int, [.int i0, .int hb]), (.inr .int, [.int (0 : Int32), .int (0 : Int32), .int (0 : Int32), .int (0 : Int32), .int (0 : Int32), .int (0 : Int32), .int (0 : Int32), .int (0 : Int32), .int (0 : Int32), .int (0 : Int32), .int (0 : Int32), .int (0 : Int32), .int (0 : Int32), .int (0 : Int32), .int (0 : Int32), .int (0 : Int32)])]) rfl ?_
  refine own_ks.into (mt := own_m12) (mj := own_m3) rfl (ins := .invokestatic 30) (t := 47) (j := 3) (as := [.ref 4, .int (16 : Int32)]) (r' := [.ref 2]) (L' := [.val (.ref 4), .val (.int (16 : Int32)), .unset]) rfl rfl rfl rfl rfl rfl rfl rfl ?_
  refine own_ks.go (mt := own_m3) rfl 14 (pc' := 25) (L' := [.val (.ref 4), .val (.int (16 : Int32)), .val (.ref 12)]) (S' := [.int (16 : Int32), .int (0 : Int32), .int (0 : Int32), .ref 12, .int (0 : Int32), .ref 4]) (H' := [(.inr .int, (own_iv tk)), (.inr .int, (own_iv tw)), (.inl 0, [.ref 11, .ref 4, .ref 5, .ref 6, .ref 7, .ref 9, .int (0 : Int32)]), (.inr .int, []), (.inr .int, []), (.inr .int, (own_iv cs)), (.inr .int, (own_iv ss)), (.inr .int, (own_iv ts)), (.inr .int, (own_iv nx)), (.inr .int, (own_iv ld)), (.inr .int, [.int i0, .int hb]), (.inr .int, [.int (0 : Int32), .int (0 : Int32), .int (0 : Int32), .int (0 : Int32), .int (0 : Int32), .int (0 : Int32), .int (0 : Int32), .int (0 : Int32), .int (0 : Int32), .int (0 : Int32), .int (0 : Int32), .int (0 : Int32), .int (0 : Int32), .int (0 : Int32), .int (0 : Int32), .int (0 : Int32)]), (.inr .int, [.int (0 : Int32), .int (0 : Int32), .int (0 : Int32), .int (0 : Int32), .int (0 : Int32), .int (0 : Int32), .int (0 : Int32), .int (0 : Int32), .int (0 : Int32), .int (0 : Int32), .int (0 : Int32), .int (0 : Int32), .int (0 : Int32), .int (0 : Int32), .int (0 : Int32), .int (0 : Int32)])]) rfl ?_
  refine own_ks.into (mt := own_m3) (mj := own_m4) rfl (ins := .invokestatic 304) (t := 28) (j := 4) (as := [.int (0 : Int32), .int (16 : Int32)]) (r' := [.int (0 : Int32), .ref 12, .int (0 : Int32), .ref 4]) (L' := [.val (.int (0 : Int32)), .val (.int (16 : Int32))]) rfl rfl rfl rfl rfl rfl rfl rfl ?_
  refine own_ks.go (mt := own_m4) rfl 5 (pc' := 10) (L' := [.val (.int (0 : Int32)), .val (.int (16 : Int32))]) (S' := [.int (0 : Int32)]) (H' := [(.inr .int, (own_iv tk)), (.inr .int, (own_iv tw)), (.inl 0, [.ref 11, .ref 4, .ref 5, .ref 6, .ref 7, .ref 9, .int (0 : Int32)]), (.inr .int, []), (.inr .int, []), (.inr .int, (own_iv cs)), (.inr .int, (own_iv ss)), (.inr .int, (own_iv ts)), (.inr .int, (own_iv nx)), (.inr .int, (own_iv ld)), (.inr .int, [.int i0, .int hb]), (.inr .int, [.int (0 : Int32), .int (0 : Int32), .int (0 : Int32), .int (0 : Int32), .int (0 : Int32), .int (0 : Int32), .int (0 : Int32), .int (0 : Int32), .int (0 : Int32), .int (0 : Int32), .int (0 : Int32), .int (0 : Int32), .int (0 : Int32), .int (0 : Int32), .int (0 : Int32), .int (0 : Int32)]), (.inr .int, [.int (0 : Int32), .int (0 : Int32), .int (0 : Int32), .int (0 : Int32), .int (0 : Int32), .int (0 : Int32), .int (0 : Int32), .int (0 : Int32), .int (0 : Int32), .int (0 : Int32), .int (0 : Int32), .int (0 : Int32), .int (0 : Int32), .int (0 : Int32), .int (0 : Int32), .int (0 : Int32)])]) rfl ?_
  refine own_ks.back (mt := own_m4) rfl (ins := .ireturn) (t := 11) (v := some (.int (0 : Int32))) (S2 := [.int (0 : Int32), .int (0 : Int32), .ref 12, .int (0 : Int32), .ref 4]) rfl rfl rfl ?_
  refine own_ks.go (mt := own_m3) rfl 2 (pc' := 32) (L' := [.val (.ref 4), .val (.int (16 : Int32)), .val (.ref 12)]) (S' := [.ref 12]) (H' := [(.inr .int, (own_iv tk)), (.inr .int, (own_iv tw)), (.inl 0, [.ref 11, .ref 4, .ref 5, .ref 6, .ref 7, .ref 9, .int (0 : Int32)]), (.inr .int, []), (.inr .int, []), (.inr .int, (own_iv cs)), (.inr .int, (own_iv ss)), (.inr .int, (own_iv ts)), (.inr .int, (own_iv nx)), (.inr .int, (own_iv ld)), (.inr .int, [.int i0, .int hb]), (.inr .int, [.int (0 : Int32), .int (0 : Int32), .int (0 : Int32), .int (0 : Int32), .int (0 : Int32), .int (0 : Int32), .int (0 : Int32), .int (0 : Int32), .int (0 : Int32), .int (0 : Int32), .int (0 : Int32), .int (0 : Int32), .int (0 : Int32), .int (0 : Int32), .int (0 : Int32), .int (0 : Int32)]), (.inr .int, [.int (0 : Int32), .int (0 : Int32), .int (0 : Int32), .int (0 : Int32), .int (0 : Int32), .int (0 : Int32), .int (0 : Int32), .int (0 : Int32), .int (0 : Int32), .int (0 : Int32), .int (0 : Int32), .int (0 : Int32), .int (0 : Int32), .int (0 : Int32), .int (0 : Int32), .int (0 : Int32)])]) rfl ?_
  refine own_ks.back (mt := own_m3) rfl (ins := .areturn) (t := 33) (v := some (.ref 12)) (S2 := [.ref 12, .ref 2]) rfl rfl rfl ?_
  refine own_ks.go (mt := own_m12) rfl 14 (pc' := 73) (L' := [.val (.ref 2), .val (.int m), .val (.int p)]) (S' := [.int m, .ref 9, .int (0 : Int32), .ref 12]) (H' := (own_F1 tk tw cs ss ts nx ld [p, (0 : Int32), (0 : Int32), (0 : Int32), (0 : Int32), (0 : Int32), (0 : Int32), (0 : Int32), (0 : Int32), (0 : Int32), (0 : Int32), (0 : Int32), (0 : Int32), (0 : Int32), (0 : Int32), (0 : Int32)] [(0 : Int32), (0 : Int32), (0 : Int32), (0 : Int32), (0 : Int32), (0 : Int32), (0 : Int32), (0 : Int32), (0 : Int32), (0 : Int32), (0 : Int32), (0 : Int32), (0 : Int32), (0 : Int32), (0 : Int32), (0 : Int32)] (0 : Int32) i0 hb)) rfl ?_
  refine own_ks.iaload (mt := own_m12) rfl (t := 74) (a := 9) (v := .int l) rfl rfl hm (own_iv_get hl) ?_
  refine own_ks.go (mt := own_m12) rfl 11 (pc' := 91) (L' := [.val (.ref 2), .val (.int m), .val (.int p)]) (S' := [.int (0 : Int32), .int m, .ref 9]) (H' := (own_F1 tk tw cs ss ts nx ld [p, (0 : Int32), (0 : Int32), (0 : Int32), (0 : Int32), (0 : Int32), (0 : Int32), (0 : Int32), (0 : Int32), (0 : Int32), (0 : Int32), (0 : Int32), (0 : Int32), (0 : Int32), (0 : Int32), (0 : Int32)] [l, (0 : Int32), (0 : Int32), (0 : Int32), (0 : Int32), (0 : Int32), (0 : Int32), (0 : Int32), (0 : Int32), (0 : Int32), (0 : Int32), (0 : Int32), (0 : Int32), (0 : Int32), (0 : Int32), (0 : Int32)] (1 : Int32) i0 hb)) rfl ?_
  refine own_ks.iastore (mt := own_m12) rfl (t := 92) (a := 9) (H' := (own_F1 tk tw cs ss ts nx (ld.set qm (0 : Int32)) [p, (0 : Int32), (0 : Int32), (0 : Int32), (0 : Int32), (0 : Int32), (0 : Int32), (0 : Int32), (0 : Int32), (0 : Int32), (0 : Int32), (0 : Int32), (0 : Int32), (0 : Int32), (0 : Int32), (0 : Int32)] [l, (0 : Int32), (0 : Int32), (0 : Int32), (0 : Int32), (0 : Int32), (0 : Int32), (0 : Int32), (0 : Int32), (0 : Int32), (0 : Int32), (0 : Int32), (0 : Int32), (0 : Int32), (0 : Int32), (0 : Int32)] (1 : Int32) i0 hb)) rfl rfl hm (own_lt hl) (by rw [own_iv_set]; rfl) ?_
  refine own_ks.go (mt := own_m12) rfl 4 (pc' := 98) (L' := [.val (.ref 2), .val (.int m), .val (.int p)]) (S' := [.int m, .ref 5, .int m, .ref 5]) (H' := (own_F1 tk tw cs ss ts nx (ld.set qm (0 : Int32)) [p, (0 : Int32), (0 : Int32), (0 : Int32), (0 : Int32), (0 : Int32), (0 : Int32), (0 : Int32), (0 : Int32), (0 : Int32), (0 : Int32), (0 : Int32), (0 : Int32), (0 : Int32), (0 : Int32), (0 : Int32)] [l, (0 : Int32), (0 : Int32), (0 : Int32), (0 : Int32), (0 : Int32), (0 : Int32), (0 : Int32), (0 : Int32), (0 : Int32), (0 : Int32), (0 : Int32), (0 : Int32), (0 : Int32), (0 : Int32), (0 : Int32)] (1 : Int32) i0 hb)) rfl ?_
  refine own_ks.iaload (mt := own_m12) rfl (t := 99) (a := 5) (v := .int c) rfl rfl hm (own_iv_get hc) ?_
  refine own_ks.go (mt := own_m12) rfl 2 (pc' := 101) (L' := [.val (.ref 2), .val (.int m), .val (.int p)]) (S' := [.int (c + (1 : Int32)), .int m, .ref 5]) (H' := (own_F1 tk tw cs ss ts nx (ld.set qm (0 : Int32)) [p, (0 : Int32), (0 : Int32), (0 : Int32), (0 : Int32), (0 : Int32), (0 : Int32), (0 : Int32), (0 : Int32), (0 : Int32), (0 : Int32), (0 : Int32), (0 : Int32), (0 : Int32), (0 : Int32), (0 : Int32)] [l, (0 : Int32), (0 : Int32), (0 : Int32), (0 : Int32), (0 : Int32), (0 : Int32), (0 : Int32), (0 : Int32), (0 : Int32), (0 : Int32), (0 : Int32), (0 : Int32), (0 : Int32), (0 : Int32), (0 : Int32)] (1 : Int32) i0 hb)) rfl ?_
  refine own_ks.iastore (mt := own_m12) rfl (t := 102) (a := 5) (H' := (own_F1 tk tw (cs.set qm (c + (1 : Int32))) ss ts nx (ld.set qm (0 : Int32)) [p, (0 : Int32), (0 : Int32), (0 : Int32), (0 : Int32), (0 : Int32), (0 : Int32), (0 : Int32), (0 : Int32), (0 : Int32), (0 : Int32), (0 : Int32), (0 : Int32), (0 : Int32), (0 : Int32), (0 : Int32)] [l, (0 : Int32), (0 : Int32), (0 : Int32), (0 : Int32), (0 : Int32), (0 : Int32), (0 : Int32), (0 : Int32), (0 : Int32), (0 : Int32), (0 : Int32), (0 : Int32), (0 : Int32), (0 : Int32), (0 : Int32)] (1 : Int32) i0 hb)) rfl rfl hm (own_lt hc) (by rw [own_iv_set]; rfl) ?_
  exact own_ks.ret (mt := own_m12) rfl (ins := .return_) (t := 103) (v := none) rfl rfl ⟨rfl, rfl⟩
set_option maxRecDepth 100000 in
set_option maxHeartbeats 4000000 in
theorem own_dl1 (tk tw cs ss ts nx ld D B : List Int32) (n i0 hb : Int32) (m p l c : Int32) (qm : Nat) (hm : own_ix m = some qm) (hl : ld[qm]? = some l) (hc : cs[qm]? = some c) (k : Nat) (hk : own_ix n = some k) (hk6 : k < 16) (hn : ¬ (n = (16 : Int32))) (hD : D.length = 16) (hB : B.length = 16) :
    own_run own_P 12 5 142 0 (own_entry [.ref 2, .int m, .int p] own_m12.ml) [] (own_F1 tk tw cs ss ts nx ld D B n i0 hb) (none, (own_F1 tk tw (cs.set qm (c + (1 : Int32))) ss ts nx (ld.set qm n) (D.set k p) (B.set k l) (n + (1 : Int32)) i0 hb)) := by
  refine own_ks_run ?_
  refine own_ks.go (mt := own_m12) rfl 4 (pc' := 8) (L' := [.val (.ref 2), .val (.int m), .val (.int p)]) (S' := [.ref 11, .int n]) (H' := (own_F1 tk tw cs ss ts nx ld D B n i0 hb)) rfl ?_
  refine own_ks.alen (mt := own_m12) rfl (t := 9) (a := 11) (z := (16 : Int32)) rfl rfl (by rw [own_iv_len, hD]; rfl) ?_
  refine own_ks.br2 (mt := own_m12) rfl (cd := .ne) (t := 50) (b := true) (pc' := 50) rfl (feq hn).2 rfl ?_
  refine own_ks.go (mt := own_m12) rfl 5 (pc' := 59) (L' := [.val (.ref 2), .val (.int m), .val (.int p)]) (S' := [.int p, .int n, .ref 11]) (H' := (own_F1 tk tw cs ss ts nx ld D B n i0 hb)) rfl ?_
  refine own_ks.iastore (mt := own_m12) rfl (t := 60) (a := 11) (H' := (own_F1 tk tw cs ss ts nx ld (D.set k p) B n i0 hb)) rfl rfl hk (own_lt' (by rw [hD]; exact hk6)) (by rw [own_iv_set]; rfl) ?_
  refine own_ks.go (mt := own_m12) rfl 7 (pc' := 73) (L' := [.val (.ref 2), .val (.int m), .val (.int p)]) (S' := [.int m, .ref 9, .int n, .ref 12]) (H' := (own_F1 tk tw cs ss ts nx ld (D.set k p) B n i0 hb)) rfl ?_
  refine own_ks.iaload (mt := own_m12) rfl (t := 74) (a := 9) (v := .int l) rfl rfl hm (own_iv_get hl) ?_
  refine own_ks.iastore (mt := own_m12) rfl (t := 75) (a := 12) (H' := (own_F1 tk tw cs ss ts nx ld (D.set k p) (B.set k l) n i0 hb)) rfl rfl hk (own_lt' (by rw [hB]; exact hk6)) (by rw [own_iv_set]; rfl) ?_
  refine own_ks.go (mt := own_m12) rfl 10 (pc' := 91) (L' := [.val (.ref 2), .val (.int m), .val (.int p)]) (S' := [.int n, .int m, .ref 9]) (H' := (own_F1 tk tw cs ss ts nx ld (D.set k p) (B.set k l) (n + (1 : Int32)) i0 hb)) rfl ?_
  refine own_ks.iastore (mt := own_m12) rfl (t := 92) (a := 9) (H' := (own_F1 tk tw cs ss ts nx (ld.set qm n) (D.set k p) (B.set k l) (n + (1 : Int32)) i0 hb)) rfl rfl hm (own_lt hl) (by rw [own_iv_set]; rfl) ?_
  refine own_ks.go (mt := own_m12) rfl 4 (pc' := 98) (L' := [.val (.ref 2), .val (.int m), .val (.int p)]) (S' := [.int m, .ref 5, .int m, .ref 5]) (H' := (own_F1 tk tw cs ss ts nx (ld.set qm n) (D.set k p) (B.set k l) (n + (1 : Int32)) i0 hb)) rfl ?_
  refine own_ks.iaload (mt := own_m12) rfl (t := 99) (a := 5) (v := .int c) rfl rfl hm (own_iv_get hc) ?_
  refine own_ks.go (mt := own_m12) rfl 2 (pc' := 101) (L' := [.val (.ref 2), .val (.int m), .val (.int p)]) (S' := [.int (c + (1 : Int32)), .int m, .ref 5]) (H' := (own_F1 tk tw cs ss ts nx (ld.set qm n) (D.set k p) (B.set k l) (n + (1 : Int32)) i0 hb)) rfl ?_
  refine own_ks.iastore (mt := own_m12) rfl (t := 102) (a := 5) (H' := (own_F1 tk tw (cs.set qm (c + (1 : Int32))) ss ts nx (ld.set qm n) (D.set k p) (B.set k l) (n + (1 : Int32)) i0 hb)) rfl rfl hm (own_lt hc) (by rw [own_iv_set]; rfl) ?_
  exact own_ks.ret (mt := own_m12) rfl (ins := .return_) (t := 103) (v := none) rfl rfl ⟨rfl, rfl⟩
set_option maxRecDepth 100000 in
set_option maxHeartbeats 4000000 in
theorem own_st0_K (tk tw cs ss ts nx ld : List Int32) (i0 hb : Int32) (b m o p t : Int32) (pn : Nat) (hp : own_ix p = some pn) (ht : tk[pn]? = some t) (htm : t = m) (hx1 : (((b.toUInt32 >>> (((2 : Int32) * p) &&& 31).toUInt32).toInt32 &&& (3 : Int32)) &&& (1 : Int32)) = (0 : Int32)) :
    own_run own_P 7 6 156 0 (own_entry [.ref 2, .ref 0, .int b, .int m, .int o, .int p, .ref 10] own_m7.ml) [] (own_F0 tk tw cs ss ts nx ld i0 hb) (none, (own_F0 tk tw cs ss ts nx ld (i0 + (1 : Int32)) (hb ||| ((1 : Int32) <<< (p &&& 31))))) := by
  refine own_ks_run ?_
  refine own_ks.go (mt := own_m7) rfl 2 (pc' := 3) (L' := [.val (.ref 2), .val (.ref 0), .val (.int b), .val (.int m), .val (.int o), .val (.int p), .val (.ref 10), .unset, .unset]) (S' := [.int p, .ref 0]) (H' := (own_F0 tk tw cs ss ts nx ld i0 hb)) rfl ?_
  refine own_ks.iaload (mt := own_m7) rfl (t := 4) (a := 0) (v := .int t) rfl rfl hp (own_iv_get ht) ?_
  refine own_ks.go (mt := own_m7) rfl 11 (pc' := 19) (L' := [.val (.ref 2), .val (.ref 0), .val (.int b), .val (.int m), .val (.int o), .val (.int p), .val (.ref 10), .val (.int t), .val (.int ((b.toUInt32 >>> (((2 : Int32) * p) &&& 31).toUInt32).toInt32 &&& (3 : Int32)))]) (S' := [.int m, .int t]) (H' := (own_F0 tk tw cs ss ts nx ld i0 hb)) rfl ?_
  refine own_ks.br2 (mt := own_m7) rfl (cd := .ne) (t := 81) (b := false) (pc' := 22) rfl (teq htm).2 rfl ?_
  refine own_ks.go (mt := own_m7) rfl 3 (pc' := 26) (L' := [.val (.ref 2), .val (.ref 0), .val (.int b), .val (.int m), .val (.int o), .val (.int p), .val (.ref 10), .val (.int t), .val (.int ((b.toUInt32 >>> (((2 : Int32) * p) &&& 31).toUInt32).toInt32 &&& (3 : Int32)))]) (S' := [.int (((b.toUInt32 >>> (((2 : Int32) * p) &&& 31).toUInt32).toInt32 &&& (3 : Int32)) &&& (1 : Int32))]) (H' := (own_F0 tk tw cs ss ts nx ld i0 hb)) rfl ?_
  refine own_ks.br1 (mt := own_m7) rfl (cd := .eq) (t := 55) (b := true) (pc' := 55) rfl ((if0 _ _).trans (teq hx1).1) rfl ?_
  refine own_ks.go (mt := own_m7) rfl 19 (pc' := 124) (L' := [.val (.ref 2), .val (.ref 0), .val (.int b), .val (.int m), .val (.int o), .val (.int p), .val (.ref 10), .val (.int t), .val (.int ((b.toUInt32 >>> (((2 : Int32) * p) &&& 31).toUInt32).toInt32 &&& (3 : Int32)))]) (S' := []) (H' := (own_F0 tk tw cs ss ts nx ld (i0 + (1 : Int32)) (hb ||| ((1 : Int32) <<< (p &&& 31))))) rfl ?_
  exact own_ks.ret (mt := own_m7) rfl (ins := .return_) (t := 125) (v := none) rfl rfl ⟨rfl, rfl⟩
set_option maxRecDepth 100000 in
set_option maxHeartbeats 4000000 in
theorem own_st0_G (tk tw cs ss ts nx ld : List Int32) (i0 hb : Int32) (b m o p t : Int32) (pn : Nat) (hp : own_ix p = some pn) (ht : tk[pn]? = some t) (htm : t = m) (hx1 : ¬ ((((b.toUInt32 >>> (((2 : Int32) * p) &&& 31).toUInt32).toInt32 &&& (3 : Int32)) &&& (1 : Int32)) = (0 : Int32))) (hx3 : ¬ (((b.toUInt32 >>> (((2 : Int32) * p) &&& 31).toUInt32).toInt32 &&& (3 : Int32)) = (3 : Int32))) (s c : Int32) (qm q : Nat) (hm : own_ix m = some qm) (hs : ss[qm]? = some s) (hq : own_ix (s + i0) = some q) (hl : q < ts.length) (hc : cs[qm]? = some c) :
    own_run own_P 7 6 156 0 (own_entry [.ref 2, .ref 0, .int b, .int m, .int o, .int p, .ref 10] own_m7.ml) [] (own_F0 tk tw cs ss ts nx ld i0 hb) (none, (own_F0 tk tw (cs.set qm (c - (1 : Int32))) ss (ts.set q (-1 : Int32)) nx ld (i0 + (1 : Int32)) hb)) := by
  refine own_ks_run ?_
  refine own_ks.go (mt := own_m7) rfl 2 (pc' := 3) (L' := [.val (.ref 2), .val (.ref 0), .val (.int b), .val (.int m), .val (.int o), .val (.int p), .val (.ref 10), .unset, .unset]) (S' := [.int p, .ref 0]) (H' := (own_F0 tk tw cs ss ts nx ld i0 hb)) rfl ?_
  refine own_ks.iaload (mt := own_m7) rfl (t := 4) (a := 0) (v := .int t) rfl rfl hp (own_iv_get ht) ?_
  refine own_ks.go (mt := own_m7) rfl 11 (pc' := 19) (L' := [.val (.ref 2), .val (.ref 0), .val (.int b), .val (.int m), .val (.int o), .val (.int p), .val (.ref 10), .val (.int t), .val (.int ((b.toUInt32 >>> (((2 : Int32) * p) &&& 31).toUInt32).toInt32 &&& (3 : Int32)))]) (S' := [.int m, .int t]) (H' := (own_F0 tk tw cs ss ts nx ld i0 hb)) rfl ?_
  refine own_ks.br2 (mt := own_m7) rfl (cd := .ne) (t := 81) (b := false) (pc' := 22) rfl (teq htm).2 rfl ?_
  refine own_ks.go (mt := own_m7) rfl 3 (pc' := 26) (L' := [.val (.ref 2), .val (.ref 0), .val (.int b), .val (.int m), .val (.int o), .val (.int p), .val (.ref 10), .val (.int t), .val (.int ((b.toUInt32 >>> (((2 : Int32) * p) &&& 31).toUInt32).toInt32 &&& (3 : Int32)))]) (S' := [.int (((b.toUInt32 >>> (((2 : Int32) * p) &&& 31).toUInt32).toInt32 &&& (3 : Int32)) &&& (1 : Int32))]) (H' := (own_F0 tk tw cs ss ts nx ld i0 hb)) rfl ?_
  refine own_ks.br1 (mt := own_m7) rfl (cd := .eq) (t := 55) (b := false) (pc' := 29) rfl ((if0 _ _).trans (feq hx1).1) rfl ?_
  refine own_ks.go (mt := own_m7) rfl 5 (pc' := 35) (L' := [.val (.ref 2), .val (.ref 0), .val (.int b), .val (.int m), .val (.int o), .val (.int p), .val (.ref 10), .val (.int t), .val (.int ((b.toUInt32 >>> (((2 : Int32) * p) &&& 31).toUInt32).toInt32 &&& (3 : Int32)))]) (S' := [.int i0, .int m, .ref 2]) (H' := (own_F0 tk tw cs ss ts nx ld i0 hb)) rfl ?_
  refine own_ks.call (mt := own_m7) (mj := own_m11) rfl (ins := .invokevirtual 7) (t := 38) (j := 11) (as := [.ref 2, .int m, .int i0]) (r' := []) (v := none) (H' := (own_F0 tk tw (cs.set qm (c - (1 : Int32))) ss (ts.set q (-1 : Int32)) nx ld i0 hb)) (S' := []) rfl rfl rfl rfl rfl (own_gu0 tk tw cs ss ts nx ld i0 hb m i0 s c qm q hm hs hq hl hc) rfl ?_
  refine own_ks.go (mt := own_m7) rfl 2 (pc' := 41) (L' := [.val (.ref 2), .val (.ref 0), .val (.int b), .val (.int m), .val (.int o), .val (.int p), .val (.ref 10), .val (.int t), .val (.int ((b.toUInt32 >>> (((2 : Int32) * p) &&& 31).toUInt32).toInt32 &&& (3 : Int32)))]) (S' := [.int (3 : Int32), .int ((b.toUInt32 >>> (((2 : Int32) * p) &&& 31).toUInt32).toInt32 &&& (3 : Int32))]) (H' := (own_F0 tk tw (cs.set qm (c - (1 : Int32))) ss (ts.set q (-1 : Int32)) nx ld i0 hb)) rfl ?_
  refine own_ks.br2 (mt := own_m7) rfl (cd := .ne) (t := 68) (b := true) (pc' := 68) rfl (feq hx3).2 rfl ?_
  refine own_ks.go (mt := own_m7) rfl 9 (pc' := 124) (L' := [.val (.ref 2), .val (.ref 0), .val (.int b), .val (.int m), .val (.int o), .val (.int p), .val (.ref 10), .val (.int t), .val (.int ((b.toUInt32 >>> (((2 : Int32) * p) &&& 31).toUInt32).toInt32 &&& (3 : Int32)))]) (S' := []) (H' := (own_F0 tk tw (cs.set qm (c - (1 : Int32))) ss (ts.set q (-1 : Int32)) nx ld (i0 + (1 : Int32)) hb)) rfl ?_
  exact own_ks.ret (mt := own_m7) rfl (ins := .return_) (t := 125) (v := none) rfl rfl ⟨rfl, rfl⟩
set_option maxRecDepth 100000 in
set_option maxHeartbeats 4000000 in
theorem own_st0_GO (tk tw cs ss ts nx ld : List Int32) (i0 hb : Int32) (b m o p t : Int32) (pn : Nat) (hp : own_ix p = some pn) (ht : tk[pn]? = some t) (htm : t = m) (hx1 : ¬ ((((b.toUInt32 >>> (((2 : Int32) * p) &&& 31).toUInt32).toInt32 &&& (3 : Int32)) &&& (1 : Int32)) = (0 : Int32))) (hx3 : ((b.toUInt32 >>> (((2 : Int32) * p) &&& 31).toUInt32).toInt32 &&& (3 : Int32)) = (3 : Int32)) (s c : Int32) (qm q : Nat) (hm : own_ix m = some qm) (hs : ss[qm]? = some s) (hq : own_ix (s + i0) = some q) (hl : q < ts.length) (hc : cs[qm]? = some c) (dl dc : Int32) (qd : Nat) (hd : own_ix o = some qd) (hdl : ld[qd]? = some dl) (hdc : (cs.set qm (c - (1 : Int32)))[qd]? = some dc) :
    own_run own_P 7 6 156 0 (own_entry [.ref 2, .ref 0, .int b, .int m, .int o, .int p, .ref 10] own_m7.ml) [] (own_F0 tk tw cs ss ts nx ld i0 hb) (none, (own_F1 tk tw ((cs.set qm (c - (1 : Int32))).set qd (dc + (1 : Int32))) ss (ts.set q (-1 : Int32)) nx (ld.set qd (0 : Int32)) [p, (0 : Int32), (0 : Int32), (0 : Int32), (0 : Int32), (0 : Int32), (0 : Int32), (0 : Int32), (0 : Int32), (0 : Int32), (0 : Int32), (0 : Int32), (0 : Int32), (0 : Int32), (0 : Int32), (0 : Int32)] [dl, (0 : Int32), (0 : Int32), (0 : Int32), (0 : Int32), (0 : Int32), (0 : Int32), (0 : Int32), (0 : Int32), (0 : Int32), (0 : Int32), (0 : Int32), (0 : Int32), (0 : Int32), (0 : Int32), (0 : Int32)] (1 : Int32) (i0 + (1 : Int32)) hb)) := by
  refine own_ks_run ?_
  refine own_ks.go (mt := own_m7) rfl 2 (pc' := 3) (L' := [.val (.ref 2), .val (.ref 0), .val (.int b), .val (.int m), .val (.int o), .val (.int p), .val (.ref 10), .unset, .unset]) (S' := [.int p, .ref 0]) (H' := (own_F0 tk tw cs ss ts nx ld i0 hb)) rfl ?_
  refine own_ks.iaload (mt := own_m7) rfl (t := 4) (a := 0) (v := .int t) rfl rfl hp (own_iv_get ht) ?_
  refine own_ks.go (mt := own_m7) rfl 11 (pc' := 19) (L' := [.val (.ref 2), .val (.ref 0), .val (.int b), .val (.int m), .val (.int o), .val (.int p), .val (.ref 10), .val (.int t), .val (.int ((b.toUInt32 >>> (((2 : Int32) * p) &&& 31).toUInt32).toInt32 &&& (3 : Int32)))]) (S' := [.int m, .int t]) (H' := (own_F0 tk tw cs ss ts nx ld i0 hb)) rfl ?_
  refine own_ks.br2 (mt := own_m7) rfl (cd := .ne) (t := 81) (b := false) (pc' := 22) rfl (teq htm).2 rfl ?_
  refine own_ks.go (mt := own_m7) rfl 3 (pc' := 26) (L' := [.val (.ref 2), .val (.ref 0), .val (.int b), .val (.int m), .val (.int o), .val (.int p), .val (.ref 10), .val (.int t), .val (.int ((b.toUInt32 >>> (((2 : Int32) * p) &&& 31).toUInt32).toInt32 &&& (3 : Int32)))]) (S' := [.int (((b.toUInt32 >>> (((2 : Int32) * p) &&& 31).toUInt32).toInt32 &&& (3 : Int32)) &&& (1 : Int32))]) (H' := (own_F0 tk tw cs ss ts nx ld i0 hb)) rfl ?_
  refine own_ks.br1 (mt := own_m7) rfl (cd := .eq) (t := 55) (b := false) (pc' := 29) rfl ((if0 _ _).trans (feq hx1).1) rfl ?_
  refine own_ks.go (mt := own_m7) rfl 5 (pc' := 35) (L' := [.val (.ref 2), .val (.ref 0), .val (.int b), .val (.int m), .val (.int o), .val (.int p), .val (.ref 10), .val (.int t), .val (.int ((b.toUInt32 >>> (((2 : Int32) * p) &&& 31).toUInt32).toInt32 &&& (3 : Int32)))]) (S' := [.int i0, .int m, .ref 2]) (H' := (own_F0 tk tw cs ss ts nx ld i0 hb)) rfl ?_
  refine own_ks.call (mt := own_m7) (mj := own_m11) rfl (ins := .invokevirtual 7) (t := 38) (j := 11) (as := [.ref 2, .int m, .int i0]) (r' := []) (v := none) (H' := (own_F0 tk tw (cs.set qm (c - (1 : Int32))) ss (ts.set q (-1 : Int32)) nx ld i0 hb)) (S' := []) rfl rfl rfl rfl rfl (own_gu0 tk tw cs ss ts nx ld i0 hb m i0 s c qm q hm hs hq hl hc) rfl ?_
  refine own_ks.go (mt := own_m7) rfl 2 (pc' := 41) (L' := [.val (.ref 2), .val (.ref 0), .val (.int b), .val (.int m), .val (.int o), .val (.int p), .val (.ref 10), .val (.int t), .val (.int ((b.toUInt32 >>> (((2 : Int32) * p) &&& 31).toUInt32).toInt32 &&& (3 : Int32)))]) (S' := [.int (3 : Int32), .int ((b.toUInt32 >>> (((2 : Int32) * p) &&& 31).toUInt32).toInt32 &&& (3 : Int32))]) (H' := (own_F0 tk tw (cs.set qm (c - (1 : Int32))) ss (ts.set q (-1 : Int32)) nx ld i0 hb)) rfl ?_
  refine own_ks.br2 (mt := own_m7) rfl (cd := .ne) (t := 68) (b := false) (pc' := 44) rfl (teq hx3).2 rfl ?_
  refine own_ks.go (mt := own_m7) rfl 3 (pc' := 49) (L' := [.val (.ref 2), .val (.ref 0), .val (.int b), .val (.int m), .val (.int o), .val (.int p), .val (.ref 10), .val (.int t), .val (.int ((b.toUInt32 >>> (((2 : Int32) * p) &&& 31).toUInt32).toInt32 &&& (3 : Int32)))]) (S' := [.int p, .int o, .ref 2]) (H' := (own_F0 tk tw (cs.set qm (c - (1 : Int32))) ss (ts.set q (-1 : Int32)) nx ld i0 hb)) rfl ?_
  refine own_ks.call (mt := own_m7) (mj := own_m12) rfl (ins := .invokevirtual 13) (t := 52) (j := 12) (as := [.ref 2, .int o, .int p]) (r' := []) (v := none) (H' := (own_F1 tk tw ((cs.set qm (c - (1 : Int32))).set qd (dc + (1 : Int32))) ss (ts.set q (-1 : Int32)) nx (ld.set qd (0 : Int32)) [p, (0 : Int32), (0 : Int32), (0 : Int32), (0 : Int32), (0 : Int32), (0 : Int32), (0 : Int32), (0 : Int32), (0 : Int32), (0 : Int32), (0 : Int32), (0 : Int32), (0 : Int32), (0 : Int32), (0 : Int32)] [dl, (0 : Int32), (0 : Int32), (0 : Int32), (0 : Int32), (0 : Int32), (0 : Int32), (0 : Int32), (0 : Int32), (0 : Int32), (0 : Int32), (0 : Int32), (0 : Int32), (0 : Int32), (0 : Int32), (0 : Int32)] (1 : Int32) i0 hb)) (S' := []) rfl rfl rfl rfl rfl (own_dl0 tk tw (cs.set qm (c - (1 : Int32))) ss (ts.set q (-1 : Int32)) nx ld i0 hb o p dl dc qd hd hdl hdc) rfl ?_
  refine own_ks.go (mt := own_m7) rfl 10 (pc' := 124) (L' := [.val (.ref 2), .val (.ref 0), .val (.int b), .val (.int m), .val (.int o), .val (.int p), .val (.ref 10), .val (.int t), .val (.int ((b.toUInt32 >>> (((2 : Int32) * p) &&& 31).toUInt32).toInt32 &&& (3 : Int32)))]) (S' := []) (H' := (own_F1 tk tw ((cs.set qm (c - (1 : Int32))).set qd (dc + (1 : Int32))) ss (ts.set q (-1 : Int32)) nx (ld.set qd (0 : Int32)) [p, (0 : Int32), (0 : Int32), (0 : Int32), (0 : Int32), (0 : Int32), (0 : Int32), (0 : Int32), (0 : Int32), (0 : Int32), (0 : Int32), (0 : Int32), (0 : Int32), (0 : Int32), (0 : Int32), (0 : Int32)] [dl, (0 : Int32), (0 : Int32), (0 : Int32), (0 : Int32), (0 : Int32), (0 : Int32), (0 : Int32), (0 : Int32), (0 : Int32), (0 : Int32), (0 : Int32), (0 : Int32), (0 : Int32), (0 : Int32), (0 : Int32)] (1 : Int32) (i0 + (1 : Int32)) hb)) rfl ?_
  exact own_ks.ret (mt := own_m7) rfl (ins := .return_) (t := 125) (v := none) rfl rfl ⟨rfl, rfl⟩
set_option maxRecDepth 100000 in
set_option maxHeartbeats 4000000 in
theorem own_st0_D (tk tw cs ss ts nx ld : List Int32) (i0 hb : Int32) (b m o p t : Int32) (pn : Nat) (hp : own_ix p = some pn) (ht : tk[pn]? = some t) (htm : ¬ (t = m)) (hx1 : ((b.toUInt32 >>> (((2 : Int32) * p) &&& 31).toUInt32).toInt32 &&& (3 : Int32)) = (1 : Int32)) (dl dc : Int32) (qd : Nat) (hd : own_ix m = some qd) (hdl : ld[qd]? = some dl) (hdc : cs[qd]? = some dc) :
    own_run own_P 7 6 156 0 (own_entry [.ref 2, .ref 0, .int b, .int m, .int o, .int p, .ref 10] own_m7.ml) [] (own_F0 tk tw cs ss ts nx ld i0 hb) (none, (own_F1 tk tw (cs.set qd (dc + (1 : Int32))) ss ts nx (ld.set qd (0 : Int32)) [p, (0 : Int32), (0 : Int32), (0 : Int32), (0 : Int32), (0 : Int32), (0 : Int32), (0 : Int32), (0 : Int32), (0 : Int32), (0 : Int32), (0 : Int32), (0 : Int32), (0 : Int32), (0 : Int32), (0 : Int32)] [dl, (0 : Int32), (0 : Int32), (0 : Int32), (0 : Int32), (0 : Int32), (0 : Int32), (0 : Int32), (0 : Int32), (0 : Int32), (0 : Int32), (0 : Int32), (0 : Int32), (0 : Int32), (0 : Int32), (0 : Int32)] (1 : Int32) i0 (hb ||| ((1 : Int32) <<< (p &&& 31))))) := by
  refine own_ks_run ?_
  refine own_ks.go (mt := own_m7) rfl 2 (pc' := 3) (L' := [.val (.ref 2), .val (.ref 0), .val (.int b), .val (.int m), .val (.int o), .val (.int p), .val (.ref 10), .unset, .unset]) (S' := [.int p, .ref 0]) (H' := (own_F0 tk tw cs ss ts nx ld i0 hb)) rfl ?_
  refine own_ks.iaload (mt := own_m7) rfl (t := 4) (a := 0) (v := .int t) rfl rfl hp (own_iv_get ht) ?_
  refine own_ks.go (mt := own_m7) rfl 11 (pc' := 19) (L' := [.val (.ref 2), .val (.ref 0), .val (.int b), .val (.int m), .val (.int o), .val (.int p), .val (.ref 10), .val (.int t), .val (.int ((b.toUInt32 >>> (((2 : Int32) * p) &&& 31).toUInt32).toInt32 &&& (3 : Int32)))]) (S' := [.int m, .int t]) (H' := (own_F0 tk tw cs ss ts nx ld i0 hb)) rfl ?_
  refine own_ks.br2 (mt := own_m7) rfl (cd := .ne) (t := 81) (b := true) (pc' := 81) rfl (feq htm).2 rfl ?_
  refine own_ks.go (mt := own_m7) rfl 2 (pc' := 84) (L' := [.val (.ref 2), .val (.ref 0), .val (.int b), .val (.int m), .val (.int o), .val (.int p), .val (.ref 10), .val (.int t), .val (.int ((b.toUInt32 >>> (((2 : Int32) * p) &&& 31).toUInt32).toInt32 &&& (3 : Int32)))]) (S' := [.int (1 : Int32), .int ((b.toUInt32 >>> (((2 : Int32) * p) &&& 31).toUInt32).toInt32 &&& (3 : Int32))]) (H' := (own_F0 tk tw cs ss ts nx ld i0 hb)) rfl ?_
  refine own_ks.br2 (mt := own_m7) rfl (cd := .ne) (t := 110) (b := false) (pc' := 87) rfl (teq hx1).2 rfl ?_
  refine own_ks.go (mt := own_m7) rfl 3 (pc' := 91) (L' := [.val (.ref 2), .val (.ref 0), .val (.int b), .val (.int m), .val (.int o), .val (.int p), .val (.ref 10), .val (.int t), .val (.int ((b.toUInt32 >>> (((2 : Int32) * p) &&& 31).toUInt32).toInt32 &&& (3 : Int32)))]) (S' := [.int p, .int m, .ref 2]) (H' := (own_F0 tk tw cs ss ts nx ld i0 hb)) rfl ?_
  refine own_ks.call (mt := own_m7) (mj := own_m12) rfl (ins := .invokevirtual 13) (t := 94) (j := 12) (as := [.ref 2, .int m, .int p]) (r' := []) (v := none) (H' := (own_F1 tk tw (cs.set qd (dc + (1 : Int32))) ss ts nx (ld.set qd (0 : Int32)) [p, (0 : Int32), (0 : Int32), (0 : Int32), (0 : Int32), (0 : Int32), (0 : Int32), (0 : Int32), (0 : Int32), (0 : Int32), (0 : Int32), (0 : Int32), (0 : Int32), (0 : Int32), (0 : Int32), (0 : Int32)] [dl, (0 : Int32), (0 : Int32), (0 : Int32), (0 : Int32), (0 : Int32), (0 : Int32), (0 : Int32), (0 : Int32), (0 : Int32), (0 : Int32), (0 : Int32), (0 : Int32), (0 : Int32), (0 : Int32), (0 : Int32)] (1 : Int32) i0 hb)) (S' := []) rfl rfl rfl rfl rfl (own_dl0 tk tw cs ss ts nx ld i0 hb m p dl dc qd hd hdl hdc) rfl ?_
  refine own_ks.go (mt := own_m7) rfl 11 (pc' := 124) (L' := [.val (.ref 2), .val (.ref 0), .val (.int b), .val (.int m), .val (.int o), .val (.int p), .val (.ref 10), .val (.int t), .val (.int ((b.toUInt32 >>> (((2 : Int32) * p) &&& 31).toUInt32).toInt32 &&& (3 : Int32)))]) (S' := []) (H' := (own_F1 tk tw (cs.set qd (dc + (1 : Int32))) ss ts nx (ld.set qd (0 : Int32)) [p, (0 : Int32), (0 : Int32), (0 : Int32), (0 : Int32), (0 : Int32), (0 : Int32), (0 : Int32), (0 : Int32), (0 : Int32), (0 : Int32), (0 : Int32), (0 : Int32), (0 : Int32), (0 : Int32), (0 : Int32)] [dl, (0 : Int32), (0 : Int32), (0 : Int32), (0 : Int32), (0 : Int32), (0 : Int32), (0 : Int32), (0 : Int32), (0 : Int32), (0 : Int32), (0 : Int32), (0 : Int32), (0 : Int32), (0 : Int32), (0 : Int32)] (1 : Int32) i0 (hb ||| ((1 : Int32) <<< (p &&& 31))))) rfl ?_
  exact own_ks.ret (mt := own_m7) rfl (ins := .return_) (t := 125) (v := none) rfl rfl ⟨rfl, rfl⟩
set_option maxRecDepth 100000 in
set_option maxHeartbeats 4000000 in
theorem own_st0_O (tk tw cs ss ts nx ld : List Int32) (i0 hb : Int32) (b m o p t : Int32) (pn : Nat) (hp : own_ix p = some pn) (ht : tk[pn]? = some t) (htm : ¬ (t = m)) (hx1 : ¬ (((b.toUInt32 >>> (((2 : Int32) * p) &&& 31).toUInt32).toInt32 &&& (3 : Int32)) = (1 : Int32))) (hx2 : ((b.toUInt32 >>> (((2 : Int32) * p) &&& 31).toUInt32).toInt32 &&& (3 : Int32)) = (2 : Int32)) (dl dc : Int32) (qd : Nat) (hd : own_ix o = some qd) (hdl : ld[qd]? = some dl) (hdc : cs[qd]? = some dc) :
    own_run own_P 7 6 156 0 (own_entry [.ref 2, .ref 0, .int b, .int m, .int o, .int p, .ref 10] own_m7.ml) [] (own_F0 tk tw cs ss ts nx ld i0 hb) (none, (own_F1 tk tw (cs.set qd (dc + (1 : Int32))) ss ts nx (ld.set qd (0 : Int32)) [p, (0 : Int32), (0 : Int32), (0 : Int32), (0 : Int32), (0 : Int32), (0 : Int32), (0 : Int32), (0 : Int32), (0 : Int32), (0 : Int32), (0 : Int32), (0 : Int32), (0 : Int32), (0 : Int32), (0 : Int32)] [dl, (0 : Int32), (0 : Int32), (0 : Int32), (0 : Int32), (0 : Int32), (0 : Int32), (0 : Int32), (0 : Int32), (0 : Int32), (0 : Int32), (0 : Int32), (0 : Int32), (0 : Int32), (0 : Int32), (0 : Int32)] (1 : Int32) i0 hb)) := by
  refine own_ks_run ?_
  refine own_ks.go (mt := own_m7) rfl 2 (pc' := 3) (L' := [.val (.ref 2), .val (.ref 0), .val (.int b), .val (.int m), .val (.int o), .val (.int p), .val (.ref 10), .unset, .unset]) (S' := [.int p, .ref 0]) (H' := (own_F0 tk tw cs ss ts nx ld i0 hb)) rfl ?_
  refine own_ks.iaload (mt := own_m7) rfl (t := 4) (a := 0) (v := .int t) rfl rfl hp (own_iv_get ht) ?_
  refine own_ks.go (mt := own_m7) rfl 11 (pc' := 19) (L' := [.val (.ref 2), .val (.ref 0), .val (.int b), .val (.int m), .val (.int o), .val (.int p), .val (.ref 10), .val (.int t), .val (.int ((b.toUInt32 >>> (((2 : Int32) * p) &&& 31).toUInt32).toInt32 &&& (3 : Int32)))]) (S' := [.int m, .int t]) (H' := (own_F0 tk tw cs ss ts nx ld i0 hb)) rfl ?_
  refine own_ks.br2 (mt := own_m7) rfl (cd := .ne) (t := 81) (b := true) (pc' := 81) rfl (feq htm).2 rfl ?_
  refine own_ks.go (mt := own_m7) rfl 2 (pc' := 84) (L' := [.val (.ref 2), .val (.ref 0), .val (.int b), .val (.int m), .val (.int o), .val (.int p), .val (.ref 10), .val (.int t), .val (.int ((b.toUInt32 >>> (((2 : Int32) * p) &&& 31).toUInt32).toInt32 &&& (3 : Int32)))]) (S' := [.int (1 : Int32), .int ((b.toUInt32 >>> (((2 : Int32) * p) &&& 31).toUInt32).toInt32 &&& (3 : Int32))]) (H' := (own_F0 tk tw cs ss ts nx ld i0 hb)) rfl ?_
  refine own_ks.br2 (mt := own_m7) rfl (cd := .ne) (t := 110) (b := true) (pc' := 110) rfl (feq hx1).2 rfl ?_
  refine own_ks.go (mt := own_m7) rfl 2 (pc' := 113) (L' := [.val (.ref 2), .val (.ref 0), .val (.int b), .val (.int m), .val (.int o), .val (.int p), .val (.ref 10), .val (.int t), .val (.int ((b.toUInt32 >>> (((2 : Int32) * p) &&& 31).toUInt32).toInt32 &&& (3 : Int32)))]) (S' := [.int (2 : Int32), .int ((b.toUInt32 >>> (((2 : Int32) * p) &&& 31).toUInt32).toInt32 &&& (3 : Int32))]) (H' := (own_F0 tk tw cs ss ts nx ld i0 hb)) rfl ?_
  refine own_ks.br2 (mt := own_m7) rfl (cd := .ne) (t := 124) (b := false) (pc' := 116) rfl (teq hx2).2 rfl ?_
  refine own_ks.go (mt := own_m7) rfl 3 (pc' := 121) (L' := [.val (.ref 2), .val (.ref 0), .val (.int b), .val (.int m), .val (.int o), .val (.int p), .val (.ref 10), .val (.int t), .val (.int ((b.toUInt32 >>> (((2 : Int32) * p) &&& 31).toUInt32).toInt32 &&& (3 : Int32)))]) (S' := [.int p, .int o, .ref 2]) (H' := (own_F0 tk tw cs ss ts nx ld i0 hb)) rfl ?_
  refine own_ks.call (mt := own_m7) (mj := own_m12) rfl (ins := .invokevirtual 13) (t := 124) (j := 12) (as := [.ref 2, .int o, .int p]) (r' := []) (v := none) (H' := (own_F1 tk tw (cs.set qd (dc + (1 : Int32))) ss ts nx (ld.set qd (0 : Int32)) [p, (0 : Int32), (0 : Int32), (0 : Int32), (0 : Int32), (0 : Int32), (0 : Int32), (0 : Int32), (0 : Int32), (0 : Int32), (0 : Int32), (0 : Int32), (0 : Int32), (0 : Int32), (0 : Int32), (0 : Int32)] [dl, (0 : Int32), (0 : Int32), (0 : Int32), (0 : Int32), (0 : Int32), (0 : Int32), (0 : Int32), (0 : Int32), (0 : Int32), (0 : Int32), (0 : Int32), (0 : Int32), (0 : Int32), (0 : Int32), (0 : Int32)] (1 : Int32) i0 hb)) (S' := []) rfl rfl rfl rfl rfl (own_dl0 tk tw cs ss ts nx ld i0 hb o p dl dc qd hd hdl hdc) rfl ?_
  exact own_ks.ret (mt := own_m7) rfl (ins := .return_) (t := 125) (v := none) rfl rfl ⟨rfl, rfl⟩
set_option maxRecDepth 100000 in
set_option maxHeartbeats 4000000 in
theorem own_st0_N (tk tw cs ss ts nx ld : List Int32) (i0 hb : Int32) (b m o p t : Int32) (pn : Nat) (hp : own_ix p = some pn) (ht : tk[pn]? = some t) (htm : ¬ (t = m)) (hx1 : ¬ (((b.toUInt32 >>> (((2 : Int32) * p) &&& 31).toUInt32).toInt32 &&& (3 : Int32)) = (1 : Int32))) (hx2 : ¬ (((b.toUInt32 >>> (((2 : Int32) * p) &&& 31).toUInt32).toInt32 &&& (3 : Int32)) = (2 : Int32))) :
    own_run own_P 7 6 156 0 (own_entry [.ref 2, .ref 0, .int b, .int m, .int o, .int p, .ref 10] own_m7.ml) [] (own_F0 tk tw cs ss ts nx ld i0 hb) (none, (own_F0 tk tw cs ss ts nx ld i0 hb)) := by
  refine own_ks_run ?_
  refine own_ks.go (mt := own_m7) rfl 2 (pc' := 3) (L' := [.val (.ref 2), .val (.ref 0), .val (.int b), .val (.int m), .val (.int o), .val (.int p), .val (.ref 10), .unset, .unset]) (S' := [.int p, .ref 0]) (H' := (own_F0 tk tw cs ss ts nx ld i0 hb)) rfl ?_
  refine own_ks.iaload (mt := own_m7) rfl (t := 4) (a := 0) (v := .int t) rfl rfl hp (own_iv_get ht) ?_
  refine own_ks.go (mt := own_m7) rfl 11 (pc' := 19) (L' := [.val (.ref 2), .val (.ref 0), .val (.int b), .val (.int m), .val (.int o), .val (.int p), .val (.ref 10), .val (.int t), .val (.int ((b.toUInt32 >>> (((2 : Int32) * p) &&& 31).toUInt32).toInt32 &&& (3 : Int32)))]) (S' := [.int m, .int t]) (H' := (own_F0 tk tw cs ss ts nx ld i0 hb)) rfl ?_
  refine own_ks.br2 (mt := own_m7) rfl (cd := .ne) (t := 81) (b := true) (pc' := 81) rfl (feq htm).2 rfl ?_
  refine own_ks.go (mt := own_m7) rfl 2 (pc' := 84) (L' := [.val (.ref 2), .val (.ref 0), .val (.int b), .val (.int m), .val (.int o), .val (.int p), .val (.ref 10), .val (.int t), .val (.int ((b.toUInt32 >>> (((2 : Int32) * p) &&& 31).toUInt32).toInt32 &&& (3 : Int32)))]) (S' := [.int (1 : Int32), .int ((b.toUInt32 >>> (((2 : Int32) * p) &&& 31).toUInt32).toInt32 &&& (3 : Int32))]) (H' := (own_F0 tk tw cs ss ts nx ld i0 hb)) rfl ?_
  refine own_ks.br2 (mt := own_m7) rfl (cd := .ne) (t := 110) (b := true) (pc' := 110) rfl (feq hx1).2 rfl ?_
  refine own_ks.go (mt := own_m7) rfl 2 (pc' := 113) (L' := [.val (.ref 2), .val (.ref 0), .val (.int b), .val (.int m), .val (.int o), .val (.int p), .val (.ref 10), .val (.int t), .val (.int ((b.toUInt32 >>> (((2 : Int32) * p) &&& 31).toUInt32).toInt32 &&& (3 : Int32)))]) (S' := [.int (2 : Int32), .int ((b.toUInt32 >>> (((2 : Int32) * p) &&& 31).toUInt32).toInt32 &&& (3 : Int32))]) (H' := (own_F0 tk tw cs ss ts nx ld i0 hb)) rfl ?_
  refine own_ks.br2 (mt := own_m7) rfl (cd := .ne) (t := 124) (b := true) (pc' := 124) rfl (feq hx2).2 rfl ?_
  exact own_ks.ret (mt := own_m7) rfl (ins := .return_) (t := 125) (v := none) rfl rfl ⟨rfl, rfl⟩
set_option maxRecDepth 100000 in
set_option maxHeartbeats 4000000 in
theorem own_st1_K (tk tw cs ss ts nx ld D B : List Int32) (n i0 hb : Int32) (b m o p t : Int32) (pn : Nat) (hp : own_ix p = some pn) (ht : tk[pn]? = some t) (htm : t = m) (hx1 : (((b.toUInt32 >>> (((2 : Int32) * p) &&& 31).toUInt32).toInt32 &&& (3 : Int32)) &&& (1 : Int32)) = (0 : Int32)) :
    own_run own_P 7 6 156 0 (own_entry [.ref 2, .ref 0, .int b, .int m, .int o, .int p, .ref 10] own_m7.ml) [] (own_F1 tk tw cs ss ts nx ld D B n i0 hb) (none, (own_F1 tk tw cs ss ts nx ld D B n (i0 + (1 : Int32)) (hb ||| ((1 : Int32) <<< (p &&& 31))))) := by
  refine own_ks_run ?_
  refine own_ks.go (mt := own_m7) rfl 2 (pc' := 3) (L' := [.val (.ref 2), .val (.ref 0), .val (.int b), .val (.int m), .val (.int o), .val (.int p), .val (.ref 10), .unset, .unset]) (S' := [.int p, .ref 0]) (H' := (own_F1 tk tw cs ss ts nx ld D B n i0 hb)) rfl ?_
  refine own_ks.iaload (mt := own_m7) rfl (t := 4) (a := 0) (v := .int t) rfl rfl hp (own_iv_get ht) ?_
  refine own_ks.go (mt := own_m7) rfl 11 (pc' := 19) (L' := [.val (.ref 2), .val (.ref 0), .val (.int b), .val (.int m), .val (.int o), .val (.int p), .val (.ref 10), .val (.int t), .val (.int ((b.toUInt32 >>> (((2 : Int32) * p) &&& 31).toUInt32).toInt32 &&& (3 : Int32)))]) (S' := [.int m, .int t]) (H' := (own_F1 tk tw cs ss ts nx ld D B n i0 hb)) rfl ?_
  refine own_ks.br2 (mt := own_m7) rfl (cd := .ne) (t := 81) (b := false) (pc' := 22) rfl (teq htm).2 rfl ?_
  refine own_ks.go (mt := own_m7) rfl 3 (pc' := 26) (L' := [.val (.ref 2), .val (.ref 0), .val (.int b), .val (.int m), .val (.int o), .val (.int p), .val (.ref 10), .val (.int t), .val (.int ((b.toUInt32 >>> (((2 : Int32) * p) &&& 31).toUInt32).toInt32 &&& (3 : Int32)))]) (S' := [.int (((b.toUInt32 >>> (((2 : Int32) * p) &&& 31).toUInt32).toInt32 &&& (3 : Int32)) &&& (1 : Int32))]) (H' := (own_F1 tk tw cs ss ts nx ld D B n i0 hb)) rfl ?_
  refine own_ks.br1 (mt := own_m7) rfl (cd := .eq) (t := 55) (b := true) (pc' := 55) rfl ((if0 _ _).trans (teq hx1).1) rfl ?_
  refine own_ks.go (mt := own_m7) rfl 19 (pc' := 124) (L' := [.val (.ref 2), .val (.ref 0), .val (.int b), .val (.int m), .val (.int o), .val (.int p), .val (.ref 10), .val (.int t), .val (.int ((b.toUInt32 >>> (((2 : Int32) * p) &&& 31).toUInt32).toInt32 &&& (3 : Int32)))]) (S' := []) (H' := (own_F1 tk tw cs ss ts nx ld D B n (i0 + (1 : Int32)) (hb ||| ((1 : Int32) <<< (p &&& 31))))) rfl ?_
  exact own_ks.ret (mt := own_m7) rfl (ins := .return_) (t := 125) (v := none) rfl rfl ⟨rfl, rfl⟩
set_option maxRecDepth 100000 in
set_option maxHeartbeats 4000000 in
theorem own_st1_G (tk tw cs ss ts nx ld D B : List Int32) (n i0 hb : Int32) (b m o p t : Int32) (pn : Nat) (hp : own_ix p = some pn) (ht : tk[pn]? = some t) (htm : t = m) (hx1 : ¬ ((((b.toUInt32 >>> (((2 : Int32) * p) &&& 31).toUInt32).toInt32 &&& (3 : Int32)) &&& (1 : Int32)) = (0 : Int32))) (hx3 : ¬ (((b.toUInt32 >>> (((2 : Int32) * p) &&& 31).toUInt32).toInt32 &&& (3 : Int32)) = (3 : Int32))) (s c : Int32) (qm q : Nat) (hm : own_ix m = some qm) (hs : ss[qm]? = some s) (hq : own_ix (s + i0) = some q) (hl : q < ts.length) (hc : cs[qm]? = some c) :
    own_run own_P 7 6 156 0 (own_entry [.ref 2, .ref 0, .int b, .int m, .int o, .int p, .ref 10] own_m7.ml) [] (own_F1 tk tw cs ss ts nx ld D B n i0 hb) (none, (own_F1 tk tw (cs.set qm (c - (1 : Int32))) ss (ts.set q (-1 : Int32)) nx ld D B n (i0 + (1 : Int32)) hb)) := by
  refine own_ks_run ?_
  refine own_ks.go (mt := own_m7) rfl 2 (pc' := 3) (L' := [.val (.ref 2), .val (.ref 0), .val (.int b), .val (.int m), .val (.int o), .val (.int p), .val (.ref 10), .unset, .unset]) (S' := [.int p, .ref 0]) (H' := (own_F1 tk tw cs ss ts nx ld D B n i0 hb)) rfl ?_
  refine own_ks.iaload (mt := own_m7) rfl (t := 4) (a := 0) (v := .int t) rfl rfl hp (own_iv_get ht) ?_
  refine own_ks.go (mt := own_m7) rfl 11 (pc' := 19) (L' := [.val (.ref 2), .val (.ref 0), .val (.int b), .val (.int m), .val (.int o), .val (.int p), .val (.ref 10), .val (.int t), .val (.int ((b.toUInt32 >>> (((2 : Int32) * p) &&& 31).toUInt32).toInt32 &&& (3 : Int32)))]) (S' := [.int m, .int t]) (H' := (own_F1 tk tw cs ss ts nx ld D B n i0 hb)) rfl ?_
  refine own_ks.br2 (mt := own_m7) rfl (cd := .ne) (t := 81) (b := false) (pc' := 22) rfl (teq htm).2 rfl ?_
  refine own_ks.go (mt := own_m7) rfl 3 (pc' := 26) (L' := [.val (.ref 2), .val (.ref 0), .val (.int b), .val (.int m), .val (.int o), .val (.int p), .val (.ref 10), .val (.int t), .val (.int ((b.toUInt32 >>> (((2 : Int32) * p) &&& 31).toUInt32).toInt32 &&& (3 : Int32)))]) (S' := [.int (((b.toUInt32 >>> (((2 : Int32) * p) &&& 31).toUInt32).toInt32 &&& (3 : Int32)) &&& (1 : Int32))]) (H' := (own_F1 tk tw cs ss ts nx ld D B n i0 hb)) rfl ?_
  refine own_ks.br1 (mt := own_m7) rfl (cd := .eq) (t := 55) (b := false) (pc' := 29) rfl ((if0 _ _).trans (feq hx1).1) rfl ?_
  refine own_ks.go (mt := own_m7) rfl 5 (pc' := 35) (L' := [.val (.ref 2), .val (.ref 0), .val (.int b), .val (.int m), .val (.int o), .val (.int p), .val (.ref 10), .val (.int t), .val (.int ((b.toUInt32 >>> (((2 : Int32) * p) &&& 31).toUInt32).toInt32 &&& (3 : Int32)))]) (S' := [.int i0, .int m, .ref 2]) (H' := (own_F1 tk tw cs ss ts nx ld D B n i0 hb)) rfl ?_
  refine own_ks.call (mt := own_m7) (mj := own_m11) rfl (ins := .invokevirtual 7) (t := 38) (j := 11) (as := [.ref 2, .int m, .int i0]) (r' := []) (v := none) (H' := (own_F1 tk tw (cs.set qm (c - (1 : Int32))) ss (ts.set q (-1 : Int32)) nx ld D B n i0 hb)) (S' := []) rfl rfl rfl rfl rfl (own_gu1 tk tw cs ss ts nx ld D B n i0 hb m i0 s c qm q hm hs hq hl hc) rfl ?_
  refine own_ks.go (mt := own_m7) rfl 2 (pc' := 41) (L' := [.val (.ref 2), .val (.ref 0), .val (.int b), .val (.int m), .val (.int o), .val (.int p), .val (.ref 10), .val (.int t), .val (.int ((b.toUInt32 >>> (((2 : Int32) * p) &&& 31).toUInt32).toInt32 &&& (3 : Int32)))]) (S' := [.int (3 : Int32), .int ((b.toUInt32 >>> (((2 : Int32) * p) &&& 31).toUInt32).toInt32 &&& (3 : Int32))]) (H' := (own_F1 tk tw (cs.set qm (c - (1 : Int32))) ss (ts.set q (-1 : Int32)) nx ld D B n i0 hb)) rfl ?_
  refine own_ks.br2 (mt := own_m7) rfl (cd := .ne) (t := 68) (b := true) (pc' := 68) rfl (feq hx3).2 rfl ?_
  refine own_ks.go (mt := own_m7) rfl 9 (pc' := 124) (L' := [.val (.ref 2), .val (.ref 0), .val (.int b), .val (.int m), .val (.int o), .val (.int p), .val (.ref 10), .val (.int t), .val (.int ((b.toUInt32 >>> (((2 : Int32) * p) &&& 31).toUInt32).toInt32 &&& (3 : Int32)))]) (S' := []) (H' := (own_F1 tk tw (cs.set qm (c - (1 : Int32))) ss (ts.set q (-1 : Int32)) nx ld D B n (i0 + (1 : Int32)) hb)) rfl ?_
  exact own_ks.ret (mt := own_m7) rfl (ins := .return_) (t := 125) (v := none) rfl rfl ⟨rfl, rfl⟩
set_option maxRecDepth 100000 in
set_option maxHeartbeats 4000000 in
theorem own_st1_GO (tk tw cs ss ts nx ld D B : List Int32) (n i0 hb : Int32) (b m o p t : Int32) (pn : Nat) (hp : own_ix p = some pn) (ht : tk[pn]? = some t) (htm : t = m) (hx1 : ¬ ((((b.toUInt32 >>> (((2 : Int32) * p) &&& 31).toUInt32).toInt32 &&& (3 : Int32)) &&& (1 : Int32)) = (0 : Int32))) (hx3 : ((b.toUInt32 >>> (((2 : Int32) * p) &&& 31).toUInt32).toInt32 &&& (3 : Int32)) = (3 : Int32)) (s c : Int32) (qm q : Nat) (hm : own_ix m = some qm) (hs : ss[qm]? = some s) (hq : own_ix (s + i0) = some q) (hl : q < ts.length) (hc : cs[qm]? = some c) (dl dc : Int32) (qd : Nat) (hd : own_ix o = some qd) (hdl : ld[qd]? = some dl) (hdc : (cs.set qm (c - (1 : Int32)))[qd]? = some dc) (k : Nat) (hk : own_ix n = some k) (hk6 : k < 16) (hn : ¬ (n = (16 : Int32))) (hD : D.length = 16) (hB : B.length = 16) :
    own_run own_P 7 6 156 0 (own_entry [.ref 2, .ref 0, .int b, .int m, .int o, .int p, .ref 10] own_m7.ml) [] (own_F1 tk tw cs ss ts nx ld D B n i0 hb) (none, (own_F1 tk tw ((cs.set qm (c - (1 : Int32))).set qd (dc + (1 : Int32))) ss (ts.set q (-1 : Int32)) nx (ld.set qd n) (D.set k p) (B.set k dl) (n + (1 : Int32)) (i0 + (1 : Int32)) hb)) := by
  refine own_ks_run ?_
  refine own_ks.go (mt := own_m7) rfl 2 (pc' := 3) (L' := [.val (.ref 2), .val (.ref 0), .val (.int b), .val (.int m), .val (.int o), .val (.int p), .val (.ref 10), .unset, .unset]) (S' := [.int p, .ref 0]) (H' := (own_F1 tk tw cs ss ts nx ld D B n i0 hb)) rfl ?_
  refine own_ks.iaload (mt := own_m7) rfl (t := 4) (a := 0) (v := .int t) rfl rfl hp (own_iv_get ht) ?_
  refine own_ks.go (mt := own_m7) rfl 11 (pc' := 19) (L' := [.val (.ref 2), .val (.ref 0), .val (.int b), .val (.int m), .val (.int o), .val (.int p), .val (.ref 10), .val (.int t), .val (.int ((b.toUInt32 >>> (((2 : Int32) * p) &&& 31).toUInt32).toInt32 &&& (3 : Int32)))]) (S' := [.int m, .int t]) (H' := (own_F1 tk tw cs ss ts nx ld D B n i0 hb)) rfl ?_
  refine own_ks.br2 (mt := own_m7) rfl (cd := .ne) (t := 81) (b := false) (pc' := 22) rfl (teq htm).2 rfl ?_
  refine own_ks.go (mt := own_m7) rfl 3 (pc' := 26) (L' := [.val (.ref 2), .val (.ref 0), .val (.int b), .val (.int m), .val (.int o), .val (.int p), .val (.ref 10), .val (.int t), .val (.int ((b.toUInt32 >>> (((2 : Int32) * p) &&& 31).toUInt32).toInt32 &&& (3 : Int32)))]) (S' := [.int (((b.toUInt32 >>> (((2 : Int32) * p) &&& 31).toUInt32).toInt32 &&& (3 : Int32)) &&& (1 : Int32))]) (H' := (own_F1 tk tw cs ss ts nx ld D B n i0 hb)) rfl ?_
  refine own_ks.br1 (mt := own_m7) rfl (cd := .eq) (t := 55) (b := false) (pc' := 29) rfl ((if0 _ _).trans (feq hx1).1) rfl ?_
  refine own_ks.go (mt := own_m7) rfl 5 (pc' := 35) (L' := [.val (.ref 2), .val (.ref 0), .val (.int b), .val (.int m), .val (.int o), .val (.int p), .val (.ref 10), .val (.int t), .val (.int ((b.toUInt32 >>> (((2 : Int32) * p) &&& 31).toUInt32).toInt32 &&& (3 : Int32)))]) (S' := [.int i0, .int m, .ref 2]) (H' := (own_F1 tk tw cs ss ts nx ld D B n i0 hb)) rfl ?_
  refine own_ks.call (mt := own_m7) (mj := own_m11) rfl (ins := .invokevirtual 7) (t := 38) (j := 11) (as := [.ref 2, .int m, .int i0]) (r' := []) (v := none) (H' := (own_F1 tk tw (cs.set qm (c - (1 : Int32))) ss (ts.set q (-1 : Int32)) nx ld D B n i0 hb)) (S' := []) rfl rfl rfl rfl rfl (own_gu1 tk tw cs ss ts nx ld D B n i0 hb m i0 s c qm q hm hs hq hl hc) rfl ?_
  refine own_ks.go (mt := own_m7) rfl 2 (pc' := 41) (L' := [.val (.ref 2), .val (.ref 0), .val (.int b), .val (.int m), .val (.int o), .val (.int p), .val (.ref 10), .val (.int t), .val (.int ((b.toUInt32 >>> (((2 : Int32) * p) &&& 31).toUInt32).toInt32 &&& (3 : Int32)))]) (S' := [.int (3 : Int32), .int ((b.toUInt32 >>> (((2 : Int32) * p) &&& 31).toUInt32).toInt32 &&& (3 : Int32))]) (H' := (own_F1 tk tw (cs.set qm (c - (1 : Int32))) ss (ts.set q (-1 : Int32)) nx ld D B n i0 hb)) rfl ?_
  refine own_ks.br2 (mt := own_m7) rfl (cd := .ne) (t := 68) (b := false) (pc' := 44) rfl (teq hx3).2 rfl ?_
  refine own_ks.go (mt := own_m7) rfl 3 (pc' := 49) (L' := [.val (.ref 2), .val (.ref 0), .val (.int b), .val (.int m), .val (.int o), .val (.int p), .val (.ref 10), .val (.int t), .val (.int ((b.toUInt32 >>> (((2 : Int32) * p) &&& 31).toUInt32).toInt32 &&& (3 : Int32)))]) (S' := [.int p, .int o, .ref 2]) (H' := (own_F1 tk tw (cs.set qm (c - (1 : Int32))) ss (ts.set q (-1 : Int32)) nx ld D B n i0 hb)) rfl ?_
  refine own_ks.call (mt := own_m7) (mj := own_m12) rfl (ins := .invokevirtual 13) (t := 52) (j := 12) (as := [.ref 2, .int o, .int p]) (r' := []) (v := none) (H' := (own_F1 tk tw ((cs.set qm (c - (1 : Int32))).set qd (dc + (1 : Int32))) ss (ts.set q (-1 : Int32)) nx (ld.set qd n) (D.set k p) (B.set k dl) (n + (1 : Int32)) i0 hb)) (S' := []) rfl rfl rfl rfl rfl (own_dl1 tk tw (cs.set qm (c - (1 : Int32))) ss (ts.set q (-1 : Int32)) nx ld D B n i0 hb o p dl dc qd hd hdl hdc k hk hk6 hn hD hB) rfl ?_
  refine own_ks.go (mt := own_m7) rfl 10 (pc' := 124) (L' := [.val (.ref 2), .val (.ref 0), .val (.int b), .val (.int m), .val (.int o), .val (.int p), .val (.ref 10), .val (.int t), .val (.int ((b.toUInt32 >>> (((2 : Int32) * p) &&& 31).toUInt32).toInt32 &&& (3 : Int32)))]) (S' := []) (H' := (own_F1 tk tw ((cs.set qm (c - (1 : Int32))).set qd (dc + (1 : Int32))) ss (ts.set q (-1 : Int32)) nx (ld.set qd n) (D.set k p) (B.set k dl) (n + (1 : Int32)) (i0 + (1 : Int32)) hb)) rfl ?_
  exact own_ks.ret (mt := own_m7) rfl (ins := .return_) (t := 125) (v := none) rfl rfl ⟨rfl, rfl⟩
set_option maxRecDepth 100000 in
set_option maxHeartbeats 4000000 in
theorem own_st1_D (tk tw cs ss ts nx ld D B : List Int32) (n i0 hb : Int32) (b m o p t : Int32) (pn : Nat) (hp : own_ix p = some pn) (ht : tk[pn]? = some t) (htm : ¬ (t = m)) (hx1 : ((b.toUInt32 >>> (((2 : Int32) * p) &&& 31).toUInt32).toInt32 &&& (3 : Int32)) = (1 : Int32)) (dl dc : Int32) (qd : Nat) (hd : own_ix m = some qd) (hdl : ld[qd]? = some dl) (hdc : cs[qd]? = some dc) (k : Nat) (hk : own_ix n = some k) (hk6 : k < 16) (hn : ¬ (n = (16 : Int32))) (hD : D.length = 16) (hB : B.length = 16) :
    own_run own_P 7 6 156 0 (own_entry [.ref 2, .ref 0, .int b, .int m, .int o, .int p, .ref 10] own_m7.ml) [] (own_F1 tk tw cs ss ts nx ld D B n i0 hb) (none, (own_F1 tk tw (cs.set qd (dc + (1 : Int32))) ss ts nx (ld.set qd n) (D.set k p) (B.set k dl) (n + (1 : Int32)) i0 (hb ||| ((1 : Int32) <<< (p &&& 31))))) := by
  refine own_ks_run ?_
  refine own_ks.go (mt := own_m7) rfl 2 (pc' := 3) (L' := [.val (.ref 2), .val (.ref 0), .val (.int b), .val (.int m), .val (.int o), .val (.int p), .val (.ref 10), .unset, .unset]) (S' := [.int p, .ref 0]) (H' := (own_F1 tk tw cs ss ts nx ld D B n i0 hb)) rfl ?_
  refine own_ks.iaload (mt := own_m7) rfl (t := 4) (a := 0) (v := .int t) rfl rfl hp (own_iv_get ht) ?_
  refine own_ks.go (mt := own_m7) rfl 11 (pc' := 19) (L' := [.val (.ref 2), .val (.ref 0), .val (.int b), .val (.int m), .val (.int o), .val (.int p), .val (.ref 10), .val (.int t), .val (.int ((b.toUInt32 >>> (((2 : Int32) * p) &&& 31).toUInt32).toInt32 &&& (3 : Int32)))]) (S' := [.int m, .int t]) (H' := (own_F1 tk tw cs ss ts nx ld D B n i0 hb)) rfl ?_
  refine own_ks.br2 (mt := own_m7) rfl (cd := .ne) (t := 81) (b := true) (pc' := 81) rfl (feq htm).2 rfl ?_
  refine own_ks.go (mt := own_m7) rfl 2 (pc' := 84) (L' := [.val (.ref 2), .val (.ref 0), .val (.int b), .val (.int m), .val (.int o), .val (.int p), .val (.ref 10), .val (.int t), .val (.int ((b.toUInt32 >>> (((2 : Int32) * p) &&& 31).toUInt32).toInt32 &&& (3 : Int32)))]) (S' := [.int (1 : Int32), .int ((b.toUInt32 >>> (((2 : Int32) * p) &&& 31).toUInt32).toInt32 &&& (3 : Int32))]) (H' := (own_F1 tk tw cs ss ts nx ld D B n i0 hb)) rfl ?_
  refine own_ks.br2 (mt := own_m7) rfl (cd := .ne) (t := 110) (b := false) (pc' := 87) rfl (teq hx1).2 rfl ?_
  refine own_ks.go (mt := own_m7) rfl 3 (pc' := 91) (L' := [.val (.ref 2), .val (.ref 0), .val (.int b), .val (.int m), .val (.int o), .val (.int p), .val (.ref 10), .val (.int t), .val (.int ((b.toUInt32 >>> (((2 : Int32) * p) &&& 31).toUInt32).toInt32 &&& (3 : Int32)))]) (S' := [.int p, .int m, .ref 2]) (H' := (own_F1 tk tw cs ss ts nx ld D B n i0 hb)) rfl ?_
  refine own_ks.call (mt := own_m7) (mj := own_m12) rfl (ins := .invokevirtual 13) (t := 94) (j := 12) (as := [.ref 2, .int m, .int p]) (r' := []) (v := none) (H' := (own_F1 tk tw (cs.set qd (dc + (1 : Int32))) ss ts nx (ld.set qd n) (D.set k p) (B.set k dl) (n + (1 : Int32)) i0 hb)) (S' := []) rfl rfl rfl rfl rfl (own_dl1 tk tw cs ss ts nx ld D B n i0 hb m p dl dc qd hd hdl hdc k hk hk6 hn hD hB) rfl ?_
  refine own_ks.go (mt := own_m7) rfl 11 (pc' := 124) (L' := [.val (.ref 2), .val (.ref 0), .val (.int b), .val (.int m), .val (.int o), .val (.int p), .val (.ref 10), .val (.int t), .val (.int ((b.toUInt32 >>> (((2 : Int32) * p) &&& 31).toUInt32).toInt32 &&& (3 : Int32)))]) (S' := []) (H' := (own_F1 tk tw (cs.set qd (dc + (1 : Int32))) ss ts nx (ld.set qd n) (D.set k p) (B.set k dl) (n + (1 : Int32)) i0 (hb ||| ((1 : Int32) <<< (p &&& 31))))) rfl ?_
  exact own_ks.ret (mt := own_m7) rfl (ins := .return_) (t := 125) (v := none) rfl rfl ⟨rfl, rfl⟩
set_option maxRecDepth 100000 in
set_option maxHeartbeats 4000000 in
theorem own_st1_O (tk tw cs ss ts nx ld D B : List Int32) (n i0 hb : Int32) (b m o p t : Int32) (pn : Nat) (hp : own_ix p = some pn) (ht : tk[pn]? = some t) (htm : ¬ (t = m)) (hx1 : ¬ (((b.toUInt32 >>> (((2 : Int32) * p) &&& 31).toUInt32).toInt32 &&& (3 : Int32)) = (1 : Int32))) (hx2 : ((b.toUInt32 >>> (((2 : Int32) * p) &&& 31).toUInt32).toInt32 &&& (3 : Int32)) = (2 : Int32)) (dl dc : Int32) (qd : Nat) (hd : own_ix o = some qd) (hdl : ld[qd]? = some dl) (hdc : cs[qd]? = some dc) (k : Nat) (hk : own_ix n = some k) (hk6 : k < 16) (hn : ¬ (n = (16 : Int32))) (hD : D.length = 16) (hB : B.length = 16) :
    own_run own_P 7 6 156 0 (own_entry [.ref 2, .ref 0, .int b, .int m, .int o, .int p, .ref 10] own_m7.ml) [] (own_F1 tk tw cs ss ts nx ld D B n i0 hb) (none, (own_F1 tk tw (cs.set qd (dc + (1 : Int32))) ss ts nx (ld.set qd n) (D.set k p) (B.set k dl) (n + (1 : Int32)) i0 hb)) := by
  refine own_ks_run ?_
  refine own_ks.go (mt := own_m7) rfl 2 (pc' := 3) (L' := [.val (.ref 2), .val (.ref 0), .val (.int b), .val (.int m), .val (.int o), .val (.int p), .val (.ref 10), .unset, .unset]) (S' := [.int p, .ref 0]) (H' := (own_F1 tk tw cs ss ts nx ld D B n i0 hb)) rfl ?_
  refine own_ks.iaload (mt := own_m7) rfl (t := 4) (a := 0) (v := .int t) rfl rfl hp (own_iv_get ht) ?_
  refine own_ks.go (mt := own_m7) rfl 11 (pc' := 19) (L' := [.val (.ref 2), .val (.ref 0), .val (.int b), .val (.int m), .val (.int o), .val (.int p), .val (.ref 10), .val (.int t), .val (.int ((b.toUInt32 >>> (((2 : Int32) * p) &&& 31).toUInt32).toInt32 &&& (3 : Int32)))]) (S' := [.int m, .int t]) (H' := (own_F1 tk tw cs ss ts nx ld D B n i0 hb)) rfl ?_
  refine own_ks.br2 (mt := own_m7) rfl (cd := .ne) (t := 81) (b := true) (pc' := 81) rfl (feq htm).2 rfl ?_
  refine own_ks.go (mt := own_m7) rfl 2 (pc' := 84) (L' := [.val (.ref 2), .val (.ref 0), .val (.int b), .val (.int m), .val (.int o), .val (.int p), .val (.ref 10), .val (.int t), .val (.int ((b.toUInt32 >>> (((2 : Int32) * p) &&& 31).toUInt32).toInt32 &&& (3 : Int32)))]) (S' := [.int (1 : Int32), .int ((b.toUInt32 >>> (((2 : Int32) * p) &&& 31).toUInt32).toInt32 &&& (3 : Int32))]) (H' := (own_F1 tk tw cs ss ts nx ld D B n i0 hb)) rfl ?_
  refine own_ks.br2 (mt := own_m7) rfl (cd := .ne) (t := 110) (b := true) (pc' := 110) rfl (feq hx1).2 rfl ?_
  refine own_ks.go (mt := own_m7) rfl 2 (pc' := 113) (L' := [.val (.ref 2), .val (.ref 0), .val (.int b), .val (.int m), .val (.int o), .val (.int p), .val (.ref 10), .val (.int t), .val (.int ((b.toUInt32 >>> (((2 : Int32) * p) &&& 31).toUInt32).toInt32 &&& (3 : Int32)))]) (S' := [.int (2 : Int32), .int ((b.toUInt32 >>> (((2 : Int32) * p) &&& 31).toUInt32).toInt32 &&& (3 : Int32))]) (H' := (own_F1 tk tw cs ss ts nx ld D B n i0 hb)) rfl ?_
  refine own_ks.br2 (mt := own_m7) rfl (cd := .ne) (t := 124) (b := false) (pc' := 116) rfl (teq hx2).2 rfl ?_
  refine own_ks.go (mt := own_m7) rfl 3 (pc' := 121) (L' := [.val (.ref 2), .val (.ref 0), .val (.int b), .val (.int m), .val (.int o), .val (.int p), .val (.ref 10), .val (.int t), .val (.int ((b.toUInt32 >>> (((2 : Int32) * p) &&& 31).toUInt32).toInt32 &&& (3 : Int32)))]) (S' := [.int p, .int o, .ref 2]) (H' := (own_F1 tk tw cs ss ts nx ld D B n i0 hb)) rfl ?_
  refine own_ks.call (mt := own_m7) (mj := own_m12) rfl (ins := .invokevirtual 13) (t := 124) (j := 12) (as := [.ref 2, .int o, .int p]) (r' := []) (v := none) (H' := (own_F1 tk tw (cs.set qd (dc + (1 : Int32))) ss ts nx (ld.set qd n) (D.set k p) (B.set k dl) (n + (1 : Int32)) i0 hb)) (S' := []) rfl rfl rfl rfl rfl (own_dl1 tk tw cs ss ts nx ld D B n i0 hb o p dl dc qd hd hdl hdc k hk hk6 hn hD hB) rfl ?_
  exact own_ks.ret (mt := own_m7) rfl (ins := .return_) (t := 125) (v := none) rfl rfl ⟨rfl, rfl⟩
set_option maxRecDepth 100000 in
set_option maxHeartbeats 4000000 in
theorem own_st1_N (tk tw cs ss ts nx ld D B : List Int32) (n i0 hb : Int32) (b m o p t : Int32) (pn : Nat) (hp : own_ix p = some pn) (ht : tk[pn]? = some t) (htm : ¬ (t = m)) (hx1 : ¬ (((b.toUInt32 >>> (((2 : Int32) * p) &&& 31).toUInt32).toInt32 &&& (3 : Int32)) = (1 : Int32))) (hx2 : ¬ (((b.toUInt32 >>> (((2 : Int32) * p) &&& 31).toUInt32).toInt32 &&& (3 : Int32)) = (2 : Int32))) :
    own_run own_P 7 6 156 0 (own_entry [.ref 2, .ref 0, .int b, .int m, .int o, .int p, .ref 10] own_m7.ml) [] (own_F1 tk tw cs ss ts nx ld D B n i0 hb) (none, (own_F1 tk tw cs ss ts nx ld D B n i0 hb)) := by
  refine own_ks_run ?_
  refine own_ks.go (mt := own_m7) rfl 2 (pc' := 3) (L' := [.val (.ref 2), .val (.ref 0), .val (.int b), .val (.int m), .val (.int o), .val (.int p), .val (.ref 10), .unset, .unset]) (S' := [.int p, .ref 0]) (H' := (own_F1 tk tw cs ss ts nx ld D B n i0 hb)) rfl ?_
  refine own_ks.iaload (mt := own_m7) rfl (t := 4) (a := 0) (v := .int t) rfl rfl hp (own_iv_get ht) ?_
  refine own_ks.go (mt := own_m7) rfl 11 (pc' := 19) (L' := [.val (.ref 2), .val (.ref 0), .val (.int b), .val (.int m), .val (.int o), .val (.int p), .val (.ref 10), .val (.int t), .val (.int ((b.toUInt32 >>> (((2 : Int32) * p) &&& 31).toUInt32).toInt32 &&& (3 : Int32)))]) (S' := [.int m, .int t]) (H' := (own_F1 tk tw cs ss ts nx ld D B n i0 hb)) rfl ?_
  refine own_ks.br2 (mt := own_m7) rfl (cd := .ne) (t := 81) (b := true) (pc' := 81) rfl (feq htm).2 rfl ?_
  refine own_ks.go (mt := own_m7) rfl 2 (pc' := 84) (L' := [.val (.ref 2), .val (.ref 0), .val (.int b), .val (.int m), .val (.int o), .val (.int p), .val (.ref 10), .val (.int t), .val (.int ((b.toUInt32 >>> (((2 : Int32) * p) &&& 31).toUInt32).toInt32 &&& (3 : Int32)))]) (S' := [.int (1 : Int32), .int ((b.toUInt32 >>> (((2 : Int32) * p) &&& 31).toUInt32).toInt32 &&& (3 : Int32))]) (H' := (own_F1 tk tw cs ss ts nx ld D B n i0 hb)) rfl ?_
  refine own_ks.br2 (mt := own_m7) rfl (cd := .ne) (t := 110) (b := true) (pc' := 110) rfl (feq hx1).2 rfl ?_
  refine own_ks.go (mt := own_m7) rfl 2 (pc' := 113) (L' := [.val (.ref 2), .val (.ref 0), .val (.int b), .val (.int m), .val (.int o), .val (.int p), .val (.ref 10), .val (.int t), .val (.int ((b.toUInt32 >>> (((2 : Int32) * p) &&& 31).toUInt32).toInt32 &&& (3 : Int32)))]) (S' := [.int (2 : Int32), .int ((b.toUInt32 >>> (((2 : Int32) * p) &&& 31).toUInt32).toInt32 &&& (3 : Int32))]) (H' := (own_F1 tk tw cs ss ts nx ld D B n i0 hb)) rfl ?_
  refine own_ks.br2 (mt := own_m7) rfl (cd := .ne) (t := 124) (b := true) (pc' := 124) rfl (feq hx2).2 rfl ?_
  exact own_ks.ret (mt := own_m7) rfl (ins := .return_) (t := 125) (v := none) rfl rfl ⟨rfl, rfl⟩
set_option maxRecDepth 100000 in
set_option maxHeartbeats 4000000 in
theorem own_la0 (tk tw cs ss ts nx ld : List Int32) (i0 hb : Int32) (m : Int32) (qe e : Nat) (he : own_ix (m + (1 : Int32)) = some qe) (hse : ss[qe]? = some (Int32.ofNat e)) (he6 : e ≤ 6) (Y : List Int32) : ∀ X pst done : List Int32, ts = X ++ (Y ++ pst) → X.length + Y.length = e → done.length ≤ X.length →
    own_ks own_P (fun w G => w = some (.ref 11) ∧ G = ((own_F0 tk tw cs ss ts nx ld i0 hb) ++ [(.inr .int, (own_iv (done ++ Y.filter own_nn)))])) [] 8 6 159 28 [.val (.ref 2), .val (.int m), .val (.ref 11), .val (.int (Int32.ofNat done.length)), .val (.int (Int32.ofNat X.length)), .unset] [] ((own_F0 tk tw cs ss ts nx ld i0 hb) ++ [(.inr .int, (own_iv (done ++ List.replicate (Y.filter own_nn).length 0)))]) := by
  induction Y with
  | nil =>
    intro X pst done hX hl hd
    simp only [List.filter_nil, List.length_nil, List.replicate_zero, List.append_nil, Nat.add_zero] at *
    have h1 : ¬ ((Int32.ofNat X.length) < (Int32.ofNat e)) := by rw [hl]; exact Int32.lt_irrefl
    refine own_ks.go (mt := own_m8) rfl 6 (pc' := 37) (L' := [.val (.ref 2), .val (.int m), .val (.ref 11), .val (.int (Int32.ofNat done.length)), .val (.int (Int32.ofNat X.length)), .unset]) (S' := [.int (m + (1 : Int32)), .ref 6, .int (Int32.ofNat X.length)]) (H' := ((own_F0 tk tw cs ss ts nx ld i0 hb) ++ [(.inr .int, (own_iv done))])) rfl ?_
    refine own_ks.iaload (mt := own_m8) rfl (t := 38) (a := 6) (v := .int (Int32.ofNat e)) rfl rfl he (own_iv_get hse) ?_
    refine own_ks.br2 (mt := own_m8) rfl (cd := .ge) (t := 71) (b := true) (pc' := 71) rfl (flt h1).2.1 rfl ?_
    refine own_ks.go (mt := own_m8) rfl 1 (pc' := 72) (L' := [.val (.ref 2), .val (.int m), .val (.ref 11), .val (.int (Int32.ofNat done.length)), .val (.int (Int32.ofNat X.length)), .unset]) (S' := [.ref 11]) (H' := ((own_F0 tk tw cs ss ts nx ld i0 hb) ++ [(.inr .int, (own_iv done))])) rfl ?_
    exact own_ks.ret (mt := own_m8) rfl (ins := .areturn) (t := 73) (v := some (.ref 11)) rfl rfl ⟨rfl, rfl⟩
  | cons y Y ih =>
    intro X pst done hX hl hd
    have hl2 : X.length + (Y.length + 1) = e := hl
    have h1 : (Int32.ofNat X.length) < (Int32.ofNat e) := own_olt (by omega) (by omega) (by omega)
    have hr : ts[X.length]? = some y := by rw [hX]; simp
    have e1 : Int32.ofNat X.length + (1 : Int32) = Int32.ofNat (X ++ [y]).length := own_os1 _ _
    by_cases hy : y = (-1 : Int32)
    · rw [show (y :: Y).filter own_nn = Y.filter own_nn from own_fn hy]
      refine own_ks.go (mt := own_m8) rfl 6 (pc' := 37) (L' := [.val (.ref 2), .val (.int m), .val (.ref 11), .val (.int (Int32.ofNat done.length)), .val (.int (Int32.ofNat X.length)), .unset]) (S' := [.int (m + (1 : Int32)), .ref 6, .int (Int32.ofNat X.length)]) (H' := ((own_F0 tk tw cs ss ts nx ld i0 hb) ++ [(.inr .int, (own_iv (done ++ List.replicate (Y.filter own_nn).length 0)))])) rfl ?_
      refine own_ks.iaload (mt := own_m8) rfl (t := 38) (a := 6) (v := .int (Int32.ofNat e)) rfl rfl he (own_iv_get hse) ?_
      refine own_ks.br2 (mt := own_m8) rfl (cd := .ge) (t := 71) (b := false) (pc' := 41) rfl (tlt h1).2.1 rfl ?_
      refine own_ks.go (mt := own_m8) rfl 3 (pc' := 47) (L' := [.val (.ref 2), .val (.int m), .val (.ref 11), .val (.int (Int32.ofNat done.length)), .val (.int (Int32.ofNat X.length)), .unset]) (S' := [.int (Int32.ofNat X.length), .ref 7]) (H' := ((own_F0 tk tw cs ss ts nx ld i0 hb) ++ [(.inr .int, (own_iv (done ++ List.replicate (Y.filter own_nn).length 0)))])) rfl ?_
      refine own_ks.iaload (mt := own_m8) rfl (t := 48) (a := 7) (v := .int y) rfl rfl (own_ixo (by omega)) (own_iv_get hr) ?_
      refine own_ks.go (mt := own_m8) rfl 1 (pc' := 49) (L' := [.val (.ref 2), .val (.int m), .val (.ref 11), .val (.int (Int32.ofNat done.length)), .val (.int (Int32.ofNat X.length)), .unset]) (S' := [.int (-1 : Int32), .int y]) (H' := ((own_F0 tk tw cs ss ts nx ld i0 hb) ++ [(.inr .int, (own_iv (done ++ List.replicate (Y.filter own_nn).length 0)))])) rfl ?_
      refine own_ks.br2 (mt := own_m8) rfl (cd := .eq) (t := 65) (b := true) (pc' := 65) rfl (teq hy).1 rfl ?_
      refine own_ks.go (mt := own_m8) rfl 2 (pc' := 28) (L' := [.val (.ref 2), .val (.int m), .val (.ref 11), .val (.int (Int32.ofNat done.length)), .val (.int ((Int32.ofNat X.length) + (1 : Int32))), .unset]) (S' := []) (H' := ((own_F0 tk tw cs ss ts nx ld i0 hb) ++ [(.inr .int, (own_iv (done ++ List.replicate (Y.filter own_nn).length 0)))])) rfl ?_
      rw [e1]
      exact ih (X ++ [y]) pst done (by rw [hX]; simp) (by simp; omega) (by simp; omega)
    · rw [show (y :: Y).filter own_nn = y :: Y.filter own_nn from own_fp hy]
      rw [show List.replicate (y :: Y.filter own_nn).length (0 : Int32) = 0 :: List.replicate (Y.filter own_nn).length 0 from rfl]
      refine own_ks.go (mt := own_m8) rfl 6 (pc' := 37) (L' := [.val (.ref 2), .val (.int m), .val (.ref 11), .val (.int (Int32.ofNat done.length)), .val (.int (Int32.ofNat X.length)), .unset]) (S' := [.int (m + (1 : Int32)), .ref 6, .int (Int32.ofNat X.length)]) (H' := ((own_F0 tk tw cs ss ts nx ld i0 hb) ++ [(.inr .int, (own_iv (done ++ (0 :: List.replicate (Y.filter own_nn).length 0))))])) rfl ?_
      refine own_ks.iaload (mt := own_m8) rfl (t := 38) (a := 6) (v := .int (Int32.ofNat e)) rfl rfl he (own_iv_get hse) ?_
      refine own_ks.br2 (mt := own_m8) rfl (cd := .ge) (t := 71) (b := false) (pc' := 41) rfl (tlt h1).2.1 rfl ?_
      refine own_ks.go (mt := own_m8) rfl 3 (pc' := 47) (L' := [.val (.ref 2), .val (.int m), .val (.ref 11), .val (.int (Int32.ofNat done.length)), .val (.int (Int32.ofNat X.length)), .unset]) (S' := [.int (Int32.ofNat X.length), .ref 7]) (H' := ((own_F0 tk tw cs ss ts nx ld i0 hb) ++ [(.inr .int, (own_iv (done ++ (0 :: List.replicate (Y.filter own_nn).length 0))))])) rfl ?_
      refine own_ks.iaload (mt := own_m8) rfl (t := 48) (a := 7) (v := .int y) rfl rfl (own_ixo (by omega)) (own_iv_get hr) ?_
      refine own_ks.go (mt := own_m8) rfl 1 (pc' := 49) (L' := [.val (.ref 2), .val (.int m), .val (.ref 11), .val (.int (Int32.ofNat done.length)), .val (.int (Int32.ofNat X.length)), .unset]) (S' := [.int (-1 : Int32), .int y]) (H' := ((own_F0 tk tw cs ss ts nx ld i0 hb) ++ [(.inr .int, (own_iv (done ++ (0 :: List.replicate (Y.filter own_nn).length 0))))])) rfl ?_
      refine own_ks.br2 (mt := own_m8) rfl (cd := .eq) (t := 65) (b := false) (pc' := 52) rfl (feq hy).1 rfl ?_
      refine own_ks.go (mt := own_m8) rfl 6 (pc' := 63) (L' := [.val (.ref 2), .val (.int m), .val (.ref 11), .val (.int ((Int32.ofNat done.length) + (1 : Int32))), .val (.int (Int32.ofNat X.length)), .unset]) (S' := [.int (Int32.ofNat X.length), .ref 7, .int (Int32.ofNat done.length), .ref 11]) (H' := ((own_F0 tk tw cs ss ts nx ld i0 hb) ++ [(.inr .int, (own_iv (done ++ (0 :: List.replicate (Y.filter own_nn).length 0))))])) rfl ?_
      refine own_ks.iaload (mt := own_m8) rfl (t := 64) (a := 7) (v := .int y) rfl rfl (own_ixo (by omega)) (own_iv_get hr) ?_
      refine own_ks.iastore (mt := own_m8) rfl (t := 65) (a := 11) (H' := ((own_F0 tk tw cs ss ts nx ld i0 hb) ++ [(.inr .int, (own_iv ((done ++ [y]) ++ List.replicate (Y.filter own_nn).length 0)))])) rfl rfl (own_ixo (by omega)) (own_lt' (by rw [List.length_append, List.length_cons]; omega)) (by rw [own_iv_set, own_sapp]; rfl) ?_
      refine own_ks.go (mt := own_m8) rfl 2 (pc' := 28) (L' := [.val (.ref 2), .val (.int m), .val (.ref 11), .val (.int ((Int32.ofNat done.length) + (1 : Int32))), .val (.int ((Int32.ofNat X.length) + (1 : Int32))), .unset]) (S' := []) (H' := ((own_F0 tk tw cs ss ts nx ld i0 hb) ++ [(.inr .int, (own_iv ((done ++ [y]) ++ List.replicate (Y.filter own_nn).length 0)))])) rfl ?_
      rw [e1, own_os1 done y]
      have k := ih (X ++ [y]) pst (done ++ [y]) (by rw [hX]; simp) (by simp; omega) (by simp; omega)
      rw [show (done ++ [y]) ++ Y.filter own_nn = done ++ y :: Y.filter own_nn from by simp] at k
      exact k
set_option maxRecDepth 100000 in
set_option maxHeartbeats 4000000 in
theorem own_la1 (tk tw cs ss ts nx ld D B : List Int32) (n i0 hb : Int32) (m : Int32) (qe e : Nat) (he : own_ix (m + (1 : Int32)) = some qe) (hse : ss[qe]? = some (Int32.ofNat e)) (he6 : e ≤ 6) (Y : List Int32) : ∀ X pst done : List Int32, ts = X ++ (Y ++ pst) → X.length + Y.length = e → done.length ≤ X.length →
    own_ks own_P (fun w G => w = some (.ref 13) ∧ G = ((own_F1 tk tw cs ss ts nx ld D B n i0 hb) ++ [(.inr .int, (own_iv (done ++ Y.filter own_nn)))])) [] 8 6 159 28 [.val (.ref 2), .val (.int m), .val (.ref 13), .val (.int (Int32.ofNat done.length)), .val (.int (Int32.ofNat X.length)), .unset] [] ((own_F1 tk tw cs ss ts nx ld D B n i0 hb) ++ [(.inr .int, (own_iv (done ++ List.replicate (Y.filter own_nn).length 0)))]) := by
  induction Y with
  | nil =>
    intro X pst done hX hl hd
    simp only [List.filter_nil, List.length_nil, List.replicate_zero, List.append_nil, Nat.add_zero] at *
    have h1 : ¬ ((Int32.ofNat X.length) < (Int32.ofNat e)) := by rw [hl]; exact Int32.lt_irrefl
    refine own_ks.go (mt := own_m8) rfl 6 (pc' := 37) (L' := [.val (.ref 2), .val (.int m), .val (.ref 13), .val (.int (Int32.ofNat done.length)), .val (.int (Int32.ofNat X.length)), .unset]) (S' := [.int (m + (1 : Int32)), .ref 6, .int (Int32.ofNat X.length)]) (H' := ((own_F1 tk tw cs ss ts nx ld D B n i0 hb) ++ [(.inr .int, (own_iv done))])) rfl ?_
    refine own_ks.iaload (mt := own_m8) rfl (t := 38) (a := 6) (v := .int (Int32.ofNat e)) rfl rfl he (own_iv_get hse) ?_
    refine own_ks.br2 (mt := own_m8) rfl (cd := .ge) (t := 71) (b := true) (pc' := 71) rfl (flt h1).2.1 rfl ?_
    refine own_ks.go (mt := own_m8) rfl 1 (pc' := 72) (L' := [.val (.ref 2), .val (.int m), .val (.ref 13), .val (.int (Int32.ofNat done.length)), .val (.int (Int32.ofNat X.length)), .unset]) (S' := [.ref 13]) (H' := ((own_F1 tk tw cs ss ts nx ld D B n i0 hb) ++ [(.inr .int, (own_iv done))])) rfl ?_
    exact own_ks.ret (mt := own_m8) rfl (ins := .areturn) (t := 73) (v := some (.ref 13)) rfl rfl ⟨rfl, rfl⟩
  | cons y Y ih =>
    intro X pst done hX hl hd
    have hl2 : X.length + (Y.length + 1) = e := hl
    have h1 : (Int32.ofNat X.length) < (Int32.ofNat e) := own_olt (by omega) (by omega) (by omega)
    have hr : ts[X.length]? = some y := by rw [hX]; simp
    have e1 : Int32.ofNat X.length + (1 : Int32) = Int32.ofNat (X ++ [y]).length := own_os1 _ _
    by_cases hy : y = (-1 : Int32)
    · rw [show (y :: Y).filter own_nn = Y.filter own_nn from own_fn hy]
      refine own_ks.go (mt := own_m8) rfl 6 (pc' := 37) (L' := [.val (.ref 2), .val (.int m), .val (.ref 13), .val (.int (Int32.ofNat done.length)), .val (.int (Int32.ofNat X.length)), .unset]) (S' := [.int (m + (1 : Int32)), .ref 6, .int (Int32.ofNat X.length)]) (H' := ((own_F1 tk tw cs ss ts nx ld D B n i0 hb) ++ [(.inr .int, (own_iv (done ++ List.replicate (Y.filter own_nn).length 0)))])) rfl ?_
      refine own_ks.iaload (mt := own_m8) rfl (t := 38) (a := 6) (v := .int (Int32.ofNat e)) rfl rfl he (own_iv_get hse) ?_
      refine own_ks.br2 (mt := own_m8) rfl (cd := .ge) (t := 71) (b := false) (pc' := 41) rfl (tlt h1).2.1 rfl ?_
      refine own_ks.go (mt := own_m8) rfl 3 (pc' := 47) (L' := [.val (.ref 2), .val (.int m), .val (.ref 13), .val (.int (Int32.ofNat done.length)), .val (.int (Int32.ofNat X.length)), .unset]) (S' := [.int (Int32.ofNat X.length), .ref 7]) (H' := ((own_F1 tk tw cs ss ts nx ld D B n i0 hb) ++ [(.inr .int, (own_iv (done ++ List.replicate (Y.filter own_nn).length 0)))])) rfl ?_
      refine own_ks.iaload (mt := own_m8) rfl (t := 48) (a := 7) (v := .int y) rfl rfl (own_ixo (by omega)) (own_iv_get hr) ?_
      refine own_ks.go (mt := own_m8) rfl 1 (pc' := 49) (L' := [.val (.ref 2), .val (.int m), .val (.ref 13), .val (.int (Int32.ofNat done.length)), .val (.int (Int32.ofNat X.length)), .unset]) (S' := [.int (-1 : Int32), .int y]) (H' := ((own_F1 tk tw cs ss ts nx ld D B n i0 hb) ++ [(.inr .int, (own_iv (done ++ List.replicate (Y.filter own_nn).length 0)))])) rfl ?_
      refine own_ks.br2 (mt := own_m8) rfl (cd := .eq) (t := 65) (b := true) (pc' := 65) rfl (teq hy).1 rfl ?_
      refine own_ks.go (mt := own_m8) rfl 2 (pc' := 28) (L' := [.val (.ref 2), .val (.int m), .val (.ref 13), .val (.int (Int32.ofNat done.length)), .val (.int ((Int32.ofNat X.length) + (1 : Int32))), .unset]) (S' := []) (H' := ((own_F1 tk tw cs ss ts nx ld D B n i0 hb) ++ [(.inr .int, (own_iv (done ++ List.replicate (Y.filter own_nn).length 0)))])) rfl ?_
      rw [e1]
      exact ih (X ++ [y]) pst done (by rw [hX]; simp) (by simp; omega) (by simp; omega)
    · rw [show (y :: Y).filter own_nn = y :: Y.filter own_nn from own_fp hy]
      rw [show List.replicate (y :: Y.filter own_nn).length (0 : Int32) = 0 :: List.replicate (Y.filter own_nn).length 0 from rfl]
      refine own_ks.go (mt := own_m8) rfl 6 (pc' := 37) (L' := [.val (.ref 2), .val (.int m), .val (.ref 13), .val (.int (Int32.ofNat done.length)), .val (.int (Int32.ofNat X.length)), .unset]) (S' := [.int (m + (1 : Int32)), .ref 6, .int (Int32.ofNat X.length)]) (H' := ((own_F1 tk tw cs ss ts nx ld D B n i0 hb) ++ [(.inr .int, (own_iv (done ++ (0 :: List.replicate (Y.filter own_nn).length 0))))])) rfl ?_
      refine own_ks.iaload (mt := own_m8) rfl (t := 38) (a := 6) (v := .int (Int32.ofNat e)) rfl rfl he (own_iv_get hse) ?_
      refine own_ks.br2 (mt := own_m8) rfl (cd := .ge) (t := 71) (b := false) (pc' := 41) rfl (tlt h1).2.1 rfl ?_
      refine own_ks.go (mt := own_m8) rfl 3 (pc' := 47) (L' := [.val (.ref 2), .val (.int m), .val (.ref 13), .val (.int (Int32.ofNat done.length)), .val (.int (Int32.ofNat X.length)), .unset]) (S' := [.int (Int32.ofNat X.length), .ref 7]) (H' := ((own_F1 tk tw cs ss ts nx ld D B n i0 hb) ++ [(.inr .int, (own_iv (done ++ (0 :: List.replicate (Y.filter own_nn).length 0))))])) rfl ?_
      refine own_ks.iaload (mt := own_m8) rfl (t := 48) (a := 7) (v := .int y) rfl rfl (own_ixo (by omega)) (own_iv_get hr) ?_
      refine own_ks.go (mt := own_m8) rfl 1 (pc' := 49) (L' := [.val (.ref 2), .val (.int m), .val (.ref 13), .val (.int (Int32.ofNat done.length)), .val (.int (Int32.ofNat X.length)), .unset]) (S' := [.int (-1 : Int32), .int y]) (H' := ((own_F1 tk tw cs ss ts nx ld D B n i0 hb) ++ [(.inr .int, (own_iv (done ++ (0 :: List.replicate (Y.filter own_nn).length 0))))])) rfl ?_
      refine own_ks.br2 (mt := own_m8) rfl (cd := .eq) (t := 65) (b := false) (pc' := 52) rfl (feq hy).1 rfl ?_
      refine own_ks.go (mt := own_m8) rfl 6 (pc' := 63) (L' := [.val (.ref 2), .val (.int m), .val (.ref 13), .val (.int ((Int32.ofNat done.length) + (1 : Int32))), .val (.int (Int32.ofNat X.length)), .unset]) (S' := [.int (Int32.ofNat X.length), .ref 7, .int (Int32.ofNat done.length), .ref 13]) (H' := ((own_F1 tk tw cs ss ts nx ld D B n i0 hb) ++ [(.inr .int, (own_iv (done ++ (0 :: List.replicate (Y.filter own_nn).length 0))))])) rfl ?_
      refine own_ks.iaload (mt := own_m8) rfl (t := 64) (a := 7) (v := .int y) rfl rfl (own_ixo (by omega)) (own_iv_get hr) ?_
      refine own_ks.iastore (mt := own_m8) rfl (t := 65) (a := 13) (H' := ((own_F1 tk tw cs ss ts nx ld D B n i0 hb) ++ [(.inr .int, (own_iv ((done ++ [y]) ++ List.replicate (Y.filter own_nn).length 0)))])) rfl rfl (own_ixo (by omega)) (own_lt' (by rw [List.length_append, List.length_cons]; omega)) (by rw [own_iv_set, own_sapp]; rfl) ?_
      refine own_ks.go (mt := own_m8) rfl 2 (pc' := 28) (L' := [.val (.ref 2), .val (.int m), .val (.ref 13), .val (.int ((Int32.ofNat done.length) + (1 : Int32))), .val (.int ((Int32.ofNat X.length) + (1 : Int32))), .unset]) (S' := []) (H' := ((own_F1 tk tw cs ss ts nx ld D B n i0 hb) ++ [(.inr .int, (own_iv ((done ++ [y]) ++ List.replicate (Y.filter own_nn).length 0)))])) rfl ?_
      rw [e1, own_os1 done y]
      have k := ih (X ++ [y]) pst (done ++ [y]) (by rw [hX]; simp) (by simp; omega) (by simp; omega)
      rw [show (done ++ [y]) ++ Y.filter own_nn = done ++ y :: Y.filter own_nn from by simp] at k
      exact k
set_option maxRecDepth 100000 in
set_option maxHeartbeats 4000000 in
theorem own_lsk (tk tw cs ss ts nx ld D B : List Int32) (n i0 hb : Int32) (m : Int32) (qm : Nat) (pre : List Int32) (hm : own_ix m = some qm) (hss : ss[qm]? = some (Int32.ofNat pre.length)) (h6 : ts.length ≤ 6) (Q : Option Value → OHeap → Prop) (hv : List Value) (at1 en : Int32) (R : List Int32) : ∀ pst : List Int32, ts = pre ++ (R.reverse ++ pst) →
    (∀ pst' : List Int32, ts = pre ++ ((own_sk R).reverse ++ pst') → own_ks own_P Q [] 8 6 159 129 [.val (.ref 2), .val (.int m), .val (.ref 13), .val (.int (Int32.ofNat (pre.length + (own_sk R).length) - (1 : Int32))), .val (.int at1), .val (.int en)] [] ((own_F1 tk tw cs ss ts nx ld D B n i0 hb) ++ [(.inr .int, hv)])) →
    own_ks own_P Q [] 8 6 159 103 [.val (.ref 2), .val (.int m), .val (.ref 13), .val (.int (Int32.ofNat (pre.length + R.length) - (1 : Int32))), .val (.int at1), .val (.int en)] [] ((own_F1 tk tw cs ss ts nx ld D B n i0 hb) ++ [(.inr .int, hv)]) := by
  induction R with
  | nil =>
    intro pst hX kk
    have hl := congrArg List.length hX
    simp only [List.length_append, List.reverse_nil, List.length_nil] at hl
    have h1 : (Int32.ofNat (pre.length + ([] : List Int32).length) - (1 : Int32)) < (Int32.ofNat pre.length) := own_mlt (by simp) (by omega)
    refine own_ks.go (mt := own_m8) rfl 4 (pc' := 109) (L' := [.val (.ref 2), .val (.int m), .val (.ref 13), .val (.int (Int32.ofNat (pre.length + ([] : List Int32).length) - (1 : Int32))), .val (.int at1), .val (.int en)]) (S' := [.int m, .ref 6, .int (Int32.ofNat (pre.length + ([] : List Int32).length) - (1 : Int32))]) (H' := ((own_F1 tk tw cs ss ts nx ld D B n i0 hb) ++ [(.inr .int, hv)])) rfl ?_
    refine own_ks.iaload (mt := own_m8) rfl (t := 110) (a := 6) (v := .int (Int32.ofNat pre.length)) rfl rfl hm (own_iv_get hss) ?_
    refine own_ks.br2 (mt := own_m8) rfl (cd := .lt) (t := 129) (b := true) (pc' := 129) rfl (tlt h1).1 rfl ?_
    exact kk pst hX
  | cons r R ih =>
    intro pst hX kk
    have hX2 : ts = pre ++ (R.reverse ++ (r :: pst)) := by rw [hX]; simp
    have hr : ts[pre.length + R.length]? = some r := by rw [hX2]; exact own_runat _ _ _ _
    have hl := congrArg List.length hX2
    simp only [List.length_append, List.length_reverse, List.length_cons] at hl
    rw [show pre.length + (r :: R).length = (pre.length + R.length) + 1 from rfl]
    have h1 : ¬ ((Int32.ofNat ((pre.length + R.length) + 1) - (1 : Int32)) < (Int32.ofNat pre.length)) := own_mnlt (by omega) (by omega)
    by_cases hy : r = (-1 : Int32)
    · refine own_ks.go (mt := own_m8) rfl 4 (pc' := 109) (L' := [.val (.ref 2), .val (.int m), .val (.ref 13), .val (.int (Int32.ofNat ((pre.length + R.length) + 1) - (1 : Int32))), .val (.int at1), .val (.int en)]) (S' := [.int m, .ref 6, .int (Int32.ofNat ((pre.length + R.length) + 1) - (1 : Int32))]) (H' := ((own_F1 tk tw cs ss ts nx ld D B n i0 hb) ++ [(.inr .int, hv)])) rfl ?_
      refine own_ks.iaload (mt := own_m8) rfl (t := 110) (a := 6) (v := .int (Int32.ofNat pre.length)) rfl rfl hm (own_iv_get hss) ?_
      refine own_ks.br2 (mt := own_m8) rfl (cd := .lt) (t := 129) (b := false) (pc' := 113) rfl (flt h1).1 rfl ?_
      refine own_ks.go (mt := own_m8) rfl 3 (pc' := 118) (L' := [.val (.ref 2), .val (.int m), .val (.ref 13), .val (.int (Int32.ofNat ((pre.length + R.length) + 1) - (1 : Int32))), .val (.int at1), .val (.int en)]) (S' := [.int (Int32.ofNat ((pre.length + R.length) + 1) - (1 : Int32)), .ref 7]) (H' := ((own_F1 tk tw cs ss ts nx ld D B n i0 hb) ++ [(.inr .int, hv)])) rfl ?_
      refine own_ks.iaload (mt := own_m8) rfl (t := 119) (a := 7) (v := .int r) rfl rfl (own_ixm (by omega)) (own_iv_get hr) ?_
      refine own_ks.go (mt := own_m8) rfl 1 (pc' := 120) (L' := [.val (.ref 2), .val (.int m), .val (.ref 13), .val (.int (Int32.ofNat ((pre.length + R.length) + 1) - (1 : Int32))), .val (.int at1), .val (.int en)]) (S' := [.int (-1 : Int32), .int r]) (H' := ((own_F1 tk tw cs ss ts nx ld D B n i0 hb) ++ [(.inr .int, hv)])) rfl ?_
      refine own_ks.br2 (mt := own_m8) rfl (cd := .ne) (t := 129) (b := false) (pc' := 123) rfl (teq hy).2 rfl ?_
      refine own_ks.go (mt := own_m8) rfl 2 (pc' := 103) (L' := [.val (.ref 2), .val (.int m), .val (.ref 13), .val (.int ((Int32.ofNat ((pre.length + R.length) + 1) - (1 : Int32)) + (-1 : Int32))), .val (.int at1), .val (.int en)]) (S' := []) (H' := ((own_F1 tk tw cs ss ts nx ld D B n i0 hb) ++ [(.inr .int, hv)])) rfl ?_
      rw [own_mdec (k := pre.length + R.length) (by omega)]
      exact ih (r :: pst) hX2 (by rw [own_skn hy] at kk; exact kk)
    · refine own_ks.go (mt := own_m8) rfl 4 (pc' := 109) (L' := [.val (.ref 2), .val (.int m), .val (.ref 13), .val (.int (Int32.ofNat ((pre.length + R.length) + 1) - (1 : Int32))), .val (.int at1), .val (.int en)]) (S' := [.int m, .ref 6, .int (Int32.ofNat ((pre.length + R.length) + 1) - (1 : Int32))]) (H' := ((own_F1 tk tw cs ss ts nx ld D B n i0 hb) ++ [(.inr .int, hv)])) rfl ?_
      refine own_ks.iaload (mt := own_m8) rfl (t := 110) (a := 6) (v := .int (Int32.ofNat pre.length)) rfl rfl hm (own_iv_get hss) ?_
      refine own_ks.br2 (mt := own_m8) rfl (cd := .lt) (t := 129) (b := false) (pc' := 113) rfl (flt h1).1 rfl ?_
      refine own_ks.go (mt := own_m8) rfl 3 (pc' := 118) (L' := [.val (.ref 2), .val (.int m), .val (.ref 13), .val (.int (Int32.ofNat ((pre.length + R.length) + 1) - (1 : Int32))), .val (.int at1), .val (.int en)]) (S' := [.int (Int32.ofNat ((pre.length + R.length) + 1) - (1 : Int32)), .ref 7]) (H' := ((own_F1 tk tw cs ss ts nx ld D B n i0 hb) ++ [(.inr .int, hv)])) rfl ?_
      refine own_ks.iaload (mt := own_m8) rfl (t := 119) (a := 7) (v := .int r) rfl rfl (own_ixm (by omega)) (own_iv_get hr) ?_
      refine own_ks.go (mt := own_m8) rfl 1 (pc' := 120) (L' := [.val (.ref 2), .val (.int m), .val (.ref 13), .val (.int (Int32.ofNat ((pre.length + R.length) + 1) - (1 : Int32))), .val (.int at1), .val (.int en)]) (S' := [.int (-1 : Int32), .int r]) (H' := ((own_F1 tk tw cs ss ts nx ld D B n i0 hb) ++ [(.inr .int, hv)])) rfl ?_
      refine own_ks.br2 (mt := own_m8) rfl (cd := .ne) (t := 129) (b := true) (pc' := 129) rfl (feq hy).2 rfl ?_
      rw [own_skp hy] at kk
      exact kk pst hX
set_option maxRecDepth 100000 in
set_option maxHeartbeats 4000000 in
theorem own_lmg (tk tw cs ss ts nx ld D B : List Int32) (n i0 hb : Int32) (m : Int32) (qm : Nat) (pre : List Int32) (hm : own_ix m = some qm) (hss : ss[qm]? = some (Int32.ofNat pre.length)) (h6 : ts.length ≤ 6) (hD : D.length = 16) (hB : B.length = 16) : ∀ (n1 : Nat) (R ds pst done : List Int32) (at1 : Int32) (kc : Nat), n1 ≤ 20 → kc ≤ 16 → ts = pre ++ (R.reverse ++ pst) → own_chain D B kc at1 ds → (own_mgl n1 R ds).length = n1 →
    own_ks own_P (fun w G => w = some (.ref 13) ∧ G = ((own_F1 tk tw cs ss ts nx ld D B n i0 hb) ++ [(.inr .int, own_iv ((own_mgl n1 R ds).reverse ++ done))])) [] 8 6 159 98 [.val (.ref 2), .val (.int m), .val (.ref 13), .val (.int (Int32.ofNat (pre.length + R.length) - (1 : Int32))), .val (.int at1), .val (.int (Int32.ofNat n1 - (1 : Int32)))] [] ((own_F1 tk tw cs ss ts nx ld D B n i0 hb) ++ [(.inr .int, own_iv (List.replicate n1 0 ++ done))]) := by
  intro n1
  induction n1 with
  | zero =>
    intro R ds pst done at1 kc hn20 hkc hX hch hml
    have h1 : (Int32.ofNat 0 - (1 : Int32)) < (0 : Int32) := by decide
    refine own_ks.go (mt := own_m8) rfl 1 (pc' := 100) (L' := [.val (.ref 2), .val (.int m), .val (.ref 13), .val (.int (Int32.ofNat (pre.length + R.length) - (1 : Int32))), .val (.int at1), .val (.int (Int32.ofNat 0 - (1 : Int32)))]) (S' := [.int (Int32.ofNat 0 - (1 : Int32))]) (H' := ((own_F1 tk tw cs ss ts nx ld D B n i0 hb) ++ [(.inr .int, (own_iv (List.replicate 0 0 ++ done)))])) rfl ?_
    refine own_ks.br1 (mt := own_m8) rfl (cd := .lt) (t := 202) (b := true) (pc' := 202) rfl ((if0 _ _).trans (tlt h1).1) rfl ?_
    refine own_ks.go (mt := own_m8) rfl 1 (pc' := 203) (L' := [.val (.ref 2), .val (.int m), .val (.ref 13), .val (.int (Int32.ofNat (pre.length + R.length) - (1 : Int32))), .val (.int at1), .val (.int (Int32.ofNat 0 - (1 : Int32)))]) (S' := [.ref 13]) (H' := ((own_F1 tk tw cs ss ts nx ld D B n i0 hb) ++ [(.inr .int, (own_iv (List.replicate 0 0 ++ done)))])) rfl ?_
    exact own_ks.ret (mt := own_m8) rfl (ins := .areturn) (t := 204) (v := some (.ref 13)) rfl rfl ⟨rfl, rfl⟩
  | succ n1 ih =>
    intro R ds pst done at1 kc hn20 hkc hX hch hml
    have h1 : ¬ ((Int32.ofNat (n1 + 1) - (1 : Int32)) < (0 : Int32)) := own_mn0 (by omega)
    refine own_ks.go (mt := own_m8) rfl 1 (pc' := 100) (L' := [.val (.ref 2), .val (.int m), .val (.ref 13), .val (.int (Int32.ofNat (pre.length + R.length) - (1 : Int32))), .val (.int at1), .val (.int (Int32.ofNat (n1 + 1) - (1 : Int32)))]) (S' := [.int (Int32.ofNat (n1 + 1) - (1 : Int32))]) (H' := ((own_F1 tk tw cs ss ts nx ld D B n i0 hb) ++ [(.inr .int, (own_iv (List.replicate (n1 + 1) 0 ++ done)))])) rfl ?_
    refine own_ks.br1 (mt := own_m8) rfl (cd := .lt) (t := 202) (b := false) (pc' := 103) rfl ((if0 _ _).trans (flt h1).1) rfl ?_
    refine own_lsk tk tw cs ss ts nx ld D B n i0 hb m qm pre hm hss h6 _ _ at1 (Int32.ofNat (n1 + 1) - (1 : Int32)) R pst hX ?_
    intro pst2 hX2
    clear hX
    have hmg : own_mgl (n1 + 1) R ds = own_mgF (own_mgl n1) (own_sk R) ds := rfl
    rw [hmg] at hml ⊢
    generalize own_sk R = R1 at *
    have hl := congrArg List.length hX2
    simp only [List.length_append, List.length_reverse] at hl
    cases ds with
    | nil =>
      cases R1 with
      | nil => exact absurd hml (by simp [own_mgF])
      | cons r R2 =>
        have hX3 : ts = pre ++ (R2.reverse ++ (r :: pst2)) := by rw [hX2]; simp
        have hr : ts[pre.length + R2.length]? = some r := by rw [hX3]; exact own_runat _ _ _ _
        have hat : at1 = (-1 : Int32) := hch
        subst hat
        simp only [List.length_cons] at hl
        rw [show pre.length + (r :: R2).length = (pre.length + R2.length) + 1 from rfl]
        refine own_ks.go (mt := own_m8) rfl 8 (pc' := 194) (L' := [.val (.ref 2), .val (.int m), .val (.ref 13), .val (.int ((Int32.ofNat ((pre.length + R2.length) + 1) - (1 : Int32)) + (-1 : Int32))), .val (.int (-1 : Int32)), .val (.int (Int32.ofNat (n1 + 1) - (1 : Int32)))]) (S' := [.int (Int32.ofNat ((pre.length + R2.length) + 1) - (1 : Int32)), .ref 7, .int (Int32.ofNat (n1 + 1) - (1 : Int32)), .ref 13]) (H' := ((own_F1 tk tw cs ss ts nx ld D B n i0 hb) ++ [(.inr .int, (own_iv (List.replicate (n1 + 1) 0 ++ done)))])) rfl ?_
        refine own_ks.iaload (mt := own_m8) rfl (t := 195) (a := 7) (v := .int r) rfl rfl (own_ixm (by omega)) (own_iv_get hr) ?_
        refine own_ks.iastore (mt := own_m8) rfl (t := 196) (a := 13) (H' := ((own_F1 tk tw cs ss ts nx ld D B n i0 hb) ++ [(.inr .int, (own_iv (List.replicate n1 0 ++ (r :: done))))])) rfl rfl (own_ixm (by omega)) (own_lt' (by rw [List.length_append, List.length_replicate]; omega)) (by rw [own_iv_set, own_srep]; rfl) ?_
        refine own_ks.go (mt := own_m8) rfl 2 (pc' := 98) (L' := [.val (.ref 2), .val (.int m), .val (.ref 13), .val (.int ((Int32.ofNat ((pre.length + R2.length) + 1) - (1 : Int32)) + (-1 : Int32))), .val (.int (-1 : Int32)), .val (.int ((Int32.ofNat (n1 + 1) - (1 : Int32)) + (-1 : Int32)))]) (S' := []) (H' := ((own_F1 tk tw cs ss ts nx ld D B n i0 hb) ++ [(.inr .int, (own_iv (List.replicate n1 0 ++ (r :: done))))])) rfl ?_
        rw [own_mdec (k := n1) (by omega), own_mdec (k := pre.length + R2.length) (by omega)]
        have k := ih R2 [] (r :: pst2) (r :: done) (-1 : Int32) kc (by omega) (by omega) hX3 hch (by simpa [own_mgF] using hml)
        simp only [own_mgF, List.reverse_cons, List.append_assoc, List.singleton_append] at k ⊢
        exact k
    | cons dv ds2 =>
      obtain ⟨jn, hjk, hje, hdv, at2, hat2, hch2⟩ := hch
      subst hje
      have h2 : ¬ ((Int32.ofNat jn) < (0 : Int32)) := own_on0 (by omega)
      cases R1 with
      | nil =>
        have h3 : (Int32.ofNat (pre.length + ([] : List Int32).length) - (1 : Int32)) < (Int32.ofNat pre.length) := own_mlt (by simp) (by simp at hl ⊢; omega)
        refine own_ks.go (mt := own_m8) rfl 1 (pc' := 131) (L' := [.val (.ref 2), .val (.int m), .val (.ref 13), .val (.int (Int32.ofNat (pre.length + ([] : List Int32).length) - (1 : Int32))), .val (.int (Int32.ofNat jn)), .val (.int (Int32.ofNat (n1 + 1) - (1 : Int32)))]) (S' := [.int (Int32.ofNat jn)]) (H' := ((own_F1 tk tw cs ss ts nx ld D B n i0 hb) ++ [(.inr .int, (own_iv (List.replicate (n1 + 1) 0 ++ done)))])) rfl ?_
        refine own_ks.br1 (mt := own_m8) rfl (cd := .lt) (t := 183) (b := false) (pc' := 134) rfl ((if0 _ _).trans (flt h2).1) rfl ?_
        refine own_ks.go (mt := own_m8) rfl 4 (pc' := 140) (L' := [.val (.ref 2), .val (.int m), .val (.ref 13), .val (.int (Int32.ofNat (pre.length + ([] : List Int32).length) - (1 : Int32))), .val (.int (Int32.ofNat jn)), .val (.int (Int32.ofNat (n1 + 1) - (1 : Int32)))]) (S' := [.int m, .ref 6, .int (Int32.ofNat (pre.length + ([] : List Int32).length) - (1 : Int32))]) (H' := ((own_F1 tk tw cs ss ts nx ld D B n i0 hb) ++ [(.inr .int, (own_iv (List.replicate (n1 + 1) 0 ++ done)))])) rfl ?_
        refine own_ks.iaload (mt := own_m8) rfl (t := 141) (a := 6) (v := .int (Int32.ofNat pre.length)) rfl rfl hm (own_iv_get hss) ?_
        refine own_ks.br2 (mt := own_m8) rfl (cd := .lt) (t := 160) (b := true) (pc' := 160) rfl (tlt h3).1 rfl ?_
        refine own_ks.go (mt := own_m8) rfl 5 (pc' := 169) (L' := [.val (.ref 2), .val (.int m), .val (.ref 13), .val (.int (Int32.ofNat (pre.length + ([] : List Int32).length) - (1 : Int32))), .val (.int (Int32.ofNat jn)), .val (.int (Int32.ofNat (n1 + 1) - (1 : Int32)))]) (S' := [.int (Int32.ofNat jn), .ref 11, .int (Int32.ofNat (n1 + 1) - (1 : Int32)), .ref 13]) (H' := ((own_F1 tk tw cs ss ts nx ld D B n i0 hb) ++ [(.inr .int, (own_iv (List.replicate (n1 + 1) 0 ++ done)))])) rfl ?_
        refine own_ks.iaload (mt := own_m8) rfl (t := 170) (a := 11) (v := .int dv) rfl rfl (own_ixo (by omega)) (own_iv_get hdv) ?_
        refine own_ks.iastore (mt := own_m8) rfl (t := 171) (a := 13) (H' := ((own_F1 tk tw cs ss ts nx ld D B n i0 hb) ++ [(.inr .int, (own_iv (List.replicate n1 0 ++ (dv :: done))))])) rfl rfl (own_ixm (by omega)) (own_lt' (by rw [List.length_append, List.length_replicate]; omega)) (by rw [own_iv_set, own_srep]; rfl) ?_
        refine own_ks.go (mt := own_m8) rfl 3 (pc' := 177) (L' := [.val (.ref 2), .val (.int m), .val (.ref 13), .val (.int (Int32.ofNat (pre.length + ([] : List Int32).length) - (1 : Int32))), .val (.int (Int32.ofNat jn)), .val (.int (Int32.ofNat (n1 + 1) - (1 : Int32)))]) (S' := [.int (Int32.ofNat jn), .ref 12]) (H' := ((own_F1 tk tw cs ss ts nx ld D B n i0 hb) ++ [(.inr .int, (own_iv (List.replicate n1 0 ++ (dv :: done))))])) rfl ?_
        refine own_ks.iaload (mt := own_m8) rfl (t := 178) (a := 12) (v := .int at2) rfl rfl (own_ixo (by omega)) (own_iv_get hat2) ?_
        refine own_ks.go (mt := own_m8) rfl 4 (pc' := 98) (L' := [.val (.ref 2), .val (.int m), .val (.ref 13), .val (.int (Int32.ofNat (pre.length + ([] : List Int32).length) - (1 : Int32))), .val (.int at2), .val (.int ((Int32.ofNat (n1 + 1) - (1 : Int32)) + (-1 : Int32)))]) (S' := []) (H' := ((own_F1 tk tw cs ss ts nx ld D B n i0 hb) ++ [(.inr .int, (own_iv (List.replicate n1 0 ++ (dv :: done))))])) rfl ?_
        rw [own_mdec (k := n1) (by omega)]
        have k := ih [] ds2 pst2 (dv :: done) at2 jn (by omega) (by omega) hX2 hch2 (by simpa [own_mgF] using hml)
        simp only [own_mgF, List.reverse_cons, List.append_assoc, List.singleton_append] at k ⊢
        exact k
      | cons r R2 =>
        have hX3 : ts = pre ++ (R2.reverse ++ (r :: pst2)) := by rw [hX2]; simp
        have hr : ts[pre.length + R2.length]? = some r := by rw [hX3]; exact own_runat _ _ _ _
        simp only [List.length_cons] at hl
        rw [show pre.length + (r :: R2).length = (pre.length + R2.length) + 1 from rfl]
        have h3 : ¬ ((Int32.ofNat ((pre.length + R2.length) + 1) - (1 : Int32)) < (Int32.ofNat pre.length)) := own_mnlt (by omega) (by omega)
        by_cases h4 : r < dv
        · refine own_ks.go (mt := own_m8) rfl 1 (pc' := 131) (L' := [.val (.ref 2), .val (.int m), .val (.ref 13), .val (.int (Int32.ofNat ((pre.length + R2.length) + 1) - (1 : Int32))), .val (.int (Int32.ofNat jn)), .val (.int (Int32.ofNat (n1 + 1) - (1 : Int32)))]) (S' := [.int (Int32.ofNat jn)]) (H' := ((own_F1 tk tw cs ss ts nx ld D B n i0 hb) ++ [(.inr .int, (own_iv (List.replicate (n1 + 1) 0 ++ done)))])) rfl ?_
          refine own_ks.br1 (mt := own_m8) rfl (cd := .lt) (t := 183) (b := false) (pc' := 134) rfl ((if0 _ _).trans (flt h2).1) rfl ?_
          refine own_ks.go (mt := own_m8) rfl 4 (pc' := 140) (L' := [.val (.ref 2), .val (.int m), .val (.ref 13), .val (.int (Int32.ofNat ((pre.length + R2.length) + 1) - (1 : Int32))), .val (.int (Int32.ofNat jn)), .val (.int (Int32.ofNat (n1 + 1) - (1 : Int32)))]) (S' := [.int m, .ref 6, .int (Int32.ofNat ((pre.length + R2.length) + 1) - (1 : Int32))]) (H' := ((own_F1 tk tw cs ss ts nx ld D B n i0 hb) ++ [(.inr .int, (own_iv (List.replicate (n1 + 1) 0 ++ done)))])) rfl ?_
          refine own_ks.iaload (mt := own_m8) rfl (t := 141) (a := 6) (v := .int (Int32.ofNat pre.length)) rfl rfl hm (own_iv_get hss) ?_
          refine own_ks.br2 (mt := own_m8) rfl (cd := .lt) (t := 160) (b := false) (pc' := 144) rfl (flt h3).1 rfl ?_
          refine own_ks.go (mt := own_m8) rfl 3 (pc' := 150) (L' := [.val (.ref 2), .val (.int m), .val (.ref 13), .val (.int (Int32.ofNat ((pre.length + R2.length) + 1) - (1 : Int32))), .val (.int (Int32.ofNat jn)), .val (.int (Int32.ofNat (n1 + 1) - (1 : Int32)))]) (S' := [.int (Int32.ofNat jn), .ref 11]) (H' := ((own_F1 tk tw cs ss ts nx ld D B n i0 hb) ++ [(.inr .int, (own_iv (List.replicate (n1 + 1) 0 ++ done)))])) rfl ?_
          refine own_ks.iaload (mt := own_m8) rfl (t := 151) (a := 11) (v := .int dv) rfl rfl (own_ixo (by omega)) (own_iv_get hdv) ?_
          refine own_ks.go (mt := own_m8) rfl 3 (pc' := 156) (L' := [.val (.ref 2), .val (.int m), .val (.ref 13), .val (.int (Int32.ofNat ((pre.length + R2.length) + 1) - (1 : Int32))), .val (.int (Int32.ofNat jn)), .val (.int (Int32.ofNat (n1 + 1) - (1 : Int32)))]) (S' := [.int (Int32.ofNat ((pre.length + R2.length) + 1) - (1 : Int32)), .ref 7, .int dv]) (H' := ((own_F1 tk tw cs ss ts nx ld D B n i0 hb) ++ [(.inr .int, (own_iv (List.replicate (n1 + 1) 0 ++ done)))])) rfl ?_
          refine own_ks.iaload (mt := own_m8) rfl (t := 157) (a := 7) (v := .int r) rfl rfl (own_ixm (by omega)) (own_iv_get hr) ?_
          refine own_ks.br2 (mt := own_m8) rfl (cd := .le) (t := 183) (b := false) (pc' := 160) rfl (tlt h4).2.2.2 rfl ?_
          refine own_ks.go (mt := own_m8) rfl 5 (pc' := 169) (L' := [.val (.ref 2), .val (.int m), .val (.ref 13), .val (.int (Int32.ofNat ((pre.length + R2.length) + 1) - (1 : Int32))), .val (.int (Int32.ofNat jn)), .val (.int (Int32.ofNat (n1 + 1) - (1 : Int32)))]) (S' := [.int (Int32.ofNat jn), .ref 11, .int (Int32.ofNat (n1 + 1) - (1 : Int32)), .ref 13]) (H' := ((own_F1 tk tw cs ss ts nx ld D B n i0 hb) ++ [(.inr .int, (own_iv (List.replicate (n1 + 1) 0 ++ done)))])) rfl ?_
          refine own_ks.iaload (mt := own_m8) rfl (t := 170) (a := 11) (v := .int dv) rfl rfl (own_ixo (by omega)) (own_iv_get hdv) ?_
          refine own_ks.iastore (mt := own_m8) rfl (t := 171) (a := 13) (H' := ((own_F1 tk tw cs ss ts nx ld D B n i0 hb) ++ [(.inr .int, (own_iv (List.replicate n1 0 ++ (dv :: done))))])) rfl rfl (own_ixm (by omega)) (own_lt' (by rw [List.length_append, List.length_replicate]; omega)) (by rw [own_iv_set, own_srep]; rfl) ?_
          refine own_ks.go (mt := own_m8) rfl 3 (pc' := 177) (L' := [.val (.ref 2), .val (.int m), .val (.ref 13), .val (.int (Int32.ofNat ((pre.length + R2.length) + 1) - (1 : Int32))), .val (.int (Int32.ofNat jn)), .val (.int (Int32.ofNat (n1 + 1) - (1 : Int32)))]) (S' := [.int (Int32.ofNat jn), .ref 12]) (H' := ((own_F1 tk tw cs ss ts nx ld D B n i0 hb) ++ [(.inr .int, (own_iv (List.replicate n1 0 ++ (dv :: done))))])) rfl ?_
          refine own_ks.iaload (mt := own_m8) rfl (t := 178) (a := 12) (v := .int at2) rfl rfl (own_ixo (by omega)) (own_iv_get hat2) ?_
          refine own_ks.go (mt := own_m8) rfl 4 (pc' := 98) (L' := [.val (.ref 2), .val (.int m), .val (.ref 13), .val (.int (Int32.ofNat ((pre.length + R2.length) + 1) - (1 : Int32))), .val (.int at2), .val (.int ((Int32.ofNat (n1 + 1) - (1 : Int32)) + (-1 : Int32)))]) (S' := []) (H' := ((own_F1 tk tw cs ss ts nx ld D B n i0 hb) ++ [(.inr .int, (own_iv (List.replicate n1 0 ++ (dv :: done))))])) rfl ?_
          rw [own_mdec (k := n1) (by omega)]
          have k := ih (r :: R2) ds2 pst2 (dv :: done) at2 jn (by omega) (by omega) hX2 hch2 (by simpa [own_mgF, h4] using hml)
          simp only [own_mgF, List.reverse_cons, List.append_assoc, List.singleton_append, if_pos h4] at k ⊢
          exact k
        · refine own_ks.go (mt := own_m8) rfl 1 (pc' := 131) (L' := [.val (.ref 2), .val (.int m), .val (.ref 13), .val (.int (Int32.ofNat ((pre.length + R2.length) + 1) - (1 : Int32))), .val (.int (Int32.ofNat jn)), .val (.int (Int32.ofNat (n1 + 1) - (1 : Int32)))]) (S' := [.int (Int32.ofNat jn)]) (H' := ((own_F1 tk tw cs ss ts nx ld D B n i0 hb) ++ [(.inr .int, (own_iv (List.replicate (n1 + 1) 0 ++ done)))])) rfl ?_
          refine own_ks.br1 (mt := own_m8) rfl (cd := .lt) (t := 183) (b := false) (pc' := 134) rfl ((if0 _ _).trans (flt h2).1) rfl ?_
          refine own_ks.go (mt := own_m8) rfl 4 (pc' := 140) (L' := [.val (.ref 2), .val (.int m), .val (.ref 13), .val (.int (Int32.ofNat ((pre.length + R2.length) + 1) - (1 : Int32))), .val (.int (Int32.ofNat jn)), .val (.int (Int32.ofNat (n1 + 1) - (1 : Int32)))]) (S' := [.int m, .ref 6, .int (Int32.ofNat ((pre.length + R2.length) + 1) - (1 : Int32))]) (H' := ((own_F1 tk tw cs ss ts nx ld D B n i0 hb) ++ [(.inr .int, (own_iv (List.replicate (n1 + 1) 0 ++ done)))])) rfl ?_
          refine own_ks.iaload (mt := own_m8) rfl (t := 141) (a := 6) (v := .int (Int32.ofNat pre.length)) rfl rfl hm (own_iv_get hss) ?_
          refine own_ks.br2 (mt := own_m8) rfl (cd := .lt) (t := 160) (b := false) (pc' := 144) rfl (flt h3).1 rfl ?_
          refine own_ks.go (mt := own_m8) rfl 3 (pc' := 150) (L' := [.val (.ref 2), .val (.int m), .val (.ref 13), .val (.int (Int32.ofNat ((pre.length + R2.length) + 1) - (1 : Int32))), .val (.int (Int32.ofNat jn)), .val (.int (Int32.ofNat (n1 + 1) - (1 : Int32)))]) (S' := [.int (Int32.ofNat jn), .ref 11]) (H' := ((own_F1 tk tw cs ss ts nx ld D B n i0 hb) ++ [(.inr .int, (own_iv (List.replicate (n1 + 1) 0 ++ done)))])) rfl ?_
          refine own_ks.iaload (mt := own_m8) rfl (t := 151) (a := 11) (v := .int dv) rfl rfl (own_ixo (by omega)) (own_iv_get hdv) ?_
          refine own_ks.go (mt := own_m8) rfl 3 (pc' := 156) (L' := [.val (.ref 2), .val (.int m), .val (.ref 13), .val (.int (Int32.ofNat ((pre.length + R2.length) + 1) - (1 : Int32))), .val (.int (Int32.ofNat jn)), .val (.int (Int32.ofNat (n1 + 1) - (1 : Int32)))]) (S' := [.int (Int32.ofNat ((pre.length + R2.length) + 1) - (1 : Int32)), .ref 7, .int dv]) (H' := ((own_F1 tk tw cs ss ts nx ld D B n i0 hb) ++ [(.inr .int, (own_iv (List.replicate (n1 + 1) 0 ++ done)))])) rfl ?_
          refine own_ks.iaload (mt := own_m8) rfl (t := 157) (a := 7) (v := .int r) rfl rfl (own_ixm (by omega)) (own_iv_get hr) ?_
          refine own_ks.br2 (mt := own_m8) rfl (cd := .le) (t := 183) (b := true) (pc' := 183) rfl (flt h4).2.2.2 rfl ?_
          refine own_ks.go (mt := own_m8) rfl 6 (pc' := 194) (L' := [.val (.ref 2), .val (.int m), .val (.ref 13), .val (.int ((Int32.ofNat ((pre.length + R2.length) + 1) - (1 : Int32)) + (-1 : Int32))), .val (.int (Int32.ofNat jn)), .val (.int (Int32.ofNat (n1 + 1) - (1 : Int32)))]) (S' := [.int (Int32.ofNat ((pre.length + R2.length) + 1) - (1 : Int32)), .ref 7, .int (Int32.ofNat (n1 + 1) - (1 : Int32)), .ref 13]) (H' := ((own_F1 tk tw cs ss ts nx ld D B n i0 hb) ++ [(.inr .int, (own_iv (List.replicate (n1 + 1) 0 ++ done)))])) rfl ?_
          refine own_ks.iaload (mt := own_m8) rfl (t := 195) (a := 7) (v := .int r) rfl rfl (own_ixm (by omega)) (own_iv_get hr) ?_
          refine own_ks.iastore (mt := own_m8) rfl (t := 196) (a := 13) (H' := ((own_F1 tk tw cs ss ts nx ld D B n i0 hb) ++ [(.inr .int, (own_iv (List.replicate n1 0 ++ (r :: done))))])) rfl rfl (own_ixm (by omega)) (own_lt' (by rw [List.length_append, List.length_replicate]; omega)) (by rw [own_iv_set, own_srep]; rfl) ?_
          refine own_ks.go (mt := own_m8) rfl 2 (pc' := 98) (L' := [.val (.ref 2), .val (.int m), .val (.ref 13), .val (.int ((Int32.ofNat ((pre.length + R2.length) + 1) - (1 : Int32)) + (-1 : Int32))), .val (.int (Int32.ofNat jn)), .val (.int ((Int32.ofNat (n1 + 1) - (1 : Int32)) + (-1 : Int32)))]) (S' := []) (H' := ((own_F1 tk tw cs ss ts nx ld D B n i0 hb) ++ [(.inr .int, (own_iv (List.replicate n1 0 ++ (r :: done))))])) rfl ?_
          rw [own_mdec (k := n1) (by omega), own_mdec (k := pre.length + R2.length) (by omega)]
          have k := ih R2 (dv :: ds2) (r :: pst2) (r :: done) (Int32.ofNat jn) kc (by omega) (by omega) hX3 (own_chI hjk hdv hat2 hch2) (by simpa [own_mgF, h4] using hml)
          simp only [own_mgF, List.reverse_cons, List.append_assoc, List.singleton_append, if_neg h4] at k ⊢
          exact k
set_option maxRecDepth 100000 in
set_option maxHeartbeats 4000000 in
theorem own_pl00 (tk tw cs ss ts nx ld : List Int32) (i0 hb : Int32) (m : Int32) (qm : Nat) (pre : List Int32) (hm : own_ix m = some qm) (hss : ss[qm]? = some (Int32.ofNat pre.length)) (h6 : ts.length ≤ 6) (qe e : Nat) (he : own_ix (m + (1 : Int32)) = some qe) (hse : ss[qe]? = some (Int32.ofNat e)) (he6 : e ≤ 6) (R pst : List Int32) (hX : ts = pre ++ (R.reverse ++ pst)) (hpe : pre.length + R.length = e) (cn : Nat) (hcn6 : cn ≤ 6) (hc : cs[qm]? = some (Int32.ofNat cn))
    (hat : ld[qm]? = some (-1 : Int32)) (hcn : cn = (R.reverse.filter own_nn).length) :
    own_run own_P 8 6 159 0 (own_entry [.ref 2, .int m] own_m8.ml) [] (own_F0 tk tw cs ss ts nx ld i0 hb) (some (.ref 11), ((own_F0 tk tw cs ss ts nx ld i0 hb) ++ [(.inr .int, (own_iv (R.reverse.filter own_nn)))])) := by
  refine own_ks_run ?_
  refine own_ks.go (mt := own_m8) rfl 3 (pc' := 5) (L' := [.val (.ref 2), .val (.int m), .unset, .unset, .unset, .unset]) (S' := [.int m, .ref 5]) (H' := (own_F0 tk tw cs ss ts nx ld i0 hb)) rfl ?_
  refine own_ks.iaload (mt := own_m8) rfl (t := 6) (a := 5) (v := .int (Int32.ofNat cn)) rfl rfl hm (own_iv_get hc) ?_
  refine own_ks.newi (mt := own_m8) rfl (t := 8) rfl (own_ixo (k := cn) (by omega)) (by decide) (by omega) ?_
  rw [own_rep_iv]
  refine own_ks.go (mt := own_m8) rfl 0 (pc' := 8) (L' := [.val (.ref 2), .val (.int m), .unset, .unset, .unset, .unset]) (S' := [.ref 11]) (H' := ((own_F0 tk tw cs ss ts nx ld i0 hb) ++ [(.inr .int, (own_iv (List.replicate cn 0)))])) rfl ?_
  refine own_ks.go (mt := own_m8) rfl 4 (pc' := 14) (L' := [.val (.ref 2), .val (.int m), .val (.ref 11), .unset, .unset, .unset]) (S' := [.int m, .ref 9]) (H' := ((own_F0 tk tw cs ss ts nx ld i0 hb) ++ [(.inr .int, (own_iv (List.replicate cn 0)))])) rfl ?_
  refine own_ks.iaload (mt := own_m8) rfl (t := 15) (a := 9) (v := .int (-1 : Int32)) rfl rfl hm (own_iv_get hat) ?_
  refine own_ks.go (mt := own_m8) rfl 6 (pc' := 25) (L' := [.val (.ref 2), .val (.int m), .val (.ref 11), .val (.int (0 : Int32)), .unset, .unset]) (S' := [.int m, .ref 6]) (H' := ((own_F0 tk tw cs ss ts nx ld i0 hb) ++ [(.inr .int, (own_iv (List.replicate cn 0)))])) rfl ?_
  refine own_ks.iaload (mt := own_m8) rfl (t := 26) (a := 6) (v := .int (Int32.ofNat pre.length)) rfl rfl hm (own_iv_get hss) ?_
  refine own_ks.go (mt := own_m8) rfl 1 (pc' := 28) (L' := [.val (.ref 2), .val (.int m), .val (.ref 11), .val (.int (0 : Int32)), .val (.int (Int32.ofNat pre.length)), .unset]) (S' := []) (H' := ((own_F0 tk tw cs ss ts nx ld i0 hb) ++ [(.inr .int, (own_iv (List.replicate cn 0)))])) rfl ?_
  have k := own_la0 tk tw cs ss ts nx ld i0 hb m qe e he hse he6 R.reverse pre pst [] hX (by rw [List.length_reverse]; exact hpe) (Nat.zero_le _)
  rw [← hcn] at k
  exact k
set_option maxRecDepth 100000 in
set_option maxHeartbeats 4000000 in
theorem own_pl10 (tk tw cs ss ts nx ld D B : List Int32) (n i0 hb : Int32) (m : Int32) (qm : Nat) (pre : List Int32) (hm : own_ix m = some qm) (hss : ss[qm]? = some (Int32.ofNat pre.length)) (h6 : ts.length ≤ 6) (qe e : Nat) (he : own_ix (m + (1 : Int32)) = some qe) (hse : ss[qe]? = some (Int32.ofNat e)) (he6 : e ≤ 6) (R pst : List Int32) (hX : ts = pre ++ (R.reverse ++ pst)) (hpe : pre.length + R.length = e) (cn : Nat) (hcn6 : cn ≤ 6) (hc : cs[qm]? = some (Int32.ofNat cn))
    (hat : ld[qm]? = some (-1 : Int32)) (hcn : cn = (R.reverse.filter own_nn).length) :
    own_run own_P 8 6 159 0 (own_entry [.ref 2, .int m] own_m8.ml) [] (own_F1 tk tw cs ss ts nx ld D B n i0 hb) (some (.ref 13), ((own_F1 tk tw cs ss ts nx ld D B n i0 hb) ++ [(.inr .int, (own_iv (R.reverse.filter own_nn)))])) := by
  refine own_ks_run ?_
  refine own_ks.go (mt := own_m8) rfl 3 (pc' := 5) (L' := [.val (.ref 2), .val (.int m), .unset, .unset, .unset, .unset]) (S' := [.int m, .ref 5]) (H' := (own_F1 tk tw cs ss ts nx ld D B n i0 hb)) rfl ?_
  refine own_ks.iaload (mt := own_m8) rfl (t := 6) (a := 5) (v := .int (Int32.ofNat cn)) rfl rfl hm (own_iv_get hc) ?_
  refine own_ks.newi (mt := own_m8) rfl (t := 8) rfl (own_ixo (k := cn) (by omega)) (by decide) (by omega) ?_
  rw [own_rep_iv]
  refine own_ks.go (mt := own_m8) rfl 0 (pc' := 8) (L' := [.val (.ref 2), .val (.int m), .unset, .unset, .unset, .unset]) (S' := [.ref 13]) (H' := ((own_F1 tk tw cs ss ts nx ld D B n i0 hb) ++ [(.inr .int, (own_iv (List.replicate cn 0)))])) rfl ?_
  refine own_ks.go (mt := own_m8) rfl 4 (pc' := 14) (L' := [.val (.ref 2), .val (.int m), .val (.ref 13), .unset, .unset, .unset]) (S' := [.int m, .ref 9]) (H' := ((own_F1 tk tw cs ss ts nx ld D B n i0 hb) ++ [(.inr .int, (own_iv (List.replicate cn 0)))])) rfl ?_
  refine own_ks.iaload (mt := own_m8) rfl (t := 15) (a := 9) (v := .int (-1 : Int32)) rfl rfl hm (own_iv_get hat) ?_
  refine own_ks.go (mt := own_m8) rfl 6 (pc' := 25) (L' := [.val (.ref 2), .val (.int m), .val (.ref 13), .val (.int (0 : Int32)), .unset, .unset]) (S' := [.int m, .ref 6]) (H' := ((own_F1 tk tw cs ss ts nx ld D B n i0 hb) ++ [(.inr .int, (own_iv (List.replicate cn 0)))])) rfl ?_
  refine own_ks.iaload (mt := own_m8) rfl (t := 26) (a := 6) (v := .int (Int32.ofNat pre.length)) rfl rfl hm (own_iv_get hss) ?_
  refine own_ks.go (mt := own_m8) rfl 1 (pc' := 28) (L' := [.val (.ref 2), .val (.int m), .val (.ref 13), .val (.int (0 : Int32)), .val (.int (Int32.ofNat pre.length)), .unset]) (S' := []) (H' := ((own_F1 tk tw cs ss ts nx ld D B n i0 hb) ++ [(.inr .int, (own_iv (List.replicate cn 0)))])) rfl ?_
  have k := own_la1 tk tw cs ss ts nx ld D B n i0 hb m qe e he hse he6 R.reverse pre pst [] hX (by rw [List.length_reverse]; exact hpe) (Nat.zero_le _)
  rw [← hcn] at k
  exact k
set_option maxRecDepth 100000 in
set_option maxHeartbeats 4000000 in
theorem own_pl11 (tk tw cs ss ts nx ld D B : List Int32) (n i0 hb : Int32) (m : Int32) (qm : Nat) (pre : List Int32) (hm : own_ix m = some qm) (hss : ss[qm]? = some (Int32.ofNat pre.length)) (h6 : ts.length ≤ 6) (qe e : Nat) (he : own_ix (m + (1 : Int32)) = some qe) (hse : ss[qe]? = some (Int32.ofNat e)) (he6 : e ≤ 6) (R pst : List Int32) (hX : ts = pre ++ (R.reverse ++ pst)) (hpe : pre.length + R.length = e) (cn : Nat) (hcn6 : cn ≤ 6) (hc : cs[qm]? = some (Int32.ofNat cn))
    (hD : D.length = 16) (hB : B.length = 16) (ds : List Int32) (at1 : Int32) (kc : Nat) (hkc : kc ≤ 16) (hat : ld[qm]? = some at1) (hat0 : ¬ (at1 < (0 : Int32))) (hch : own_chain D B kc at1 ds) (hcn : (own_mgl cn R ds).length = cn) :
    own_run own_P 8 6 159 0 (own_entry [.ref 2, .int m] own_m8.ml) [] (own_F1 tk tw cs ss ts nx ld D B n i0 hb) (some (.ref 13), ((own_F1 tk tw cs ss ts nx ld D B n i0 hb) ++ [(.inr .int, (own_iv ((own_mgl cn R ds).reverse)))])) := by
  refine own_ks_run ?_
  refine own_ks.go (mt := own_m8) rfl 3 (pc' := 5) (L' := [.val (.ref 2), .val (.int m), .unset, .unset, .unset, .unset]) (S' := [.int m, .ref 5]) (H' := (own_F1 tk tw cs ss ts nx ld D B n i0 hb)) rfl ?_
  refine own_ks.iaload (mt := own_m8) rfl (t := 6) (a := 5) (v := .int (Int32.ofNat cn)) rfl rfl hm (own_iv_get hc) ?_
  refine own_ks.newi (mt := own_m8) rfl (t := 8) rfl (own_ixo (k := cn) (by omega)) (by decide) (by omega) ?_
  rw [own_rep_iv]
  refine own_ks.go (mt := own_m8) rfl 0 (pc' := 8) (L' := [.val (.ref 2), .val (.int m), .unset, .unset, .unset, .unset]) (S' := [.ref 13]) (H' := ((own_F1 tk tw cs ss ts nx ld D B n i0 hb) ++ [(.inr .int, (own_iv (List.replicate cn 0)))])) rfl ?_
  refine own_ks.go (mt := own_m8) rfl 4 (pc' := 14) (L' := [.val (.ref 2), .val (.int m), .val (.ref 13), .unset, .unset, .unset]) (S' := [.int m, .ref 9]) (H' := ((own_F1 tk tw cs ss ts nx ld D B n i0 hb) ++ [(.inr .int, (own_iv (List.replicate cn 0)))])) rfl ?_
  refine own_ks.iaload (mt := own_m8) rfl (t := 15) (a := 9) (v := .int at1) rfl rfl hm (own_iv_get hat) ?_
  refine own_ks.br1 (mt := own_m8) rfl (cd := .ge) (t := 73) (b := true) (pc' := 73) rfl ((if0 _ _).trans (flt hat0).2.1) rfl ?_
  refine own_ks.go (mt := own_m8) rfl 5 (pc' := 80) (L' := [.val (.ref 2), .val (.int m), .val (.ref 13), .unset, .unset, .unset]) (S' := [.int (m + (1 : Int32)), .ref 6]) (H' := ((own_F1 tk tw cs ss ts nx ld D B n i0 hb) ++ [(.inr .int, (own_iv (List.replicate cn 0)))])) rfl ?_
  refine own_ks.iaload (mt := own_m8) rfl (t := 81) (a := 6) (v := .int (Int32.ofNat e)) rfl rfl he (own_iv_get hse) ?_
  refine own_ks.go (mt := own_m8) rfl 6 (pc' := 89) (L' := [.val (.ref 2), .val (.int m), .val (.ref 13), .val (.int ((Int32.ofNat e) - (1 : Int32))), .unset, .unset]) (S' := [.int m, .ref 9]) (H' := ((own_F1 tk tw cs ss ts nx ld D B n i0 hb) ++ [(.inr .int, (own_iv (List.replicate cn 0)))])) rfl ?_
  refine own_ks.iaload (mt := own_m8) rfl (t := 90) (a := 9) (v := .int at1) rfl rfl hm (own_iv_get hat) ?_
  refine own_ks.go (mt := own_m8) rfl 2 (pc' := 93) (L' := [.val (.ref 2), .val (.int m), .val (.ref 13), .val (.int ((Int32.ofNat e) - (1 : Int32))), .val (.int at1), .unset]) (S' := [.ref 13]) (H' := ((own_F1 tk tw cs ss ts nx ld D B n i0 hb) ++ [(.inr .int, (own_iv (List.replicate cn 0)))])) rfl ?_
  refine own_ks.alen (mt := own_m8) rfl (t := 94) (a := 13) (z := (Int32.ofNat cn)) rfl rfl (by rw [own_iv_len, List.length_replicate]) ?_
  refine own_ks.go (mt := own_m8) rfl 3 (pc' := 98) (L' := [.val (.ref 2), .val (.int m), .val (.ref 13), .val (.int ((Int32.ofNat e) - (1 : Int32))), .val (.int at1), .val (.int ((Int32.ofNat cn) - (1 : Int32)))]) (S' := []) (H' := ((own_F1 tk tw cs ss ts nx ld D B n i0 hb) ++ [(.inr .int, (own_iv (List.replicate cn 0)))])) rfl ?_
  have k := own_lmg tk tw cs ss ts nx ld D B n i0 hb m qm pre hm hss h6 hD hB cn R ds pst [] at1 kc (by omega) hkc hX hch hcn
  rw [hpe, List.append_nil, List.append_nil] at k
  exact k
/-! ## what the members hold, in plain lists -/
def own_rest (m : Nat) : Nat → List Nat → List Int32
  | _, [] => []
  | p, q :: qs => if q = m then Int32.ofNat p :: own_rest m (p + 1) qs else own_rest m (p + 1) qs
abbrev OZ := List Int32 × List Int32 × Int32 × Int32
def own_u (p : Nat) (z : OZ) : Nat → OZ
  | 0 => (Int32.ofNat p :: z.1, z.2.1, z.2.2.1 ||| ((1 : Int32) <<< (Int32.ofNat p &&& 31)), z.2.2.2)
  | 1 => ((-1 : Int32) :: z.1, z.2.1, z.2.2.1, z.2.2.2 - (1 : Int32))
  | 2 => (z.1, Int32.ofNat p :: z.2.1, z.2.2.1 ||| ((1 : Int32) <<< (Int32.ofNat p &&& 31)), z.2.2.2 + (1 : Int32))
  | _ => z
def own_cn : List Nat → Nat
  | [] => 0
  | k :: l => (if k < 2 then 1 else 0) + own_cn l
theorem own_rl {m p q : Nat} {qs : List Nat} (k : Nat) (h : k < 2 ↔ q = m) : (own_rest m p (q :: qs)).length = (if k < 2 then 1 else 0) + (own_rest m (p + 1) qs).length := by
  by_cases e : q = m
  · rw [if_pos (h.mpr e)]; simp only [own_rest, if_pos e, List.length_cons]; omega
  · rw [if_neg (fun x => e (h.mp x))]; simp only [own_rest, if_neg e]; omega
def own_pop (s : Int32) : Int32 := ((((((s &&& (1 : Int32)) + ((s.toUInt32 >>> ((1 : Int32) &&& 31).toUInt32).toInt32 &&& (1 : Int32))) + ((s.toUInt32 >>> ((2 : Int32) &&& 31).toUInt32).toInt32 &&& (1 : Int32))) + ((s.toUInt32 >>> ((3 : Int32) &&& 31).toUInt32).toInt32 &&& (1 : Int32))) + ((s.toUInt32 >>> ((4 : Int32) &&& 31).toUInt32).toInt32 &&& (1 : Int32))) + ((s.toUInt32 >>> ((5 : Int32) &&& 31).toUInt32).toInt32 &&& (1 : Int32)))
def own_okc (r : List Int32) (hb : Int32) (k : Nat) : Bool :=
  match r[k]? with
  | none => true
  | some v => !decide (v < (0 : Int32)) && (!decide ((5 : Int32) < v) && (!decide (((hb.toUInt32 >>> (v &&& 31).toUInt32).toInt32 &&& (1 : Int32)) = (0 : Int32)) && (Nat.beq k 0 || (match r[k - 1]? with
    | none => false
    | some w => decide (w < v)))))
def own_res (z : OZ) : List Int32 := match z.2.1 with
  | [] => z.1.reverse.filter own_nn
  | d :: ds => (own_mgl z.2.2.2.toNatClampNeg z.1 (d :: ds)).reverse
def own_bz (z : OZ) : Bool :=
  decide (z.2.2.2 = Int32.ofNat (own_res z).length) && (Nat.ble (own_res z).length 6 && (decide (Int32.ofNat (own_res z).length = own_pop z.2.2.1) && (Nat.beq (own_res z).length z.2.2.2.toNatClampNeg && (List.range 6).all fun k => own_okc (own_res z) z.2.2.1 k)))
theorem own_brute : ∀ k0 k1 k2 k3 k4 k5 : Fin 4, own_bz (own_u 5 (own_u 4 (own_u 3 (own_u 2 (own_u 1 (own_u 0 ([], [], 0, Int32.ofNat (own_cn [k0.val, k1.val, k2.val, k3.val, k4.val, k5.val])) k0.val) k1.val) k2.val) k3.val) k4.val) k5.val) = true := by decide +kernel
def own_w0 : List Int32 := [0, 0, 0]
def own_bump (w : List Int32) (q : Nat) : List Int32 := w.set q (w.getD q 0 + (1 : Int32))
theorem own_bg {w : List Int32} {q : Nat} (h : q < w.length) : w[q]? = some (w.getD q 0) := by rw [List.getD_eq_getElem?_getD, List.getElem?_eq_getElem h]; rfl
theorem own_bln {w : List Int32} {q : Nat} (h : w.length = 3) : (own_bump w q).length = 3 := by simp [own_bump, h]
def own_tk (qs : List Nat) : List Int32 := qs.map Int32.ofNat
def own_tw (qs : List Nat) : List Int32 := qs.foldl own_bump own_w0
def own_ss (qs : List Nat) : List Int32 := [0, (0 : Int32) + (own_tw qs).getD 0 0, (0 : Int32) + (own_tw qs).getD 0 0 + (own_tw qs).getD 1 0, (0 : Int32) + (own_tw qs).getD 0 0 + (own_tw qs).getD 1 0 + (own_tw qs).getD 2 0]
def own_z0 : List Int32 := [0, 0, 0, 0, 0, 0]
def own_nx0 (w : List Int32) : List Int32 := [0, (0 : Int32) + w.getD 0 0, (0 : Int32) + w.getD 0 0 + w.getD 1 0]
def own_lay (p q : Nat) (z : List Int32 × List Int32) : List Int32 × List Int32 := (z.1.set q (z.1.getD q 0 + (1 : Int32)), z.2.set (z.1.getD q 0).toNatClampNeg (Int32.ofNat p))
theorem own_lay1 {p q : Nat} {z : List Int32 × List Int32} (h : z.1.length = 3) : (own_lay p q z).1.length = 3 := by simp only [own_lay, List.length_set]; exact h
theorem own_lay2 {p q : Nat} {z : List Int32 × List Int32} (h : z.2.length = 6) : (own_lay p q z).2.length = 6 := by simp only [own_lay, List.length_set]; exact h
theorem own_ixc {x : Int32} (h : ¬ (x < (0 : Int32))) : own_ix x = some x.toNatClampNeg := if_neg h
def own_lzr : Nat → List Nat → List Int32 × List Int32 → List Int32 × List Int32
  | _, [], z => z
  | p, q :: qs, z => own_lzr (p + 1) qs (own_lay p q z)
def own_lz (qs : List Nat) : List Int32 × List Int32 := own_lzr 0 qs (own_nx0 (own_tw qs), own_z0)
def own_nx (qs : List Nat) : List Int32 := (own_lz qs).1
def own_ts (qs : List Nat) : List Int32 := (own_lz qs).2
def own_lok (q : Nat) (z : List Int32 × List Int32) : Bool := !decide (z.1.getD q 0 < (0 : Int32)) && Nat.blt (z.1.getD q 0).toNatClampNeg 6
theorem own_loks {q : Nat} {z : List Int32 × List Int32} (h : own_lok q z = true) : ¬ (z.1.getD q 0 < (0 : Int32)) ∧ (z.1.getD q 0).toNatClampNeg < 6 := by
  simp only [own_lok, Bool.and_eq_true, Bool.not_eq_true', decide_eq_false_iff_not] at h
  exact ⟨h.1, Nat.le_of_ble_eq_true h.2⟩
theorem own_lays0 : ∀ q0 q1 q2 q3 q4 q5 : Fin 3, (own_lok q0.val (own_nx0 (own_bump (own_bump (own_bump (own_bump (own_bump (own_bump own_w0 q0.val) q1.val) q2.val) q3.val) q4.val) q5.val), own_z0) && own_lok q1.val (own_lay 0 q0.val (own_nx0 (own_bump (own_bump (own_bump (own_bump (own_bump (own_bump own_w0 q0.val) q1.val) q2.val) q3.val) q4.val) q5.val), own_z0)) && own_lok q2.val (own_lay 1 q1.val (own_lay 0 q0.val (own_nx0 (own_bump (own_bump (own_bump (own_bump (own_bump (own_bump own_w0 q0.val) q1.val) q2.val) q3.val) q4.val) q5.val), own_z0))) && own_lok q3.val (own_lay 2 q2.val (own_lay 1 q1.val (own_lay 0 q0.val (own_nx0 (own_bump (own_bump (own_bump (own_bump (own_bump (own_bump own_w0 q0.val) q1.val) q2.val) q3.val) q4.val) q5.val), own_z0)))) && own_lok q4.val (own_lay 3 q3.val (own_lay 2 q2.val (own_lay 1 q1.val (own_lay 0 q0.val (own_nx0 (own_bump (own_bump (own_bump (own_bump (own_bump (own_bump own_w0 q0.val) q1.val) q2.val) q3.val) q4.val) q5.val), own_z0))))) && own_lok q5.val (own_lay 4 q4.val (own_lay 3 q3.val (own_lay 2 q2.val (own_lay 1 q1.val (own_lay 0 q0.val (own_nx0 (own_bump (own_bump (own_bump (own_bump (own_bump (own_bump own_w0 q0.val) q1.val) q2.val) q3.val) q4.val) q5.val), own_z0))))))) = true := by decide +kernel
theorem own_lays (q0 q1 q2 q3 q4 q5 : Fin 3) : (¬ ((own_nx0 (own_bump (own_bump (own_bump (own_bump (own_bump (own_bump own_w0 q0.val) q1.val) q2.val) q3.val) q4.val) q5.val), own_z0).1.getD q0.val 0 < (0 : Int32)) ∧ ((own_nx0 (own_bump (own_bump (own_bump (own_bump (own_bump (own_bump own_w0 q0.val) q1.val) q2.val) q3.val) q4.val) q5.val), own_z0).1.getD q0.val 0).toNatClampNeg < 6) ∧ (¬ ((own_lay 0 q0.val (own_nx0 (own_bump (own_bump (own_bump (own_bump (own_bump (own_bump own_w0 q0.val) q1.val) q2.val) q3.val) q4.val) q5.val), own_z0)).1.getD q1.val 0 < (0 : Int32)) ∧ ((own_lay 0 q0.val (own_nx0 (own_bump (own_bump (own_bump (own_bump (own_bump (own_bump own_w0 q0.val) q1.val) q2.val) q3.val) q4.val) q5.val), own_z0)).1.getD q1.val 0).toNatClampNeg < 6) ∧ (¬ ((own_lay 1 q1.val (own_lay 0 q0.val (own_nx0 (own_bump (own_bump (own_bump (own_bump (own_bump (own_bump own_w0 q0.val) q1.val) q2.val) q3.val) q4.val) q5.val), own_z0))).1.getD q2.val 0 < (0 : Int32)) ∧ ((own_lay 1 q1.val (own_lay 0 q0.val (own_nx0 (own_bump (own_bump (own_bump (own_bump (own_bump (own_bump own_w0 q0.val) q1.val) q2.val) q3.val) q4.val) q5.val), own_z0))).1.getD q2.val 0).toNatClampNeg < 6) ∧ (¬ ((own_lay 2 q2.val (own_lay 1 q1.val (own_lay 0 q0.val (own_nx0 (own_bump (own_bump (own_bump (own_bump (own_bump (own_bump own_w0 q0.val) q1.val) q2.val) q3.val) q4.val) q5.val), own_z0)))).1.getD q3.val 0 < (0 : Int32)) ∧ ((own_lay 2 q2.val (own_lay 1 q1.val (own_lay 0 q0.val (own_nx0 (own_bump (own_bump (own_bump (own_bump (own_bump (own_bump own_w0 q0.val) q1.val) q2.val) q3.val) q4.val) q5.val), own_z0)))).1.getD q3.val 0).toNatClampNeg < 6) ∧ (¬ ((own_lay 3 q3.val (own_lay 2 q2.val (own_lay 1 q1.val (own_lay 0 q0.val (own_nx0 (own_bump (own_bump (own_bump (own_bump (own_bump (own_bump own_w0 q0.val) q1.val) q2.val) q3.val) q4.val) q5.val), own_z0))))).1.getD q4.val 0 < (0 : Int32)) ∧ ((own_lay 3 q3.val (own_lay 2 q2.val (own_lay 1 q1.val (own_lay 0 q0.val (own_nx0 (own_bump (own_bump (own_bump (own_bump (own_bump (own_bump own_w0 q0.val) q1.val) q2.val) q3.val) q4.val) q5.val), own_z0))))).1.getD q4.val 0).toNatClampNeg < 6) ∧ (¬ ((own_lay 4 q4.val (own_lay 3 q3.val (own_lay 2 q2.val (own_lay 1 q1.val (own_lay 0 q0.val (own_nx0 (own_bump (own_bump (own_bump (own_bump (own_bump (own_bump own_w0 q0.val) q1.val) q2.val) q3.val) q4.val) q5.val), own_z0)))))).1.getD q5.val 0 < (0 : Int32)) ∧ ((own_lay 4 q4.val (own_lay 3 q3.val (own_lay 2 q2.val (own_lay 1 q1.val (own_lay 0 q0.val (own_nx0 (own_bump (own_bump (own_bump (own_bump (own_bump (own_bump own_w0 q0.val) q1.val) q2.val) q3.val) q4.val) q5.val), own_z0)))))).1.getD q5.val 0).toNatClampNeg < 6) := by
  have h := own_lays0 q0 q1 q2 q3 q4 q5
  obtain ⟨h, h5⟩ := Bool.and_eq_true_iff.mp h
  obtain ⟨h, h4⟩ := Bool.and_eq_true_iff.mp h
  obtain ⟨h, h3⟩ := Bool.and_eq_true_iff.mp h
  obtain ⟨h, h2⟩ := Bool.and_eq_true_iff.mp h
  obtain ⟨h0, h1⟩ := Bool.and_eq_true_iff.mp h
  exact ⟨own_loks h0, own_loks h1, own_loks h2, own_loks h3, own_loks h4, own_loks h5⟩
def own_pre (m : Nat) (qs : List Nat) : List Int32 := match m with
  | 0 => []
  | 1 => own_rest 0 0 qs
  | _ => own_rest 0 0 qs ++ own_rest 1 0 qs
def own_pst (m : Nat) (qs : List Nat) : List Int32 := match m with
  | 0 => own_rest 1 0 qs ++ own_rest 2 0 qs
  | 1 => own_rest 2 0 qs
  | _ => []
theorem own_ini : ∀ q0 q1 q2 q3 q4 q5 m : Fin 3, own_ts [q0.val, q1.val, q2.val, q3.val, q4.val, q5.val] = own_pre m.val [q0.val, q1.val, q2.val, q3.val, q4.val, q5.val] ++ (own_rest m.val 0 [q0.val, q1.val, q2.val, q3.val, q4.val, q5.val] ++ own_pst m.val [q0.val, q1.val, q2.val, q3.val, q4.val, q5.val])
    ∧ (own_ss [q0.val, q1.val, q2.val, q3.val, q4.val, q5.val])[m.val]? = some (Int32.ofNat (own_pre m.val [q0.val, q1.val, q2.val, q3.val, q4.val, q5.val]).length)
    ∧ (own_ss [q0.val, q1.val, q2.val, q3.val, q4.val, q5.val])[m.val + 1]? = some (Int32.ofNat ((own_pre m.val [q0.val, q1.val, q2.val, q3.val, q4.val, q5.val]).length + (own_rest m.val 0 [q0.val, q1.val, q2.val, q3.val, q4.val, q5.val]).length))
    ∧ (own_tw [q0.val, q1.val, q2.val, q3.val, q4.val, q5.val])[m.val]? = some (Int32.ofNat (own_rest m.val 0 [q0.val, q1.val, q2.val, q3.val, q4.val, q5.val]).length)
    ∧ (own_ts [q0.val, q1.val, q2.val, q3.val, q4.val, q5.val]).length = 6 ∧ (own_tw [q0.val, q1.val, q2.val, q3.val, q4.val, q5.val]).length = 3 ∧ (own_nx [q0.val, q1.val, q2.val, q3.val, q4.val, q5.val]).length = 3 := by decide +kernel
/-! ## what stands in the heap between the law's steps -/
def own_J (tk tw ss nx pre post : List Int32) (qm : Nat) (rest : List Int32) (z : OZ) (N : Nat) (H : OHeap) : Prop :=
  ∃ cs ld ts : List Int32, cs.length = 3 ∧ ld.length = 3 ∧ cs[qm]? = some z.2.2.2 ∧ ts = pre ++ (z.1.reverse ++ (rest ++ post)) ∧ ts.length = 6 ∧
    ((H = own_F0 tk tw cs ss ts nx ld (Int32.ofNat z.1.length) z.2.2.1 ∧ z.2.1 = [] ∧ ld[qm]? = some (-1 : Int32)) ∨
     ∃ (D B : List Int32) (n : Nat) (a : Int32), H = own_F1 tk tw cs ss ts nx ld D B (Int32.ofNat n) (Int32.ofNat z.1.length) z.2.2.1 ∧ D.length = 16 ∧ B.length = 16 ∧ n ≤ N ∧ ld[qm]? = some a ∧ own_chain D B n a z.2.1)
section OwnJ
variable {tk tw ss nx pre post rest cs ld ts R ds : List Int32} {qm N : Nat} {hb c i0 : Int32}
theorem own_J0 (h1 : cs.length = 3) (h2 : ld.length = 3) (h3 : cs[qm]? = some c) (h4 : ts = pre ++ (R.reverse ++ (rest ++ post))) (h5 : ts.length = 6) (h6 : i0 = Int32.ofNat R.length) (h7 : ld[qm]? = some (-1 : Int32)) :
    own_J tk tw ss nx pre post qm rest (R, [], hb, c) N (own_F0 tk tw cs ss ts nx ld i0 hb) := by
  subst h6
  exact ⟨cs, ld, ts, h1, h2, h3, h4, h5, Or.inl ⟨rfl, rfl, h7⟩⟩
theorem own_J1 {D B : List Int32} {n : Nat} {a nn : Int32} (h1 : cs.length = 3) (h2 : ld.length = 3) (h3 : cs[qm]? = some c) (h4 : ts = pre ++ (R.reverse ++ (rest ++ post))) (h5 : ts.length = 6) (h6 : i0 = Int32.ofNat R.length) (h7 : nn = Int32.ofNat n) (h8 : D.length = 16) (h9 : B.length = 16) (h10 : n ≤ N) (h11 : ld[qm]? = some a) (h12 : own_chain D B n a ds) :
    own_J tk tw ss nx pre post qm rest (R, ds, hb, c) N (own_F1 tk tw cs ss ts nx ld D B nn i0 hb) := by
  subst h6 h7
  exact ⟨cs, ld, ts, h1, h2, h3, h4, h5, Or.inr ⟨D, B, n, a, rfl, h8, h9, h10, h11, h12⟩⟩
end OwnJ
theorem own_sl3 {l : List Int32} {q : Nat} {v : Int32} (h : l.length = 3) : (l.set q v).length = 3 := by rw [List.length_set]; exact h
theorem own_sl16 {l : List Int32} {q : Nat} {v : Int32} (h : l.length = 16) : (l.set q v).length = 16 := by rw [List.length_set]; exact h
theorem own_gs {l : List Int32} {q : Nat} {v : Int32} (h : q < l.length) : (l.set q v)[q]? = some v := by rw [List.getElem?_set_self h]
theorem own_gn {l : List Int32} {p q : Nat} {v : Int32} {o : Option Int32} (hn : p ≠ q) (h : l[q]? = o) : (l.set p v)[q]? = o := by rw [List.getElem?_set_ne hn]; exact h
theorem own_gx {l : List Int32} {q : Nat} (h : q < l.length) : ∃ v, l[q]? = some v := ⟨l[q], List.getElem?_eq_getElem h⟩
set_option maxRecDepth 100000 in
set_option maxHeartbeats 4000000 in
theorem own_stepJ (tk tw ss nx pre post : List Int32) (b : Int32) (qm qo p q : Nat) (qs : List Nat) (hqm : qm < 3) (hqo : qo < 3) (hne : qo ≠ qm) (hss : ss[qm]? = some (Int32.ofNat pre.length)) (hq : q < 3) (hp6 : p < 6) (ht : tk[p]? = some (Int32.ofNat q)) (z : OZ) (H : OHeap)
    (hJ : own_J tk tw ss nx pre post qm (own_rest qm p (q :: qs)) z p H) :
    ∃ (k : Nat) (z' : OZ) (H' : OHeap), k < 4 ∧ (k < 2 ↔ q = qm) ∧ z' = own_u p z k ∧ own_run own_P 7 6 156 0 (own_entry [.ref 2, .ref 0, .int b, .int (Int32.ofNat qm), .int (Int32.ofNat qo), .int (Int32.ofNat p), .ref 10] own_m7.ml) [] H (none, H') ∧
      own_J tk tw ss nx pre post qm (own_rest qm (p + 1) qs) z' (p + 1) H' := by
  obtain ⟨R, ds, hb, c⟩ := z
  obtain ⟨cs, ld, ts, hc3, hl3, hcm, hts, h6, hF⟩ := hJ
  dsimp only at hcm hts hF
  have hp := own_ixo (k := p) (by omega)
  have hmx := own_ixo (k := qm) (by omega)
  have hox := own_ixo (k := qo) (by omega)
  have hlen := h6
  rw [hts] at hlen
  simp only [List.length_append, List.length_reverse] at hlen
  by_cases hqq : q = qm
  · have htm : Int32.ofNat q = Int32.ofNat qm := by rw [hqq]
    have hre : own_rest qm p (q :: qs) = Int32.ofNat p :: own_rest qm (p + 1) qs := if_pos hqq
    rw [hre] at hts hlen
    simp only [List.length_cons] at hlen
    have hix : own_ix (Int32.ofNat pre.length + Int32.ofNat R.length) = some (pre.length + R.length) := by rw [← Int32.ofNat_add]; exact own_ixo (by omega)
    have hlt : pre.length + R.length < ts.length := by rw [h6]; omega
    by_cases hx1 : (((b.toUInt32 >>> (((2 : Int32) * Int32.ofNat p) &&& 31).toUInt32).toInt32 &&& (3 : Int32)) &&& (1 : Int32)) = (0 : Int32)
    · have hk : ts = pre ++ ((Int32.ofNat p :: R).reverse ++ (own_rest qm (p + 1) qs ++ post)) := by rw [hts]; simp
      rcases hF with ⟨rfl, rfl, hld⟩ | ⟨D, B, n, a, rfl, hD, hB, hn, hla, hch⟩
      · exact ⟨0, (Int32.ofNat p :: R, [], _, c), _, by decide, ⟨fun _ => hqq, fun _ => by decide⟩, rfl, own_st0_K tk tw cs ss ts nx ld (Int32.ofNat R.length) hb b (Int32.ofNat qm) (Int32.ofNat qo) (Int32.ofNat p) (Int32.ofNat q) p hp ht htm hx1, own_J0 hc3 hl3 hcm hk h6 (own_s1 _) hld⟩
      · exact ⟨0, (Int32.ofNat p :: R, ds, _, c), _, by decide, ⟨fun _ => hqq, fun _ => by decide⟩, rfl, own_st1_K tk tw cs ss ts nx ld D B (Int32.ofNat n) (Int32.ofNat R.length) hb b (Int32.ofNat qm) (Int32.ofNat qo) (Int32.ofNat p) (Int32.ofNat q) p hp ht htm hx1, own_J1 hc3 hl3 hcm hk h6 (own_s1 _) rfl hD hB (by omega) hla hch⟩
    · have hk : ts.set (pre.length + R.length) (-1 : Int32) = pre ++ (((-1 : Int32) :: R).reverse ++ (own_rest qm (p + 1) qs ++ post)) := by rw [hts]; exact own_runset _ _ _ _ _ _
      have h6' : (ts.set (pre.length + R.length) (-1 : Int32)).length = 6 := by rw [List.length_set]; exact h6
      have hcm' : (cs.set qm (c - (1 : Int32)))[qm]? = some (c - (1 : Int32)) := own_gs (by omega)
      by_cases hx3 : ((b.toUInt32 >>> (((2 : Int32) * Int32.ofNat p) &&& 31).toUInt32).toInt32 &&& (3 : Int32)) = (3 : Int32)
      · obtain ⟨dl, hdl⟩ := own_gx (l := ld) (q := qo) (by omega)
        obtain ⟨dc, hdc⟩ := own_gx (l := cs.set qm (c - (1 : Int32))) (q := qo) (by rw [own_sl3 hc3]; exact hqo)
        rcases hF with ⟨rfl, rfl, hld⟩ | ⟨D, B, n, a, rfl, hD, hB, hn, hla, hch⟩
        · exact ⟨1, ((-1 : Int32) :: R, [], hb, c - (1 : Int32)), _, by decide, ⟨fun _ => hqq, fun _ => by decide⟩, rfl, own_st0_GO tk tw cs ss ts nx ld (Int32.ofNat R.length) hb b (Int32.ofNat qm) (Int32.ofNat qo) (Int32.ofNat p) (Int32.ofNat q) p hp ht htm hx1 hx3 (Int32.ofNat pre.length) c qm (pre.length + R.length) hmx hss hix hlt hcm dl dc qo hox hdl hdc,
            own_J1 (n := 1) (own_sl3 (own_sl3 hc3)) (own_sl3 hl3) (own_gn hne hcm') hk h6' (own_s1 _) rfl rfl rfl (by omega) (own_gn hne hld) rfl⟩
        · exact ⟨1, ((-1 : Int32) :: R, ds, hb, c - (1 : Int32)), _, by decide, ⟨fun _ => hqq, fun _ => by decide⟩, rfl, own_st1_GO tk tw cs ss ts nx ld D B (Int32.ofNat n) (Int32.ofNat R.length) hb b (Int32.ofNat qm) (Int32.ofNat qo) (Int32.ofNat p) (Int32.ofNat q) p hp ht htm hx1 hx3 (Int32.ofNat pre.length) c qm (pre.length + R.length) hmx hss hix hlt hcm dl dc qo hox hdl hdc n (own_ixo (by omega)) (by omega) (own_n160 n (by omega)) hD hB,
            own_J1 (n := n + 1) (own_sl3 (own_sl3 hc3)) (own_sl3 hl3) (own_gn hne hcm') hk h6' (own_s1 _) (own_s1 _) (own_sl16 hD) (own_sl16 hB) (by omega) (own_gn hne hla) (own_chS n _ _ ds n (n + 1) a (Nat.le_refl _) (by omega) hch)⟩
      · rcases hF with ⟨rfl, rfl, hld⟩ | ⟨D, B, n, a, rfl, hD, hB, hn, hla, hch⟩
        · exact ⟨1, ((-1 : Int32) :: R, [], hb, c - (1 : Int32)), _, by decide, ⟨fun _ => hqq, fun _ => by decide⟩, rfl, own_st0_G tk tw cs ss ts nx ld (Int32.ofNat R.length) hb b (Int32.ofNat qm) (Int32.ofNat qo) (Int32.ofNat p) (Int32.ofNat q) p hp ht htm hx1 hx3 (Int32.ofNat pre.length) c qm (pre.length + R.length) hmx hss hix hlt hcm,
            own_J0 (own_sl3 hc3) hl3 hcm' hk h6' (own_s1 _) hld⟩
        · exact ⟨1, ((-1 : Int32) :: R, ds, hb, c - (1 : Int32)), _, by decide, ⟨fun _ => hqq, fun _ => by decide⟩, rfl, own_st1_G tk tw cs ss ts nx ld D B (Int32.ofNat n) (Int32.ofNat R.length) hb b (Int32.ofNat qm) (Int32.ofNat qo) (Int32.ofNat p) (Int32.ofNat q) p hp ht htm hx1 hx3 (Int32.ofNat pre.length) c qm (pre.length + R.length) hmx hss hix hlt hcm,
            own_J1 (own_sl3 hc3) hl3 hcm' hk h6' (own_s1 _) rfl hD hB (by omega) hla hch⟩
  · have htm : ¬ (Int32.ofNat q = Int32.ofNat qm) := fun h => hqq (own_oeq0 q (by omega) qm (by omega) h)
    have hre : own_rest qm p (q :: qs) = own_rest qm (p + 1) qs := if_neg hqq
    rw [hre] at hts
    have hk3 : ∀ k, 2 ≤ k → (k < 2 ↔ q = qm) := fun k hk => ⟨fun h => absurd h (by omega), fun h => absurd h hqq⟩
    by_cases hx1 : ((b.toUInt32 >>> (((2 : Int32) * Int32.ofNat p) &&& 31).toUInt32).toInt32 &&& (3 : Int32)) = (1 : Int32)
    · rcases hF with ⟨rfl, rfl, hld⟩ | ⟨D, B, n, a, rfl, hD, hB, hn, hla, hch⟩
      · exact ⟨2, (R, [Int32.ofNat p], _, c + (1 : Int32)), _, by decide, hk3 2 (by decide), rfl, own_st0_D tk tw cs ss ts nx ld (Int32.ofNat R.length) hb b (Int32.ofNat qm) (Int32.ofNat qo) (Int32.ofNat p) (Int32.ofNat q) p hp ht htm hx1 (-1 : Int32) c qm hmx hld hcm,
          own_J1 (n := 1) (own_sl3 hc3) (own_sl3 hl3) (own_gs (by omega)) hts h6 rfl rfl rfl rfl (by omega) (own_gs (by omega)) (own_chI (j := 0) (a2 := -1) (by decide) rfl rfl rfl)⟩
      · exact ⟨2, (R, Int32.ofNat p :: ds, _, c + (1 : Int32)), _, by decide, hk3 2 (by decide), rfl, own_st1_D tk tw cs ss ts nx ld D B (Int32.ofNat n) (Int32.ofNat R.length) hb b (Int32.ofNat qm) (Int32.ofNat qo) (Int32.ofNat p) (Int32.ofNat q) p hp ht htm hx1 a c qm hmx hla hcm n (own_ixo (by omega)) (by omega) (own_n160 n (by omega)) hD hB,
          own_J1 (n := n + 1) (own_sl3 hc3) (own_sl3 hl3) (own_gs (by omega)) hts h6 rfl (own_s1 _) (own_sl16 hD) (own_sl16 hB) (by omega) (own_gs (by omega)) (own_chI (Nat.lt_succ_self n) (own_gs (by omega)) (own_gs (by omega)) (own_chS n _ _ ds n n a (Nat.le_refl _) (Nat.le_refl _) hch))⟩
    · by_cases hx2 : ((b.toUInt32 >>> (((2 : Int32) * Int32.ofNat p) &&& 31).toUInt32).toInt32 &&& (3 : Int32)) = (2 : Int32)
      · obtain ⟨dl, hdl⟩ := own_gx (l := ld) (q := qo) (by omega)
        obtain ⟨dc, hdc⟩ := own_gx (l := cs) (q := qo) (by omega)
        rcases hF with ⟨rfl, rfl, hld⟩ | ⟨D, B, n, a, rfl, hD, hB, hn, hla, hch⟩
        · exact ⟨3, (R, [], hb, c), _, by decide, hk3 3 (by decide), rfl, own_st0_O tk tw cs ss ts nx ld (Int32.ofNat R.length) hb b (Int32.ofNat qm) (Int32.ofNat qo) (Int32.ofNat p) (Int32.ofNat q) p hp ht htm hx1 hx2 dl dc qo hox hdl hdc,
            own_J1 (n := 1) (own_sl3 hc3) (own_sl3 hl3) (own_gn hne hcm) hts h6 rfl rfl rfl rfl (by omega) (own_gn hne hld) rfl⟩
        · exact ⟨3, (R, ds, hb, c), _, by decide, hk3 3 (by decide), rfl, own_st1_O tk tw cs ss ts nx ld D B (Int32.ofNat n) (Int32.ofNat R.length) hb b (Int32.ofNat qm) (Int32.ofNat qo) (Int32.ofNat p) (Int32.ofNat q) p hp ht htm hx1 hx2 dl dc qo hox hdl hdc n (own_ixo (by omega)) (by omega) (own_n160 n (by omega)) hD hB,
            own_J1 (n := n + 1) (own_sl3 hc3) (own_sl3 hl3) (own_gn hne hcm) hts h6 rfl (own_s1 _) (own_sl16 hD) (own_sl16 hB) (by omega) (own_gn hne hla) (own_chS n _ _ ds n (n + 1) a (Nat.le_refl _) (by omega) hch)⟩
      · rcases hF with ⟨rfl, rfl, hld⟩ | ⟨D, B, n, a, rfl, hD, hB, hn, hla, hch⟩
        · exact ⟨3, (R, [], hb, c), _, by decide, hk3 3 (by decide), rfl, own_st0_N tk tw cs ss ts nx ld (Int32.ofNat R.length) hb b (Int32.ofNat qm) (Int32.ofNat qo) (Int32.ofNat p) (Int32.ofNat q) p hp ht htm hx1 hx2, own_J0 hc3 hl3 hcm hts h6 rfl hld⟩
        · exact ⟨3, (R, ds, hb, c), _, by decide, hk3 3 (by decide), rfl, own_st1_N tk tw cs ss ts nx ld D B (Int32.ofNat n) (Int32.ofNat R.length) hb b (Int32.ofNat qm) (Int32.ofNat qo) (Int32.ofNat p) (Int32.ofNat q) p hp ht htm hx1 hx2, own_J1 hc3 hl3 hcm hts h6 rfl rfl hD hB (by omega) hla hch⟩
theorem own_J_st {tk tw ss nx pre post rest : List Int32} {qm N : Nat} {z : OZ} {H : OHeap} (hJ : own_J tk tw ss nx pre post qm rest z N H) : own_arr H 10 .int = some [.int (Int32.ofNat z.1.length), .int z.2.2.1] := by
  obtain ⟨cs, ld, ts, hc3, hl3, hcm, hts, h6, ⟨rfl, hds, hld⟩ | ⟨D, B, n, a, rfl, hD, hB, hn, hla, hch⟩⟩ := hJ <;> rfl
theorem own_J_call {tk tw ss nx pre post rest : List Int32} {qm N : Nat} {z : OZ} {H : OHeap} (hJ : own_J tk tw ss nx pre post qm rest z N H) (m : Int32) : own_call own_P own_m0 (.invokevirtual 30) [.int m, .ref 2] H = some (8, [.ref 2, .int m], []) := by
  obtain ⟨cs, ld, ts, hc3, hl3, hcm, hts, h6, ⟨rfl, hds, hld⟩ | ⟨D, B, n, a, rfl, hD, hB, hn, hla, hch⟩⟩ := hJ <;> rfl
theorem own_cwo (vs : List Value) : own_cw own_P.2.1 (.inl 0, vs) ≤ 40 := Nat.le_of_ble_eq_true rfl
theorem own_cwa (K : List OKls) (ty : FieldType) (vs : List Value) : own_cw K (.inr ty, vs) = vs.length := rfl
set_option maxRecDepth 100000 in
set_option maxHeartbeats 4000000 in
theorem own_placesJ {tk tw ss nx pre post : List Int32} {qm N : Nat} {z : OZ} {H : OHeap} (hqm : qm < 3) (hN : N ≤ 6) (htk : tk.length = 6) (htw : tw.length = 3) (hnx : nx.length = 3) (hs4 : ss.length = 4) (hss : ss[qm]? = some (Int32.ofNat pre.length)) (hse : ss[qm + 1]? = some (Int32.ofNat (pre.length + z.1.length))) (hJ : own_J tk tw ss nx pre post qm [] z N H) (hb : own_bz z = true) :
    ∃ (r : List Int32) (an : Nat) (H' : OHeap), own_run own_P 8 6 159 0 (own_entry [.ref 2, .int (Int32.ofNat qm)] own_m8.ml) [] H (some (.ref an), H') ∧ H'[an]? = some (.inr .int, own_iv r) ∧ H'.length ≤ 40 ∧ own_w own_P.2.1 H' ≤ 256 ∧ r.length ≤ 6 ∧ Int32.ofNat r.length = own_pop z.2.2.1 ∧ ∀ k < 6, own_okc r z.2.2.1 k = true := by
  simp only [own_bz, Bool.and_eq_true, decide_eq_true_eq, List.all_eq_true, List.mem_range] at hb
  obtain ⟨b1, b2, b3, b4, b5⟩ := hb
  have b2 := Nat.le_of_ble_eq_true b2
  have b4 := Nat.eq_of_beq_eq_true b4
  have hmx := own_ixo (k := qm) (by omega)
  have hme : own_ix (Int32.ofNat qm + (1 : Int32)) = some (qm + 1) := by rw [own_s1]; exact own_ixo (by omega)
  obtain ⟨R, ds, hb, c⟩ := z
  obtain ⟨cs, ld, ts, hc3, hl3, hcm, hts, h6, hF⟩ := hJ
  dsimp only at hcm hts hF hse b1 b2 b3 b4 b5
  rw [b1] at hcm
  have hts2 : ts = pre ++ (R.reverse ++ post) := hts
  have hl := h6
  rw [hts2] at hl
  simp only [List.length_append, List.length_reverse] at hl
  rcases hF with ⟨rfl, rfl, hld⟩ | ⟨D, B, n, a, rfl, hD, hB, hn, hla, hch⟩
  · refine ⟨R.reverse.filter own_nn, 11, _, own_pl00 tk tw cs ss ts nx ld (Int32.ofNat R.length) hb (Int32.ofNat qm) qm pre hmx hss (by omega) (qm + 1) (pre.length + R.length) hme hse (by omega) R post hts2 rfl _ b2 hcm hld rfl, rfl, Nat.le_of_ble_eq_true rfl, ?_, b2, b3, b5⟩
    have := own_cwo [.ref 3, .ref 4, .ref 5, .ref 6, .ref 7, .ref 9, .int 0]
    have b2' : (R.reverse.filter own_nn).length ≤ 6 := b2
    simp only [own_w, own_F0, List.cons_append, List.nil_append, List.map_cons, List.map_nil, List.sum_cons, List.sum_nil, own_cwa, own_iv_len, List.length_cons, List.length_nil]
    omega
  · have hw : ∀ r : List Int32, r.length ≤ 6 → own_w own_P.2.1 (own_F1 tk tw cs ss ts nx ld D B (Int32.ofNat n) (Int32.ofNat R.length) hb ++ [(.inr .int, own_iv r)]) ≤ 256 := by
      intro r hr
      have := own_cwo [.ref 11, .ref 12, .ref 5, .ref 6, .ref 7, .ref 9, .int (Int32.ofNat n)]
      simp only [own_w, own_F1, List.cons_append, List.nil_append, List.map_cons, List.map_nil, List.sum_cons, List.sum_nil, own_cwa, own_iv_len, List.length_cons, List.length_nil]
      omega
    cases ds with
    | nil =>
      have ha : a = (-1 : Int32) := hch
      subst ha
      exact ⟨R.reverse.filter own_nn, 13, _, own_pl10 tk tw cs ss ts nx ld D B (Int32.ofNat n) (Int32.ofNat R.length) hb (Int32.ofNat qm) qm pre hmx hss (by omega) (qm + 1) (pre.length + R.length) hme hse (by omega) R post hts2 rfl _ b2 hcm hla rfl, rfl, Nat.le_of_ble_eq_true rfl, hw _ b2, b2, b3, b5⟩
    | cons d ds =>
      have ha : ¬ (a < (0 : Int32)) := by
        simp only [own_chain] at hch
        obtain ⟨j, h1, rfl, _⟩ := hch
        exact own_on0 (by omega)
      have e : own_res (R, d :: ds, hb, c) = (own_mgl c.toNatClampNeg R (d :: ds)).reverse := rfl
      rw [← b4] at e
      generalize own_res (R, d :: ds, hb, c) = r at *
      refine ⟨r, 13, own_F1 tk tw cs ss ts nx ld D B (Int32.ofNat n) (Int32.ofNat R.length) hb ++ [(.inr .int, own_iv r)], (own_pl11 tk tw cs ss ts nx ld D B (Int32.ofNat n) (Int32.ofNat R.length) hb (Int32.ofNat qm) qm pre hmx hss (by omega) (qm + 1) (pre.length + R.length) hme hse (by omega) R post hts2 rfl r.length b2 hcm hD hB (d :: ds) a n (by omega) hla ha hch ?_).to ?_, rfl, Nat.le_of_ble_eq_true rfl, hw _ b2, b2, b3, b5⟩
      · have e2 := congrArg List.length e
        rw [List.length_reverse] at e2
        exact e2.symm
      · rw [← e]
theorem own_ul (p : Nat) (z : OZ) (k : Nat) : (own_u p z k).1.length = (if k < 2 then 1 else 0) + z.1.length := by
  match k with
  | 0 => simp [own_u]; omega
  | 1 => simp [own_u]; omega
  | 2 => simp [own_u]
  | k + 3 => simp [own_u]
theorem own_arrL {H : OHeap} {a : Nat} {vs : List Value} (h : H[a]? = some (.inr .int, vs)) : own_arr H a .int = some vs := by simp only [own_arr, h, if_pos]
set_option maxRecDepth 100000 in
set_option maxHeartbeats 4000000 in
theorem own_ckA (H : OHeap) (an : Nat) (r : List Int32) (hb kk : Int32) (hL : H[an]? = some (.inr .int, own_iv r)) (h0 : ¬ (kk < Int32.ofNat r.length)) :
    own_run own_P 10 6 161 0 (own_entry [.ref an, .int kk, .int hb] own_m10.ml) [] H (some (.int 1), H) := by
  refine own_ks_run ?_
  refine own_ks.go (mt := own_m10) rfl 2 (pc' := 2) (L' := [.val (.ref an), .val (.int kk), .val (.int hb), .unset]) (S' := [.ref an, .int kk]) (H' := H) rfl ?_
  refine own_ks.alen (mt := own_m10) rfl (t := 3) (a := an) (z := (Int32.ofNat r.length)) rfl hL (by rw [own_iv_len]) ?_
  refine own_ks.br2 (mt := own_m10) rfl (cd := .lt) (t := 8) (b := false) (pc' := 6) rfl (flt h0).1 rfl ?_
  refine own_ks.go (mt := own_m10) rfl 1 (pc' := 7) (L' := [.val (.ref an), .val (.int kk), .val (.int hb), .unset]) (S' := [.int (1 : Int32)]) (H' := H) rfl ?_
  exact own_ks.ret (mt := own_m10) rfl (ins := .ireturn) (t := 8) (v := some (.int (1 : Int32))) rfl rfl ⟨rfl, rfl⟩
set_option maxRecDepth 100000 in
set_option maxHeartbeats 4000000 in
theorem own_ckB0 (H : OHeap) (an : Nat) (r : List Int32) (hb kk : Int32) (hL : H[an]? = some (.inr .int, own_iv r)) (h0 : kk < Int32.ofNat r.length) (v : Int32) (kn : Nat) (hk : own_ix kk = some kn) (hv : r[kn]? = some v) (h1 : ¬ (v < (0 : Int32))) (h2 : ¬ ((5 : Int32) < v)) (h3 : ¬ (((hb.toUInt32 >>> (v &&& 31).toUInt32).toInt32 &&& (1 : Int32)) = (0 : Int32))) (h4 : ¬ ((0 : Int32) < kk)) :
    own_run own_P 10 6 161 0 (own_entry [.ref an, .int kk, .int hb] own_m10.ml) [] H (some (.int 1), H) := by
  refine own_ks_run ?_
  refine own_ks.go (mt := own_m10) rfl 2 (pc' := 2) (L' := [.val (.ref an), .val (.int kk), .val (.int hb), .unset]) (S' := [.ref an, .int kk]) (H' := H) rfl ?_
  refine own_ks.alen (mt := own_m10) rfl (t := 3) (a := an) (z := (Int32.ofNat r.length)) rfl hL (by rw [own_iv_len]) ?_
  refine own_ks.br2 (mt := own_m10) rfl (cd := .lt) (t := 8) (b := true) (pc' := 8) rfl (tlt h0).1 rfl ?_
  refine own_ks.go (mt := own_m10) rfl 2 (pc' := 10) (L' := [.val (.ref an), .val (.int kk), .val (.int hb), .unset]) (S' := [.int kk, .ref an]) (H' := H) rfl ?_
  refine own_ks.iaload (mt := own_m10) rfl (t := 11) (a := an) (v := .int v) rfl (own_arrL hL) hk (own_iv_get hv) ?_
  refine own_ks.go (mt := own_m10) rfl 2 (pc' := 13) (L' := [.val (.ref an), .val (.int kk), .val (.int hb), .val (.int v)]) (S' := [.int v]) (H' := H) rfl ?_
  refine own_ks.br1 (mt := own_m10) rfl (cd := .lt) (t := 21) (b := false) (pc' := 16) rfl ((if0 _ _).trans (flt h1).1) rfl ?_
  refine own_ks.go (mt := own_m10) rfl 2 (pc' := 18) (L' := [.val (.ref an), .val (.int kk), .val (.int hb), .val (.int v)]) (S' := [.int (5 : Int32), .int v]) (H' := H) rfl ?_
  refine own_ks.br2 (mt := own_m10) rfl (cd := .le) (t := 23) (b := true) (pc' := 23) rfl (flt h2).2.2.2 rfl ?_
  refine own_ks.go (mt := own_m10) rfl 5 (pc' := 28) (L' := [.val (.ref an), .val (.int kk), .val (.int hb), .val (.int v)]) (S' := [.int ((hb.toUInt32 >>> (v &&& 31).toUInt32).toInt32 &&& (1 : Int32))]) (H' := H) rfl ?_
  refine own_ks.br1 (mt := own_m10) rfl (cd := .ne) (t := 33) (b := true) (pc' := 33) rfl ((if0 _ _).trans (feq h3).2) rfl ?_
  refine own_ks.go (mt := own_m10) rfl 1 (pc' := 34) (L' := [.val (.ref an), .val (.int kk), .val (.int hb), .val (.int v)]) (S' := [.int kk]) (H' := H) rfl ?_
  refine own_ks.br1 (mt := own_m10) rfl (cd := .le) (t := 48) (b := true) (pc' := 48) rfl ((if0 _ _).trans (flt h4).2.2.2) rfl ?_
  refine own_ks.go (mt := own_m10) rfl 1 (pc' := 49) (L' := [.val (.ref an), .val (.int kk), .val (.int hb), .val (.int v)]) (S' := [.int (1 : Int32)]) (H' := H) rfl ?_
  exact own_ks.ret (mt := own_m10) rfl (ins := .ireturn) (t := 50) (v := some (.int (1 : Int32))) rfl rfl ⟨rfl, rfl⟩
set_option maxRecDepth 100000 in
set_option maxHeartbeats 4000000 in
theorem own_ckB1 (H : OHeap) (an : Nat) (r : List Int32) (hb kk : Int32) (hL : H[an]? = some (.inr .int, own_iv r)) (h0 : kk < Int32.ofNat r.length) (v : Int32) (kn : Nat) (hk : own_ix kk = some kn) (hv : r[kn]? = some v) (h1 : ¬ (v < (0 : Int32))) (h2 : ¬ ((5 : Int32) < v)) (h3 : ¬ (((hb.toUInt32 >>> (v &&& 31).toUInt32).toInt32 &&& (1 : Int32)) = (0 : Int32))) (h4 : (0 : Int32) < kk) (u : Int32) (k1 : Nat) (hk1 : own_ix (kk - (1 : Int32)) = some k1) (hu : r[k1]? = some u) (h5 : u < v) :
    own_run own_P 10 6 161 0 (own_entry [.ref an, .int kk, .int hb] own_m10.ml) [] H (some (.int 1), H) := by
  refine own_ks_run ?_
  refine own_ks.go (mt := own_m10) rfl 2 (pc' := 2) (L' := [.val (.ref an), .val (.int kk), .val (.int hb), .unset]) (S' := [.ref an, .int kk]) (H' := H) rfl ?_
  refine own_ks.alen (mt := own_m10) rfl (t := 3) (a := an) (z := (Int32.ofNat r.length)) rfl hL (by rw [own_iv_len]) ?_
  refine own_ks.br2 (mt := own_m10) rfl (cd := .lt) (t := 8) (b := true) (pc' := 8) rfl (tlt h0).1 rfl ?_
  refine own_ks.go (mt := own_m10) rfl 2 (pc' := 10) (L' := [.val (.ref an), .val (.int kk), .val (.int hb), .unset]) (S' := [.int kk, .ref an]) (H' := H) rfl ?_
  refine own_ks.iaload (mt := own_m10) rfl (t := 11) (a := an) (v := .int v) rfl (own_arrL hL) hk (own_iv_get hv) ?_
  refine own_ks.go (mt := own_m10) rfl 2 (pc' := 13) (L' := [.val (.ref an), .val (.int kk), .val (.int hb), .val (.int v)]) (S' := [.int v]) (H' := H) rfl ?_
  refine own_ks.br1 (mt := own_m10) rfl (cd := .lt) (t := 21) (b := false) (pc' := 16) rfl ((if0 _ _).trans (flt h1).1) rfl ?_
  refine own_ks.go (mt := own_m10) rfl 2 (pc' := 18) (L' := [.val (.ref an), .val (.int kk), .val (.int hb), .val (.int v)]) (S' := [.int (5 : Int32), .int v]) (H' := H) rfl ?_
  refine own_ks.br2 (mt := own_m10) rfl (cd := .le) (t := 23) (b := true) (pc' := 23) rfl (flt h2).2.2.2 rfl ?_
  refine own_ks.go (mt := own_m10) rfl 5 (pc' := 28) (L' := [.val (.ref an), .val (.int kk), .val (.int hb), .val (.int v)]) (S' := [.int ((hb.toUInt32 >>> (v &&& 31).toUInt32).toInt32 &&& (1 : Int32))]) (H' := H) rfl ?_
  refine own_ks.br1 (mt := own_m10) rfl (cd := .ne) (t := 33) (b := true) (pc' := 33) rfl ((if0 _ _).trans (feq h3).2) rfl ?_
  refine own_ks.go (mt := own_m10) rfl 1 (pc' := 34) (L' := [.val (.ref an), .val (.int kk), .val (.int hb), .val (.int v)]) (S' := [.int kk]) (H' := H) rfl ?_
  refine own_ks.br1 (mt := own_m10) rfl (cd := .le) (t := 48) (b := false) (pc' := 37) rfl ((if0 _ _).trans (tlt h4).2.2.2) rfl ?_
  refine own_ks.go (mt := own_m10) rfl 4 (pc' := 41) (L' := [.val (.ref an), .val (.int kk), .val (.int hb), .val (.int v)]) (S' := [.int (kk - (1 : Int32)), .ref an]) (H' := H) rfl ?_
  refine own_ks.iaload (mt := own_m10) rfl (t := 42) (a := an) (v := .int u) rfl (own_arrL hL) hk1 (own_iv_get hu) ?_
  refine own_ks.go (mt := own_m10) rfl 1 (pc' := 43) (L' := [.val (.ref an), .val (.int kk), .val (.int hb), .val (.int v)]) (S' := [.int v, .int u]) (H' := H) rfl ?_
  refine own_ks.br2 (mt := own_m10) rfl (cd := .lt) (t := 48) (b := true) (pc' := 48) rfl (tlt h5).1 rfl ?_
  refine own_ks.go (mt := own_m10) rfl 1 (pc' := 49) (L' := [.val (.ref an), .val (.int kk), .val (.int hb), .val (.int v)]) (S' := [.int (1 : Int32)]) (H' := H) rfl ?_
  exact own_ks.ret (mt := own_m10) rfl (ins := .ireturn) (t := 50) (v := some (.int (1 : Int32))) rfl rfl ⟨rfl, rfl⟩
theorem own_chk (H : OHeap) (an : Nat) (r : List Int32) (hb : Int32) (hL : H[an]? = some (.inr .int, own_iv r)) (k : Nat) (hk : k < 6) (hr : r.length ≤ 6) (ho : own_okc r hb k = true) :
    own_run own_P 10 6 161 0 (own_entry [.ref an, .int (Int32.ofNat k), .int hb] own_m10.ml) [] H (some (.int 1), H) := by
  have hx := own_ixo (k := k) (by omega)
  unfold own_okc at ho
  split at ho
  · rename_i e
    have := List.getElem?_eq_none_iff.mp e
    exact own_ckA H an r hb (Int32.ofNat k) hL (own_ole (by omega) (by omega) (by omega))
  · rename_i v e
    have hlt := (List.getElem?_eq_some_iff.mp e).1
    simp only [Bool.and_eq_true, Bool.not_eq_true', decide_eq_false_iff_not, Bool.or_eq_true] at ho
    obtain ⟨o1, o2, o3, o4⟩ := ho
    have h0 : Int32.ofNat k < Int32.ofNat r.length := own_olt hlt (by omega) (by omega)
    cases k with
    | zero => exact own_ckB0 H an r hb (Int32.ofNat 0) hL h0 v 0 hx e o1 o2 o3 (by decide)
    | succ k =>
      rcases o4 with o4 | o4
      · cases o4
      · split at o4
        · cases o4
        · rename_i u e2
          refine own_ckB1 H an r hb (Int32.ofNat (k + 1)) hL h0 v (k + 1) hx e o1 o2 o3 (own_olt (a := 0) (by omega) (by omega) (by omega)) u k (own_ixm (by omega)) e2 (of_decide_eq_true o4)
set_option maxRecDepth 100000 in
set_option maxHeartbeats 4000000 in
theorem own_t259 (a b c : Int32) (qm qo : Nat) (hb : Int32) (H : OHeap) (an : Nat) (r : List Int32) (hL : H[an]? = some (.inr .int, own_iv r)) (hl : H.length ≤ 40) (hw : own_w own_P.2.1 H ≤ 256) (hr : r.length ≤ 6) (hpop : Int32.ofNat r.length = own_pop hb) (hok : ∀ k < 6, own_okc r hb k = true) :
    own_ks own_P (own_end own_P.2.1 40 256) [] 0 7 176 259 [.val (.int a), .val (.int b), .val (.int c), .val (.int (Int32.ofNat qm)), .val (.int (Int32.ofNat qo)), .val (.ref 0), .val (.ref 1), .val (.ref 2), .val (.ref 10), .val (.int hb), .unset] [.ref an] H := by
  refine own_ks.go (mt := own_m0) rfl 2 (pc' := 263) (L' := [.val (.int a), .val (.int b), .val (.int c), .val (.int (Int32.ofNat qm)), .val (.int (Int32.ofNat qo)), .val (.ref 0), .val (.ref 1), .val (.ref 2), .val (.ref 10), .val (.int hb), .val (.ref an)]) (S' := [.ref an]) (H' := H) rfl ?_
  refine own_ks.alen (mt := own_m0) rfl (t := 264) (a := an) (z := Int32.ofNat r.length) rfl hL (by rw [own_iv_len]) ?_
  refine own_ks.go (mt := own_m0) rfl 1 (pc' := 266) (L' := [.val (.int a), .val (.int b), .val (.int c), .val (.int (Int32.ofNat qm)), .val (.int (Int32.ofNat qo)), .val (.ref 0), .val (.ref 1), .val (.ref 2), .val (.ref 10), .val (.int hb), .val (.ref an)]) (S' := [.int hb, .int (Int32.ofNat r.length)]) (H' := H) rfl ?_
  refine own_ks.call (mt := own_m0) (mj := own_m9) rfl (ins := .invokestatic 34) (t := 269) (j := 9) (as := [.int hb]) (r' := [.int (Int32.ofNat r.length)]) (v := some (.int (own_pop hb))) (H' := H) (S' := [.int (own_pop hb), .int (Int32.ofNat r.length)]) rfl rfl rfl rfl rfl (own_run.fuel 60 rfl) rfl ?_
  refine own_ks.br2 (mt := own_m0) rfl (cd := .eq) (t := 274) (b := true) (pc' := 274) rfl (teq hpop).1 rfl ?_
  refine own_ks.go (mt := own_m0) rfl 3 (pc' := 279) (L' := [.val (.int a), .val (.int b), .val (.int c), .val (.int (Int32.ofNat qm)), .val (.int (Int32.ofNat qo)), .val (.ref 0), .val (.ref 1), .val (.ref 2), .val (.ref 10), .val (.int hb), .val (.ref an)]) (S' := [.int hb, .int (Int32.ofNat 0), .ref an]) (H' := H) rfl ?_
  refine own_ks.call (mt := own_m0) (mj := own_m10) rfl (ins := .invokestatic 38) (t := 282) (j := 10) (as := [.ref an, .int (Int32.ofNat 0), .int hb]) (r' := []) (v := some (.int 1)) (H' := H) (S' := [.int 1]) rfl rfl rfl rfl rfl (own_chk H an r hb hL 0 (by decide) hr (hok 0 (by decide))) rfl ?_
  refine own_ks.go (mt := own_m0) rfl 4 (pc' := 290) (L' := [.val (.int a), .val (.int b), .val (.int c), .val (.int (Int32.ofNat qm)), .val (.int (Int32.ofNat qo)), .val (.ref 0), .val (.ref 1), .val (.ref 2), .val (.ref 10), .val (.int hb), .val (.ref an)]) (S' := [.int hb, .int (Int32.ofNat 1), .ref an]) (H' := H) rfl ?_
  refine own_ks.call (mt := own_m0) (mj := own_m10) rfl (ins := .invokestatic 38) (t := 293) (j := 10) (as := [.ref an, .int (Int32.ofNat 1), .int hb]) (r' := []) (v := some (.int 1)) (H' := H) (S' := [.int 1]) rfl rfl rfl rfl rfl (own_chk H an r hb hL 1 (by decide) hr (hok 1 (by decide))) rfl ?_
  refine own_ks.go (mt := own_m0) rfl 4 (pc' := 301) (L' := [.val (.int a), .val (.int b), .val (.int c), .val (.int (Int32.ofNat qm)), .val (.int (Int32.ofNat qo)), .val (.ref 0), .val (.ref 1), .val (.ref 2), .val (.ref 10), .val (.int hb), .val (.ref an)]) (S' := [.int hb, .int (Int32.ofNat 2), .ref an]) (H' := H) rfl ?_
  refine own_ks.call (mt := own_m0) (mj := own_m10) rfl (ins := .invokestatic 38) (t := 304) (j := 10) (as := [.ref an, .int (Int32.ofNat 2), .int hb]) (r' := []) (v := some (.int 1)) (H' := H) (S' := [.int 1]) rfl rfl rfl rfl rfl (own_chk H an r hb hL 2 (by decide) hr (hok 2 (by decide))) rfl ?_
  refine own_ks.go (mt := own_m0) rfl 4 (pc' := 312) (L' := [.val (.int a), .val (.int b), .val (.int c), .val (.int (Int32.ofNat qm)), .val (.int (Int32.ofNat qo)), .val (.ref 0), .val (.ref 1), .val (.ref 2), .val (.ref 10), .val (.int hb), .val (.ref an)]) (S' := [.int hb, .int (Int32.ofNat 3), .ref an]) (H' := H) rfl ?_
  refine own_ks.call (mt := own_m0) (mj := own_m10) rfl (ins := .invokestatic 38) (t := 315) (j := 10) (as := [.ref an, .int (Int32.ofNat 3), .int hb]) (r' := []) (v := some (.int 1)) (H' := H) (S' := [.int 1]) rfl rfl rfl rfl rfl (own_chk H an r hb hL 3 (by decide) hr (hok 3 (by decide))) rfl ?_
  refine own_ks.go (mt := own_m0) rfl 4 (pc' := 323) (L' := [.val (.int a), .val (.int b), .val (.int c), .val (.int (Int32.ofNat qm)), .val (.int (Int32.ofNat qo)), .val (.ref 0), .val (.ref 1), .val (.ref 2), .val (.ref 10), .val (.int hb), .val (.ref an)]) (S' := [.int hb, .int (Int32.ofNat 4), .ref an]) (H' := H) rfl ?_
  refine own_ks.call (mt := own_m0) (mj := own_m10) rfl (ins := .invokestatic 38) (t := 326) (j := 10) (as := [.ref an, .int (Int32.ofNat 4), .int hb]) (r' := []) (v := some (.int 1)) (H' := H) (S' := [.int 1]) rfl rfl rfl rfl rfl (own_chk H an r hb hL 4 (by decide) hr (hok 4 (by decide))) rfl ?_
  refine own_ks.go (mt := own_m0) rfl 4 (pc' := 334) (L' := [.val (.int a), .val (.int b), .val (.int c), .val (.int (Int32.ofNat qm)), .val (.int (Int32.ofNat qo)), .val (.ref 0), .val (.ref 1), .val (.ref 2), .val (.ref 10), .val (.int hb), .val (.ref an)]) (S' := [.int hb, .int (Int32.ofNat 5), .ref an]) (H' := H) rfl ?_
  refine own_ks.call (mt := own_m0) (mj := own_m10) rfl (ins := .invokestatic 38) (t := 337) (j := 10) (as := [.ref an, .int (Int32.ofNat 5), .int hb]) (r' := []) (v := some (.int 1)) (H' := H) (S' := [.int 1]) rfl rfl rfl rfl rfl (own_chk H an r hb hL 5 (by decide) hr (hok 5 (by decide))) rfl ?_
  refine own_ks.go (mt := own_m0) rfl 3 (pc' := 345) (L' := [.val (.int a), .val (.int b), .val (.int c), .val (.int (Int32.ofNat qm)), .val (.int (Int32.ofNat qo)), .val (.ref 0), .val (.ref 1), .val (.ref 2), .val (.ref 10), .val (.int hb), .val (.ref an)]) (S' := [.int (1 : Int32)]) (H' := H) rfl ?_
  exact own_ks.ret (mt := own_m0) rfl (ins := .ireturn) (t := 346) (v := some (.int (1 : Int32))) rfl rfl ⟨rfl, hl, hw⟩
set_option maxRecDepth 100000 in
set_option maxHeartbeats 4000000 in
theorem own_t163 (a b c : Int32) (tw ss nx pre post : List Int32) (qm qo q0 q1 q2 q3 q4 q5 : Nat) (hqm : qm < 3) (hqo : qo < 3) (hne : qo ≠ qm) (g0 : q0 < 3) (g1 : q1 < 3) (g2 : q2 < 3) (g3 : q3 < 3) (g4 : q4 < 3) (g5 : q5 < 3) (htw : tw.length = 3) (hnx : nx.length = 3) (hs4 : ss.length = 4) (hss : ss[qm]? = some (Int32.ofNat pre.length)) (hse : ss[qm + 1]? = some (Int32.ofNat (pre.length + (own_rest qm 0 [q0, q1, q2, q3, q4, q5]).length)))
    (H : OHeap) (hJ : own_J (own_tk [q0, q1, q2, q3, q4, q5]) tw ss nx pre post qm (own_rest qm 0 [q0, q1, q2, q3, q4, q5]) ([], [], 0, Int32.ofNat (own_rest qm 0 [q0, q1, q2, q3, q4, q5]).length) 0 H) : own_ks own_P (own_end own_P.2.1 40 256) [] 0 7 176 163 [.val (.int a), .val (.int b), .val (.int c), .val (.int (Int32.ofNat qm)), .val (.int (Int32.ofNat qo)), .val (.ref 0), .val (.ref 1), .val (.ref 2), .val (.ref 10), .unset, .unset] [] H := by
  obtain ⟨k0, z1, H1, hk0, hi0, hz0, hr0, hJ1⟩ := own_stepJ (own_tk [q0, q1, q2, q3, q4, q5]) tw ss nx pre post b qm qo 0 q0 [q1, q2, q3, q4, q5] hqm hqo hne hss g0 (by decide) rfl ([], [], 0, Int32.ofNat (own_rest qm 0 [q0, q1, q2, q3, q4, q5]).length) H hJ
  obtain ⟨k1, z2, H2, hk1, hi1, hz1, hr1, hJ2⟩ := own_stepJ (own_tk [q0, q1, q2, q3, q4, q5]) tw ss nx pre post b qm qo 1 q1 [q2, q3, q4, q5] hqm hqo hne hss g1 (by decide) rfl z1 H1 hJ1
  obtain ⟨k2, z3, H3, hk2, hi2, hz2, hr2, hJ3⟩ := own_stepJ (own_tk [q0, q1, q2, q3, q4, q5]) tw ss nx pre post b qm qo 2 q2 [q3, q4, q5] hqm hqo hne hss g2 (by decide) rfl z2 H2 hJ2
  obtain ⟨k3, z4, H4, hk3, hi3, hz3, hr3, hJ4⟩ := own_stepJ (own_tk [q0, q1, q2, q3, q4, q5]) tw ss nx pre post b qm qo 3 q3 [q4, q5] hqm hqo hne hss g3 (by decide) rfl z3 H3 hJ3
  obtain ⟨k4, z5, H5, hk4, hi4, hz4, hr4, hJ5⟩ := own_stepJ (own_tk [q0, q1, q2, q3, q4, q5]) tw ss nx pre post b qm qo 4 q4 [q5] hqm hqo hne hss g4 (by decide) rfl z4 H4 hJ4
  obtain ⟨k5, z6, H6, hk5, hi5, hz5, hr5, hJ6⟩ := own_stepJ (own_tk [q0, q1, q2, q3, q4, q5]) tw ss nx pre post b qm qo 5 q5 [] hqm hqo hne hss g5 (by decide) rfl z5 H5 hJ5
  refine own_ks.go (mt := own_m0) rfl 7 (pc' := 174) (L' := [.val (.int a), .val (.int b), .val (.int c), .val (.int (Int32.ofNat qm)), .val (.int (Int32.ofNat qo)), .val (.ref 0), .val (.ref 1), .val (.ref 2), .val (.ref 10), .unset, .unset]) (S' := [.ref 10, .int (Int32.ofNat 0), .int (Int32.ofNat qo), .int (Int32.ofNat qm), .int b, .ref 0, .ref 2]) (H' := H) rfl ?_
  refine own_ks.call (mt := own_m0) (mj := own_m7) rfl (ins := .invokestatic 26) (t := 177) (j := 7) (as := [.ref 2, .ref 0, .int b, .int (Int32.ofNat qm), .int (Int32.ofNat qo), .int (Int32.ofNat 0), .ref 10]) (r' := []) (v := none) (H' := H1) (S' := []) rfl rfl rfl rfl rfl hr0 rfl ?_
  refine own_ks.go (mt := own_m0) rfl 7 (pc' := 188) (L' := [.val (.int a), .val (.int b), .val (.int c), .val (.int (Int32.ofNat qm)), .val (.int (Int32.ofNat qo)), .val (.ref 0), .val (.ref 1), .val (.ref 2), .val (.ref 10), .unset, .unset]) (S' := [.ref 10, .int (Int32.ofNat 1), .int (Int32.ofNat qo), .int (Int32.ofNat qm), .int b, .ref 0, .ref 2]) (H' := H1) rfl ?_
  refine own_ks.call (mt := own_m0) (mj := own_m7) rfl (ins := .invokestatic 26) (t := 191) (j := 7) (as := [.ref 2, .ref 0, .int b, .int (Int32.ofNat qm), .int (Int32.ofNat qo), .int (Int32.ofNat 1), .ref 10]) (r' := []) (v := none) (H' := H2) (S' := []) rfl rfl rfl rfl rfl hr1 rfl ?_
  refine own_ks.go (mt := own_m0) rfl 7 (pc' := 202) (L' := [.val (.int a), .val (.int b), .val (.int c), .val (.int (Int32.ofNat qm)), .val (.int (Int32.ofNat qo)), .val (.ref 0), .val (.ref 1), .val (.ref 2), .val (.ref 10), .unset, .unset]) (S' := [.ref 10, .int (Int32.ofNat 2), .int (Int32.ofNat qo), .int (Int32.ofNat qm), .int b, .ref 0, .ref 2]) (H' := H2) rfl ?_
  refine own_ks.call (mt := own_m0) (mj := own_m7) rfl (ins := .invokestatic 26) (t := 205) (j := 7) (as := [.ref 2, .ref 0, .int b, .int (Int32.ofNat qm), .int (Int32.ofNat qo), .int (Int32.ofNat 2), .ref 10]) (r' := []) (v := none) (H' := H3) (S' := []) rfl rfl rfl rfl rfl hr2 rfl ?_
  refine own_ks.go (mt := own_m0) rfl 7 (pc' := 216) (L' := [.val (.int a), .val (.int b), .val (.int c), .val (.int (Int32.ofNat qm)), .val (.int (Int32.ofNat qo)), .val (.ref 0), .val (.ref 1), .val (.ref 2), .val (.ref 10), .unset, .unset]) (S' := [.ref 10, .int (Int32.ofNat 3), .int (Int32.ofNat qo), .int (Int32.ofNat qm), .int b, .ref 0, .ref 2]) (H' := H3) rfl ?_
  refine own_ks.call (mt := own_m0) (mj := own_m7) rfl (ins := .invokestatic 26) (t := 219) (j := 7) (as := [.ref 2, .ref 0, .int b, .int (Int32.ofNat qm), .int (Int32.ofNat qo), .int (Int32.ofNat 3), .ref 10]) (r' := []) (v := none) (H' := H4) (S' := []) rfl rfl rfl rfl rfl hr3 rfl ?_
  refine own_ks.go (mt := own_m0) rfl 7 (pc' := 230) (L' := [.val (.int a), .val (.int b), .val (.int c), .val (.int (Int32.ofNat qm)), .val (.int (Int32.ofNat qo)), .val (.ref 0), .val (.ref 1), .val (.ref 2), .val (.ref 10), .unset, .unset]) (S' := [.ref 10, .int (Int32.ofNat 4), .int (Int32.ofNat qo), .int (Int32.ofNat qm), .int b, .ref 0, .ref 2]) (H' := H4) rfl ?_
  refine own_ks.call (mt := own_m0) (mj := own_m7) rfl (ins := .invokestatic 26) (t := 233) (j := 7) (as := [.ref 2, .ref 0, .int b, .int (Int32.ofNat qm), .int (Int32.ofNat qo), .int (Int32.ofNat 4), .ref 10]) (r' := []) (v := none) (H' := H5) (S' := []) rfl rfl rfl rfl rfl hr4 rfl ?_
  refine own_ks.go (mt := own_m0) rfl 7 (pc' := 244) (L' := [.val (.int a), .val (.int b), .val (.int c), .val (.int (Int32.ofNat qm)), .val (.int (Int32.ofNat qo)), .val (.ref 0), .val (.ref 1), .val (.ref 2), .val (.ref 10), .unset, .unset]) (S' := [.ref 10, .int (Int32.ofNat 5), .int (Int32.ofNat qo), .int (Int32.ofNat qm), .int b, .ref 0, .ref 2]) (H' := H5) rfl ?_
  refine own_ks.call (mt := own_m0) (mj := own_m7) rfl (ins := .invokestatic 26) (t := 247) (j := 7) (as := [.ref 2, .ref 0, .int b, .int (Int32.ofNat qm), .int (Int32.ofNat qo), .int (Int32.ofNat 5), .ref 10]) (r' := []) (v := none) (H' := H6) (S' := []) rfl rfl rfl rfl rfl hr5 rfl ?_
  have hc : (own_rest qm 0 [q0, q1, q2, q3, q4, q5]).length = own_cn [k0, k1, k2, k3, k4, k5] := by rw [own_rl k0 hi0, own_rl k1 hi1, own_rl k2 hi2, own_rl k3 hi3, own_rl k4 hi4, own_rl k5 hi5]; rfl
  have hbz : own_bz z6 = true := by rw [hz5, hz4, hz3, hz2, hz1, hz0, hc]; exact own_brute ⟨k0, hk0⟩ ⟨k1, hk1⟩ ⟨k2, hk2⟩ ⟨k3, hk3⟩ ⟨k4, hk4⟩ ⟨k5, hk5⟩
  have hz : z6.1.length = (own_rest qm 0 [q0, q1, q2, q3, q4, q5]).length := by rw [hz5, own_ul, hz4, own_ul, hz3, own_ul, hz2, own_ul, hz1, own_ul, hz0, own_ul, hc]; simp only [own_cn, List.length_nil]; omega
  obtain ⟨r, an, H7, hp1, hp2, hp3, hp4, hp5, hp6, hp7⟩ := own_placesJ hqm (by decide) rfl htw hnx hs4 hss (by rw [hz]; exact hse) hJ6 hbz
  refine own_ks.go (mt := own_m0) rfl 2 (pc' := 250) (L' := [.val (.int a), .val (.int b), .val (.int c), .val (.int (Int32.ofNat qm)), .val (.int (Int32.ofNat qo)), .val (.ref 0), .val (.ref 1), .val (.ref 2), .val (.ref 10), .unset, .unset]) (S' := [.int (1 : Int32), .ref 10]) (H' := H6) rfl ?_
  refine own_ks.iaload (mt := own_m0) rfl (t := 251) (a := 10) (v := .int z6.2.2.1) rfl (own_J_st hJ6) (q := 1) rfl rfl ?_
  refine own_ks.go (mt := own_m0) rfl 3 (pc' := 256) (L' := [.val (.int a), .val (.int b), .val (.int c), .val (.int (Int32.ofNat qm)), .val (.int (Int32.ofNat qo)), .val (.ref 0), .val (.ref 1), .val (.ref 2), .val (.ref 10), .val (.int z6.2.2.1), .unset]) (S' := [.int (Int32.ofNat qm), .ref 2]) (H' := H6) rfl ?_
  refine own_ks.call (mt := own_m0) (mj := own_m8) rfl (ins := .invokevirtual 30) (t := 259) (j := 8) (as := [.ref 2, .int (Int32.ofNat qm)]) (r' := []) (v := some (.ref an)) (H' := H7) (S' := [.ref an]) rfl rfl (own_J_call hJ6 _) rfl rfl hp1 rfl ?_
  exact own_t259 a b c qm qo z6.2.2.1 H7 an r hp2 hp3 hp4 hp5 hp6 hp7
set_option maxRecDepth 100000 in
set_option maxHeartbeats 4000000 in
theorem own_new (q0 q1 q2 q3 q4 q5 : Nat) (g0 : q0 < 3) (g1 : q1 < 3) (g2 : q2 < 3) (g3 : q3 < 3) (g4 : q4 < 3) (g5 : q5 < 3) : own_run own_P 2 6 160 0 (own_entry [.ref 2, .ref 1, .ref 0] own_m2.ml) [] [(.inr .int, [.int (Int32.ofNat q0), .int (Int32.ofNat q1), .int (Int32.ofNat q2), .int (Int32.ofNat q3), .int (Int32.ofNat q4), .int (Int32.ofNat q5)]), (.inr .int, (own_iv (own_bump (own_bump (own_bump (own_bump (own_bump (own_bump own_w0 q0) q1) q2) q3) q4) q5))), (.inl 0, [.null, .null, .null, .null, .null, .null, .int (0 : Int32)])] (none, [(.inr .int, own_iv (own_tk [q0, q1, q2, q3, q4, q5])), (.inr .int, own_iv (own_tw [q0, q1, q2, q3, q4, q5])), (.inl 0, [.ref 3, .ref 4, .ref 5, .ref 6, .ref 7, .ref 9, .int 0]), (.inr .int, []), (.inr .int, []), (.inr .int, own_iv (own_tw [q0, q1, q2, q3, q4, q5])), (.inr .int, own_iv (own_ss [q0, q1, q2, q3, q4, q5])), (.inr .int, own_iv (own_ts [q0, q1, q2, q3, q4, q5])), (.inr .int, own_iv (own_nx [q0, q1, q2, q3, q4, q5])), (.inr .int, own_iv [-1, -1, -1])]) := by
  refine own_ks_run ?_
  have l0 : own_w0.length = 3 := rfl
  have l1 : (own_bump own_w0 q0).length = 3 := own_bln l0
  have l2 : (own_bump (own_bump own_w0 q0) q1).length = 3 := own_bln l1
  have l3 : (own_bump (own_bump (own_bump own_w0 q0) q1) q2).length = 3 := own_bln l2
  have l4 : (own_bump (own_bump (own_bump (own_bump own_w0 q0) q1) q2) q3).length = 3 := own_bln l3
  have l5 : (own_bump (own_bump (own_bump (own_bump (own_bump own_w0 q0) q1) q2) q3) q4).length = 3 := own_bln l4
  have l6 : (own_bump (own_bump (own_bump (own_bump (own_bump (own_bump own_w0 q0) q1) q2) q3) q4) q5).length = 3 := own_bln l5
  have m0 : (own_nx0 (own_bump (own_bump (own_bump (own_bump (own_bump (own_bump own_w0 q0) q1) q2) q3) q4) q5), own_z0).1.length = 3 := rfl
  have n0 : (own_nx0 (own_bump (own_bump (own_bump (own_bump (own_bump (own_bump own_w0 q0) q1) q2) q3) q4) q5), own_z0).2.length = 6 := rfl
  have m1 : (own_lay 0 q0 (own_nx0 (own_bump (own_bump (own_bump (own_bump (own_bump (own_bump own_w0 q0) q1) q2) q3) q4) q5), own_z0)).1.length = 3 := own_lay1 m0
  have n1 : (own_lay 0 q0 (own_nx0 (own_bump (own_bump (own_bump (own_bump (own_bump (own_bump own_w0 q0) q1) q2) q3) q4) q5), own_z0)).2.length = 6 := own_lay2 n0
  have m2 : (own_lay 1 q1 (own_lay 0 q0 (own_nx0 (own_bump (own_bump (own_bump (own_bump (own_bump (own_bump own_w0 q0) q1) q2) q3) q4) q5), own_z0))).1.length = 3 := own_lay1 m1
  have n2 : (own_lay 1 q1 (own_lay 0 q0 (own_nx0 (own_bump (own_bump (own_bump (own_bump (own_bump (own_bump own_w0 q0) q1) q2) q3) q4) q5), own_z0))).2.length = 6 := own_lay2 n1
  have m3 : (own_lay 2 q2 (own_lay 1 q1 (own_lay 0 q0 (own_nx0 (own_bump (own_bump (own_bump (own_bump (own_bump (own_bump own_w0 q0) q1) q2) q3) q4) q5), own_z0)))).1.length = 3 := own_lay1 m2
  have n3 : (own_lay 2 q2 (own_lay 1 q1 (own_lay 0 q0 (own_nx0 (own_bump (own_bump (own_bump (own_bump (own_bump (own_bump own_w0 q0) q1) q2) q3) q4) q5), own_z0)))).2.length = 6 := own_lay2 n2
  have m4 : (own_lay 3 q3 (own_lay 2 q2 (own_lay 1 q1 (own_lay 0 q0 (own_nx0 (own_bump (own_bump (own_bump (own_bump (own_bump (own_bump own_w0 q0) q1) q2) q3) q4) q5), own_z0))))).1.length = 3 := own_lay1 m3
  have n4 : (own_lay 3 q3 (own_lay 2 q2 (own_lay 1 q1 (own_lay 0 q0 (own_nx0 (own_bump (own_bump (own_bump (own_bump (own_bump (own_bump own_w0 q0) q1) q2) q3) q4) q5), own_z0))))).2.length = 6 := own_lay2 n3
  have m5 : (own_lay 4 q4 (own_lay 3 q3 (own_lay 2 q2 (own_lay 1 q1 (own_lay 0 q0 (own_nx0 (own_bump (own_bump (own_bump (own_bump (own_bump (own_bump own_w0 q0) q1) q2) q3) q4) q5), own_z0)))))).1.length = 3 := own_lay1 m4
  have n5 : (own_lay 4 q4 (own_lay 3 q3 (own_lay 2 q2 (own_lay 1 q1 (own_lay 0 q0 (own_nx0 (own_bump (own_bump (own_bump (own_bump (own_bump (own_bump own_w0 q0) q1) q2) q3) q4) q5), own_z0)))))).2.length = 6 := own_lay2 n4
  have m6 : (own_lay 5 q5 (own_lay 4 q4 (own_lay 3 q3 (own_lay 2 q2 (own_lay 1 q1 (own_lay 0 q0 (own_nx0 (own_bump (own_bump (own_bump (own_bump (own_bump (own_bump own_w0 q0) q1) q2) q3) q4) q5), own_z0))))))).1.length = 3 := own_lay1 m5
  have n6 : (own_lay 5 q5 (own_lay 4 q4 (own_lay 3 q3 (own_lay 2 q2 (own_lay 1 q1 (own_lay 0 q0 (own_nx0 (own_bump (own_bump (own_bump (own_bump (own_bump (own_bump own_w0 q0) q1) q2) q3) q4) q5), own_z0))))))).2.length = 6 := own_lay2 n5
  obtain ⟨u0, u1, u2, u3, u4, u5⟩ := own_lays ⟨q0, g0⟩ ⟨q1, g1⟩ ⟨q2, g2⟩ ⟨q3, g3⟩ ⟨q4, g4⟩ ⟨q5, g5⟩
  refine own_ks.go (mt := own_m2) rfl 17 (pc' := 31) (L' := [.val (.ref 2), .val (.ref 1), .val (.ref 0), .unset]) (S' := [.ref 1, .ref 2]) (H' := [(.inr .int, [.int (Int32.ofNat q0), .int (Int32.ofNat q1), .int (Int32.ofNat q2), .int (Int32.ofNat q3), .int (Int32.ofNat q4), .int (Int32.ofNat q5)]), (.inr .int, (own_iv (own_bump (own_bump (own_bump (own_bump (own_bump (own_bump own_w0 q0) q1) q2) q3) q4) q5))), (.inl 0, [.ref 3, .ref 4, .ref 5, .null, .null, .null, .int (0 : Int32)]), (.inr .int, []), (.inr .int, []), (.inr .int, (own_iv (own_bump (own_bump (own_bump (own_bump (own_bump (own_bump own_w0 q0) q1) q2) q3) q4) q5)))]) rfl ?_
  refine own_ks.alen (mt := own_m2) rfl (t := 32) (a := 1) (z := (3 : Int32)) rfl rfl (by rw [own_iv_len, l6]; rfl) ?_
  refine own_ks.go (mt := own_m2) rfl 8 (pc' := 43) (L' := [.val (.ref 2), .val (.ref 1), .val (.ref 0), .val (.int (0 : Int32))]) (S' := [.ref 1, .int (0 : Int32)]) (H' := [(.inr .int, [.int (Int32.ofNat q0), .int (Int32.ofNat q1), .int (Int32.ofNat q2), .int (Int32.ofNat q3), .int (Int32.ofNat q4), .int (Int32.ofNat q5)]), (.inr .int, (own_iv (own_bump (own_bump (own_bump (own_bump (own_bump (own_bump own_w0 q0) q1) q2) q3) q4) q5))), (.inl 0, [.ref 3, .ref 4, .ref 5, .ref 6, .null, .null, .int (0 : Int32)]), (.inr .int, []), (.inr .int, []), (.inr .int, (own_iv (own_bump (own_bump (own_bump (own_bump (own_bump (own_bump own_w0 q0) q1) q2) q3) q4) q5))), (.inr .int, [.int (0 : Int32), .int (0 : Int32), .int (0 : Int32), .int (0 : Int32)])]) rfl ?_
  refine own_ks.alen (mt := own_m2) rfl (t := 44) (a := 1) (z := (3 : Int32)) rfl rfl (by rw [own_iv_len, l6]; rfl) ?_
  refine own_ks.go (mt := own_m2) rfl 12 (pc' := 62) (L' := [.val (.ref 2), .val (.ref 1), .val (.ref 0), .val (.int (0 : Int32))]) (S' := [.int (0 : Int32), .ref 1, .int (0 : Int32), .int (1 : Int32), .ref 6]) (H' := [(.inr .int, [.int (Int32.ofNat q0), .int (Int32.ofNat q1), .int (Int32.ofNat q2), .int (Int32.ofNat q3), .int (Int32.ofNat q4), .int (Int32.ofNat q5)]), (.inr .int, (own_iv (own_bump (own_bump (own_bump (own_bump (own_bump (own_bump own_w0 q0) q1) q2) q3) q4) q5))), (.inl 0, [.ref 3, .ref 4, .ref 5, .ref 6, .null, .null, .int (0 : Int32)]), (.inr .int, []), (.inr .int, []), (.inr .int, (own_iv (own_bump (own_bump (own_bump (own_bump (own_bump (own_bump own_w0 q0) q1) q2) q3) q4) q5))), (.inr .int, [.int (0 : Int32), .int (0 : Int32), .int (0 : Int32), .int (0 : Int32)])]) rfl ?_
  refine own_ks.iaload (mt := own_m2) rfl (t := 63) (a := 1) (v := .int ((own_bump (own_bump (own_bump (own_bump (own_bump (own_bump own_w0 q0) q1) q2) q3) q4) q5).getD 0 0)) rfl rfl rfl (own_iv_get (own_bg (by rw [l6]; decide))) ?_
  refine own_ks.go (mt := own_m2) rfl 6 (pc' := 43) (L' := [.val (.ref 2), .val (.ref 1), .val (.ref 0), .val (.int (1 : Int32))]) (S' := [.ref 1, .int (1 : Int32)]) (H' := [(.inr .int, [.int (Int32.ofNat q0), .int (Int32.ofNat q1), .int (Int32.ofNat q2), .int (Int32.ofNat q3), .int (Int32.ofNat q4), .int (Int32.ofNat q5)]), (.inr .int, (own_iv (own_bump (own_bump (own_bump (own_bump (own_bump (own_bump own_w0 q0) q1) q2) q3) q4) q5))), (.inl 0, [.ref 3, .ref 4, .ref 5, .ref 6, .null, .null, .int (0 : Int32)]), (.inr .int, []), (.inr .int, []), (.inr .int, (own_iv (own_bump (own_bump (own_bump (own_bump (own_bump (own_bump own_w0 q0) q1) q2) q3) q4) q5))), (.inr .int, [.int (0 : Int32), .int ((0 : Int32) + ((own_bump (own_bump (own_bump (own_bump (own_bump (own_bump own_w0 q0) q1) q2) q3) q4) q5).getD 0 0)), .int (0 : Int32), .int (0 : Int32)])]) rfl ?_
  refine own_ks.alen (mt := own_m2) rfl (t := 44) (a := 1) (z := (3 : Int32)) rfl rfl (by rw [own_iv_len, l6]; rfl) ?_
  refine own_ks.go (mt := own_m2) rfl 12 (pc' := 62) (L' := [.val (.ref 2), .val (.ref 1), .val (.ref 0), .val (.int (1 : Int32))]) (S' := [.int (1 : Int32), .ref 1, .int ((0 : Int32) + ((own_bump (own_bump (own_bump (own_bump (own_bump (own_bump own_w0 q0) q1) q2) q3) q4) q5).getD 0 0)), .int (2 : Int32), .ref 6]) (H' := [(.inr .int, [.int (Int32.ofNat q0), .int (Int32.ofNat q1), .int (Int32.ofNat q2), .int (Int32.ofNat q3), .int (Int32.ofNat q4), .int (Int32.ofNat q5)]), (.inr .int, (own_iv (own_bump (own_bump (own_bump (own_bump (own_bump (own_bump own_w0 q0) q1) q2) q3) q4) q5))), (.inl 0, [.ref 3, .ref 4, .ref 5, .ref 6, .null, .null, .int (0 : Int32)]), (.inr .int, []), (.inr .int, []), (.inr .int, (own_iv (own_bump (own_bump (own_bump (own_bump (own_bump (own_bump own_w0 q0) q1) q2) q3) q4) q5))), (.inr .int, [.int (0 : Int32), .int ((0 : Int32) + ((own_bump (own_bump (own_bump (own_bump (own_bump (own_bump own_w0 q0) q1) q2) q3) q4) q5).getD 0 0)), .int (0 : Int32), .int (0 : Int32)])]) rfl ?_
  refine own_ks.iaload (mt := own_m2) rfl (t := 63) (a := 1) (v := .int ((own_bump (own_bump (own_bump (own_bump (own_bump (own_bump own_w0 q0) q1) q2) q3) q4) q5).getD 1 0)) rfl rfl rfl (own_iv_get (own_bg (by rw [l6]; decide))) ?_
  refine own_ks.go (mt := own_m2) rfl 6 (pc' := 43) (L' := [.val (.ref 2), .val (.ref 1), .val (.ref 0), .val (.int (2 : Int32))]) (S' := [.ref 1, .int (2 : Int32)]) (H' := [(.inr .int, [.int (Int32.ofNat q0), .int (Int32.ofNat q1), .int (Int32.ofNat q2), .int (Int32.ofNat q3), .int (Int32.ofNat q4), .int (Int32.ofNat q5)]), (.inr .int, (own_iv (own_bump (own_bump (own_bump (own_bump (own_bump (own_bump own_w0 q0) q1) q2) q3) q4) q5))), (.inl 0, [.ref 3, .ref 4, .ref 5, .ref 6, .null, .null, .int (0 : Int32)]), (.inr .int, []), (.inr .int, []), (.inr .int, (own_iv (own_bump (own_bump (own_bump (own_bump (own_bump (own_bump own_w0 q0) q1) q2) q3) q4) q5))), (.inr .int, [.int (0 : Int32), .int ((0 : Int32) + ((own_bump (own_bump (own_bump (own_bump (own_bump (own_bump own_w0 q0) q1) q2) q3) q4) q5).getD 0 0)), .int (((0 : Int32) + ((own_bump (own_bump (own_bump (own_bump (own_bump (own_bump own_w0 q0) q1) q2) q3) q4) q5).getD 0 0)) + ((own_bump (own_bump (own_bump (own_bump (own_bump (own_bump own_w0 q0) q1) q2) q3) q4) q5).getD 1 0)), .int (0 : Int32)])]) rfl ?_
  refine own_ks.alen (mt := own_m2) rfl (t := 44) (a := 1) (z := (3 : Int32)) rfl rfl (by rw [own_iv_len, l6]; rfl) ?_
  refine own_ks.go (mt := own_m2) rfl 12 (pc' := 62) (L' := [.val (.ref 2), .val (.ref 1), .val (.ref 0), .val (.int (2 : Int32))]) (S' := [.int (2 : Int32), .ref 1, .int (((0 : Int32) + ((own_bump (own_bump (own_bump (own_bump (own_bump (own_bump own_w0 q0) q1) q2) q3) q4) q5).getD 0 0)) + ((own_bump (own_bump (own_bump (own_bump (own_bump (own_bump own_w0 q0) q1) q2) q3) q4) q5).getD 1 0)), .int (3 : Int32), .ref 6]) (H' := [(.inr .int, [.int (Int32.ofNat q0), .int (Int32.ofNat q1), .int (Int32.ofNat q2), .int (Int32.ofNat q3), .int (Int32.ofNat q4), .int (Int32.ofNat q5)]), (.inr .int, (own_iv (own_bump (own_bump (own_bump (own_bump (own_bump (own_bump own_w0 q0) q1) q2) q3) q4) q5))), (.inl 0, [.ref 3, .ref 4, .ref 5, .ref 6, .null, .null, .int (0 : Int32)]), (.inr .int, []), (.inr .int, []), (.inr .int, (own_iv (own_bump (own_bump (own_bump (own_bump (own_bump (own_bump own_w0 q0) q1) q2) q3) q4) q5))), (.inr .int, [.int (0 : Int32), .int ((0 : Int32) + ((own_bump (own_bump (own_bump (own_bump (own_bump (own_bump own_w0 q0) q1) q2) q3) q4) q5).getD 0 0)), .int (((0 : Int32) + ((own_bump (own_bump (own_bump (own_bump (own_bump (own_bump own_w0 q0) q1) q2) q3) q4) q5).getD 0 0)) + ((own_bump (own_bump (own_bump (own_bump (own_bump (own_bump own_w0 q0) q1) q2) q3) q4) q5).getD 1 0)), .int (0 : Int32)])]) rfl ?_
  refine own_ks.iaload (mt := own_m2) rfl (t := 63) (a := 1) (v := .int ((own_bump (own_bump (own_bump (own_bump (own_bump (own_bump own_w0 q0) q1) q2) q3) q4) q5).getD 2 0)) rfl rfl rfl (own_iv_get (own_bg (by rw [l6]; decide))) ?_
  refine own_ks.go (mt := own_m2) rfl 6 (pc' := 43) (L' := [.val (.ref 2), .val (.ref 1), .val (.ref 0), .val (.int (3 : Int32))]) (S' := [.ref 1, .int (3 : Int32)]) (H' := [(.inr .int, [.int (Int32.ofNat q0), .int (Int32.ofNat q1), .int (Int32.ofNat q2), .int (Int32.ofNat q3), .int (Int32.ofNat q4), .int (Int32.ofNat q5)]), (.inr .int, (own_iv (own_bump (own_bump (own_bump (own_bump (own_bump (own_bump own_w0 q0) q1) q2) q3) q4) q5))), (.inl 0, [.ref 3, .ref 4, .ref 5, .ref 6, .null, .null, .int (0 : Int32)]), (.inr .int, []), (.inr .int, []), (.inr .int, (own_iv (own_bump (own_bump (own_bump (own_bump (own_bump (own_bump own_w0 q0) q1) q2) q3) q4) q5))), (.inr .int, [.int (0 : Int32), .int ((0 : Int32) + ((own_bump (own_bump (own_bump (own_bump (own_bump (own_bump own_w0 q0) q1) q2) q3) q4) q5).getD 0 0)), .int (((0 : Int32) + ((own_bump (own_bump (own_bump (own_bump (own_bump (own_bump own_w0 q0) q1) q2) q3) q4) q5).getD 0 0)) + ((own_bump (own_bump (own_bump (own_bump (own_bump (own_bump own_w0 q0) q1) q2) q3) q4) q5).getD 1 0)), .int ((((0 : Int32) + ((own_bump (own_bump (own_bump (own_bump (own_bump (own_bump own_w0 q0) q1) q2) q3) q4) q5).getD 0 0)) + ((own_bump (own_bump (own_bump (own_bump (own_bump (own_bump own_w0 q0) q1) q2) q3) q4) q5).getD 1 0)) + ((own_bump (own_bump (own_bump (own_bump (own_bump (own_bump own_w0 q0) q1) q2) q3) q4) q5).getD 2 0))])]) rfl ?_
  refine own_ks.alen (mt := own_m2) rfl (t := 44) (a := 1) (z := (3 : Int32)) rfl rfl (by rw [own_iv_len, l6]; rfl) ?_
  refine own_ks.go (mt := own_m2) rfl 11 (pc' := 86) (L' := [.val (.ref 2), .val (.ref 1), .val (.ref 0), .val (.int (3 : Int32))]) (S' := [.ref 1, .ref 6, .ref 0, .ref 2]) (H' := [(.inr .int, [.int (Int32.ofNat q0), .int (Int32.ofNat q1), .int (Int32.ofNat q2), .int (Int32.ofNat q3), .int (Int32.ofNat q4), .int (Int32.ofNat q5)]), (.inr .int, (own_iv (own_bump (own_bump (own_bump (own_bump (own_bump (own_bump own_w0 q0) q1) q2) q3) q4) q5))), (.inl 0, [.ref 3, .ref 4, .ref 5, .ref 6, .ref 7, .null, .int (0 : Int32)]), (.inr .int, []), (.inr .int, []), (.inr .int, (own_iv (own_bump (own_bump (own_bump (own_bump (own_bump (own_bump own_w0 q0) q1) q2) q3) q4) q5))), (.inr .int, [.int (0 : Int32), .int ((0 : Int32) + ((own_bump (own_bump (own_bump (own_bump (own_bump (own_bump own_w0 q0) q1) q2) q3) q4) q5).getD 0 0)), .int (((0 : Int32) + ((own_bump (own_bump (own_bump (own_bump (own_bump (own_bump own_w0 q0) q1) q2) q3) q4) q5).getD 0 0)) + ((own_bump (own_bump (own_bump (own_bump (own_bump (own_bump own_w0 q0) q1) q2) q3) q4) q5).getD 1 0)), .int ((((0 : Int32) + ((own_bump (own_bump (own_bump (own_bump (own_bump (own_bump own_w0 q0) q1) q2) q3) q4) q5).getD 0 0)) + ((own_bump (own_bump (own_bump (own_bump (own_bump (own_bump own_w0 q0) q1) q2) q3) q4) q5).getD 1 0)) + ((own_bump (own_bump (own_bump (own_bump (own_bump (own_bump own_w0 q0) q1) q2) q3) q4) q5).getD 2 0))]), (.inr .int, [.int (0 : Int32), .int (0 : Int32), .int (0 : Int32), .int (0 : Int32), .int (0 : Int32), .int (0 : Int32)])]) rfl ?_
  refine own_ks.alen (mt := own_m2) rfl (t := 87) (a := 1) (z := (3 : Int32)) rfl rfl (by rw [own_iv_len, l6]; rfl) ?_
  refine own_ks.into (mt := own_m2) (mj := own_m3) rfl (ins := .invokestatic 30) (t := 90) (j := 3) (as := [.ref 6, .int (3 : Int32)]) (r' := [.ref 0, .ref 2]) (L' := [.val (.ref 6), .val (.int (3 : Int32)), .unset]) rfl rfl rfl rfl rfl rfl rfl rfl ?_
  refine own_ks.go (mt := own_m3) rfl 14 (pc' := 25) (L' := [.val (.ref 6), .val (.int (3 : Int32)), .val (.ref 8)]) (S' := [.int (3 : Int32), .int (4 : Int32), .int (0 : Int32), .ref 8, .int (0 : Int32), .ref 6]) (H' := [(.inr .int, [.int (Int32.ofNat q0), .int (Int32.ofNat q1), .int (Int32.ofNat q2), .int (Int32.ofNat q3), .int (Int32.ofNat q4), .int (Int32.ofNat q5)]), (.inr .int, (own_iv (own_bump (own_bump (own_bump (own_bump (own_bump (own_bump own_w0 q0) q1) q2) q3) q4) q5))), (.inl 0, [.ref 3, .ref 4, .ref 5, .ref 6, .ref 7, .null, .int (0 : Int32)]), (.inr .int, []), (.inr .int, []), (.inr .int, (own_iv (own_bump (own_bump (own_bump (own_bump (own_bump (own_bump own_w0 q0) q1) q2) q3) q4) q5))), (.inr .int, [.int (0 : Int32), .int ((0 : Int32) + ((own_bump (own_bump (own_bump (own_bump (own_bump (own_bump own_w0 q0) q1) q2) q3) q4) q5).getD 0 0)), .int (((0 : Int32) + ((own_bump (own_bump (own_bump (own_bump (own_bump (own_bump own_w0 q0) q1) q2) q3) q4) q5).getD 0 0)) + ((own_bump (own_bump (own_bump (own_bump (own_bump (own_bump own_w0 q0) q1) q2) q3) q4) q5).getD 1 0)), .int ((((0 : Int32) + ((own_bump (own_bump (own_bump (own_bump (own_bump (own_bump own_w0 q0) q1) q2) q3) q4) q5).getD 0 0)) + ((own_bump (own_bump (own_bump (own_bump (own_bump (own_bump own_w0 q0) q1) q2) q3) q4) q5).getD 1 0)) + ((own_bump (own_bump (own_bump (own_bump (own_bump (own_bump own_w0 q0) q1) q2) q3) q4) q5).getD 2 0))]), (.inr .int, [.int (0 : Int32), .int (0 : Int32), .int (0 : Int32), .int (0 : Int32), .int (0 : Int32), .int (0 : Int32)]), (.inr .int, [.int (0 : Int32), .int (0 : Int32), .int (0 : Int32)])]) rfl ?_
  refine own_ks.into (mt := own_m3) (mj := own_m4) rfl (ins := .invokestatic 304) (t := 28) (j := 4) (as := [.int (4 : Int32), .int (3 : Int32)]) (r' := [.int (0 : Int32), .ref 8, .int (0 : Int32), .ref 6]) (L' := [.val (.int (4 : Int32)), .val (.int (3 : Int32))]) rfl rfl rfl rfl rfl rfl rfl rfl ?_
  refine own_ks.go (mt := own_m4) rfl 4 (pc' := 10) (L' := [.val (.int (4 : Int32)), .val (.int (3 : Int32))]) (S' := [.int (3 : Int32)]) (H' := [(.inr .int, [.int (Int32.ofNat q0), .int (Int32.ofNat q1), .int (Int32.ofNat q2), .int (Int32.ofNat q3), .int (Int32.ofNat q4), .int (Int32.ofNat q5)]), (.inr .int, (own_iv (own_bump (own_bump (own_bump (own_bump (own_bump (own_bump own_w0 q0) q1) q2) q3) q4) q5))), (.inl 0, [.ref 3, .ref 4, .ref 5, .ref 6, .ref 7, .null, .int (0 : Int32)]), (.inr .int, []), (.inr .int, []), (.inr .int, (own_iv (own_bump (own_bump (own_bump (own_bump (own_bump (own_bump own_w0 q0) q1) q2) q3) q4) q5))), (.inr .int, [.int (0 : Int32), .int ((0 : Int32) + ((own_bump (own_bump (own_bump (own_bump (own_bump (own_bump own_w0 q0) q1) q2) q3) q4) q5).getD 0 0)), .int (((0 : Int32) + ((own_bump (own_bump (own_bump (own_bump (own_bump (own_bump own_w0 q0) q1) q2) q3) q4) q5).getD 0 0)) + ((own_bump (own_bump (own_bump (own_bump (own_bump (own_bump own_w0 q0) q1) q2) q3) q4) q5).getD 1 0)), .int ((((0 : Int32) + ((own_bump (own_bump (own_bump (own_bump (own_bump (own_bump own_w0 q0) q1) q2) q3) q4) q5).getD 0 0)) + ((own_bump (own_bump (own_bump (own_bump (own_bump (own_bump own_w0 q0) q1) q2) q3) q4) q5).getD 1 0)) + ((own_bump (own_bump (own_bump (own_bump (own_bump (own_bump own_w0 q0) q1) q2) q3) q4) q5).getD 2 0))]), (.inr .int, [.int (0 : Int32), .int (0 : Int32), .int (0 : Int32), .int (0 : Int32), .int (0 : Int32), .int (0 : Int32)]), (.inr .int, [.int (0 : Int32), .int (0 : Int32), .int (0 : Int32)])]) rfl ?_
  refine own_ks.back (mt := own_m4) rfl (ins := .ireturn) (t := 11) (v := some (.int (3 : Int32))) (S2 := [.int (3 : Int32), .int (0 : Int32), .ref 8, .int (0 : Int32), .ref 6]) rfl rfl rfl ?_
  refine own_ks.go (mt := own_m3) rfl 2 (pc' := 32) (L' := [.val (.ref 6), .val (.int (3 : Int32)), .val (.ref 8)]) (S' := [.ref 8]) (H' := [(.inr .int, [.int (Int32.ofNat q0), .int (Int32.ofNat q1), .int (Int32.ofNat q2), .int (Int32.ofNat q3), .int (Int32.ofNat q4), .int (Int32.ofNat q5)]), (.inr .int, (own_iv (own_bump (own_bump (own_bump (own_bump (own_bump (own_bump own_w0 q0) q1) q2) q3) q4) q5))), (.inl 0, [.ref 3, .ref 4, .ref 5, .ref 6, .ref 7, .null, .int (0 : Int32)]), (.inr .int, []), (.inr .int, []), (.inr .int, (own_iv (own_bump (own_bump (own_bump (own_bump (own_bump (own_bump own_w0 q0) q1) q2) q3) q4) q5))), (.inr .int, [.int (0 : Int32), .int ((0 : Int32) + ((own_bump (own_bump (own_bump (own_bump (own_bump (own_bump own_w0 q0) q1) q2) q3) q4) q5).getD 0 0)), .int (((0 : Int32) + ((own_bump (own_bump (own_bump (own_bump (own_bump (own_bump own_w0 q0) q1) q2) q3) q4) q5).getD 0 0)) + ((own_bump (own_bump (own_bump (own_bump (own_bump (own_bump own_w0 q0) q1) q2) q3) q4) q5).getD 1 0)), .int ((((0 : Int32) + ((own_bump (own_bump (own_bump (own_bump (own_bump (own_bump own_w0 q0) q1) q2) q3) q4) q5).getD 0 0)) + ((own_bump (own_bump (own_bump (own_bump (own_bump (own_bump own_w0 q0) q1) q2) q3) q4) q5).getD 1 0)) + ((own_bump (own_bump (own_bump (own_bump (own_bump (own_bump own_w0 q0) q1) q2) q3) q4) q5).getD 2 0))]), (.inr .int, [.int (0 : Int32), .int (0 : Int32), .int (0 : Int32), .int (0 : Int32), .int (0 : Int32), .int (0 : Int32)]), (.inr .int, [.int (0 : Int32), .int ((0 : Int32) + ((own_bump (own_bump (own_bump (own_bump (own_bump (own_bump own_w0 q0) q1) q2) q3) q4) q5).getD 0 0)), .int (((0 : Int32) + ((own_bump (own_bump (own_bump (own_bump (own_bump (own_bump own_w0 q0) q1) q2) q3) q4) q5).getD 0 0)) + ((own_bump (own_bump (own_bump (own_bump (own_bump (own_bump own_w0 q0) q1) q2) q3) q4) q5).getD 1 0))])]) rfl ?_
  refine own_ks.back (mt := own_m3) rfl (ins := .areturn) (t := 33) (v := some (.ref 8)) (S2 := [.ref 8, .ref 0, .ref 2]) rfl rfl rfl ?_
  refine own_ks.into (mt := own_m2) (mj := own_m5) rfl (ins := .invokevirtual 36) (t := 93) (j := 5) (as := [.ref 2, .ref 0, .ref 8]) (r' := []) (L' := [.val (.ref 2), .val (.ref 0), .val (.ref 8), .unset]) rfl rfl rfl rfl rfl rfl rfl rfl ?_
  refine own_ks.go (mt := own_m5) rfl 2 (pc' := 2) (L' := [.val (.ref 2), .val (.ref 0), .val (.ref 8), .val (.int (0 : Int32))]) (S' := []) (H' := [(.inr .int, [.int (Int32.ofNat q0), .int (Int32.ofNat q1), .int (Int32.ofNat q2), .int (Int32.ofNat q3), .int (Int32.ofNat q4), .int (Int32.ofNat q5)]), (.inr .int, (own_iv (own_bump (own_bump (own_bump (own_bump (own_bump (own_bump own_w0 q0) q1) q2) q3) q4) q5))), (.inl 0, [.ref 3, .ref 4, .ref 5, .ref 6, .ref 7, .null, .int (0 : Int32)]), (.inr .int, []), (.inr .int, []), (.inr .int, (own_iv (own_bump (own_bump (own_bump (own_bump (own_bump (own_bump own_w0 q0) q1) q2) q3) q4) q5))), (.inr .int, [.int (0 : Int32), .int ((0 : Int32) + ((own_bump (own_bump (own_bump (own_bump (own_bump (own_bump own_w0 q0) q1) q2) q3) q4) q5).getD 0 0)), .int (((0 : Int32) + ((own_bump (own_bump (own_bump (own_bump (own_bump (own_bump own_w0 q0) q1) q2) q3) q4) q5).getD 0 0)) + ((own_bump (own_bump (own_bump (own_bump (own_bump (own_bump own_w0 q0) q1) q2) q3) q4) q5).getD 1 0)), .int ((((0 : Int32) + ((own_bump (own_bump (own_bump (own_bump (own_bump (own_bump own_w0 q0) q1) q2) q3) q4) q5).getD 0 0)) + ((own_bump (own_bump (own_bump (own_bump (own_bump (own_bump own_w0 q0) q1) q2) q3) q4) q5).getD 1 0)) + ((own_bump (own_bump (own_bump (own_bump (own_bump (own_bump own_w0 q0) q1) q2) q3) q4) q5).getD 2 0))]), (.inr .int, [.int (0 : Int32), .int (0 : Int32), .int (0 : Int32), .int (0 : Int32), .int (0 : Int32), .int (0 : Int32)]), (.inr .int, [.int (0 : Int32), .int ((0 : Int32) + ((own_bump (own_bump (own_bump (own_bump (own_bump (own_bump own_w0 q0) q1) q2) q3) q4) q5).getD 0 0)), .int (((0 : Int32) + ((own_bump (own_bump (own_bump (own_bump (own_bump (own_bump own_w0 q0) q1) q2) q3) q4) q5).getD 0 0)) + ((own_bump (own_bump (own_bump (own_bump (own_bump (own_bump own_w0 q0) q1) q2) q3) q4) q5).getD 1 0))])]) rfl ?_
  refine own_ks.go (mt := own_m5) rfl 0 (pc' := 2) (L' := [.val (.ref 2), .val (.ref 0), .val (.ref 8), .val (.int (0 : Int32))]) (S' := []) (H' := [(.inr .int, [.int (Int32.ofNat q0), .int (Int32.ofNat q1), .int (Int32.ofNat q2), .int (Int32.ofNat q3), .int (Int32.ofNat q4), .int (Int32.ofNat q5)]), (.inr .int, (own_iv (own_bump (own_bump (own_bump (own_bump (own_bump (own_bump own_w0 q0) q1) q2) q3) q4) q5))), (.inl 0, [.ref 3, .ref 4, .ref 5, .ref 6, .ref 7, .null, .int (0 : Int32)]), (.inr .int, []), (.inr .int, []), (.inr .int, (own_iv (own_bump (own_bump (own_bump (own_bump (own_bump (own_bump own_w0 q0) q1) q2) q3) q4) q5))), (.inr .int, [.int (0 : Int32), .int ((0 : Int32) + ((own_bump (own_bump (own_bump (own_bump (own_bump (own_bump own_w0 q0) q1) q2) q3) q4) q5).getD 0 0)), .int (((0 : Int32) + ((own_bump (own_bump (own_bump (own_bump (own_bump (own_bump own_w0 q0) q1) q2) q3) q4) q5).getD 0 0)) + ((own_bump (own_bump (own_bump (own_bump (own_bump (own_bump own_w0 q0) q1) q2) q3) q4) q5).getD 1 0)), .int ((((0 : Int32) + ((own_bump (own_bump (own_bump (own_bump (own_bump (own_bump own_w0 q0) q1) q2) q3) q4) q5).getD 0 0)) + ((own_bump (own_bump (own_bump (own_bump (own_bump (own_bump own_w0 q0) q1) q2) q3) q4) q5).getD 1 0)) + ((own_bump (own_bump (own_bump (own_bump (own_bump (own_bump own_w0 q0) q1) q2) q3) q4) q5).getD 2 0))]), (.inr .int, (own_iv (own_nx0 (own_bump (own_bump (own_bump (own_bump (own_bump (own_bump own_w0 q0) q1) q2) q3) q4) q5), own_z0).2)), (.inr .int, (own_iv (own_nx0 (own_bump (own_bump (own_bump (own_bump (own_bump (own_bump own_w0 q0) q1) q2) q3) q4) q5), own_z0).1))]) rfl ?_
  refine own_ks.go (mt := own_m5) rfl 3 (pc' := 7) (L' := [.val (.ref 2), .val (.ref 0), .val (.ref 8), .val (.int (0 : Int32))]) (S' := [.ref 7, .int (0 : Int32)]) (H' := [(.inr .int, [.int (Int32.ofNat q0), .int (Int32.ofNat q1), .int (Int32.ofNat q2), .int (Int32.ofNat q3), .int (Int32.ofNat q4), .int (Int32.ofNat q5)]), (.inr .int, (own_iv (own_bump (own_bump (own_bump (own_bump (own_bump (own_bump own_w0 q0) q1) q2) q3) q4) q5))), (.inl 0, [.ref 3, .ref 4, .ref 5, .ref 6, .ref 7, .null, .int (0 : Int32)]), (.inr .int, []), (.inr .int, []), (.inr .int, (own_iv (own_bump (own_bump (own_bump (own_bump (own_bump (own_bump own_w0 q0) q1) q2) q3) q4) q5))), (.inr .int, [.int (0 : Int32), .int ((0 : Int32) + ((own_bump (own_bump (own_bump (own_bump (own_bump (own_bump own_w0 q0) q1) q2) q3) q4) q5).getD 0 0)), .int (((0 : Int32) + ((own_bump (own_bump (own_bump (own_bump (own_bump (own_bump own_w0 q0) q1) q2) q3) q4) q5).getD 0 0)) + ((own_bump (own_bump (own_bump (own_bump (own_bump (own_bump own_w0 q0) q1) q2) q3) q4) q5).getD 1 0)), .int ((((0 : Int32) + ((own_bump (own_bump (own_bump (own_bump (own_bump (own_bump own_w0 q0) q1) q2) q3) q4) q5).getD 0 0)) + ((own_bump (own_bump (own_bump (own_bump (own_bump (own_bump own_w0 q0) q1) q2) q3) q4) q5).getD 1 0)) + ((own_bump (own_bump (own_bump (own_bump (own_bump (own_bump own_w0 q0) q1) q2) q3) q4) q5).getD 2 0))]), (.inr .int, (own_iv (own_nx0 (own_bump (own_bump (own_bump (own_bump (own_bump (own_bump own_w0 q0) q1) q2) q3) q4) q5), own_z0).2)), (.inr .int, (own_iv (own_nx0 (own_bump (own_bump (own_bump (own_bump (own_bump (own_bump own_w0 q0) q1) q2) q3) q4) q5), own_z0).1))]) rfl ?_
  refine own_ks.alen (mt := own_m5) rfl (t := 8) (a := 7) (z := (6 : Int32)) rfl rfl (by rw [own_iv_len, n0]; rfl) ?_
  refine own_ks.go (mt := own_m5) rfl 8 (pc' := 20) (L' := [.val (.ref 2), .val (.ref 0), .val (.ref 8), .val (.int (0 : Int32))]) (S' := [.int (Int32.ofNat q0), .ref 8, .int (Int32.ofNat q0), .ref 8, .ref 7]) (H' := [(.inr .int, [.int (Int32.ofNat q0), .int (Int32.ofNat q1), .int (Int32.ofNat q2), .int (Int32.ofNat q3), .int (Int32.ofNat q4), .int (Int32.ofNat q5)]), (.inr .int, (own_iv (own_bump (own_bump (own_bump (own_bump (own_bump (own_bump own_w0 q0) q1) q2) q3) q4) q5))), (.inl 0, [.ref 3, .ref 4, .ref 5, .ref 6, .ref 7, .null, .int (0 : Int32)]), (.inr .int, []), (.inr .int, []), (.inr .int, (own_iv (own_bump (own_bump (own_bump (own_bump (own_bump (own_bump own_w0 q0) q1) q2) q3) q4) q5))), (.inr .int, [.int (0 : Int32), .int ((0 : Int32) + ((own_bump (own_bump (own_bump (own_bump (own_bump (own_bump own_w0 q0) q1) q2) q3) q4) q5).getD 0 0)), .int (((0 : Int32) + ((own_bump (own_bump (own_bump (own_bump (own_bump (own_bump own_w0 q0) q1) q2) q3) q4) q5).getD 0 0)) + ((own_bump (own_bump (own_bump (own_bump (own_bump (own_bump own_w0 q0) q1) q2) q3) q4) q5).getD 1 0)), .int ((((0 : Int32) + ((own_bump (own_bump (own_bump (own_bump (own_bump (own_bump own_w0 q0) q1) q2) q3) q4) q5).getD 0 0)) + ((own_bump (own_bump (own_bump (own_bump (own_bump (own_bump own_w0 q0) q1) q2) q3) q4) q5).getD 1 0)) + ((own_bump (own_bump (own_bump (own_bump (own_bump (own_bump own_w0 q0) q1) q2) q3) q4) q5).getD 2 0))]), (.inr .int, (own_iv (own_nx0 (own_bump (own_bump (own_bump (own_bump (own_bump (own_bump own_w0 q0) q1) q2) q3) q4) q5), own_z0).2)), (.inr .int, (own_iv (own_nx0 (own_bump (own_bump (own_bump (own_bump (own_bump (own_bump own_w0 q0) q1) q2) q3) q4) q5), own_z0).1))]) rfl ?_
  refine own_ks.iaload (mt := own_m5) rfl (t := 21) (a := 8) (v := .int ((own_nx0 (own_bump (own_bump (own_bump (own_bump (own_bump (own_bump own_w0 q0) q1) q2) q3) q4) q5), own_z0).1.getD q0 0)) rfl rfl (own_ixo (by omega)) (own_iv_get (own_bg (by rw [m0]; exact g0))) ?_
  refine own_ks.go (mt := own_m5) rfl 3 (pc' := 24) (L' := [.val (.ref 2), .val (.ref 0), .val (.ref 8), .val (.int (0 : Int32))]) (S' := [.int (((own_nx0 (own_bump (own_bump (own_bump (own_bump (own_bump (own_bump own_w0 q0) q1) q2) q3) q4) q5), own_z0).1.getD q0 0) + (1 : Int32)), .int (Int32.ofNat q0), .ref 8, .int ((own_nx0 (own_bump (own_bump (own_bump (own_bump (own_bump (own_bump own_w0 q0) q1) q2) q3) q4) q5), own_z0).1.getD q0 0), .ref 7]) (H' := [(.inr .int, [.int (Int32.ofNat q0), .int (Int32.ofNat q1), .int (Int32.ofNat q2), .int (Int32.ofNat q3), .int (Int32.ofNat q4), .int (Int32.ofNat q5)]), (.inr .int, (own_iv (own_bump (own_bump (own_bump (own_bump (own_bump (own_bump own_w0 q0) q1) q2) q3) q4) q5))), (.inl 0, [.ref 3, .ref 4, .ref 5, .ref 6, .ref 7, .null, .int (0 : Int32)]), (.inr .int, []), (.inr .int, []), (.inr .int, (own_iv (own_bump (own_bump (own_bump (own_bump (own_bump (own_bump own_w0 q0) q1) q2) q3) q4) q5))), (.inr .int, [.int (0 : Int32), .int ((0 : Int32) + ((own_bump (own_bump (own_bump (own_bump (own_bump (own_bump own_w0 q0) q1) q2) q3) q4) q5).getD 0 0)), .int (((0 : Int32) + ((own_bump (own_bump (own_bump (own_bump (own_bump (own_bump own_w0 q0) q1) q2) q3) q4) q5).getD 0 0)) + ((own_bump (own_bump (own_bump (own_bump (own_bump (own_bump own_w0 q0) q1) q2) q3) q4) q5).getD 1 0)), .int ((((0 : Int32) + ((own_bump (own_bump (own_bump (own_bump (own_bump (own_bump own_w0 q0) q1) q2) q3) q4) q5).getD 0 0)) + ((own_bump (own_bump (own_bump (own_bump (own_bump (own_bump own_w0 q0) q1) q2) q3) q4) q5).getD 1 0)) + ((own_bump (own_bump (own_bump (own_bump (own_bump (own_bump own_w0 q0) q1) q2) q3) q4) q5).getD 2 0))]), (.inr .int, (own_iv (own_nx0 (own_bump (own_bump (own_bump (own_bump (own_bump (own_bump own_w0 q0) q1) q2) q3) q4) q5), own_z0).2)), (.inr .int, (own_iv (own_nx0 (own_bump (own_bump (own_bump (own_bump (own_bump (own_bump own_w0 q0) q1) q2) q3) q4) q5), own_z0).1))]) rfl ?_
  refine own_ks.iastore (mt := own_m5) rfl (t := 25) (a := 8) (H' := [(.inr .int, [.int (Int32.ofNat q0), .int (Int32.ofNat q1), .int (Int32.ofNat q2), .int (Int32.ofNat q3), .int (Int32.ofNat q4), .int (Int32.ofNat q5)]), (.inr .int, (own_iv (own_bump (own_bump (own_bump (own_bump (own_bump (own_bump own_w0 q0) q1) q2) q3) q4) q5))), (.inl 0, [.ref 3, .ref 4, .ref 5, .ref 6, .ref 7, .null, .int (0 : Int32)]), (.inr .int, []), (.inr .int, []), (.inr .int, (own_iv (own_bump (own_bump (own_bump (own_bump (own_bump (own_bump own_w0 q0) q1) q2) q3) q4) q5))), (.inr .int, [.int (0 : Int32), .int ((0 : Int32) + ((own_bump (own_bump (own_bump (own_bump (own_bump (own_bump own_w0 q0) q1) q2) q3) q4) q5).getD 0 0)), .int (((0 : Int32) + ((own_bump (own_bump (own_bump (own_bump (own_bump (own_bump own_w0 q0) q1) q2) q3) q4) q5).getD 0 0)) + ((own_bump (own_bump (own_bump (own_bump (own_bump (own_bump own_w0 q0) q1) q2) q3) q4) q5).getD 1 0)), .int ((((0 : Int32) + ((own_bump (own_bump (own_bump (own_bump (own_bump (own_bump own_w0 q0) q1) q2) q3) q4) q5).getD 0 0)) + ((own_bump (own_bump (own_bump (own_bump (own_bump (own_bump own_w0 q0) q1) q2) q3) q4) q5).getD 1 0)) + ((own_bump (own_bump (own_bump (own_bump (own_bump (own_bump own_w0 q0) q1) q2) q3) q4) q5).getD 2 0))]), (.inr .int, (own_iv (own_nx0 (own_bump (own_bump (own_bump (own_bump (own_bump (own_bump own_w0 q0) q1) q2) q3) q4) q5), own_z0).2)), (.inr .int, (own_iv (own_lay 0 q0 (own_nx0 (own_bump (own_bump (own_bump (own_bump (own_bump (own_bump own_w0 q0) q1) q2) q3) q4) q5), own_z0)).1))]) rfl rfl (own_ixo (by omega)) (own_lt' (by rw [m0]; exact g0)) (by rw [own_iv_set]; rfl) ?_
  refine own_ks.go (mt := own_m5) rfl 1 (pc' := 26) (L' := [.val (.ref 2), .val (.ref 0), .val (.ref 8), .val (.int (0 : Int32))]) (S' := [.int (0 : Int32), .int ((own_nx0 (own_bump (own_bump (own_bump (own_bump (own_bump (own_bump own_w0 q0) q1) q2) q3) q4) q5), own_z0).1.getD q0 0), .ref 7]) (H' := [(.inr .int, [.int (Int32.ofNat q0), .int (Int32.ofNat q1), .int (Int32.ofNat q2), .int (Int32.ofNat q3), .int (Int32.ofNat q4), .int (Int32.ofNat q5)]), (.inr .int, (own_iv (own_bump (own_bump (own_bump (own_bump (own_bump (own_bump own_w0 q0) q1) q2) q3) q4) q5))), (.inl 0, [.ref 3, .ref 4, .ref 5, .ref 6, .ref 7, .null, .int (0 : Int32)]), (.inr .int, []), (.inr .int, []), (.inr .int, (own_iv (own_bump (own_bump (own_bump (own_bump (own_bump (own_bump own_w0 q0) q1) q2) q3) q4) q5))), (.inr .int, [.int (0 : Int32), .int ((0 : Int32) + ((own_bump (own_bump (own_bump (own_bump (own_bump (own_bump own_w0 q0) q1) q2) q3) q4) q5).getD 0 0)), .int (((0 : Int32) + ((own_bump (own_bump (own_bump (own_bump (own_bump (own_bump own_w0 q0) q1) q2) q3) q4) q5).getD 0 0)) + ((own_bump (own_bump (own_bump (own_bump (own_bump (own_bump own_w0 q0) q1) q2) q3) q4) q5).getD 1 0)), .int ((((0 : Int32) + ((own_bump (own_bump (own_bump (own_bump (own_bump (own_bump own_w0 q0) q1) q2) q3) q4) q5).getD 0 0)) + ((own_bump (own_bump (own_bump (own_bump (own_bump (own_bump own_w0 q0) q1) q2) q3) q4) q5).getD 1 0)) + ((own_bump (own_bump (own_bump (own_bump (own_bump (own_bump own_w0 q0) q1) q2) q3) q4) q5).getD 2 0))]), (.inr .int, (own_iv (own_nx0 (own_bump (own_bump (own_bump (own_bump (own_bump (own_bump own_w0 q0) q1) q2) q3) q4) q5), own_z0).2)), (.inr .int, (own_iv (own_lay 0 q0 (own_nx0 (own_bump (own_bump (own_bump (own_bump (own_bump (own_bump own_w0 q0) q1) q2) q3) q4) q5), own_z0)).1))]) rfl ?_
  refine own_ks.iastore (mt := own_m5) rfl (t := 27) (a := 7) (H' := [(.inr .int, [.int (Int32.ofNat q0), .int (Int32.ofNat q1), .int (Int32.ofNat q2), .int (Int32.ofNat q3), .int (Int32.ofNat q4), .int (Int32.ofNat q5)]), (.inr .int, (own_iv (own_bump (own_bump (own_bump (own_bump (own_bump (own_bump own_w0 q0) q1) q2) q3) q4) q5))), (.inl 0, [.ref 3, .ref 4, .ref 5, .ref 6, .ref 7, .null, .int (0 : Int32)]), (.inr .int, []), (.inr .int, []), (.inr .int, (own_iv (own_bump (own_bump (own_bump (own_bump (own_bump (own_bump own_w0 q0) q1) q2) q3) q4) q5))), (.inr .int, [.int (0 : Int32), .int ((0 : Int32) + ((own_bump (own_bump (own_bump (own_bump (own_bump (own_bump own_w0 q0) q1) q2) q3) q4) q5).getD 0 0)), .int (((0 : Int32) + ((own_bump (own_bump (own_bump (own_bump (own_bump (own_bump own_w0 q0) q1) q2) q3) q4) q5).getD 0 0)) + ((own_bump (own_bump (own_bump (own_bump (own_bump (own_bump own_w0 q0) q1) q2) q3) q4) q5).getD 1 0)), .int ((((0 : Int32) + ((own_bump (own_bump (own_bump (own_bump (own_bump (own_bump own_w0 q0) q1) q2) q3) q4) q5).getD 0 0)) + ((own_bump (own_bump (own_bump (own_bump (own_bump (own_bump own_w0 q0) q1) q2) q3) q4) q5).getD 1 0)) + ((own_bump (own_bump (own_bump (own_bump (own_bump (own_bump own_w0 q0) q1) q2) q3) q4) q5).getD 2 0))]), (.inr .int, (own_iv (own_lay 0 q0 (own_nx0 (own_bump (own_bump (own_bump (own_bump (own_bump (own_bump own_w0 q0) q1) q2) q3) q4) q5), own_z0)).2)), (.inr .int, (own_iv (own_lay 0 q0 (own_nx0 (own_bump (own_bump (own_bump (own_bump (own_bump (own_bump own_w0 q0) q1) q2) q3) q4) q5), own_z0)).1))]) rfl rfl (own_ixc (u0).1) (own_lt' (by rw [n0]; exact (u0).2)) (by rw [own_iv_set]; rfl) ?_
  refine own_ks.go (mt := own_m5) rfl 2 (pc' := 2) (L' := [.val (.ref 2), .val (.ref 0), .val (.ref 8), .val (.int (1 : Int32))]) (S' := []) (H' := [(.inr .int, [.int (Int32.ofNat q0), .int (Int32.ofNat q1), .int (Int32.ofNat q2), .int (Int32.ofNat q3), .int (Int32.ofNat q4), .int (Int32.ofNat q5)]), (.inr .int, (own_iv (own_bump (own_bump (own_bump (own_bump (own_bump (own_bump own_w0 q0) q1) q2) q3) q4) q5))), (.inl 0, [.ref 3, .ref 4, .ref 5, .ref 6, .ref 7, .null, .int (0 : Int32)]), (.inr .int, []), (.inr .int, []), (.inr .int, (own_iv (own_bump (own_bump (own_bump (own_bump (own_bump (own_bump own_w0 q0) q1) q2) q3) q4) q5))), (.inr .int, [.int (0 : Int32), .int ((0 : Int32) + ((own_bump (own_bump (own_bump (own_bump (own_bump (own_bump own_w0 q0) q1) q2) q3) q4) q5).getD 0 0)), .int (((0 : Int32) + ((own_bump (own_bump (own_bump (own_bump (own_bump (own_bump own_w0 q0) q1) q2) q3) q4) q5).getD 0 0)) + ((own_bump (own_bump (own_bump (own_bump (own_bump (own_bump own_w0 q0) q1) q2) q3) q4) q5).getD 1 0)), .int ((((0 : Int32) + ((own_bump (own_bump (own_bump (own_bump (own_bump (own_bump own_w0 q0) q1) q2) q3) q4) q5).getD 0 0)) + ((own_bump (own_bump (own_bump (own_bump (own_bump (own_bump own_w0 q0) q1) q2) q3) q4) q5).getD 1 0)) + ((own_bump (own_bump (own_bump (own_bump (own_bump (own_bump own_w0 q0) q1) q2) q3) q4) q5).getD 2 0))]), (.inr .int, (own_iv (own_lay 0 q0 (own_nx0 (own_bump (own_bump (own_bump (own_bump (own_bump (own_bump own_w0 q0) q1) q2) q3) q4) q5), own_z0)).2)), (.inr .int, (own_iv (own_lay 0 q0 (own_nx0 (own_bump (own_bump (own_bump (own_bump (own_bump (own_bump own_w0 q0) q1) q2) q3) q4) q5), own_z0)).1))]) rfl ?_
  refine own_ks.go (mt := own_m5) rfl 3 (pc' := 7) (L' := [.val (.ref 2), .val (.ref 0), .val (.ref 8), .val (.int (1 : Int32))]) (S' := [.ref 7, .int (1 : Int32)]) (H' := [(.inr .int, [.int (Int32.ofNat q0), .int (Int32.ofNat q1), .int (Int32.ofNat q2), .int (Int32.ofNat q3), .int (Int32.ofNat q4), .int (Int32.ofNat q5)]), (.inr .int, (own_iv (own_bump (own_bump (own_bump (own_bump (own_bump (own_bump own_w0 q0) q1) q2) q3) q4) q5))), (.inl 0, [.ref 3, .ref 4, .ref 5, .ref 6, .ref 7, .null, .int (0 : Int32)]), (.inr .int, []), (.inr .int, []), (.inr .int, (own_iv (own_bump (own_bump (own_bump (own_bump (own_bump (own_bump own_w0 q0) q1) q2) q3) q4) q5))), (.inr .int, [.int (0 : Int32), .int ((0 : Int32) + ((own_bump (own_bump (own_bump (own_bump (own_bump (own_bump own_w0 q0) q1) q2) q3) q4) q5).getD 0 0)), .int (((0 : Int32) + ((own_bump (own_bump (own_bump (own_bump (own_bump (own_bump own_w0 q0) q1) q2) q3) q4) q5).getD 0 0)) + ((own_bump (own_bump (own_bump (own_bump (own_bump (own_bump own_w0 q0) q1) q2) q3) q4) q5).getD 1 0)), .int ((((0 : Int32) + ((own_bump (own_bump (own_bump (own_bump (own_bump (own_bump own_w0 q0) q1) q2) q3) q4) q5).getD 0 0)) + ((own_bump (own_bump (own_bump (own_bump (own_bump (own_bump own_w0 q0) q1) q2) q3) q4) q5).getD 1 0)) + ((own_bump (own_bump (own_bump (own_bump (own_bump (own_bump own_w0 q0) q1) q2) q3) q4) q5).getD 2 0))]), (.inr .int, (own_iv (own_lay 0 q0 (own_nx0 (own_bump (own_bump (own_bump (own_bump (own_bump (own_bump own_w0 q0) q1) q2) q3) q4) q5), own_z0)).2)), (.inr .int, (own_iv (own_lay 0 q0 (own_nx0 (own_bump (own_bump (own_bump (own_bump (own_bump (own_bump own_w0 q0) q1) q2) q3) q4) q5), own_z0)).1))]) rfl ?_
  refine own_ks.alen (mt := own_m5) rfl (t := 8) (a := 7) (z := (6 : Int32)) rfl rfl (by rw [own_iv_len, n1]; rfl) ?_
  refine own_ks.go (mt := own_m5) rfl 8 (pc' := 20) (L' := [.val (.ref 2), .val (.ref 0), .val (.ref 8), .val (.int (1 : Int32))]) (S' := [.int (Int32.ofNat q1), .ref 8, .int (Int32.ofNat q1), .ref 8, .ref 7]) (H' := [(.inr .int, [.int (Int32.ofNat q0), .int (Int32.ofNat q1), .int (Int32.ofNat q2), .int (Int32.ofNat q3), .int (Int32.ofNat q4), .int (Int32.ofNat q5)]), (.inr .int, (own_iv (own_bump (own_bump (own_bump (own_bump (own_bump (own_bump own_w0 q0) q1) q2) q3) q4) q5))), (.inl 0, [.ref 3, .ref 4, .ref 5, .ref 6, .ref 7, .null, .int (0 : Int32)]), (.inr .int, []), (.inr .int, []), (.inr .int, (own_iv (own_bump (own_bump (own_bump (own_bump (own_bump (own_bump own_w0 q0) q1) q2) q3) q4) q5))), (.inr .int, [.int (0 : Int32), .int ((0 : Int32) + ((own_bump (own_bump (own_bump (own_bump (own_bump (own_bump own_w0 q0) q1) q2) q3) q4) q5).getD 0 0)), .int (((0 : Int32) + ((own_bump (own_bump (own_bump (own_bump (own_bump (own_bump own_w0 q0) q1) q2) q3) q4) q5).getD 0 0)) + ((own_bump (own_bump (own_bump (own_bump (own_bump (own_bump own_w0 q0) q1) q2) q3) q4) q5).getD 1 0)), .int ((((0 : Int32) + ((own_bump (own_bump (own_bump (own_bump (own_bump (own_bump own_w0 q0) q1) q2) q3) q4) q5).getD 0 0)) + ((own_bump (own_bump (own_bump (own_bump (own_bump (own_bump own_w0 q0) q1) q2) q3) q4) q5).getD 1 0)) + ((own_bump (own_bump (own_bump (own_bump (own_bump (own_bump own_w0 q0) q1) q2) q3) q4) q5).getD 2 0))]), (.inr .int, (own_iv (own_lay 0 q0 (own_nx0 (own_bump (own_bump (own_bump (own_bump (own_bump (own_bump own_w0 q0) q1) q2) q3) q4) q5), own_z0)).2)), (.inr .int, (own_iv (own_lay 0 q0 (own_nx0 (own_bump (own_bump (own_bump (own_bump (own_bump (own_bump own_w0 q0) q1) q2) q3) q4) q5), own_z0)).1))]) rfl ?_
  refine own_ks.iaload (mt := own_m5) rfl (t := 21) (a := 8) (v := .int ((own_lay 0 q0 (own_nx0 (own_bump (own_bump (own_bump (own_bump (own_bump (own_bump own_w0 q0) q1) q2) q3) q4) q5), own_z0)).1.getD q1 0)) rfl rfl (own_ixo (by omega)) (own_iv_get (own_bg (by rw [m1]; exact g1))) ?_
  refine own_ks.go (mt := own_m5) rfl 3 (pc' := 24) (L' := [.val (.ref 2), .val (.ref 0), .val (.ref 8), .val (.int (1 : Int32))]) (S' := [.int (((own_lay 0 q0 (own_nx0 (own_bump (own_bump (own_bump (own_bump (own_bump (own_bump own_w0 q0) q1) q2) q3) q4) q5), own_z0)).1.getD q1 0) + (1 : Int32)), .int (Int32.ofNat q1), .ref 8, .int ((own_lay 0 q0 (own_nx0 (own_bump (own_bump (own_bump (own_bump (own_bump (own_bump own_w0 q0) q1) q2) q3) q4) q5), own_z0)).1.getD q1 0), .ref 7]) (H' := [(.inr .int, [.int (Int32.ofNat q0), .int (Int32.ofNat q1), .int (Int32.ofNat q2), .int (Int32.ofNat q3), .int (Int32.ofNat q4), .int (Int32.ofNat q5)]), (.inr .int, (own_iv (own_bump (own_bump (own_bump (own_bump (own_bump (own_bump own_w0 q0) q1) q2) q3) q4) q5))), (.inl 0, [.ref 3, .ref 4, .ref 5, .ref 6, .ref 7, .null, .int (0 : Int32)]), (.inr .int, []), (.inr .int, []), (.inr .int, (own_iv (own_bump (own_bump (own_bump (own_bump (own_bump (own_bump own_w0 q0) q1) q2) q3) q4) q5))), (.inr .int, [.int (0 : Int32), .int ((0 : Int32) + ((own_bump (own_bump (own_bump (own_bump (own_bump (own_bump own_w0 q0) q1) q2) q3) q4) q5).getD 0 0)), .int (((0 : Int32) + ((own_bump (own_bump (own_bump (own_bump (own_bump (own_bump own_w0 q0) q1) q2) q3) q4) q5).getD 0 0)) + ((own_bump (own_bump (own_bump (own_bump (own_bump (own_bump own_w0 q0) q1) q2) q3) q4) q5).getD 1 0)), .int ((((0 : Int32) + ((own_bump (own_bump (own_bump (own_bump (own_bump (own_bump own_w0 q0) q1) q2) q3) q4) q5).getD 0 0)) + ((own_bump (own_bump (own_bump (own_bump (own_bump (own_bump own_w0 q0) q1) q2) q3) q4) q5).getD 1 0)) + ((own_bump (own_bump (own_bump (own_bump (own_bump (own_bump own_w0 q0) q1) q2) q3) q4) q5).getD 2 0))]), (.inr .int, (own_iv (own_lay 0 q0 (own_nx0 (own_bump (own_bump (own_bump (own_bump (own_bump (own_bump own_w0 q0) q1) q2) q3) q4) q5), own_z0)).2)), (.inr .int, (own_iv (own_lay 0 q0 (own_nx0 (own_bump (own_bump (own_bump (own_bump (own_bump (own_bump own_w0 q0) q1) q2) q3) q4) q5), own_z0)).1))]) rfl ?_
  refine own_ks.iastore (mt := own_m5) rfl (t := 25) (a := 8) (H' := [(.inr .int, [.int (Int32.ofNat q0), .int (Int32.ofNat q1), .int (Int32.ofNat q2), .int (Int32.ofNat q3), .int (Int32.ofNat q4), .int (Int32.ofNat q5)]), (.inr .int, (own_iv (own_bump (own_bump (own_bump (own_bump (own_bump (own_bump own_w0 q0) q1) q2) q3) q4) q5))), (.inl 0, [.ref 3, .ref 4, .ref 5, .ref 6, .ref 7, .null, .int (0 : Int32)]), (.inr .int, []), (.inr .int, []), (.inr .int, (own_iv (own_bump (own_bump (own_bump (own_bump (own_bump (own_bump own_w0 q0) q1) q2) q3) q4) q5))), (.inr .int, [.int (0 : Int32), .int ((0 : Int32) + ((own_bump (own_bump (own_bump (own_bump (own_bump (own_bump own_w0 q0) q1) q2) q3) q4) q5).getD 0 0)), .int (((0 : Int32) + ((own_bump (own_bump (own_bump (own_bump (own_bump (own_bump own_w0 q0) q1) q2) q3) q4) q5).getD 0 0)) + ((own_bump (own_bump (own_bump (own_bump (own_bump (own_bump own_w0 q0) q1) q2) q3) q4) q5).getD 1 0)), .int ((((0 : Int32) + ((own_bump (own_bump (own_bump (own_bump (own_bump (own_bump own_w0 q0) q1) q2) q3) q4) q5).getD 0 0)) + ((own_bump (own_bump (own_bump (own_bump (own_bump (own_bump own_w0 q0) q1) q2) q3) q4) q5).getD 1 0)) + ((own_bump (own_bump (own_bump (own_bump (own_bump (own_bump own_w0 q0) q1) q2) q3) q4) q5).getD 2 0))]), (.inr .int, (own_iv (own_lay 0 q0 (own_nx0 (own_bump (own_bump (own_bump (own_bump (own_bump (own_bump own_w0 q0) q1) q2) q3) q4) q5), own_z0)).2)), (.inr .int, (own_iv (own_lay 1 q1 (own_lay 0 q0 (own_nx0 (own_bump (own_bump (own_bump (own_bump (own_bump (own_bump own_w0 q0) q1) q2) q3) q4) q5), own_z0))).1))]) rfl rfl (own_ixo (by omega)) (own_lt' (by rw [m1]; exact g1)) (by rw [own_iv_set]; rfl) ?_
  refine own_ks.go (mt := own_m5) rfl 1 (pc' := 26) (L' := [.val (.ref 2), .val (.ref 0), .val (.ref 8), .val (.int (1 : Int32))]) (S' := [.int (1 : Int32), .int ((own_lay 0 q0 (own_nx0 (own_bump (own_bump (own_bump (own_bump (own_bump (own_bump own_w0 q0) q1) q2) q3) q4) q5), own_z0)).1.getD q1 0), .ref 7]) (H' := [(.inr .int, [.int (Int32.ofNat q0), .int (Int32.ofNat q1), .int (Int32.ofNat q2), .int (Int32.ofNat q3), .int (Int32.ofNat q4), .int (Int32.ofNat q5)]), (.inr .int, (own_iv (own_bump (own_bump (own_bump (own_bump (own_bump (own_bump own_w0 q0) q1) q2) q3) q4) q5))), (.inl 0, [.ref 3, .ref 4, .ref 5, .ref 6, .ref 7, .null, .int (0 : Int32)]), (.inr .int, []), (.inr .int, []), (.inr .int, (own_iv (own_bump (own_bump (own_bump (own_bump (own_bump (own_bump own_w0 q0) q1) q2) q3) q4) q5))), (.inr .int, [.int (0 : Int32), .int ((0 : Int32) + ((own_bump (own_bump (own_bump (own_bump (own_bump (own_bump own_w0 q0) q1) q2) q3) q4) q5).getD 0 0)), .int (((0 : Int32) + ((own_bump (own_bump (own_bump (own_bump (own_bump (own_bump own_w0 q0) q1) q2) q3) q4) q5).getD 0 0)) + ((own_bump (own_bump (own_bump (own_bump (own_bump (own_bump own_w0 q0) q1) q2) q3) q4) q5).getD 1 0)), .int ((((0 : Int32) + ((own_bump (own_bump (own_bump (own_bump (own_bump (own_bump own_w0 q0) q1) q2) q3) q4) q5).getD 0 0)) + ((own_bump (own_bump (own_bump (own_bump (own_bump (own_bump own_w0 q0) q1) q2) q3) q4) q5).getD 1 0)) + ((own_bump (own_bump (own_bump (own_bump (own_bump (own_bump own_w0 q0) q1) q2) q3) q4) q5).getD 2 0))]), (.inr .int, (own_iv (own_lay 0 q0 (own_nx0 (own_bump (own_bump (own_bump (own_bump (own_bump (own_bump own_w0 q0) q1) q2) q3) q4) q5), own_z0)).2)), (.inr .int, (own_iv (own_lay 1 q1 (own_lay 0 q0 (own_nx0 (own_bump (own_bump (own_bump (own_bump (own_bump (own_bump own_w0 q0) q1) q2) q3) q4) q5), own_z0))).1))]) rfl ?_
  refine own_ks.iastore (mt := own_m5) rfl (t := 27) (a := 7) (H' := [(.inr .int, [.int (Int32.ofNat q0), .int (Int32.ofNat q1), .int (Int32.ofNat q2), .int (Int32.ofNat q3), .int (Int32.ofNat q4), .int (Int32.ofNat q5)]), (.inr .int, (own_iv (own_bump (own_bump (own_bump (own_bump (own_bump (own_bump own_w0 q0) q1) q2) q3) q4) q5))), (.inl 0, [.ref 3, .ref 4, .ref 5, .ref 6, .ref 7, .null, .int (0 : Int32)]), (.inr .int, []), (.inr .int, []), (.inr .int, (own_iv (own_bump (own_bump (own_bump (own_bump (own_bump (own_bump own_w0 q0) q1) q2) q3) q4) q5))), (.inr .int, [.int (0 : Int32), .int ((0 : Int32) + ((own_bump (own_bump (own_bump (own_bump (own_bump (own_bump own_w0 q0) q1) q2) q3) q4) q5).getD 0 0)), .int (((0 : Int32) + ((own_bump (own_bump (own_bump (own_bump (own_bump (own_bump own_w0 q0) q1) q2) q3) q4) q5).getD 0 0)) + ((own_bump (own_bump (own_bump (own_bump (own_bump (own_bump own_w0 q0) q1) q2) q3) q4) q5).getD 1 0)), .int ((((0 : Int32) + ((own_bump (own_bump (own_bump (own_bump (own_bump (own_bump own_w0 q0) q1) q2) q3) q4) q5).getD 0 0)) + ((own_bump (own_bump (own_bump (own_bump (own_bump (own_bump own_w0 q0) q1) q2) q3) q4) q5).getD 1 0)) + ((own_bump (own_bump (own_bump (own_bump (own_bump (own_bump own_w0 q0) q1) q2) q3) q4) q5).getD 2 0))]), (.inr .int, (own_iv (own_lay 1 q1 (own_lay 0 q0 (own_nx0 (own_bump (own_bump (own_bump (own_bump (own_bump (own_bump own_w0 q0) q1) q2) q3) q4) q5), own_z0))).2)), (.inr .int, (own_iv (own_lay 1 q1 (own_lay 0 q0 (own_nx0 (own_bump (own_bump (own_bump (own_bump (own_bump (own_bump own_w0 q0) q1) q2) q3) q4) q5), own_z0))).1))]) rfl rfl (own_ixc (u1).1) (own_lt' (by rw [n1]; exact (u1).2)) (by rw [own_iv_set]; rfl) ?_
  refine own_ks.go (mt := own_m5) rfl 2 (pc' := 2) (L' := [.val (.ref 2), .val (.ref 0), .val (.ref 8), .val (.int (2 : Int32))]) (S' := []) (H' := [(.inr .int, [.int (Int32.ofNat q0), .int (Int32.ofNat q1), .int (Int32.ofNat q2), .int (Int32.ofNat q3), .int (Int32.ofNat q4), .int (Int32.ofNat q5)]), (.inr .int, (own_iv (own_bump (own_bump (own_bump (own_bump (own_bump (own_bump own_w0 q0) q1) q2) q3) q4) q5))), (.inl 0, [.ref 3, .ref 4, .ref 5, .ref 6, .ref 7, .null, .int (0 : Int32)]), (.inr .int, []), (.inr .int, []), (.inr .int, (own_iv (own_bump (own_bump (own_bump (own_bump (own_bump (own_bump own_w0 q0) q1) q2) q3) q4) q5))), (.inr .int, [.int (0 : Int32), .int ((0 : Int32) + ((own_bump (own_bump (own_bump (own_bump (own_bump (own_bump own_w0 q0) q1) q2) q3) q4) q5).getD 0 0)), .int (((0 : Int32) + ((own_bump (own_bump (own_bump (own_bump (own_bump (own_bump own_w0 q0) q1) q2) q3) q4) q5).getD 0 0)) + ((own_bump (own_bump (own_bump (own_bump (own_bump (own_bump own_w0 q0) q1) q2) q3) q4) q5).getD 1 0)), .int ((((0 : Int32) + ((own_bump (own_bump (own_bump (own_bump (own_bump (own_bump own_w0 q0) q1) q2) q3) q4) q5).getD 0 0)) + ((own_bump (own_bump (own_bump (own_bump (own_bump (own_bump own_w0 q0) q1) q2) q3) q4) q5).getD 1 0)) + ((own_bump (own_bump (own_bump (own_bump (own_bump (own_bump own_w0 q0) q1) q2) q3) q4) q5).getD 2 0))]), (.inr .int, (own_iv (own_lay 1 q1 (own_lay 0 q0 (own_nx0 (own_bump (own_bump (own_bump (own_bump (own_bump (own_bump own_w0 q0) q1) q2) q3) q4) q5), own_z0))).2)), (.inr .int, (own_iv (own_lay 1 q1 (own_lay 0 q0 (own_nx0 (own_bump (own_bump (own_bump (own_bump (own_bump (own_bump own_w0 q0) q1) q2) q3) q4) q5), own_z0))).1))]) rfl ?_
  refine own_ks.go (mt := own_m5) rfl 3 (pc' := 7) (L' := [.val (.ref 2), .val (.ref 0), .val (.ref 8), .val (.int (2 : Int32))]) (S' := [.ref 7, .int (2 : Int32)]) (H' := [(.inr .int, [.int (Int32.ofNat q0), .int (Int32.ofNat q1), .int (Int32.ofNat q2), .int (Int32.ofNat q3), .int (Int32.ofNat q4), .int (Int32.ofNat q5)]), (.inr .int, (own_iv (own_bump (own_bump (own_bump (own_bump (own_bump (own_bump own_w0 q0) q1) q2) q3) q4) q5))), (.inl 0, [.ref 3, .ref 4, .ref 5, .ref 6, .ref 7, .null, .int (0 : Int32)]), (.inr .int, []), (.inr .int, []), (.inr .int, (own_iv (own_bump (own_bump (own_bump (own_bump (own_bump (own_bump own_w0 q0) q1) q2) q3) q4) q5))), (.inr .int, [.int (0 : Int32), .int ((0 : Int32) + ((own_bump (own_bump (own_bump (own_bump (own_bump (own_bump own_w0 q0) q1) q2) q3) q4) q5).getD 0 0)), .int (((0 : Int32) + ((own_bump (own_bump (own_bump (own_bump (own_bump (own_bump own_w0 q0) q1) q2) q3) q4) q5).getD 0 0)) + ((own_bump (own_bump (own_bump (own_bump (own_bump (own_bump own_w0 q0) q1) q2) q3) q4) q5).getD 1 0)), .int ((((0 : Int32) + ((own_bump (own_bump (own_bump (own_bump (own_bump (own_bump own_w0 q0) q1) q2) q3) q4) q5).getD 0 0)) + ((own_bump (own_bump (own_bump (own_bump (own_bump (own_bump own_w0 q0) q1) q2) q3) q4) q5).getD 1 0)) + ((own_bump (own_bump (own_bump (own_bump (own_bump (own_bump own_w0 q0) q1) q2) q3) q4) q5).getD 2 0))]), (.inr .int, (own_iv (own_lay 1 q1 (own_lay 0 q0 (own_nx0 (own_bump (own_bump (own_bump (own_bump (own_bump (own_bump own_w0 q0) q1) q2) q3) q4) q5), own_z0))).2)), (.inr .int, (own_iv (own_lay 1 q1 (own_lay 0 q0 (own_nx0 (own_bump (own_bump (own_bump (own_bump (own_bump (own_bump own_w0 q0) q1) q2) q3) q4) q5), own_z0))).1))]) rfl ?_
  refine own_ks.alen (mt := own_m5) rfl (t := 8) (a := 7) (z := (6 : Int32)) rfl rfl (by rw [own_iv_len, n2]; rfl) ?_
  refine own_ks.go (mt := own_m5) rfl 8 (pc' := 20) (L' := [.val (.ref 2), .val (.ref 0), .val (.ref 8), .val (.int (2 : Int32))]) (S' := [.int (Int32.ofNat q2), .ref 8, .int (Int32.ofNat q2), .ref 8, .ref 7]) (H' := [(.inr .int, [.int (Int32.ofNat q0), .int (Int32.ofNat q1), .int (Int32.ofNat q2), .int (Int32.ofNat q3), .int (Int32.ofNat q4), .int (Int32.ofNat q5)]), (.inr .int, (own_iv (own_bump (own_bump (own_bump (own_bump (own_bump (own_bump own_w0 q0) q1) q2) q3) q4) q5))), (.inl 0, [.ref 3, .ref 4, .ref 5, .ref 6, .ref 7, .null, .int (0 : Int32)]), (.inr .int, []), (.inr .int, []), (.inr .int, (own_iv (own_bump (own_bump (own_bump (own_bump (own_bump (own_bump own_w0 q0) q1) q2) q3) q4) q5))), (.inr .int, [.int (0 : Int32), .int ((0 : Int32) + ((own_bump (own_bump (own_bump (own_bump (own_bump (own_bump own_w0 q0) q1) q2) q3) q4) q5).getD 0 0)), .int (((0 : Int32) + ((own_bump (own_bump (own_bump (own_bump (own_bump (own_bump own_w0 q0) q1) q2) q3) q4) q5).getD 0 0)) + ((own_bump (own_bump (own_bump (own_bump (own_bump (own_bump own_w0 q0) q1) q2) q3) q4) q5).getD 1 0)), .int ((((0 : Int32) + ((own_bump (own_bump (own_bump (own_bump (own_bump (own_bump own_w0 q0) q1) q2) q3) q4) q5).getD 0 0)) + ((own_bump (own_bump (own_bump (own_bump (own_bump (own_bump own_w0 q0) q1) q2) q3) q4) q5).getD 1 0)) + ((own_bump (own_bump (own_bump (own_bump (own_bump (own_bump own_w0 q0) q1) q2) q3) q4) q5).getD 2 0))]), (.inr .int, (own_iv (own_lay 1 q1 (own_lay 0 q0 (own_nx0 (own_bump (own_bump (own_bump (own_bump (own_bump (own_bump own_w0 q0) q1) q2) q3) q4) q5), own_z0))).2)), (.inr .int, (own_iv (own_lay 1 q1 (own_lay 0 q0 (own_nx0 (own_bump (own_bump (own_bump (own_bump (own_bump (own_bump own_w0 q0) q1) q2) q3) q4) q5), own_z0))).1))]) rfl ?_
  refine own_ks.iaload (mt := own_m5) rfl (t := 21) (a := 8) (v := .int ((own_lay 1 q1 (own_lay 0 q0 (own_nx0 (own_bump (own_bump (own_bump (own_bump (own_bump (own_bump own_w0 q0) q1) q2) q3) q4) q5), own_z0))).1.getD q2 0)) rfl rfl (own_ixo (by omega)) (own_iv_get (own_bg (by rw [m2]; exact g2))) ?_
  refine own_ks.go (mt := own_m5) rfl 3 (pc' := 24) (L' := [.val (.ref 2), .val (.ref 0), .val (.ref 8), .val (.int (2 : Int32))]) (S' := [.int (((own_lay 1 q1 (own_lay 0 q0 (own_nx0 (own_bump (own_bump (own_bump (own_bump (own_bump (own_bump own_w0 q0) q1) q2) q3) q4) q5), own_z0))).1.getD q2 0) + (1 : Int32)), .int (Int32.ofNat q2), .ref 8, .int ((own_lay 1 q1 (own_lay 0 q0 (own_nx0 (own_bump (own_bump (own_bump (own_bump (own_bump (own_bump own_w0 q0) q1) q2) q3) q4) q5), own_z0))).1.getD q2 0), .ref 7]) (H' := [(.inr .int, [.int (Int32.ofNat q0), .int (Int32.ofNat q1), .int (Int32.ofNat q2), .int (Int32.ofNat q3), .int (Int32.ofNat q4), .int (Int32.ofNat q5)]), (.inr .int, (own_iv (own_bump (own_bump (own_bump (own_bump (own_bump (own_bump own_w0 q0) q1) q2) q3) q4) q5))), (.inl 0, [.ref 3, .ref 4, .ref 5, .ref 6, .ref 7, .null, .int (0 : Int32)]), (.inr .int, []), (.inr .int, []), (.inr .int, (own_iv (own_bump (own_bump (own_bump (own_bump (own_bump (own_bump own_w0 q0) q1) q2) q3) q4) q5))), (.inr .int, [.int (0 : Int32), .int ((0 : Int32) + ((own_bump (own_bump (own_bump (own_bump (own_bump (own_bump own_w0 q0) q1) q2) q3) q4) q5).getD 0 0)), .int (((0 : Int32) + ((own_bump (own_bump (own_bump (own_bump (own_bump (own_bump own_w0 q0) q1) q2) q3) q4) q5).getD 0 0)) + ((own_bump (own_bump (own_bump (own_bump (own_bump (own_bump own_w0 q0) q1) q2) q3) q4) q5).getD 1 0)), .int ((((0 : Int32) + ((own_bump (own_bump (own_bump (own_bump (own_bump (own_bump own_w0 q0) q1) q2) q3) q4) q5).getD 0 0)) + ((own_bump (own_bump (own_bump (own_bump (own_bump (own_bump own_w0 q0) q1) q2) q3) q4) q5).getD 1 0)) + ((own_bump (own_bump (own_bump (own_bump (own_bump (own_bump own_w0 q0) q1) q2) q3) q4) q5).getD 2 0))]), (.inr .int, (own_iv (own_lay 1 q1 (own_lay 0 q0 (own_nx0 (own_bump (own_bump (own_bump (own_bump (own_bump (own_bump own_w0 q0) q1) q2) q3) q4) q5), own_z0))).2)), (.inr .int, (own_iv (own_lay 1 q1 (own_lay 0 q0 (own_nx0 (own_bump (own_bump (own_bump (own_bump (own_bump (own_bump own_w0 q0) q1) q2) q3) q4) q5), own_z0))).1))]) rfl ?_
  refine own_ks.iastore (mt := own_m5) rfl (t := 25) (a := 8) (H' := [(.inr .int, [.int (Int32.ofNat q0), .int (Int32.ofNat q1), .int (Int32.ofNat q2), .int (Int32.ofNat q3), .int (Int32.ofNat q4), .int (Int32.ofNat q5)]), (.inr .int, (own_iv (own_bump (own_bump (own_bump (own_bump (own_bump (own_bump own_w0 q0) q1) q2) q3) q4) q5))), (.inl 0, [.ref 3, .ref 4, .ref 5, .ref 6, .ref 7, .null, .int (0 : Int32)]), (.inr .int, []), (.inr .int, []), (.inr .int, (own_iv (own_bump (own_bump (own_bump (own_bump (own_bump (own_bump own_w0 q0) q1) q2) q3) q4) q5))), (.inr .int, [.int (0 : Int32), .int ((0 : Int32) + ((own_bump (own_bump (own_bump (own_bump (own_bump (own_bump own_w0 q0) q1) q2) q3) q4) q5).getD 0 0)), .int (((0 : Int32) + ((own_bump (own_bump (own_bump (own_bump (own_bump (own_bump own_w0 q0) q1) q2) q3) q4) q5).getD 0 0)) + ((own_bump (own_bump (own_bump (own_bump (own_bump (own_bump own_w0 q0) q1) q2) q3) q4) q5).getD 1 0)), .int ((((0 : Int32) + ((own_bump (own_bump (own_bump (own_bump (own_bump (own_bump own_w0 q0) q1) q2) q3) q4) q5).getD 0 0)) + ((own_bump (own_bump (own_bump (own_bump (own_bump (own_bump own_w0 q0) q1) q2) q3) q4) q5).getD 1 0)) + ((own_bump (own_bump (own_bump (own_bump (own_bump (own_bump own_w0 q0) q1) q2) q3) q4) q5).getD 2 0))]), (.inr .int, (own_iv (own_lay 1 q1 (own_lay 0 q0 (own_nx0 (own_bump (own_bump (own_bump (own_bump (own_bump (own_bump own_w0 q0) q1) q2) q3) q4) q5), own_z0))).2)), (.inr .int, (own_iv (own_lay 2 q2 (own_lay 1 q1 (own_lay 0 q0 (own_nx0 (own_bump (own_bump (own_bump (own_bump (own_bump (own_bump own_w0 q0) q1) q2) q3) q4) q5), own_z0)))).1))]) rfl rfl (own_ixo (by omega)) (own_lt' (by rw [m2]; exact g2)) (by rw [own_iv_set]; rfl) ?_
  refine own_ks.go (mt := own_m5) rfl 1 (pc' := 26) (L' := [.val (.ref 2), .val (.ref 0), .val (.ref 8), .val (.int (2 : Int32))]) (S' := [.int (2 : Int32), .int ((own_lay 1 q1 (own_lay 0 q0 (own_nx0 (own_bump (own_bump (own_bump (own_bump (own_bump (own_bump own_w0 q0) q1) q2) q3) q4) q5), own_z0))).1.getD q2 0), .ref 7]) (H' := [(.inr .int, [.int (Int32.ofNat q0), .int (Int32.ofNat q1), .int (Int32.ofNat q2), .int (Int32.ofNat q3), .int (Int32.ofNat q4), .int (Int32.ofNat q5)]), (.inr .int, (own_iv (own_bump (own_bump (own_bump (own_bump (own_bump (own_bump own_w0 q0) q1) q2) q3) q4) q5))), (.inl 0, [.ref 3, .ref 4, .ref 5, .ref 6, .ref 7, .null, .int (0 : Int32)]), (.inr .int, []), (.inr .int, []), (.inr .int, (own_iv (own_bump (own_bump (own_bump (own_bump (own_bump (own_bump own_w0 q0) q1) q2) q3) q4) q5))), (.inr .int, [.int (0 : Int32), .int ((0 : Int32) + ((own_bump (own_bump (own_bump (own_bump (own_bump (own_bump own_w0 q0) q1) q2) q3) q4) q5).getD 0 0)), .int (((0 : Int32) + ((own_bump (own_bump (own_bump (own_bump (own_bump (own_bump own_w0 q0) q1) q2) q3) q4) q5).getD 0 0)) + ((own_bump (own_bump (own_bump (own_bump (own_bump (own_bump own_w0 q0) q1) q2) q3) q4) q5).getD 1 0)), .int ((((0 : Int32) + ((own_bump (own_bump (own_bump (own_bump (own_bump (own_bump own_w0 q0) q1) q2) q3) q4) q5).getD 0 0)) + ((own_bump (own_bump (own_bump (own_bump (own_bump (own_bump own_w0 q0) q1) q2) q3) q4) q5).getD 1 0)) + ((own_bump (own_bump (own_bump (own_bump (own_bump (own_bump own_w0 q0) q1) q2) q3) q4) q5).getD 2 0))]), (.inr .int, (own_iv (own_lay 1 q1 (own_lay 0 q0 (own_nx0 (own_bump (own_bump (own_bump (own_bump (own_bump (own_bump own_w0 q0) q1) q2) q3) q4) q5), own_z0))).2)), (.inr .int, (own_iv (own_lay 2 q2 (own_lay 1 q1 (own_lay 0 q0 (own_nx0 (own_bump (own_bump (own_bump (own_bump (own_bump (own_bump own_w0 q0) q1) q2) q3) q4) q5), own_z0)))).1))]) rfl ?_
  refine own_ks.iastore (mt := own_m5) rfl (t := 27) (a := 7) (H' := [(.inr .int, [.int (Int32.ofNat q0), .int (Int32.ofNat q1), .int (Int32.ofNat q2), .int (Int32.ofNat q3), .int (Int32.ofNat q4), .int (Int32.ofNat q5)]), (.inr .int, (own_iv (own_bump (own_bump (own_bump (own_bump (own_bump (own_bump own_w0 q0) q1) q2) q3) q4) q5))), (.inl 0, [.ref 3, .ref 4, .ref 5, .ref 6, .ref 7, .null, .int (0 : Int32)]), (.inr .int, []), (.inr .int, []), (.inr .int, (own_iv (own_bump (own_bump (own_bump (own_bump (own_bump (own_bump own_w0 q0) q1) q2) q3) q4) q5))), (.inr .int, [.int (0 : Int32), .int ((0 : Int32) + ((own_bump (own_bump (own_bump (own_bump (own_bump (own_bump own_w0 q0) q1) q2) q3) q4) q5).getD 0 0)), .int (((0 : Int32) + ((own_bump (own_bump (own_bump (own_bump (own_bump (own_bump own_w0 q0) q1) q2) q3) q4) q5).getD 0 0)) + ((own_bump (own_bump (own_bump (own_bump (own_bump (own_bump own_w0 q0) q1) q2) q3) q4) q5).getD 1 0)), .int ((((0 : Int32) + ((own_bump (own_bump (own_bump (own_bump (own_bump (own_bump own_w0 q0) q1) q2) q3) q4) q5).getD 0 0)) + ((own_bump (own_bump (own_bump (own_bump (own_bump (own_bump own_w0 q0) q1) q2) q3) q4) q5).getD 1 0)) + ((own_bump (own_bump (own_bump (own_bump (own_bump (own_bump own_w0 q0) q1) q2) q3) q4) q5).getD 2 0))]), (.inr .int, (own_iv (own_lay 2 q2 (own_lay 1 q1 (own_lay 0 q0 (own_nx0 (own_bump (own_bump (own_bump (own_bump (own_bump (own_bump own_w0 q0) q1) q2) q3) q4) q5), own_z0)))).2)), (.inr .int, (own_iv (own_lay 2 q2 (own_lay 1 q1 (own_lay 0 q0 (own_nx0 (own_bump (own_bump (own_bump (own_bump (own_bump (own_bump own_w0 q0) q1) q2) q3) q4) q5), own_z0)))).1))]) rfl rfl (own_ixc (u2).1) (own_lt' (by rw [n2]; exact (u2).2)) (by rw [own_iv_set]; rfl) ?_
  refine own_ks.go (mt := own_m5) rfl 2 (pc' := 2) (L' := [.val (.ref 2), .val (.ref 0), .val (.ref 8), .val (.int (3 : Int32))]) (S' := []) (H' := [(.inr .int, [.int (Int32.ofNat q0), .int (Int32.ofNat q1), .int (Int32.ofNat q2), .int (Int32.ofNat q3), .int (Int32.ofNat q4), .int (Int32.ofNat q5)]), (.inr .int, (own_iv (own_bump (own_bump (own_bump (own_bump (own_bump (own_bump own_w0 q0) q1) q2) q3) q4) q5))), (.inl 0, [.ref 3, .ref 4, .ref 5, .ref 6, .ref 7, .null, .int (0 : Int32)]), (.inr .int, []), (.inr .int, []), (.inr .int, (own_iv (own_bump (own_bump (own_bump (own_bump (own_bump (own_bump own_w0 q0) q1) q2) q3) q4) q5))), (.inr .int, [.int (0 : Int32), .int ((0 : Int32) + ((own_bump (own_bump (own_bump (own_bump (own_bump (own_bump own_w0 q0) q1) q2) q3) q4) q5).getD 0 0)), .int (((0 : Int32) + ((own_bump (own_bump (own_bump (own_bump (own_bump (own_bump own_w0 q0) q1) q2) q3) q4) q5).getD 0 0)) + ((own_bump (own_bump (own_bump (own_bump (own_bump (own_bump own_w0 q0) q1) q2) q3) q4) q5).getD 1 0)), .int ((((0 : Int32) + ((own_bump (own_bump (own_bump (own_bump (own_bump (own_bump own_w0 q0) q1) q2) q3) q4) q5).getD 0 0)) + ((own_bump (own_bump (own_bump (own_bump (own_bump (own_bump own_w0 q0) q1) q2) q3) q4) q5).getD 1 0)) + ((own_bump (own_bump (own_bump (own_bump (own_bump (own_bump own_w0 q0) q1) q2) q3) q4) q5).getD 2 0))]), (.inr .int, (own_iv (own_lay 2 q2 (own_lay 1 q1 (own_lay 0 q0 (own_nx0 (own_bump (own_bump (own_bump (own_bump (own_bump (own_bump own_w0 q0) q1) q2) q3) q4) q5), own_z0)))).2)), (.inr .int, (own_iv (own_lay 2 q2 (own_lay 1 q1 (own_lay 0 q0 (own_nx0 (own_bump (own_bump (own_bump (own_bump (own_bump (own_bump own_w0 q0) q1) q2) q3) q4) q5), own_z0)))).1))]) rfl ?_
  refine own_ks.go (mt := own_m5) rfl 3 (pc' := 7) (L' := [.val (.ref 2), .val (.ref 0), .val (.ref 8), .val (.int (3 : Int32))]) (S' := [.ref 7, .int (3 : Int32)]) (H' := [(.inr .int, [.int (Int32.ofNat q0), .int (Int32.ofNat q1), .int (Int32.ofNat q2), .int (Int32.ofNat q3), .int (Int32.ofNat q4), .int (Int32.ofNat q5)]), (.inr .int, (own_iv (own_bump (own_bump (own_bump (own_bump (own_bump (own_bump own_w0 q0) q1) q2) q3) q4) q5))), (.inl 0, [.ref 3, .ref 4, .ref 5, .ref 6, .ref 7, .null, .int (0 : Int32)]), (.inr .int, []), (.inr .int, []), (.inr .int, (own_iv (own_bump (own_bump (own_bump (own_bump (own_bump (own_bump own_w0 q0) q1) q2) q3) q4) q5))), (.inr .int, [.int (0 : Int32), .int ((0 : Int32) + ((own_bump (own_bump (own_bump (own_bump (own_bump (own_bump own_w0 q0) q1) q2) q3) q4) q5).getD 0 0)), .int (((0 : Int32) + ((own_bump (own_bump (own_bump (own_bump (own_bump (own_bump own_w0 q0) q1) q2) q3) q4) q5).getD 0 0)) + ((own_bump (own_bump (own_bump (own_bump (own_bump (own_bump own_w0 q0) q1) q2) q3) q4) q5).getD 1 0)), .int ((((0 : Int32) + ((own_bump (own_bump (own_bump (own_bump (own_bump (own_bump own_w0 q0) q1) q2) q3) q4) q5).getD 0 0)) + ((own_bump (own_bump (own_bump (own_bump (own_bump (own_bump own_w0 q0) q1) q2) q3) q4) q5).getD 1 0)) + ((own_bump (own_bump (own_bump (own_bump (own_bump (own_bump own_w0 q0) q1) q2) q3) q4) q5).getD 2 0))]), (.inr .int, (own_iv (own_lay 2 q2 (own_lay 1 q1 (own_lay 0 q0 (own_nx0 (own_bump (own_bump (own_bump (own_bump (own_bump (own_bump own_w0 q0) q1) q2) q3) q4) q5), own_z0)))).2)), (.inr .int, (own_iv (own_lay 2 q2 (own_lay 1 q1 (own_lay 0 q0 (own_nx0 (own_bump (own_bump (own_bump (own_bump (own_bump (own_bump own_w0 q0) q1) q2) q3) q4) q5), own_z0)))).1))]) rfl ?_
  refine own_ks.alen (mt := own_m5) rfl (t := 8) (a := 7) (z := (6 : Int32)) rfl rfl (by rw [own_iv_len, n3]; rfl) ?_
  refine own_ks.go (mt := own_m5) rfl 8 (pc' := 20) (L' := [.val (.ref 2), .val (.ref 0), .val (.ref 8), .val (.int (3 : Int32))]) (S' := [.int (Int32.ofNat q3), .ref 8, .int (Int32.ofNat q3), .ref 8, .ref 7]) (H' := [(.inr .int, [.int (Int32.ofNat q0), .int (Int32.ofNat q1), .int (Int32.ofNat q2), .int (Int32.ofNat q3), .int (Int32.ofNat q4), .int (Int32.ofNat q5)]), (.inr .int, (own_iv (own_bump (own_bump (own_bump (own_bump (own_bump (own_bump own_w0 q0) q1) q2) q3) q4) q5))), (.inl 0, [.ref 3, .ref 4, .ref 5, .ref 6, .ref 7, .null, .int (0 : Int32)]), (.inr .int, []), (.inr .int, []), (.inr .int, (own_iv (own_bump (own_bump (own_bump (own_bump (own_bump (own_bump own_w0 q0) q1) q2) q3) q4) q5))), (.inr .int, [.int (0 : Int32), .int ((0 : Int32) + ((own_bump (own_bump (own_bump (own_bump (own_bump (own_bump own_w0 q0) q1) q2) q3) q4) q5).getD 0 0)), .int (((0 : Int32) + ((own_bump (own_bump (own_bump (own_bump (own_bump (own_bump own_w0 q0) q1) q2) q3) q4) q5).getD 0 0)) + ((own_bump (own_bump (own_bump (own_bump (own_bump (own_bump own_w0 q0) q1) q2) q3) q4) q5).getD 1 0)), .int ((((0 : Int32) + ((own_bump (own_bump (own_bump (own_bump (own_bump (own_bump own_w0 q0) q1) q2) q3) q4) q5).getD 0 0)) + ((own_bump (own_bump (own_bump (own_bump (own_bump (own_bump own_w0 q0) q1) q2) q3) q4) q5).getD 1 0)) + ((own_bump (own_bump (own_bump (own_bump (own_bump (own_bump own_w0 q0) q1) q2) q3) q4) q5).getD 2 0))]), (.inr .int, (own_iv (own_lay 2 q2 (own_lay 1 q1 (own_lay 0 q0 (own_nx0 (own_bump (own_bump (own_bump (own_bump (own_bump (own_bump own_w0 q0) q1) q2) q3) q4) q5), own_z0)))).2)), (.inr .int, (own_iv (own_lay 2 q2 (own_lay 1 q1 (own_lay 0 q0 (own_nx0 (own_bump (own_bump (own_bump (own_bump (own_bump (own_bump own_w0 q0) q1) q2) q3) q4) q5), own_z0)))).1))]) rfl ?_
  refine own_ks.iaload (mt := own_m5) rfl (t := 21) (a := 8) (v := .int ((own_lay 2 q2 (own_lay 1 q1 (own_lay 0 q0 (own_nx0 (own_bump (own_bump (own_bump (own_bump (own_bump (own_bump own_w0 q0) q1) q2) q3) q4) q5), own_z0)))).1.getD q3 0)) rfl rfl (own_ixo (by omega)) (own_iv_get (own_bg (by rw [m3]; exact g3))) ?_
  refine own_ks.go (mt := own_m5) rfl 3 (pc' := 24) (L' := [.val (.ref 2), .val (.ref 0), .val (.ref 8), .val (.int (3 : Int32))]) (S' := [.int (((own_lay 2 q2 (own_lay 1 q1 (own_lay 0 q0 (own_nx0 (own_bump (own_bump (own_bump (own_bump (own_bump (own_bump own_w0 q0) q1) q2) q3) q4) q5), own_z0)))).1.getD q3 0) + (1 : Int32)), .int (Int32.ofNat q3), .ref 8, .int ((own_lay 2 q2 (own_lay 1 q1 (own_lay 0 q0 (own_nx0 (own_bump (own_bump (own_bump (own_bump (own_bump (own_bump own_w0 q0) q1) q2) q3) q4) q5), own_z0)))).1.getD q3 0), .ref 7]) (H' := [(.inr .int, [.int (Int32.ofNat q0), .int (Int32.ofNat q1), .int (Int32.ofNat q2), .int (Int32.ofNat q3), .int (Int32.ofNat q4), .int (Int32.ofNat q5)]), (.inr .int, (own_iv (own_bump (own_bump (own_bump (own_bump (own_bump (own_bump own_w0 q0) q1) q2) q3) q4) q5))), (.inl 0, [.ref 3, .ref 4, .ref 5, .ref 6, .ref 7, .null, .int (0 : Int32)]), (.inr .int, []), (.inr .int, []), (.inr .int, (own_iv (own_bump (own_bump (own_bump (own_bump (own_bump (own_bump own_w0 q0) q1) q2) q3) q4) q5))), (.inr .int, [.int (0 : Int32), .int ((0 : Int32) + ((own_bump (own_bump (own_bump (own_bump (own_bump (own_bump own_w0 q0) q1) q2) q3) q4) q5).getD 0 0)), .int (((0 : Int32) + ((own_bump (own_bump (own_bump (own_bump (own_bump (own_bump own_w0 q0) q1) q2) q3) q4) q5).getD 0 0)) + ((own_bump (own_bump (own_bump (own_bump (own_bump (own_bump own_w0 q0) q1) q2) q3) q4) q5).getD 1 0)), .int ((((0 : Int32) + ((own_bump (own_bump (own_bump (own_bump (own_bump (own_bump own_w0 q0) q1) q2) q3) q4) q5).getD 0 0)) + ((own_bump (own_bump (own_bump (own_bump (own_bump (own_bump own_w0 q0) q1) q2) q3) q4) q5).getD 1 0)) + ((own_bump (own_bump (own_bump (own_bump (own_bump (own_bump own_w0 q0) q1) q2) q3) q4) q5).getD 2 0))]), (.inr .int, (own_iv (own_lay 2 q2 (own_lay 1 q1 (own_lay 0 q0 (own_nx0 (own_bump (own_bump (own_bump (own_bump (own_bump (own_bump own_w0 q0) q1) q2) q3) q4) q5), own_z0)))).2)), (.inr .int, (own_iv (own_lay 2 q2 (own_lay 1 q1 (own_lay 0 q0 (own_nx0 (own_bump (own_bump (own_bump (own_bump (own_bump (own_bump own_w0 q0) q1) q2) q3) q4) q5), own_z0)))).1))]) rfl ?_
  refine own_ks.iastore (mt := own_m5) rfl (t := 25) (a := 8) (H' := [(.inr .int, [.int (Int32.ofNat q0), .int (Int32.ofNat q1), .int (Int32.ofNat q2), .int (Int32.ofNat q3), .int (Int32.ofNat q4), .int (Int32.ofNat q5)]), (.inr .int, (own_iv (own_bump (own_bump (own_bump (own_bump (own_bump (own_bump own_w0 q0) q1) q2) q3) q4) q5))), (.inl 0, [.ref 3, .ref 4, .ref 5, .ref 6, .ref 7, .null, .int (0 : Int32)]), (.inr .int, []), (.inr .int, []), (.inr .int, (own_iv (own_bump (own_bump (own_bump (own_bump (own_bump (own_bump own_w0 q0) q1) q2) q3) q4) q5))), (.inr .int, [.int (0 : Int32), .int ((0 : Int32) + ((own_bump (own_bump (own_bump (own_bump (own_bump (own_bump own_w0 q0) q1) q2) q3) q4) q5).getD 0 0)), .int (((0 : Int32) + ((own_bump (own_bump (own_bump (own_bump (own_bump (own_bump own_w0 q0) q1) q2) q3) q4) q5).getD 0 0)) + ((own_bump (own_bump (own_bump (own_bump (own_bump (own_bump own_w0 q0) q1) q2) q3) q4) q5).getD 1 0)), .int ((((0 : Int32) + ((own_bump (own_bump (own_bump (own_bump (own_bump (own_bump own_w0 q0) q1) q2) q3) q4) q5).getD 0 0)) + ((own_bump (own_bump (own_bump (own_bump (own_bump (own_bump own_w0 q0) q1) q2) q3) q4) q5).getD 1 0)) + ((own_bump (own_bump (own_bump (own_bump (own_bump (own_bump own_w0 q0) q1) q2) q3) q4) q5).getD 2 0))]), (.inr .int, (own_iv (own_lay 2 q2 (own_lay 1 q1 (own_lay 0 q0 (own_nx0 (own_bump (own_bump (own_bump (own_bump (own_bump (own_bump own_w0 q0) q1) q2) q3) q4) q5), own_z0)))).2)), (.inr .int, (own_iv (own_lay 3 q3 (own_lay 2 q2 (own_lay 1 q1 (own_lay 0 q0 (own_nx0 (own_bump (own_bump (own_bump (own_bump (own_bump (own_bump own_w0 q0) q1) q2) q3) q4) q5), own_z0))))).1))]) rfl rfl (own_ixo (by omega)) (own_lt' (by rw [m3]; exact g3)) (by rw [own_iv_set]; rfl) ?_
  refine own_ks.go (mt := own_m5) rfl 1 (pc' := 26) (L' := [.val (.ref 2), .val (.ref 0), .val (.ref 8), .val (.int (3 : Int32))]) (S' := [.int (3 : Int32), .int ((own_lay 2 q2 (own_lay 1 q1 (own_lay 0 q0 (own_nx0 (own_bump (own_bump (own_bump (own_bump (own_bump (own_bump own_w0 q0) q1) q2) q3) q4) q5), own_z0)))).1.getD q3 0), .ref 7]) (H' := [(.inr .int, [.int (Int32.ofNat q0), .int (Int32.ofNat q1), .int (Int32.ofNat q2), .int (Int32.ofNat q3), .int (Int32.ofNat q4), .int (Int32.ofNat q5)]), (.inr .int, (own_iv (own_bump (own_bump (own_bump (own_bump (own_bump (own_bump own_w0 q0) q1) q2) q3) q4) q5))), (.inl 0, [.ref 3, .ref 4, .ref 5, .ref 6, .ref 7, .null, .int (0 : Int32)]), (.inr .int, []), (.inr .int, []), (.inr .int, (own_iv (own_bump (own_bump (own_bump (own_bump (own_bump (own_bump own_w0 q0) q1) q2) q3) q4) q5))), (.inr .int, [.int (0 : Int32), .int ((0 : Int32) + ((own_bump (own_bump (own_bump (own_bump (own_bump (own_bump own_w0 q0) q1) q2) q3) q4) q5).getD 0 0)), .int (((0 : Int32) + ((own_bump (own_bump (own_bump (own_bump (own_bump (own_bump own_w0 q0) q1) q2) q3) q4) q5).getD 0 0)) + ((own_bump (own_bump (own_bump (own_bump (own_bump (own_bump own_w0 q0) q1) q2) q3) q4) q5).getD 1 0)), .int ((((0 : Int32) + ((own_bump (own_bump (own_bump (own_bump (own_bump (own_bump own_w0 q0) q1) q2) q3) q4) q5).getD 0 0)) + ((own_bump (own_bump (own_bump (own_bump (own_bump (own_bump own_w0 q0) q1) q2) q3) q4) q5).getD 1 0)) + ((own_bump (own_bump (own_bump (own_bump (own_bump (own_bump own_w0 q0) q1) q2) q3) q4) q5).getD 2 0))]), (.inr .int, (own_iv (own_lay 2 q2 (own_lay 1 q1 (own_lay 0 q0 (own_nx0 (own_bump (own_bump (own_bump (own_bump (own_bump (own_bump own_w0 q0) q1) q2) q3) q4) q5), own_z0)))).2)), (.inr .int, (own_iv (own_lay 3 q3 (own_lay 2 q2 (own_lay 1 q1 (own_lay 0 q0 (own_nx0 (own_bump (own_bump (own_bump (own_bump (own_bump (own_bump own_w0 q0) q1) q2) q3) q4) q5), own_z0))))).1))]) rfl ?_
  refine own_ks.iastore (mt := own_m5) rfl (t := 27) (a := 7) (H' := [(.inr .int, [.int (Int32.ofNat q0), .int (Int32.ofNat q1), .int (Int32.ofNat q2), .int (Int32.ofNat q3), .int (Int32.ofNat q4), .int (Int32.ofNat q5)]), (.inr .int, (own_iv (own_bump (own_bump (own_bump (own_bump (own_bump (own_bump own_w0 q0) q1) q2) q3) q4) q5))), (.inl 0, [.ref 3, .ref 4, .ref 5, .ref 6, .ref 7, .null, .int (0 : Int32)]), (.inr .int, []), (.inr .int, []), (.inr .int, (own_iv (own_bump (own_bump (own_bump (own_bump (own_bump (own_bump own_w0 q0) q1) q2) q3) q4) q5))), (.inr .int, [.int (0 : Int32), .int ((0 : Int32) + ((own_bump (own_bump (own_bump (own_bump (own_bump (own_bump own_w0 q0) q1) q2) q3) q4) q5).getD 0 0)), .int (((0 : Int32) + ((own_bump (own_bump (own_bump (own_bump (own_bump (own_bump own_w0 q0) q1) q2) q3) q4) q5).getD 0 0)) + ((own_bump (own_bump (own_bump (own_bump (own_bump (own_bump own_w0 q0) q1) q2) q3) q4) q5).getD 1 0)), .int ((((0 : Int32) + ((own_bump (own_bump (own_bump (own_bump (own_bump (own_bump own_w0 q0) q1) q2) q3) q4) q5).getD 0 0)) + ((own_bump (own_bump (own_bump (own_bump (own_bump (own_bump own_w0 q0) q1) q2) q3) q4) q5).getD 1 0)) + ((own_bump (own_bump (own_bump (own_bump (own_bump (own_bump own_w0 q0) q1) q2) q3) q4) q5).getD 2 0))]), (.inr .int, (own_iv (own_lay 3 q3 (own_lay 2 q2 (own_lay 1 q1 (own_lay 0 q0 (own_nx0 (own_bump (own_bump (own_bump (own_bump (own_bump (own_bump own_w0 q0) q1) q2) q3) q4) q5), own_z0))))).2)), (.inr .int, (own_iv (own_lay 3 q3 (own_lay 2 q2 (own_lay 1 q1 (own_lay 0 q0 (own_nx0 (own_bump (own_bump (own_bump (own_bump (own_bump (own_bump own_w0 q0) q1) q2) q3) q4) q5), own_z0))))).1))]) rfl rfl (own_ixc (u3).1) (own_lt' (by rw [n3]; exact (u3).2)) (by rw [own_iv_set]; rfl) ?_
  refine own_ks.go (mt := own_m5) rfl 2 (pc' := 2) (L' := [.val (.ref 2), .val (.ref 0), .val (.ref 8), .val (.int (4 : Int32))]) (S' := []) (H' := [(.inr .int, [.int (Int32.ofNat q0), .int (Int32.ofNat q1), .int (Int32.ofNat q2), .int (Int32.ofNat q3), .int (Int32.ofNat q4), .int (Int32.ofNat q5)]), (.inr .int, (own_iv (own_bump (own_bump (own_bump (own_bump (own_bump (own_bump own_w0 q0) q1) q2) q3) q4) q5))), (.inl 0, [.ref 3, .ref 4, .ref 5, .ref 6, .ref 7, .null, .int (0 : Int32)]), (.inr .int, []), (.inr .int, []), (.inr .int, (own_iv (own_bump (own_bump (own_bump (own_bump (own_bump (own_bump own_w0 q0) q1) q2) q3) q4) q5))), (.inr .int, [.int (0 : Int32), .int ((0 : Int32) + ((own_bump (own_bump (own_bump (own_bump (own_bump (own_bump own_w0 q0) q1) q2) q3) q4) q5).getD 0 0)), .int (((0 : Int32) + ((own_bump (own_bump (own_bump (own_bump (own_bump (own_bump own_w0 q0) q1) q2) q3) q4) q5).getD 0 0)) + ((own_bump (own_bump (own_bump (own_bump (own_bump (own_bump own_w0 q0) q1) q2) q3) q4) q5).getD 1 0)), .int ((((0 : Int32) + ((own_bump (own_bump (own_bump (own_bump (own_bump (own_bump own_w0 q0) q1) q2) q3) q4) q5).getD 0 0)) + ((own_bump (own_bump (own_bump (own_bump (own_bump (own_bump own_w0 q0) q1) q2) q3) q4) q5).getD 1 0)) + ((own_bump (own_bump (own_bump (own_bump (own_bump (own_bump own_w0 q0) q1) q2) q3) q4) q5).getD 2 0))]), (.inr .int, (own_iv (own_lay 3 q3 (own_lay 2 q2 (own_lay 1 q1 (own_lay 0 q0 (own_nx0 (own_bump (own_bump (own_bump (own_bump (own_bump (own_bump own_w0 q0) q1) q2) q3) q4) q5), own_z0))))).2)), (.inr .int, (own_iv (own_lay 3 q3 (own_lay 2 q2 (own_lay 1 q1 (own_lay 0 q0 (own_nx0 (own_bump (own_bump (own_bump (own_bump (own_bump (own_bump own_w0 q0) q1) q2) q3) q4) q5), own_z0))))).1))]) rfl ?_
  refine own_ks.go (mt := own_m5) rfl 3 (pc' := 7) (L' := [.val (.ref 2), .val (.ref 0), .val (.ref 8), .val (.int (4 : Int32))]) (S' := [.ref 7, .int (4 : Int32)]) (H' := [(.inr .int, [.int (Int32.ofNat q0), .int (Int32.ofNat q1), .int (Int32.ofNat q2), .int (Int32.ofNat q3), .int (Int32.ofNat q4), .int (Int32.ofNat q5)]), (.inr .int, (own_iv (own_bump (own_bump (own_bump (own_bump (own_bump (own_bump own_w0 q0) q1) q2) q3) q4) q5))), (.inl 0, [.ref 3, .ref 4, .ref 5, .ref 6, .ref 7, .null, .int (0 : Int32)]), (.inr .int, []), (.inr .int, []), (.inr .int, (own_iv (own_bump (own_bump (own_bump (own_bump (own_bump (own_bump own_w0 q0) q1) q2) q3) q4) q5))), (.inr .int, [.int (0 : Int32), .int ((0 : Int32) + ((own_bump (own_bump (own_bump (own_bump (own_bump (own_bump own_w0 q0) q1) q2) q3) q4) q5).getD 0 0)), .int (((0 : Int32) + ((own_bump (own_bump (own_bump (own_bump (own_bump (own_bump own_w0 q0) q1) q2) q3) q4) q5).getD 0 0)) + ((own_bump (own_bump (own_bump (own_bump (own_bump (own_bump own_w0 q0) q1) q2) q3) q4) q5).getD 1 0)), .int ((((0 : Int32) + ((own_bump (own_bump (own_bump (own_bump (own_bump (own_bump own_w0 q0) q1) q2) q3) q4) q5).getD 0 0)) + ((own_bump (own_bump (own_bump (own_bump (own_bump (own_bump own_w0 q0) q1) q2) q3) q4) q5).getD 1 0)) + ((own_bump (own_bump (own_bump (own_bump (own_bump (own_bump own_w0 q0) q1) q2) q3) q4) q5).getD 2 0))]), (.inr .int, (own_iv (own_lay 3 q3 (own_lay 2 q2 (own_lay 1 q1 (own_lay 0 q0 (own_nx0 (own_bump (own_bump (own_bump (own_bump (own_bump (own_bump own_w0 q0) q1) q2) q3) q4) q5), own_z0))))).2)), (.inr .int, (own_iv (own_lay 3 q3 (own_lay 2 q2 (own_lay 1 q1 (own_lay 0 q0 (own_nx0 (own_bump (own_bump (own_bump (own_bump (own_bump (own_bump own_w0 q0) q1) q2) q3) q4) q5), own_z0))))).1))]) rfl ?_
  refine own_ks.alen (mt := own_m5) rfl (t := 8) (a := 7) (z := (6 : Int32)) rfl rfl (by rw [own_iv_len, n4]; rfl) ?_
  refine own_ks.go (mt := own_m5) rfl 8 (pc' := 20) (L' := [.val (.ref 2), .val (.ref 0), .val (.ref 8), .val (.int (4 : Int32))]) (S' := [.int (Int32.ofNat q4), .ref 8, .int (Int32.ofNat q4), .ref 8, .ref 7]) (H' := [(.inr .int, [.int (Int32.ofNat q0), .int (Int32.ofNat q1), .int (Int32.ofNat q2), .int (Int32.ofNat q3), .int (Int32.ofNat q4), .int (Int32.ofNat q5)]), (.inr .int, (own_iv (own_bump (own_bump (own_bump (own_bump (own_bump (own_bump own_w0 q0) q1) q2) q3) q4) q5))), (.inl 0, [.ref 3, .ref 4, .ref 5, .ref 6, .ref 7, .null, .int (0 : Int32)]), (.inr .int, []), (.inr .int, []), (.inr .int, (own_iv (own_bump (own_bump (own_bump (own_bump (own_bump (own_bump own_w0 q0) q1) q2) q3) q4) q5))), (.inr .int, [.int (0 : Int32), .int ((0 : Int32) + ((own_bump (own_bump (own_bump (own_bump (own_bump (own_bump own_w0 q0) q1) q2) q3) q4) q5).getD 0 0)), .int (((0 : Int32) + ((own_bump (own_bump (own_bump (own_bump (own_bump (own_bump own_w0 q0) q1) q2) q3) q4) q5).getD 0 0)) + ((own_bump (own_bump (own_bump (own_bump (own_bump (own_bump own_w0 q0) q1) q2) q3) q4) q5).getD 1 0)), .int ((((0 : Int32) + ((own_bump (own_bump (own_bump (own_bump (own_bump (own_bump own_w0 q0) q1) q2) q3) q4) q5).getD 0 0)) + ((own_bump (own_bump (own_bump (own_bump (own_bump (own_bump own_w0 q0) q1) q2) q3) q4) q5).getD 1 0)) + ((own_bump (own_bump (own_bump (own_bump (own_bump (own_bump own_w0 q0) q1) q2) q3) q4) q5).getD 2 0))]), (.inr .int, (own_iv (own_lay 3 q3 (own_lay 2 q2 (own_lay 1 q1 (own_lay 0 q0 (own_nx0 (own_bump (own_bump (own_bump (own_bump (own_bump (own_bump own_w0 q0) q1) q2) q3) q4) q5), own_z0))))).2)), (.inr .int, (own_iv (own_lay 3 q3 (own_lay 2 q2 (own_lay 1 q1 (own_lay 0 q0 (own_nx0 (own_bump (own_bump (own_bump (own_bump (own_bump (own_bump own_w0 q0) q1) q2) q3) q4) q5), own_z0))))).1))]) rfl ?_
  refine own_ks.iaload (mt := own_m5) rfl (t := 21) (a := 8) (v := .int ((own_lay 3 q3 (own_lay 2 q2 (own_lay 1 q1 (own_lay 0 q0 (own_nx0 (own_bump (own_bump (own_bump (own_bump (own_bump (own_bump own_w0 q0) q1) q2) q3) q4) q5), own_z0))))).1.getD q4 0)) rfl rfl (own_ixo (by omega)) (own_iv_get (own_bg (by rw [m4]; exact g4))) ?_
  refine own_ks.go (mt := own_m5) rfl 3 (pc' := 24) (L' := [.val (.ref 2), .val (.ref 0), .val (.ref 8), .val (.int (4 : Int32))]) (S' := [.int (((own_lay 3 q3 (own_lay 2 q2 (own_lay 1 q1 (own_lay 0 q0 (own_nx0 (own_bump (own_bump (own_bump (own_bump (own_bump (own_bump own_w0 q0) q1) q2) q3) q4) q5), own_z0))))).1.getD q4 0) + (1 : Int32)), .int (Int32.ofNat q4), .ref 8, .int ((own_lay 3 q3 (own_lay 2 q2 (own_lay 1 q1 (own_lay 0 q0 (own_nx0 (own_bump (own_bump (own_bump (own_bump (own_bump (own_bump own_w0 q0) q1) q2) q3) q4) q5), own_z0))))).1.getD q4 0), .ref 7]) (H' := [(.inr .int, [.int (Int32.ofNat q0), .int (Int32.ofNat q1), .int (Int32.ofNat q2), .int (Int32.ofNat q3), .int (Int32.ofNat q4), .int (Int32.ofNat q5)]), (.inr .int, (own_iv (own_bump (own_bump (own_bump (own_bump (own_bump (own_bump own_w0 q0) q1) q2) q3) q4) q5))), (.inl 0, [.ref 3, .ref 4, .ref 5, .ref 6, .ref 7, .null, .int (0 : Int32)]), (.inr .int, []), (.inr .int, []), (.inr .int, (own_iv (own_bump (own_bump (own_bump (own_bump (own_bump (own_bump own_w0 q0) q1) q2) q3) q4) q5))), (.inr .int, [.int (0 : Int32), .int ((0 : Int32) + ((own_bump (own_bump (own_bump (own_bump (own_bump (own_bump own_w0 q0) q1) q2) q3) q4) q5).getD 0 0)), .int (((0 : Int32) + ((own_bump (own_bump (own_bump (own_bump (own_bump (own_bump own_w0 q0) q1) q2) q3) q4) q5).getD 0 0)) + ((own_bump (own_bump (own_bump (own_bump (own_bump (own_bump own_w0 q0) q1) q2) q3) q4) q5).getD 1 0)), .int ((((0 : Int32) + ((own_bump (own_bump (own_bump (own_bump (own_bump (own_bump own_w0 q0) q1) q2) q3) q4) q5).getD 0 0)) + ((own_bump (own_bump (own_bump (own_bump (own_bump (own_bump own_w0 q0) q1) q2) q3) q4) q5).getD 1 0)) + ((own_bump (own_bump (own_bump (own_bump (own_bump (own_bump own_w0 q0) q1) q2) q3) q4) q5).getD 2 0))]), (.inr .int, (own_iv (own_lay 3 q3 (own_lay 2 q2 (own_lay 1 q1 (own_lay 0 q0 (own_nx0 (own_bump (own_bump (own_bump (own_bump (own_bump (own_bump own_w0 q0) q1) q2) q3) q4) q5), own_z0))))).2)), (.inr .int, (own_iv (own_lay 3 q3 (own_lay 2 q2 (own_lay 1 q1 (own_lay 0 q0 (own_nx0 (own_bump (own_bump (own_bump (own_bump (own_bump (own_bump own_w0 q0) q1) q2) q3) q4) q5), own_z0))))).1))]) rfl ?_
  refine own_ks.iastore (mt := own_m5) rfl (t := 25) (a := 8) (H' := [(.inr .int, [.int (Int32.ofNat q0), .int (Int32.ofNat q1), .int (Int32.ofNat q2), .int (Int32.ofNat q3), .int (Int32.ofNat q4), .int (Int32.ofNat q5)]), (.inr .int, (own_iv (own_bump (own_bump (own_bump (own_bump (own_bump (own_bump own_w0 q0) q1) q2) q3) q4) q5))), (.inl 0, [.ref 3, .ref 4, .ref 5, .ref 6, .ref 7, .null, .int (0 : Int32)]), (.inr .int, []), (.inr .int, []), (.inr .int, (own_iv (own_bump (own_bump (own_bump (own_bump (own_bump (own_bump own_w0 q0) q1) q2) q3) q4) q5))), (.inr .int, [.int (0 : Int32), .int ((0 : Int32) + ((own_bump (own_bump (own_bump (own_bump (own_bump (own_bump own_w0 q0) q1) q2) q3) q4) q5).getD 0 0)), .int (((0 : Int32) + ((own_bump (own_bump (own_bump (own_bump (own_bump (own_bump own_w0 q0) q1) q2) q3) q4) q5).getD 0 0)) + ((own_bump (own_bump (own_bump (own_bump (own_bump (own_bump own_w0 q0) q1) q2) q3) q4) q5).getD 1 0)), .int ((((0 : Int32) + ((own_bump (own_bump (own_bump (own_bump (own_bump (own_bump own_w0 q0) q1) q2) q3) q4) q5).getD 0 0)) + ((own_bump (own_bump (own_bump (own_bump (own_bump (own_bump own_w0 q0) q1) q2) q3) q4) q5).getD 1 0)) + ((own_bump (own_bump (own_bump (own_bump (own_bump (own_bump own_w0 q0) q1) q2) q3) q4) q5).getD 2 0))]), (.inr .int, (own_iv (own_lay 3 q3 (own_lay 2 q2 (own_lay 1 q1 (own_lay 0 q0 (own_nx0 (own_bump (own_bump (own_bump (own_bump (own_bump (own_bump own_w0 q0) q1) q2) q3) q4) q5), own_z0))))).2)), (.inr .int, (own_iv (own_lay 4 q4 (own_lay 3 q3 (own_lay 2 q2 (own_lay 1 q1 (own_lay 0 q0 (own_nx0 (own_bump (own_bump (own_bump (own_bump (own_bump (own_bump own_w0 q0) q1) q2) q3) q4) q5), own_z0)))))).1))]) rfl rfl (own_ixo (by omega)) (own_lt' (by rw [m4]; exact g4)) (by rw [own_iv_set]; rfl) ?_
  refine own_ks.go (mt := own_m5) rfl 1 (pc' := 26) (L' := [.val (.ref 2), .val (.ref 0), .val (.ref 8), .val (.int (4 : Int32))]) (S' := [.int (4 : Int32), .int ((own_lay 3 q3 (own_lay 2 q2 (own_lay 1 q1 (own_lay 0 q0 (own_nx0 (own_bump (own_bump (own_bump (own_bump (own_bump (own_bump own_w0 q0) q1) q2) q3) q4) q5), own_z0))))).1.getD q4 0), .ref 7]) (H' := [(.inr .int, [.int (Int32.ofNat q0), .int (Int32.ofNat q1), .int (Int32.ofNat q2), .int (Int32.ofNat q3), .int (Int32.ofNat q4), .int (Int32.ofNat q5)]), (.inr .int, (own_iv (own_bump (own_bump (own_bump (own_bump (own_bump (own_bump own_w0 q0) q1) q2) q3) q4) q5))), (.inl 0, [.ref 3, .ref 4, .ref 5, .ref 6, .ref 7, .null, .int (0 : Int32)]), (.inr .int, []), (.inr .int, []), (.inr .int, (own_iv (own_bump (own_bump (own_bump (own_bump (own_bump (own_bump own_w0 q0) q1) q2) q3) q4) q5))), (.inr .int, [.int (0 : Int32), .int ((0 : Int32) + ((own_bump (own_bump (own_bump (own_bump (own_bump (own_bump own_w0 q0) q1) q2) q3) q4) q5).getD 0 0)), .int (((0 : Int32) + ((own_bump (own_bump (own_bump (own_bump (own_bump (own_bump own_w0 q0) q1) q2) q3) q4) q5).getD 0 0)) + ((own_bump (own_bump (own_bump (own_bump (own_bump (own_bump own_w0 q0) q1) q2) q3) q4) q5).getD 1 0)), .int ((((0 : Int32) + ((own_bump (own_bump (own_bump (own_bump (own_bump (own_bump own_w0 q0) q1) q2) q3) q4) q5).getD 0 0)) + ((own_bump (own_bump (own_bump (own_bump (own_bump (own_bump own_w0 q0) q1) q2) q3) q4) q5).getD 1 0)) + ((own_bump (own_bump (own_bump (own_bump (own_bump (own_bump own_w0 q0) q1) q2) q3) q4) q5).getD 2 0))]), (.inr .int, (own_iv (own_lay 3 q3 (own_lay 2 q2 (own_lay 1 q1 (own_lay 0 q0 (own_nx0 (own_bump (own_bump (own_bump (own_bump (own_bump (own_bump own_w0 q0) q1) q2) q3) q4) q5), own_z0))))).2)), (.inr .int, (own_iv (own_lay 4 q4 (own_lay 3 q3 (own_lay 2 q2 (own_lay 1 q1 (own_lay 0 q0 (own_nx0 (own_bump (own_bump (own_bump (own_bump (own_bump (own_bump own_w0 q0) q1) q2) q3) q4) q5), own_z0)))))).1))]) rfl ?_
  refine own_ks.iastore (mt := own_m5) rfl (t := 27) (a := 7) (H' := [(.inr .int, [.int (Int32.ofNat q0), .int (Int32.ofNat q1), .int (Int32.ofNat q2), .int (Int32.ofNat q3), .int (Int32.ofNat q4), .int (Int32.ofNat q5)]), (.inr .int, (own_iv (own_bump (own_bump (own_bump (own_bump (own_bump (own_bump own_w0 q0) q1) q2) q3) q4) q5))), (.inl 0, [.ref 3, .ref 4, .ref 5, .ref 6, .ref 7, .null, .int (0 : Int32)]), (.inr .int, []), (.inr .int, []), (.inr .int, (own_iv (own_bump (own_bump (own_bump (own_bump (own_bump (own_bump own_w0 q0) q1) q2) q3) q4) q5))), (.inr .int, [.int (0 : Int32), .int ((0 : Int32) + ((own_bump (own_bump (own_bump (own_bump (own_bump (own_bump own_w0 q0) q1) q2) q3) q4) q5).getD 0 0)), .int (((0 : Int32) + ((own_bump (own_bump (own_bump (own_bump (own_bump (own_bump own_w0 q0) q1) q2) q3) q4) q5).getD 0 0)) + ((own_bump (own_bump (own_bump (own_bump (own_bump (own_bump own_w0 q0) q1) q2) q3) q4) q5).getD 1 0)), .int ((((0 : Int32) + ((own_bump (own_bump (own_bump (own_bump (own_bump (own_bump own_w0 q0) q1) q2) q3) q4) q5).getD 0 0)) + ((own_bump (own_bump (own_bump (own_bump (own_bump (own_bump own_w0 q0) q1) q2) q3) q4) q5).getD 1 0)) + ((own_bump (own_bump (own_bump (own_bump (own_bump (own_bump own_w0 q0) q1) q2) q3) q4) q5).getD 2 0))]), (.inr .int, (own_iv (own_lay 4 q4 (own_lay 3 q3 (own_lay 2 q2 (own_lay 1 q1 (own_lay 0 q0 (own_nx0 (own_bump (own_bump (own_bump (own_bump (own_bump (own_bump own_w0 q0) q1) q2) q3) q4) q5), own_z0)))))).2)), (.inr .int, (own_iv (own_lay 4 q4 (own_lay 3 q3 (own_lay 2 q2 (own_lay 1 q1 (own_lay 0 q0 (own_nx0 (own_bump (own_bump (own_bump (own_bump (own_bump (own_bump own_w0 q0) q1) q2) q3) q4) q5), own_z0)))))).1))]) rfl rfl (own_ixc (u4).1) (own_lt' (by rw [n4]; exact (u4).2)) (by rw [own_iv_set]; rfl) ?_
  refine own_ks.go (mt := own_m5) rfl 2 (pc' := 2) (L' := [.val (.ref 2), .val (.ref 0), .val (.ref 8), .val (.int (5 : Int32))]) (S' := []) (H' := [(.inr .int, [.int (Int32.ofNat q0), .int (Int32.ofNat q1), .int (Int32.ofNat q2), .int (Int32.ofNat q3), .int (Int32.ofNat q4), .int (Int32.ofNat q5)]), (.inr .int, (own_iv (own_bump (own_bump (own_bump (own_bump (own_bump (own_bump own_w0 q0) q1) q2) q3) q4) q5))), (.inl 0, [.ref 3, .ref 4, .ref 5, .ref 6, .ref 7, .null, .int (0 : Int32)]), (.inr .int, []), (.inr .int, []), (.inr .int, (own_iv (own_bump (own_bump (own_bump (own_bump (own_bump (own_bump own_w0 q0) q1) q2) q3) q4) q5))), (.inr .int, [.int (0 : Int32), .int ((0 : Int32) + ((own_bump (own_bump (own_bump (own_bump (own_bump (own_bump own_w0 q0) q1) q2) q3) q4) q5).getD 0 0)), .int (((0 : Int32) + ((own_bump (own_bump (own_bump (own_bump (own_bump (own_bump own_w0 q0) q1) q2) q3) q4) q5).getD 0 0)) + ((own_bump (own_bump (own_bump (own_bump (own_bump (own_bump own_w0 q0) q1) q2) q3) q4) q5).getD 1 0)), .int ((((0 : Int32) + ((own_bump (own_bump (own_bump (own_bump (own_bump (own_bump own_w0 q0) q1) q2) q3) q4) q5).getD 0 0)) + ((own_bump (own_bump (own_bump (own_bump (own_bump (own_bump own_w0 q0) q1) q2) q3) q4) q5).getD 1 0)) + ((own_bump (own_bump (own_bump (own_bump (own_bump (own_bump own_w0 q0) q1) q2) q3) q4) q5).getD 2 0))]), (.inr .int, (own_iv (own_lay 4 q4 (own_lay 3 q3 (own_lay 2 q2 (own_lay 1 q1 (own_lay 0 q0 (own_nx0 (own_bump (own_bump (own_bump (own_bump (own_bump (own_bump own_w0 q0) q1) q2) q3) q4) q5), own_z0)))))).2)), (.inr .int, (own_iv (own_lay 4 q4 (own_lay 3 q3 (own_lay 2 q2 (own_lay 1 q1 (own_lay 0 q0 (own_nx0 (own_bump (own_bump (own_bump (own_bump (own_bump (own_bump own_w0 q0) q1) q2) q3) q4) q5), own_z0)))))).1))]) rfl ?_
  refine own_ks.go (mt := own_m5) rfl 3 (pc' := 7) (L' := [.val (.ref 2), .val (.ref 0), .val (.ref 8), .val (.int (5 : Int32))]) (S' := [.ref 7, .int (5 : Int32)]) (H' := [(.inr .int, [.int (Int32.ofNat q0), .int (Int32.ofNat q1), .int (Int32.ofNat q2), .int (Int32.ofNat q3), .int (Int32.ofNat q4), .int (Int32.ofNat q5)]), (.inr .int, (own_iv (own_bump (own_bump (own_bump (own_bump (own_bump (own_bump own_w0 q0) q1) q2) q3) q4) q5))), (.inl 0, [.ref 3, .ref 4, .ref 5, .ref 6, .ref 7, .null, .int (0 : Int32)]), (.inr .int, []), (.inr .int, []), (.inr .int, (own_iv (own_bump (own_bump (own_bump (own_bump (own_bump (own_bump own_w0 q0) q1) q2) q3) q4) q5))), (.inr .int, [.int (0 : Int32), .int ((0 : Int32) + ((own_bump (own_bump (own_bump (own_bump (own_bump (own_bump own_w0 q0) q1) q2) q3) q4) q5).getD 0 0)), .int (((0 : Int32) + ((own_bump (own_bump (own_bump (own_bump (own_bump (own_bump own_w0 q0) q1) q2) q3) q4) q5).getD 0 0)) + ((own_bump (own_bump (own_bump (own_bump (own_bump (own_bump own_w0 q0) q1) q2) q3) q4) q5).getD 1 0)), .int ((((0 : Int32) + ((own_bump (own_bump (own_bump (own_bump (own_bump (own_bump own_w0 q0) q1) q2) q3) q4) q5).getD 0 0)) + ((own_bump (own_bump (own_bump (own_bump (own_bump (own_bump own_w0 q0) q1) q2) q3) q4) q5).getD 1 0)) + ((own_bump (own_bump (own_bump (own_bump (own_bump (own_bump own_w0 q0) q1) q2) q3) q4) q5).getD 2 0))]), (.inr .int, (own_iv (own_lay 4 q4 (own_lay 3 q3 (own_lay 2 q2 (own_lay 1 q1 (own_lay 0 q0 (own_nx0 (own_bump (own_bump (own_bump (own_bump (own_bump (own_bump own_w0 q0) q1) q2) q3) q4) q5), own_z0)))))).2)), (.inr .int, (own_iv (own_lay 4 q4 (own_lay 3 q3 (own_lay 2 q2 (own_lay 1 q1 (own_lay 0 q0 (own_nx0 (own_bump (own_bump (own_bump (own_bump (own_bump (own_bump own_w0 q0) q1) q2) q3) q4) q5), own_z0)))))).1))]) rfl ?_
  refine own_ks.alen (mt := own_m5) rfl (t := 8) (a := 7) (z := (6 : Int32)) rfl rfl (by rw [own_iv_len, n5]; rfl) ?_
  refine own_ks.go (mt := own_m5) rfl 8 (pc' := 20) (L' := [.val (.ref 2), .val (.ref 0), .val (.ref 8), .val (.int (5 : Int32))]) (S' := [.int (Int32.ofNat q5), .ref 8, .int (Int32.ofNat q5), .ref 8, .ref 7]) (H' := [(.inr .int, [.int (Int32.ofNat q0), .int (Int32.ofNat q1), .int (Int32.ofNat q2), .int (Int32.ofNat q3), .int (Int32.ofNat q4), .int (Int32.ofNat q5)]), (.inr .int, (own_iv (own_bump (own_bump (own_bump (own_bump (own_bump (own_bump own_w0 q0) q1) q2) q3) q4) q5))), (.inl 0, [.ref 3, .ref 4, .ref 5, .ref 6, .ref 7, .null, .int (0 : Int32)]), (.inr .int, []), (.inr .int, []), (.inr .int, (own_iv (own_bump (own_bump (own_bump (own_bump (own_bump (own_bump own_w0 q0) q1) q2) q3) q4) q5))), (.inr .int, [.int (0 : Int32), .int ((0 : Int32) + ((own_bump (own_bump (own_bump (own_bump (own_bump (own_bump own_w0 q0) q1) q2) q3) q4) q5).getD 0 0)), .int (((0 : Int32) + ((own_bump (own_bump (own_bump (own_bump (own_bump (own_bump own_w0 q0) q1) q2) q3) q4) q5).getD 0 0)) + ((own_bump (own_bump (own_bump (own_bump (own_bump (own_bump own_w0 q0) q1) q2) q3) q4) q5).getD 1 0)), .int ((((0 : Int32) + ((own_bump (own_bump (own_bump (own_bump (own_bump (own_bump own_w0 q0) q1) q2) q3) q4) q5).getD 0 0)) + ((own_bump (own_bump (own_bump (own_bump (own_bump (own_bump own_w0 q0) q1) q2) q3) q4) q5).getD 1 0)) + ((own_bump (own_bump (own_bump (own_bump (own_bump (own_bump own_w0 q0) q1) q2) q3) q4) q5).getD 2 0))]), (.inr .int, (own_iv (own_lay 4 q4 (own_lay 3 q3 (own_lay 2 q2 (own_lay 1 q1 (own_lay 0 q0 (own_nx0 (own_bump (own_bump (own_bump (own_bump (own_bump (own_bump own_w0 q0) q1) q2) q3) q4) q5), own_z0)))))).2)), (.inr .int, (own_iv (own_lay 4 q4 (own_lay 3 q3 (own_lay 2 q2 (own_lay 1 q1 (own_lay 0 q0 (own_nx0 (own_bump (own_bump (own_bump (own_bump (own_bump (own_bump own_w0 q0) q1) q2) q3) q4) q5), own_z0)))))).1))]) rfl ?_
  refine own_ks.iaload (mt := own_m5) rfl (t := 21) (a := 8) (v := .int ((own_lay 4 q4 (own_lay 3 q3 (own_lay 2 q2 (own_lay 1 q1 (own_lay 0 q0 (own_nx0 (own_bump (own_bump (own_bump (own_bump (own_bump (own_bump own_w0 q0) q1) q2) q3) q4) q5), own_z0)))))).1.getD q5 0)) rfl rfl (own_ixo (by omega)) (own_iv_get (own_bg (by rw [m5]; exact g5))) ?_
  refine own_ks.go (mt := own_m5) rfl 3 (pc' := 24) (L' := [.val (.ref 2), .val (.ref 0), .val (.ref 8), .val (.int (5 : Int32))]) (S' := [.int (((own_lay 4 q4 (own_lay 3 q3 (own_lay 2 q2 (own_lay 1 q1 (own_lay 0 q0 (own_nx0 (own_bump (own_bump (own_bump (own_bump (own_bump (own_bump own_w0 q0) q1) q2) q3) q4) q5), own_z0)))))).1.getD q5 0) + (1 : Int32)), .int (Int32.ofNat q5), .ref 8, .int ((own_lay 4 q4 (own_lay 3 q3 (own_lay 2 q2 (own_lay 1 q1 (own_lay 0 q0 (own_nx0 (own_bump (own_bump (own_bump (own_bump (own_bump (own_bump own_w0 q0) q1) q2) q3) q4) q5), own_z0)))))).1.getD q5 0), .ref 7]) (H' := [(.inr .int, [.int (Int32.ofNat q0), .int (Int32.ofNat q1), .int (Int32.ofNat q2), .int (Int32.ofNat q3), .int (Int32.ofNat q4), .int (Int32.ofNat q5)]), (.inr .int, (own_iv (own_bump (own_bump (own_bump (own_bump (own_bump (own_bump own_w0 q0) q1) q2) q3) q4) q5))), (.inl 0, [.ref 3, .ref 4, .ref 5, .ref 6, .ref 7, .null, .int (0 : Int32)]), (.inr .int, []), (.inr .int, []), (.inr .int, (own_iv (own_bump (own_bump (own_bump (own_bump (own_bump (own_bump own_w0 q0) q1) q2) q3) q4) q5))), (.inr .int, [.int (0 : Int32), .int ((0 : Int32) + ((own_bump (own_bump (own_bump (own_bump (own_bump (own_bump own_w0 q0) q1) q2) q3) q4) q5).getD 0 0)), .int (((0 : Int32) + ((own_bump (own_bump (own_bump (own_bump (own_bump (own_bump own_w0 q0) q1) q2) q3) q4) q5).getD 0 0)) + ((own_bump (own_bump (own_bump (own_bump (own_bump (own_bump own_w0 q0) q1) q2) q3) q4) q5).getD 1 0)), .int ((((0 : Int32) + ((own_bump (own_bump (own_bump (own_bump (own_bump (own_bump own_w0 q0) q1) q2) q3) q4) q5).getD 0 0)) + ((own_bump (own_bump (own_bump (own_bump (own_bump (own_bump own_w0 q0) q1) q2) q3) q4) q5).getD 1 0)) + ((own_bump (own_bump (own_bump (own_bump (own_bump (own_bump own_w0 q0) q1) q2) q3) q4) q5).getD 2 0))]), (.inr .int, (own_iv (own_lay 4 q4 (own_lay 3 q3 (own_lay 2 q2 (own_lay 1 q1 (own_lay 0 q0 (own_nx0 (own_bump (own_bump (own_bump (own_bump (own_bump (own_bump own_w0 q0) q1) q2) q3) q4) q5), own_z0)))))).2)), (.inr .int, (own_iv (own_lay 4 q4 (own_lay 3 q3 (own_lay 2 q2 (own_lay 1 q1 (own_lay 0 q0 (own_nx0 (own_bump (own_bump (own_bump (own_bump (own_bump (own_bump own_w0 q0) q1) q2) q3) q4) q5), own_z0)))))).1))]) rfl ?_
  refine own_ks.iastore (mt := own_m5) rfl (t := 25) (a := 8) (H' := [(.inr .int, [.int (Int32.ofNat q0), .int (Int32.ofNat q1), .int (Int32.ofNat q2), .int (Int32.ofNat q3), .int (Int32.ofNat q4), .int (Int32.ofNat q5)]), (.inr .int, (own_iv (own_bump (own_bump (own_bump (own_bump (own_bump (own_bump own_w0 q0) q1) q2) q3) q4) q5))), (.inl 0, [.ref 3, .ref 4, .ref 5, .ref 6, .ref 7, .null, .int (0 : Int32)]), (.inr .int, []), (.inr .int, []), (.inr .int, (own_iv (own_bump (own_bump (own_bump (own_bump (own_bump (own_bump own_w0 q0) q1) q2) q3) q4) q5))), (.inr .int, [.int (0 : Int32), .int ((0 : Int32) + ((own_bump (own_bump (own_bump (own_bump (own_bump (own_bump own_w0 q0) q1) q2) q3) q4) q5).getD 0 0)), .int (((0 : Int32) + ((own_bump (own_bump (own_bump (own_bump (own_bump (own_bump own_w0 q0) q1) q2) q3) q4) q5).getD 0 0)) + ((own_bump (own_bump (own_bump (own_bump (own_bump (own_bump own_w0 q0) q1) q2) q3) q4) q5).getD 1 0)), .int ((((0 : Int32) + ((own_bump (own_bump (own_bump (own_bump (own_bump (own_bump own_w0 q0) q1) q2) q3) q4) q5).getD 0 0)) + ((own_bump (own_bump (own_bump (own_bump (own_bump (own_bump own_w0 q0) q1) q2) q3) q4) q5).getD 1 0)) + ((own_bump (own_bump (own_bump (own_bump (own_bump (own_bump own_w0 q0) q1) q2) q3) q4) q5).getD 2 0))]), (.inr .int, (own_iv (own_lay 4 q4 (own_lay 3 q3 (own_lay 2 q2 (own_lay 1 q1 (own_lay 0 q0 (own_nx0 (own_bump (own_bump (own_bump (own_bump (own_bump (own_bump own_w0 q0) q1) q2) q3) q4) q5), own_z0)))))).2)), (.inr .int, (own_iv (own_lay 5 q5 (own_lay 4 q4 (own_lay 3 q3 (own_lay 2 q2 (own_lay 1 q1 (own_lay 0 q0 (own_nx0 (own_bump (own_bump (own_bump (own_bump (own_bump (own_bump own_w0 q0) q1) q2) q3) q4) q5), own_z0))))))).1))]) rfl rfl (own_ixo (by omega)) (own_lt' (by rw [m5]; exact g5)) (by rw [own_iv_set]; rfl) ?_
  refine own_ks.go (mt := own_m5) rfl 1 (pc' := 26) (L' := [.val (.ref 2), .val (.ref 0), .val (.ref 8), .val (.int (5 : Int32))]) (S' := [.int (5 : Int32), .int ((own_lay 4 q4 (own_lay 3 q3 (own_lay 2 q2 (own_lay 1 q1 (own_lay 0 q0 (own_nx0 (own_bump (own_bump (own_bump (own_bump (own_bump (own_bump own_w0 q0) q1) q2) q3) q4) q5), own_z0)))))).1.getD q5 0), .ref 7]) (H' := [(.inr .int, [.int (Int32.ofNat q0), .int (Int32.ofNat q1), .int (Int32.ofNat q2), .int (Int32.ofNat q3), .int (Int32.ofNat q4), .int (Int32.ofNat q5)]), (.inr .int, (own_iv (own_bump (own_bump (own_bump (own_bump (own_bump (own_bump own_w0 q0) q1) q2) q3) q4) q5))), (.inl 0, [.ref 3, .ref 4, .ref 5, .ref 6, .ref 7, .null, .int (0 : Int32)]), (.inr .int, []), (.inr .int, []), (.inr .int, (own_iv (own_bump (own_bump (own_bump (own_bump (own_bump (own_bump own_w0 q0) q1) q2) q3) q4) q5))), (.inr .int, [.int (0 : Int32), .int ((0 : Int32) + ((own_bump (own_bump (own_bump (own_bump (own_bump (own_bump own_w0 q0) q1) q2) q3) q4) q5).getD 0 0)), .int (((0 : Int32) + ((own_bump (own_bump (own_bump (own_bump (own_bump (own_bump own_w0 q0) q1) q2) q3) q4) q5).getD 0 0)) + ((own_bump (own_bump (own_bump (own_bump (own_bump (own_bump own_w0 q0) q1) q2) q3) q4) q5).getD 1 0)), .int ((((0 : Int32) + ((own_bump (own_bump (own_bump (own_bump (own_bump (own_bump own_w0 q0) q1) q2) q3) q4) q5).getD 0 0)) + ((own_bump (own_bump (own_bump (own_bump (own_bump (own_bump own_w0 q0) q1) q2) q3) q4) q5).getD 1 0)) + ((own_bump (own_bump (own_bump (own_bump (own_bump (own_bump own_w0 q0) q1) q2) q3) q4) q5).getD 2 0))]), (.inr .int, (own_iv (own_lay 4 q4 (own_lay 3 q3 (own_lay 2 q2 (own_lay 1 q1 (own_lay 0 q0 (own_nx0 (own_bump (own_bump (own_bump (own_bump (own_bump (own_bump own_w0 q0) q1) q2) q3) q4) q5), own_z0)))))).2)), (.inr .int, (own_iv (own_lay 5 q5 (own_lay 4 q4 (own_lay 3 q3 (own_lay 2 q2 (own_lay 1 q1 (own_lay 0 q0 (own_nx0 (own_bump (own_bump (own_bump (own_bump (own_bump (own_bump own_w0 q0) q1) q2) q3) q4) q5), own_z0))))))).1))]) rfl ?_
  refine own_ks.iastore (mt := own_m5) rfl (t := 27) (a := 7) (H' := [(.inr .int, [.int (Int32.ofNat q0), .int (Int32.ofNat q1), .int (Int32.ofNat q2), .int (Int32.ofNat q3), .int (Int32.ofNat q4), .int (Int32.ofNat q5)]), (.inr .int, (own_iv (own_bump (own_bump (own_bump (own_bump (own_bump (own_bump own_w0 q0) q1) q2) q3) q4) q5))), (.inl 0, [.ref 3, .ref 4, .ref 5, .ref 6, .ref 7, .null, .int (0 : Int32)]), (.inr .int, []), (.inr .int, []), (.inr .int, (own_iv (own_bump (own_bump (own_bump (own_bump (own_bump (own_bump own_w0 q0) q1) q2) q3) q4) q5))), (.inr .int, [.int (0 : Int32), .int ((0 : Int32) + ((own_bump (own_bump (own_bump (own_bump (own_bump (own_bump own_w0 q0) q1) q2) q3) q4) q5).getD 0 0)), .int (((0 : Int32) + ((own_bump (own_bump (own_bump (own_bump (own_bump (own_bump own_w0 q0) q1) q2) q3) q4) q5).getD 0 0)) + ((own_bump (own_bump (own_bump (own_bump (own_bump (own_bump own_w0 q0) q1) q2) q3) q4) q5).getD 1 0)), .int ((((0 : Int32) + ((own_bump (own_bump (own_bump (own_bump (own_bump (own_bump own_w0 q0) q1) q2) q3) q4) q5).getD 0 0)) + ((own_bump (own_bump (own_bump (own_bump (own_bump (own_bump own_w0 q0) q1) q2) q3) q4) q5).getD 1 0)) + ((own_bump (own_bump (own_bump (own_bump (own_bump (own_bump own_w0 q0) q1) q2) q3) q4) q5).getD 2 0))]), (.inr .int, (own_iv (own_lay 5 q5 (own_lay 4 q4 (own_lay 3 q3 (own_lay 2 q2 (own_lay 1 q1 (own_lay 0 q0 (own_nx0 (own_bump (own_bump (own_bump (own_bump (own_bump (own_bump own_w0 q0) q1) q2) q3) q4) q5), own_z0))))))).2)), (.inr .int, (own_iv (own_lay 5 q5 (own_lay 4 q4 (own_lay 3 q3 (own_lay 2 q2 (own_lay 1 q1 (own_lay 0 q0 (own_nx0 (own_bump (own_bump (own_bump (own_bump (own_bump (own_bump own_w0 q0) q1) q2) q3) q4) q5), own_z0))))))).1))]) rfl rfl (own_ixc (u5).1) (own_lt' (by rw [n5]; exact (u5).2)) (by rw [own_iv_set]; rfl) ?_
  refine own_ks.go (mt := own_m5) rfl 2 (pc' := 2) (L' := [.val (.ref 2), .val (.ref 0), .val (.ref 8), .val (.int (6 : Int32))]) (S' := []) (H' := [(.inr .int, [.int (Int32.ofNat q0), .int (Int32.ofNat q1), .int (Int32.ofNat q2), .int (Int32.ofNat q3), .int (Int32.ofNat q4), .int (Int32.ofNat q5)]), (.inr .int, (own_iv (own_bump (own_bump (own_bump (own_bump (own_bump (own_bump own_w0 q0) q1) q2) q3) q4) q5))), (.inl 0, [.ref 3, .ref 4, .ref 5, .ref 6, .ref 7, .null, .int (0 : Int32)]), (.inr .int, []), (.inr .int, []), (.inr .int, (own_iv (own_bump (own_bump (own_bump (own_bump (own_bump (own_bump own_w0 q0) q1) q2) q3) q4) q5))), (.inr .int, [.int (0 : Int32), .int ((0 : Int32) + ((own_bump (own_bump (own_bump (own_bump (own_bump (own_bump own_w0 q0) q1) q2) q3) q4) q5).getD 0 0)), .int (((0 : Int32) + ((own_bump (own_bump (own_bump (own_bump (own_bump (own_bump own_w0 q0) q1) q2) q3) q4) q5).getD 0 0)) + ((own_bump (own_bump (own_bump (own_bump (own_bump (own_bump own_w0 q0) q1) q2) q3) q4) q5).getD 1 0)), .int ((((0 : Int32) + ((own_bump (own_bump (own_bump (own_bump (own_bump (own_bump own_w0 q0) q1) q2) q3) q4) q5).getD 0 0)) + ((own_bump (own_bump (own_bump (own_bump (own_bump (own_bump own_w0 q0) q1) q2) q3) q4) q5).getD 1 0)) + ((own_bump (own_bump (own_bump (own_bump (own_bump (own_bump own_w0 q0) q1) q2) q3) q4) q5).getD 2 0))]), (.inr .int, (own_iv (own_lay 5 q5 (own_lay 4 q4 (own_lay 3 q3 (own_lay 2 q2 (own_lay 1 q1 (own_lay 0 q0 (own_nx0 (own_bump (own_bump (own_bump (own_bump (own_bump (own_bump own_w0 q0) q1) q2) q3) q4) q5), own_z0))))))).2)), (.inr .int, (own_iv (own_lay 5 q5 (own_lay 4 q4 (own_lay 3 q3 (own_lay 2 q2 (own_lay 1 q1 (own_lay 0 q0 (own_nx0 (own_bump (own_bump (own_bump (own_bump (own_bump (own_bump own_w0 q0) q1) q2) q3) q4) q5), own_z0))))))).1))]) rfl ?_
  refine own_ks.go (mt := own_m5) rfl 3 (pc' := 7) (L' := [.val (.ref 2), .val (.ref 0), .val (.ref 8), .val (.int (6 : Int32))]) (S' := [.ref 7, .int (6 : Int32)]) (H' := [(.inr .int, [.int (Int32.ofNat q0), .int (Int32.ofNat q1), .int (Int32.ofNat q2), .int (Int32.ofNat q3), .int (Int32.ofNat q4), .int (Int32.ofNat q5)]), (.inr .int, (own_iv (own_bump (own_bump (own_bump (own_bump (own_bump (own_bump own_w0 q0) q1) q2) q3) q4) q5))), (.inl 0, [.ref 3, .ref 4, .ref 5, .ref 6, .ref 7, .null, .int (0 : Int32)]), (.inr .int, []), (.inr .int, []), (.inr .int, (own_iv (own_bump (own_bump (own_bump (own_bump (own_bump (own_bump own_w0 q0) q1) q2) q3) q4) q5))), (.inr .int, [.int (0 : Int32), .int ((0 : Int32) + ((own_bump (own_bump (own_bump (own_bump (own_bump (own_bump own_w0 q0) q1) q2) q3) q4) q5).getD 0 0)), .int (((0 : Int32) + ((own_bump (own_bump (own_bump (own_bump (own_bump (own_bump own_w0 q0) q1) q2) q3) q4) q5).getD 0 0)) + ((own_bump (own_bump (own_bump (own_bump (own_bump (own_bump own_w0 q0) q1) q2) q3) q4) q5).getD 1 0)), .int ((((0 : Int32) + ((own_bump (own_bump (own_bump (own_bump (own_bump (own_bump own_w0 q0) q1) q2) q3) q4) q5).getD 0 0)) + ((own_bump (own_bump (own_bump (own_bump (own_bump (own_bump own_w0 q0) q1) q2) q3) q4) q5).getD 1 0)) + ((own_bump (own_bump (own_bump (own_bump (own_bump (own_bump own_w0 q0) q1) q2) q3) q4) q5).getD 2 0))]), (.inr .int, (own_iv (own_lay 5 q5 (own_lay 4 q4 (own_lay 3 q3 (own_lay 2 q2 (own_lay 1 q1 (own_lay 0 q0 (own_nx0 (own_bump (own_bump (own_bump (own_bump (own_bump (own_bump own_w0 q0) q1) q2) q3) q4) q5), own_z0))))))).2)), (.inr .int, (own_iv (own_lay 5 q5 (own_lay 4 q4 (own_lay 3 q3 (own_lay 2 q2 (own_lay 1 q1 (own_lay 0 q0 (own_nx0 (own_bump (own_bump (own_bump (own_bump (own_bump (own_bump own_w0 q0) q1) q2) q3) q4) q5), own_z0))))))).1))]) rfl ?_
  refine own_ks.alen (mt := own_m5) rfl (t := 8) (a := 7) (z := (6 : Int32)) rfl rfl (by rw [own_iv_len, n6]; rfl) ?_
  refine own_ks.go (mt := own_m5) rfl 1 (pc' := 33) (L' := [.val (.ref 2), .val (.ref 0), .val (.ref 8), .val (.int (6 : Int32))]) (S' := []) (H' := [(.inr .int, [.int (Int32.ofNat q0), .int (Int32.ofNat q1), .int (Int32.ofNat q2), .int (Int32.ofNat q3), .int (Int32.ofNat q4), .int (Int32.ofNat q5)]), (.inr .int, (own_iv (own_bump (own_bump (own_bump (own_bump (own_bump (own_bump own_w0 q0) q1) q2) q3) q4) q5))), (.inl 0, [.ref 3, .ref 4, .ref 5, .ref 6, .ref 7, .null, .int (0 : Int32)]), (.inr .int, []), (.inr .int, []), (.inr .int, (own_iv (own_bump (own_bump (own_bump (own_bump (own_bump (own_bump own_w0 q0) q1) q2) q3) q4) q5))), (.inr .int, [.int (0 : Int32), .int ((0 : Int32) + ((own_bump (own_bump (own_bump (own_bump (own_bump (own_bump own_w0 q0) q1) q2) q3) q4) q5).getD 0 0)), .int (((0 : Int32) + ((own_bump (own_bump (own_bump (own_bump (own_bump (own_bump own_w0 q0) q1) q2) q3) q4) q5).getD 0 0)) + ((own_bump (own_bump (own_bump (own_bump (own_bump (own_bump own_w0 q0) q1) q2) q3) q4) q5).getD 1 0)), .int ((((0 : Int32) + ((own_bump (own_bump (own_bump (own_bump (own_bump (own_bump own_w0 q0) q1) q2) q3) q4) q5).getD 0 0)) + ((own_bump (own_bump (own_bump (own_bump (own_bump (own_bump own_w0 q0) q1) q2) q3) q4) q5).getD 1 0)) + ((own_bump (own_bump (own_bump (own_bump (own_bump (own_bump own_w0 q0) q1) q2) q3) q4) q5).getD 2 0))]), (.inr .int, (own_iv (own_lay 5 q5 (own_lay 4 q4 (own_lay 3 q3 (own_lay 2 q2 (own_lay 1 q1 (own_lay 0 q0 (own_nx0 (own_bump (own_bump (own_bump (own_bump (own_bump (own_bump own_w0 q0) q1) q2) q3) q4) q5), own_z0))))))).2)), (.inr .int, (own_iv (own_lay 5 q5 (own_lay 4 q4 (own_lay 3 q3 (own_lay 2 q2 (own_lay 1 q1 (own_lay 0 q0 (own_nx0 (own_bump (own_bump (own_bump (own_bump (own_bump (own_bump own_w0 q0) q1) q2) q3) q4) q5), own_z0))))))).1))]) rfl ?_
  refine own_ks.back (mt := own_m5) rfl (ins := .return_) (t := 34) (v := none) (S2 := []) rfl rfl rfl ?_
  refine own_ks.go (mt := own_m2) rfl 2 (pc' := 95) (L' := [.val (.ref 2), .val (.ref 1), .val (.ref 0), .val (.int (3 : Int32))]) (S' := [.ref 1, .ref 2]) (H' := [(.inr .int, [.int (Int32.ofNat q0), .int (Int32.ofNat q1), .int (Int32.ofNat q2), .int (Int32.ofNat q3), .int (Int32.ofNat q4), .int (Int32.ofNat q5)]), (.inr .int, (own_iv (own_bump (own_bump (own_bump (own_bump (own_bump (own_bump own_w0 q0) q1) q2) q3) q4) q5))), (.inl 0, [.ref 3, .ref 4, .ref 5, .ref 6, .ref 7, .null, .int (0 : Int32)]), (.inr .int, []), (.inr .int, []), (.inr .int, (own_iv (own_bump (own_bump (own_bump (own_bump (own_bump (own_bump own_w0 q0) q1) q2) q3) q4) q5))), (.inr .int, [.int (0 : Int32), .int ((0 : Int32) + ((own_bump (own_bump (own_bump (own_bump (own_bump (own_bump own_w0 q0) q1) q2) q3) q4) q5).getD 0 0)), .int (((0 : Int32) + ((own_bump (own_bump (own_bump (own_bump (own_bump (own_bump own_w0 q0) q1) q2) q3) q4) q5).getD 0 0)) + ((own_bump (own_bump (own_bump (own_bump (own_bump (own_bump own_w0 q0) q1) q2) q3) q4) q5).getD 1 0)), .int ((((0 : Int32) + ((own_bump (own_bump (own_bump (own_bump (own_bump (own_bump own_w0 q0) q1) q2) q3) q4) q5).getD 0 0)) + ((own_bump (own_bump (own_bump (own_bump (own_bump (own_bump own_w0 q0) q1) q2) q3) q4) q5).getD 1 0)) + ((own_bump (own_bump (own_bump (own_bump (own_bump (own_bump own_w0 q0) q1) q2) q3) q4) q5).getD 2 0))]), (.inr .int, (own_iv (own_lay 5 q5 (own_lay 4 q4 (own_lay 3 q3 (own_lay 2 q2 (own_lay 1 q1 (own_lay 0 q0 (own_nx0 (own_bump (own_bump (own_bump (own_bump (own_bump (own_bump own_w0 q0) q1) q2) q3) q4) q5), own_z0))))))).2)), (.inr .int, (own_iv (own_lay 5 q5 (own_lay 4 q4 (own_lay 3 q3 (own_lay 2 q2 (own_lay 1 q1 (own_lay 0 q0 (own_nx0 (own_bump (own_bump (own_bump (own_bump (own_bump (own_bump own_w0 q0) q1) q2) q3) q4) q5), own_z0))))))).1))]) rfl ?_
  refine own_ks.alen (mt := own_m2) rfl (t := 96) (a := 1) (z := (3 : Int32)) rfl rfl (by rw [own_iv_len, l6]; rfl) ?_
  refine own_ks.go (mt := own_m2) rfl 5 (pc' := 106) (L' := [.val (.ref 2), .val (.ref 1), .val (.ref 0), .val (.int (3 : Int32))]) (S' := [.int (-1 : Int32), .ref 9]) (H' := [(.inr .int, [.int (Int32.ofNat q0), .int (Int32.ofNat q1), .int (Int32.ofNat q2), .int (Int32.ofNat q3), .int (Int32.ofNat q4), .int (Int32.ofNat q5)]), (.inr .int, (own_iv (own_bump (own_bump (own_bump (own_bump (own_bump (own_bump own_w0 q0) q1) q2) q3) q4) q5))), (.inl 0, [.ref 3, .ref 4, .ref 5, .ref 6, .ref 7, .ref 9, .int (0 : Int32)]), (.inr .int, []), (.inr .int, []), (.inr .int, (own_iv (own_bump (own_bump (own_bump (own_bump (own_bump (own_bump own_w0 q0) q1) q2) q3) q4) q5))), (.inr .int, [.int (0 : Int32), .int ((0 : Int32) + ((own_bump (own_bump (own_bump (own_bump (own_bump (own_bump own_w0 q0) q1) q2) q3) q4) q5).getD 0 0)), .int (((0 : Int32) + ((own_bump (own_bump (own_bump (own_bump (own_bump (own_bump own_w0 q0) q1) q2) q3) q4) q5).getD 0 0)) + ((own_bump (own_bump (own_bump (own_bump (own_bump (own_bump own_w0 q0) q1) q2) q3) q4) q5).getD 1 0)), .int ((((0 : Int32) + ((own_bump (own_bump (own_bump (own_bump (own_bump (own_bump own_w0 q0) q1) q2) q3) q4) q5).getD 0 0)) + ((own_bump (own_bump (own_bump (own_bump (own_bump (own_bump own_w0 q0) q1) q2) q3) q4) q5).getD 1 0)) + ((own_bump (own_bump (own_bump (own_bump (own_bump (own_bump own_w0 q0) q1) q2) q3) q4) q5).getD 2 0))]), (.inr .int, (own_iv (own_lay 5 q5 (own_lay 4 q4 (own_lay 3 q3 (own_lay 2 q2 (own_lay 1 q1 (own_lay 0 q0 (own_nx0 (own_bump (own_bump (own_bump (own_bump (own_bump (own_bump own_w0 q0) q1) q2) q3) q4) q5), own_z0))))))).2)), (.inr .int, (own_iv (own_lay 5 q5 (own_lay 4 q4 (own_lay 3 q3 (own_lay 2 q2 (own_lay 1 q1 (own_lay 0 q0 (own_nx0 (own_bump (own_bump (own_bump (own_bump (own_bump (own_bump own_w0 q0) q1) q2) q3) q4) q5), own_z0))))))).1)), (.inr .int, [.int (0 : Int32), .int (0 : Int32), .int (0 : Int32)])]) rfl ?_
  refine own_ks.into (mt := own_m2) (mj := own_m6) rfl (ins := .invokestatic 43) (t := 109) (j := 6) (as := [.ref 9, .int (-1 : Int32)]) (r' := []) (L' := [.val (.ref 9), .val (.int (-1 : Int32)), .unset, .unset]) rfl rfl rfl rfl rfl rfl rfl rfl ?_
  refine own_ks.go (mt := own_m6) rfl 35 (pc' := 20) (L' := [.val (.ref 9), .val (.int (-1 : Int32)), .val (.int (3 : Int32)), .val (.int (3 : Int32))]) (S' := []) (H' := [(.inr .int, [.int (Int32.ofNat q0), .int (Int32.ofNat q1), .int (Int32.ofNat q2), .int (Int32.ofNat q3), .int (Int32.ofNat q4), .int (Int32.ofNat q5)]), (.inr .int, (own_iv (own_bump (own_bump (own_bump (own_bump (own_bump (own_bump own_w0 q0) q1) q2) q3) q4) q5))), (.inl 0, [.ref 3, .ref 4, .ref 5, .ref 6, .ref 7, .ref 9, .int (0 : Int32)]), (.inr .int, []), (.inr .int, []), (.inr .int, (own_iv (own_bump (own_bump (own_bump (own_bump (own_bump (own_bump own_w0 q0) q1) q2) q3) q4) q5))), (.inr .int, [.int (0 : Int32), .int ((0 : Int32) + ((own_bump (own_bump (own_bump (own_bump (own_bump (own_bump own_w0 q0) q1) q2) q3) q4) q5).getD 0 0)), .int (((0 : Int32) + ((own_bump (own_bump (own_bump (own_bump (own_bump (own_bump own_w0 q0) q1) q2) q3) q4) q5).getD 0 0)) + ((own_bump (own_bump (own_bump (own_bump (own_bump (own_bump own_w0 q0) q1) q2) q3) q4) q5).getD 1 0)), .int ((((0 : Int32) + ((own_bump (own_bump (own_bump (own_bump (own_bump (own_bump own_w0 q0) q1) q2) q3) q4) q5).getD 0 0)) + ((own_bump (own_bump (own_bump (own_bump (own_bump (own_bump own_w0 q0) q1) q2) q3) q4) q5).getD 1 0)) + ((own_bump (own_bump (own_bump (own_bump (own_bump (own_bump own_w0 q0) q1) q2) q3) q4) q5).getD 2 0))]), (.inr .int, (own_iv (own_lay 5 q5 (own_lay 4 q4 (own_lay 3 q3 (own_lay 2 q2 (own_lay 1 q1 (own_lay 0 q0 (own_nx0 (own_bump (own_bump (own_bump (own_bump (own_bump (own_bump own_w0 q0) q1) q2) q3) q4) q5), own_z0))))))).2)), (.inr .int, (own_iv (own_lay 5 q5 (own_lay 4 q4 (own_lay 3 q3 (own_lay 2 q2 (own_lay 1 q1 (own_lay 0 q0 (own_nx0 (own_bump (own_bump (own_bump (own_bump (own_bump (own_bump own_w0 q0) q1) q2) q3) q4) q5), own_z0))))))).1)), (.inr .int, [.int (-1 : Int32), .int (-1 : Int32), .int (-1 : Int32)])]) rfl ?_
  refine own_ks.back (mt := own_m6) rfl (ins := .return_) (t := 21) (v := none) (S2 := []) rfl rfl rfl ?_
  exact own_ks.ret (mt := own_m2) rfl (ins := .return_) (t := 110) (v := none) rfl rfl ⟨rfl, rfl⟩
theorem own_take (a p : Int32) : ∃ q : Nat, q < 3 ∧ ∀ (d lo : Nat) (H : OHeap), own_run own_P 1 d lo 0 (own_entry [.int a, .int p] own_m1.ml) [] H (some (.int (Int32.ofNat q)), H) := by
  have s0 := c_mask (a.toUInt32 >>> (((2 : Int32) * p) &&& 31).toUInt32).toInt32 3 2 (by decide) (by decide)
  have hr : ∀ (d lo : Nat) (H : OHeap), own_run own_P 1 d lo 0 (own_entry [.int a, .int p] own_m1.ml) [] H (some (.int (((a.toUInt32 >>> (((2 : Int32) * p) &&& 31).toUInt32).toInt32 &&& (3 : Int32)) % (3 : Int32))), H) := fun d lo H => own_run.fuel 20 rfl
  generalize ((a.toUInt32 >>> (((2 : Int32) * p) &&& 31).toUInt32).toInt32 &&& (3 : Int32)) = y at *
  have s1 := (c_irem y (3 : Int32) 3 (by decide)).1 (by omega)
  refine ⟨(y % 3).toInt.toNat, by omega, ?_⟩
  rw [show Int32.ofNat (y % 3).toInt.toNat = y % 3 from Int32.toInt_inj.mp (by rw [Int32.toInt_ofNat_small (by omega)]; omega)]
  exact hr
theorem own_m1m : ∀ q < 3, ([-1, -1, -1] : List Int32)[q]? = some (-1 : Int32) := by decide
set_option maxRecDepth 100000 in
set_option maxHeartbeats 4000000 in
theorem own_t14 (a b c : Int32) (qm qo : Nat) (hqm : qm < 3) (hqo : qo < 3) (hne : qo ≠ qm) : own_ks own_P (own_end own_P.2.1 40 256) [] 0 7 176 14 [.val (.int a), .val (.int b), .val (.int c), .val (.int (Int32.ofNat qm)), .val (.int (Int32.ofNat qo)), .unset, .unset, .unset, .unset, .unset, .unset] [] [] := by
  obtain ⟨q0, g0, ht0⟩ := own_take a (0 : Int32)
  obtain ⟨q1, g1, ht1⟩ := own_take a (1 : Int32)
  obtain ⟨q2, g2, ht2⟩ := own_take a (2 : Int32)
  obtain ⟨q3, g3, ht3⟩ := own_take a (3 : Int32)
  obtain ⟨q4, g4, ht4⟩ := own_take a (4 : Int32)
  obtain ⟨q5, g5, ht5⟩ := own_take a (5 : Int32)
  have l0 : own_w0.length = 3 := rfl
  have l1 : (own_bump own_w0 q0).length = 3 := own_bln l0
  have l2 : (own_bump (own_bump own_w0 q0) q1).length = 3 := own_bln l1
  have l3 : (own_bump (own_bump (own_bump own_w0 q0) q1) q2).length = 3 := own_bln l2
  have l4 : (own_bump (own_bump (own_bump (own_bump own_w0 q0) q1) q2) q3).length = 3 := own_bln l3
  have l5 : (own_bump (own_bump (own_bump (own_bump (own_bump own_w0 q0) q1) q2) q3) q4).length = 3 := own_bln l4
  have l6 : (own_bump (own_bump (own_bump (own_bump (own_bump (own_bump own_w0 q0) q1) q2) q3) q4) q5).length = 3 := own_bln l5
  refine own_ks.go (mt := own_m0) rfl 7 (pc' := 25) (L' := [.val (.int a), .val (.int b), .val (.int c), .val (.int (Int32.ofNat qm)), .val (.int (Int32.ofNat qo)), .val (.ref 0), .unset, .unset, .unset, .unset, .unset]) (S' := [.int (0 : Int32), .int a, .int (0 : Int32), .ref 0]) (H' := [(.inr .int, [.int (0 : Int32), .int (0 : Int32), .int (0 : Int32), .int (0 : Int32), .int (0 : Int32), .int (0 : Int32)])]) rfl ?_
  refine own_ks.call (mt := own_m0) (mj := own_m1) rfl (ins := .invokestatic 17) (t := 28) (j := 1) (as := [.int a, .int (0 : Int32)]) (r' := [.int (0 : Int32), .ref 0]) (v := some (.int (Int32.ofNat q0))) (H' := [(.inr .int, [.int (0 : Int32), .int (0 : Int32), .int (0 : Int32), .int (0 : Int32), .int (0 : Int32), .int (0 : Int32)])]) (S' := [.int (Int32.ofNat q0), .int (0 : Int32), .ref 0]) rfl rfl rfl rfl rfl (ht0 _ _ _) rfl ?_
  refine own_ks.go (mt := own_m0) rfl 5 (pc' := 34) (L' := [.val (.int a), .val (.int b), .val (.int c), .val (.int (Int32.ofNat qm)), .val (.int (Int32.ofNat qo)), .val (.ref 0), .unset, .unset, .unset, .unset, .unset]) (S' := [.int (1 : Int32), .int a, .int (1 : Int32), .ref 0]) (H' := [(.inr .int, [.int (Int32.ofNat q0), .int (0 : Int32), .int (0 : Int32), .int (0 : Int32), .int (0 : Int32), .int (0 : Int32)])]) rfl ?_
  refine own_ks.call (mt := own_m0) (mj := own_m1) rfl (ins := .invokestatic 17) (t := 37) (j := 1) (as := [.int a, .int (1 : Int32)]) (r' := [.int (1 : Int32), .ref 0]) (v := some (.int (Int32.ofNat q1))) (H' := [(.inr .int, [.int (Int32.ofNat q0), .int (0 : Int32), .int (0 : Int32), .int (0 : Int32), .int (0 : Int32), .int (0 : Int32)])]) (S' := [.int (Int32.ofNat q1), .int (1 : Int32), .ref 0]) rfl rfl rfl rfl rfl (ht1 _ _ _) rfl ?_
  refine own_ks.go (mt := own_m0) rfl 5 (pc' := 43) (L' := [.val (.int a), .val (.int b), .val (.int c), .val (.int (Int32.ofNat qm)), .val (.int (Int32.ofNat qo)), .val (.ref 0), .unset, .unset, .unset, .unset, .unset]) (S' := [.int (2 : Int32), .int a, .int (2 : Int32), .ref 0]) (H' := [(.inr .int, [.int (Int32.ofNat q0), .int (Int32.ofNat q1), .int (0 : Int32), .int (0 : Int32), .int (0 : Int32), .int (0 : Int32)])]) rfl ?_
  refine own_ks.call (mt := own_m0) (mj := own_m1) rfl (ins := .invokestatic 17) (t := 46) (j := 1) (as := [.int a, .int (2 : Int32)]) (r' := [.int (2 : Int32), .ref 0]) (v := some (.int (Int32.ofNat q2))) (H' := [(.inr .int, [.int (Int32.ofNat q0), .int (Int32.ofNat q1), .int (0 : Int32), .int (0 : Int32), .int (0 : Int32), .int (0 : Int32)])]) (S' := [.int (Int32.ofNat q2), .int (2 : Int32), .ref 0]) rfl rfl rfl rfl rfl (ht2 _ _ _) rfl ?_
  refine own_ks.go (mt := own_m0) rfl 5 (pc' := 52) (L' := [.val (.int a), .val (.int b), .val (.int c), .val (.int (Int32.ofNat qm)), .val (.int (Int32.ofNat qo)), .val (.ref 0), .unset, .unset, .unset, .unset, .unset]) (S' := [.int (3 : Int32), .int a, .int (3 : Int32), .ref 0]) (H' := [(.inr .int, [.int (Int32.ofNat q0), .int (Int32.ofNat q1), .int (Int32.ofNat q2), .int (0 : Int32), .int (0 : Int32), .int (0 : Int32)])]) rfl ?_
  refine own_ks.call (mt := own_m0) (mj := own_m1) rfl (ins := .invokestatic 17) (t := 55) (j := 1) (as := [.int a, .int (3 : Int32)]) (r' := [.int (3 : Int32), .ref 0]) (v := some (.int (Int32.ofNat q3))) (H' := [(.inr .int, [.int (Int32.ofNat q0), .int (Int32.ofNat q1), .int (Int32.ofNat q2), .int (0 : Int32), .int (0 : Int32), .int (0 : Int32)])]) (S' := [.int (Int32.ofNat q3), .int (3 : Int32), .ref 0]) rfl rfl rfl rfl rfl (ht3 _ _ _) rfl ?_
  refine own_ks.go (mt := own_m0) rfl 5 (pc' := 61) (L' := [.val (.int a), .val (.int b), .val (.int c), .val (.int (Int32.ofNat qm)), .val (.int (Int32.ofNat qo)), .val (.ref 0), .unset, .unset, .unset, .unset, .unset]) (S' := [.int (4 : Int32), .int a, .int (4 : Int32), .ref 0]) (H' := [(.inr .int, [.int (Int32.ofNat q0), .int (Int32.ofNat q1), .int (Int32.ofNat q2), .int (Int32.ofNat q3), .int (0 : Int32), .int (0 : Int32)])]) rfl ?_
  refine own_ks.call (mt := own_m0) (mj := own_m1) rfl (ins := .invokestatic 17) (t := 64) (j := 1) (as := [.int a, .int (4 : Int32)]) (r' := [.int (4 : Int32), .ref 0]) (v := some (.int (Int32.ofNat q4))) (H' := [(.inr .int, [.int (Int32.ofNat q0), .int (Int32.ofNat q1), .int (Int32.ofNat q2), .int (Int32.ofNat q3), .int (0 : Int32), .int (0 : Int32)])]) (S' := [.int (Int32.ofNat q4), .int (4 : Int32), .ref 0]) rfl rfl rfl rfl rfl (ht4 _ _ _) rfl ?_
  refine own_ks.go (mt := own_m0) rfl 5 (pc' := 70) (L' := [.val (.int a), .val (.int b), .val (.int c), .val (.int (Int32.ofNat qm)), .val (.int (Int32.ofNat qo)), .val (.ref 0), .unset, .unset, .unset, .unset, .unset]) (S' := [.int (5 : Int32), .int a, .int (5 : Int32), .ref 0]) (H' := [(.inr .int, [.int (Int32.ofNat q0), .int (Int32.ofNat q1), .int (Int32.ofNat q2), .int (Int32.ofNat q3), .int (Int32.ofNat q4), .int (0 : Int32)])]) rfl ?_
  refine own_ks.call (mt := own_m0) (mj := own_m1) rfl (ins := .invokestatic 17) (t := 73) (j := 1) (as := [.int a, .int (5 : Int32)]) (r' := [.int (5 : Int32), .ref 0]) (v := some (.int (Int32.ofNat q5))) (H' := [(.inr .int, [.int (Int32.ofNat q0), .int (Int32.ofNat q1), .int (Int32.ofNat q2), .int (Int32.ofNat q3), .int (Int32.ofNat q4), .int (0 : Int32)])]) (S' := [.int (Int32.ofNat q5), .int (5 : Int32), .ref 0]) rfl rfl rfl rfl rfl (ht5 _ _ _) rfl ?_
  refine own_ks.go (mt := own_m0) rfl 4 (pc' := 79) (L' := [.val (.int a), .val (.int b), .val (.int c), .val (.int (Int32.ofNat qm)), .val (.int (Int32.ofNat qo)), .val (.ref 0), .val (.ref 1), .unset, .unset, .unset, .unset]) (S' := []) (H' := [(.inr .int, [.int (Int32.ofNat q0), .int (Int32.ofNat q1), .int (Int32.ofNat q2), .int (Int32.ofNat q3), .int (Int32.ofNat q4), .int (Int32.ofNat q5)]), (.inr .int, [.int (0 : Int32), .int (0 : Int32), .int (0 : Int32)])]) rfl ?_
  refine own_ks.go (mt := own_m0) rfl 0 (pc' := 79) (L' := [.val (.int a), .val (.int b), .val (.int c), .val (.int (Int32.ofNat qm)), .val (.int (Int32.ofNat qo)), .val (.ref 0), .val (.ref 1), .unset, .unset, .unset, .unset]) (S' := []) (H' := [(.inr .int, [.int (Int32.ofNat q0), .int (Int32.ofNat q1), .int (Int32.ofNat q2), .int (Int32.ofNat q3), .int (Int32.ofNat q4), .int (Int32.ofNat q5)]), (.inr .int, (own_iv own_w0))]) rfl ?_
  refine own_ks.go (mt := own_m0) rfl 5 (pc' := 86) (L' := [.val (.int a), .val (.int b), .val (.int c), .val (.int (Int32.ofNat qm)), .val (.int (Int32.ofNat qo)), .val (.ref 0), .val (.ref 1), .unset, .unset, .unset, .unset]) (S' := [.int (Int32.ofNat q0), .ref 1, .int (Int32.ofNat q0), .ref 1]) (H' := [(.inr .int, [.int (Int32.ofNat q0), .int (Int32.ofNat q1), .int (Int32.ofNat q2), .int (Int32.ofNat q3), .int (Int32.ofNat q4), .int (Int32.ofNat q5)]), (.inr .int, (own_iv own_w0))]) rfl ?_
  refine own_ks.iaload (mt := own_m0) rfl (t := 87) (a := 1) (v := .int (own_w0.getD q0 0)) rfl rfl (own_ixo (by omega)) (own_iv_get (own_bg (by rw [l0]; exact g0))) ?_
  refine own_ks.go (mt := own_m0) rfl 2 (pc' := 89) (L' := [.val (.int a), .val (.int b), .val (.int c), .val (.int (Int32.ofNat qm)), .val (.int (Int32.ofNat qo)), .val (.ref 0), .val (.ref 1), .unset, .unset, .unset, .unset]) (S' := [.int ((own_w0.getD q0 0) + (1 : Int32)), .int (Int32.ofNat q0), .ref 1]) (H' := [(.inr .int, [.int (Int32.ofNat q0), .int (Int32.ofNat q1), .int (Int32.ofNat q2), .int (Int32.ofNat q3), .int (Int32.ofNat q4), .int (Int32.ofNat q5)]), (.inr .int, (own_iv own_w0))]) rfl ?_
  refine own_ks.iastore (mt := own_m0) rfl (t := 90) (a := 1) (H' := [(.inr .int, [.int (Int32.ofNat q0), .int (Int32.ofNat q1), .int (Int32.ofNat q2), .int (Int32.ofNat q3), .int (Int32.ofNat q4), .int (Int32.ofNat q5)]), (.inr .int, (own_iv (own_bump own_w0 q0)))]) rfl rfl (own_ixo (by omega)) (own_lt' (by rw [l0]; exact g0)) (by rw [own_iv_set]; rfl) ?_
  refine own_ks.go (mt := own_m0) rfl 5 (pc' := 97) (L' := [.val (.int a), .val (.int b), .val (.int c), .val (.int (Int32.ofNat qm)), .val (.int (Int32.ofNat qo)), .val (.ref 0), .val (.ref 1), .unset, .unset, .unset, .unset]) (S' := [.int (Int32.ofNat q1), .ref 1, .int (Int32.ofNat q1), .ref 1]) (H' := [(.inr .int, [.int (Int32.ofNat q0), .int (Int32.ofNat q1), .int (Int32.ofNat q2), .int (Int32.ofNat q3), .int (Int32.ofNat q4), .int (Int32.ofNat q5)]), (.inr .int, (own_iv (own_bump own_w0 q0)))]) rfl ?_
  refine own_ks.iaload (mt := own_m0) rfl (t := 98) (a := 1) (v := .int ((own_bump own_w0 q0).getD q1 0)) rfl rfl (own_ixo (by omega)) (own_iv_get (own_bg (by rw [l1]; exact g1))) ?_
  refine own_ks.go (mt := own_m0) rfl 2 (pc' := 100) (L' := [.val (.int a), .val (.int b), .val (.int c), .val (.int (Int32.ofNat qm)), .val (.int (Int32.ofNat qo)), .val (.ref 0), .val (.ref 1), .unset, .unset, .unset, .unset]) (S' := [.int (((own_bump own_w0 q0).getD q1 0) + (1 : Int32)), .int (Int32.ofNat q1), .ref 1]) (H' := [(.inr .int, [.int (Int32.ofNat q0), .int (Int32.ofNat q1), .int (Int32.ofNat q2), .int (Int32.ofNat q3), .int (Int32.ofNat q4), .int (Int32.ofNat q5)]), (.inr .int, (own_iv (own_bump own_w0 q0)))]) rfl ?_
  refine own_ks.iastore (mt := own_m0) rfl (t := 101) (a := 1) (H' := [(.inr .int, [.int (Int32.ofNat q0), .int (Int32.ofNat q1), .int (Int32.ofNat q2), .int (Int32.ofNat q3), .int (Int32.ofNat q4), .int (Int32.ofNat q5)]), (.inr .int, (own_iv (own_bump (own_bump own_w0 q0) q1)))]) rfl rfl (own_ixo (by omega)) (own_lt' (by rw [l1]; exact g1)) (by rw [own_iv_set]; rfl) ?_
  refine own_ks.go (mt := own_m0) rfl 5 (pc' := 108) (L' := [.val (.int a), .val (.int b), .val (.int c), .val (.int (Int32.ofNat qm)), .val (.int (Int32.ofNat qo)), .val (.ref 0), .val (.ref 1), .unset, .unset, .unset, .unset]) (S' := [.int (Int32.ofNat q2), .ref 1, .int (Int32.ofNat q2), .ref 1]) (H' := [(.inr .int, [.int (Int32.ofNat q0), .int (Int32.ofNat q1), .int (Int32.ofNat q2), .int (Int32.ofNat q3), .int (Int32.ofNat q4), .int (Int32.ofNat q5)]), (.inr .int, (own_iv (own_bump (own_bump own_w0 q0) q1)))]) rfl ?_
  refine own_ks.iaload (mt := own_m0) rfl (t := 109) (a := 1) (v := .int ((own_bump (own_bump own_w0 q0) q1).getD q2 0)) rfl rfl (own_ixo (by omega)) (own_iv_get (own_bg (by rw [l2]; exact g2))) ?_
  refine own_ks.go (mt := own_m0) rfl 2 (pc' := 111) (L' := [.val (.int a), .val (.int b), .val (.int c), .val (.int (Int32.ofNat qm)), .val (.int (Int32.ofNat qo)), .val (.ref 0), .val (.ref 1), .unset, .unset, .unset, .unset]) (S' := [.int (((own_bump (own_bump own_w0 q0) q1).getD q2 0) + (1 : Int32)), .int (Int32.ofNat q2), .ref 1]) (H' := [(.inr .int, [.int (Int32.ofNat q0), .int (Int32.ofNat q1), .int (Int32.ofNat q2), .int (Int32.ofNat q3), .int (Int32.ofNat q4), .int (Int32.ofNat q5)]), (.inr .int, (own_iv (own_bump (own_bump own_w0 q0) q1)))]) rfl ?_
  refine own_ks.iastore (mt := own_m0) rfl (t := 112) (a := 1) (H' := [(.inr .int, [.int (Int32.ofNat q0), .int (Int32.ofNat q1), .int (Int32.ofNat q2), .int (Int32.ofNat q3), .int (Int32.ofNat q4), .int (Int32.ofNat q5)]), (.inr .int, (own_iv (own_bump (own_bump (own_bump own_w0 q0) q1) q2)))]) rfl rfl (own_ixo (by omega)) (own_lt' (by rw [l2]; exact g2)) (by rw [own_iv_set]; rfl) ?_
  refine own_ks.go (mt := own_m0) rfl 5 (pc' := 119) (L' := [.val (.int a), .val (.int b), .val (.int c), .val (.int (Int32.ofNat qm)), .val (.int (Int32.ofNat qo)), .val (.ref 0), .val (.ref 1), .unset, .unset, .unset, .unset]) (S' := [.int (Int32.ofNat q3), .ref 1, .int (Int32.ofNat q3), .ref 1]) (H' := [(.inr .int, [.int (Int32.ofNat q0), .int (Int32.ofNat q1), .int (Int32.ofNat q2), .int (Int32.ofNat q3), .int (Int32.ofNat q4), .int (Int32.ofNat q5)]), (.inr .int, (own_iv (own_bump (own_bump (own_bump own_w0 q0) q1) q2)))]) rfl ?_
  refine own_ks.iaload (mt := own_m0) rfl (t := 120) (a := 1) (v := .int ((own_bump (own_bump (own_bump own_w0 q0) q1) q2).getD q3 0)) rfl rfl (own_ixo (by omega)) (own_iv_get (own_bg (by rw [l3]; exact g3))) ?_
  refine own_ks.go (mt := own_m0) rfl 2 (pc' := 122) (L' := [.val (.int a), .val (.int b), .val (.int c), .val (.int (Int32.ofNat qm)), .val (.int (Int32.ofNat qo)), .val (.ref 0), .val (.ref 1), .unset, .unset, .unset, .unset]) (S' := [.int (((own_bump (own_bump (own_bump own_w0 q0) q1) q2).getD q3 0) + (1 : Int32)), .int (Int32.ofNat q3), .ref 1]) (H' := [(.inr .int, [.int (Int32.ofNat q0), .int (Int32.ofNat q1), .int (Int32.ofNat q2), .int (Int32.ofNat q3), .int (Int32.ofNat q4), .int (Int32.ofNat q5)]), (.inr .int, (own_iv (own_bump (own_bump (own_bump own_w0 q0) q1) q2)))]) rfl ?_
  refine own_ks.iastore (mt := own_m0) rfl (t := 123) (a := 1) (H' := [(.inr .int, [.int (Int32.ofNat q0), .int (Int32.ofNat q1), .int (Int32.ofNat q2), .int (Int32.ofNat q3), .int (Int32.ofNat q4), .int (Int32.ofNat q5)]), (.inr .int, (own_iv (own_bump (own_bump (own_bump (own_bump own_w0 q0) q1) q2) q3)))]) rfl rfl (own_ixo (by omega)) (own_lt' (by rw [l3]; exact g3)) (by rw [own_iv_set]; rfl) ?_
  refine own_ks.go (mt := own_m0) rfl 5 (pc' := 130) (L' := [.val (.int a), .val (.int b), .val (.int c), .val (.int (Int32.ofNat qm)), .val (.int (Int32.ofNat qo)), .val (.ref 0), .val (.ref 1), .unset, .unset, .unset, .unset]) (S' := [.int (Int32.ofNat q4), .ref 1, .int (Int32.ofNat q4), .ref 1]) (H' := [(.inr .int, [.int (Int32.ofNat q0), .int (Int32.ofNat q1), .int (Int32.ofNat q2), .int (Int32.ofNat q3), .int (Int32.ofNat q4), .int (Int32.ofNat q5)]), (.inr .int, (own_iv (own_bump (own_bump (own_bump (own_bump own_w0 q0) q1) q2) q3)))]) rfl ?_
  refine own_ks.iaload (mt := own_m0) rfl (t := 131) (a := 1) (v := .int ((own_bump (own_bump (own_bump (own_bump own_w0 q0) q1) q2) q3).getD q4 0)) rfl rfl (own_ixo (by omega)) (own_iv_get (own_bg (by rw [l4]; exact g4))) ?_
  refine own_ks.go (mt := own_m0) rfl 2 (pc' := 133) (L' := [.val (.int a), .val (.int b), .val (.int c), .val (.int (Int32.ofNat qm)), .val (.int (Int32.ofNat qo)), .val (.ref 0), .val (.ref 1), .unset, .unset, .unset, .unset]) (S' := [.int (((own_bump (own_bump (own_bump (own_bump own_w0 q0) q1) q2) q3).getD q4 0) + (1 : Int32)), .int (Int32.ofNat q4), .ref 1]) (H' := [(.inr .int, [.int (Int32.ofNat q0), .int (Int32.ofNat q1), .int (Int32.ofNat q2), .int (Int32.ofNat q3), .int (Int32.ofNat q4), .int (Int32.ofNat q5)]), (.inr .int, (own_iv (own_bump (own_bump (own_bump (own_bump own_w0 q0) q1) q2) q3)))]) rfl ?_
  refine own_ks.iastore (mt := own_m0) rfl (t := 134) (a := 1) (H' := [(.inr .int, [.int (Int32.ofNat q0), .int (Int32.ofNat q1), .int (Int32.ofNat q2), .int (Int32.ofNat q3), .int (Int32.ofNat q4), .int (Int32.ofNat q5)]), (.inr .int, (own_iv (own_bump (own_bump (own_bump (own_bump (own_bump own_w0 q0) q1) q2) q3) q4)))]) rfl rfl (own_ixo (by omega)) (own_lt' (by rw [l4]; exact g4)) (by rw [own_iv_set]; rfl) ?_
  refine own_ks.go (mt := own_m0) rfl 5 (pc' := 141) (L' := [.val (.int a), .val (.int b), .val (.int c), .val (.int (Int32.ofNat qm)), .val (.int (Int32.ofNat qo)), .val (.ref 0), .val (.ref 1), .unset, .unset, .unset, .unset]) (S' := [.int (Int32.ofNat q5), .ref 1, .int (Int32.ofNat q5), .ref 1]) (H' := [(.inr .int, [.int (Int32.ofNat q0), .int (Int32.ofNat q1), .int (Int32.ofNat q2), .int (Int32.ofNat q3), .int (Int32.ofNat q4), .int (Int32.ofNat q5)]), (.inr .int, (own_iv (own_bump (own_bump (own_bump (own_bump (own_bump own_w0 q0) q1) q2) q3) q4)))]) rfl ?_
  refine own_ks.iaload (mt := own_m0) rfl (t := 142) (a := 1) (v := .int ((own_bump (own_bump (own_bump (own_bump (own_bump own_w0 q0) q1) q2) q3) q4).getD q5 0)) rfl rfl (own_ixo (by omega)) (own_iv_get (own_bg (by rw [l5]; exact g5))) ?_
  refine own_ks.go (mt := own_m0) rfl 2 (pc' := 144) (L' := [.val (.int a), .val (.int b), .val (.int c), .val (.int (Int32.ofNat qm)), .val (.int (Int32.ofNat qo)), .val (.ref 0), .val (.ref 1), .unset, .unset, .unset, .unset]) (S' := [.int (((own_bump (own_bump (own_bump (own_bump (own_bump own_w0 q0) q1) q2) q3) q4).getD q5 0) + (1 : Int32)), .int (Int32.ofNat q5), .ref 1]) (H' := [(.inr .int, [.int (Int32.ofNat q0), .int (Int32.ofNat q1), .int (Int32.ofNat q2), .int (Int32.ofNat q3), .int (Int32.ofNat q4), .int (Int32.ofNat q5)]), (.inr .int, (own_iv (own_bump (own_bump (own_bump (own_bump (own_bump own_w0 q0) q1) q2) q3) q4)))]) rfl ?_
  refine own_ks.iastore (mt := own_m0) rfl (t := 145) (a := 1) (H' := [(.inr .int, [.int (Int32.ofNat q0), .int (Int32.ofNat q1), .int (Int32.ofNat q2), .int (Int32.ofNat q3), .int (Int32.ofNat q4), .int (Int32.ofNat q5)]), (.inr .int, (own_iv (own_bump (own_bump (own_bump (own_bump (own_bump (own_bump own_w0 q0) q1) q2) q3) q4) q5)))]) rfl rfl (own_ixo (by omega)) (own_lt' (by rw [l5]; exact g5)) (by rw [own_iv_set]; rfl) ?_
  refine own_ks.go (mt := own_m0) rfl 4 (pc' := 153) (L' := [.val (.int a), .val (.int b), .val (.int c), .val (.int (Int32.ofNat qm)), .val (.int (Int32.ofNat qo)), .val (.ref 0), .val (.ref 1), .unset, .unset, .unset, .unset]) (S' := [.ref 0, .ref 1, .ref 2, .ref 2]) (H' := [(.inr .int, [.int (Int32.ofNat q0), .int (Int32.ofNat q1), .int (Int32.ofNat q2), .int (Int32.ofNat q3), .int (Int32.ofNat q4), .int (Int32.ofNat q5)]), (.inr .int, (own_iv (own_bump (own_bump (own_bump (own_bump (own_bump (own_bump own_w0 q0) q1) q2) q3) q4) q5))), (.inl 0, [.null, .null, .null, .null, .null, .null, .int (0 : Int32)])]) rfl ?_
  refine own_ks.call (mt := own_m0) (mj := own_m2) rfl (ins := .invokespecial 23) (t := 156) (j := 2) (as := [.ref 2, .ref 1, .ref 0]) (r' := [.ref 2]) (v := none) (H' := [(.inr .int, (own_iv (own_tk [q0, q1, q2, q3, q4, q5]))), (.inr .int, (own_iv (own_tw [q0, q1, q2, q3, q4, q5]))), (.inl 0, [.ref 3, .ref 4, .ref 5, .ref 6, .ref 7, .ref 9, .int (0 : Int32)]), (.inr .int, []), (.inr .int, []), (.inr .int, (own_iv (own_tw [q0, q1, q2, q3, q4, q5]))), (.inr .int, (own_iv (own_ss [q0, q1, q2, q3, q4, q5]))), (.inr .int, (own_iv (own_ts [q0, q1, q2, q3, q4, q5]))), (.inr .int, (own_iv (own_nx [q0, q1, q2, q3, q4, q5]))), (.inr .int, (own_iv [-1, -1, -1]))]) (S' := [.ref 2]) rfl rfl rfl rfl rfl (own_new q0 q1 q2 q3 q4 q5 g0 g1 g2 g3 g4 g5) rfl ?_
  refine own_ks.go (mt := own_m0) rfl 4 (pc' := 163) (L' := [.val (.int a), .val (.int b), .val (.int c), .val (.int (Int32.ofNat qm)), .val (.int (Int32.ofNat qo)), .val (.ref 0), .val (.ref 1), .val (.ref 2), .val (.ref 10), .unset, .unset]) (S' := []) (H' := [(.inr .int, (own_iv (own_tk [q0, q1, q2, q3, q4, q5]))), (.inr .int, (own_iv (own_tw [q0, q1, q2, q3, q4, q5]))), (.inl 0, [.ref 3, .ref 4, .ref 5, .ref 6, .ref 7, .ref 9, .int (0 : Int32)]), (.inr .int, []), (.inr .int, []), (.inr .int, (own_iv (own_tw [q0, q1, q2, q3, q4, q5]))), (.inr .int, (own_iv (own_ss [q0, q1, q2, q3, q4, q5]))), (.inr .int, (own_iv (own_ts [q0, q1, q2, q3, q4, q5]))), (.inr .int, (own_iv (own_nx [q0, q1, q2, q3, q4, q5]))), (.inr .int, (own_iv [-1, -1, -1])), (.inr .int, [.int (0 : Int32), .int (0 : Int32)])]) rfl ?_
  obtain ⟨i1, i2, i3, i4, i5, i6, i7⟩ := own_ini ⟨q0, g0⟩ ⟨q1, g1⟩ ⟨q2, g2⟩ ⟨q3, g3⟩ ⟨q4, g4⟩ ⟨q5, g5⟩ ⟨qm, hqm⟩
  exact own_t163 a b c (own_tw [q0, q1, q2, q3, q4, q5]) (own_ss [q0, q1, q2, q3, q4, q5]) (own_nx [q0, q1, q2, q3, q4, q5]) (own_pre qm [q0, q1, q2, q3, q4, q5]) (own_pst qm [q0, q1, q2, q3, q4, q5]) qm qo q0 q1 q2 q3 q4 q5 hqm hqo hne g0 g1 g2 g3 g4 g5 i6 i7 rfl i2 i3 (own_F0 (own_tk [q0, q1, q2, q3, q4, q5]) (own_tw [q0, q1, q2, q3, q4, q5]) (own_tw [q0, q1, q2, q3, q4, q5]) (own_ss [q0, q1, q2, q3, q4, q5]) (own_ts [q0, q1, q2, q3, q4, q5]) (own_nx [q0, q1, q2, q3, q4, q5]) [-1, -1, -1] 0 0)
    (own_J0 i6 rfl i4 i1 i5 rfl (own_m1m qm hqm))
theorem own_runs (a b c : Int32) : own_goal [.int a, .int b, .int c] := by
  have s0 := c_mask c (2147483647 : Int32) 31 (by decide) (by decide)
  refine own_ks.go (mt := own_m0) rfl 12 (pc' := 14) (L' := [.val (.int a), .val (.int b), .val (.int c), .val (.int ((c &&& (2147483647 : Int32)) % (3 : Int32))), .val (.int ((((c &&& (2147483647 : Int32)) % (3 : Int32)) + (1 : Int32)) % (3 : Int32))), .unset, .unset, .unset, .unset, .unset, .unset]) (S' := []) (H' := []) rfl ?_
  generalize (c &&& (2147483647 : Int32)) = y at *
  have s1 := (c_irem y (3 : Int32) 3 (by decide)).1 (by omega)
  generalize y % (3 : Int32) = m at *
  have e0 : (0 : Int32).toInt = 0 := rfl
  have e1 : (1 : Int32).toInt = 1 := rfl
  have e2 : (2 : Int32).toInt = 2 := rfl
  have hm : m = 0 ∨ m = 1 ∨ m = 2 := by simp only [← Int32.toInt_inj, e0, e1, e2]; omega
  rcases hm with rfl | rfl | rfl
  · exact own_t14 a b c 0 1 (by decide) (by decide) (by decide)
  · exact own_t14 a b c 1 2 (by decide) (by decide) (by decide)
  · exact own_t14 a b c 2 0 (by decide) (by decide) (by decide)
/-! ## from the case's words to the run, and the owed theorems -/
set_option maxRecDepth 65536 in
set_option maxHeartbeats 4000000 in
theorem own_comes {Post : Tables → Env → Array Value → State → Outcome → State → Prop} (hpost : ∀ tb e args s v u, (limb_1_1.after args s (.returned v) u = true ∧ limb_1_2.after args s (.returned v) u = true ∧ True) → FrameEnd s (.returned v) u (Jvm.fieldLocs frame_1_writes args s ++ Jvm.arrayLocs frame_1_arrays args s ++ Jvm.staticLocs frame_1_statics s) 40 256 → Post tb e args s (.returned v) u) :
    ArmFor flags0 classFile x code maxLocals ret World_1 tables_1 room_1 Calls_1 rest_1 Pre_1 Post := by
  intro l hfl _ _ p e ha hc hk s m args below hf hA hF happ hP
  obtain ⟨hcalls, hrest, hpre⟩ := hP
  obtain ⟨-, -, -, hnamed, -, -, -, hat⟩ := (Spec.applies_iff hf).mp happ
  obtain ⟨hg, hn⟩ := and_e (Cond.before_iff.mp (show (Jvm.Cond.and given_1 narrow_1).before args s = true from hpre))
  obtain ⟨h0, g0⟩ := and_e hg
  obtain ⟨w0, w1, w2, rfl⟩ : ∃ w0 w1 w2 : Value, args = #[w0, w1, w2] := by
    have hs : args.size = 3 := by simpa [Cond.value, given_1] using h0
    obtain ⟨L⟩ := args
    match L, hs with
    | [w0, w1, w2], _ => exact ⟨w0, w1, w2, rfl⟩
  have hw : own_hw s #[w0, w1, w2] := fun d hd => atoms_spec (ws := Jvm.Cond.code x code maxLocals ret :: tables_1) hat d hd
  obtain ⟨q0, g1⟩ := and_e g0
  obtain ⟨i0, e0⟩ := is_v q0
  obtain rfl : w0 = (.int i0) := Option.some.inj e0
  obtain ⟨q1, g2⟩ := and_e g1
  obtain ⟨i1, e1⟩ := is_v q1
  obtain rfl : w1 = (.int i1) := Option.some.inj e1
  obtain ⟨i2, e2⟩ := is_v g2
  obtain rfl : w2 = (.int i2) := Option.some.inj e2
  obtain ⟨v, H', hrun, rfl, hc1, hs1⟩ := own_runs i0 i1 i2
  obtain ⟨n, o, h1, h2, h3, _, L, rfl, ⟨rfl, N⟩, hq⟩ := own_law l (own_G hw) (mt := own_m0) rfl (as := [.int i0, .int i1, .int i2]) rfl hrun tables_1 room_1 (Nat.le_refl _) (Nat.le_refl _) hc1 hs1 p e ha hc hk s m _ below hf ((Spec.applies_iff_loose hf).mp happ).1 ⟨rfl, State.Warmed39.refl s, rfl⟩ trivial
  refine ⟨n, _, h1, h2, h3, hpost _ _ _ _ _ _ ⟨Cond.after_iff.mpr rfl, Cond.after_iff.mpr (eq_i res_at (Term.int_eval (1)) rfl), trivial⟩ ⟨hq.1, hq.2.1, (hq.2.2.sift fun y hy => Or.inr (N y hy)).mono (Nat.le_trans hc1 (by decide)) (Nat.le_trans hs1 (by decide))⟩⟩
theorem main_1_1 : Claimed_1_1 := own_comes fun _ _ _ _ _ _ h hF => ⟨h.1, hF⟩
theorem main_1_2 : Claimed_1_2 := own_comes fun _ _ _ _ _ _ h hF => ⟨h.2.1, hF⟩
end Jvm.Pilot.@@N@@
namespace Jvm.Pilot.@@N@@
open Jvm Jvm.ClassFile Sem Op Lib Jvm.Free Jvm.Stand Jvm.Pilot.@@N@@.Jvm.D
/-! MADE BY PROGRAM (witnessworld.py) out of the Statement's table words and the real class files: 12 classes; the members and pool entries that the words name. The judged class is class 1, her method 5. -/
namespace start1
open Jvm.ClassFile
def u (s : String) : CpInfo := .utf8 (stringToUtf16 s)
/-- a pool by its gaps: so many unusable entries, then the entry; so many at the end -/
def gap : Nat → List CpInfo → List CpInfo
  | 0, r => r
  | n + 1, r => .unusable :: gap n r
def poolList (es : List (Nat × CpInfo)) (last : Nat) : List CpInfo := es.foldr (fun e r => gap e.1 (e.2 :: r)) (gap last [])
def pool (es : List (Nat × CpInfo)) (last : Nat) : Array CpInfo := ⟨poolList es last⟩
def fileOf (pool : Array CpInfo) (this : Nat) (attrs : Array Attribute := #[]) (ms : Array MethodInfo := #[]) (fl : Nat := 33) (sup : Nat := 0) (ifs : Array Nat := #[]) (fds : Array FieldInfo := #[]) : ClassFile where
  minorVersion := 0
  majorVersion := 65
  constantPool := pool
  accessFlags := fl
  thisClass := this
  superClass := sup
  interfaces := ifs
  fields := fds
  methods := ms
  attributes := attrs
def plain (name : String) (sup : Option ClassId) : Class where
  name := name
  kind := .ordinary
  loader := none
  accessFlags := 33
  super := sup
  interfaces := #[]
  cf := none
  fields := #[]
  methods := #[]
  instanceTypes := #[]
  staticTypes := #[]
  resolved := #[]
  callSites := []
  init := .initialized
  statics := none
  mirror := none

def pool0 : Array CpInfo := pool [(5, u "<init>"), (0, u "()V"), (1, .class_ 10), (1, u "java/lang/Object"), (85, u "clone"), (0, u "()Ljava/lang/Object;")] 26

def k0c0 : Code := { maxStack := 0, maxLocals := 1, code := object_method_1_code, exceptionTable := #[], attributes := #[] }
def k0m0 : Method := { name := "<init>", desc := "()V", sig := { parameters := [], returnType := none }, accessFlags := 1, code := some k0c0 }
def k0m1 : Method := { name := "clone", desc := "()Ljava/lang/Object;", sig := { parameters := [], returnType := some (.object "java/lang/Object") }, accessFlags := 260, code := none }
/-- java/lang/Object -/
def k0 : Class := { plain "java/lang/Object" none with
  accessFlags := 33
  interfaces := #[]
  cf := some (fileOf pool0 8 #[] #[{ accessFlags := 1, nameIndex := 5, descriptorIndex := 6, attributes := #[] }, { accessFlags := 260, nameIndex := 96, descriptorIndex := 97, attributes := #[] }] 33 0 #[] #[])
  fields := #[]
  methods := #[k0m0, k0m1]
  instanceTypes := #[]
  staticTypes := #[]
  resolved := Array.replicate 124 none
  statics := none }

def pool1 : Array CpInfo := pool [(2, .class_ 4), (1, u "java/lang/Object"), (0, u "<init>"), (0, u "()V"), (0, .methodref 8 9), (0, .class_ 10), (0, .nameAndType 11 12), (0, u "evenkeel/group/LagHoldings"), (0, u "gaveUp"), (0, u "(II)V"), (0, .methodref 8 14), (0, .nameAndType 15 12), (0, u "dealt"), (0, .integer 2147483647), (0, .methodref 18 19), (0, .class_ 20), (0, .nameAndType 21 22), (0, u "evenkeel/group/LagHoldingsPlacesPinLaw"), (0, u "taker"), (0, u "(II)I"), (0, .methodref 8 24), (0, .nameAndType 5 25), (0, u "([I[I)V"), (0, .methodref 18 27), (0, .nameAndType 28 29), (0, u "step"), (0, u "(Levenkeel/group/LagHoldings;[IIIII[I)V"), (0, .methodref 8 31), (0, .nameAndType 32 33), (0, u "places"), (0, u "(I)[I"), (0, .methodref 18 35), (0, .nameAndType 36 37), (0, u "pop6"), (0, u "(I)I"), (0, .methodref 18 39), (0, .nameAndType 40 41), (0, u "check"), (0, u "([III)Z"), (3, u "law"), (0, u "(III)Z")] 4

def k1m0 : Method := { name := "<init>", desc := "()V", sig := { parameters := [], returnType := none }, accessFlags := 1, code := none }
def k1c1 : Code := { maxStack := 3, maxLocals := 2, code := method_2_code, exceptionTable := #[], attributes := #[] }
def k1m1 : Method := { name := "taker", desc := "(II)I", sig := { parameters := [.int, .int], returnType := some .int }, accessFlags := 10, code := some k1c1 }
def k1c2 : Code := { maxStack := 5, maxLocals := 9, code := method_3_code, exceptionTable := #[], attributes := #[] }
def k1m2 : Method := { name := "step", desc := "(Levenkeel/group/LagHoldings;[IIIII[I)V", sig := { parameters := [(.object "evenkeel/group/LagHoldings"), (.array .int), .int, .int, .int, .int, (.array .int)], returnType := none }, accessFlags := 10, code := some k1c2 }
def k1c3 : Code := { maxStack := 3, maxLocals := 1, code := method_4_code, exceptionTable := #[], attributes := #[] }
def k1m3 : Method := { name := "pop6", desc := "(I)I", sig := { parameters := [.int], returnType := some .int }, accessFlags := 10, code := some k1c3 }
def k1c4 : Code := { maxStack := 3, maxLocals := 4, code := method_5_code, exceptionTable := #[], attributes := #[] }
def k1m4 : Method := { name := "check", desc := "([III)Z", sig := { parameters := [(.array .int), .int, .int], returnType := some .boolean }, accessFlags := 10, code := some k1c4 }
def k1c5 : Code := { maxStack := 7, maxLocals := 11, code := code, exceptionTable := #[], attributes := #[] }
def k1m5 : Method := { name := "law", desc := "(III)Z", sig := { parameters := [.int, .int, .int], returnType := some .boolean }, accessFlags := 9, code := some k1c5 }
/-- evenkeel/group/LagHoldingsPlacesPinLaw -/
def k1 : Class := { plain "evenkeel/group/LagHoldingsPlacesPinLaw" (some 0) with
  accessFlags := 49
  interfaces := #[]
  cf := some (fileOf pool1 18 #[] #[{ accessFlags := 1, nameIndex := 5, descriptorIndex := 6, attributes := #[] }, { accessFlags := 10, nameIndex := 21, descriptorIndex := 22, attributes := #[] }, { accessFlags := 10, nameIndex := 28, descriptorIndex := 29, attributes := #[] }, { accessFlags := 10, nameIndex := 36, descriptorIndex := 37, attributes := #[] }, { accessFlags := 10, nameIndex := 40, descriptorIndex := 41, attributes := #[] }, { accessFlags := 9, nameIndex := 45, descriptorIndex := 46, attributes := #[] }] 49 2 #[] #[])
  fields := #[]
  methods := #[k1m0, k1m1, k1m2, k1m3, k1m4, k1m5]
  instanceTypes := #[]
  staticTypes := #[]
  resolved := Array.replicate 51 none
  statics := none }

def pool2 : Array CpInfo := pool [(1, .methodref 2 3), (0, .class_ 4), (0, .nameAndType 5 6), (0, u "java/lang/Object"), (0, u "<init>"), (0, u "()V"), (0, .fieldref 8 9), (0, .class_ 10), (0, .nameAndType 11 12), (0, u "evenkeel/group/LagHoldings"), (0, u "dealt"), (0, u "[I"), (0, .fieldref 8 14), (0, .nameAndType 15 12), (0, u "dealtBefore"), (0, .methodref 17 18), (0, .class_ 12), (0, .nameAndType 19 20), (0, u "clone"), (0, u "()Ljava/lang/Object;"), (0, .fieldref 8 22), (0, .nameAndType 23 12), (0, u "count"), (0, .fieldref 8 25), (0, .nameAndType 26 12), (0, u "takenStart"), (0, .fieldref 8 28), (0, .nameAndType 29 12), (0, u "taken"), (0, .methodref 31 32), (0, .class_ 33), (0, .nameAndType 34 35), (0, u "java/util/Arrays"), (0, u "copyOf"), (0, u "([II)[I"), (0, .methodref 8 37), (0, .nameAndType 38 39), (0, u "layOut"), (0, u "([I[I)V"), (0, .fieldref 8 41), (0, .nameAndType 42 12), (0, u "lastDealt"), (0, .methodref 31 44), (0, .nameAndType 45 46), (0, u "fill"), (0, u "([II)V"), (0, .fieldref 8 48), (0, .nameAndType 49 50), (0, u "dealtCount"), (0, u "I"), (0, .methodref 52 53), (0, .class_ 54), (0, .nameAndType 55 56), (0, u "java/lang/Math"), (0, u "max"), (0, u "(II)I"), (0, u "GIVEN_UP"), (9, u "gaveUp"), (0, u "(II)V"), (0, u "places"), (0, u "(I)[I")] 2

def k2c0 : Code := { maxStack := 5, maxLocals := 4, code := prog_63_method_1_code, exceptionTable := #[], attributes := #[] }
def k2m0 : Method := { name := "<init>", desc := "([I[I)V", sig := { parameters := [(.array .int), (.array .int)], returnType := none }, accessFlags := 0, code := some k2c0 }
def k2c1 : Code := { maxStack := 6, maxLocals := 4, code := prog_63_method_2_code, exceptionTable := #[], attributes := #[] }
def k2m1 : Method := { name := "layOut", desc := "([I[I)V", sig := { parameters := [(.array .int), (.array .int)], returnType := none }, accessFlags := 2, code := some k2c1 }
def k2c2 : Code := { maxStack := 4, maxLocals := 3, code := prog_63_method_5_code, exceptionTable := #[], attributes := #[] }
def k2m2 : Method := { name := "gaveUp", desc := "(II)V", sig := { parameters := [.int, .int], returnType := none }, accessFlags := 0, code := some k2c2 }
def k2c3 : Code := { maxStack := 6, maxLocals := 3, code := prog_63_method_6_code, exceptionTable := #[], attributes := #[] }
def k2m3 : Method := { name := "dealt", desc := "(II)V", sig := { parameters := [.int, .int], returnType := none }, accessFlags := 0, code := some k2c3 }
def k2c4 : Code := { maxStack := 4, maxLocals := 6, code := prog_63_method_8_code, exceptionTable := #[], attributes := #[] }
def k2m4 : Method := { name := "places", desc := "(I)[I", sig := { parameters := [.int], returnType := some (.array .int) }, accessFlags := 0, code := some k2c4 }
/-- evenkeel/group/LagHoldings -/
def k2 : Class := { plain "evenkeel/group/LagHoldings" (some 0) with
  accessFlags := 48
  interfaces := #[]
  cf := some (fileOf pool2 8 #[] #[{ accessFlags := 0, nameIndex := 5, descriptorIndex := 39, attributes := #[] }, { accessFlags := 2, nameIndex := 38, descriptorIndex := 39, attributes := #[] }, { accessFlags := 0, nameIndex := 67, descriptorIndex := 68, attributes := #[] }, { accessFlags := 0, nameIndex := 11, descriptorIndex := 68, attributes := #[] }, { accessFlags := 0, nameIndex := 69, descriptorIndex := 70, attributes := #[] }] 48 2 #[] #[{ accessFlags := 26, nameIndex := 57, descriptorIndex := 50, attributes := #[] }, { accessFlags := 18, nameIndex := 26, descriptorIndex := 12, attributes := #[] }, { accessFlags := 18, nameIndex := 29, descriptorIndex := 12, attributes := #[] }, { accessFlags := 2, nameIndex := 11, descriptorIndex := 12, attributes := #[] }, { accessFlags := 2, nameIndex := 15, descriptorIndex := 12, attributes := #[] }, { accessFlags := 2, nameIndex := 49, descriptorIndex := 50, attributes := #[] }, { accessFlags := 18, nameIndex := 42, descriptorIndex := 12, attributes := #[] }, { accessFlags := 18, nameIndex := 23, descriptorIndex := 12, attributes := #[] }])
  fields := #[{ name := "GIVEN_UP", type := .int, accessFlags := 26, slot := 0, constantValue := 0 }, { name := "takenStart", type := (.array .int), accessFlags := 18, slot := 0, constantValue := 0 }, { name := "taken", type := (.array .int), accessFlags := 18, slot := 1, constantValue := 0 }, { name := "dealt", type := (.array .int), accessFlags := 2, slot := 2, constantValue := 0 }, { name := "dealtBefore", type := (.array .int), accessFlags := 2, slot := 3, constantValue := 0 }, { name := "dealtCount", type := .int, accessFlags := 2, slot := 4, constantValue := 0 }, { name := "lastDealt", type := (.array .int), accessFlags := 18, slot := 5, constantValue := 0 }, { name := "count", type := (.array .int), accessFlags := 18, slot := 6, constantValue := 0 }]
  methods := #[k2m0, k2m1, k2m2, k2m3, k2m4]
  instanceTypes := #[(.array .int), (.array .int), (.array .int), (.array .int), .int, (.array .int), (.array .int)]
  staticTypes := #[.int]
  resolved := Array.replicate 73 none
  statics := none }

def pool3 : Array CpInfo := pool [(1, .class_ 2), (0, u "java/lang/Cloneable"), (0, .class_ 4), (0, u "java/lang/Object")] 2

/-- java/lang/Cloneable -/
def k3 : Class := { plain "java/lang/Cloneable" (some 0) with
  accessFlags := 1537
  interfaces := #[]
  cf := some (fileOf pool3 1 #[] #[] 1537 3 #[] #[])
  fields := #[]
  methods := #[]
  instanceTypes := #[]
  staticTypes := #[]
  resolved := Array.replicate 7 none
  statics := none }

def pool4 : Array CpInfo := pool [(2, .class_ 4), (1, u "java/lang/Object"), (0, u "<init>"), (0, u "()V"), (7, .class_ 16), (1, u "java/util/Arrays"), (57, .class_ 76), (1, u "java/util/Arrays$NaturalOrder"), (36, .class_ 115), (1, u "java/util/Arrays$LegacyMergeSort"), (1, u "Z"), (32, .methodref 151 152), (0, .class_ 153), (0, .nameAndType 154 155), (0, u "java/lang/System"), (0, u "arraycopy"), (0, u "(Ljava/lang/Object;ILjava/lang/Object;II)V"), (146, u "copyOf"), (1, .methodref 305 306), (0, .class_ 307), (0, .nameAndType 308 309), (0, u "java/lang/Math"), (0, u "min"), (0, u "(II)I"), (65, .class_ 376), (0, u "java/util/Arrays$ArrayList"), (68, u "$assertionsDisabled"), (269, u "MIN_ARRAY_SORT_GRAN"), (0, u "I"), (2, u "INSERTIONSORT_THRESHOLD"), (120, u "fill"), (4, u "([II)V"), (25, u "([II)[I"), (103, .class_ 976), (0, u "java/util/Arrays$ArrayItr")] 52

def k4m0 : Method := { name := "<init>", desc := "()V", sig := { parameters := [], returnType := none }, accessFlags := 2, code := none }
def k4c1 : Code := { maxStack := 3, maxLocals := 4, code := jdk_65_method_103_code, exceptionTable := #[], attributes := #[] }
def k4m1 : Method := { name := "fill", desc := "([II)V", sig := { parameters := [(.array .int), .int], returnType := none }, accessFlags := 9, code := some k4c1 }
def k4c2 : Code := { maxStack := 6, maxLocals := 3, code := jdk_65_method_123_code, exceptionTable := #[], attributes := #[] }
def k4m2 : Method := { name := "copyOf", desc := "([II)[I", sig := { parameters := [(.array .int), .int], returnType := some (.array .int) }, accessFlags := 9, code := some k4c2 }
/-- java/util/Arrays -/
def k4 : Class := { plain "java/util/Arrays" (some 0) with
  accessFlags := 49
  interfaces := #[]
  cf := some (fileOf pool4 14 #[.nestMembers #[975, 375, 113, 74]] #[{ accessFlags := 2, nameIndex := 5, descriptorIndex := 6, attributes := #[] }, { accessFlags := 9, nameIndex := 840, descriptorIndex := 845, attributes := #[] }, { accessFlags := 9, nameIndex := 302, descriptorIndex := 871, attributes := #[] }] 49 2 #[] #[{ accessFlags := 26, nameIndex := 715, descriptorIndex := 716, attributes := #[] }, { accessFlags := 26, nameIndex := 719, descriptorIndex := 716, attributes := #[] }, { accessFlags := 4120, nameIndex := 445, descriptorIndex := 117, attributes := #[] }])
  fields := #[{ name := "MIN_ARRAY_SORT_GRAN", type := .int, accessFlags := 26, slot := 0, constantValue := 0 }, { name := "INSERTIONSORT_THRESHOLD", type := .int, accessFlags := 26, slot := 1, constantValue := 0 }, { name := "$assertionsDisabled", type := .boolean, accessFlags := 4120, slot := 2, constantValue := 0 }]
  methods := #[k4m0, k4m1, k4m2]
  instanceTypes := #[]
  staticTypes := #[.int, .int, .boolean]
  resolved := Array.replicate 1029 none
  statics := none }

def pool5 : Array CpInfo := pool [(1, .class_ 2), (0, u "java/lang/Math"), (1, .class_ 6), (1, u "java/lang/Object"), (0, u "<init>"), (0, u "()V"), (89, .class_ 100), (1, u "java/lang/Math$RandomNumberGeneratorHolder"), (71, u "negativeZeroFloatBits"), (0, u "J"), (2, u "negativeZeroDoubleBits"), (21, u "max"), (2, u "min"), (43, u "$assertionsDisabled"), (0, u "Z"), (88, u "(II)I"), (2, u "twoToTheDoubleScaleDown"), (0, u "D"), (4, u "twoToTheDoubleScaleUp"), (9, u "E"), (3, u "PI"), (2, u "TAU"), (2, u "DEGREES_TO_RADIANS"), (0, u "RADIANS_TO_DEGREES")] 94

def k5m0 : Method := { name := "<init>", desc := "()V", sig := { parameters := [], returnType := none }, accessFlags := 2, code := none }
def k5c1 : Code := { maxStack := 2, maxLocals := 2, code := jdk_29_method_65_code, exceptionTable := #[], attributes := #[] }
def k5m1 : Method := { name := "max", desc := "(II)I", sig := { parameters := [.int, .int], returnType := some .int }, accessFlags := 9, code := some k5c1 }
def k5c2 : Code := { maxStack := 2, maxLocals := 2, code := jdk_29_method_69_code, exceptionTable := #[], attributes := #[] }
def k5m2 : Method := { name := "min", desc := "(II)I", sig := { parameters := [.int, .int], returnType := some .int }, accessFlags := 9, code := some k5c2 }
/-- java/lang/Math -/
def k5 : Class := { plain "java/lang/Math" (some 0) with
  accessFlags := 49
  interfaces := #[]
  cf := some (fileOf pool5 1 #[.nestMembers #[98]] #[{ accessFlags := 2, nameIndex := 7, descriptorIndex := 8, attributes := #[] }, { accessFlags := 9, nameIndex := 198, descriptorIndex := 335, attributes := #[] }, { accessFlags := 9, nameIndex := 201, descriptorIndex := 335, attributes := #[] }] 49 4 #[] #[{ accessFlags := 25, nameIndex := 354, descriptorIndex := 339, attributes := #[] }, { accessFlags := 25, nameIndex := 358, descriptorIndex := 339, attributes := #[] }, { accessFlags := 25, nameIndex := 361, descriptorIndex := 339, attributes := #[] }, { accessFlags := 26, nameIndex := 364, descriptorIndex := 339, attributes := #[] }, { accessFlags := 26, nameIndex := 365, descriptorIndex := 339, attributes := #[] }, { accessFlags := 26, nameIndex := 172, descriptorIndex := 173, attributes := #[] }, { accessFlags := 26, nameIndex := 176, descriptorIndex := 173, attributes := #[] }, { accessFlags := 8, nameIndex := 344, descriptorIndex := 339, attributes := #[] }, { accessFlags := 8, nameIndex := 338, descriptorIndex := 339, attributes := #[] }, { accessFlags := 4120, nameIndex := 245, descriptorIndex := 246, attributes := #[] }])
  fields := #[{ name := "E", type := .double, accessFlags := 25, slot := 0, constantValue := 0 }, { name := "PI", type := .double, accessFlags := 25, slot := 1, constantValue := 0 }, { name := "TAU", type := .double, accessFlags := 25, slot := 2, constantValue := 0 }, { name := "DEGREES_TO_RADIANS", type := .double, accessFlags := 26, slot := 3, constantValue := 0 }, { name := "RADIANS_TO_DEGREES", type := .double, accessFlags := 26, slot := 4, constantValue := 0 }, { name := "negativeZeroFloatBits", type := .long, accessFlags := 26, slot := 5, constantValue := 0 }, { name := "negativeZeroDoubleBits", type := .long, accessFlags := 26, slot := 6, constantValue := 0 }, { name := "twoToTheDoubleScaleUp", type := .double, accessFlags := 8, slot := 7, constantValue := 0 }, { name := "twoToTheDoubleScaleDown", type := .double, accessFlags := 8, slot := 8, constantValue := 0 }, { name := "$assertionsDisabled", type := .boolean, accessFlags := 4120, slot := 9, constantValue := 0 }]
  methods := #[k5m0, k5m1, k5m2]
  instanceTypes := #[]
  staticTypes := #[.double, .double, .double, .double, .double, .long, .long, .double, .double, .boolean]
  resolved := Array.replicate 460 none
  statics := none }

def pool6 : Array CpInfo := pool [(2, .class_ 4), (1, u "java/lang/Object"), (0, u "<init>"), (0, u "()V"), (1, .class_ 10), (1, u "java/lang/System"), (0, u "allowSecurityManager"), (0, u "I"), (16, u "cons"), (0, u "Ljava/io/Console;"), (77, .class_ 110), (1, u "java/lang/System$CallersHolder"), (43, u "initialErrStream"), (0, u "Ljava/io/PrintStream;"), (19, u "security"), (0, u "Ljava/lang/SecurityManager;"), (31, .class_ 209), (0, u "java/lang/System$1"), (7, u "props"), (0, u "Ljava/util/Properties;"), (2, u "lineSeparator"), (0, u "Ljava/lang/String;"), (96, .class_ 321), (1, u "java/lang/System$LoggerFinder"), (5, .class_ 328), (0, u "java/lang/System$Logger"), (67, u "err"), (2, u "out"), (91, u "notSupportedJnuEncoding"), (15, u "in"), (17, u "initialIn"), (0, u "Ljava/io/InputStream;"), (35, u "bootLayer"), (0, u "Ljava/lang/ModuleLayer;"), (99, .class_ 664), (0, u "java/lang/System$2"), (9, u "NEVER"), (2, u "MAYBE"), (49, u "arraycopy"), (0, u "(Ljava/lang/Object;ILjava/lang/Object;II)V"), (72, .class_ 802), (0, u "java/lang/System$Logger$Level")] 31

def k6m0 : Method := { name := "<init>", desc := "()V", sig := { parameters := [], returnType := none }, accessFlags := 2, code := none }
def k6m1 : Method := { name := "arraycopy", desc := "(Ljava/lang/Object;ILjava/lang/Object;II)V", sig := { parameters := [(.object "java/lang/Object"), .int, (.object "java/lang/Object"), .int, .int], returnType := none }, accessFlags := 265, code := none }
/-- java/lang/System -/
def k6 : Class := { plain "java/lang/System" (some 0) with
  accessFlags := 49
  interfaces := #[]
  cf := some (fileOf pool6 8 #[.nestMembers #[319, 327, 801, 108, 663, 208]] #[{ accessFlags := 2, nameIndex := 5, descriptorIndex := 6, attributes := #[] }, { accessFlags := 265, nameIndex := 727, descriptorIndex := 728, attributes := #[] }] 49 2 #[] #[{ accessFlags := 25, nameIndex := 507, descriptorIndex := 526, attributes := #[] }, { accessFlags := 25, nameIndex := 399, descriptorIndex := 155, attributes := #[] }, { accessFlags := 25, nameIndex := 396, descriptorIndex := 155, attributes := #[] }, { accessFlags := 10, nameIndex := 525, descriptorIndex := 526, attributes := #[] }, { accessFlags := 26, nameIndex := 674, descriptorIndex := 12, attributes := #[] }, { accessFlags := 26, nameIndex := 677, descriptorIndex := 12, attributes := #[] }, { accessFlags := 10, nameIndex := 11, descriptorIndex := 12, attributes := #[] }, { accessFlags := 74, nameIndex := 175, descriptorIndex := 176, attributes := #[] }, { accessFlags := 10, nameIndex := 491, descriptorIndex := 222, attributes := #[] }, { accessFlags := 74, nameIndex := 29, descriptorIndex := 30, attributes := #[] }, { accessFlags := 74, nameIndex := 154, descriptorIndex := 155, attributes := #[] }, { accessFlags := 10, nameIndex := 217, descriptorIndex := 218, attributes := #[] }, { accessFlags := 10, nameIndex := 221, descriptorIndex := 222, attributes := #[] }, { accessFlags := 8, nameIndex := 562, descriptorIndex := 563, attributes := #[] }])
  fields := #[{ name := "in", type := (.object "java/io/InputStream"), accessFlags := 25, slot := 0, constantValue := 0 }, { name := "out", type := (.object "java/io/PrintStream"), accessFlags := 25, slot := 1, constantValue := 0 }, { name := "err", type := (.object "java/io/PrintStream"), accessFlags := 25, slot := 2, constantValue := 0 }, { name := "initialIn", type := (.object "java/io/InputStream"), accessFlags := 10, slot := 3, constantValue := 0 }, { name := "NEVER", type := .int, accessFlags := 26, slot := 4, constantValue := 0 }, { name := "MAYBE", type := .int, accessFlags := 26, slot := 5, constantValue := 0 }, { name := "allowSecurityManager", type := .int, accessFlags := 10, slot := 6, constantValue := 0 }, { name := "security", type := (.object "java/lang/SecurityManager"), accessFlags := 74, slot := 7, constantValue := 0 }, { name := "notSupportedJnuEncoding", type := (.object "java/lang/String"), accessFlags := 10, slot := 8, constantValue := 0 }, { name := "cons", type := (.object "java/io/Console"), accessFlags := 74, slot := 9, constantValue := 0 }, { name := "initialErrStream", type := (.object "java/io/PrintStream"), accessFlags := 74, slot := 10, constantValue := 0 }, { name := "props", type := (.object "java/util/Properties"), accessFlags := 10, slot := 11, constantValue := 0 }, { name := "lineSeparator", type := (.object "java/lang/String"), accessFlags := 10, slot := 12, constantValue := 0 }, { name := "bootLayer", type := (.object "java/lang/ModuleLayer"), accessFlags := 8, slot := 13, constantValue := 0 }]
  methods := #[k6m0, k6m1]
  instanceTypes := #[]
  staticTypes := #[(.object "java/io/InputStream"), (.object "java/io/PrintStream"), (.object "java/io/PrintStream"), (.object "java/io/InputStream"), .int, .int, .int, (.object "java/lang/SecurityManager"), (.object "java/lang/String"), (.object "java/io/Console"), (.object "java/io/PrintStream"), (.object "java/util/Properties"), (.object "java/lang/String"), (.object "java/lang/ModuleLayer")]
  resolved := Array.replicate 834 none
  statics := none }

def pool7 : Array CpInfo := pool [(1, u "java/io/Serializable"), (0, .class_ 1), (0, u "java/lang/Object"), (0, .class_ 3)] 3

/-- java/io/Serializable -/
def k7 : Class := { plain "java/io/Serializable" (some 0) with
  accessFlags := 1537
  interfaces := #[]
  cf := some (fileOf pool7 2 #[] #[] 1537 4 #[] #[])
  fields := #[]
  methods := #[]
  instanceTypes := #[]
  staticTypes := #[]
  resolved := Array.replicate 8 none
  statics := none }

/-- the primitive byte -/
def k8 : Class := { plain "byte" none with kind := .primitive 'B', accessFlags := 0x411 }
/-- [B -/
def k9 : Class := { plain "[B" (some 0) with kind := .array 8 .byte, interfaces := #[3, 7], accessFlags := 1041 }

/-- the primitive int -/
def k10 : Class := { plain "int" none with kind := .primitive 'I', accessFlags := 0x411 }
/-- [I -/
def k11 : Class := { plain "[I" (some 0) with kind := .array 10 .int, interfaces := #[3, 7], accessFlags := 1041 }

def heap : Heap := #[]
def classes : Array Class := #[k0, k1, k2, k3, k4, k5, k6, k7, k8, k9, k10, k11]
def interned : List (Array UInt16 × Addr) := []
def slotsUsed : Nat := 0
def theMethod : MethodId := ⟨1, 5⟩
def args0 : Array Value := #[.int 5, .int 5, .int 5]
def aboutOver (below : List Frame) : State where
  vm := { classes := classes, interned := interned.toArray }
  heap := heap
  slotsUsed := slotsUsed
  threads := #[{ frames := .invoking theMethod args0 :: below }]
def below0 : List Frame := [.native { method := ⟨0, 0⟩, args := #[] }]
def about1 : State := aboutOver below0
def p0 : Program := .bare "" "" ""
def e0 : Env := launch0.env 0 0 0
theorem w_frames : about1.frames = Frame.invoking theMethod args0 :: below0 := rfl
set_option maxRecDepth 65536 in
theorem w_args : argsFit about1.vm theMethod args0 = true := by decide +kernel
set_option maxRecDepth 65536 in
theorem w_heap : heapFits about1 = true := by decide +kernel
set_option maxRecDepth 65536 in
theorem w_runnable : about1.curStatus? = some .runnable := by decide +kernel
set_option maxRecDepth 65536 in
theorem w_alone : about1.alone = true := by decide +kernel
set_option maxRecDepth 65536 in
theorem w_named : about1.methodNamed? x = some theMethod := by decide +kernel
set_option maxRecDepth 65536 in
theorem w_hears : about1.hears theMethod below0 = true := by decide +kernel
set_option maxRecDepth 65536 in
theorem w_ripe : about1.ripe theMethod args0 below0 = true := by decide +kernel
theorem w_running : about1.status = .running := rfl
set_option maxRecDepth 65536 in
theorem w_room : about1.hasRoom e0.platform room_1 = true :=
  launch0.hasRoom_least _ room_1 (by decide +kernel) (by decide +kernel) (by decide +kernel) (by decide +kernel) (by decide +kernel) (by decide +kernel)
theorem allAtoms_all (ts : List Jvm.Cond) (a : Array Jvm.Value) (st : Jvm.State) : (allAtoms ts).before a st = ts.all (fun c => c.before a st) := by
  induction ts with
  | nil => rfl
  | cons c t ih =>
    show (Jvm.Cond.and c (allAtoms t)).before a st = _
    rw [Jvm.Cond.before_and, ih, List.all_cons]
def words1 : List Jvm.Cond := Jvm.Cond.code x code maxLocals ret :: tables_1
/-- a 'code' word, met by the world's own term for the bytes: nothing is compared byte by byte -/
theorem code_word {y : MethodName} {bytes : ByteArray} {mx : Nat} {rt : Option FieldType} {a : Array Value} {s : State} {m : MethodId} {meth : Method} {c : Code} (h1 : s.methodNamed? y = some m) (h2 : s.vm.method? m = some meth) (h3 : meth.code = some c) (h4 : c.code = bytes)
    (h5 : (c.maxLocals == mx && c.exceptionTable.isEmpty && decide (c.maxStack ≤ mostOperands) && decide (meth.sig.returnType = rt) && !meth.locks && decide (parseMethodDescriptor y.desc = some meth.sig)) = true) : (Jvm.Cond.code y bytes mx rt).before a s = true := by
  simp only [Bool.and_eq_true, beq_iff_eq, Bool.not_eq_true', decide_eq_true_eq] at h5
  obtain ⟨⟨⟨⟨⟨g1, g2⟩, g3⟩, g4⟩, g5⟩, g6⟩ := h5
  simp [Cond.before, Cond.holds, Cond.value, h1, h2, h3, h4, g1, g2, g3, g4, g5, g6]
def isCode : Jvm.Cond → Bool
  | .code _ _ _ _ => true
  | _ => false
theorem all_split {L : List Jvm.Cond} {P : Jvm.Cond → Bool} (h1 : L.all (fun c => isCode c || P c) = true) (h2 : ∀ c ∈ L.filter isCode, P c = true) : L.all P = true := by
  refine List.all_eq_true.mpr fun c hc => ?_
  have h := List.all_eq_true.mp h1 c hc
  rcases Bool.eq_false_or_eq_true (isCode c) with hi | hi
  · exact h2 c (List.mem_filter.mpr ⟨hc, hi⟩)
  · simpa [hi] using h
set_option maxRecDepth 65536 in
theorem w_c0 : (Jvm.Cond.code x code maxLocals ret).before args0 about1 = true := code_word (m := ⟨1, 5⟩) (meth := k1m5) (c := k1c5) (by decide +kernel) rfl rfl rfl (by decide +kernel)
set_option maxRecDepth 65536 in
theorem w_c1 : (Jvm.Cond.code ({ cls := "evenkeel/group/LagHoldingsPlacesPinLaw", name := "taker", desc := "(II)I" } : Jvm.MethodName) method_2_code (2 : Nat) (Option.some Jvm.ClassFile.FieldType.int)).before args0 about1 = true := code_word (m := ⟨1, 1⟩) (meth := k1m1) (c := k1c1) (by decide +kernel) rfl rfl rfl (by decide +kernel)
set_option maxRecDepth 65536 in
theorem w_c2 : (Jvm.Cond.code ({ cls := "evenkeel/group/LagHoldings", name := "<init>", desc := "([I[I)V" } : Jvm.MethodName) prog_63_method_1_code (4 : Nat) (Option.none : Option Jvm.ClassFile.FieldType)).before args0 about1 = true := code_word (m := ⟨2, 0⟩) (meth := k2m0) (c := k2c0) (by decide +kernel) rfl rfl rfl (by decide +kernel)
set_option maxRecDepth 65536 in
theorem w_c3 : (Jvm.Cond.code ({ cls := "java/lang/Object", name := "<init>", desc := "()V" } : Jvm.MethodName) object_method_1_code (1 : Nat) (Option.none : Option Jvm.ClassFile.FieldType)).before args0 about1 = true := code_word (m := ⟨0, 0⟩) (meth := k0m0) (c := k0c0) (by decide +kernel) rfl rfl rfl (by decide +kernel)
set_option maxRecDepth 65536 in
theorem w_c4 : (Jvm.Cond.code ({ cls := "java/util/Arrays", name := "copyOf", desc := "([II)[I" } : Jvm.MethodName) jdk_65_method_123_code (3 : Nat) (Option.some (Jvm.ClassFile.FieldType.array Jvm.ClassFile.FieldType.int))).before args0 about1 = true := code_word (m := ⟨4, 2⟩) (meth := k4m2) (c := k4c2) (by decide +kernel) rfl rfl rfl (by decide +kernel)
set_option maxRecDepth 65536 in
theorem w_c5 : (Jvm.Cond.code ({ cls := "java/lang/Math", name := "min", desc := "(II)I" } : Jvm.MethodName) jdk_29_method_69_code (2 : Nat) (Option.some Jvm.ClassFile.FieldType.int)).before args0 about1 = true := code_word (m := ⟨5, 2⟩) (meth := k5m2) (c := k5c2) (by decide +kernel) rfl rfl rfl (by decide +kernel)
set_option maxRecDepth 65536 in
theorem w_c6 : (Jvm.Cond.code ({ cls := "evenkeel/group/LagHoldings", name := "layOut", desc := "([I[I)V" } : Jvm.MethodName) prog_63_method_2_code (4 : Nat) (Option.none : Option Jvm.ClassFile.FieldType)).before args0 about1 = true := code_word (m := ⟨2, 1⟩) (meth := k2m1) (c := k2c1) (by decide +kernel) rfl rfl rfl (by decide +kernel)
set_option maxRecDepth 65536 in
theorem w_c7 : (Jvm.Cond.code ({ cls := "java/util/Arrays", name := "fill", desc := "([II)V" } : Jvm.MethodName) jdk_65_method_103_code (4 : Nat) (Option.none : Option Jvm.ClassFile.FieldType)).before args0 about1 = true := code_word (m := ⟨4, 1⟩) (meth := k4m1) (c := k4c1) (by decide +kernel) rfl rfl rfl (by decide +kernel)
set_option maxRecDepth 65536 in
theorem w_c8 : (Jvm.Cond.code ({ cls := "evenkeel/group/LagHoldingsPlacesPinLaw", name := "step", desc := "(Levenkeel/group/LagHoldings;[IIIII[I)V" } : Jvm.MethodName) method_3_code (9 : Nat) (Option.none : Option Jvm.ClassFile.FieldType)).before args0 about1 = true := code_word (m := ⟨1, 2⟩) (meth := k1m2) (c := k1c2) (by decide +kernel) rfl rfl rfl (by decide +kernel)
set_option maxRecDepth 65536 in
theorem w_c9 : (Jvm.Cond.code ({ cls := "evenkeel/group/LagHoldings", name := "places", desc := "(I)[I" } : Jvm.MethodName) prog_63_method_8_code (6 : Nat) (Option.some (Jvm.ClassFile.FieldType.array Jvm.ClassFile.FieldType.int))).before args0 about1 = true := code_word (m := ⟨2, 4⟩) (meth := k2m4) (c := k2c4) (by decide +kernel) rfl rfl rfl (by decide +kernel)
set_option maxRecDepth 65536 in
theorem w_c10 : (Jvm.Cond.code ({ cls := "evenkeel/group/LagHoldingsPlacesPinLaw", name := "pop6", desc := "(I)I" } : Jvm.MethodName) method_4_code (1 : Nat) (Option.some Jvm.ClassFile.FieldType.int)).before args0 about1 = true := code_word (m := ⟨1, 3⟩) (meth := k1m3) (c := k1c3) (by decide +kernel) rfl rfl rfl (by decide +kernel)
set_option maxRecDepth 65536 in
theorem w_c11 : (Jvm.Cond.code ({ cls := "evenkeel/group/LagHoldingsPlacesPinLaw", name := "check", desc := "([III)Z" } : Jvm.MethodName) method_5_code (4 : Nat) (Option.some Jvm.ClassFile.FieldType.boolean)).before args0 about1 = true := code_word (m := ⟨1, 4⟩) (meth := k1m4) (c := k1c4) (by decide +kernel) rfl rfl rfl (by decide +kernel)
set_option maxRecDepth 65536 in
theorem w_c12 : (Jvm.Cond.code ({ cls := "evenkeel/group/LagHoldings", name := "gaveUp", desc := "(II)V" } : Jvm.MethodName) prog_63_method_5_code (3 : Nat) (Option.none : Option Jvm.ClassFile.FieldType)).before args0 about1 = true := code_word (m := ⟨2, 2⟩) (meth := k2m2) (c := k2c2) (by decide +kernel) rfl rfl rfl (by decide +kernel)
set_option maxRecDepth 65536 in
theorem w_c13 : (Jvm.Cond.code ({ cls := "evenkeel/group/LagHoldings", name := "dealt", desc := "(II)V" } : Jvm.MethodName) prog_63_method_6_code (3 : Nat) (Option.none : Option Jvm.ClassFile.FieldType)).before args0 about1 = true := code_word (m := ⟨2, 3⟩) (meth := k2m3) (c := k2c3) (by decide +kernel) rfl rfl rfl (by decide +kernel)
set_option maxRecDepth 65536 in
theorem w_c14 : (Jvm.Cond.code ({ cls := "java/lang/Math", name := "max", desc := "(II)I" } : Jvm.MethodName) jdk_29_method_65_code (2 : Nat) (Option.some Jvm.ClassFile.FieldType.int)).before args0 about1 = true := code_word (m := ⟨5, 1⟩) (meth := k5m1) (c := k5c1) (by decide +kernel) rfl rfl rfl (by decide +kernel)
def codes1 : List Jvm.Cond := [Jvm.Cond.code x code maxLocals ret, Jvm.Cond.code ({ cls := "evenkeel/group/LagHoldingsPlacesPinLaw", name := "taker", desc := "(II)I" } : Jvm.MethodName) method_2_code (2 : Nat) (Option.some Jvm.ClassFile.FieldType.int), Jvm.Cond.code ({ cls := "evenkeel/group/LagHoldings", name := "<init>", desc := "([I[I)V" } : Jvm.MethodName) prog_63_method_1_code (4 : Nat) (Option.none : Option Jvm.ClassFile.FieldType), Jvm.Cond.code ({ cls := "java/lang/Object", name := "<init>", desc := "()V" } : Jvm.MethodName) object_method_1_code (1 : Nat) (Option.none : Option Jvm.ClassFile.FieldType), Jvm.Cond.code ({ cls := "java/util/Arrays", name := "copyOf", desc := "([II)[I" } : Jvm.MethodName) jdk_65_method_123_code (3 : Nat) (Option.some (Jvm.ClassFile.FieldType.array Jvm.ClassFile.FieldType.int)), Jvm.Cond.code ({ cls := "java/lang/Math", name := "min", desc := "(II)I" } : Jvm.MethodName) jdk_29_method_69_code (2 : Nat) (Option.some Jvm.ClassFile.FieldType.int), Jvm.Cond.code ({ cls := "evenkeel/group/LagHoldings", name := "layOut", desc := "([I[I)V" } : Jvm.MethodName) prog_63_method_2_code (4 : Nat) (Option.none : Option Jvm.ClassFile.FieldType), Jvm.Cond.code ({ cls := "java/util/Arrays", name := "fill", desc := "([II)V" } : Jvm.MethodName) jdk_65_method_103_code (4 : Nat) (Option.none : Option Jvm.ClassFile.FieldType), Jvm.Cond.code ({ cls := "evenkeel/group/LagHoldingsPlacesPinLaw", name := "step", desc := "(Levenkeel/group/LagHoldings;[IIIII[I)V" } : Jvm.MethodName) method_3_code (9 : Nat) (Option.none : Option Jvm.ClassFile.FieldType), Jvm.Cond.code ({ cls := "evenkeel/group/LagHoldings", name := "places", desc := "(I)[I" } : Jvm.MethodName) prog_63_method_8_code (6 : Nat) (Option.some (Jvm.ClassFile.FieldType.array Jvm.ClassFile.FieldType.int)), Jvm.Cond.code ({ cls := "evenkeel/group/LagHoldingsPlacesPinLaw", name := "pop6", desc := "(I)I" } : Jvm.MethodName) method_4_code (1 : Nat) (Option.some Jvm.ClassFile.FieldType.int), Jvm.Cond.code ({ cls := "evenkeel/group/LagHoldingsPlacesPinLaw", name := "check", desc := "([III)Z" } : Jvm.MethodName) method_5_code (4 : Nat) (Option.some Jvm.ClassFile.FieldType.boolean), Jvm.Cond.code ({ cls := "evenkeel/group/LagHoldings", name := "gaveUp", desc := "(II)V" } : Jvm.MethodName) prog_63_method_5_code (3 : Nat) (Option.none : Option Jvm.ClassFile.FieldType), Jvm.Cond.code ({ cls := "evenkeel/group/LagHoldings", name := "dealt", desc := "(II)V" } : Jvm.MethodName) prog_63_method_6_code (3 : Nat) (Option.none : Option Jvm.ClassFile.FieldType), Jvm.Cond.code ({ cls := "java/lang/Math", name := "max", desc := "(II)I" } : Jvm.MethodName) jdk_29_method_65_code (2 : Nat) (Option.some Jvm.ClassFile.FieldType.int)]
set_option maxRecDepth 65536 in
theorem codes_eq : words1.filter isCode = codes1 := rfl
theorem w_codes : ∀ c ∈ words1.filter isCode, c.before args0 about1 = true := by
  rw [codes_eq]
  intro c hc
  simp only [codes1, List.mem_cons, List.not_mem_nil, or_false] at hc
  rcases hc with rfl | rfl | rfl | rfl | rfl | rfl | rfl | rfl | rfl | rfl | rfl | rfl | rfl | rfl | rfl
  · exact w_c0
  · exact w_c1
  · exact w_c2
  · exact w_c3
  · exact w_c4
  · exact w_c5
  · exact w_c6
  · exact w_c7
  · exact w_c8
  · exact w_c9
  · exact w_c10
  · exact w_c11
  · exact w_c12
  · exact w_c13
  · exact w_c14
set_option maxRecDepth 65536 in
theorem w_t1 : (words1.take 24).all (fun c => isCode c || c.before args0 about1) = true := by decide +kernel
set_option maxRecDepth 65536 in
theorem w_t2 : ((words1.drop 24).take 24).all (fun c => isCode c || c.before args0 about1) = true := by decide +kernel
set_option maxRecDepth 65536 in
theorem w_t3 : (((words1.drop 24).drop 24).take 24).all (fun c => isCode c || c.before args0 about1) = true := by decide +kernel
set_option maxRecDepth 65536 in
theorem w_t4 : (((words1.drop 24).drop 24).drop 24).all (fun c => isCode c || c.before args0 about1) = true := by decide +kernel
theorem w_tables : (allAtoms (Jvm.Cond.code x code maxLocals ret :: tables_1)).before args0 about1 = true := by
  rw [allAtoms_all]
  show words1.all (fun c => c.before args0 about1) = true
  refine all_split ?_ w_codes
  rw [← List.take_append_drop 24 words1, List.all_append, w_t1, ← List.take_append_drop 24 (words1.drop 24), List.all_append, w_t2, ← List.take_append_drop 24 ((words1.drop 24).drop 24), List.all_append, w_t3, w_t4]
  rfl
set_option maxRecDepth 65536 in
theorem w_case : (Jvm.Cond.and given_1 narrow_1).before args0 about1 = true := by decide +kernel
theorem w_applies : (headSpec (Jvm.Cond.code x code maxLocals ret :: tables_1) room_1).applies x e0.platform about1 = true :=
  (Spec.applies_iff w_frames).mpr ⟨w_running, w_runnable, w_alone, w_named, w_hears, w_ripe, w_room, w_tables⟩
theorem atStart : AtStart classFile x code maxLocals ret World_1 tables_1 room_1 Calls_1 rest_1 Pre_1 launch0 p0 e0 about1 theMethod args0 below0 :=
  ⟨lists_1, trivial, launch0.admits_env _ _ _, launch0.least_env, fairChoices_fair.cas, fairChoices_fair.clock, w_frames, w_args, w_heap, w_applies, trivial, trivial, w_case⟩
end start1
theorem witness_1 : WitnessClaimed_1 := ⟨start1.p0, start1.e0, start1.about1, start1.theMethod, start1.args0, start1.below0, start1.atStart⟩
end Jvm.Pilot.@@N@@
