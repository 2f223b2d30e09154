import JvmDerived
import JvmDerived.Pilot.@@N@@Statement
import JvmDerived.Pilot.@@N@@Code
set_option linter.unusedVariables false
set_option linter.unusedSimpArgs false
namespace Jvm.Pilot.@@N@@
open Jvm Jvm.ClassFile Sem Op Lib Jvm.Free Jvm.Stand Jvm.LawKit Jvm.RoadKit Bundle Jvm.Pilot.@@N@@.Jvm.D
/-! ## A LITTLE MACHINE: the walk of a law as a function. Its cells are the new ones alone; a reference is a cell's place among them. -/
abbrev OCell := (Nat ⊕ FieldType) × List Value
abbrev OHeap := List OCell
abbrev OFld := String × String × String × FieldType
abbrev OKls := String × Nat × List OFld
abbrev OEnt := Nat × Nat × Nat × Int
abbrev ORow := Nat × Instr × Nat
abbrev OMth := MethodName × ByteArray × Nat × Option FieldType × Nat × List (List ORow) × List (Nat × OEnt)
abbrev OPrg := List OMth × List OKls × List FieldType
abbrev OMth.nm (q : OMth) : MethodName := q.1
abbrev OMth.bs (q : OMth) : ByteArray := q.2.1
abbrev OMth.ml (q : OMth) : Nat := q.2.2.1
abbrev OMth.rt (q : OMth) : Option FieldType := q.2.2.2.1
abbrev OMth.na (q : OMth) : Nat := q.2.2.2.2.1
abbrev OMth.cd (q : OMth) : List (List ORow) := q.2.2.2.2.2.1
abbrev OMth.en (q : OMth) : List (Nat × OEnt) := q.2.2.2.2.2.2
def own_sh (n : Nat) : Value → Value
  | .ref a => .ref (n + a)
  | v => v
def own_shS (n : Nat) : Slot → Slot
  | .val v => .val (own_sh n v)
  | s => s
abbrev own_fr (n : Nat) (m : MethodId) (pc : Nat) (L : List Slot) (S : List Value) : JFrame := mkF m pc (L.map (own_shS n)).toArray (S.map (own_sh n))
def own_wt (S : List Value) : Nat := (S.map fun v => v.category).sum
/-! ### the locals -/
def own_set (L : List Slot) (i : Nat) (x : Slot) : Option (List Slot) := if i < L.length then some (L.set i x) else none
def own_self (L : List Slot) (i : Nat) (v : Value) : Option (List Slot) :=
  match own_set L i (.val v) with
  | none => none
  | some M => if v.category = 2 then (match M[i + 1]? with
      | none => none
      | some (.val o) => if o.category = 2 then (match own_set M (i + 2) .unset with
          | none => none
          | some N => own_set N (i + 1) .second) else own_set M (i + 1) .second
      | some _ => own_set M (i + 1) .second) else some M
def own_sto (L : List Slot) (i : Nat) (v : Value) : Option (List Slot) :=
  match L[i]? with
  | none => none
  | some .second => (match own_set L (i - 1) .unset with
      | none => none
      | some M => own_self M i v)
  | some (.val o) => if o.category = 2 then (match own_set L (i + 1) .unset with
      | none => none
      | some M => own_self M i v) else own_self L i v
  | some .unset => own_self L i v
def own_entry (as : List Value) (ml : Nat) : List Slot :=
  let f := as.flatMap fun v => if v.category = 2 then [Slot.val v, .second] else [Slot.val v]
  f ++ List.replicate (ml - f.length) .unset
/-! ### steps that read and write the frame alone -/
def own_ilen : Instr → Nat
  | .aload _ | .astore _ | .iload _ | .istore _ | .lload _ | .lstore _ | .bipush _ | .ldc _ | .newarray _ => 2
  | .sipush _ | .goto _ | .ifCond _ _ | .if_icmp _ _ | .if_acmp _ _ | .ifnull _ | .ifnonnull _ | .iinc _ _ | .getfield _ | .putfield _ | .getstatic _ | .new _ | .invokestatic _ | .invokespecial _ | .invokevirtual _ | .ldc_w _ | .ldc2_w _ | .checkcast _ => 3
  | _ => 1
abbrev OFr := Nat × List Slot × List Value
def own_ldI (k t : Nat) (L : List Slot) (S : List Value) : Option OFr := match L[k]? with | some (.val (.int v)) => some (t, L, .int v :: S) | _ => none
def own_ldJ (k t : Nat) (L : List Slot) (S : List Value) : Option OFr := match L[k]? with | some (.val (.long v)) => some (t, L, .long v :: S) | _ => none
def own_ldA (k t : Nat) (L : List Slot) (S : List Value) : Option OFr := match L[k]? with | some (.val (.ref v)) => some (t, L, .ref v :: S) | some (.val .null) => some (t, L, .null :: S) | _ => none
def own_stI (k t : Nat) (L : List Slot) (S : List Value) : Option OFr := match S with | .int x :: r => (match own_sto L k (.int x) with | some M => some (t, M, r) | none => none) | _ => none
def own_stJ (k t : Nat) (L : List Slot) (S : List Value) : Option OFr := match S with | .long x :: r => (match own_sto L k (.long x) with | some M => some (t, M, r) | none => none) | _ => none
def own_stA (k t : Nat) (L : List Slot) (S : List Value) : Option OFr := match S with | .ref x :: r => (match own_sto L k (.ref x) with | some M => some (t, M, r) | none => none) | .null :: r => (match own_sto L k .null with | some M => some (t, M, r) | none => none) | _ => none
def own_b32 (f : Int32 → Int32 → Int32) (t : Nat) (L : List Slot) (S : List Value) : Option OFr := match S with | .int y :: .int x :: r => some (t, L, .int (f x y) :: r) | _ => none
def own_d32 (f : Int32 → Int32 → Int32) (t : Nat) (L : List Slot) (S : List Value) : Option OFr := match S with | .int y :: .int x :: r => (if y = 0 then none else some (t, L, .int (f x y) :: r)) | _ => none
def own_u32 (f : Int32 → Value) (t : Nat) (L : List Slot) (S : List Value) : Option OFr := match S with | .int x :: r => some (t, L, f x :: r) | _ => none
def own_b64 (f : Int64 → Int64 → Value) (t : Nat) (L : List Slot) (S : List Value) : Option OFr := match S with | .long y :: .long x :: r => some (t, L, f x y :: r) | _ => none
def own_d64 (f : Int64 → Int64 → Int64) (t : Nat) (L : List Slot) (S : List Value) : Option OFr := match S with | .long y :: .long x :: r => (if y = 0 then none else some (t, L, .long (f x y) :: r)) | _ => none
def own_s64 (f : Int64 → Int32 → Int64) (t : Nat) (L : List Slot) (S : List Value) : Option OFr := match S with | .int y :: .long x :: r => some (t, L, .long (f x y) :: r) | _ => none
def own_u64 (f : Int64 → Value) (t : Nat) (L : List Slot) (S : List Value) : Option OFr := match S with | .long x :: r => some (t, L, f x :: r) | _ => none
def own_br (b : Bool) (t pc : Nat) (L : List Slot) (S : List Value) : Option OFr := match b with | true => some (t, L, S) | false => some (pc + 3, L, S)
def own_jmp (pc : Nat) (o : Int) : Option Nat := if 0 ≤ (pc : Int) + o then some ((pc : Int) + o).toNat else none
def own_pure (i : Instr) (t pc : Nat) (L : List Slot) (S : List Value) : Option OFr :=
  match i with
  | .iload k => own_ldI k t L S
  | .iload_n k => own_ldI k.val t L S
  | .lload k => own_ldJ k t L S
  | .lload_n k => own_ldJ k.val t L S
  | .aload k => own_ldA k t L S
  | .aload_n k => own_ldA k.val t L S
  | .istore k => own_stI k t L S
  | .istore_n k => own_stI k.val t L S
  | .lstore k => own_stJ k t L S
  | .lstore_n k => own_stJ k.val t L S
  | .astore k => own_stA k t L S
  | .astore_n k => own_stA k.val t L S
  | .iconst z => some (t, L, .int (Int32.ofInt z) :: S)
  | .bipush z => some (t, L, .int (Int8.ofInt z).toInt32 :: S)
  | .sipush z => some (t, L, .int (Int16.ofInt z).toInt32 :: S)
  | .lconst k => some (t, L, .long (Int64.ofNat k) :: S)
  | .aconst_null => some (t, L, .null :: S)
  | .iadd => own_b32 (fun x y => x + y) t L S
  | .isub => own_b32 (fun x y => x - y) t L S
  | .imul => own_b32 (fun x y => x * y) t L S
  | .iand => own_b32 (fun x y => x &&& y) t L S
  | .ior => own_b32 (fun x y => x ||| y) t L S
  | .ixor => own_b32 (fun x y => x ^^^ y) t L S
  | .ishl => own_b32 (fun x y => x <<< (y &&& 31)) t L S
  | .ishr => own_b32 (fun x y => x >>> (y &&& 31)) t L S
  | .iushr => own_b32 (fun x y => (x.toUInt32 >>> (y &&& 31).toUInt32).toInt32) t L S
  | .idiv => own_d32 (fun x y => x / y) t L S
  | .irem => own_d32 (fun x y => x % y) t L S
  | .ineg => own_u32 (fun x => .int (-x)) t L S
  | .i2l => own_u32 (fun x => .long x.toInt64) t L S
  | .i2b => own_u32 (fun x => .int x.toInt8.toInt32) t L S
  | .i2c => own_u32 (fun x => .int x.toUInt32.toUInt16.toUInt32.toInt32) t L S
  | .i2s => own_u32 (fun x => .int x.toInt16.toInt32) t L S
  | .ladd => own_b64 (fun x y => .long (x + y)) t L S
  | .lsub => own_b64 (fun x y => .long (x - y)) t L S
  | .lmul => own_b64 (fun x y => .long (x * y)) t L S
  | .land => own_b64 (fun x y => .long (x &&& y)) t L S
  | .lor => own_b64 (fun x y => .long (x ||| y)) t L S
  | .lxor => own_b64 (fun x y => .long (x ^^^ y)) t L S
  | .lcmp => own_b64 (fun x y => .int (lcmpW x y)) t L S
  | .ldiv => own_d64 (fun x y => x / y) t L S
  | .lrem => own_d64 (fun x y => x - (x / y) * y) t L S
  | .lshl => own_s64 (fun x y => x <<< (y &&& 0x3f).toInt64) t L S
  | .lshr => own_s64 (fun x y => x >>> (y &&& 0x3f).toInt64) t L S
  | .lushr => own_s64 (fun x y => (x.toUInt64 >>> (y &&& 0x3f).toInt64.toUInt64).toInt64) t L S
  | .lneg => own_u64 (fun x => .long (-x)) t L S
  | .l2i => own_u64 (fun x => .int x.toInt32) t L S
  | .iinc k c => (match L[k]? with | some (.val (.int x)) => (match own_sto L k (.int (x + Int32.ofInt c)) with | some M => some (t, M, S) | none => none) | _ => none)
  | .dup => (match S with | v :: r => (if v.category = 1 then some (t, L, v :: v :: r) else none) | _ => none)
  | .pop => (match S with | v :: r => (if v.category = 1 then some (t, L, r) else none) | _ => none)
  | .dup_x1 => (match S with | v :: w :: r => (if v.category = 1 ∧ w.category = 1 then some (t, L, v :: w :: v :: r) else none) | _ => none)
  | .dup_x2 => (match S with | v :: w :: u :: r => (if v.category = 1 ∧ w.category = 1 ∧ u.category = 1 then some (t, L, v :: w :: u :: v :: r) else none) | _ => none)
  | .dup2 => (match S with | .long v :: r => some (t, L, .long v :: .long v :: r) | v :: w :: r => (if v.category = 1 ∧ w.category = 1 then some (t, L, v :: w :: v :: w :: r) else none) | _ => none)
  | .goto _ => some (t, L, S)
  | .ifCond cd _ => (match S with | .int x :: r => own_br (ifCond.holds cd x) t pc L r | _ => none)
  | .if_icmp cd _ => (match S with | .int y :: .int x :: r => own_br (if_icmp.holds cd x y) t pc L r | _ => none)
  | .ifnull _ => (match S with | .null :: r => some (t, L, r) | .ref _ :: r => some (pc + 3, L, r) | _ => none)
  | .ifnonnull _ => (match S with | .null :: r => some (pc + 3, L, r) | .ref _ :: r => some (t, L, r) | _ => none)
  | .lookupswitch df ps => (match S with | .int x :: r => (match own_jmp pc (lookupswitch.offset ps.toList df x.toInt) with | some q => some (q, L, r) | none => none) | _ => none)
  | _ => none
/-! ### rows and entries -/
def own_row : List ORow → Nat → Option (Instr × Nat)
  | [], _ => none
  | (k, i, t) :: r, pc => if k = pc then some (i, t) else own_row r pc
def own_at (q : OMth) (pc : Nat) : Option (Instr × Nat) := match q.cd[pc / 16]? with | some r => own_row r pc | none => none
def own_ent : List (Nat × OEnt) → Nat → Option OEnt
  | [], _ => none
  | (k, e) :: r, i => if k = i then some e else own_ent r i
/-! ### steps that read or write the heap -/
abbrev OSt := Nat × List Slot × List Value × OHeap
def own_nar (ty : FieldType) (v : Value) : Option Value :=
  match ty, v with
  | .int, .int x => some (.int x)
  | .long, .long x => some (.long x)
  | .boolean, .int x => some (.int (x &&& 1))
  | .byte, .int x => some (.int x.toInt8.toInt32)
  | .char, .int x => some (.int x.toUInt32.toUInt16.toUInt32.toInt32)
  | .short, .int x => some (.int x.toInt16.toInt32)
  | .object _, .ref a => some (.ref a)
  | .object _, .null => some .null
  | .array _, .ref a => some (.ref a)
  | .array _, .null => some .null
  | _, _ => none
def own_prim : FieldType → Bool
  | .object _ | .array _ | .float | .double => false
  | _ => true
def own_ix (j : Int32) : Option Nat := if j < 0 then none else some j.toNatClampNeg
def own_arr (H : OHeap) (a : Nat) (ty : FieldType) : Option (List Value) := match H[a]? with | some (.inr ty', vs) => (if ty' = ty then some vs else none) | _ => none
def own_obj (H : OHeap) (a k : Nat) : Option (List Value) := match H[a]? with | some (.inl k', vs) => (if k' = k then some vs else none) | _ => none
def own_ald (ty : FieldType) (t : Nat) (L : List Slot) (S : List Value) (H : OHeap) : Option OSt :=
  match S with
  | .int j :: .ref a :: r => (match own_arr H a ty with
    | some vs => (match own_ix j with
      | some q => (match vs[q]? with
        | some v => some (t, L, v :: r, H)
        | none => none)
      | none => none)
    | none => none)
  | _ => none
def own_ast (ty : FieldType) (t : Nat) (L : List Slot) (S : List Value) (H : OHeap) : Option OSt :=
  match S with
  | v :: .int j :: .ref a :: r => (match own_arr H a ty with
    | some vs => (match own_ix j with
      | some q => (if q < vs.length then (match own_nar ty v with
        | some w => some (t, L, r, H.set a (.inr ty, vs.set q w))
        | none => none) else none)
      | none => none)
    | none => none)
  | _ => none
def own_heap (P : OPrg) (mt : OMth) (d lo : Nat) (i : Instr) (t : Nat) (L : List Slot) (S : List Value) (H : OHeap) : Option OSt :=
  match i with
  | .getfield x => (match own_ent mt.en x with
    | some (6, k, j, _) => (match S with
      | .ref a :: r => (match own_obj H a k with
        | some vs => (match vs[j]? with
          | some v => some (t, L, v :: r, H)
          | none => none)
        | none => none)
      | _ => none)
    | _ => none)
  | .putfield x => (match own_ent mt.en x with
    | some (6, k, j, 1) => (match S with
      | v :: .ref a :: r => (match own_obj H a k with
        | some vs => (match P.2.1[k]? with
          | some c => (match c.2.2[j]? with
            | some f => (match own_nar f.2.2.2 v with
              | some w => some (t, L, r, H.set a (.inl k, vs.set j w))
              | none => none)
            | none => none)
          | none => none)
        | none => none)
      | _ => none)
    | _ => none)
  | .new x => (match own_ent mt.en x with
    | some (7, k, _, _) => (match P.2.1[k]? with
      | some c => some (t, L, .ref H.length :: S, H ++ [(.inl k, c.2.2.map fun f => defaultValue f.2.2.2)])
      | none => none)
    | _ => none)
  | .newarray ty => (match S with
    | .int n :: r => (match own_ix n with
      | some q => (if newarray.typeOf ty ∈ P.2.2 ∧ q * 8 ≤ 536870912 then some (t, L, .ref H.length :: r, H ++ [(.inr (newarray.typeOf ty), List.replicate q (defaultValue (newarray.typeOf ty)))]) else none)
      | none => none)
    | _ => none)
  | .arraylength => (match S with
    | .ref a :: r => (match H[a]? with
      | some (.inr _, vs) => some (t, L, .int vs.length.toInt32 :: r, H)
      | _ => none)
    | _ => none)
  | .iaload => own_ald .int t L S H
  | .laload => own_ald .long t L S H
  | .caload => own_ald .char t L S H
  | .baload => own_ald .byte t L S H
  | .iastore => own_ast .int t L S H
  | .lastore => own_ast .long t L S H
  | .castore => own_ast .char t L S H
  | .bastore => own_ast .byte t L S H
  | .ldc x => (match own_ent mt.en x with
    | some (8, _, _, v) => some (t, L, .int (Int32.ofInt v) :: S, H)
    | _ => none)
  | .ldc_w x => (match own_ent mt.en x with
    | some (8, _, _, v) => some (t, L, .int (Int32.ofInt v) :: S, H)
    | _ => none)
  | .ldc2_w x => (match own_ent mt.en x with
    | some (9, _, _, v) => some (t, L, .long (Int64.ofInt v) :: S, H)
    | _ => none)
  | .checkcast x => (match own_ent mt.en x with
    | some (12, _, _, _) => (match S with
      | .ref a :: r => (match own_arr H a .int with
        | some _ => some (t, L, .ref a :: r, H)
        | none => none)
      | _ => none)
    | _ => none)
  | .invokespecial x => (match own_ent mt.en x with
    | some (2, _, _, _) => (match S with
      | .ref _ :: r => (if 1 ≤ d ∧ own_wt r + 12 ≤ lo then some (t, L, r, H) else none)
      | _ => none)
    | _ => none)
  | .invokestatic x => (match own_ent mt.en x with
    | some (10, _, _, _) => (match S with
      | .int nn :: .int dp :: .ref b :: .int sp :: .ref a :: r => (match own_arr H a .int with
        | some vs => (match own_arr H b .int with
          | some vd => (match own_ix nn with
            | some n => (match own_ix dp with
              | some q => (match own_ix sp with
                | some p => (if (1 ≤ d ∧ own_wt r + (nativeFrameWords "java/lang/System" "arraycopy" 5 + 11) ≤ lo) ∧ p + n ≤ vs.length ∧ q + n ≤ vd.length then
                    some (t, L, r, H.set b (.inr .int, vd.take q ++ (vs.drop p).take n ++ vd.drop (q + n))) else none)
                | none => none)
              | none => none)
            | none => none)
          | none => none)
        | none => none)
      | _ => none)
    | _ => none)
  | .invokevirtual x => (match own_ent mt.en x with
    | some (11, _, _, _) => (match S with
      | .ref a :: r => (match own_arr H a .int with
        | some vs => (if 1 ≤ d ∧ own_wt r + 14 ≤ lo then some (t, L, .ref H.length :: r, H ++ [(.inr .int, vs)]) else none)
        | none => none)
      | _ => none)
    | _ => none)
  | _ => none
def own_step (P : OPrg) (mt : OMth) (d lo : Nat) (i : Instr) (t pc : Nat) (L : List Slot) (S : List Value) (H : OHeap) : Option OSt :=
  match own_pure i t pc L S with
  | some (pc', L', S') => some (pc', L', S', H)
  | none => own_heap P mt d lo i t L S H
/-! ### returns, calls, the run -/
def own_ret (mt : OMth) (i : Instr) (S : List Value) : Option (Option Value) :=
  match i with
  | .return_ => (match mt.rt, S with
    | none, [] => some none
    | _, _ => none)
  | .ireturn => (match mt.rt, S with
    | some .int, .int z :: _ => some (some (.int z))
    | some .boolean, .int z :: _ => some (some (.int (z &&& 1)))
    | some .byte, .int z :: _ => some (some (.int z.toInt8.toInt32))
    | some .char, .int z :: _ => some (some (.int z.toUInt32.toUInt16.toUInt32.toInt32))
    | some .short, .int z :: _ => some (some (.int z.toInt16.toInt32))
    | _, _ => none)
  | .lreturn => (match mt.rt, S with
    | some .long, .long z :: _ => some (some (.long z))
    | _, _ => none)
  | .areturn => (match mt.rt, S with
    | some (.array _), .ref a :: _ => some (some (.ref a))
    | some (.array _), .null :: _ => some (some .null)
    | some (.object _), .ref a :: _ => some (some (.ref a))
    | some (.object _), .null :: _ => some (some .null)
    | _, _ => none)
  | _ => none
def own_split : Nat → List Value → List Value → Option (List Value × List Value)
  | 0, S, acc => some (acc, S)
  | n + 1, v :: S, acc => own_split n S (v :: acc)
  | _ + 1, [], _ => none
/-- the callee's number, its arguments in order, what lies under them -/
def own_call (P : OPrg) (mt : OMth) (i : Instr) (S : List Value) (H : OHeap) : Option (Nat × List Value × List Value) :=
  match i with
  | .invokestatic x => (match own_ent mt.en x with
    | some (0, j, _, _) => (match P.1[j]? with
      | some mj => (match own_split mj.na S [] with
        | some (as, r) => some (j, as, r)
        | none => none)
      | none => none)
    | _ => none)
  | .invokespecial x => (match own_ent mt.en x with
    | some (1, j, _, _) => (match P.1[j]? with
      | some mj => (match own_split mj.na S [] with
        | some (.ref a :: as, r) => some (j, .ref a :: as, r)
        | _ => none)
      | none => none)
    | some (5, j, k, _) => (match P.1[j]? with
      | some mj => (match own_split mj.na S [] with
        | some (.ref a :: as, r) => (match own_obj H a k with
          | some _ => some (j, .ref a :: as, r)
          | none => none)
        | _ => none)
      | none => none)
    | _ => none)
  | .invokevirtual x => (match own_ent mt.en x with
    | some (3, j, k, _) => (match P.1[j]? with
      | some mj => (match own_split mj.na S [] with
        | some (.ref a :: as, r) => (match own_obj H a k with
          | some _ => some (j, .ref a :: as, r)
          | none => none)
        | _ => none)
      | none => none)
    | some (4, j, k, _) => (match P.1[j]? with
      | some mj => (match own_split mj.na S [] with
        | some (.ref a :: as, r) => (match own_obj H a k with
          | some _ => some (j, .ref a :: as, r)
          | none => none)
        | _ => none)
      | none => none)
    | some (13, j, k, _) => (match P.1[j]? with
      | some mj => (match own_split mj.na S [] with
        | some (.ref a :: as, r) => (match own_obj H a k with
          | some _ => some (j, .ref a :: as, r)
          | none => none)
        | _ => none)
      | none => none)
    | _ => none)
  | _ => none
def own_exec (P : OPrg) : Nat → Nat → Nat → Nat → Nat → List Slot → List Value → OHeap → Option (Option Value × OHeap)
  | 0, _, _, _, _, _, _, _ => none
  | q + 1, i, d, lo, pc, L, S, H =>
    match P.1[i]? with
    | none => none
    | some mt =>
      match own_at mt pc with
      | none => none
      | some (ins, t) =>
        match own_ret mt ins S with
        | some v => some (v, H)
        | none =>
          match own_call P mt ins S H with
          | some (j, as, r) =>
            (match P.1[j]? with
            | none => none
            | some mj =>
              if 1 ≤ d ∧ own_wt r + (mj.ml + 11) ≤ lo ∧ (own_entry as mj.ml).length = mj.ml then
                (match own_exec P q j (d - 1) (lo - (own_wt r + (mj.ml + 11))) 0 (own_entry as mj.ml) [] H with
                | some (v, H') => own_exec P q i d lo t L (v.toList ++ r) H'
                | none => none)
              else none)
          | none =>
            match own_step P mt d lo ins t pc L S H with
            | some (pc', L', S', H') => own_exec P q i d lo pc' L' S' H'
            | none => none
/-! ## WHAT THE LITTLE MACHINE's RUN SAYS OF THE MODEL's -/
theorem own_cat {n : Nat} (v : Value) : (own_sh n v).category = v.category := by cases v <;> rfl
theorem own_get {n : Nat} {L : List Slot} {k : Nat} {x : Slot} (h : L[k]? = some x) : ((L.map (own_shS n)).toArray)[k]? = some (own_shS n x) := by simp [h]
theorem own_set_ok {n : Nat} {L M : List Slot} {i : Nat} {x : Slot} (h : own_set L i x = some M) : setAt (L.map (own_shS n)).toArray i (own_shS n x) = some (M.map (own_shS n)).toArray := by
  unfold own_set at h
  split at h
  · cases h; simp [setAt, List.map_set, *]
  · cases h
theorem own_set_len {L M : List Slot} {i : Nat} {x : Slot} (h : own_set L i x = some M) : M.length = L.length := by
  unfold own_set at h
  split at h
  · cases h; simp
  · cases h
theorem own_self_ok {n : Nat} {L M : List Slot} {i : Nat} {v : Value} (h : own_self L i v = some M) : storeSelf (L.map (own_shS n)).toArray i (own_sh n v) = some (M.map (own_shS n)).toArray ∧ M.length = L.length := by
  unfold own_self at h
  split at h
  · cases h
  · rename_i A hA
    have e1 := own_set_ok (n := n) hA
    have l1 := own_set_len hA
    simp only [own_shS] at e1
    simp only [storeSelf, Option.bind_eq_bind, e1, Option.bind_some, own_cat]
    split at h
    · rename_i hc
      simp only [hc, if_true]
      split at h
      · cases h
      · rename_i o ho
        have g1 := own_get (n := n) ho
        simp only [own_shS] at g1
        simp only [g1, Option.bind_some, own_cat]
        split at h
        · rename_i hc2
          simp only [hc2, if_true]
          split at h
          · cases h
          · rename_i B hB
            have e2 := own_set_ok (n := n) hB
            have e3 := own_set_ok (n := n) h
            simp only [own_shS] at e2 e3
            simp only [e2, Option.bind_some, e3]
            exact ⟨trivial, by rw [own_set_len h, own_set_len hB, l1]⟩
        · rename_i hc2
          have e3 := own_set_ok (n := n) h
          simp only [own_shS] at e3
          simp only [hc2, if_false, e3]
          exact ⟨trivial, by rw [own_set_len h, l1]⟩
      · rename_i o hno ho
        have g1 := own_get (n := n) ho
        have e3 := own_set_ok (n := n) h
        cases o with
        | val w => exact absurd rfl (hno w)
        | unset => simp only [own_shS] at g1 e3; simp only [g1, Option.bind_some, e3]; exact ⟨trivial, by rw [own_set_len h, l1]⟩
        | second => simp only [own_shS] at g1 e3; simp only [g1, Option.bind_some, e3]; exact ⟨trivial, by rw [own_set_len h, l1]⟩
    · rename_i hc
      cases h
      simp only [hc, if_false]
      exact ⟨trivial, l1⟩
theorem own_sto_ok {n : Nat} {L M : List Slot} {i : Nat} {v : Value} (h : own_sto L i v = some M) : storeLocals (L.map (own_shS n)).toArray i (own_sh n v) = some (M.map (own_shS n)).toArray ∧ M.length = L.length := by
  unfold own_sto at h
  split at h
  · cases h
  · rename_i ho
    have g1 := own_get (n := n) ho
    simp only [own_shS] at g1
    split at h
    · cases h
    · rename_i A hA
      have e1 := own_set_ok (n := n) hA
      simp only [own_shS] at e1
      have e2 := own_self_ok (n := n) h
      simp only [storeLocals, Option.bind_eq_bind, g1, Option.bind_some, e1, e2.1]
      exact ⟨trivial, by rw [e2.2, own_set_len hA]⟩
  · rename_i o ho
    have g1 := own_get (n := n) ho
    simp only [own_shS] at g1
    split at h
    · rename_i hc
      split at h
      · cases h
      · rename_i A hA
        have e1 := own_set_ok (n := n) hA
        simp only [own_shS] at e1
        have e2 := own_self_ok (n := n) h
        simp only [storeLocals, Option.bind_eq_bind, g1, Option.bind_some, own_cat, hc, if_true, e1, e2.1]
        exact ⟨trivial, by rw [e2.2, own_set_len hA]⟩
    · rename_i hc
      have e2 := own_self_ok (n := n) h
      simp only [storeLocals, Option.bind_eq_bind, g1, Option.bind_some, own_cat, hc, if_false, e2.1]
      exact ⟨trivial, e2.2⟩
  · rename_i ho
    have g1 := own_get (n := n) ho
    simp only [own_shS] at g1
    have e2 := own_self_ok (n := n) h
    simp only [storeLocals, Option.bind_eq_bind, g1, Option.bind_some, e2.1]
    exact ⟨trivial, e2.2⟩
/-! ### decoded rows -/
def own_tgt (pc len t : Nat) (i : Instr) : Bool :=
  match i with
  | .goto o | .ifCond _ o | .if_icmp _ o | .ifnull o | .ifnonnull o => len == 3 && (decide (0 ≤ (pc : Int) + o) && ((pc : Int) + o).toNat == t)
  | .lookupswitch _ ps => (ps.toList.zip ps.toList.tail).all fun q => decide (q.1.1 < q.2.1)
  | j => len == own_ilen j && t == pc + own_ilen j
def own_okI (b : ByteArray) (x : ORow) : Bool :=
  match decode b x.1 with
  | .ok (i, len) => decide (i = x.2.1) && own_tgt x.1 len x.2.2 i
  | _ => false
theorem own_okI_spec {b : ByteArray} {pc t : Nat} {i : Instr} (h : own_okI b (pc, i, t) = true) : ∃ len, decode b pc = .ok (i, len) ∧ own_tgt pc len t i = true := by
  unfold own_okI at h
  split at h
  · rename_i j len hd
    simp only [Bool.and_eq_true, decide_eq_true_eq] at h
    obtain ⟨rfl, h2⟩ := h
    exact ⟨len, hd, h2⟩
  · cases h
theorem own_row_mem : ∀ {r : List ORow} {pc : Nat} {i : Instr} {t : Nat}, own_row r pc = some (i, t) → (pc, i, t) ∈ r
  | [], _, _, _, h => by cases h
  | (k, i', t') :: r, pc, i, t, h => by
    simp only [own_row] at h
    split at h
    · rename_i e; subst e; cases h; exact List.mem_cons_self ..
    · exact List.mem_cons_of_mem _ (own_row_mem h)
theorem own_at_ok {mt : OMth} (hc : ∀ r ∈ mt.cd, ∀ x ∈ r, own_okI mt.bs x = true) {pc t : Nat} {i : Instr} (h : own_at mt pc = some (i, t)) : ∃ len, decode mt.bs pc = .ok (i, len) ∧ own_tgt pc len t i = true := by
  unfold own_at at h
  split at h
  · rename_i r hr
    exact own_okI_spec (hc r (List.mem_of_getElem? hr) _ (own_row_mem h))
  · cases h
theorem own_t {a b len t : Nat} (h : (len == a && t == b) = true) : len = a ∧ t = b := by simpa using h
theorem own_tj {len t pc : Nat} {o : Int} (h : (len == 3 && (decide (0 ≤ (pc : Int) + o) && ((pc : Int) + o).toNat == t)) = true) : len = 3 ∧ 0 ≤ (pc : Int) + o ∧ ((pc : Int) + o).toNat = t := by simpa using h
/-! ### the frame's steps -/
section OwnPure
variable {p : Program} {e : Env} {m : MethodId} {below : List Frame} {c : Code} {T target : State} {n pc t : Nat} {L L' : List Slot} {S S' : List Value} {pc' len : Nat}
theorem own_dupx2 {g : JFrame} (h : At T m c below) (hx : p.tables.exec = Jvm.exec) (hg : g.method = m) {x y z : Value} {rest : List Value} (hd : decode c.code g.pc = .ok (.dup_x2, 1)) (hs : g.stack = x :: y :: z :: rest) (hc : x.category = 1) (hc' : y.category = 1) (hc2 : z.category = 1)
    (hr : Steps p.tables e below (T.setTop { g with pc := g.pc + 1, stack := x :: y :: z :: x :: rest }) target) : Steps p.tables e below (T.setTop g) target := by
  subst hg
  jvm_step h [h.top, hx, hd, hs, hc, hc', hc2]
  exact hr
theorem own_lsw {g : JFrame} (h : At T m c below) (hx : p.tables.exec = Jvm.exec) (hg : g.method = m) {df : Int} {ps : Array (Int × Int)} {pc0 pc1 : Nat} (hinc : ∀ a b a' b' : Int, ((a, b), a', b') ∈ ps.toList.zip ps.toList.tail → a < a') (hpc : g.pc = pc0) (hd : decode c.code g.pc = .ok (.lookupswitch df ps, len)) {i : Int32} {rest : List Value} (hs : g.stack = .int i :: rest)
    (ho : 0 ≤ (pc0 : Int) + lookupswitch.offset ps.toList df i.toInt) (hp : ((pc0 : Int) + lookupswitch.offset ps.toList df i.toInt).toNat = pc1)
    (hr : Steps p.tables e below (T.setTop { g with pc := pc1, stack := rest }) target) : Steps p.tables e below (T.setTop g) target := by
  subst hg hpc hp
  jvm_step h [h.top, hx, hd, hs, ho, lookupswitch.wp_chain]
  exact ⟨hinc, hr⟩
set_option maxHeartbeats 4000000 in
theorem own_pure_ok {i : Instr} (h : At T m c below) (hx : p.tables.exec = Jvm.exec) (hd : decode c.code pc = .ok (i, len)) (ht : own_tgt pc len t i = true) (e1 : own_pure i t pc L S = some (pc', L', S'))
    (hr : Steps p.tables e below (T.setTop (own_fr n m pc' L' S')) target) : Steps p.tables e below (T.setTop (own_fr n m pc L S)) target ∧ L'.length = L.length := by
  cases i with
  | iload k =>
    obtain ⟨rfl, rfl⟩ := own_t ht
    simp only [own_pure, own_ldI] at e1
    split at e1 <;> cases e1
    rename_i v hv
    exact ⟨XS.iload h hx rfl hd (own_get hv) hr, rfl⟩
  | iload_n k =>
    obtain ⟨rfl, rfl⟩ := own_t ht
    simp only [own_pure, own_ldI] at e1
    split at e1 <;> cases e1
    rename_i v hv
    exact ⟨XS.iloadN h hx rfl hd (own_get hv) hr, rfl⟩
  | lload k =>
    obtain ⟨rfl, rfl⟩ := own_t ht
    simp only [own_pure, own_ldJ] at e1
    split at e1 <;> cases e1
    rename_i v hv
    exact ⟨XS.lload h hx rfl hd (own_get hv) hr, rfl⟩
  | lload_n k =>
    obtain ⟨rfl, rfl⟩ := own_t ht
    simp only [own_pure, own_ldJ] at e1
    split at e1 <;> cases e1
    rename_i v hv
    exact ⟨XS.lloadN h hx rfl hd (own_get hv) hr, rfl⟩
  | aload k =>
    obtain ⟨rfl, rfl⟩ := own_t ht
    simp only [own_pure, own_ldA] at e1
    split at e1 <;> cases e1
    · rename_i v hv
      exact ⟨XS.aload h hx rfl hd (own_get hv) rfl hr, rfl⟩
    · rename_i hv
      exact ⟨XS.aload h hx rfl hd (own_get hv) rfl hr, rfl⟩
  | aload_n k =>
    obtain ⟨rfl, rfl⟩ := own_t ht
    simp only [own_pure, own_ldA] at e1
    split at e1 <;> cases e1
    · rename_i v hv
      exact ⟨XS.aloadN h hx rfl hd (own_get hv) rfl hr, rfl⟩
    · rename_i hv
      exact ⟨XS.aloadN h hx rfl hd (own_get hv) rfl hr, rfl⟩
  | istore k =>
    obtain ⟨rfl, rfl⟩ := own_t ht
    simp only [own_pure, own_stI] at e1
    split at e1 <;> try cases e1
    split at e1 <;> cases e1
    rename_i hv
    exact ⟨XS.istore h hx rfl hd rfl (own_sto_ok (n := n) hv).1 hr, (own_sto_ok (n := n) hv).2⟩
  | istore_n k =>
    obtain ⟨rfl, rfl⟩ := own_t ht
    simp only [own_pure, own_stI] at e1
    split at e1 <;> try cases e1
    split at e1 <;> cases e1
    rename_i hv
    exact ⟨XS.istoreN h hx rfl hd rfl (own_sto_ok (n := n) hv).1 hr, (own_sto_ok (n := n) hv).2⟩
  | lstore k =>
    obtain ⟨rfl, rfl⟩ := own_t ht
    simp only [own_pure, own_stJ] at e1
    split at e1 <;> try cases e1
    split at e1 <;> cases e1
    rename_i hv
    exact ⟨XS.lstore h hx rfl hd rfl (own_sto_ok (n := n) hv).1 hr, (own_sto_ok (n := n) hv).2⟩
  | lstore_n k =>
    obtain ⟨rfl, rfl⟩ := own_t ht
    simp only [own_pure, own_stJ] at e1
    split at e1 <;> try cases e1
    split at e1 <;> cases e1
    rename_i hv
    exact ⟨XS.lstoreN h hx rfl hd rfl (own_sto_ok (n := n) hv).1 hr, (own_sto_ok (n := n) hv).2⟩
  | astore k =>
    obtain ⟨rfl, rfl⟩ := own_t ht
    simp only [own_pure, own_stA] at e1
    split at e1 <;> try cases e1
    · split at e1 <;> cases e1
      rename_i hv
      exact ⟨XS.astore h hx rfl hd rfl rfl (own_sto_ok (n := n) hv).1 hr, (own_sto_ok (n := n) hv).2⟩
    · split at e1 <;> cases e1
      rename_i hv
      exact ⟨XS.astore h hx rfl hd rfl rfl (own_sto_ok (n := n) hv).1 hr, (own_sto_ok (n := n) hv).2⟩
  | astore_n k =>
    obtain ⟨rfl, rfl⟩ := own_t ht
    simp only [own_pure, own_stA] at e1
    split at e1 <;> try cases e1
    · split at e1 <;> cases e1
      rename_i hv
      exact ⟨XS.astoreN h hx rfl hd rfl rfl (own_sto_ok (n := n) hv).1 hr, (own_sto_ok (n := n) hv).2⟩
    · split at e1 <;> cases e1
      rename_i hv
      exact ⟨XS.astoreN h hx rfl hd rfl rfl (own_sto_ok (n := n) hv).1 hr, (own_sto_ok (n := n) hv).2⟩
  | iconst z => obtain ⟨rfl, rfl⟩ := own_t ht; cases e1; exact ⟨XS.iconst h hx rfl hd hr, rfl⟩
  | bipush z => obtain ⟨rfl, rfl⟩ := own_t ht; cases e1; exact ⟨XS.bipush h hx rfl hd hr, rfl⟩
  | sipush z => obtain ⟨rfl, rfl⟩ := own_t ht; cases e1; exact ⟨XS.sipush h hx rfl hd hr, rfl⟩
  | lconst z => obtain ⟨rfl, rfl⟩ := own_t ht; cases e1; exact ⟨XS.lconst h hx rfl hd hr, rfl⟩
  | aconst_null => obtain ⟨rfl, rfl⟩ := own_t ht; cases e1; exact ⟨XS.aconstNull h hx rfl hd hr, rfl⟩
  | iadd =>
    obtain ⟨rfl, rfl⟩ := own_t ht
    simp only [own_pure, own_b32] at e1
    split at e1 <;> cases e1
    exact ⟨XS.iadd h hx rfl hd rfl hr, rfl⟩
  | isub =>
    obtain ⟨rfl, rfl⟩ := own_t ht
    simp only [own_pure, own_b32] at e1
    split at e1 <;> cases e1
    exact ⟨XS.isub h hx rfl hd rfl hr, rfl⟩
  | imul =>
    obtain ⟨rfl, rfl⟩ := own_t ht
    simp only [own_pure, own_b32] at e1
    split at e1 <;> cases e1
    exact ⟨XS.imul h hx rfl hd rfl hr, rfl⟩
  | iand =>
    obtain ⟨rfl, rfl⟩ := own_t ht
    simp only [own_pure, own_b32] at e1
    split at e1 <;> cases e1
    exact ⟨XS.iand h hx rfl hd rfl hr, rfl⟩
  | ior =>
    obtain ⟨rfl, rfl⟩ := own_t ht
    simp only [own_pure, own_b32] at e1
    split at e1 <;> cases e1
    exact ⟨XS.ior h hx rfl hd rfl hr, rfl⟩
  | ixor =>
    obtain ⟨rfl, rfl⟩ := own_t ht
    simp only [own_pure, own_b32] at e1
    split at e1 <;> cases e1
    exact ⟨XS.ixor h hx rfl hd rfl hr, rfl⟩
  | ishl =>
    obtain ⟨rfl, rfl⟩ := own_t ht
    simp only [own_pure, own_b32] at e1
    split at e1 <;> cases e1
    exact ⟨XS.ishl h hx rfl hd rfl hr, rfl⟩
  | ishr =>
    obtain ⟨rfl, rfl⟩ := own_t ht
    simp only [own_pure, own_b32] at e1
    split at e1 <;> cases e1
    exact ⟨XS.ishr h hx rfl hd rfl hr, rfl⟩
  | iushr =>
    obtain ⟨rfl, rfl⟩ := own_t ht
    simp only [own_pure, own_b32] at e1
    split at e1 <;> cases e1
    exact ⟨XS.iushr h hx rfl hd rfl hr, rfl⟩
  | idiv =>
    obtain ⟨rfl, rfl⟩ := own_t ht
    simp only [own_pure, own_d32] at e1
    split at e1 <;> try cases e1
    split at e1 <;> cases e1
    rename_i hy
    exact ⟨XS.idiv h hx rfl hd rfl hy hr, rfl⟩
  | irem =>
    obtain ⟨rfl, rfl⟩ := own_t ht
    simp only [own_pure, own_d32] at e1
    split at e1 <;> try cases e1
    split at e1 <;> cases e1
    rename_i hy
    exact ⟨XS.irem h hx rfl hd rfl hy (by rw [irem_eq_mod]; exact hr), rfl⟩
  | ineg =>
    obtain ⟨rfl, rfl⟩ := own_t ht
    simp only [own_pure, own_u32] at e1
    split at e1 <;> cases e1
    exact ⟨XS.ineg h hx rfl hd rfl hr, rfl⟩
  | i2l =>
    obtain ⟨rfl, rfl⟩ := own_t ht
    simp only [own_pure, own_u32] at e1
    split at e1 <;> cases e1
    exact ⟨XS.i2l h hx rfl hd rfl hr, rfl⟩
  | i2b =>
    obtain ⟨rfl, rfl⟩ := own_t ht
    simp only [own_pure, own_u32] at e1
    split at e1 <;> cases e1
    exact ⟨XS.i2b h hx rfl hd rfl hr, rfl⟩
  | i2c =>
    obtain ⟨rfl, rfl⟩ := own_t ht
    simp only [own_pure, own_u32] at e1
    split at e1 <;> cases e1
    exact ⟨XS.i2c h hx rfl hd rfl hr, rfl⟩
  | i2s =>
    obtain ⟨rfl, rfl⟩ := own_t ht
    simp only [own_pure, own_u32] at e1
    split at e1 <;> cases e1
    exact ⟨XS.i2s h hx rfl hd rfl hr, rfl⟩
  | ladd =>
    obtain ⟨rfl, rfl⟩ := own_t ht
    simp only [own_pure, own_b64] at e1
    split at e1 <;> cases e1
    exact ⟨XS.ladd h hx rfl hd rfl hr, rfl⟩
  | lsub =>
    obtain ⟨rfl, rfl⟩ := own_t ht
    simp only [own_pure, own_b64] at e1
    split at e1 <;> cases e1
    exact ⟨XS.lsub h hx rfl hd rfl hr, rfl⟩
  | lmul =>
    obtain ⟨rfl, rfl⟩ := own_t ht
    simp only [own_pure, own_b64] at e1
    split at e1 <;> cases e1
    exact ⟨XS.lmul h hx rfl hd rfl hr, rfl⟩
  | land =>
    obtain ⟨rfl, rfl⟩ := own_t ht
    simp only [own_pure, own_b64] at e1
    split at e1 <;> cases e1
    exact ⟨XS.land h hx rfl hd rfl hr, rfl⟩
  | lor =>
    obtain ⟨rfl, rfl⟩ := own_t ht
    simp only [own_pure, own_b64] at e1
    split at e1 <;> cases e1
    exact ⟨XS.lor h hx rfl hd rfl hr, rfl⟩
  | lxor =>
    obtain ⟨rfl, rfl⟩ := own_t ht
    simp only [own_pure, own_b64] at e1
    split at e1 <;> cases e1
    exact ⟨XS.lxor h hx rfl hd rfl hr, rfl⟩
  | lcmp =>
    obtain ⟨rfl, rfl⟩ := own_t ht
    simp only [own_pure, own_b64] at e1
    split at e1 <;> cases e1
    exact ⟨XS.lcmp h hx rfl hd rfl hr, rfl⟩
  | ldiv =>
    obtain ⟨rfl, rfl⟩ := own_t ht
    simp only [own_pure, own_d64] at e1
    split at e1 <;> try cases e1
    split at e1 <;> cases e1
    rename_i hy
    exact ⟨XS.ldiv h hx rfl hd rfl hy hr, rfl⟩
  | lrem =>
    obtain ⟨rfl, rfl⟩ := own_t ht
    simp only [own_pure, own_d64] at e1
    split at e1 <;> try cases e1
    split at e1 <;> cases e1
    rename_i hy
    exact ⟨XS.lrem h hx rfl hd rfl hy hr, rfl⟩
  | lshl =>
    obtain ⟨rfl, rfl⟩ := own_t ht
    simp only [own_pure, own_s64] at e1
    split at e1 <;> cases e1
    exact ⟨XS.lshl h hx rfl hd rfl hr, rfl⟩
  | lshr =>
    obtain ⟨rfl, rfl⟩ := own_t ht
    simp only [own_pure, own_s64] at e1
    split at e1 <;> cases e1
    exact ⟨XS.lshr h hx rfl hd rfl hr, rfl⟩
  | lushr =>
    obtain ⟨rfl, rfl⟩ := own_t ht
    simp only [own_pure, own_s64] at e1
    split at e1 <;> cases e1
    exact ⟨XS.lushr h hx rfl hd rfl hr, rfl⟩
  | lneg =>
    obtain ⟨rfl, rfl⟩ := own_t ht
    simp only [own_pure, own_u64] at e1
    split at e1 <;> cases e1
    exact ⟨XS.lneg h hx rfl hd rfl hr, rfl⟩
  | l2i =>
    obtain ⟨rfl, rfl⟩ := own_t ht
    simp only [own_pure, own_u64] at e1
    split at e1 <;> cases e1
    exact ⟨XS.l2i h hx rfl hd rfl hr, rfl⟩
  | iinc k z =>
    obtain ⟨rfl, rfl⟩ := own_t ht
    simp only [own_pure] at e1
    split at e1 <;> try cases e1
    rename_i v hv
    split at e1 <;> cases e1
    rename_i hw
    exact ⟨XS.iinc h hx rfl hd (own_get hv) (own_sto_ok (n := n) hw).1 hr, (own_sto_ok (n := n) hw).2⟩
  | dup =>
    obtain ⟨rfl, rfl⟩ := own_t ht
    simp only [own_pure] at e1
    split at e1 <;> try cases e1
    split at e1 <;> cases e1
    rename_i hv
    exact ⟨XS.dup h hx rfl hd rfl (by rw [own_cat]; exact hv) hr, rfl⟩
  | pop =>
    obtain ⟨rfl, rfl⟩ := own_t ht
    simp only [own_pure] at e1
    split at e1 <;> try cases e1
    split at e1 <;> cases e1
    rename_i hv
    exact ⟨XS.pop h hx rfl hd rfl (by rw [own_cat]; exact hv) hr, rfl⟩
  | dup_x1 =>
    obtain ⟨rfl, rfl⟩ := own_t ht
    simp only [own_pure] at e1
    split at e1 <;> try cases e1
    split at e1 <;> cases e1
    rename_i hv
    exact ⟨XS.dupX1 h hx rfl hd rfl (by rw [own_cat]; exact hv.1) (by rw [own_cat]; exact hv.2) hr, rfl⟩
  | dup_x2 =>
    obtain ⟨rfl, rfl⟩ := own_t ht
    simp only [own_pure] at e1
    split at e1 <;> try cases e1
    split at e1 <;> cases e1
    rename_i hv
    exact ⟨own_dupx2 h hx rfl hd rfl (by rw [own_cat]; exact hv.1) (by rw [own_cat]; exact hv.2.1) (by rw [own_cat]; exact hv.2.2) hr, rfl⟩
  | dup2 =>
    obtain ⟨rfl, rfl⟩ := own_t ht
    simp only [own_pure] at e1
    split at e1 <;> try cases e1
    · exact ⟨Jvm.Free.XT.dup2L h hx rfl hd rfl hr, rfl⟩
    · split at e1 <;> cases e1
      rename_i hv
      exact ⟨Jvm.Free.XT.dup2 h hx rfl hd rfl (by rw [own_cat]; exact hv.1) (by rw [own_cat]; exact hv.2) hr, rfl⟩
  | goto o =>
    obtain ⟨rfl, h1, h2⟩ := own_tj ht
    cases e1
    exact ⟨XS.goto h hx rfl (pc0 := pc) rfl hd h1 h2 hr, rfl⟩
  | ifCond cd o =>
    obtain ⟨rfl, h1, h2⟩ := own_tj ht
    simp only [own_pure] at e1
    split at e1 <;> try cases e1
    unfold own_br at e1
    split at e1 <;> cases e1
    · rename_i hb
      exact ⟨XS.ifYes h hx rfl (pc0 := pc) rfl hd rfl hb h1 h2 hr, rfl⟩
    · rename_i hb
      exact ⟨XS.ifNo h hx rfl hd rfl hb hr, rfl⟩
  | if_icmp cd o =>
    obtain ⟨rfl, h1, h2⟩ := own_tj ht
    simp only [own_pure] at e1
    split at e1 <;> try cases e1
    unfold own_br at e1
    split at e1 <;> cases e1
    · rename_i hb
      exact ⟨XS.icmpYes h hx rfl (pc0 := pc) rfl hd rfl hb h1 h2 hr, rfl⟩
    · rename_i hb
      exact ⟨XS.icmpNo h hx rfl hd rfl hb hr, rfl⟩
  | ifnull o =>
    obtain ⟨rfl, h1, h2⟩ := own_tj ht
    simp only [own_pure] at e1
    split at e1 <;> cases e1
    · exact ⟨XS.ifnullYes h hx rfl (pc0 := pc) rfl hd rfl h1 h2 hr, rfl⟩
    · exact ⟨XS.ifnullNo h hx rfl hd rfl hr, rfl⟩
  | ifnonnull o =>
    obtain ⟨rfl, h1, h2⟩ := own_tj ht
    simp only [own_pure] at e1
    split at e1 <;> cases e1
    · exact ⟨XS.ifnonnullNo h hx rfl hd rfl hr, rfl⟩
    · exact ⟨XS.ifnonnullYes h hx rfl (pc0 := pc) rfl hd rfl h1 h2 hr, rfl⟩
  | lookupswitch df ps =>
    simp only [own_pure] at e1
    split at e1 <;> try cases e1
    split at e1 <;> cases e1
    rename_i hj
    unfold own_jmp at hj
    split at hj <;> cases hj
    rename_i h1
    have ht' : ((ps.toList.zip ps.toList.tail).all fun q => decide (q.1.1 < q.2.1)) = true := ht
    exact ⟨own_lsw h hx rfl (pc0 := pc) (fun a b a' b' hm => by simpa using List.all_eq_true.mp ht' _ hm) rfl hd rfl h1 rfl hr, rfl⟩
  | _ => exact nomatch (show (none : Option OFr) = some _ from e1)
end OwnPure
/-! ### the heap -/
def own_cw (K : List OKls) : OCell → Nat
  | (.inl k, _) => (match K[k]? with | some c => c.2.1 | none => 0)
  | (.inr _, vs) => vs.length
def own_w (K : List OKls) (H : OHeap) : Nat := (H.map (own_cw K)).sum
def own_repC (Z : State) (n : Nat) (K : List OKls) (h : Heap) (a : Addr) : OCell → Prop
  | (.inl k, vs) => ∃ c : OKls, K[k]? = some c ∧ Exa Z h a c.1 ∧ vs.length = c.2.2.length ∧ ∀ (j : Nat) (f : OFld) (v : Value), c.2.2[j]? = some f → vs[j]? = some v → Fld Z h a f.1 f.2.1 f.2.2.1 (own_sh n v)
  | (.inr ty, vs) => ∃ cl : Cell, Arr Z h a cl ty ∧ cl.slots = (vs.map (own_sh n)).toArray ∧ vs.length < 2 ^ 31 ∧ Exa Z h a ("[" ++ ty.toString) ∧ own_prim ty = true ∧ ∀ v ∈ vs, fits ty v = true
def own_rep (Z : State) (n : Nat) (K : List OKls) (H : OHeap) (h : Heap) : Prop := h.size = n + H.length ∧ ∀ (i : Nat) (c : OCell), H[i]? = some c → own_repC Z n K h (n + i) c
/-- what the class table says is so -/
def own_okK (Z : State) (a0 : Array Value) (K : List OKls) : Prop := ∀ (k : Nat) (c : OKls), K[k]? = some c → (Jvm.Cond.instantiable c.1 c.2.1).before a0 Z = true ∧ (Jvm.Cond.initialized c.1).before a0 Z = true ∧
  (∀ f ∈ c.2.2, Laid Z a0 c.1 f.1 f.2.1 f.2.2.1 ∧ parseFieldDescriptor f.2.2.1 = some f.2.2.2) ∧ (c.2.2.map fun f => f.2.1).Nodup
theorem own_default (n : Nat) (ty : FieldType) : own_sh n (defaultValue ty) = defaultValue ty := by cases ty <;> rfl
theorem own_fit_default {ty : FieldType} (h : own_prim ty = true) : fits ty (defaultValue ty) = true := by cases ty <;> first | rfl | decide | cases h
theorem own_nar_ok {n : Nat} {ty : FieldType} {v w : Value} (h : own_nar ty v = some w) : narrow ty (own_sh n v) = own_sh n w ∧ fits ty (own_sh n w) = true ∧ fits ty w = true := by
  unfold own_nar at h
  split at h <;> cases h
  · exact ⟨rfl, rfl, rfl⟩
  · exact ⟨rfl, rfl, rfl⟩
  · exact ⟨rfl, fits_nar_bool _, fits_nar_bool _⟩
  · exact ⟨rfl, fits_nar_byte _, fits_nar_byte _⟩
  · exact ⟨rfl, fits_nar_char _, fits_nar_char _⟩
  · exact ⟨rfl, fits_nar_short _, fits_nar_short _⟩
  · exact ⟨rfl, rfl, rfl⟩
  · exact ⟨rfl, rfl, rfl⟩
  · exact ⟨rfl, rfl, rfl⟩
  · exact ⟨rfl, rfl, rfl⟩
theorem own_prim_sh {n : Nat} {ty : FieldType} (h : own_prim ty = true) {v : Value} (hf : fits ty v = true) : own_sh n v = v := by
  cases v <;> first | rfl | (cases ty <;> first | (simp [own_prim] at h; done) | (simp [fits] at hf; done))
section OwnHeap
variable {Z : State} {n : Nat} {K : List OKls} {H : OHeap} {h h' : Heap}
theorem own_repC_ext {a : Addr} {c : OCell} (E : Ext h h') (q : own_repC Z n K h a c) : own_repC Z n K h' a c := by
  obtain ⟨k | ty, vs⟩ := c
  · obtain ⟨c, h1, h2, h3, h4⟩ := q
    exact ⟨c, h1, h2.ext E, h3, fun j f v e1 e2 => (h4 j f v e1 e2).ext E⟩
  · obtain ⟨cl, h1, h2, h3, h4, h5⟩ := q
    exact ⟨cl, h1.ext E, h2, h3, h4.ext E, h5⟩
theorem own_repC_other {a b : Addr} {c : OCell} {sl : Nat} {v : Value} (W : Wr h h' a sl v) (hne : b ≠ a) (q : own_repC Z n K h b c) : own_repC Z n K h' b c := by
  obtain ⟨k | ty, vs⟩ := c
  · obtain ⟨c, h1, h2, h3, h4⟩ := q
    exact ⟨c, h1, h2.wr W, h3, fun j f v e1 e2 => (h4 j f v e1 e2).other W (Or.inl hne)⟩
  · obtain ⟨cl, h1, h2, h3, h4, h5⟩ := q
    exact ⟨cl, h1.other W hne, h2, h3, h4.wr W, h5⟩
theorem own_repC_keep {a b : Addr} {c : OCell} (W : Keep h h' [a]) (hne : b ≠ a) (q : own_repC Z n K h b c) : own_repC Z n K h' b c := by
  have hn : b ∉ [a] := by simpa using hne
  obtain ⟨k | ty, vs⟩ := c
  · obtain ⟨c, h1, h2, h3, h4⟩ := q
    exact ⟨c, h1, h2.keep W, h3, fun j f v e1 e2 => (h4 j f v e1 e2).keep W hn⟩
  · obtain ⟨cl, h1, h2, h3, h4, h5⟩ := q
    exact ⟨cl, ⟨W.2.1 _ _ h1.1 hn, h1.2⟩, h2, h3, h4.keep W, h5⟩
theorem own_rep_push {c : OCell} (q : own_rep Z n K H h) (E : Ext h h') (hs : h'.size = h.size + 1) (hc : own_repC Z n K h' (n + H.length) c) : own_rep Z n K (H ++ [c]) h' := by
  refine ⟨by rw [hs, q.1, List.length_append]; simp only [List.length_cons, List.length_nil]; omega, fun i d hd => ?_⟩
  rcases Nat.lt_trichotomy i H.length with hi | hi | hi
  · rw [List.getElem?_append_left hi] at hd
    exact own_repC_ext E (q.2 i d hd)
  · subst hi
    rw [List.getElem?_append_right (Nat.le_refl _)] at hd
    simp only [Nat.sub_self, List.getElem?_cons_zero, Option.some.injEq] at hd
    subst hd; exact hc
  · rw [List.getElem?_append_right (by omega), List.getElem?_eq_none (by simp only [List.length_cons, List.length_nil]; omega)] at hd
    cases hd
theorem own_rep_set {a : Nat} {c c' : OCell} (q : own_rep Z n K H h) (ha : H[a]? = some c) (hs : h'.size = h.size) (ho : ∀ (b : Nat) (d : OCell), b ≠ a → H[b]? = some d → own_repC Z n K h' (n + b) d) (hc : own_repC Z n K h' (n + a) c') : own_rep Z n K (H.set a c') h' := by
  refine ⟨by rw [hs, q.1, List.length_set], fun i d hd => ?_⟩
  by_cases e : i = a
  · subst e
    rw [List.getElem?_set_self (List.getElem?_eq_some_iff.mp ha).1] at hd
    cases hd; exact hc
  · rw [List.getElem?_set_ne (Ne.symm e)] at hd
    exact ho i d e hd
theorem own_obj_at {a k : Nat} {vs : List Value} (h1 : own_obj H a k = some vs) : H[a]? = some (.inl k, vs) := by
  unfold own_obj at h1
  split at h1 <;> try cases h1
  rename_i k' ws hk
  split at h1 <;> cases h1
  rename_i e; subst e; exact hk
theorem own_arr_at {a : Nat} {ty : FieldType} {vs : List Value} (h1 : own_arr H a ty = some vs) : H[a]? = some (.inr ty, vs) := by
  unfold own_arr at h1
  split at h1 <;> try cases h1
  rename_i k' ws hk
  split at h1 <;> cases h1
  rename_i e; subst e; exact hk
theorem own_ix_ok {j : Int32} {q : Nat} (h1 : own_ix j = some q) : ¬ j < 0 ∧ j.toNatClampNeg = q := by
  unfold own_ix at h1
  split at h1 <;> cases h1
  rename_i e; exact ⟨e, rfl⟩
theorem own_rep_fld {a0 : Array Value} {a k j : Nat} {vs : List Value} {c : OKls} {f : OFld} {w : Value} (hK : own_okK Z a0 K) (q : own_rep Z n K H h) (ha : H[a]? = some (.inl k, vs)) (hk : K[k]? = some c) (hf : c.2.2[j]? = some f) (W : Wr h h' (n + a) (Jvm.RoadKit.slotOf Z f.1 f.2.1 f.2.2.1) (own_sh n w)) :
    own_rep Z n K (H.set a (.inl k, vs.set j w)) h' := by
  refine own_rep_set q ha W.size (fun b d hb hd => own_repC_other W (fun e => hb (Nat.add_left_cancel e)) (q.2 b d hd)) ?_
  obtain ⟨c', h1, h2, h3, h4⟩ := q.2 a _ ha
  cases hk.symm.trans h1
  refine ⟨c, hk, h2.wr W, by rw [List.length_set]; exact h3, fun j' f' v e1 e2 => ?_⟩
  obtain ⟨-, -, hL, hN⟩ := hK k c hk
  by_cases e : j' = j
  · subst e
    cases hf.symm.trans e1
    have hlt : j' < vs.length := by rw [h3]; exact (List.getElem?_eq_some_iff.mp hf).1
    rw [List.getElem?_set_self hlt] at e2
    cases e2
    exact (h4 j' f _ hf (List.getElem?_eq_getElem hlt)).same W
  · rw [List.getElem?_set_ne (Ne.symm e)] at e2
    refine (h4 j' f' v e1 e2).other W (Or.inr ?_)
    obtain ⟨l1, t1⟩ := hL f' (List.mem_of_getElem? e1)
    obtain ⟨l2, t2⟩ := hL f (List.mem_of_getElem? hf)
    refine Jvm.RoadKit.slot_ne l1 l2 (fun en => e ?_) t1 t2
    obtain ⟨i1, g1⟩ := List.getElem?_eq_some_iff.mp e1
    obtain ⟨i2, g2⟩ := List.getElem?_eq_some_iff.mp hf
    have := (List.getElem_inj (i := j') (j := j) (h₀ := by rw [List.length_map]; exact i1) (h₁ := by rw [List.length_map]; exact i2) hN).mp (by rw [List.getElem_map, List.getElem_map, g1, g2]; exact en)
    exact this
theorem own_rep_elem {a q : Nat} {ty : FieldType} {vs : List Value} {w : Value} {cl : Cell} (r : own_rep Z n K H h) (ha : H[a]? = some (.inr ty, vs)) (A : Arr Z h (n + a) cl ty) (hs : cl.slots = (vs.map (own_sh n)).toArray) (hf : fits ty w = true) (W : Wr h h' (n + a) q (own_sh n w)) :
    own_rep Z n K (H.set a (.inr ty, vs.set q w)) h' := by
  refine own_rep_set r ha W.size (fun b d hb hd => own_repC_other W (fun e => hb (Nat.add_left_cancel e)) (r.2 b d hd)) ?_
  obtain ⟨cl', h1, h2, h3, h4, h5, h6⟩ := r.2 a _ ha
  refine ⟨cl.setSlot q (own_sh n w), A.same W, ?_, by rw [List.length_set]; exact h3, h4.wr W, h5, fun v hv => ?_⟩
  · show cl.slots.setIfInBounds q (own_sh n w) = _
    rw [hs]; simp [List.map_set]
  · rcases List.mem_or_eq_of_mem_set hv with h7 | rfl
    · exact h6 v h7
    · exact hf
theorem own_w_app (c : OCell) : own_w K (H ++ [c]) = own_w K H + own_cw K c := by simp [own_w]
theorem own_w_set {a : Nat} {c c' : OCell} (ha : H[a]? = some c) (hw : own_cw K c' = own_cw K c) : own_w K (H.set a c') = own_w K H := by
  unfold own_w
  rw [List.map_set, hw]
  have : (H.map (own_cw K))[a]? = some (own_cw K c) := by simp [ha]
  congr 1
  obtain ⟨i, e⟩ := List.getElem?_eq_some_iff.mp this
  rw [← e]; exact List.set_getElem_self i
end OwnHeap
/-! ### the words of the sheet -/
def own_okD (k : Nat) (mj : OMth) : Prop := ∃ ps r, parseMethodDescriptor mj.nm.desc = some ⟨ps, r⟩ ∧ ps.length + k = mj.na
def own_okY (y : MethodName) : Prop := y.cls ≠ "java/lang/invoke/MethodHandle" ∧ y.cls ≠ "java/lang/invoke/VarHandle"
def own_okE (Z : State) (a0 : Array Value) (P : OPrg) (y : MethodName) (x : Nat) (t : OEnt) : Prop :=
  match t with
  | (0, j, _, _) => ∃ mj : OMth, P.1[j]? = some mj ∧ (Jvm.Cond.methodLink y.cls x mj.nm).before a0 Z = true ∧ (Jvm.Cond.static mj.nm).before a0 Z = true ∧ (Jvm.Cond.initialized mj.nm.cls).before a0 Z = true ∧ own_okY mj.nm ∧ own_okD 0 mj
  | (1, j, _, _) => ∃ mj : OMth, P.1[j]? = some mj ∧ mj.nm.name = "<init>" ∧ mj.rt = none ∧ (Jvm.Cond.methodLink y.cls x mj.nm).before a0 Z = true ∧ (Jvm.Cond.instanceMethod mj.nm).before a0 Z = true ∧ (Jvm.Cond.initialized mj.nm.cls).before a0 Z = true ∧ own_okY mj.nm ∧ own_okD 1 mj
  | (2, _, _, _) => (Jvm.Cond.methodLink y.cls x Lib.objectInit).before a0 Z = true ∧ (Jvm.Cond.instanceMethod Lib.objectInit).before a0 Z = true ∧ (Jvm.Cond.code Lib.objectInit ⟨#[0xb1]⟩ 1 none).before a0 Z = true
  | (3, j, k, _) => ∃ (mj : OMth) (c : OKls) (v : MethodName), P.1[j]? = some mj ∧ P.2.1[k]? = some c ∧ v.desc = mj.nm.desc ∧ (Jvm.Cond.methodLink y.cls x v).before a0 Z = true ∧ (Jvm.Cond.declares v).before a0 Z = true ∧ (Jvm.Cond.selects c.1 v mj.nm).before a0 Z = true ∧ (Jvm.Cond.instanceMethod mj.nm).before a0 Z = true ∧ (Jvm.Cond.initialized mj.nm.cls).before a0 Z = true ∧ (∀ s : State, Z.Warmed39 s.vm → NotFace s v) ∧ own_okY v ∧ own_okD 1 mj
  | (4, j, _, _) => ∃ mj : OMth, P.1[j]? = some mj ∧ (Jvm.Cond.methodLink y.cls x mj.nm).before a0 Z = true ∧ (Jvm.Cond.instanceMethod mj.nm).before a0 Z = true ∧ (Jvm.Cond.privateMethod mj.nm).before a0 Z = true ∧ (∀ s : State, Z.Warmed39 s.vm → NotFace s mj.nm) ∧ (Jvm.Cond.initialized mj.nm.cls).before a0 Z = true ∧ own_okY mj.nm ∧ own_okD 1 mj
  | (5, j, k, _) => ∃ (mj : OMth) (c : OKls), P.1[j]? = some mj ∧ P.2.1[k]? = some c ∧ mj.nm.name ≠ "<init>" ∧ (Jvm.Cond.methodLink y.cls x mj.nm).before a0 Z = true ∧ (Jvm.Cond.instanceMethod mj.nm).before a0 Z = true ∧ (Jvm.Cond.superclass y.cls mj.nm.cls).before a0 Z = true ∧ NotFace Z mj.nm ∧ (Jvm.Cond.initialized mj.nm.cls).before a0 Z = true ∧ own_okY mj.nm ∧ own_okD 1 mj
  | (13, j, k, _) => ∃ (mj : OMth) (c : OKls) (v : MethodName) (ow : String), P.1[j]? = some mj ∧ P.2.1[k]? = some c ∧ v.desc = mj.nm.desc ∧ (Jvm.Cond.methodLink y.cls x v).before a0 Z = true ∧ (Jvm.Cond.sameMethod v.cls ow v.name v.desc).before a0 Z = true ∧ (Jvm.Cond.declares ⟨ow, v.name, v.desc⟩).before a0 Z = true ∧ (Jvm.Cond.selects c.1 v mj.nm).before a0 Z = true ∧ (Jvm.Cond.instanceMethod mj.nm).before a0 Z = true ∧ (Jvm.Cond.initialized mj.nm.cls).before a0 Z = true ∧ (ow ≠ "java/lang/invoke/MethodHandle" ∧ ow ≠ "java/lang/invoke/VarHandle") ∧ own_okD 1 mj
  | (6, k, j, u) => ∃ (c : OKls) (f : OFld) (R0 : String), P.2.1[k]? = some c ∧ c.2.2[j]? = some f ∧ (Jvm.Cond.fieldLink y.cls x R0 f.2.1 f.2.2.1).before a0 Z = true ∧ Via Z R0 f.1 f.2.1 f.2.2.1 ∧
      (u = 1 → (Jvm.Cond.lays c.1 f.1 f.2.1 f.2.2.1).before a0 Z = true ∨ ((Jvm.Cond.laysFinal c.1 f.1 f.2.1 f.2.2.1).before a0 Z = true ∧ y.cls = f.1 ∧ y.name = "<init>"))
  | (7, k, _, _) => ∃ c : OKls, P.2.1[k]? = some c ∧ (Jvm.Cond.classLink y.cls x c.1).before a0 Z = true
  | (8, _, _, v) => (Jvm.Cond.constant y.cls x (Int32.ofInt v)).before a0 Z = true
  | (9, _, _, v) => (Jvm.Cond.constantLong y.cls x (Int64.ofInt v)).before a0 Z = true
  | (10, _, _, _) => (Jvm.Cond.methodLink y.cls x Jvm.Stand.acN).before a0 Z = true ∧ (Jvm.Cond.native Jvm.Stand.acN).before a0 Z = true ∧ (Jvm.Cond.static Jvm.Stand.acN).before a0 Z = true ∧ (Jvm.Cond.initialized "java/lang/System").before a0 Z = true
  | (11, _, _, _) => (Jvm.Cond.methodLink y.cls x ⟨"[I", "clone", "()Ljava/lang/Object;"⟩).before a0 Z = true ∧ (Jvm.Cond.sameMethod "[I" "java/lang/Object" "clone" "()Ljava/lang/Object;").before a0 Z = true ∧ (Jvm.Cond.native ⟨"java/lang/Object", "clone", "()Ljava/lang/Object;"⟩).before a0 Z = true ∧ (Jvm.Cond.instanceMethod ⟨"java/lang/Object", "clone", "()Ljava/lang/Object;"⟩).before a0 Z = true ∧ (Jvm.Cond.selects "[I" ⟨"[I", "clone", "()Ljava/lang/Object;"⟩ ⟨"java/lang/Object", "clone", "()Ljava/lang/Object;"⟩).before a0 Z = true ∧ (Jvm.Cond.castable "[I" "java/lang/Cloneable").before a0 Z = true
  | (12, _, _, _) => (Jvm.Cond.classLink y.cls x "[I").before a0 Z = true
  | _ => False
def own_okM (Z : State) (a0 : Array Value) (P : OPrg) (mt : OMth) : Prop :=
  plainFor mt.nm = true ∧ (Jvm.Cond.code mt.nm mt.bs mt.ml mt.rt).before a0 Z = true ∧ (∀ r ∈ mt.cd, ∀ x ∈ r, own_okI mt.bs x = true) ∧ ∀ x ∈ mt.en, own_okE Z a0 P mt.nm x.1 x.2
/-- all that the tables of a claim owe -/
def own_good (Z : State) (a0 : Array Value) (P : OPrg) : Prop := (∀ mt ∈ P.1, own_okM Z a0 P mt) ∧ own_okK Z a0 P.2.1 ∧ ∀ ty ∈ P.2.2, (Jvm.Cond.arrayClass ty).before a0 Z = true ∧ own_prim ty = true
theorem own_ent_mem : ∀ {r : List (Nat × OEnt)} {x : Nat} {t : OEnt}, own_ent r x = some t → (x, t) ∈ r
  | [], _, _, h => by cases h
  | (k, i) :: r, x, t, h => by
    simp only [own_ent] at h
    split at h
    · rename_i e; subst e; cases h; exact List.mem_cons_self ..
    · exact List.mem_cons_of_mem _ (own_ent_mem h)
theorem own_wt_sh {n : Nat} (S : List Value) : ((S.map (own_sh n)).map fun v => v.category).sum = own_wt S := by
  unfold own_wt
  rw [List.map_map]
  congr 1
  exact List.map_congr_left fun v _ => own_cat v
theorem own_split_ok : ∀ {k : Nat} {S acc as r : List Value}, own_split k S acc = some (as, r) → as.reverse ++ r = acc.reverse ++ S ∧ as.length = acc.length + k
  | 0, S, acc, as, r, h => by cases h; exact ⟨rfl, rfl⟩
  | k + 1, v :: S, acc, as, r, h => by
    obtain ⟨h1, h2⟩ := own_split_ok (k := k) h
    exact ⟨by rw [h1]; simp, by rw [h2]; simp only [List.length_cons]; omega⟩
  | _ + 1, [], _, _, _, h => by cases h
theorem own_args_ok {n : Nat} (as : List Value) (ml : Nat) : argsToLocals (as.map (own_sh n)).toArray ml = ((own_entry as ml).map (own_shS n)).toArray := by
  have key : ∀ (as : List Value) (acc : Array Slot), (as.map (own_sh n)).foldl (fun acc v => if v.category = 2 then (acc.push (.val v)).push .second else acc.push (.val v)) acc = acc ++ ((as.flatMap fun v => if v.category = 2 then [Slot.val v, .second] else [Slot.val v]).map (own_shS n)).toArray := by
    intro as
    induction as with
    | nil => intro acc; simp
    | cons v r ih =>
      intro acc
      simp only [List.map_cons, List.foldl_cons, own_cat, List.flatMap_cons, List.map_append]
      split
      · rw [ih]
        apply Array.ext'
        simp [own_shS, own_sh]
      · rw [ih]
        apply Array.ext'
        simp [own_shS, own_sh]
  have k0 := key as #[]
  simp only [Array.empty_append] at k0
  unfold argsToLocals own_entry
  simp only [List.foldl_toArray', List.size_toArray]
  rw [k0]
  apply Array.ext'
  simp [own_shS]
section OwnArr
variable {Z : State} {n : Nat} {K : List OKls} {H H' : OHeap} {h : Heap} {ty : FieldType} {t pc' : Nat} {L L' : List Slot} {S S' : List Value}
theorem own_in {j : Int32} {q k : Nat} (hq : own_ix j = some q) (hk : q < k) : ¬ (j < 0 ∨ k ≤ j.toNatClampNeg) := by
  obtain ⟨h1, h2⟩ := own_ix_ok hq
  rintro (h3 | h3)
  · exact h1 h3
  · omega
theorem own_ald_ok (hr : own_rep Z n K H h) (hs : own_ald ty t L S H = some (pc', L', S', H')) : ∃ (j : Int32) (a : Nat) (r : List Value) (v : Value) (cl : Cell), S = .int j :: .ref a :: r ∧ pc' = t ∧ L' = L ∧ S' = v :: r ∧ H' = H ∧ Arr Z h (n + a) cl ty ∧ ¬ (j < 0 ∨ cl.slots.size ≤ j.toNatClampNeg) ∧ cl.slots[j.toNatClampNeg]? = some (own_sh n v) := by
  unfold own_ald at hs
  split at hs <;> try cases hs
  rename_i j a r
  split at hs <;> try cases hs
  rename_i vs ha
  split at hs <;> try cases hs
  rename_i q hq
  split at hs <;> cases hs
  rename_i v hv
  obtain ⟨cl, A, h2, -⟩ := hr.2 a _ (own_arr_at ha)
  have hsz : cl.slots.size = vs.length := by rw [h2]; simp
  refine ⟨j, a, r, v, cl, rfl, rfl, rfl, rfl, rfl, A, by rw [hsz]; exact own_in hq (List.getElem?_eq_some_iff.mp hv).1, ?_⟩
  rw [(own_ix_ok hq).2, h2]
  simp [hv]
theorem own_ast_ok (hr : own_rep Z n K H h) (hs : own_ast ty t L S H = some (pc', L', S', H')) : ∃ (v w : Value) (j : Int32) (a q : Nat) (r vs : List Value) (cl : Cell), S = v :: .int j :: .ref a :: r ∧ pc' = t ∧ L' = L ∧ S' = r ∧ H' = H.set a (.inr ty, vs.set q w) ∧ H[a]? = some (.inr ty, vs) ∧ Arr Z h (n + a) cl ty ∧ cl.slots = (vs.map (own_sh n)).toArray ∧ ¬ (j < 0 ∨ cl.slots.size ≤ j.toNatClampNeg) ∧ j.toNatClampNeg = q ∧ own_nar ty v = some w := by
  unfold own_ast at hs
  split at hs <;> try cases hs
  rename_i v j a r
  split at hs <;> try cases hs
  rename_i vs ha
  split at hs <;> try cases hs
  rename_i q hq
  split at hs <;> try cases hs
  rename_i hlt
  split at hs <;> cases hs
  rename_i w hw
  obtain ⟨cl, A, h2, -⟩ := hr.2 a _ (own_arr_at ha)
  have hsz : cl.slots.size = vs.length := by rw [h2]; simp
  exact ⟨v, w, j, a, q, _, vs, cl, rfl, rfl, rfl, rfl, rfl, own_arr_at ha, A, h2, by rw [hsz]; exact own_in hq hlt, (own_ix_ok hq).2, hw⟩
theorem own_len {k : Nat} (hk : k < 2 ^ 31) : k.toInt32.toNatClampNeg = k ∧ ¬ k.toInt32 < 0 := by
  have e := len_toInt hk
  constructor
  · simp only [Int32.toNatClampNeg, e]; omega
  · rw [Int32.lt_iff_toInt_lt, e]; have : (0 : Int32).toInt = 0 := rfl
    omega
theorem own_map_prim (hp : own_prim ty = true) {vs : List Value} (hf : ∀ v ∈ vs, fits ty v = true) : vs.map (own_sh n) = vs := by
  conv => rhs; rw [← List.map_id vs]
  exact List.map_congr_left fun v hv => own_prim_sh hp (hf v hv)
theorem own_arv {a : Addr} {vs : List Value} {dv : Value} (q : own_repC Z n K h a (.inr ty, vs)) : ∃ k, Arv Z h a k ty vs.length.toInt32 vs dv := by
  obtain ⟨cl, A, h2, h3, h4, h5, h6⟩ := q
  rw [own_map_prim h5 h6] at h2
  obtain ⟨e1, e2⟩ := own_len h3
  have hsz : cl.slots.size = vs.length := by rw [h2]; simp
  have hg : ∀ i, i < vs.length → vs[i]? = some (vs.getD i dv) := fun i hi => by simp [List.getD_eq_getElem?_getD, hi]
  refine ⟨cl.cls, cl, A, rfl, by rw [hsz, e1], e2, fun i hi => ?_, fun i hi => ?_⟩
  · rw [hsz] at hi; rw [h2]; simpa using hg i hi
  · rw [hsz] at hi
    exact h6 _ (List.mem_of_getElem? (hg i hi))
theorem own_arv_inv {a : Addr} {k : ClassId} {z : Int32} {vs : List Value} {dv : Value} (hz : z.toNatClampNeg = vs.length) (hl : vs.length < 2 ^ 31) (hp : own_prim ty = true) (F : Arv Z h a k ty z vs dv) (E : Exa Z h a ("[" ++ ty.toString)) : own_repC Z n K h a (.inr ty, vs) := by
  obtain ⟨cl, A, -, h2, -, h4, h5⟩ := F
  rw [hz] at h2
  have hg : ∀ i, i < vs.length → vs[i]? = some (vs.getD i dv) := fun i hi => by simp [List.getD_eq_getElem?_getD, hi]
  have hf : ∀ v ∈ vs, fits ty v = true := fun v hv => by
    obtain ⟨i, hi, e⟩ := List.mem_iff_getElem.mp hv
    have := h5 i (by omega)
    rw [List.getD_eq_getElem?_getD, List.getElem?_eq_getElem hi] at this
    rw [← e]; exact this
  refine ⟨cl, A, ?_, hl, E, hp, hf⟩
  rw [own_map_prim hp hf]
  apply Array.ext
  · simp [h2]
  · intro i hi1 hi2
    have h7 := h4 i hi1
    rw [Array.getElem?_eq_getElem hi1] at h7
    have h8 := hg i (by omega)
    rw [List.getElem?_eq_getElem (by omega)] at h8
    simp only [List.getElem_toArray]
    exact (Option.some.inj h7).trans (Option.some.inj h8).symm
theorem own_us {vs : List Value} {p k : Nat} {dv : Value} (h : p + k ≤ vs.length) : (vs.drop p).take k = (List.range k).map fun i => vs.getD (p + i) dv := by
  apply List.ext_getElem
  · simp; omega
  · intro i h1 h2
    simp only [List.length_map, List.length_range] at h2
    simp [List.getD_eq_getElem?_getD, show p + i < vs.length by omega]
end OwnArr
section OwnMain
variable {l : Launch} {Z : State} {a0 : Array Value} {n : Nat} {P : OPrg}
set_option maxHeartbeats 4000000 in
theorem own_heap_ok (G : own_good Z a0 P) {mt : OMth} (hM : mt ∈ P.1) {d lo : Nat} {i : Instr} {t pc pc' len : Nat} {L L' : List Slot} {S S' : List Value} {H H' : OHeap} (hs : own_heap P mt d lo i t L S H = some (pc', L', S', H'))
    {p : Program} {e : Env} {R : Room} {s : State} {m : MethodId} {args : Array Value} {below : List Frame} {meth : Method} {c : Code} {T : State} {locs : List Loc} {cells slots : Nat}
    (X : Stand p l e R s m args below meth c T locs cells slots) (hx : p.tables.exec = Jvm.exec) (hZ : Z.Warmed39 s.vm) (hml : c.maxLocals = mt.ml) (hown : s.vm.findClass mt.nm.cls = some m.cls) (hnm : meth.name = mt.nm.name)
    (hd : decode c.code pc = .ok (i, len)) (ht : own_tgt pc len t i = true) (hL : L.length = mt.ml) (hbd : s.heap.size + cells = n + H.length ∨ (H = [] ∧ P.2.1 = [] ∧ P.2.2 = []))
    (hr : own_rep Z n P.2.1 H T.heap) (hf : Fr n locs) (hdf : d ≤ R.frames) (hlo : lo ≤ R.locals) (hce : cells + (H'.length - H.length) ≤ R.cells) (hsl : slots + (own_w P.2.1 H' - own_w P.2.1 H) ≤ R.slots) :
    L' = L ∧ H.length ≤ H'.length ∧ own_w P.2.1 H ≤ own_w P.2.1 H' ∧ ∃ (T' : State) (locs' : List Loc), Stand p l e R s m args below meth c T' locs' (cells + (H'.length - H.length)) (slots + (own_w P.2.1 H' - own_w P.2.1 H)) ∧ own_rep Z n P.2.1 H' T'.heap ∧ Fr n locs' ∧
      ∀ target, Steps p.tables e below (T'.setTop (own_fr n m pc' L' S')) target → Steps p.tables e below (T.setTop (own_fr n m pc L S)) target := by
  obtain ⟨GM, GK, GA⟩ := G
  obtain ⟨-, -, -, GE⟩ := GM mt hM
  have hz : (L.map (own_shS n)).toArray.size = c.maxLocals := by rw [hml, ← hL]; simp
  have ent : ∀ {x t}, own_ent mt.en x = some t → own_okE Z a0 P mt.nm x t := fun h => GE _ (own_ent_mem h)
  have same : ∀ {T' : State} {S' : List Value} {pc' : Nat}, Stand p l e R s m args below meth c T' locs cells slots → T'.heap = T.heap → (∀ target, Steps p.tables e below (T'.setTop (own_fr n m pc' L S')) target → Steps p.tables e below (T.setTop (own_fr n m pc L S)) target) →
      L = L ∧ H.length ≤ H.length ∧ own_w P.2.1 H ≤ own_w P.2.1 H ∧ ∃ (T' : State) (locs' : List Loc), Stand p l e R s m args below meth c T' locs' (cells + (H.length - H.length)) (slots + (own_w P.2.1 H - own_w P.2.1 H)) ∧ own_rep Z n P.2.1 H T'.heap ∧ Fr n locs' ∧
      ∀ target, Steps p.tables e below (T'.setTop (own_fr n m pc' L S')) target → Steps p.tables e below (T.setTop (own_fr n m pc L S)) target := by
    intro T' S' pc' X' eT st
    refine ⟨rfl, Nat.le_refl _, Nat.le_refl _, T', locs, ?_, by rw [eT]; exact hr, hf, st⟩
    rw [Nat.sub_self, Nat.sub_self]; exact X'
  have wrote : ∀ {T' : State} {S' : List Value} {pc' : Nat} {a sl : Nat} {c0 c1 : OCell}, H[a]? = some c0 → own_cw P.2.1 c1 = own_cw P.2.1 c0 → Stand p l e R s m args below meth c T' (locs ++ [⟨n + a, sl⟩]) cells slots → own_rep Z n P.2.1 (H.set a c1) T'.heap → (∀ target, Steps p.tables e below (T'.setTop (own_fr n m pc' L S')) target → Steps p.tables e below (T.setTop (own_fr n m pc L S)) target) →
      L = L ∧ H.length ≤ (H.set a c1).length ∧ own_w P.2.1 H ≤ own_w P.2.1 (H.set a c1) ∧ ∃ (T' : State) (locs' : List Loc), Stand p l e R s m args below meth c T' locs' (cells + ((H.set a c1).length - H.length)) (slots + (own_w P.2.1 (H.set a c1) - own_w P.2.1 H)) ∧ own_rep Z n P.2.1 (H.set a c1) T'.heap ∧ Fr n locs' ∧
      ∀ target, Steps p.tables e below (T'.setTop (own_fr n m pc' L S')) target → Steps p.tables e below (T.setTop (own_fr n m pc L S)) target := by
    intro T' S' pc' a sl c0 c1 h0 hw X' hr' st
    have e1 : (H.set a c1).length = H.length := List.length_set ..
    have e2 : own_w P.2.1 (H.set a c1) = own_w P.2.1 H := own_w_set h0 hw
    refine ⟨rfl, by omega, by omega, T', _, ?_, hr', Fr.snoc X' hf (Nat.le_add_right _ _), st⟩
    rw [e1, e2, Nat.sub_self, Nat.sub_self]; exact X'
  have made : ∀ {T' : State} {h' : Heap} {S' : List Value} {pc' w : Nat} {c1 : OCell}, s.heap.size + cells = n + H.length → own_cw P.2.1 c1 = w → Stand p l e R s m args below meth c T' locs (cells + 1) (slots + w) → T'.heap = h' → Ext T.heap h' → T.heap.size < h'.size → own_repC Z n P.2.1 h' T.heap.size c1 → (∀ target, Steps p.tables e below (T'.setTop (own_fr n m pc' L (.ref H.length :: S'))) target → Steps p.tables e below (T.setTop (own_fr n m pc L S)) target) →
      L = L ∧ H.length ≤ (H ++ [c1]).length ∧ own_w P.2.1 H ≤ own_w P.2.1 (H ++ [c1]) ∧ ∃ (T' : State) (locs' : List Loc), Stand p l e R s m args below meth c T' locs' (cells + ((H ++ [c1]).length - H.length)) (slots + (own_w P.2.1 (H ++ [c1]) - own_w P.2.1 H)) ∧ own_rep Z n P.2.1 (H ++ [c1]) T'.heap ∧ Fr n locs' ∧
      ∀ target, Steps p.tables e below (T'.setTop (own_fr n m pc' L (.ref H.length :: S'))) target → Steps p.tables e below (T.setTop (own_fr n m pc L S)) target := by
    intro T' h' S' pc' w c1 hb hw X' eT E hlt hc st
    have e1 : (H ++ [c1]).length = H.length + 1 := by simp
    have e2 := own_w_app (K := P.2.1) (H := H) c1
    have hsz := X'.heapSize
    have h0 := hr.1
    refine ⟨rfl, by omega, by omega, T', locs, ?_, ?_, hf, st⟩
    · rw [e1, e2, hw, Nat.add_sub_cancel_left, Nat.add_sub_cancel_left]; exact X'
    · rw [eT]
      refine own_rep_push hr E (by rw [eT] at hsz; omega) ?_
      rw [← h0]; exact hc
  have cap : ∀ {c1 : OCell}, H' = H ++ [c1] → cells + 1 ≤ R.cells ∧ slots + own_cw P.2.1 c1 ≤ R.slots := by
    rintro c1 rfl
    rw [own_w_app] at hsl
    rw [List.length_append] at hce
    simp only [List.length_cons, List.length_nil] at hce
    omega
  cases i with
  | getfield x =>
    obtain ⟨rfl, rfl⟩ := own_t ht
    simp only [own_heap] at hs
    split at hs <;> try cases hs
    rename_i k j u he
    split at hs <;> try cases hs
    rename_i a r
    split at hs <;> try cases hs
    rename_i vs ho
    split at hs <;> cases hs
    rename_i v hv
    obtain ⟨kc, f, R0, h1, h2, h3, h4, -⟩ := ent he
    obtain ⟨kc', g1, -, -, g4⟩ := hr.2 a _ (own_obj_at ho)
    cases h1.symm.trans g1
    obtain ⟨T', X', eT, st⟩ := getF X hx hZ hown (host := "") (Or.inl h3) h4 rfl (g4 j f v h2 hv) (g := own_fr n m pc L (.ref a :: r)) rfl rfl hd
    exact same X' eT st
  | putfield x =>
    obtain ⟨rfl, rfl⟩ := own_t ht
    simp only [own_heap] at hs
    split at hs <;> try cases hs
    rename_i k j he
    split at hs <;> try cases hs
    rename_i v a r
    split at hs <;> try cases hs
    rename_i vs ho
    split at hs <;> try cases hs
    rename_i kc hk
    split at hs <;> try cases hs
    rename_i f hf'
    split at hs <;> cases hs
    rename_i w hw
    obtain ⟨kc', f', R0, h1, h2, h3, h4, h5⟩ := ent he
    cases hk.symm.trans h1
    cases hf'.symm.trans h2
    obtain ⟨kc', g1, g2, g3, g4⟩ := hr.2 a _ (own_obj_at ho)
    cases hk.symm.trans g1
    obtain ⟨w1, w2, w3, -⟩ := GK k kc hk
    have hj : j < vs.length := by rw [g3]; exact (List.getElem?_eq_some_iff.mp hf').1
    obtain ⟨n1, n2, -⟩ := own_nar_ok (n := n) hw
    obtain ⟨T', h', X', eT, W, st⟩ := putFN X hx hZ hown h3 h4 rfl (g4 j f _ hf' (List.getElem?_eq_getElem hj)) g2 ((h5 rfl).imp id fun q => ⟨q.1, q.2.1, hnm.trans q.2.2⟩) w1 (w3 f (List.mem_of_getElem? hf')).2 n1 n2 (g := own_fr n m pc L (v :: .ref a :: _)) rfl rfl hd
    exact wrote (own_obj_at ho) rfl X' (by rw [eT]; exact own_rep_fld GK hr (own_obj_at ho) hk hf' W) st
  | new x =>
    obtain ⟨rfl, rfl⟩ := own_t ht
    simp only [own_heap] at hs
    split at hs <;> try cases hs
    rename_i k j u he
    split at hs <;> cases hs
    rename_i kc hk
    obtain ⟨kc', h1, h2⟩ := ent he
    cases hk.symm.trans h1
    obtain ⟨w1, w2, w3, -⟩ := GK k kc hk
    have hw : own_cw P.2.1 ((.inl k, kc.2.2.map fun f => defaultValue f.2.2.2) : OCell) = kc.2.1 := by simp [own_cw, hk]
    obtain ⟨hc1, hc2⟩ := cap rfl
    rw [hw] at hc2
    obtain ⟨T', h', X', eT, E, A, D, -, st⟩ := newO X hx hZ hown h2 w1 w2 rfl (g := own_fr n m pc L S) rfl hd hc1 hc2
    refine made (hbd.resolve_right fun q => by rw [q.2.1] at hk; simp at hk) hw X' eT E A.lt ⟨kc, hk, A, by simp, fun j f v e1 e2 => ?_⟩ ?_
    · obtain ⟨l1, t1⟩ := w3 f (List.mem_of_getElem? e1)
      rw [List.getElem?_map, e1] at e2
      cases e2
      rw [own_default]
      exact D l1 t1
    · rw [hr.1] at st; exact st
  | newarray ty =>
    obtain ⟨rfl, rfl⟩ := own_t ht
    simp only [own_heap] at hs
    split at hs <;> try cases hs
    rename_i z r
    split at hs <;> try cases hs
    rename_i q hq
    split at hs <;> cases hs
    rename_i hA
    obtain ⟨hq1, hq2⟩ := own_ix_ok hq
    obtain ⟨a1, a2⟩ := GA _ hA.1
    have hw : own_cw P.2.1 ((.inr (newarray.typeOf ty), List.replicate q (defaultValue (newarray.typeOf ty))) : OCell) = q := by simp [own_cw]
    obtain ⟨hc1, hc2⟩ := cap rfl
    rw [hw] at hc2
    obtain ⟨T', h', cA, X', eT, E, A, Ex, st⟩ := newPE X hx hZ a1 rfl (g := own_fr n m pc L (.int z :: r)) rfl hd rfl hq1 (cap := q) (Nat.le_of_eq hq2) hA.2 hc1 hc2 rfl
    refine made (hbd.resolve_right fun q => by have := hA.1; rw [q.2.2] at this; simp at this) hw X' eT E Ex.lt ⟨_, A, ?_, ?_, Ex, a2, fun v hv => ?_⟩ ?_
    · simp [newA, hq2, own_default]
    · rw [List.length_replicate]; omega
    · rw [List.eq_of_mem_replicate hv]; exact own_fit_default a2
    · rw [hr.1] at st; exact st
  | arraylength =>
    obtain ⟨rfl, rfl⟩ := own_t ht
    simp only [own_heap] at hs
    split at hs <;> try cases hs
    rename_i a r
    split at hs <;> cases hs
    rename_i ty vs ha
    obtain ⟨cl, A, h2, -⟩ := hr.2 a _ ha
    have hsz : cl.slots.size = vs.length := by rw [h2]; simp
    exact same X rfl fun target k => X.arraylength hx A.1 (State.isArrayOf_alike hZ.alike A.2.1) (g := own_fr n m pc L (.ref a :: r)) rfl rfl hd target (by rw [hsz]; exact k)
  | iaload =>
    obtain ⟨rfl, rfl⟩ := own_t ht
    obtain ⟨j, a, r, v, cl, rfl, rfl, rfl, rfl, rfl, A, h1, h2⟩ := own_ald_ok hr hs
    exact same X rfl fun target k => X.iaload hx A.1 (State.isArrayOf_alike hZ.alike A.2.1) A.2.2 h1 h2 (g := own_fr n m pc L' (.int j :: .ref a :: r)) rfl rfl hd target k
  | laload =>
    obtain ⟨rfl, rfl⟩ := own_t ht
    obtain ⟨j, a, r, v, cl, rfl, rfl, rfl, rfl, rfl, A, h1, h2⟩ := own_ald_ok hr hs
    exact same X rfl fun target k => X.laload hx A.1 (State.isArrayOf_alike hZ.alike A.2.1) A.2.2 h1 h2 (g := own_fr n m pc L' (.int j :: .ref a :: r)) rfl rfl hd target k
  | caload =>
    obtain ⟨rfl, rfl⟩ := own_t ht
    obtain ⟨j, a, r, v, cl, rfl, rfl, rfl, rfl, rfl, A, h1, h2⟩ := own_ald_ok hr hs
    exact same X rfl fun target k => X.caload hx A.1 (State.isArrayOf_alike hZ.alike A.2.1) A.2.2 h1 h2 (g := own_fr n m pc L' (.int j :: .ref a :: r)) rfl rfl hd target k
  | baload =>
    obtain ⟨rfl, rfl⟩ := own_t ht
    obtain ⟨j, a, r, v, cl, rfl, rfl, rfl, rfl, rfl, A, h1, h2⟩ := own_ald_ok hr hs
    exact same X rfl fun target k => X.baloadBytes hx A.1 (State.isArrayOf_alike hZ.alike A.2.1) A.2.2 h1 h2 (g := own_fr n m pc L' (.int j :: .ref a :: r)) rfl rfl hd target k
  | iastore =>
    obtain ⟨rfl, rfl⟩ := own_t ht
    obtain ⟨v, w, j, a, q, r, vs, cl, rfl, rfl, rfl, rfl, rfl, ha, A, h0, h1, rfl, h2⟩ := own_ast_ok hr hs
    cases v <;> cases h2
    rename_i z
    obtain ⟨T', h', X', eT, W, st⟩ := stI X hx hZ rfl A h1 (g := own_fr n m pc L' (.int z :: .int j :: .ref a :: S')) rfl rfl hd
    exact wrote ha (by simp [own_cw]) X' (by rw [eT]; exact own_rep_elem hr ha A h0 (own_nar_ok (n := n) (v := .int z) rfl).2.2 W) st
  | lastore =>
    obtain ⟨rfl, rfl⟩ := own_t ht
    obtain ⟨v, w, j, a, q, r, vs, cl, rfl, rfl, rfl, rfl, rfl, ha, A, h0, h1, rfl, h2⟩ := own_ast_ok hr hs
    cases v <;> cases h2
    rename_i z
    obtain ⟨T', h', X', eT, W, st⟩ := stJ X hx hZ rfl A h1 (g := own_fr n m pc L' (.long z :: .int j :: .ref a :: S')) rfl rfl hd
    exact wrote ha (by simp [own_cw]) X' (by rw [eT]; exact own_rep_elem hr ha A h0 (own_nar_ok (n := n) (v := .long z) rfl).2.2 W) st
  | castore =>
    obtain ⟨rfl, rfl⟩ := own_t ht
    obtain ⟨v, w, j, a, q, r, vs, cl, rfl, rfl, rfl, rfl, rfl, ha, A, h0, h1, rfl, h2⟩ := own_ast_ok hr hs
    cases v <;> cases h2
    rename_i z
    obtain ⟨T', h', X', eT, W, st⟩ := stC X hx hZ rfl A h1 (g := own_fr n m pc L' (.int z :: .int j :: .ref a :: S')) rfl rfl hd
    exact wrote ha (by simp [own_cw]) X' (by rw [eT]; exact own_rep_elem hr ha A h0 (own_nar_ok (n := n) (v := .int z) rfl).2.2 W) st
  | bastore =>
    obtain ⟨rfl, rfl⟩ := own_t ht
    obtain ⟨v, w, j, a, q, r, vs, cl, rfl, rfl, rfl, rfl, rfl, ha, A, h0, h1, rfl, h2⟩ := own_ast_ok hr hs
    cases v <;> cases h2
    rename_i z
    obtain ⟨T', h', X', eT, W, st⟩ := stB X hx hZ rfl A h1 (g := own_fr n m pc L' (.int z :: .int j :: .ref a :: S')) rfl rfl hd
    exact wrote ha (by simp [own_cw]) X' (by rw [eT]; exact own_rep_elem hr ha A h0 (own_nar_ok (n := n) (v := .int z) rfl).2.2 W) st
  | ldc x =>
    obtain ⟨rfl, rfl⟩ := own_t ht
    simp only [own_heap] at hs
    split at hs <;> cases hs
    rename_i he
    exact same X rfl fun target k => X.ldcInt hx hown (mvT hZ (ent he)) (g := own_fr n m pc L S) rfl hd target k
  | ldc_w x =>
    obtain ⟨rfl, rfl⟩ := own_t ht
    simp only [own_heap] at hs
    split at hs <;> cases hs
    rename_i he
    exact same X rfl fun target k => X.ldcwInt hx hown (mvT hZ (ent he)) (g := own_fr n m pc L S) rfl hd target k
  | ldc2_w x =>
    obtain ⟨rfl, rfl⟩ := own_t ht
    simp only [own_heap] at hs
    split at hs <;> cases hs
    rename_i he
    exact same X rfl fun target k => X.ldc2Long hx hown (mvT hZ (ent he)) (g := own_fr n m pc L S) rfl hd target k
  | checkcast x =>
    obtain ⟨rfl, rfl⟩ := own_t ht
    simp only [own_heap] at hs
    split at hs <;> try cases hs
    rename_i he
    split at hs <;> try cases hs
    rename_i a r
    split at hs <;> cases hs
    rename_i vs ha
    obtain ⟨cl, A, h2, -, Ex, -⟩ := hr.2 a _ (own_arr_at ha)
    obtain ⟨T', X', eT, st⟩ := castY X hx hZ hown (ent he) rfl (Ins.self (show Exa Z T.heap (n + a) "[I" from Ex)) (g := own_fr n m pc L (.ref a :: r)) rfl rfl hd
    exact same X' eT st
  | invokespecial x =>
    obtain ⟨rfl, rfl⟩ := own_t ht
    simp only [own_heap] at hs
    split at hs <;> try cases hs
    rename_i he
    split at hs <;> try cases hs
    rename_i a r
    split at hs <;> cases hs
    rename_i hq
    obtain ⟨w1, w2, w3⟩ := ent he
    obtain ⟨T', X', eT, st⟩ := initO X hx hZ hown w1 w2 w3 rfl (g := own_fr n m pc L (.ref a :: S')) rfl hz rfl hd (by omega) (W := own_wt S') (by show 2 * 0 + _ ≤ _; rw [own_wt_sh]; omega) (by omega)
    exact same X' eT st
  | invokestatic x =>
    obtain ⟨rfl, rfl⟩ := own_t ht
    simp only [own_heap] at hs
    split at hs <;> try cases hs
    rename_i he
    split at hs <;> try cases hs
    rename_i nn dp b sp a r
    split at hs <;> try cases hs
    rename_i vs ha
    split at hs <;> try cases hs
    rename_i vd hb'
    split at hs <;> try cases hs
    rename_i k hn
    split at hs <;> try cases hs
    rename_i q hq
    split at hs <;> try cases hs
    rename_i p' hp
    split at hs <;> cases hs
    rename_i hh
    obtain ⟨⟨r1, r2⟩, r3, r4⟩ := hh
    obtain ⟨w1, w2, w3, w4⟩ := ent he
    obtain ⟨n1, n2⟩ := own_ix_ok hn
    obtain ⟨q1, q2⟩ := own_ix_ok hq
    obtain ⟨p1, p2⟩ := own_ix_ok hp
    have ca := hr.2 a _ (own_arr_at ha)
    have cb := hr.2 b _ (own_arr_at hb')
    obtain ⟨ka, Fa⟩ := own_arv (dv := .int 0) ca
    obtain ⟨kb, Fb⟩ := own_arv (dv := .int 0) cb
    obtain ⟨-, -, -, la, -⟩ := ca
    obtain ⟨-, -, -, lb, Eb, pb, fb⟩ := cb
    obtain ⟨sa, -⟩ := own_len la
    obtain ⟨sb, -⟩ := own_len lb
    obtain ⟨T', h', L2, X', eT, N', Kp, F', st⟩ := cpA X hx hZ hown w1 w2 w3 w4 rfl Fa Fb (Or.inl ⟨rfl, rfl⟩) p1 q1 n1 (by rw [sa, p2, n2]; exact r3) (by rw [sb, q2, n2]; exact r4) rfl (by rw [q2, n2]; exact r4) hf (Nat.le_add_right n b) (g := own_fr n m pc L (.int nn :: .int dp :: .ref b :: .int sp :: .ref a :: S')) rfl hz rfl hd (by omega) (W := own_wt S') (by show 2 * 0 + _ ≤ _; rw [own_wt_sh]; omega) (by omega)
    have ha0 := own_arr_at hb'
    have hb := hbd.resolve_right fun q => by rw [q.1] at ha0; simp at ha0
    rw [p2, n2, q2, ← own_us r3] at F'
    have hlen : (vd.take q ++ (vs.drop p').take k ++ vd.drop (q + k)).length = vd.length := by
      simp only [List.length_append, List.length_take, List.length_drop]; omega
    have e1 : (H.set b ((.inr .int, vd.take q ++ (vs.drop p').take k ++ vd.drop (q + k)) : OCell)).length = H.length := List.length_set ..
    have e2 : own_w P.2.1 (H.set b ((.inr .int, vd.take q ++ (vs.drop p').take k ++ vd.drop (q + k)) : OCell)) = own_w P.2.1 H := own_w_set ha0 (by simp only [own_cw]; exact hlen)
    refine ⟨rfl, by omega, by omega, T', L2, ?_, ?_, N', st⟩
    · rw [e1, e2, Nat.sub_self, Nat.sub_self]; exact X'
    · rw [eT]
      have hsz : h'.size = T.heap.size := by
        have u1 := X'.heapSize
        have u2 := Kp.1
        have u3 := hr.1
        rw [eT] at u1; omega
      refine own_rep_set hr ha0 hsz (fun b' d' hb2 hd2 => own_repC_keep Kp (fun e => hb2 (Nat.add_left_cancel e)) (hr.2 b' d' hd2)) (own_arv_inv (by rw [hlen]; exact sb) (by rw [hlen]; exact lb) pb F' (Eb.keep Kp))
  | invokevirtual x =>
    obtain ⟨rfl, rfl⟩ := own_t ht
    simp only [own_heap] at hs
    split at hs <;> try cases hs
    rename_i he
    split at hs <;> try cases hs
    rename_i a r
    split at hs <;> try cases hs
    rename_i vs ha
    split at hs <;> cases hs
    rename_i hq
    obtain ⟨w1, w2, w3, w4, w5, w6⟩ := ent he
    have ca := hr.2 a _ (own_arr_at ha)
    obtain ⟨ka, Fa⟩ := own_arv (dv := .int 0) ca
    obtain ⟨-, -, -, la, Ea, pa, fa⟩ := ca
    obtain ⟨sa, -⟩ := own_len la
    have hw : own_cw P.2.1 ((.inr .int, vs) : OCell) = vs.length := rfl
    obtain ⟨hc1, hc2⟩ := cap rfl
    rw [hw] at hc2
    obtain ⟨T', h', X', eT, E, F', E', st⟩ := cloneH X hx hZ hown w1 w2 w3 w4 w5 w6 rfl Fa.arh (show Exa Z T.heap (n + a) "[I" from Ea) (g := own_fr n m pc L (.ref a :: r)) rfl hz rfl hd (by omega) (W := own_wt r) (cap := vs.length) (by show 2 * 0 + _ ≤ _; rw [own_wt_sh]; omega) (by omega) (Nat.le_of_eq sa) hc1 hc2
    refine made (hbd.resolve_right fun q => by have := own_arr_at ha; rw [q.1] at this; simp at this) hw X' eT E E'.lt (own_arv_inv sa la pa F' E') ?_
    rw [hr.1] at st; exact st
  | _ => exact nomatch (show (none : Option OSt) = some _ from hs)
/-! ### how a run grows -/
theorem own_sto_len {L M : List Slot} {i : Nat} {v : Value} (h : own_sto L i v = some M) : M.length = L.length := (own_sto_ok (n := 0) h).2
theorem own_pure_len {i : Instr} {t pc pc' : Nat} {L L' : List Slot} {S S' : List Value} (e1 : own_pure i t pc L S = some (pc', L', S')) : L'.length = L.length := by
  have st : ∀ {k t : Nat} {v : Value} {r : List Value}, (match own_sto L k v with | some M => some (t, M, r) | none => none : Option OFr) = some (pc', L', S') → L'.length = L.length := by
    intro k t v r h
    split at h <;> cases h
    rename_i hv; exact own_sto_len hv
  have ldI : ∀ {k}, own_ldI k t L S = some (pc', L', S') → L'.length = L.length := by intro k h; unfold own_ldI at h; split at h <;> cases h; rfl
  have ldJ : ∀ {k}, own_ldJ k t L S = some (pc', L', S') → L'.length = L.length := by intro k h; unfold own_ldJ at h; split at h <;> cases h; rfl
  have ldA : ∀ {k}, own_ldA k t L S = some (pc', L', S') → L'.length = L.length := by intro k h; unfold own_ldA at h; split at h <;> cases h <;> rfl
  have stI : ∀ {k}, own_stI k t L S = some (pc', L', S') → L'.length = L.length := by intro k h; unfold own_stI at h; split at h <;> first | exact st h | cases h
  have stJ : ∀ {k}, own_stJ k t L S = some (pc', L', S') → L'.length = L.length := by intro k h; unfold own_stJ at h; split at h <;> first | exact st h | cases h
  have stA : ∀ {k}, own_stA k t L S = some (pc', L', S') → L'.length = L.length := by intro k h; unfold own_stA at h; split at h <;> first | exact st h | cases h
  have b32 : ∀ {f}, own_b32 f t L S = some (pc', L', S') → L'.length = L.length := by intro k h; unfold own_b32 at h; split at h <;> cases h; rfl
  have d32 : ∀ {f}, own_d32 f t L S = some (pc', L', S') → L'.length = L.length := by intro k h; unfold own_d32 at h; split at h <;> try cases h
                                                                                      split at h <;> cases h; rfl
  have u32 : ∀ {f}, own_u32 f t L S = some (pc', L', S') → L'.length = L.length := by intro k h; unfold own_u32 at h; split at h <;> cases h; rfl
  have b64 : ∀ {f}, own_b64 f t L S = some (pc', L', S') → L'.length = L.length := by intro k h; unfold own_b64 at h; split at h <;> cases h; rfl
  have d64 : ∀ {f}, own_d64 f t L S = some (pc', L', S') → L'.length = L.length := by intro k h; unfold own_d64 at h; split at h <;> try cases h
                                                                                      split at h <;> cases h; rfl
  have s64 : ∀ {f}, own_s64 f t L S = some (pc', L', S') → L'.length = L.length := by intro k h; unfold own_s64 at h; split at h <;> cases h; rfl
  have u64 : ∀ {f}, own_u64 f t L S = some (pc', L', S') → L'.length = L.length := by intro k h; unfold own_u64 at h; split at h <;> cases h; rfl
  have br : ∀ {b : Bool} {r : List Value}, own_br b t pc L r = some (pc', L', S') → L'.length = L.length := by intro b r h; unfold own_br at h; split at h <;> cases h <;> rfl
  unfold own_pure at e1
  split at e1 <;> first
    | exact ldI e1 | exact ldJ e1 | exact ldA e1 | exact stI e1 | exact stJ e1 | exact stA e1 | exact b32 e1 | exact d32 e1 | exact u32 e1 | exact b64 e1 | exact d64 e1 | exact s64 e1 | exact u64 e1
    | (cases e1; rfl)
    | (cases e1; done)
    | (split at e1 <;> first
        | exact st e1 | exact br e1 | (cases e1; rfl) | (cases e1; done)
        | (split at e1 <;> first | (cases e1; rfl) | cases e1 | exact st e1))
theorem own_heap_mono {mt : OMth} {d lo : Nat} {i : Instr} {t pc' : Nat} {L L' : List Slot} {S S' : List Value} {H H' : OHeap} (hs : own_heap P mt d lo i t L S H = some (pc', L', S', H')) : L' = L ∧ H.length ≤ H'.length ∧ own_w P.2.1 H ≤ own_w P.2.1 H' := by
  have app : ∀ c : OCell, H.length ≤ (H ++ [c]).length ∧ own_w P.2.1 H ≤ own_w P.2.1 (H ++ [c]) := fun c => ⟨by simp, by rw [own_w_app]; exact Nat.le_add_right _ _⟩
  have set : ∀ {a : Nat} {c c' : OCell}, H[a]? = some c → own_cw P.2.1 c' = own_cw P.2.1 c → H.length ≤ (H.set a c').length ∧ own_w P.2.1 H ≤ own_w P.2.1 (H.set a c') := fun h1 h2 => ⟨by simp, by rw [own_w_set h1 h2]; exact Nat.le_refl _⟩
  have ald : ∀ {ty}, own_ald ty t L S H = some (pc', L', S', H') → L' = L ∧ H.length ≤ H'.length ∧ own_w P.2.1 H ≤ own_w P.2.1 H' := by
    intro ty h
    unfold own_ald at h
    split at h <;> try cases h
    split at h <;> try cases h
    split at h <;> try cases h
    split at h <;> cases h
    exact ⟨rfl, Nat.le_refl _, Nat.le_refl _⟩
  have ast : ∀ {ty}, own_ast ty t L S H = some (pc', L', S', H') → L' = L ∧ H.length ≤ H'.length ∧ own_w P.2.1 H ≤ own_w P.2.1 H' := by
    intro ty h
    unfold own_ast at h
    split at h <;> try cases h
    split at h <;> try cases h
    rename_i vs ha
    split at h <;> try cases h
    split at h <;> try cases h
    split at h <;> cases h
    exact ⟨rfl, set (own_arr_at ha) (by simp [own_cw])⟩
  cases i with
  | getfield x =>
    simp only [own_heap] at hs
    split at hs <;> try cases hs
    split at hs <;> try cases hs
    split at hs <;> try cases hs
    split at hs <;> cases hs
    exact ⟨rfl, Nat.le_refl _, Nat.le_refl _⟩
  | putfield x =>
    simp only [own_heap] at hs
    split at hs <;> try cases hs
    split at hs <;> try cases hs
    split at hs <;> try cases hs
    rename_i vs ho
    split at hs <;> try cases hs
    split at hs <;> try cases hs
    split at hs <;> cases hs
    exact ⟨rfl, set (own_obj_at ho) rfl⟩
  | new x =>
    simp only [own_heap] at hs
    split at hs <;> try cases hs
    split at hs <;> cases hs
    exact ⟨rfl, app _⟩
  | newarray x =>
    simp only [own_heap] at hs
    split at hs <;> try cases hs
    split at hs <;> try cases hs
    split at hs <;> cases hs
    exact ⟨rfl, app _⟩
  | arraylength =>
    simp only [own_heap] at hs
    split at hs <;> try cases hs
    split at hs <;> cases hs
    exact ⟨rfl, Nat.le_refl _, Nat.le_refl _⟩
  | iaload => exact ald hs
  | laload => exact ald hs
  | caload => exact ald hs
  | baload => exact ald hs
  | iastore => exact ast hs
  | lastore => exact ast hs
  | castore => exact ast hs
  | bastore => exact ast hs
  | ldc x => simp only [own_heap] at hs; split at hs <;> cases hs; exact ⟨rfl, Nat.le_refl _, Nat.le_refl _⟩
  | ldc_w x => simp only [own_heap] at hs; split at hs <;> cases hs; exact ⟨rfl, Nat.le_refl _, Nat.le_refl _⟩
  | ldc2_w x => simp only [own_heap] at hs; split at hs <;> cases hs; exact ⟨rfl, Nat.le_refl _, Nat.le_refl _⟩
  | checkcast x =>
    simp only [own_heap] at hs
    split at hs <;> try cases hs
    split at hs <;> try cases hs
    split at hs <;> cases hs
    exact ⟨rfl, Nat.le_refl _, Nat.le_refl _⟩
  | invokespecial x =>
    simp only [own_heap] at hs
    split at hs <;> try cases hs
    split at hs <;> try cases hs
    split at hs <;> cases hs
    exact ⟨rfl, Nat.le_refl _, Nat.le_refl _⟩
  | invokestatic x =>
    simp only [own_heap] at hs
    split at hs <;> try cases hs
    split at hs <;> try cases hs
    split at hs <;> try cases hs
    split at hs <;> try cases hs
    rename_i vd hb'
    split at hs <;> try cases hs
    split at hs <;> try cases hs
    split at hs <;> try cases hs
    split at hs <;> cases hs
    rename_i hh
    refine ⟨rfl, set (own_arr_at hb') ?_⟩
    simp only [own_cw, List.length_append, List.length_take, List.length_drop]; omega
  | invokevirtual x =>
    simp only [own_heap] at hs
    split at hs <;> try cases hs
    split at hs <;> try cases hs
    split at hs <;> try cases hs
    split at hs <;> cases hs
    exact ⟨rfl, app _⟩
  | _ => exact nomatch (show (none : Option OSt) = some _ from hs)
theorem own_step_mono {mt : OMth} {d lo : Nat} {i : Instr} {t pc pc' : Nat} {L L' : List Slot} {S S' : List Value} {H H' : OHeap} (hs : own_step P mt d lo i t pc L S H = some (pc', L', S', H')) : L'.length = L.length ∧ H.length ≤ H'.length ∧ own_w P.2.1 H ≤ own_w P.2.1 H' := by
  unfold own_step at hs
  split at hs
  · rename_i e1
    cases hs
    exact ⟨own_pure_len e1, Nat.le_refl _, Nat.le_refl _⟩
  · obtain ⟨rfl, h1, h2⟩ := own_heap_mono hs
    exact ⟨rfl, h1, h2⟩
theorem own_ret_none {mt : OMth} {i : Instr} {S : List Value} {v : Option Value} (h : own_ret mt i S = some v) (hr : mt.rt = none) : v = none := by
  unfold own_ret at h
  rw [hr] at h
  split at h <;> try cases h
  all_goals (split at h <;> first | (cases h; rfl) | (cases h; done))
theorem own_exec_mono : ∀ (q i d lo pc : Nat) (mt : OMth) (L : List Slot) (S : List Value) (H : OHeap) (v : Option Value) (H' : OHeap), P.1[i]? = some mt → own_exec P q i d lo pc L S H = some (v, H') → H.length ≤ H'.length ∧ own_w P.2.1 H ≤ own_w P.2.1 H' ∧ (mt.rt = none → v = none) := by
  intro q
  induction q with
  | zero => intro i d lo pc mt L S H v H' _ h; cases h
  | succ q ih =>
    intro i d lo pc mt L S H v H' hi h
    simp only [own_exec, hi] at h
    split at h
    · cases h
    · rename_i ins t hat
      split at h
      · rename_i w hw
        cases h
        exact ⟨Nat.le_refl _, Nat.le_refl _, own_ret_none hw⟩
      · split at h
        · rename_i j as r hc
          split at h
          · cases h
          · rename_i mj hj
            split at h
            · split at h
              · rename_i v1 H1 he
                obtain ⟨a1, a2, -⟩ := ih j _ _ _ mj _ _ _ _ _ hj he
                obtain ⟨b1, b2, b3⟩ := ih i _ _ _ mt _ _ _ _ _ hi h
                exact ⟨Nat.le_trans a1 b1, Nat.le_trans a2 b2, b3⟩
              · cases h
            · cases h
        · split at h
          · rename_i pc' L' S' H1 hs
            obtain ⟨-, a1, a2⟩ := own_step_mono hs
            obtain ⟨b1, b2, b3⟩ := ih i _ _ _ mt _ _ _ _ _ hi h
            exact ⟨Nat.le_trans a1 b1, Nat.le_trans a2 b2, b3⟩
          · cases h
/-! ### a program that makes nothing -/
theorem own_heap_nil (hK : P.2.1 = []) (hA : P.2.2 = []) {mt : OMth} {d lo : Nat} {i : Instr} {t pc' : Nat} {L L' : List Slot} {S S' : List Value} {H' : OHeap} (hs : own_heap P mt d lo i t L S [] = some (pc', L', S', H')) : H' = [] := by
  have arr : ∀ {a ty vs}, own_arr [] a ty = some vs → False := fun h => by simpa using own_arr_at h
  have obj : ∀ {a k vs}, own_obj [] a k = some vs → False := fun h => by simpa using own_obj_at h
  have ald : ∀ {ty}, own_ald ty t L S [] = some (pc', L', S', H') → H' = [] := by
    intro ty h
    unfold own_ald at h
    split at h <;> try cases h
  have ast : ∀ {ty}, own_ast ty t L S [] = some (pc', L', S', H') → H' = [] := by
    intro ty h
    unfold own_ast at h
    split at h <;> try cases h
  cases i with
  | getfield x =>
    simp only [own_heap] at hs
    split at hs <;> try cases hs
    split at hs <;> try cases hs
  | putfield x =>
    simp only [own_heap] at hs
    split at hs <;> try cases hs
    split at hs <;> try cases hs
  | new x =>
    simp only [own_heap, hK] at hs
    split at hs <;> try cases hs
  | newarray x =>
    simp only [own_heap, hA] at hs
    split at hs <;> try cases hs
    split at hs <;> try cases hs
  | arraylength =>
    simp only [own_heap] at hs
    split at hs <;> try cases hs
  | iaload => exact ald (ty := .int) hs
  | laload => exact ald (ty := .long) hs
  | caload => exact ald (ty := .char) hs
  | baload => exact ald (ty := .byte) hs
  | iastore => exact ast (ty := .int) hs
  | lastore => exact ast (ty := .long) hs
  | castore => exact ast (ty := .char) hs
  | bastore => exact ast (ty := .byte) hs
  | ldc x => simp only [own_heap] at hs; split at hs <;> cases hs; rfl
  | ldc_w x => simp only [own_heap] at hs; split at hs <;> cases hs; rfl
  | ldc2_w x => simp only [own_heap] at hs; split at hs <;> cases hs; rfl
  | checkcast x =>
    simp only [own_heap] at hs
    split at hs <;> try cases hs
    split at hs <;> try cases hs
  | invokespecial x =>
    simp only [own_heap] at hs
    split at hs <;> try cases hs
    split at hs <;> try cases hs
    split at hs <;> cases hs
    rfl
  | invokestatic x =>
    simp only [own_heap] at hs
    split at hs <;> try cases hs
    split at hs <;> try cases hs
  | invokevirtual x =>
    simp only [own_heap] at hs
    split at hs <;> try cases hs
    split at hs <;> try cases hs
  | _ => exact nomatch (show (none : Option OSt) = some _ from hs)
theorem own_exec_nil (hK : P.2.1 = []) (hA : P.2.2 = []) : ∀ (q i d lo pc : Nat) (L : List Slot) (S : List Value) {v : Option Value} (H' : OHeap), own_exec P q i d lo pc L S [] = some (v, H') → H' = [] := by
  intro q
  induction q with
  | zero => intro i d lo pc L S v H' h; cases h
  | succ q ih =>
    intro i d lo pc L S v H' h
    simp only [own_exec] at h
    split at h
    · cases h
    · split at h
      · cases h
      · split at h
        · cases h; rfl
        · split at h
          · split at h
            · cases h
            · split at h
              · split at h
                · rename_i he
                  cases ih _ _ _ _ _ _ _ he
                  exact ih _ _ _ _ _ _ _ h
                · cases h
              · cases h
          · split at h
            · rename_i hs
              unfold own_step at hs
              split at hs
              · cases hs; exact ih _ _ _ _ _ _ _ h
              · cases own_heap_nil hK hA hs
                exact ih _ _ _ _ _ _ _ h
            · cases h
/-! ### the run is the model's -/
def own_Snd (l : Launch) (Z : State) (n : Nat) (P : OPrg) (q : Nat) : Prop :=
  ∀ (i d lo pc : Nat) (mt : OMth) (L : List Slot) (S : List Value) (H : OHeap) (v : Option Value) (H' : OHeap), P.1[i]? = some mt → own_exec P q i d lo pc L S H = some (v, H') → L.length = mt.ml →
  ∀ (p : Program) (e : Env) (R : Room) (s : State) (m : MethodId) (args : Array Value) (below : List Frame) (meth : Method) (c : Code) (T : State) (locs : List Loc) (cells slots : Nat),
    Stand p l e R s m args below meth c T locs cells slots → p.tables.exec = Jvm.exec → Z.Warmed39 s.vm → c.code = mt.bs → c.maxLocals = mt.ml → s.vm.findClass mt.nm.cls = some m.cls → meth.sig.returnType = mt.rt → meth.name = mt.nm.name → (s.heap.size + cells = n + H.length ∨ (H = [] ∧ P.2.1 = [] ∧ P.2.2 = [])) →
    own_rep Z n P.2.1 H T.heap → Fr n locs → d ≤ R.frames → lo ≤ R.locals → cells + (H'.length - H.length) ≤ R.cells → slots + (own_w P.2.1 H' - own_w P.2.1 H) ≤ R.slots →
    ∃ (T' : State) (locs' : List Loc), Stand p l e R s m args below meth c T' locs' (cells + (H'.length - H.length)) (slots + (own_w P.2.1 H' - own_w P.2.1 H)) ∧ own_rep Z n P.2.1 H' T'.heap ∧ Fr n locs' ∧
      ∀ fs : List Frame, (∀ (f : JFrame) (acts : List Action), f.method = m → f.locked = none → f.entered = [] → (doReturn e (T'.setTop f) acts (v.map (own_sh n))).1 = T'.setFrames fs) → Steps p.tables e below (T.setTop (own_fr n m pc L S)) (T'.setFrames fs)
theorem own_met (G : own_good Z a0 P) {q : Nat} (hS : own_Snd l Z n P q) {j d lo : Nat} {mj : OMth} {as : List Value} {H H' : OHeap} {v : Option Value} (hj : P.1[j]? = some mj) (he : own_exec P q j d lo 0 (own_entry as mj.ml) [] H = some (v, H')) (hlen : (own_entry as mj.ml).length = mj.ml) (ws : List Jvm.Cond) (R : Room)
    (hdf : d ≤ R.frames) (hlo : lo ≤ R.locals) (hc : H'.length - H.length ≤ R.cells) (hs : own_w P.2.1 H' - own_w P.2.1 H ≤ R.slots) (h : Heap) (hr : own_rep Z n P.2.1 H h) :
    MetFree l mj.nm (head1 (Jvm.Cond.code mj.nm mj.bs mj.ml mj.rt :: ws) R) (fun a U => a = (as.map (own_sh n)).toArray ∧ Z.Warmed39 U.vm ∧ U.heap = h) (fun _ _ _ _ _ => True)
      (fun _ U o U' => ∃ w L, o = .returned w ∧ (w = v.map (own_sh n) ∧ own_rep Z n P.2.1 H' U'.heap ∧ Fr n L) ∧ FrameEnd U o U' L (H'.length - H.length) (own_w P.2.1 H' - own_w P.2.1 H)) := by
  obtain ⟨GM, -, -⟩ := G
  obtain ⟨hpl, -, -, -⟩ := GM mj (List.mem_of_getElem? hj)
  refine MetFree.of_bodySF hpl hisR ?_
  intro p e s m args below meth c s₁ Bd hml0 hP hK
  obtain ⟨rfl, hZ, hh⟩ := hP
  have hown := findClass_of_methodNamed Bd.named
  have hnm := (name_of_methodNamed Bd.named Bd.method).1
  have X0 : Stand p l e R s m _ below meth c s₁ [] 0 0 := Stand.of_body Bd
  have e0 : s₁.heap = h := by rw [← hh, Bd.state]; rfl
  obtain ⟨-, -, hvn⟩ := own_exec_mono q j d lo 0 mj _ _ _ _ _ hj he
  obtain ⟨T', locs', X', hr', N', st⟩ := hS j d lo 0 mj _ [] H v H' hj he hlen p e R s m _ below meth c s₁ [] 0 0 X0 Bd.exec hZ Bd.bytes hml0 hown Bd.returns hnm (Or.inl (by rw [hh, hr.1]; rfl)) (by rw [e0]; exact hr) (Fr.nil n) hdf hlo (by omega) (by omega)
  obtain ⟨fs, hl, hrun, hended, hW, hsame⟩ := X'.leave (v := v.map (own_sh n)) (fun h => by rw [Bd.returns] at h; rw [hvn h]; rfl)
  have ef : entryFrame m (as.map (own_sh n)).toArray mj.ml = own_fr n m 0 (own_entry as mj.ml) [] := by
    unfold entryFrame; rw [own_args_ok]; rfl
  refine ⟨_, _, castTop ef (st fs hl), hrun, hended, _, _, rfl, ⟨rfl, hr', N'⟩, ⟨_, rfl⟩, hW, hsame.mono (by omega) (by omega)⟩
theorem own_private {s : State} {args : Array Value} {y : MethodName} (hnf : NotFace s y) (hp : (Jvm.Cond.privateMethod y).before args s = true) (hi : (Jvm.Cond.instanceMethod y).before args s = true) (hy : own_okY y) : (Jvm.Cond.selects y.cls y y).before args s = true := by
  obtain ⟨mk, methM, hnamed, -, -, -⟩ := Cond.instanceMethod_spec hi
  obtain ⟨k, h1, h2⟩ := hnf mk hnamed
  exact selects_self_of_private (findClass_of_methodNamed hnamed) h1 h2 (Cond.privateMethod_at hp) hi hy
theorem own_same {s : State} {args : Array Value} {y : MethodName} (hnf : NotFace s y) (hi : (Jvm.Cond.instanceMethod y).before args s = true) (hy : own_okY y) : (Jvm.Cond.sameMethod y.cls y.cls y.name y.desc).before args s = true := by
  obtain ⟨mk, methM, hnamed, -, -, -⟩ := Cond.instanceMethod_spec hi
  obtain ⟨k, h1, h2⟩ := hnf mk hnamed
  have h3 := findClass_of_methodNamed hnamed
  have h4 := State.methodFound?_of_named hnamed hy
  have h5 : s.methodNamed? ⟨y.cls, y.name, y.desc⟩ = some mk := hnamed
  simp only [Cond.before, Cond.holds, Cond.value, h3, h4, h5, h1]
  simp [h2]
set_option maxHeartbeats 4000000 in
theorem own_call_ok (G : own_good Z a0 P) {q : Nat} (hS : own_Snd l Z n P q) {mt : OMth} (hM : mt ∈ P.1) {ins : Instr} {t pc len j d lo : Nat} {L : List Slot} {S as r : List Value} {H H1 : OHeap} {mj : OMth} {v : Option Value} (hc : own_call P mt ins S H = some (j, as, r)) (hj : P.1[j]? = some mj)
    (hq : 1 ≤ d ∧ own_wt r + (mj.ml + 11) ≤ lo ∧ (own_entry as mj.ml).length = mj.ml) (he : own_exec P q j (d - 1) (lo - (own_wt r + (mj.ml + 11))) 0 (own_entry as mj.ml) [] H = some (v, H1))
    {p : Program} {e : Env} {R : Room} {s : State} {m : MethodId} {args : Array Value} {below : List Frame} {meth : Method} {c : Code} {T : State} {locs : List Loc} {cells slots : Nat}
    (X : Stand p l e R s m args below meth c T locs cells slots) (hx : p.tables.exec = Jvm.exec) (hZ : Z.Warmed39 s.vm) (hml : c.maxLocals = mt.ml) (hown : s.vm.findClass mt.nm.cls = some m.cls)
    (hd : decode c.code pc = .ok (ins, len)) (ht : own_tgt pc len t ins = true) (hL : L.length = mt.ml)
    (hr : own_rep Z n P.2.1 H T.heap) (hf : Fr n locs) (hdf : d ≤ R.frames) (hlo : lo ≤ R.locals) (hce : cells + (H1.length - H.length) ≤ R.cells) (hsl : slots + (own_w P.2.1 H1 - own_w P.2.1 H) ≤ R.slots) :
    ∃ (T' : State) (locs' : List Loc), Stand p l e R s m args below meth c T' locs' (cells + (H1.length - H.length)) (slots + (own_w P.2.1 H1 - own_w P.2.1 H)) ∧ own_rep Z n P.2.1 H1 T'.heap ∧ Fr n locs' ∧
      ∀ target, Steps p.tables e below (T'.setTop (own_fr n m t L (v.toList ++ r))) target → Steps p.tables e below (T.setTop (own_fr n m pc L S)) target := by
  have G' := G
  obtain ⟨GM, GK, GA⟩ := G
  obtain ⟨-, -, -, GE⟩ := GM mt hM
  obtain ⟨-, wc, -, -⟩ := GM mj (List.mem_of_getElem? hj)
  have hz : (L.map (own_shS n)).toArray.size = c.maxLocals := by rw [hml, ← hL]; simp
  have ent : ∀ {x t}, own_ent mt.en x = some t → own_okE Z a0 P mt.nm x t := fun h => GE _ (own_ent_mem h)
  have ev : (v.toList ++ r).map (own_sh n) = (v.map (own_sh n)).toList ++ r.map (own_sh n) := by cases v <;> simp
  have hK := fun (wz : (Jvm.Cond.initialized mj.nm.cls).before a0 Z = true) => backOf (rm := ({ frames := d - 1, cells := H1.length - H.length, slots := own_w P.2.1 H1 - own_w P.2.1 H, locals := lo - (own_wt r + (mj.ml + 11)) } : Room)) (Q := fun w h' L => w = v.map (own_sh n) ∧ own_rep Z n P.2.1 H1 h' ∧ Fr n L) (l := l) (h := T.heap) (R := R) (below := below) (e := e) (args := args) (p := p) (W := own_wt r) (len := 3) (own_met G' hS hj he hq.2.2 [] ({ frames := d - 1, cells := H1.length - H.length, slots := own_w P.2.1 H1 - own_w P.2.1 H, locals := lo - (own_wt r + (mj.ml + 11)) } : Room) (Nat.le_refl _) (Nat.le_refl _) (Nat.le_refl _) (Nat.le_refl _) T.heap hr) hZ wc wz (by show d - 1 + 1 ≤ _; omega) (by show own_wt r + (mj.ml + 11) + (lo - (own_wt r + (mj.ml + 11))) ≤ _; omega)
  have hW : 2 * (own_fr n m pc L S).monitorRoom + ((r.map (own_sh n)).map fun v => v.category).sum ≤ own_wt r := by show 2 * 0 + _ ≤ _; rw [own_wt_sh]; omega
  have hpre : ∀ (a : Array Value), a = (as.map (own_sh n)).toArray → ∀ vm₁ : Vm, s.WarmedH vm₁ → (a = (as.map (own_sh n)).toArray ∧ (T.setVm vm₁).heap = T.heap ∧ cells + (H1.length - H.length) ≤ R.cells ∧ slots + (own_w P.2.1 H1 - own_w P.2.1 H) ≤ R.slots) := fun a ha vm₁ _ => ⟨ha, rfl, hce, hsl⟩
  cases ins with
  | invokestatic x =>
    obtain ⟨rfl, rfl⟩ := own_t ht
    simp only [own_call] at hc
    split at hc <;> try cases hc
    rename_i j' u1 u2 hen
    split at hc <;> try cases hc
    rename_i mj' hj'
    split at hc <;> cases hc
    rename_i hsp
    cases hj.symm.trans hj'
    obtain ⟨mj', g1, g2, g3, g4, g5, ps, rr, g6, g7⟩ := ent hen
    cases hj.symm.trans g1
    obtain ⟨s1, s2⟩ := own_split_ok hsp
    obtain ⟨w, vm₁, ⟨T1, L1, k1, n1⟩, -, X1, ⟨Lc, hQ, l1, y1, z1⟩, st⟩ := Jvm.LawKit.callS X hx (y := mj.nm) hown (mvT hZ g2) (mvT hZ g3) (mvT hZ g4) (mvT hZ wc) g5 (hK g4) (g := own_fr n m pc L S) rfl hz (argsL := as.map (own_sh n)) (rest := r.map (own_sh n)) (lenOf g6 (by rw [List.length_map, s2, ← g7]; simp)) (by show S.map (own_sh n) = _; rw [← List.map_reverse, ← List.map_append, s1]; rfl) hW hd (hpre _ rfl)
    dsimp only [Pt.U, Pt.locs, Pt.cells, Pt.slots] at X1 l1 y1 z1 st hQ
    subst l1 y1 z1
    obtain ⟨rfl, q2, q3⟩ := hQ
    refine ⟨T1, _, X1, q2, Fr.app hf q3, fun target k => st target ?_⟩
    rw [← ev]; exact k
  | invokespecial x =>
    obtain ⟨rfl, rfl⟩ := own_t ht
    simp only [own_call] at hc
    split at hc
    · rename_i j' u1 u2 hen
      split at hc <;> try cases hc
      rename_i mj' hj'
      split at hc <;> cases hc
      rename_i a as' hsp
      cases hj.symm.trans hj'
      obtain ⟨mj', g1, g2, g3, g4, g5, g6, g7, ps, rr, g8, g9⟩ := ent hen
      cases hj.symm.trans g1
      obtain ⟨s1, s2⟩ := own_split_ok hsp
      simp only [List.length_cons, List.length_nil] at s2
      obtain ⟨w, vm₁, ⟨T1, L1, k1, n1⟩, -, X1, ⟨Lc, hQ, l1, y1, z1⟩, st⟩ := X.specialBack hx (y := mj.nm) g2 hown (mvT hZ g4) (mvT hZ g5) (mvT hZ (show (Jvm.Cond.code mj.nm mj.bs mj.ml none).before a0 Z = true from g3 ▸ wc)) g7 (hK g6) (g := own_fr n m pc L S) rfl hz (Steps.refl _) (a := n + a) (argsL := as'.map (own_sh n)) (rest := r.map (own_sh n)) (lenOf g8 (by rw [List.length_map]; omega)) (by
        show S.map (own_sh n) = _
        rw [show S = as'.reverse ++ .ref a :: r by simpa using s1.symm]
        simp [own_sh]) hW hd (hpre _ (by simp [own_sh]))
      dsimp only [Pt.U, Pt.locs, Pt.cells, Pt.slots] at X1 l1 y1 z1 st hQ
      subst l1 y1 z1
      obtain ⟨rfl, q2, q3⟩ := hQ
      refine ⟨T1, _, X1, q2, Fr.app hf q3, fun target k => st.trans ?_⟩
      rw [← ev]; exact k
    · rename_i j' k0 u2 hen
      split at hc <;> try cases hc
      rename_i mj' hj'
      split at hc <;> try cases hc
      rename_i a as' r' hsp
      split at hc <;> cases hc
      rename_i vs ho
      cases hj.symm.trans hj'
      obtain ⟨mj', kc, g1, g2, g3, g4, g5, g6, g7, g8, g9, ps, rr, g11, g12⟩ := ent hen
      cases hj.symm.trans g1
      obtain ⟨s1, s2⟩ := own_split_ok hsp
      simp only [List.length_cons, List.length_nil] at s2
      obtain ⟨kc', f1, f2, -, -⟩ := hr.2 a _ (own_obj_at ho)
      obtain ⟨w, vm₁, ⟨T1, L1, k1, n1⟩, -, X1, ⟨Lc, hQ, l1, y1, z1⟩, st⟩ := superBack X hx hZ (y := mj.nm) hown g4 (own_same g7 g5 g9) g5 g6 g3 (hK g8) rfl (Ins.self f2) (g := own_fr n m pc L S) rfl hz wc (argsL := as'.map (own_sh n)) (rest := r.map (own_sh n)) (lenOf g11 (by rw [List.length_map]; omega)) (by
        show S.map (own_sh n) = _
        rw [show S = as'.reverse ++ .ref a :: r by simpa using s1.symm]
        simp [own_sh]) hW hd (hpre _ (by simp [own_sh]))
      dsimp only [Pt.U, Pt.locs, Pt.cells, Pt.slots] at X1 l1 y1 z1 st hQ
      subst l1 y1 z1
      obtain ⟨rfl, q2, q3⟩ := hQ
      refine ⟨T1, _, X1, q2, Fr.app hf q3, fun target k => st.trans ?_⟩
      rw [← ev]; exact k
    · cases hc
  | invokevirtual x =>
    obtain ⟨rfl, rfl⟩ := own_t ht
    simp only [own_call] at hc
    split at hc
    · rename_i j' k0 u2 hen
      split at hc <;> try cases hc
      rename_i mj' hj'
      split at hc <;> try cases hc
      rename_i a as' r' hsp
      split at hc <;> cases hc
      rename_i vs ho
      cases hj.symm.trans hj'
      obtain ⟨mj', kc, yv, g1, g2, g3, g4, g5, g6, g7, g8, g9, g10, ps, rr, g11, g12⟩ := ent hen
      cases hj.symm.trans g1
      obtain ⟨s1, s2⟩ := own_split_ok hsp
      simp only [List.length_cons, List.length_nil] at s2
      obtain ⟨kc', f1, f2, -, -⟩ := hr.2 a _ (own_obj_at ho)
      cases g2.symm.trans f1
      obtain ⟨cq, kq, qa, qb, qc⟩ := isOf hZ rfl f2
      obtain ⟨w, vm₁, ⟨T1, L1, k1, n1⟩, -, X1, ⟨Lc, hQ, l1, y1, z1⟩, st⟩ := X.virtualBack hx (y := yv) (z := mj.nm) hown (mvT hZ g4) (mvT hZ g5) (g9 s hZ) (mvT hZ g6) (mvT hZ g7) g10 (hK g8) qa qc (g := own_fr n m pc L S) rfl hz (Steps.refl _) (argsL := as'.map (own_sh n)) (rest := r.map (own_sh n)) (by rw [g3]; exact lenOf g11 (by rw [List.length_map]; omega)) (by
        show S.map (own_sh n) = _
        rw [show S = as'.reverse ++ .ref a :: r by simpa using s1.symm]
        simp [own_sh]) hW hd (hpre _ (by simp [own_sh]))
      dsimp only [Pt.U, Pt.locs, Pt.cells, Pt.slots] at X1 l1 y1 z1 st hQ
      subst l1 y1 z1
      obtain ⟨rfl, q2, q3⟩ := hQ
      refine ⟨T1, _, X1, q2, Fr.app hf q3, fun target k => st.trans ?_⟩
      rw [← ev]; exact k
    · rename_i j' k0 u2 hen
      split at hc <;> try cases hc
      rename_i mj' hj'
      split at hc <;> try cases hc
      rename_i a as' r' hsp
      split at hc <;> cases hc
      rename_i vs ho
      cases hj.symm.trans hj'
      obtain ⟨mj', g1, g4, g5, g6, g7, g8, g9, ps, rr, g11, g12⟩ := ent hen
      cases hj.symm.trans g1
      obtain ⟨s1, s2⟩ := own_split_ok hsp
      simp only [List.length_cons, List.length_nil] at s2
      obtain ⟨kc', f1, f2, -, -⟩ := hr.2 a _ (own_obj_at ho)
      obtain ⟨cq, qa, qb⟩ := f2.cell
      have wp := mvP (args := args) hZ g6
      have wi := mvT (args := args) hZ g5
      obtain ⟨w, vm₁, ⟨T1, L1, k1, n1⟩, -, X1, ⟨Lc, hQ, l1, y1, z1⟩, st⟩ := X.privateBack hx (y := mj.nm) hown (mvT hZ g4) wi (own_private (g7 s hZ) wp wi g9) (Cond.privateMethod_at wp) (mvT hZ wc) g9 (hK g8) (g := own_fr n m pc L S) rfl hz (Steps.refl _) (a := n + a) qa qb (argsL := as'.map (own_sh n)) (rest := r.map (own_sh n)) (lenOf g11 (by rw [List.length_map]; omega)) (by
        show S.map (own_sh n) = _
        rw [show S = as'.reverse ++ .ref a :: r by simpa using s1.symm]
        simp [own_sh]) hW hd (hpre _ (by simp [own_sh]))
      dsimp only [Pt.U, Pt.locs, Pt.cells, Pt.slots] at X1 l1 y1 z1 st hQ
      subst l1 y1 z1
      obtain ⟨rfl, q2, q3⟩ := hQ
      refine ⟨T1, _, X1, q2, Fr.app hf q3, fun target k => st.trans ?_⟩
      rw [← ev]; exact k
    · rename_i j' k0 u2 hen
      split at hc <;> try cases hc
      rename_i mj' hj'
      split at hc <;> try cases hc
      rename_i a as' r' hsp
      split at hc <;> cases hc
      rename_i vs ho
      cases hj.symm.trans hj'
      obtain ⟨mj', kc, yv, ow, g1, g2, g3, g4, g5, g6, g7, g8, g9, g10, ps, rr, g11, g12⟩ := ent hen
      cases hj.symm.trans g1
      obtain ⟨s1, s2⟩ := own_split_ok hsp
      simp only [List.length_cons, List.length_nil] at s2
      obtain ⟨kc', f1, f2, -, -⟩ := hr.2 a _ (own_obj_at ho)
      cases g2.symm.trans f1
      obtain ⟨cq, kq, qa, qb, qc⟩ := isOf hZ rfl f2
      obtain ⟨w, vm₁, ⟨T1, L1, k1, n1⟩, -, X1, ⟨Lc, hQ, l1, y1, z1⟩, st⟩ := X.virtualBackUp hx (x := yv) (y := mj.nm) (owner := ow) hown (mvT hZ g4) (mvT hZ g5) (mvT hZ g6) g10 (mvT hZ g7) (mvT hZ g8) (hK g9) qa qc (g := own_fr n m pc L S) rfl hz (Steps.refl _) (argsL := as'.map (own_sh n)) (rest := r.map (own_sh n)) (by rw [g3]; exact lenOf g11 (by rw [List.length_map]; omega)) (by
        show S.map (own_sh n) = _
        rw [show S = as'.reverse ++ .ref a :: r by simpa using s1.symm]
        simp [own_sh]) hW hd (hpre _ (by simp [own_sh]))
      dsimp only [Pt.U, Pt.locs, Pt.cells, Pt.slots] at X1 l1 y1 z1 st hQ
      subst l1 y1 z1
      obtain ⟨rfl, q2, q3⟩ := hQ
      refine ⟨T1, _, X1, q2, Fr.app hf q3, fun target k => st.trans ?_⟩
      rw [← ev]; exact k
    · cases hc
  | _ => exact nomatch (show (none : Option (Nat × List Value × List Value)) = some _ from hc)
theorem own_ret_ok {mt : OMth} {i : Instr} {S : List Value} {v : Option Value} (h : own_ret mt i S = some v) {pc len t : Nat} {L : List Slot}
    {p : Program} {e : Env} {R : Room} {s : State} {m : MethodId} {args : Array Value} {below : List Frame} {meth : Method} {c : Code} {T : State} {locs : List Loc} {cells slots : Nat}
    (X : Stand p l e R s m args below meth c T locs cells slots) (hx : p.tables.exec = Jvm.exec) (hret : meth.sig.returnType = mt.rt) (hd : decode c.code pc = .ok (i, len)) (ht : own_tgt pc len t i = true) {fs : List Frame}
    (hl : ∀ (f : JFrame) (acts : List Action), f.method = m → f.locked = none → f.entered = [] → (doReturn e (T.setTop f) acts (v.map (own_sh n))).1 = T.setFrames fs) : Steps p.tables e below (T.setTop (own_fr n m pc L S)) (T.setFrames fs) := by
  cases i with
  | return_ =>
    obtain ⟨rfl, rfl⟩ := own_t ht
    simp only [own_ret] at h
    split at h <;> cases h
    rename_i h1
    exact X.returnOut hx (hret.trans h1) hd hl
  | ireturn =>
    obtain ⟨rfl, rfl⟩ := own_t ht
    simp only [own_ret] at h
    split at h <;> cases h
    · rename_i h1
      exact retOut X hx (hret.trans h1) rfl (Or.inl ⟨rfl, Or.inl rfl, _, rfl⟩) hd hl
    · rename_i h1
      exact retN X hx (t := .boolean) (hret.trans h1) (by simp) hd hl
    · rename_i h1
      exact retN X hx (t := .byte) (hret.trans h1) (by simp) hd hl
    · rename_i h1
      exact retN X hx (t := .char) (hret.trans h1) (by simp) hd hl
    · rename_i h1
      exact retN X hx (t := .short) (hret.trans h1) (by simp) hd hl
  | lreturn =>
    obtain ⟨rfl, rfl⟩ := own_t ht
    simp only [own_ret] at h
    split at h <;> cases h
    rename_i h1
    exact retOut X hx (hret.trans h1) rfl (Or.inr (Or.inl ⟨rfl, rfl, _, rfl⟩)) hd hl
  | areturn =>
    obtain ⟨rfl, rfl⟩ := own_t ht
    simp only [own_ret] at h
    split at h <;> cases h
    all_goals
      rename_i h1
      exact retOut X hx (hret.trans h1) rfl (Or.inr (Or.inr (Or.inr (Or.inr ⟨rfl, rfl, rfl⟩)))) hd hl
  | _ => exact nomatch (show (none : Option (Option Value)) = some _ from h)
theorem own_sound (l : Launch) {n : Nat} (G : own_good Z a0 P) : ∀ q, own_Snd l Z n P q := by
  intro q
  induction q with
  | zero => intro i d lo pc mt L S H v H' _ h; cases h
  | succ q ih =>
    intro i d lo pc mt L S H v H' hi h hL p e R s m args below meth c T locs cells slots X hx hZ hby hml hown hret hnm hb hr hf hdf hlo hce hsl
    have hM : mt ∈ P.1 := List.mem_of_getElem? hi
    obtain ⟨-, -, hcd, -⟩ := G.1 mt hM
    simp only [own_exec, hi] at h
    split at h
    · cases h
    · rename_i ins t hat
      obtain ⟨len, hd0, ht⟩ := own_at_ok hcd hat
      have hd : decode c.code pc = .ok (ins, len) := by rw [hby]; exact hd0
      split at h
      · rename_i w hw
        cases h
        refine ⟨T, locs, ?_, hr, hf, fun fs hl => own_ret_ok hw X hx hret hd ht hl⟩
        rw [Nat.sub_self, Nat.sub_self]; exact X
      · split at h
        · rename_i j as r hc
          split at h
          · cases h
          · rename_i mj hj
            split at h
            · rename_i hq
              split at h
              · rename_i v1 H1 he
                obtain ⟨a1, a2, -⟩ := own_exec_mono q j _ _ _ mj _ _ _ _ _ hj he
                obtain ⟨b1, b2, -⟩ := own_exec_mono q i _ _ _ mt _ _ _ _ _ hi h
                obtain ⟨T1, locs1, X1, hr1, hf1, st1⟩ := own_call_ok G ih hM hc hj hq he X hx hZ hml hown hd ht hL hr hf hdf hlo (by omega) (by omega)
                obtain ⟨T2, locs2, X2, hr2, hf2, st2⟩ := ih i d lo t mt L _ H1 v H' hi h hL p e R s m args below meth c T1 locs1 _ _ X1 hx hZ hby hml hown hret hnm (hb.elim (fun q => Or.inl (by omega)) fun q => Or.inr ⟨own_exec_nil q.2.1 q.2.2 _ _ _ _ _ _ _ _ (by have := he; rw [q.1] at this; exact this), q.2⟩) hr1 hf1 hdf hlo (by omega) (by omega)
                exact ⟨T2, locs2, X2.more (by omega) (by omega), hr2, hf2, fun fs hl => st1 _ (st2 fs hl)⟩
              · cases h
            · cases h
        · split at h
          · rename_i pc' L' S' H1 hs
            obtain ⟨a0, a1, a2⟩ := own_step_mono hs
            obtain ⟨b1, b2, -⟩ := own_exec_mono q i _ _ _ mt _ _ _ _ _ hi h
            unfold own_step at hs
            split at hs
            · rename_i e1
              cases hs
              obtain ⟨T2, locs2, X2, hr2, hf2, st2⟩ := ih i d lo pc' mt L' S' H v H' hi h (by omega) p e R s m args below meth c T locs cells slots X hx hZ hby hml hown hret hnm hb hr hf hdf hlo hce hsl
              exact ⟨T2, locs2, X2, hr2, hf2, fun fs hl => (own_pure_ok X.here hx hd ht e1 (st2 fs hl)).1⟩
            · obtain ⟨rfl, -, -, T1, locs1, X1, hr1, hf1, st1⟩ := own_heap_ok G hM hs X hx hZ hml hown hnm hd ht hL hb hr hf hdf hlo (by omega) (by omega)
              obtain ⟨T2, locs2, X2, hr2, hf2, st2⟩ := ih i d lo pc' mt L' S' H1 v H' hi h hL p e R s m args below meth c T1 locs1 _ _ X1 hx hZ hby hml hown hret hnm (hb.elim (fun q => Or.inl (by omega)) fun q => Or.inr ⟨own_heap_nil q.2.1 q.2.2 (by have := hs; rw [q.1] at this; exact this), q.2⟩) hr1 hf1 hdf hlo (by omega) (by omega)
              exact ⟨T2, locs2, X2.more (by omega) (by omega), hr2, hf2, fun fs hl => st1 _ (st2 fs hl)⟩
          · cases h
end OwnMain
/-! ## RUNS: with fuel enough -/
def own_run (P : OPrg) (i d lo pc : Nat) (L : List Slot) (S : List Value) (H : OHeap) (r : Option Value × OHeap) : Prop := ∃ q, own_exec P q i d lo pc L S H = some r
section OwnRun
variable {P : OPrg} {mt : OMth} {d d' lo lo' : Nat} {ins : Instr} {t pc : Nat} {L : List Slot} {S : List Value} {H : OHeap}
theorem own_heap_more {z : OSt} (hd : d ≤ d') (hl : lo ≤ lo') (h : own_heap P mt d lo ins t L S H = some z) : own_heap P mt d' lo' ins t L S H = some z := by
  cases ins with
  | invokespecial x =>
    simp only [own_heap] at h ⊢
    split at h <;> try cases h
    split at h <;> try cases h
    split at h <;> cases h
    rename_i hq
    rw [if_pos ⟨Nat.le_trans hq.1 hd, Nat.le_trans hq.2 hl⟩]
  | invokestatic x =>
    simp only [own_heap] at h ⊢
    split at h <;> try cases h
    split at h <;> try cases h
    split at h <;> try cases h
    rename_i e1
    split at h <;> try cases h
    rename_i e2
    split at h <;> try cases h
    rename_i e3
    split at h <;> try cases h
    rename_i e4
    split at h <;> try cases h
    rename_i e5
    split at h <;> cases h
    rename_i hq
    rw [if_pos ⟨⟨Nat.le_trans hq.1.1 hd, Nat.le_trans hq.1.2 hl⟩, hq.2⟩]
  | invokevirtual x =>
    simp only [own_heap] at h ⊢
    split at h <;> try cases h
    split at h <;> try cases h
    split at h <;> try cases h
    rename_i e1
    split at h <;> cases h
    rename_i hq
    rw [if_pos ⟨Nat.le_trans hq.1 hd, Nat.le_trans hq.2 hl⟩]
  | _ => exact h
theorem own_step_more {z : OSt} (hd : d ≤ d') (hl : lo ≤ lo') (h : own_step P mt d lo ins t pc L S H = some z) : own_step P mt d' lo' ins t pc L S H = some z := by
  unfold own_step at h ⊢
  split
  · rename_i e; simp only [e] at h; exact h
  · rename_i e; simp only [e] at h; exact own_heap_more hd hl h
end OwnRun
theorem own_exec_more {P : OPrg} : ∀ (q : Nat) {q' i d d' lo lo' pc : Nat} {L : List Slot} {S : List Value} {H : OHeap} {r : Option Value × OHeap}, q ≤ q' → d ≤ d' → lo ≤ lo' → own_exec P q i d lo pc L S H = some r → own_exec P q' i d' lo' pc L S H = some r := by
  intro q
  induction q with
  | zero => intro q' i d d' lo lo' pc L S H r _ _ _ h; cases h
  | succ q ih =>
    intro q' i d d' lo lo' pc L S H r hq hd hl h
    obtain ⟨q', rfl⟩ : ∃ k, q' = k + 1 := ⟨q' - 1, by omega⟩
    have hq' : q ≤ q' := by omega
    simp only [own_exec] at h ⊢
    split
    · rename_i e; simp only [e] at h; cases h
    · rename_i mt e; simp only [e] at h
      split
      · rename_i e1; simp only [e1] at h; cases h
      · rename_i ins t e1; simp only [e1] at h
        split
        · rename_i v e2; simp only [e2] at h; exact h
        · rename_i e2; simp only [e2] at h
          split
          · rename_i j as r' e3; simp only [e3] at h
            split
            · rename_i e4; simp only [e4] at h; cases h
            · rename_i mj e4; simp only [e4] at h
              split at h
              · rename_i hc
                rw [if_pos ⟨Nat.le_trans hc.1 hd, Nat.le_trans hc.2.1 hl, hc.2.2⟩]
                split at h
                · rename_i v H' e5
                  have e6 := ih hq' (show d - 1 ≤ d' - 1 by omega) (show lo - (own_wt r' + (mj.ml + 11)) ≤ lo' - (own_wt r' + (mj.ml + 11)) by omega) e5
                  simp only [e6]
                  exact ih hq' hd hl h
                · cases h
              · cases h
          · rename_i e3; simp only [e3] at h
            split at h
            · rename_i e4
              simp only [own_step_more hd hl e4]
              exact ih hq' hd hl h
            · cases h
section OwnRun
variable {P : OPrg} {i d d' lo lo' pc : Nat} {L : List Slot} {S : List Value} {H : OHeap} {r : Option Value × OHeap}
theorem own_run.more (hd : d ≤ d') (hl : lo ≤ lo') (h : own_run P i d lo pc L S H r) : own_run P i d' lo' pc L S H r := h.imp fun q hq => own_exec_more q (Nat.le_refl _) hd hl hq
theorem own_run.fuel (q : Nat) (h : own_exec P q i d lo pc L S H = some r) : own_run P i d lo pc L S H r := ⟨q, h⟩
/-- so many steps of the frame and the heap, no call among them -/
def own_go (P : OPrg) (mt : OMth) (d lo : Nat) : Nat → Nat → List Slot → List Value → OHeap → Option OSt
  | 0, pc, L, S, H => some (pc, L, S, H)
  | q + 1, pc, L, S, H =>
    match own_at mt pc with
    | none => none
    | some (ins, t) =>
      match own_ret mt ins S with
      | some _ => none
      | none =>
        match own_call P mt ins S H with
        | some _ => none
        | none =>
          match own_step P mt d lo ins t pc L S H with
          | some (pc', L', S', H') => own_go P mt d lo q pc' L' S' H'
          | none => none
theorem own_run.go {mt : OMth} (hi : P.1[i]? = some mt) (q : Nat) : ∀ {pc pc' : Nat} {L L' : List Slot} {S S' : List Value} {H H' : OHeap}, own_go P mt d lo q pc L S H = some (pc', L', S', H') → own_run P i d lo pc' L' S' H' r → own_run P i d lo pc L S H r := by
  induction q with
  | zero => intro pc pc' L L' S S' H H' h k; cases h; exact k
  | succ q ih =>
    intro pc pc' L L' S S' H H' h k
    simp only [own_go] at h
    split at h
    · cases h
    · rename_i ins t e1
      split at h
      · cases h
      · rename_i e2
        split at h
        · cases h
        · rename_i e3
          split at h
          · rename_i e4
            obtain ⟨f, hf⟩ := ih h k
            exact ⟨f + 1, by simp only [own_exec, hi, e1, e2, e3, e4]; exact hf⟩
          · cases h
theorem own_run.ret {mt : OMth} (hi : P.1[i]? = some mt) {ins : Instr} {t : Nat} {v : Option Value} (h1 : own_at mt pc = some (ins, t)) (h2 : own_ret mt ins S = some v) : own_run P i d lo pc L S H (v, H) := ⟨1, by simp only [own_exec, hi, h1, h2]⟩
theorem own_run.call {mt mj : OMth} (hi : P.1[i]? = some mt) {ins : Instr} {t j : Nat} {as r' : List Value} {v : Option Value} {H' : OHeap} (h1 : own_at mt pc = some (ins, t)) (h2 : own_ret mt ins S = none) (h3 : own_call P mt ins S H = some (j, as, r')) (hj : P.1[j]? = some mj)
    (h4 : 1 ≤ d ∧ own_wt r' + (mj.ml + 11) ≤ lo ∧ (own_entry as mj.ml).length = mj.ml) (k1 : own_run P j (d - 1) (lo - (own_wt r' + (mj.ml + 11))) 0 (own_entry as mj.ml) [] H (v, H')) (k2 : own_run P i d lo t L (v.toList ++ r') H' r) : own_run P i d lo pc L S H r := by
  obtain ⟨q1, e1⟩ := k1
  obtain ⟨q2, e2⟩ := k2
  refine ⟨max q1 q2 + 1, ?_⟩
  simp only [own_exec, hi, h1, h2, h3, hj, if_pos h4, own_exec_more q1 (Nat.le_max_left q1 q2) (Nat.le_refl _) (Nat.le_refl _) e1]
  exact own_exec_more q2 (Nat.le_max_right q1 q2) (Nat.le_refl _) (Nat.le_refl _) e2
end OwnRun
/-- a run of the law that ends: the model's -/
theorem own_law (l : Launch) {Z : State} {a0 : Array Value} {P : OPrg} (G : own_good Z a0 P) {mt : OMth} (hi : P.1[0]? = some mt) {as : List Value} {v : Option Value} {H' : OHeap} {d lo : Nat} (hlen : (own_entry as mt.ml).length = mt.ml) (h : own_run P 0 d lo 0 (own_entry as mt.ml) [] [] (v, H')) (ws : List Jvm.Cond) (R : Room)
    (hdf : d ≤ R.frames) (hlo : lo ≤ R.locals) (hc : H'.length ≤ R.cells) (hs : own_w P.2.1 H' ≤ R.slots) :
    MetFree l mt.nm (head1 (Jvm.Cond.code mt.nm mt.bs mt.ml mt.rt :: ws) R) (fun a U => a = (as.map (own_sh Z.heap.size)).toArray ∧ Z.Warmed39 U.vm ∧ U.heap = Z.heap) (fun _ _ _ _ _ => True)
      (fun _ U o U' => ∃ w L, o = .returned w ∧ (w = v.map (own_sh Z.heap.size) ∧ Fr Z.heap.size L) ∧ FrameEnd U o U' L H'.length (own_w P.2.1 H')) := by
  obtain ⟨q, h⟩ := h
  have h0 : own_w P.2.1 [] = 0 := rfl
  have hr : own_rep Z Z.heap.size P.2.1 [] Z.heap := ⟨rfl, fun i c hc => by simp at hc⟩
  have M := own_met G (own_sound l G q) hi h hlen ws R hdf hlo (by simpa using hc) (by rw [h0]; simpa using hs) Z.heap hr
  refine M.mono (fun _ _ h => h) (fun _ _ _ _ _ h => h) (fun _ _ o U' _ h => ?_)
  obtain ⟨w, L, e1, ⟨e2, -, e3⟩, e4⟩ := h
  refine ⟨w, L, e1, ⟨e2, e3⟩, ?_⟩
  rw [h0] at e4
  exact e4
/-! ### one law an entry -/
section OwnEnts
variable {Z : State} {a0 : Array Value} {P : OPrg} {y : MethodName} {x : Nat}
theorem own_e0 {j a : Nat} {b : Int} {mj : OMth} (h1 : P.1[j]? = some mj) (h2 : (Jvm.Cond.methodLink y.cls x mj.nm).before a0 Z = true) (h3 : (Jvm.Cond.static mj.nm).before a0 Z = true) (h4 : (Jvm.Cond.initialized mj.nm.cls).before a0 Z = true) (h5 : own_okY mj.nm) (h6 : own_okD 0 mj) : own_okE Z a0 P y x (0, j, a, b) := ⟨mj, h1, h2, h3, h4, h5, h6⟩
theorem own_e1 {j a : Nat} {b : Int} {mj : OMth} (h1 : P.1[j]? = some mj) (g1 : mj.nm.name = "<init>") (g2 : mj.rt = none) (h2 : (Jvm.Cond.methodLink y.cls x mj.nm).before a0 Z = true) (h3 : (Jvm.Cond.instanceMethod mj.nm).before a0 Z = true) (h4 : (Jvm.Cond.initialized mj.nm.cls).before a0 Z = true) (h5 : own_okY mj.nm) (h6 : own_okD 1 mj) : own_okE Z a0 P y x (1, j, a, b) := ⟨mj, h1, g1, g2, h2, h3, h4, h5, h6⟩
theorem own_e2 {j a : Nat} {b : Int} (h1 : (Jvm.Cond.methodLink y.cls x Lib.objectInit).before a0 Z = true) (h2 : (Jvm.Cond.instanceMethod Lib.objectInit).before a0 Z = true) (h3 : (Jvm.Cond.code Lib.objectInit ⟨#[0xb1]⟩ 1 none).before a0 Z = true) : own_okE Z a0 P y x (2, j, a, b) := ⟨h1, h2, h3⟩
theorem own_e3 {j k : Nat} {b : Int} {mj : OMth} {c : OKls} {v : MethodName} (h1 : P.1[j]? = some mj) (h2 : P.2.1[k]? = some c) (h3 : v.desc = mj.nm.desc) (h4 : (Jvm.Cond.methodLink y.cls x v).before a0 Z = true) (h5 : (Jvm.Cond.declares v).before a0 Z = true) (h6 : (Jvm.Cond.selects c.1 v mj.nm).before a0 Z = true) (h7 : (Jvm.Cond.instanceMethod mj.nm).before a0 Z = true) (h8 : (Jvm.Cond.initialized mj.nm.cls).before a0 Z = true) (h9 : ∀ s : State, Z.Warmed39 s.vm → NotFace s v) (h10 : own_okY v) (h11 : own_okD 1 mj) : own_okE Z a0 P y x (3, j, k, b) := ⟨mj, c, v, h1, h2, h3, h4, h5, h6, h7, h8, h9, h10, h11⟩
theorem own_e4 {j k : Nat} {b : Int} {mj : OMth} (h1 : P.1[j]? = some mj) (h2 : (Jvm.Cond.methodLink y.cls x mj.nm).before a0 Z = true) (h3 : (Jvm.Cond.instanceMethod mj.nm).before a0 Z = true) (h4 : (Jvm.Cond.privateMethod mj.nm).before a0 Z = true) (h5 : ∀ s : State, Z.Warmed39 s.vm → NotFace s mj.nm) (h6 : (Jvm.Cond.initialized mj.nm.cls).before a0 Z = true) (h7 : own_okY mj.nm) (h8 : own_okD 1 mj) : own_okE Z a0 P y x (4, j, k, b) := ⟨mj, h1, h2, h3, h4, h5, h6, h7, h8⟩
theorem own_e6 {k j : Nat} {u : Int} {c : OKls} {f : OFld} {R0 : String} (h1 : P.2.1[k]? = some c) (h2 : c.2.2[j]? = some f) (h3 : (Jvm.Cond.fieldLink y.cls x R0 f.2.1 f.2.2.1).before a0 Z = true) (h4 : Via Z R0 f.1 f.2.1 f.2.2.1) (h5 : u = 1 → (Jvm.Cond.lays c.1 f.1 f.2.1 f.2.2.1).before a0 Z = true ∨ ((Jvm.Cond.laysFinal c.1 f.1 f.2.1 f.2.2.1).before a0 Z = true ∧ y.cls = f.1 ∧ y.name = "<init>")) : own_okE Z a0 P y x (6, k, j, u) := ⟨c, f, R0, h1, h2, h3, h4, h5⟩
theorem own_e7 {k j : Nat} {u : Int} {c : OKls} (h1 : P.2.1[k]? = some c) (h2 : (Jvm.Cond.classLink y.cls x c.1).before a0 Z = true) : own_okE Z a0 P y x (7, k, j, u) := ⟨c, h1, h2⟩
theorem own_e8 {k j : Nat} {u : Int} {w : Int32} (h1 : Int32.ofInt u = w) (h2 : (Jvm.Cond.constant y.cls x w).before a0 Z = true) : own_okE Z a0 P y x (8, k, j, u) := by subst h1; exact h2
theorem own_e9 {k j : Nat} {u : Int} {w : Int64} (h1 : Int64.ofInt u = w) (h2 : (Jvm.Cond.constantLong y.cls x w).before a0 Z = true) : own_okE Z a0 P y x (9, k, j, u) := by subst h1; exact h2
theorem own_e10 {k j : Nat} {u : Int} (h1 : (Jvm.Cond.methodLink y.cls x Jvm.Stand.acN).before a0 Z = true) (h2 : (Jvm.Cond.native Jvm.Stand.acN).before a0 Z = true) (h3 : (Jvm.Cond.static Jvm.Stand.acN).before a0 Z = true) (h4 : (Jvm.Cond.initialized "java/lang/System").before a0 Z = true) : own_okE Z a0 P y x (10, k, j, u) := ⟨h1, h2, h3, h4⟩
theorem own_e11 {k j : Nat} {u : Int} (h1 : (Jvm.Cond.methodLink y.cls x ⟨"[I", "clone", "()Ljava/lang/Object;"⟩).before a0 Z = true) (h2 : (Jvm.Cond.sameMethod "[I" "java/lang/Object" "clone" "()Ljava/lang/Object;").before a0 Z = true) (h3 : (Jvm.Cond.native ⟨"java/lang/Object", "clone", "()Ljava/lang/Object;"⟩).before a0 Z = true) (h4 : (Jvm.Cond.instanceMethod ⟨"java/lang/Object", "clone", "()Ljava/lang/Object;"⟩).before a0 Z = true) (h5 : (Jvm.Cond.selects "[I" ⟨"[I", "clone", "()Ljava/lang/Object;"⟩ ⟨"java/lang/Object", "clone", "()Ljava/lang/Object;"⟩).before a0 Z = true) (h6 : (Jvm.Cond.castable "[I" "java/lang/Cloneable").before a0 Z = true) : own_okE Z a0 P y x (11, k, j, u) := ⟨h1, h2, h3, h4, h5, h6⟩
theorem own_e12 {k j : Nat} {u : Int} (h1 : (Jvm.Cond.classLink y.cls x "[I").before a0 Z = true) : own_okE Z a0 P y x (12, k, j, u) := h1
theorem own_e5 {j k : Nat} {b : Int} {mj : OMth} {c : OKls} (h1 : P.1[j]? = some mj) (h2 : P.2.1[k]? = some c) (h3 : mj.nm.name ≠ "<init>") (h4 : (Jvm.Cond.methodLink y.cls x mj.nm).before a0 Z = true) (h5 : (Jvm.Cond.instanceMethod mj.nm).before a0 Z = true) (h6 : (Jvm.Cond.superclass y.cls mj.nm.cls).before a0 Z = true) (h7 : NotFace Z mj.nm) (h8 : (Jvm.Cond.initialized mj.nm.cls).before a0 Z = true) (h9 : own_okY mj.nm) (h10 : own_okD 1 mj) : own_okE Z a0 P y x (5, j, k, b) := ⟨mj, c, h1, h2, h3, h4, h5, h6, h7, h8, h9, h10⟩
theorem own_e13 {j k : Nat} {b : Int} {mj : OMth} {c : OKls} {v : MethodName} {ow : String} (h1 : P.1[j]? = some mj) (h2 : P.2.1[k]? = some c) (h3 : v.desc = mj.nm.desc) (h4 : (Jvm.Cond.methodLink y.cls x v).before a0 Z = true) (h5 : (Jvm.Cond.sameMethod v.cls ow v.name v.desc).before a0 Z = true) (h6 : (Jvm.Cond.declares ⟨ow, v.name, v.desc⟩).before a0 Z = true) (h7 : (Jvm.Cond.selects c.1 v mj.nm).before a0 Z = true) (h8 : (Jvm.Cond.instanceMethod mj.nm).before a0 Z = true) (h9 : (Jvm.Cond.initialized mj.nm.cls).before a0 Z = true) (h10 : ow ≠ "java/lang/invoke/MethodHandle" ∧ ow ≠ "java/lang/invoke/VarHandle") (h11 : own_okD 1 mj) : own_okE Z a0 P y x (13, j, k, b) := ⟨mj, c, v, ow, h1, h2, h3, h4, h5, h6, h7, h8, h9, h10, h11⟩
theorem own_nf {s : State} {args : Array Value} {C : String} {y y' : MethodName} (hc : y.cls = y'.cls) (w : (Jvm.Cond.selects C y' y').before args s = true) : NotFace s y := fun r0 h0 => by
  obtain ⟨c2, r2, m2, q1, q2, q3, q4, kP, hkP, hkPi⟩ := Cond.selects_spec w
  have e1 := findClass_of_methodNamed h0
  have e2 := findClass_of_methodNamed q3
  rw [hc] at e1
  have e3 : r0.cls = m2.cls := Option.some.inj (e1.symm.trans e2)
  exact ⟨kP, by rw [e3]; exact hkP, hkPi⟩
end OwnEnts
/-! ## RUNS WITH THE FRAMES BENEATH: what a walk is printed in -/
abbrev OFm := Nat × Nat × Nat × Nat × List Slot × List Value
def own_ks (P : OPrg) (Q : Option Value → OHeap → Prop) : List OFm → Nat → Nat → Nat → Nat → List Slot → List Value → OHeap → Prop
  | [], i, d, lo, pc, L, S, H => ∃ v H', own_run P i d lo pc L S H (v, H') ∧ Q v H'
  | (i', d', lo', t', L', S') :: st, i, d, lo, pc, L, S, H => ∃ v H', own_run P i d lo pc L S H (v, H') ∧ own_ks P Q st i' d' lo' t' L' (v.toList ++ S') H'
section OwnKs
variable {P : OPrg} {Q : Option Value → OHeap → Prop} {st : List OFm} {i d lo pc : Nat} {L : List Slot} {S : List Value} {H : OHeap} {mt mj : OMth}
theorem own_ks.of {i' d' lo' pc' : Nat} {L' : List Slot} {S' : List Value} {H' : OHeap} (h : ∀ r, own_run P i' d' lo' pc' L' S' H' r → own_run P i d lo pc L S H r) (k : own_ks P Q st i' d' lo' pc' L' S' H') : own_ks P Q st i d lo pc L S H := by
  cases st with
  | nil => obtain ⟨v, H2, k, q⟩ := k; exact ⟨v, H2, h _ k, q⟩
  | cons f st => obtain ⟨v, H2, k, q⟩ := k; exact ⟨v, H2, h _ k, q⟩
theorem own_ks.go (hi : P.1[i]? = some mt) (n : Nat) {pc' : Nat} {L' : List Slot} {S' : List Value} {H' : OHeap} (h : own_go P mt d lo n pc L S H = some (pc', L', S', H')) (k : own_ks P Q st i d lo pc' L' S' H') : own_ks P Q st i d lo pc L S H :=
  own_ks.of (fun _ => own_run.go hi n h) k
theorem own_go1 {ins : Instr} {t : Nat} {z : OSt} (h1 : own_at mt pc = some (ins, t)) (h2 : own_ret mt ins S = none) (h3 : own_call P mt ins S H = none) (h4 : own_step P mt d lo ins t pc L S H = some z) : own_go P mt d lo 1 pc L S H = some z := by
  obtain ⟨a, b, c, e⟩ := z
  simp only [own_go, h1, h2, h3, h4]
theorem own_ks.br2 (hi : P.1[i]? = some mt) {cd : ClassFile.Cond} {o : Int} {t pc' : Nat} {x y : Int32} {b : Bool} (h1 : own_at mt pc = some (.if_icmp cd o, t)) (hb : if_icmp.holds cd x y = b) (hp : (match b with | true => t | false => pc + 3) = pc') (k : own_ks P Q st i d lo pc' L S H) : own_ks P Q st i d lo pc L (.int y :: .int x :: S) H := by
  refine own_ks.go hi 1 (own_go1 h1 rfl rfl ?_) k
  subst hp
  simp only [own_step, own_pure, hb, own_br]
  cases b <;> rfl
theorem own_ks.br1 (hi : P.1[i]? = some mt) {cd : ClassFile.Cond} {o : Int} {t pc' : Nat} {x : Int32} {b : Bool} (h1 : own_at mt pc = some (.ifCond cd o, t)) (hb : ifCond.holds cd x = b) (hp : (match b with | true => t | false => pc + 3) = pc') (k : own_ks P Q st i d lo pc' L S H) : own_ks P Q st i d lo pc L (.int x :: S) H := by
  refine own_ks.go hi 1 (own_go1 h1 rfl rfl ?_) k
  subst hp
  simp only [own_step, own_pure, hb, own_br]
  cases b <;> rfl
theorem own_ks.sw (hi : P.1[i]? = some mt) {df : Int} {ps : Array (Int × Int)} {t pc' : Nat} {x : Int32} (h1 : own_at mt pc = some (.lookupswitch df ps, t)) (hj : own_jmp pc (lookupswitch.offset ps.toList df x.toInt) = some pc') (k : own_ks P Q st i d lo pc' L S H) : own_ks P Q st i d lo pc L (.int x :: S) H := by
  refine own_ks.go hi 1 (own_go1 h1 rfl rfl ?_) k
  simp only [own_step, own_pure, hj]
/-- the room that a call takes -/
def own_fitc (d lo ml : Nat) (as r : List Value) : Bool := Nat.ble 1 d && (Nat.ble (own_wt r + (ml + 11)) lo && (own_entry as ml).length == ml)
theorem own_fitc_ok {d lo ml : Nat} {as r : List Value} (h : own_fitc d lo ml as r = true) : 1 ≤ d ∧ own_wt r + (ml + 11) ≤ lo ∧ (own_entry as ml).length = ml := by
  simp only [own_fitc, Bool.and_eq_true, Nat.ble_eq, beq_iff_eq] at h
  exact h
theorem own_ks.into (hi : P.1[i]? = some mt) {ins : Instr} {t j d' lo' : Nat} {as r' : List Value} (h1 : own_at mt pc = some (ins, t)) (h2 : own_ret mt ins S = none) (h3 : own_call P mt ins S H = some (j, as, r')) (hj : P.1[j]? = some mj) (h4 : own_fitc d lo mj.ml as r' = true) (hd : d - 1 = d') (hl : lo - (own_wt r' + (mj.ml + 11)) = lo') {L' : List Slot} (hL : own_entry as mj.ml = L')
    (k : own_ks P Q ((i, d, lo, t, L, r') :: st) j d' lo' 0 L' [] H) : own_ks P Q st i d lo pc L S H := by
  subst hd hl hL
  obtain ⟨v, H', k1, k2⟩ := k
  cases st with
  | nil => obtain ⟨v2, H2, k3, q⟩ := k2; exact ⟨v2, H2, own_run.call hi h1 h2 h3 hj (own_fitc_ok h4) k1 k3, q⟩
  | cons f st => obtain ⟨v2, H2, k3, q⟩ := k2; exact ⟨v2, H2, own_run.call hi h1 h2 h3 hj (own_fitc_ok h4) k1 k3, q⟩
theorem own_ks.call (hi : P.1[i]? = some mt) {ins : Instr} {t j : Nat} {as r' : List Value} {v : Option Value} {H' : OHeap} {S' : List Value} (h1 : own_at mt pc = some (ins, t)) (h2 : own_ret mt ins S = none) (h3 : own_call P mt ins S H = some (j, as, r')) (hj : P.1[j]? = some mj) (h4 : own_fitc d lo mj.ml as r' = true)
    (k1 : own_run P j (d - 1) (lo - (own_wt r' + (mj.ml + 11))) 0 (own_entry as mj.ml) [] H (v, H')) (hS : v.toList ++ r' = S') (k : own_ks P Q st i d lo t L S' H') : own_ks P Q st i d lo pc L S H := by
  subst hS
  exact own_ks.of (fun _ k2 => own_run.call hi h1 h2 h3 hj (own_fitc_ok h4) k1 k2) k
theorem own_ks.back (hi : P.1[i]? = some mt) {ins : Instr} {t : Nat} {v : Option Value} {i' d' lo' t' : Nat} {L' : List Slot} {S' S2 : List Value} (h1 : own_at mt pc = some (ins, t)) (h2 : own_ret mt ins S = some v) (hS : v.toList ++ S' = S2) (k : own_ks P Q st i' d' lo' t' L' S2 H) : own_ks P Q ((i', d', lo', t', L', S') :: st) i d lo pc L S H := by
  subst hS
  exact ⟨v, H, own_run.ret hi h1 h2, k⟩
theorem own_ks.ret (hi : P.1[i]? = some mt) {ins : Instr} {t : Nat} {v : Option Value} (h1 : own_at mt pc = some (ins, t)) (h2 : own_ret mt ins S = some v) (q : Q v H) : own_ks P Q [] i d lo pc L S H := ⟨v, H, own_run.ret hi h1 h2, q⟩
theorem own_nt {x c : Int32} {k : Int} (h : ¬ x = c) (e : c.toInt = k) : ¬ (k = x.toInt) := fun q => h (Int32.toInt_inj.mp (q.symm.trans e.symm))
theorem own_yt {x c : Int32} {k : Int} (h : x = c) (e : c.toInt = k) : k = x.toInt := by subst h; exact e.symm
end OwnKs
/-- what a law owes at its end -/
def own_end (K : List OKls) (cells slots : Nat) (v : Option Value) (H : OHeap) : Prop := v = some (.int 1) ∧ H.length ≤ cells ∧ own_w K H ≤ slots
theorem own_endOk {K : List OKls} {cells slots : Nat} {v : Option Value} {H : OHeap} (h1 : v = some (.int 1)) (h2 : Nat.ble H.length cells = true) (h3 : Nat.ble (own_w K H) slots = true) : own_end K cells slots v H := ⟨h1, Nat.le_of_ble_eq_true h2, Nat.le_of_ble_eq_true h3⟩
theorem own_ks_run {P : OPrg} {i d lo pc : Nat} {L : List Slot} {S : List Value} {H : OHeap} {v : Option Value} {H' : OHeap} (k : own_ks P (fun w G => w = v ∧ G = H') [] i d lo pc L S H) : own_run P i d lo pc L S H (v, H') := by
  obtain ⟨w, G, h, rfl, rfl⟩ := k
  exact h
section OwnKs2
variable {P : OPrg} {Q : Option Value → OHeap → Prop} {st : List OFm} {i d lo pc t a q : Nat} {L : List Slot} {S vs : List Value} {H : OHeap} {mt : OMth} {j : Int32} {v : Value}
theorem own_ks.iaload (hi : P.1[i]? = some mt) (h1 : own_at mt pc = some (.iaload, t)) (ha : own_arr H a .int = some vs) (hq : own_ix j = some q) (hv : vs[q]? = some v) (k : own_ks P Q st i d lo t L (v :: S) H) : own_ks P Q st i d lo pc L (.int j :: .ref a :: S) H :=
  own_ks.go hi 1 (own_go1 h1 rfl rfl (by simp only [own_step, own_pure, own_heap, own_ald, ha, hq, hv])) k
theorem own_ks.laload (hi : P.1[i]? = some mt) (h1 : own_at mt pc = some (.laload, t)) (ha : own_arr H a .long = some vs) (hq : own_ix j = some q) (hv : vs[q]? = some v) (k : own_ks P Q st i d lo t L (v :: S) H) : own_ks P Q st i d lo pc L (.int j :: .ref a :: S) H :=
  own_ks.go hi 1 (own_go1 h1 rfl rfl (by simp only [own_step, own_pure, own_heap, own_ald, ha, hq, hv])) k
theorem own_ks.iastore {x : Int32} {H' : OHeap} (hi : P.1[i]? = some mt) (h1 : own_at mt pc = some (.iastore, t)) (ha : own_arr H a .int = some vs) (hq : own_ix j = some q) (hl : q < vs.length) (hH : H.set a (.inr .int, vs.set q (.int x)) = H') (k : own_ks P Q st i d lo t L S H') : own_ks P Q st i d lo pc L (.int x :: .int j :: .ref a :: S) H := by
  subst hH
  exact own_ks.go hi 1 (own_go1 h1 rfl rfl (by simp only [own_step, own_pure, own_heap, own_ast, ha, hq, if_pos hl, own_nar])) k
theorem own_ks.lastore {x : Int64} {H' : OHeap} (hi : P.1[i]? = some mt) (h1 : own_at mt pc = some (.lastore, t)) (ha : own_arr H a .long = some vs) (hq : own_ix j = some q) (hl : q < vs.length) (hH : H.set a (.inr .long, vs.set q (.long x)) = H') (k : own_ks P Q st i d lo t L S H') : own_ks P Q st i d lo pc L (.long x :: .int j :: .ref a :: S) H := by
  subst hH
  exact own_ks.go hi 1 (own_go1 h1 rfl rfl (by simp only [own_step, own_pure, own_heap, own_ast, ha, hq, if_pos hl, own_nar])) k
theorem own_ks.alen {ty : FieldType} {z : Int32} (hi : P.1[i]? = some mt) (h1 : own_at mt pc = some (.arraylength, t)) (ha : H[a]? = some (.inr ty, vs)) (hz : vs.length.toInt32 = z) (k : own_ks P Q st i d lo t L (.int z :: S) H) : own_ks P Q st i d lo pc L (.ref a :: S) H := by
  subst hz
  exact own_ks.go hi 1 (own_go1 h1 rfl rfl (by simp only [own_step, own_pure, own_heap, ha])) k
end OwnKs2
/-! ## the program: printed by wip/tools/gen.py out of the sheet -/
def own_k0 : OKls := ("evenkeel/group/SpreadSearch", 78, [("evenkeel/group/MinCostFlow", "potential", "[J", (.array .long)), ("evenkeel/group/MinCostFlow", "distance", "[J", (.array .long)), ("evenkeel/group/MinCostFlow", "reached", "[I", (.array .int)), ("evenkeel/group/MinCostFlow", "settled", "[I", (.array .int)), ("evenkeel/group/MinCostFlow", "heapKeys", "[J", (.array .long)), ("evenkeel/group/MinCostFlow", "heapNodes", "[I", (.array .int)), ("evenkeel/group/MinCostFlow", "level", "[I", (.array .int)), ("evenkeel/group/MinCostFlow", "nextArc", "[I", (.array .int)), ("evenkeel/group/MinCostFlow", "path", "[I", (.array .int)), ("evenkeel/group/MinCostFlow", "via", "[I", (.array .int)), ("evenkeel/group/MinCostFlow", "numberStart", "[I", (.array .int)), ("evenkeel/group/MinCostFlow", "numbered", "[I", (.array .int)), ("evenkeel/group/MinCostFlow", "nextHead", "[I", (.array .int)), ("evenkeel/group/SpreadSearch", "rowStart", "[I", (.array .int)), ("evenkeel/group/SpreadSearch", "rowCell", "[I", (.array .int)), ("evenkeel/group/SpreadSearch", "cellColumn", "[I", (.array .int)), ("evenkeel/group/SpreadSearch", "over", "[J", (.array .long)), ("evenkeel/group/SpreadSearch", "low", "[J", (.array .long)), ("evenkeel/group/SpreadSearch", "high", "[J", (.array .long)), ("evenkeel/group/SpreadSearch", "held", "[J", (.array .long)), ("evenkeel/group/SpreadSearch", "left", "[J", (.array .long)), ("evenkeel/group/SpreadSearch", "closedTake", "[J", (.array .long)), ("evenkeel/group/SpreadSearch", "filledGive", "[J", (.array .long)), ("evenkeel/group/SpreadSearch", "openCount", "[I", (.array .int)), ("evenkeel/group/SpreadSearch", "loCount", "[I", (.array .int)), ("evenkeel/group/SpreadSearch", "loSum", "[J", (.array .long)), ("evenkeel/group/SpreadSearch", "hiCount", "[I", (.array .int)), ("evenkeel/group/SpreadSearch", "hiSum", "[J", (.array .long)), ("evenkeel/group/SpreadSearch", "filling", "[I", (.array .int)), ("evenkeel/group/SpreadSearch", "nothing", "[I", (.array .int)), ("evenkeel/group/SpreadSearch", "placing", "[I", (.array .int)), ("evenkeel/group/SpreadSearch", "placeLevel", "[J", (.array .long)), ("evenkeel/group/SpreadSearch", "placeEach", "[J", (.array .long)), ("evenkeel/group/SpreadSearch", "placeExtra", "[J", (.array .long)), ("evenkeel/group/SpreadSearch", "placeCursor", "[I", (.array .int)), ("evenkeel/group/SpreadSearch", "filledRows", "[I", (.array .int)), ("evenkeel/group/SpreadSearch", "openStart", "[I", (.array .int)), ("evenkeel/group/SpreadSearch", "openCell", "[I", (.array .int)), ("evenkeel/group/SpreadSearch", "tightCell", "[I", (.array .int)), ("evenkeel/group/SpreadSearch", "tightLower", "[I", (.array .int)), ("evenkeel/group/SpreadSearch", "tightUpper", "[I", (.array .int)), ("evenkeel/group/SpreadSearch", "takeStart", "[I", (.array .int)), ("evenkeel/group/SpreadSearch", "giveStart", "[I", (.array .int)), ("evenkeel/group/SpreadSearch", "giveArc", "[I", (.array .int)), ("evenkeel/group/SpreadSearch", "rowsLeft", "[I", (.array .int)), ("evenkeel/group/SpreadSearch", "rowPlace", "[I", (.array .int)), ("evenkeel/group/SpreadSearch", "columnsLeft", "[I", (.array .int)), ("evenkeel/group/SpreadSearch", "columnPlace", "[I", (.array .int)), ("evenkeel/group/SpreadSearch", "markedSpread", "[I", (.array .int)), ("evenkeel/group/SpreadSearch", "markedPotential", "[J", (.array .long)), ("evenkeel/group/SpreadSearch", "rows", "I", .int), ("evenkeel/group/SpreadSearch", "columns", "I", .int), ("evenkeel/group/SpreadSearch", "size", "[I", (.array .int)), ("evenkeel/group/SpreadSearch", "columnStart", "[I", (.array .int)), ("evenkeel/group/SpreadSearch", "cellRow", "[I", (.array .int)), ("evenkeel/group/SpreadSearch", "lo", "[I", (.array .int)), ("evenkeel/group/SpreadSearch", "hi", "[I", (.array .int)), ("evenkeel/group/SpreadSearch", "x", "[I", (.array .int)), ("evenkeel/group/SpreadSearch", "unbounded", "[Z", (.array .boolean)), ("evenkeel/group/SpreadSearch", "cellCount", "I", .int), ("evenkeel/group/SpreadSearch", "dense", "Z", .boolean), ("evenkeel/group/MinCostFlow", "source", "I", .int), ("evenkeel/group/MinCostFlow", "sink", "I", .int), ("evenkeel/group/MinCostFlow", "shifts", "I", .int), ("evenkeel/group/SpreadSearch", "fillingCount", "I", .int), ("evenkeel/group/SpreadSearch", "fewLeft", "I", .int), ("evenkeel/group/SpreadSearch", "placingCount", "I", .int), ("evenkeel/group/MinCostFlow", "unmoved", "J", .long), ("evenkeel/group/MinCostFlow", "untaken", "J", .long), ("evenkeel/group/SpreadSearch", "tightCount", "I", .int), ("evenkeel/group/MinCostFlow", "numberings", "I", .int), ("evenkeel/group/MinCostFlow", "stoppedShort", "Z", .boolean)])
def own_r0 : List (List ORow) := [[(0, .iload_n 0, 1), (1, .iconst 1, 2), (2, .iand, 3), (3, .ifCond .eq 7, 10), (6, .iconst 1, 7), (7, .goto 4, 11), (10, .iconst 0, 11), (11, .istore 6, 13), (13, .iload 6, 15), (15, .ifCond .eq 7, 22)],
  [(18, .iconst 0, 19), (19, .goto 4, 23), (22, .iconst 1, 23), (23, .istore 7, 25), (25, .ldc 9, 27), (27, .istore 8, 29), (29, .iconst 2, 30), (30, .newarray .int, 32)],
  [(32, .dup, 33), (33, .iconst 0, 34), (34, .iconst 1, 35), (35, .iastore, 36), (36, .dup, 37), (37, .iconst 1, 38), (38, .iconst 1, 39), (39, .iastore, 40), (40, .astore 9, 42), (42, .iconst 4, 43), (43, .newarray .int, 45), (45, .dup, 46), (46, .iconst 0, 47), (47, .iconst 0, 48)],
  [(48, .iastore, 49), (49, .dup, 50), (50, .iconst 1, 51), (51, .iconst 2, 52), (52, .iastore, 53), (53, .dup, 54), (54, .iconst 2, 55), (55, .iconst 4, 56), (56, .iastore, 57), (57, .dup, 58), (58, .iconst 3, 59), (59, .iload 6, 61), (61, .ifCond .eq 8, 69)],
  [(64, .bipush 6, 66), (66, .goto 4, 70), (69, .iconst 4, 70), (70, .iastore, 71), (71, .astore 10, 73), (73, .bipush 6, 75), (75, .newarray .int, 77), (77, .dup, 78), (78, .iconst 0, 79), (79, .iconst 0, 80)],
  [(80, .iastore, 81), (81, .dup, 82), (82, .iconst 1, 83), (83, .iconst 1, 84), (84, .iastore, 85), (85, .dup, 86), (86, .iconst 2, 87), (87, .iconst 0, 88), (88, .iastore, 89), (89, .dup, 90), (90, .iconst 3, 91), (91, .iconst 1, 92), (92, .iastore, 93), (93, .dup, 94), (94, .iconst 4, 95), (95, .iconst 0, 96)],
  [(96, .iastore, 97), (97, .dup, 98), (98, .iconst 5, 99), (99, .iconst 1, 100), (100, .iastore, 101), (101, .astore 11, 103), (103, .bipush 6, 105), (105, .newarray .int, 107), (107, .astore 12, 109), (109, .bipush 6, 111), (111, .newarray .int, 113)],
  [(113, .dup, 114), (114, .iconst 0, 115), (115, .iload 8, 117), (117, .iastore, 118), (118, .dup, 119), (119, .iconst 1, 120), (120, .iload 8, 122), (122, .iastore, 123), (123, .dup, 124), (124, .iconst 2, 125), (125, .iload 8, 127), (127, .iastore, 128)],
  [(128, .dup, 129), (129, .iconst 3, 130), (130, .iload 8, 132), (132, .iastore, 133), (133, .dup, 134), (134, .iconst 4, 135), (135, .iload 8, 137), (137, .iastore, 138), (138, .dup, 139), (139, .iconst 5, 140), (140, .iload 8, 142), (142, .iastore, 143), (143, .astore 13, 145)],
  [(145, .iconst 2, 146), (146, .newarray .long, 148), (148, .dup, 149), (149, .iconst 0, 150), (150, .iload 7, 152), (152, .i2l, 153), (153, .lastore, 154), (154, .dup, 155), (155, .iconst 1, 156), (156, .iload 7, 158), (158, .i2l, 159), (159, .lastore, 160)],
  [(160, .astore 14, 162), (162, .iconst 3, 163), (163, .newarray .long, 165), (165, .dup, 166), (166, .iconst 0, 167), (167, .lconst 0, 168), (168, .lastore, 169), (169, .dup, 170), (170, .iconst 1, 171), (171, .lconst 0, 172), (172, .lastore, 173), (173, .dup, 174), (174, .iconst 2, 175), (175, .ldc2_w 10, 178)],
  [(178, .iload 7, 180), (180, .i2l, 181), (181, .lmul, 182), (182, .lastore, 183), (183, .astore 15, 185), (185, .bipush 6, 187), (187, .newarray .int, 189), (189, .astore 16, 191), (191, .new 12, 194)],
  [(194, .dup, 195), (195, .invokespecial 14, 198), (198, .astore 17, 200), (200, .aload 17, 202), (202, .iconst 2, 203), (203, .iconst 3, 204), (204, .aload 9, 206), (206, .aload 10, 208)],
  [(208, .aload 11, 210), (210, .aload 12, 212), (212, .aload 13, 214), (214, .aload 14, 216), (216, .aload 15, 218), (218, .aload 16, 220), (220, .invokevirtual 15, 223), (223, .pop, 224)],
  [(224, .aload 16, 226), (226, .iconst 0, 227), (227, .iload 5, 229), (229, .iastore, 230), (230, .aload 16, 232), (232, .iconst 1, 233), (233, .iload 5, 235), (235, .iconst 1, 236), (236, .iadd, 237), (237, .iastore, 238), (238, .aload 16, 240)],
  [(240, .iconst 2, 241), (241, .iload 5, 243), (243, .iconst 2, 244), (244, .iadd, 245), (245, .iastore, 246), (246, .aload 16, 248), (248, .iconst 3, 249), (249, .iload 5, 251), (251, .iconst 3, 252), (252, .iadd, 253), (253, .iastore, 254), (254, .aload 16, 256)],
  [(256, .iconst 4, 257), (257, .iload 5, 259), (259, .iconst 4, 260), (260, .iadd, 261), (261, .iastore, 262), (262, .aload 16, 264), (264, .iconst 5, 265), (265, .iload 5, 267), (267, .iconst 5, 268), (268, .iadd, 269), (269, .iastore, 270), (270, .bipush 6, 272)],
  [(272, .newarray .int, 274), (274, .dup, 275), (275, .iconst 0, 276), (276, .iload 5, 278), (278, .iastore, 279), (279, .dup, 280), (280, .iconst 1, 281), (281, .iload 5, 283), (283, .iconst 1, 284), (284, .iadd, 285), (285, .iastore, 286), (286, .dup, 287), (287, .iconst 2, 288)],
  [(288, .iload 5, 290), (290, .iconst 2, 291), (291, .iadd, 292), (292, .iastore, 293), (293, .dup, 294), (294, .iconst 3, 295), (295, .iload 5, 297), (297, .iconst 3, 298), (298, .iadd, 299), (299, .iastore, 300), (300, .dup, 301), (301, .iconst 4, 302), (302, .iload 5, 304)],
  [(304, .iconst 4, 305), (305, .iadd, 306), (306, .iastore, 307), (307, .dup, 308), (308, .iconst 5, 309), (309, .iload 5, 311), (311, .iconst 5, 312), (312, .iadd, 313), (313, .iastore, 314), (314, .astore 18, 316), (316, .iconst 3, 317), (317, .newarray .long, 319), (319, .dup, 320)],
  [(320, .iconst 0, 321), (321, .ldc2_w 19, 324), (324, .iload 7, 326), (326, .i2l, 327), (327, .lmul, 328), (328, .lastore, 329), (329, .dup, 330), (330, .iconst 1, 331), (331, .lconst 0, 332), (332, .lastore, 333), (333, .dup, 334), (334, .iconst 2, 335), (335, .ldc2_w 10, 338)],
  [(338, .iload 7, 340), (340, .i2l, 341), (341, .lmul, 342), (342, .lastore, 343), (343, .astore 19, 345), (345, .iload_n 1, 346), (346, .iconst 3, 347), (347, .iand, 348), (348, .istore 20, 350), (350, .iload_n 1, 351), (351, .iconst 2, 352)],
  [(352, .iushr, 353), (353, .iconst 1, 354), (354, .iand, 355), (355, .istore 21, 357), (357, .iload 20, 359), (359, .iload_n 1, 360), (360, .iload 6, 362), (362, .invokestatic 21, 365), (365, .istore 22, 367), (367, .aload 17, 369)],
  [(369, .iload 20, 371), (371, .iload 22, 373), (373, .iload 21, 375), (375, .invokestatic 27, 378), (378, .iload 20, 380), (380, .iload 22, 382), (382, .iload 21, 384)],
  [(384, .iload 6, 386), (386, .invokestatic 31, 389), (389, .iload_n 2, 390), (390, .invokevirtual 35, 393), (393, .aload 19, 395), (395, .aload 18, 397), (397, .iload 20, 399), (399, .iload 22, 401)],
  [(401, .iload 21, 403), (403, .iload_n 2, 404), (404, .invokestatic 39, 407), (407, .iload_n 3, 408), (408, .iconst 3, 409), (409, .iand, 410), (410, .istore 23, 412), (412, .iload_n 3, 413), (413, .iconst 2, 414), (414, .iushr, 415), (415, .iconst 1, 416)],
  [(416, .iand, 417), (417, .istore 24, 419), (419, .iload 23, 421), (421, .iload_n 3, 422), (422, .iload 6, 424), (424, .invokestatic 21, 427), (427, .istore 25, 429), (429, .aload 17, 431), (431, .iload 23, 433)],
  [(433, .iload 25, 435), (435, .iload 24, 437), (437, .invokestatic 27, 440), (440, .iload 23, 442), (442, .iload 25, 444), (444, .iload 24, 446), (446, .iload 6, 448)],
  [(448, .invokestatic 31, 451), (451, .iload 4, 453), (453, .invokevirtual 35, 456), (456, .aload 19, 458), (458, .aload 18, 460), (460, .iload 23, 462), (462, .iload 25, 464)],
  [(464, .iload 24, 466), (466, .iload 4, 468), (468, .invokestatic 39, 471), (471, .aload 16, 473), (473, .iconst 0, 474), (474, .iaload, 475), (475, .aload 18, 477), (477, .iconst 0, 478), (478, .iaload, 479), (479, .if_icmp .ne 62, 541)],
  [(482, .aload 16, 484), (484, .iconst 1, 485), (485, .iaload, 486), (486, .aload 18, 488), (488, .iconst 1, 489), (489, .iaload, 490), (490, .if_icmp .ne 51, 541), (493, .aload 16, 495), (495, .iconst 2, 496)],
  [(496, .iaload, 497), (497, .aload 18, 499), (499, .iconst 2, 500), (500, .iaload, 501), (501, .if_icmp .ne 40, 541), (504, .aload 16, 506), (506, .iconst 3, 507), (507, .iaload, 508), (508, .aload 18, 510), (510, .iconst 3, 511), (511, .iaload, 512)],
  [(512, .if_icmp .ne 29, 541), (515, .aload 16, 517), (517, .iconst 4, 518), (518, .iaload, 519), (519, .aload 18, 521), (521, .iconst 4, 522), (522, .iaload, 523), (523, .if_icmp .ne 18, 541), (526, .aload 16, 528)],
  [(528, .iconst 5, 529), (529, .iaload, 530), (530, .aload 18, 532), (532, .iconst 5, 533), (533, .iaload, 534), (534, .if_icmp .ne 7, 541), (537, .iconst 1, 538), (538, .goto 4, 542), (541, .iconst 0, 542), (542, .istore 26, 544)],
  [(544, .iload 26, 546), (546, .ifCond .eq 55, 601), (549, .aload 17, 551), (551, .iconst 0, 552), (552, .iload 6, 554), (554, .invokestatic 43, 557), (557, .aload 19, 559), (559, .iconst 0, 560)],
  [(560, .laload, 561), (561, .lcmp, 562), (562, .ifCond .ne 39, 601), (565, .aload 17, 567), (567, .iconst 1, 568), (568, .iload 6, 570), (570, .invokestatic 43, 573), (573, .aload 19, 575), (575, .iconst 1, 576)],
  [(576, .laload, 577), (577, .lcmp, 578), (578, .ifCond .ne 23, 601), (581, .aload 17, 583), (583, .iconst 2, 584), (584, .iload 6, 586), (586, .invokestatic 43, 589), (589, .aload 19, 591), (591, .iconst 2, 592)],
  [(592, .laload, 593), (593, .lcmp, 594), (594, .ifCond .ne 7, 601), (597, .iconst 1, 598), (598, .goto 4, 602), (601, .iconst 0, 602), (602, .ireturn, 603)]]
def own_m0 : OMth := (x, code, maxLocals, ret, 6, own_r0, [(9, (8, 0, 0, 2147483647)), (10, (9, 0, 0, 2)), (12, (7, 0, 0, 0)), (14, (1, 1, 0, 0)), (15, (3, 3, 0, 0)), (19, (9, 0, 0, -2)), (21, (0, 53, 0, 0)), (27, (0, 54, 0, 0)), (31, (0, 55, 0, 0)), (35, (3, 56, 0, 0)), (39, (0, 57, 0, 0)), (43, (0, 58, 0, 0))])
def own_r1 : List (List ORow) := [[(0, .aload_n 0, 1), (1, .invokespecial 1, 4), (4, .aload_n 0, 5), (5, .iconst 0, 6), (6, .newarray .int, 8), (8, .putfield 7, 11), (11, .aload_n 0, 12), (12, .iconst 0, 13), (13, .newarray .int, 15), (15, .putfield 13, 18)],
  [(18, .aload_n 0, 19), (19, .iconst 0, 20), (20, .newarray .int, 22), (22, .putfield 16, 25), (25, .aload_n 0, 26), (26, .iconst 0, 27), (27, .newarray .long, 29), (29, .putfield 19, 32)],
  [(32, .aload_n 0, 33), (33, .iconst 0, 34), (34, .newarray .long, 36), (36, .putfield 23, 39), (39, .aload_n 0, 40), (40, .iconst 0, 41), (41, .newarray .long, 43), (43, .putfield 26, 46), (46, .aload_n 0, 47), (47, .iconst 0, 48)],
  [(48, .newarray .long, 50), (50, .putfield 29, 53), (53, .aload_n 0, 54), (54, .iconst 0, 55), (55, .newarray .long, 57), (57, .putfield 32, 60), (60, .aload_n 0, 61), (61, .iconst 0, 62), (62, .newarray .long, 64)],
  [(64, .putfield 35, 67), (67, .aload_n 0, 68), (68, .iconst 0, 69), (69, .newarray .long, 71), (71, .putfield 38, 74), (74, .aload_n 0, 75), (75, .iconst 0, 76), (76, .newarray .int, 78), (78, .putfield 41, 81)],
  [(81, .aload_n 0, 82), (82, .bipush 8, 84), (84, .newarray .int, 86), (86, .putfield 44, 89), (89, .aload_n 0, 90), (90, .bipush 8, 92), (92, .newarray .long, 94), (94, .putfield 47, 97)],
  [(97, .aload_n 0, 98), (98, .bipush 8, 100), (100, .newarray .int, 102), (102, .putfield 50, 105), (105, .aload_n 0, 106), (106, .bipush 8, 108), (108, .newarray .long, 110), (110, .putfield 53, 113)],
  [(113, .aload_n 0, 114), (114, .iconst 0, 115), (115, .newarray .int, 117), (117, .putfield 56, 120), (120, .aload_n 0, 121), (121, .iconst 0, 122), (122, .newarray .int, 124), (124, .putfield 59, 127), (127, .aload_n 0, 128)],
  [(128, .iconst 0, 129), (129, .newarray .int, 131), (131, .putfield 62, 134), (134, .aload_n 0, 135), (135, .iconst 0, 136), (136, .newarray .long, 138), (138, .putfield 65, 141), (141, .aload_n 0, 142), (142, .iconst 0, 143), (143, .newarray .long, 145)],
  [(145, .putfield 68, 148), (148, .aload_n 0, 149), (149, .iconst 0, 150), (150, .newarray .long, 152), (152, .putfield 71, 155), (155, .aload_n 0, 156), (156, .iconst 0, 157), (157, .newarray .int, 159), (159, .putfield 74, 162)],
  [(162, .aload_n 0, 163), (163, .iconst 0, 164), (164, .newarray .int, 166), (166, .putfield 77, 169), (169, .aload_n 0, 170), (170, .iconst 0, 171), (171, .newarray .int, 173), (173, .putfield 80, 176)],
  [(176, .aload_n 0, 177), (177, .iconst 0, 178), (178, .newarray .int, 180), (180, .putfield 83, 183), (183, .aload_n 0, 184), (184, .iconst 0, 185), (185, .newarray .int, 187), (187, .putfield 86, 190), (190, .aload_n 0, 191), (191, .iconst 0, 192)],
  [(192, .newarray .int, 194), (194, .putfield 89, 197), (197, .aload_n 0, 198), (198, .iconst 0, 199), (199, .newarray .int, 201), (201, .putfield 92, 204), (204, .aload_n 0, 205), (205, .iconst 0, 206), (206, .newarray .int, 208)],
  [(208, .putfield 95, 211), (211, .aload_n 0, 212), (212, .iconst 0, 213), (213, .newarray .int, 215), (215, .putfield 98, 218), (218, .aload_n 0, 219), (219, .iconst 0, 220), (220, .newarray .int, 222), (222, .putfield 101, 225)],
  [(225, .aload_n 0, 226), (226, .iconst 0, 227), (227, .newarray .int, 229), (229, .putfield 104, 232), (232, .aload_n 0, 233), (233, .iconst 0, 234), (234, .newarray .int, 236), (236, .putfield 107, 239), (239, .aload_n 0, 240)],
  [(240, .iconst 0, 241), (241, .newarray .int, 243), (243, .putfield 110, 246), (246, .aload_n 0, 247), (247, .iconst 0, 248), (248, .newarray .int, 250), (250, .putfield 113, 253), (253, .aload_n 0, 254), (254, .iconst 0, 255), (255, .newarray .int, 257)],
  [(257, .putfield 116, 260), (260, .aload_n 0, 261), (261, .iconst 0, 262), (262, .newarray .long, 264), (264, .putfield 119, 267), (267, .return_, 268)]]
def own_m1 : OMth := (⟨"evenkeel/group/SpreadSearch", "<init>", "()V"⟩, prog_98_method_1_code, 1, none, 1, own_r1, [(1, (1, 2, 0, 0)), (7, (6, 0, 13, 1)), (13, (6, 0, 14, 1)), (16, (6, 0, 15, 1)), (19, (6, 0, 16, 1)), (23, (6, 0, 17, 1)), (26, (6, 0, 18, 1)), (29, (6, 0, 19, 1)), (32, (6, 0, 20, 1)), (35, (6, 0, 21, 1)), (38, (6, 0, 22, 1)), (41, (6, 0, 23, 1)), (44, (6, 0, 24, 1)), (47, (6, 0, 25, 1)), (50, (6, 0, 26, 1)), (53, (6, 0, 27, 1)), (56, (6, 0, 28, 1)), (59, (6, 0, 29, 1)), (62, (6, 0, 30, 1)), (65, (6, 0, 31, 1)), (68, (6, 0, 32, 1)), (71, (6, 0, 33, 1)), (74, (6, 0, 34, 1)), (77, (6, 0, 35, 1)), (80, (6, 0, 36, 1)), (83, (6, 0, 37, 1)), (86, (6, 0, 38, 1)), (89, (6, 0, 39, 1)), (92, (6, 0, 40, 1)), (95, (6, 0, 41, 1)), (98, (6, 0, 42, 1)), (101, (6, 0, 43, 1)), (104, (6, 0, 44, 1)), (107, (6, 0, 45, 1)), (110, (6, 0, 46, 1)), (113, (6, 0, 47, 1)), (116, (6, 0, 48, 1)), (119, (6, 0, 49, 1))])
def own_r2 : List (List ORow) := [[(0, .aload_n 0, 1), (1, .invokespecial 3, 4), (4, .aload_n 0, 5), (5, .iconst 0, 6), (6, .newarray .long, 8), (8, .putfield 9, 11), (11, .aload_n 0, 12), (12, .iconst 0, 13), (13, .newarray .long, 15), (15, .putfield 15, 18)],
  [(18, .aload_n 0, 19), (19, .iconst 0, 20), (20, .newarray .int, 22), (22, .putfield 18, 25), (25, .aload_n 0, 26), (26, .iconst 0, 27), (27, .newarray .int, 29), (29, .putfield 22, 32)],
  [(32, .aload_n 0, 33), (33, .bipush 64, 35), (35, .newarray .long, 37), (37, .putfield 25, 40), (40, .aload_n 0, 41), (41, .bipush 64, 43), (43, .newarray .int, 45), (45, .putfield 28, 48)],
  [(48, .aload_n 0, 49), (49, .iconst 0, 50), (50, .newarray .int, 52), (52, .putfield 31, 55), (55, .aload_n 0, 56), (56, .iconst 0, 57), (57, .newarray .int, 59), (59, .putfield 34, 62), (62, .aload_n 0, 63), (63, .iconst 0, 64)],
  [(64, .newarray .int, 66), (66, .putfield 37, 69), (69, .aload_n 0, 70), (70, .iconst 0, 71), (71, .newarray .int, 73), (73, .putfield 40, 76), (76, .aload_n 0, 77), (77, .iconst 0, 78), (78, .newarray .int, 80)],
  [(80, .putfield 43, 83), (83, .aload_n 0, 84), (84, .iconst 0, 85), (85, .newarray .int, 87), (87, .putfield 46, 90), (90, .aload_n 0, 91), (91, .iconst 0, 92), (92, .newarray .int, 94), (94, .putfield 49, 97)],
  [(97, .return_, 98)]]
def own_m2 : OMth := (⟨"evenkeel/group/MinCostFlow", "<init>", "()V"⟩, prog_76_method_1_code, 1, none, 1, own_r2, [(3, (2, 0, 0, 0)), (9, (6, 0, 0, 1)), (15, (6, 0, 1, 1)), (18, (6, 0, 2, 1)), (22, (6, 0, 3, 1)), (25, (6, 0, 4, 1)), (28, (6, 0, 5, 1)), (31, (6, 0, 6, 1)), (34, (6, 0, 7, 1)), (37, (6, 0, 8, 1)), (40, (6, 0, 9, 1)), (43, (6, 0, 10, 1)), (46, (6, 0, 11, 1)), (49, (6, 0, 12, 1))])
def own_r3 : List (List ORow) := [[(0, .aload_n 0, 1), (1, .iload_n 1, 2), (2, .iload_n 2, 3), (3, .aload_n 3, 4), (4, .aload 4, 6), (6, .aload 5, 8), (8, .aload 6, 10), (10, .aload 7, 12), (12, .aload 8, 14), (14, .aload 9, 16)],
  [(16, .aload 10, 18), (18, .aconst_null, 19), (19, .invokevirtual 128, 22), (22, .ireturn, 23)]]
def own_m3 : OMth := (⟨"evenkeel/group/SpreadSearch", "spreadAtLevels", "(II[I[I[I[I[I[J[J[I)Z"⟩, prog_98_method_6_code, 11, (some .boolean), 11, own_r3, [(128, (4, 4, 0, 0))])
def own_r4 : List (List ORow) := [[(0, .aload_n 0, 1), (1, .iload_n 1, 2), (2, .iload_n 2, 3), (3, .aload_n 3, 4), (4, .aload 4, 6), (6, .aload 5, 8), (8, .aload 6, 10), (10, .aload 7, 12), (12, .aload 10, 14), (14, .aload 11, 16)],
  [(16, .iconst 1, 17), (17, .invokevirtual 135, 20), (20, .iconst 0, 21), (21, .istore 12, 23), (23, .iload 12, 25), (25, .iload_n 2, 26), (26, .if_icmp .ge 21, 47), (29, .aload_n 0, 30), (30, .getfield 19, 33)],
  [(33, .iload 12, 35), (35, .aload 9, 37), (37, .iload 12, 39), (39, .laload, 40), (40, .lastore, 41), (41, .iinc 12 1, 44), (44, .goto (-21), 23), (47, .aload_n 0, 48)],
  [(48, .aload 8, 50), (50, .aload 9, 52), (52, .invokevirtual 139, 55), (55, .ifCond .eq 21, 76), (58, .aload_n 0, 59), (59, .aload 8, 61), (61, .invokevirtual 143, 64)],
  [(64, .ifCond .eq 12, 76), (67, .aload_n 0, 68), (68, .aload 8, 70), (70, .invokevirtual 147, 73), (73, .ifCond .ne 5, 78), (76, .iconst 0, 77), (77, .ireturn, 78), (78, .aload_n 0, 79), (79, .lconst 0, 80)],
  [(80, .putfield 150, 83), (83, .iconst 0, 84), (84, .istore 12, 86), (86, .iload 12, 88), (88, .iload_n 2, 89), (89, .if_icmp .ge 29, 118), (92, .aload_n 0, 93), (93, .dup, 94), (94, .getfield 150, 97)],
  [(97, .lconst 0, 98), (98, .aload_n 0, 99), (99, .getfield 19, 102), (102, .iload 12, 104), (104, .laload, 105), (105, .invokestatic 154, 108), (108, .ladd, 109), (109, .putfield 150, 112)],
  [(112, .iinc 12 1, 115), (115, .goto (-29), 86), (118, .aload_n 0, 119), (119, .aload_n 0, 120), (120, .getfield 150, 123), (123, .putfield 160, 126), (126, .aload_n 0, 127), (127, .getfield 150, 130)],
  [(130, .lconst 0, 131), (131, .lcmp, 132), (132, .ifCond .le 18, 150), (135, .aload_n 0, 136), (136, .getfield 163, 139), (139, .ifCond .ne 7, 146), (142, .aload_n 0, 143), (143, .invokevirtual 167, 146)],
  [(146, .aload_n 0, 147), (147, .invokevirtual 170, 150), (150, .iconst 1, 151), (151, .ireturn, 152)]]
def own_m4 : OMth := (⟨"evenkeel/group/SpreadSearch", "spreadAtLevels", "(II[I[I[I[I[I[J[J[I[Z)Z"⟩, prog_98_method_7_code, 13, (some .boolean), 12, own_r4, [(19, (6, 0, 16, 1)), (135, (4, 5, 0, 0)), (139, (4, 14, 0, 0)), (143, (4, 15, 0, 0)), (147, (4, 18, 0, 0)), (150, (6, 0, 67, 1)), (154, (0, 33, 0, 0)), (160, (6, 0, 68, 1)), (163, (6, 0, 60, 1)), (167, (4, 34, 0, 0)), (170, (13, 40, 0, 0))])
def own_r5 : List (List ORow) := [[(0, .aload_n 0, 1), (1, .iload_n 1, 2), (2, .putfield 173, 5), (5, .aload_n 0, 6), (6, .iload_n 2, 7), (7, .putfield 177, 10), (10, .aload_n 0, 11), (11, .aload_n 3, 12), (12, .putfield 180, 15), (15, .aload_n 0, 16)],
  [(16, .aload 4, 18), (18, .putfield 279, 21), (21, .aload_n 0, 22), (22, .aload 5, 24), (24, .putfield 282, 27), (27, .aload_n 0, 28), (28, .aload 6, 30), (30, .putfield 285, 33)],
  [(33, .aload_n 0, 34), (34, .aload 7, 36), (36, .putfield 276, 39), (39, .aload_n 0, 40), (40, .aload 8, 42), (42, .putfield 213, 45), (45, .aload_n 0, 46), (46, .aload 9, 48)],
  [(48, .putfield 288, 51), (51, .aload_n 0, 52), (52, .aload 4, 54), (54, .iload_n 2, 55), (55, .iaload, 56), (56, .putfield 201, 59), (59, .aload_n 0, 60), (60, .aload_n 0, 61), (61, .getfield 201, 64)],
  [(64, .i2l, 65), (65, .iload_n 1, 66), (66, .i2l, 67), (67, .iload_n 2, 68), (68, .i2l, 69), (69, .lmul, 70), (70, .lcmp, 71), (71, .ifCond .ne 7, 78), (74, .iconst 1, 75), (75, .goto 4, 79), (78, .iconst 0, 79), (79, .putfield 163, 82)],
  [(82, .iload 10, 84), (84, .ifCond .eq 12, 96), (87, .aload_n 0, 88), (88, .iload_n 2, 89), (89, .iload_n 1, 90), (90, .iadd, 91), (91, .iconst 2, 92), (92, .iadd, 93), (93, .invokevirtual 292, 96)],
  [(96, .aload_n 0, 97), (97, .invokevirtual 295, 100), (100, .aload_n 0, 101), (101, .invokevirtual 298, 104), (104, .return_, 105)]]
def own_m5 : OMth := (⟨"evenkeel/group/SpreadSearch", "setUp", "(II[I[I[I[I[I[I[ZZ)V"⟩, prog_98_method_20_code, 11, none, 11, own_r5, [(163, (6, 0, 60, 1)), (173, (6, 0, 50, 1)), (177, (6, 0, 51, 1)), (180, (6, 0, 52, 1)), (201, (6, 0, 59, 1)), (213, (6, 0, 57, 1)), (276, (6, 0, 56, 1)), (279, (6, 0, 53, 1)), (282, (6, 0, 54, 1)), (285, (6, 0, 55, 1)), (288, (6, 0, 58, 1)), (292, (13, 6, 0, 0)), (295, (4, 10, 0, 0)), (298, (4, 11, 0, 0))])
def own_r6 : List (List ORow) := [[(0, .aload_n 0, 1), (1, .iload_n 1, 2), (2, .iconst 2, 3), (3, .isub, 4), (4, .putfield 52, 7), (7, .aload_n 0, 8), (8, .iload_n 1, 9), (9, .iconst 1, 10), (10, .isub, 11), (11, .putfield 56, 14), (14, .aload_n 0, 15), (15, .aload_n 0, 16)],
  [(16, .getfield 9, 19), (19, .iload_n 1, 20), (20, .invokestatic 59, 23), (23, .putfield 9, 26), (26, .aload_n 0, 27), (27, .getfield 9, 30), (30, .iconst 0, 31), (31, .iload_n 1, 32)],
  [(32, .lconst 0, 33), (33, .invokestatic 65, 36), (36, .aload_n 0, 37), (37, .dup, 38), (38, .getfield 71, 41), (41, .iconst 1, 42), (42, .iadd, 43), (43, .putfield 71, 46), (46, .return_, 47)]]
def own_m6 : OMth := (⟨"evenkeel/group/MinCostFlow", "layOut", "(I)V"⟩, prog_76_method_2_code, 2, none, 2, own_r6, [(9, (6, 0, 0, 1)), (52, (6, 0, 61, 1)), (56, (6, 0, 62, 1)), (59, (0, 7, 0, 0)), (65, (0, 8, 0, 0)), (71, (6, 0, 63, 1))])
def own_r7 : List (List ORow) := [[(0, .aload_n 0, 1), (1, .arraylength, 2), (2, .iload_n 1, 3), (3, .if_icmp .ge 9, 12), (6, .iload_n 1, 7), (7, .newarray .long, 9), (9, .goto 4, 13), (12, .aload_n 0, 13), (13, .areturn, 14)]]
def own_m7 : OMth := (⟨"evenkeel/group/Scratch", "atLeast", "([JI)[J"⟩, prog_95_method_3_code, 2, (some (.array .long)), 2, own_r7, [])
def own_r8 : List (List ORow) := [[(0, .aload_n 0, 1), (1, .arraylength, 2), (2, .iload_n 1, 3), (3, .iload_n 2, 4), (4, .invokestatic 13, 7), (7, .iload_n 1, 8), (8, .istore 5, 10), (10, .iload 5, 12), (12, .iload_n 2, 13), (13, .if_icmp .ge 14, 27)],
  [(16, .aload_n 0, 17), (17, .iload 5, 19), (19, .lload_n 3, 20), (20, .lastore, 21), (21, .iinc 5 1, 24), (24, .goto (-14), 10), (27, .return_, 28)]]
def own_m8 : OMth := (⟨"java/util/Arrays", "fill", "([JIIJ)V"⟩, jdk_65_method_102_code, 6, none, 4, own_r8, [(13, (0, 9, 0, 0))])
def own_r9 : List (List ORow) := [[(0, .iload_n 1, 1), (1, .iload_n 2, 2), (2, .if_icmp .le 44, 46), (5, .new 43, 8), (8, .dup, 9), (9, .new 45, 12), (12, .dup, 13), (13, .invokespecial 47, 16)],
  [(16, .ldc 48, 18), (18, .invokevirtual 50, 21), (21, .iload_n 1, 22), (22, .invokevirtual 54, 25), (25, .ldc 57, 27), (27, .invokevirtual 50, 30), (30, .iload_n 2, 31), (31, .invokevirtual 54, 34)],
  [(34, .ldc 59, 36), (36, .invokevirtual 50, 39), (39, .invokevirtual 61, 42), (42, .invokespecial 65, 45), (46, .iload_n 1, 47), (47, .ifCond .ge 12, 59)],
  [(50, .new 68, 53), (53, .dup, 54), (54, .iload_n 1, 55), (55, .invokespecial 70, 58), (59, .iload_n 2, 60), (60, .iload_n 0, 61), (61, .if_icmp .le 12, 73)],
  [(64, .new 68, 67), (67, .dup, 68), (68, .iload_n 2, 69), (69, .invokespecial 70, 72), (73, .return_, 74)]]
def own_m9 : OMth := (⟨"java/util/Arrays", "rangeCheck", "(III)V"⟩, jdk_65_method_30_code, 3, none, 3, own_r9, [])
def own_r10 : List (List ORow) := [[(0, .aload_n 0, 1), (1, .getfield 19, 4), (4, .arraylength, 5), (5, .aload_n 0, 6), (6, .getfield 177, 9), (9, .if_icmp .ge 57, 66), (12, .aload_n 0, 13), (13, .aload_n 0, 14), (14, .getfield 177, 17)],
  [(17, .newarray .long, 19), (19, .putfield 19, 22), (22, .aload_n 0, 23), (23, .aload_n 0, 24), (24, .getfield 177, 27), (27, .iconst 1, 28), (28, .iadd, 29), (29, .newarray .int, 31), (31, .putfield 80, 34)],
  [(34, .aload_n 0, 35), (35, .aload_n 0, 36), (36, .getfield 177, 39), (39, .iconst 1, 40), (40, .iadd, 41), (41, .newarray .int, 43), (43, .putfield 95, 46), (46, .aload_n 0, 47), (47, .aload_n 0, 48)],
  [(48, .getfield 177, 51), (51, .newarray .int, 53), (53, .putfield 110, 56), (56, .aload_n 0, 57), (57, .aload_n 0, 58), (58, .getfield 177, 61), (61, .newarray .int, 63), (63, .putfield 113, 66)],
  [(66, .aload_n 0, 67), (67, .getfield 23, 70), (70, .arraylength, 71), (71, .aload_n 0, 72), (72, .getfield 173, 75), (75, .if_icmp .ge 187, 262), (78, .aload_n 0, 79), (79, .aload_n 0, 80)],
  [(80, .getfield 173, 83), (83, .newarray .int, 85), (85, .putfield 104, 88), (88, .aload_n 0, 89), (89, .aload_n 0, 90), (90, .getfield 173, 93), (93, .newarray .int, 95), (95, .putfield 107, 98)],
  [(98, .aload_n 0, 99), (99, .aload_n 0, 100), (100, .getfield 173, 103), (103, .newarray .long, 105), (105, .putfield 23, 108), (108, .aload_n 0, 109), (109, .aload_n 0, 110), (110, .getfield 173, 113)],
  [(113, .newarray .long, 115), (115, .putfield 26, 118), (118, .aload_n 0, 119), (119, .aload_n 0, 120), (120, .getfield 173, 123), (123, .newarray .long, 125), (125, .putfield 29, 128)],
  [(128, .aload_n 0, 129), (129, .aload_n 0, 130), (130, .getfield 173, 133), (133, .newarray .long, 135), (135, .putfield 32, 138), (138, .aload_n 0, 139), (139, .aload_n 0, 140), (140, .getfield 173, 143), (143, .newarray .long, 145)],
  [(145, .putfield 35, 148), (148, .aload_n 0, 149), (149, .aload_n 0, 150), (150, .getfield 173, 153), (153, .newarray .long, 155), (155, .putfield 38, 158), (158, .aload_n 0, 159), (159, .aload_n 0, 160)],
  [(160, .getfield 173, 163), (163, .newarray .int, 165), (165, .putfield 41, 168), (168, .aload_n 0, 169), (169, .aload_n 0, 170), (170, .getfield 173, 173), (173, .newarray .int, 175), (175, .putfield 62, 178)],
  [(178, .aload_n 0, 179), (179, .aload_n 0, 180), (180, .getfield 173, 183), (183, .newarray .long, 185), (185, .putfield 65, 188), (188, .aload_n 0, 189), (189, .aload_n 0, 190), (190, .getfield 173, 193)],
  [(193, .newarray .long, 195), (195, .putfield 68, 198), (198, .aload_n 0, 199), (199, .aload_n 0, 200), (200, .getfield 173, 203), (203, .newarray .long, 205), (205, .putfield 71, 208)],
  [(208, .aload_n 0, 209), (209, .aload_n 0, 210), (210, .getfield 173, 213), (213, .newarray .int, 215), (215, .putfield 74, 218), (218, .aload_n 0, 219), (219, .aload_n 0, 220), (220, .getfield 173, 223), (223, .newarray .int, 225)],
  [(225, .putfield 77, 228), (228, .aload_n 0, 229), (229, .aload_n 0, 230), (230, .getfield 173, 233), (233, .newarray .int, 235), (235, .putfield 56, 238), (238, .aload_n 0, 239), (239, .aload_n 0, 240)],
  [(240, .getfield 173, 243), (243, .iconst 1, 244), (244, .iadd, 245), (245, .newarray .int, 247), (247, .putfield 7, 250), (250, .aload_n 0, 251), (251, .aload_n 0, 252), (252, .getfield 173, 255), (255, .iconst 1, 256)],
  [(256, .iadd, 257), (257, .newarray .int, 259), (259, .putfield 98, 262), (262, .aload_n 0, 263), (263, .getfield 163, 266), (266, .ifCond .ne 35, 301), (269, .aload_n 0, 270), (270, .getfield 13, 273)],
  [(273, .arraylength, 274), (274, .aload_n 0, 275), (275, .getfield 201, 278), (278, .if_icmp .ge 23, 301), (281, .aload_n 0, 282), (282, .aload_n 0, 283), (283, .getfield 201, 286), (286, .newarray .int, 288)],
  [(288, .putfield 13, 291), (291, .aload_n 0, 292), (292, .aload_n 0, 293), (293, .getfield 201, 296), (296, .newarray .int, 298), (298, .putfield 16, 301), (301, .aload_n 0, 302), (302, .getfield 163, 305)],
  [(305, .ifCond .eq 18, 323), (308, .aload_n 0, 309), (309, .aload_n 0, 310), (310, .getfield 59, 313), (313, .aload_n 0, 314), (314, .getfield 201, 317), (317, .invokestatic 204, 320)],
  [(320, .putfield 59, 323), (323, .return_, 324)]]
def own_m10 : OMth := (⟨"evenkeel/group/SpreadSearch", "makeRoom", "()V"⟩, prog_98_method_29_code, 1, none, 1, own_r10, [(7, (6, 0, 13, 1)), (13, (6, 0, 14, 1)), (16, (6, 0, 15, 1)), (19, (6, 0, 16, 1)), (23, (6, 0, 17, 1)), (26, (6, 0, 18, 1)), (29, (6, 0, 19, 1)), (32, (6, 0, 20, 1)), (35, (6, 0, 21, 1)), (38, (6, 0, 22, 1)), (41, (6, 0, 23, 1)), (56, (6, 0, 28, 1)), (59, (6, 0, 29, 1)), (62, (6, 0, 30, 1)), (65, (6, 0, 31, 1)), (68, (6, 0, 32, 1)), (71, (6, 0, 33, 1)), (74, (6, 0, 34, 1)), (77, (6, 0, 35, 1)), (80, (6, 0, 36, 1)), (95, (6, 0, 41, 1)), (98, (6, 0, 42, 1)), (104, (6, 0, 44, 1)), (107, (6, 0, 45, 1)), (110, (6, 0, 46, 1)), (113, (6, 0, 47, 1)), (163, (6, 0, 60, 1)), (173, (6, 0, 50, 1)), (177, (6, 0, 51, 1)), (201, (6, 0, 59, 1)), (204, (0, 19, 0, 0))])
def own_r11 : List (List ORow) := [[(0, .aload_n 0, 1), (1, .getfield 163, 4), (4, .ifCond .eq 4, 8), (7, .return_, 8), (8, .aload_n 0, 9), (9, .getfield 7, 12), (12, .iconst 0, 13), (13, .aload_n 0, 14), (14, .getfield 173, 17)],
  [(17, .iconst 1, 18), (18, .iadd, 19), (19, .iconst 0, 20), (20, .invokestatic 337, 23), (23, .iconst 0, 24), (24, .istore_n 1, 25), (25, .iload_n 1, 26), (26, .aload_n 0, 27), (27, .getfield 201, 30), (30, .if_icmp .ge 26, 56)],
  [(33, .aload_n 0, 34), (34, .getfield 7, 37), (37, .aload_n 0, 38), (38, .getfield 282, 41), (41, .iload_n 1, 42), (42, .iaload, 43), (43, .iconst 1, 44), (44, .iadd, 45), (45, .dup2, 46), (46, .iaload, 47), (47, .iconst 1, 48)],
  [(48, .iadd, 49), (49, .iastore, 50), (50, .iinc 1 1, 53), (53, .goto (-28), 25), (56, .iconst 0, 57), (57, .istore_n 1, 58), (58, .iload_n 1, 59), (59, .aload_n 0, 60), (60, .getfield 173, 63), (63, .if_icmp .ge 26, 89)],
  [(66, .aload_n 0, 67), (67, .getfield 7, 70), (70, .iload_n 1, 71), (71, .iconst 1, 72), (72, .iadd, 73), (73, .dup2, 74), (74, .iaload, 75), (75, .aload_n 0, 76), (76, .getfield 7, 79), (79, .iload_n 1, 80)],
  [(80, .iaload, 81), (81, .iadd, 82), (82, .iastore, 83), (83, .iinc 1 1, 86), (86, .goto (-28), 58), (89, .aload_n 0, 90), (90, .getfield 41, 93), (93, .astore_n 1, 94), (94, .aload_n 0, 95), (95, .getfield 7, 98)],
  [(98, .iconst 0, 99), (99, .aload_n 1, 100), (100, .iconst 0, 101), (101, .aload_n 0, 102), (102, .getfield 173, 105), (105, .invokestatic 216, 108), (108, .iconst 0, 109), (109, .istore_n 2, 110), (110, .iload_n 2, 111), (111, .aload_n 0, 112)],
  [(112, .getfield 177, 115), (115, .if_icmp .ge 15, 130), (118, .aload_n 0, 119), (119, .iload_n 2, 120), (120, .aload_n 1, 121), (121, .invokevirtual 340, 124), (124, .iinc 2 1, 127), (127, .goto (-17), 110)],
  [(130, .return_, 131)]]
def own_m11 : OMth := (⟨"evenkeel/group/SpreadSearch", "indexRows", "()V"⟩, prog_98_method_30_code, 3, none, 1, own_r11, [(7, (6, 0, 13, 1)), (41, (6, 0, 23, 1)), (163, (6, 0, 60, 1)), (173, (6, 0, 50, 1)), (177, (6, 0, 51, 1)), (201, (6, 0, 59, 1)), (216, (10, 0, 0, 0)), (282, (6, 0, 54, 1)), (337, (0, 12, 0, 0)), (340, (4, 13, 0, 0))])
def own_r12 : List (List ORow) := [[(0, .aload_n 0, 1), (1, .arraylength, 2), (2, .iload_n 1, 3), (3, .iload_n 2, 4), (4, .invokestatic 13, 7), (7, .iload_n 1, 8), (8, .istore 4, 10), (10, .iload 4, 12), (12, .iload_n 2, 13), (13, .if_icmp .ge 14, 27)],
  [(16, .aload_n 0, 17), (17, .iload 4, 19), (19, .iload_n 3, 20), (20, .iastore, 21), (21, .iinc 4 1, 24), (24, .goto (-14), 10), (27, .return_, 28)]]
def own_m12 : OMth := (⟨"java/util/Arrays", "fill", "([IIII)V"⟩, jdk_65_method_104_code, 5, none, 4, own_r12, [(13, (0, 9, 0, 0))])
def own_r13 : List (List ORow) := [[(0, .aload_n 0, 1), (1, .getfield 279, 4), (4, .iload_n 1, 5), (5, .iaload, 6), (6, .istore_n 3, 7), (7, .iload_n 3, 8), (8, .aload_n 0, 9), (9, .getfield 279, 12), (12, .iload_n 1, 13), (13, .iconst 1, 14), (14, .iadd, 15), (15, .iaload, 16)],
  [(16, .if_icmp .ge 35, 51), (19, .aload_n 0, 20), (20, .getfield 16, 23), (23, .iload_n 3, 24), (24, .iload_n 1, 25), (25, .iastore, 26), (26, .aload_n 0, 27), (27, .getfield 13, 30), (30, .aload_n 2, 31), (31, .aload_n 0, 32)],
  [(32, .getfield 282, 35), (35, .iload_n 3, 36), (36, .iaload, 37), (37, .dup2, 38), (38, .iaload, 39), (39, .dup_x2, 40), (40, .iconst 1, 41), (41, .iadd, 42), (42, .iastore, 43), (43, .iload_n 3, 44), (44, .iastore, 45), (45, .iinc 3 1, 48)],
  [(48, .goto (-41), 7), (51, .return_, 52)]]
def own_m13 : OMth := (⟨"evenkeel/group/SpreadSearch", "indexColumn", "(I[I)V"⟩, prog_98_method_31_code, 4, none, 3, own_r13, [(13, (6, 0, 14, 1)), (16, (6, 0, 15, 1)), (279, (6, 0, 53, 1)), (282, (6, 0, 54, 1))])
def own_r14 : List (List ORow) := [[(0, .lconst 0, 1), (1, .lstore_n 3, 2), (2, .iconst 0, 3), (3, .istore 5, 5), (5, .iload 5, 7), (7, .aload_n 0, 8), (8, .getfield 177, 11), (11, .if_icmp .ge 16, 27), (14, .lload_n 3, 15), (15, .aload_n 2, 16)],
  [(16, .iload 5, 18), (18, .laload, 19), (19, .ladd, 20), (20, .lstore_n 3, 21), (21, .iinc 5 1, 24), (24, .goto (-19), 5), (27, .iconst 0, 28), (28, .istore 5, 30), (30, .iload 5, 32)],
  [(32, .aload_n 0, 33), (33, .getfield 173, 36), (36, .if_icmp .ge 16, 52), (39, .lload_n 3, 40), (40, .aload_n 1, 41), (41, .iload 5, 43), (43, .laload, 44), (44, .lsub, 45), (45, .lstore_n 3, 46), (46, .iinc 5 1, 49)],
  [(49, .goto (-19), 30), (52, .lload_n 3, 53), (53, .lconst 0, 54), (54, .lcmp, 55), (55, .ifCond .ne 7, 62), (58, .iconst 1, 59), (59, .goto 4, 63), (62, .iconst 0, 63), (63, .ireturn, 64)]]
def own_m14 : OMth := (⟨"evenkeel/group/SpreadSearch", "balances", "([J[J)Z"⟩, prog_98_method_15_code, 6, (some .boolean), 3, own_r14, [(173, (6, 0, 50, 1)), (177, (6, 0, 51, 1))])
def own_r15 : List (List ORow) := [[(0, .aload_n 0, 1), (1, .iconst 0, 2), (2, .putfield 344, 5), (5, .iconst 0, 6), (6, .istore_n 2, 7), (7, .iload_n 2, 8), (8, .aload_n 0, 9), (9, .getfield 173, 12), (12, .if_icmp .ge 22, 34), (15, .aload_n 0, 16)],
  [(16, .iload_n 2, 17), (17, .aload_n 1, 18), (18, .iload_n 2, 19), (19, .laload, 20), (20, .invokevirtual 347, 23), (23, .ifCond .ne 5, 28), (26, .iconst 0, 27), (27, .ireturn, 28), (28, .iinc 2 1, 31), (31, .goto (-24), 7)],
  [(34, .aload_n 0, 35), (35, .aload_n 1, 36), (36, .invokevirtual 351, 39), (39, .iconst 1, 40), (40, .ireturn, 41)]]
def own_m15 : OMth := (⟨"evenkeel/group/SpreadSearch", "findLevels", "([J)Z"⟩, prog_98_method_37_code, 3, (some .boolean), 2, own_r15, [(173, (6, 0, 50, 1)), (344, (6, 0, 64, 1)), (347, (4, 16, 0, 0)), (351, (4, 17, 0, 0))])
def own_r16 : List (List ORow) := [[(0, .aload_n 0, 1), (1, .getfield 180, 4), (4, .iload_n 1, 5), (5, .iaload, 6), (6, .i2l, 7), (7, .lstore 4, 9), (9, .aload_n 0, 10), (10, .getfield 163, 13), (13, .istore 6, 15), (15, .iload 6, 17)],
  [(17, .ifCond .eq 7, 24), (20, .iconst 0, 21), (21, .goto 9, 30), (24, .aload_n 0, 25), (25, .getfield 7, 28), (28, .iload_n 1, 29), (29, .iaload, 30), (30, .istore 7, 32)],
  [(32, .iload 6, 34), (34, .ifCond .eq 10, 44), (37, .aload_n 0, 38), (38, .getfield 177, 41), (41, .goto 11, 52), (44, .aload_n 0, 45), (45, .getfield 7, 48)],
  [(48, .iload_n 1, 49), (49, .iconst 1, 50), (50, .iadd, 51), (51, .iaload, 52), (52, .istore 8, 54), (54, .lconst 0, 55), (55, .lstore 9, 57), (57, .lconst 0, 58), (58, .lstore 11, 60), (60, .lconst 0, 61), (61, .lstore 13, 63), (63, .aload_n 0, 64)],
  [(64, .getfield 288, 67), (67, .ifnull 34, 101), (70, .aload_n 0, 71), (71, .getfield 288, 74), (74, .iload_n 1, 75), (75, .baload, 76), (76, .ifCond .eq 25, 101), (79, .iload 8, 81)],
  [(81, .iload 7, 83), (83, .isub, 84), (84, .i2l, 85), (85, .lload 4, 87), (87, .lmul, 88), (88, .lstore 11, 90), (90, .ldc2_w 122, 93), (93, .lload 11, 95), (95, .lmul, 96)],
  [(96, .lstore 13, 98), (98, .goto 170, 268), (101, .ldc2_w 122, 104), (104, .lload 4, 106), (106, .lmul, 107), (107, .lstore 15, 109), (109, .aload_n 0, 110), (110, .getfield 285, 113)],
  [(113, .astore 17, 115), (115, .aload_n 0, 116), (116, .getfield 276, 119), (119, .astore 18, 121), (121, .aload_n 0, 122), (122, .getfield 13, 125), (125, .astore 19, 127), (127, .aload_n 0, 128)],
  [(128, .getfield 173, 131), (131, .istore 20, 133), (133, .iload 7, 135), (135, .istore 21, 137), (137, .iload 21, 139), (139, .iload 8, 141), (141, .if_icmp .ge 127, 268)],
  [(144, .iload 6, 146), (146, .ifCond .eq 13, 159), (149, .iload 21, 151), (151, .iload 20, 153), (153, .imul, 154), (154, .iload_n 1, 155), (155, .iadd, 156), (156, .goto 8, 164), (159, .aload 19, 161)],
  [(161, .iload 21, 163), (163, .iaload, 164), (164, .istore 22, 166), (166, .aload 17, 168), (168, .iload 22, 170), (170, .iaload, 171), (171, .istore 23, 173), (173, .aload 18, 175), (175, .iload 22, 177)],
  [(177, .iaload, 178), (178, .istore 24, 180), (180, .lload 9, 182), (182, .iload 23, 184), (184, .i2l, 185), (185, .ladd, 186), (186, .lstore 9, 188), (188, .lload 11, 190), (190, .iload 23, 192)],
  [(192, .i2l, 193), (193, .lload 4, 195), (195, .lcmp, 196), (196, .ifCond .lt 9, 205), (199, .iload 23, 201), (201, .i2l, 202), (202, .goto 20, 222), (205, .iload 24, 207), (207, .i2l, 208)],
  [(208, .lload 4, 210), (210, .lcmp, 211), (211, .ifCond .ge 9, 220), (214, .iload 24, 216), (216, .i2l, 217), (217, .goto 5, 222), (220, .lload 4, 222), (222, .ladd, 223), (223, .lstore 11, 225)],
  [(225, .lload 13, 227), (227, .iload 23, 229), (229, .i2l, 230), (230, .lload 15, 232), (232, .lcmp, 233), (233, .ifCond .lt 9, 242), (236, .iload 23, 238), (238, .i2l, 239), (239, .goto 20, 259)],
  [(242, .iload 24, 244), (244, .i2l, 245), (245, .lload 15, 247), (247, .lcmp, 248), (248, .ifCond .ge 9, 257), (251, .iload 24, 253), (253, .i2l, 254), (254, .goto 5, 259)],
  [(257, .lload 15, 259), (259, .ladd, 260), (260, .lstore 13, 262), (262, .iinc 21 1, 265), (265, .goto (-128), 137), (268, .lload 9, 270), (270, .lload_n 2, 271), (271, .lcmp, 272)],
  [(272, .ifCond .gt 17, 289), (275, .iload 8, 277), (277, .iload 7, 279), (279, .if_icmp .eq 10, 289), (282, .lload 13, 284), (284, .lload_n 2, 285), (285, .lcmp, 286), (286, .ifCond .gt 64, 350)],
  [(289, .aload_n 0, 290), (290, .getfield 163, 293), (293, .ifCond .eq 20, 313), (296, .aload_n 0, 297), (297, .getfield 56, 300), (300, .aload_n 0, 301), (301, .dup, 302), (302, .getfield 344, 305)],
  [(305, .dup_x1, 306), (306, .iconst 1, 307), (307, .iadd, 308), (308, .putfield 344, 311), (311, .iload_n 1, 312), (312, .iastore, 313), (313, .lload 9, 315), (315, .lload_n 2, 316), (316, .lcmp, 317), (317, .ifCond .gt 18, 335)],
  [(320, .iload 8, 322), (322, .iload 7, 324), (324, .if_icmp .le 11, 335), (327, .aload_n 0, 328), (328, .iload_n 1, 329), (329, .invokevirtual 354, 332), (332, .ifCond .ne 12, 344), (335, .aload_n 0, 336)],
  [(336, .iload_n 1, 337), (337, .lload_n 2, 338), (338, .invokevirtual 358, 341), (341, .ifCond .eq 7, 348), (344, .iconst 1, 345), (345, .goto 4, 349), (348, .iconst 0, 349), (349, .ireturn, 350), (350, .lload 11, 352)],
  [(352, .lload_n 2, 353), (353, .lcmp, 354), (354, .ifCond .le 7, 361), (357, .iconst 0, 358), (358, .goto 4, 362), (361, .iconst 1, 362), (362, .istore 15, 364), (364, .aload_n 0, 365), (365, .getfield 23, 368)],
  [(368, .iload_n 1, 369), (369, .iload 15, 371), (371, .i2l, 372), (372, .lastore, 373), (373, .aload_n 0, 374), (374, .getfield 26, 377), (377, .iload_n 1, 378), (378, .iload 15, 380), (380, .i2l, 381), (381, .lastore, 382), (382, .aload_n 0, 383), (383, .getfield 163, 386)],
  [(386, .ifCond .eq 47, 433), (389, .iload 15, 391), (391, .ifCond .gt 25, 416), (394, .lload 9, 396), (396, .lconst 0, 397), (397, .lcmp, 398), (398, .ifCond .gt 18, 416)],
  [(401, .lload 11, 403), (403, .iload 8, 405), (405, .iload 7, 407), (407, .isub, 408), (408, .i2l, 409), (409, .lload 4, 411), (411, .lmul, 412), (412, .lcmp, 413), (413, .ifCond .ge 20, 433)],
  [(416, .aload_n 0, 417), (417, .getfield 56, 420), (420, .aload_n 0, 421), (421, .dup, 422), (422, .getfield 344, 425), (425, .dup_x1, 426), (426, .iconst 1, 427), (427, .iadd, 428), (428, .putfield 344, 431), (431, .iload_n 1, 432)],
  [(432, .iastore, 433), (433, .iconst 1, 434), (434, .ireturn, 435)]]
def own_m16 : OMth := (⟨"evenkeel/group/SpreadSearch", "findLevel", "(IJ)Z"⟩, prog_98_method_38_code, 25, (some .boolean), 3, own_r16, [(7, (6, 0, 13, 1)), (13, (6, 0, 14, 1)), (23, (6, 0, 17, 1)), (26, (6, 0, 18, 1)), (56, (6, 0, 28, 1)), (122, (9, 0, 0, 2)), (163, (6, 0, 60, 1)), (173, (6, 0, 50, 1)), (177, (6, 0, 51, 1)), (180, (6, 0, 52, 1)), (276, (6, 0, 56, 1)), (285, (6, 0, 55, 1)), (288, (6, 0, 58, 1)), (344, (6, 0, 64, 1))])
def own_r17 : List (List ORow) := [[(0, .aload_n 0, 1), (1, .getfield 29, 4), (4, .astore_n 2, 5), (5, .aload_n 0, 6), (6, .getfield 32, 9), (9, .astore_n 3, 10), (10, .iconst 0, 11), (11, .istore 4, 13), (13, .iconst 0, 14), (14, .istore 5, 16)],
  [(16, .iload 5, 18), (18, .aload_n 0, 19), (19, .getfield 173, 22), (22, .if_icmp .ge 91, 113), (25, .aload_n 0, 26), (26, .getfield 23, 29), (29, .iload 5, 31), (31, .laload, 32)],
  [(32, .aload_n 0, 33), (33, .getfield 26, 36), (36, .iload 5, 38), (38, .laload, 39), (39, .lcmp, 40), (40, .ifCond .ge 7, 47), (43, .iconst 1, 44), (44, .goto 4, 48), (47, .iconst 0, 48)],
  [(48, .istore 6, 50), (50, .aload_n 2, 51), (51, .iload 5, 53), (53, .iload 6, 55), (55, .ifCond .eq 36, 91), (58, .aload_n 0, 59), (59, .getfield 23, 62), (62, .iload 5, 64)],
  [(64, .laload, 65), (65, .aload_n 0, 66), (66, .getfield 26, 69), (69, .iload 5, 71), (71, .laload, 72), (72, .ladd, 73), (73, .lconst 1, 74), (74, .ladd, 75), (75, .ldc2_w 122, 78), (78, .ldiv, 79), (79, .aload_n 0, 80)],
  [(80, .getfield 180, 83), (83, .iload 5, 85), (85, .iaload, 86), (86, .i2l, 87), (87, .lmul, 88), (88, .goto 6, 94), (91, .ldc2_w 368, 94), (94, .lastore, 95), (95, .aload_n 3, 96)],
  [(96, .iload 5, 98), (98, .lconst 0, 99), (99, .lastore, 100), (100, .iload 4, 102), (102, .iload 6, 104), (104, .ior, 105), (105, .istore 4, 107), (107, .iinc 5 1, 110), (110, .goto (-94), 16)],
  [(113, .iload 4, 115), (115, .ifCond .ne 4, 119), (118, .return_, 119), (119, .iconst 0, 120), (120, .istore 5, 122), (122, .iload 5, 124), (124, .aload_n 0, 125), (125, .getfield 201, 128)],
  [(128, .if_icmp .ge 111, 239), (131, .aload_n 0, 132), (132, .getfield 163, 135), (135, .ifCond .eq 13, 148), (138, .iload 5, 140), (140, .aload_n 0, 141), (141, .getfield 173, 144)],
  [(144, .irem, 145), (145, .goto 10, 155), (148, .aload_n 0, 149), (149, .getfield 282, 152), (152, .iload 5, 154), (154, .iaload, 155), (155, .istore 6, 157), (157, .aload_n 2, 158), (158, .iload 6, 160)],
  [(160, .laload, 161), (161, .lconst 0, 162), (162, .lcmp, 163), (163, .ifCond .lt 70, 233), (166, .aload_n 0, 167), (167, .getfield 276, 170), (170, .iload 5, 172), (172, .iaload, 173), (173, .i2l, 174), (174, .aload_n 2, 175), (175, .iload 6, 177)],
  [(177, .laload, 178), (178, .lcmp, 179), (179, .ifCond .ge 14, 193), (182, .aload_n 0, 183), (183, .getfield 276, 186), (186, .iload 5, 188), (188, .iaload, 189), (189, .i2l, 190), (190, .goto 7, 197)],
  [(193, .aload_n 2, 194), (194, .iload 6, 196), (196, .laload, 197), (197, .lstore 7, 199), (199, .aload_n 3, 200), (200, .iload 6, 202), (202, .dup2, 203), (203, .laload, 204), (204, .aload_n 0, 205), (205, .getfield 285, 208)],
  [(208, .iload 5, 210), (210, .iaload, 211), (211, .i2l, 212), (212, .lload 7, 214), (214, .lcmp, 215), (215, .ifCond .le 14, 229), (218, .aload_n 0, 219), (219, .getfield 285, 222), (222, .iload 5, 224)],
  [(224, .iaload, 225), (225, .i2l, 226), (226, .goto 5, 231), (229, .lload 7, 231), (231, .ladd, 232), (232, .lastore, 233), (233, .iinc 5 1, 236), (236, .goto (-114), 122), (239, .iconst 0, 240)],
  [(240, .istore 5, 242), (242, .iload 5, 244), (244, .aload_n 0, 245), (245, .getfield 173, 248), (248, .if_icmp .ge 84, 332), (251, .aload_n 2, 252), (252, .iload 5, 254), (254, .laload, 255), (255, .lconst 0, 256)],
  [(256, .lcmp, 257), (257, .ifCond .lt 38, 295), (260, .aload_n 3, 261), (261, .iload 5, 263), (263, .laload, 264), (264, .aload_n 1, 265), (265, .iload 5, 267), (267, .laload, 268), (268, .lcmp, 269), (269, .ifCond .gt 26, 295)],
  [(272, .aload_n 0, 273), (273, .getfield 23, 276), (276, .iload 5, 278), (278, .aload_n 2, 279), (279, .iload 5, 281), (281, .laload, 282), (282, .aload_n 0, 283), (283, .getfield 180, 286), (286, .iload 5, 288)],
  [(288, .iaload, 289), (289, .i2l, 290), (290, .ldiv, 291), (291, .lastore, 292), (292, .goto 34, 326), (295, .aload_n 2, 296), (296, .iload 5, 298), (298, .laload, 299), (299, .lconst 0, 300), (300, .lcmp, 301), (301, .ifCond .lt 25, 326)],
  [(304, .aload_n 0, 305), (305, .getfield 26, 308), (308, .iload 5, 310), (310, .aload_n 2, 311), (311, .iload 5, 313), (313, .laload, 314), (314, .aload_n 0, 315), (315, .getfield 180, 318), (318, .iload 5, 320)],
  [(320, .iaload, 321), (321, .i2l, 322), (322, .ldiv, 323), (323, .lconst 1, 324), (324, .lsub, 325), (325, .lastore, 326), (326, .iinc 5 1, 329), (329, .goto (-87), 242), (332, .goto (-322), 10)]]
def own_m17 : OMth := (⟨"evenkeel/group/SpreadSearch", "searchLevels", "([J)V"⟩, prog_98_method_41_code, 9, none, 2, own_r17, [(23, (6, 0, 17, 1)), (26, (6, 0, 18, 1)), (29, (6, 0, 19, 1)), (32, (6, 0, 20, 1)), (122, (9, 0, 0, 2)), (163, (6, 0, 60, 1)), (173, (6, 0, 50, 1)), (180, (6, 0, 52, 1)), (201, (6, 0, 59, 1)), (276, (6, 0, 56, 1)), (282, (6, 0, 54, 1)), (285, (6, 0, 55, 1)), (368, (9, 0, 0, -1))])
def own_r18 : List (List ORow) := [[(0, .aload_n 0, 1), (1, .getfield 29, 4), (4, .astore_n 2, 5), (5, .iconst 0, 6), (6, .istore_n 3, 7), (7, .iload_n 3, 8), (8, .aload_n 0, 9), (9, .getfield 173, 12), (12, .if_icmp .ge 60, 72), (15, .aload_n 2, 16)],
  [(16, .iload_n 3, 17), (17, .aload_n 0, 18), (18, .getfield 23, 21), (21, .iload_n 3, 22), (22, .laload, 23), (23, .aload_n 0, 24), (24, .getfield 180, 27), (27, .iload_n 3, 28), (28, .iaload, 29), (29, .i2l, 30), (30, .lmul, 31), (31, .lastore, 32)],
  [(32, .aload_n 0, 33), (33, .getfield 32, 36), (36, .iload_n 3, 37), (37, .aload_n 1, 38), (38, .iload_n 3, 39), (39, .laload, 40), (40, .lastore, 41), (41, .aload_n 0, 42), (42, .getfield 35, 45), (45, .iload_n 3, 46), (46, .ldc2_w 239, 49)],
  [(49, .lastore, 50), (50, .aload_n 0, 51), (51, .getfield 38, 54), (54, .iload_n 3, 55), (55, .ldc2_w 237, 58), (58, .lastore, 59), (59, .aload_n 0, 60), (60, .getfield 41, 63), (63, .iload_n 3, 64)],
  [(64, .iconst 0, 65), (65, .iastore, 66), (66, .iinc 3 1, 69), (69, .goto (-62), 7), (72, .aload_n 0, 73), (73, .getfield 163, 76), (76, .ifCond .eq 75, 151), (79, .aload_n 0, 80)],
  [(80, .getfield 344, 83), (83, .aload_n 0, 84), (84, .getfield 173, 87), (87, .if_icmp .ge 64, 151), (90, .aload_n 0, 91), (91, .getfield 59, 94), (94, .iconst 0, 95), (95, .aload_n 0, 96)],
  [(96, .getfield 213, 99), (99, .iconst 0, 100), (100, .aload_n 0, 101), (101, .getfield 201, 104), (104, .invokestatic 216, 107), (107, .aload_n 0, 108), (108, .getfield 41, 111), (111, .iconst 0, 112)],
  [(112, .aload_n 0, 113), (113, .getfield 173, 116), (116, .aload_n 0, 117), (117, .getfield 177, 120), (120, .invokestatic 337, 123), (123, .iconst 0, 124), (124, .istore_n 3, 125), (125, .iload_n 3, 126), (126, .aload_n 0, 127), (127, .getfield 344, 130)],
  [(130, .if_icmp .ge 21, 151), (133, .aload_n 0, 134), (134, .getfield 41, 137), (137, .aload_n 0, 138), (138, .getfield 56, 141), (141, .iload_n 3, 142), (142, .iaload, 143), (143, .iconst 0, 144)],
  [(144, .iastore, 145), (145, .iinc 3 1, 148), (148, .goto (-23), 125), (151, .aload_n 0, 152), (152, .getfield 163, 155), (155, .ifCond .ne 18, 173), (158, .aload_n 0, 159), (159, .aload_n 0, 160)],
  [(160, .getfield 83, 163), (163, .aload_n 0, 164), (164, .getfield 201, 167), (167, .invokestatic 204, 170), (170, .putfield 83, 173), (173, .iconst 0, 174), (174, .istore_n 3, 175), (175, .iconst 0, 176)],
  [(176, .istore 4, 178), (178, .iload 4, 180), (180, .aload_n 0, 181), (181, .getfield 177, 184), (184, .if_icmp .ge 26, 210), (187, .aload_n 0, 188), (188, .getfield 80, 191), (191, .iload 4, 193)],
  [(193, .iload_n 3, 194), (194, .iastore, 195), (195, .aload_n 0, 196), (196, .iload 4, 198), (198, .aload_n 2, 199), (199, .iload_n 3, 200), (200, .invokevirtual 370, 203), (203, .istore_n 3, 204), (204, .iinc 4 1, 207), (207, .goto (-29), 178)],
  [(210, .aload_n 0, 211), (211, .getfield 80, 214), (214, .aload_n 0, 215), (215, .getfield 177, 218), (218, .iload_n 3, 219), (219, .iastore, 220), (220, .aload_n 0, 221), (221, .iconst 0, 222), (222, .putfield 374, 225)],
  [(225, .iconst 0, 226), (226, .istore 4, 228), (228, .aload_n 0, 229), (229, .getfield 163, 232), (232, .ifCond .eq 56, 288), (235, .iload 4, 237), (237, .aload_n 0, 238), (238, .getfield 173, 241)],
  [(241, .if_icmp .ge 47, 288), (244, .aload_n 0, 245), (245, .dup, 246), (246, .getfield 374, 249), (249, .aload_n 0, 250), (250, .getfield 32, 253), (253, .iload 4, 255), (255, .laload, 256)],
  [(256, .lconst 0, 257), (257, .lcmp, 258), (258, .ifCond .le 19, 277), (261, .aload_n 0, 262), (262, .getfield 41, 265), (265, .iload 4, 267), (267, .iaload, 268), (268, .bipush 8, 270), (270, .if_icmp .gt 7, 277)],
  [(273, .iconst 1, 274), (274, .goto 4, 278), (277, .iconst 0, 278), (278, .iadd, 279), (279, .putfield 374, 282), (282, .iinc 4 1, 285), (285, .goto (-57), 228)],
  [(288, .aload_n 0, 289), (289, .invokevirtual 377, 292), (292, .iconst 0, 293), (293, .istore 4, 295), (295, .iload 4, 297), (297, .aload_n 0, 298), (298, .getfield 173, 301), (301, .if_icmp .ge 94, 395)],
  [(304, .aload_n 0, 305), (305, .getfield 222, 308), (308, .aload_n 0, 309), (309, .getfield 177, 312), (312, .iload 4, 314), (314, .iadd, 315), (315, .aload_n 0, 316), (316, .getfield 41, 319), (319, .iload 4, 321)],
  [(321, .iaload, 322), (322, .ifCond .le 17, 339), (325, .aload_n 0, 326), (326, .getfield 23, 329), (329, .iload 4, 331), (331, .laload, 332), (332, .iconst 1, 333), (333, .invokestatic 323, 336)],
  [(336, .goto 52, 388), (339, .aload_n 0, 340), (340, .getfield 35, 343), (343, .iload 4, 345), (345, .laload, 346), (346, .ldc2_w 239, 349), (349, .lcmp, 350), (350, .ifCond .eq 13, 363)],
  [(353, .aload_n 0, 354), (354, .getfield 35, 357), (357, .iload 4, 359), (359, .laload, 360), (360, .goto 28, 388), (363, .aload_n 0, 364), (364, .getfield 38, 367), (367, .iload 4, 369)],
  [(369, .laload, 370), (370, .ldc2_w 237, 373), (373, .lcmp, 374), (374, .ifCond .eq 13, 387), (377, .aload_n 0, 378), (378, .getfield 38, 381), (381, .iload 4, 383), (383, .laload, 384)],
  [(384, .goto 4, 388), (387, .lconst 0, 388), (388, .lastore, 389), (389, .iinc 4 1, 392), (392, .goto (-97), 295), (395, .aload_n 0, 396), (396, .invokevirtual 380, 399), (399, .ireturn, 400)]]
def own_m18 : OMth := (⟨"evenkeel/group/SpreadSearch", "placeLeft", "([J)Z"⟩, prog_98_method_42_code, 5, (some .boolean), 2, own_r18, [(23, (6, 0, 17, 1)), (29, (6, 0, 19, 1)), (32, (6, 0, 20, 1)), (35, (6, 0, 21, 1)), (38, (6, 0, 22, 1)), (41, (6, 0, 23, 1)), (56, (6, 0, 28, 1)), (59, (6, 0, 29, 1)), (80, (6, 0, 36, 1)), (83, (6, 0, 37, 1)), (163, (6, 0, 60, 1)), (173, (6, 0, 50, 1)), (177, (6, 0, 51, 1)), (180, (6, 0, 52, 1)), (201, (6, 0, 59, 1)), (204, (0, 19, 0, 0)), (213, (6, 0, 57, 1)), (216, (10, 0, 0, 0)), (222, (6, 0, 0, 1)), (237, (9, 0, 0, -9223372036854775808)), (239, (9, 0, 0, 9223372036854775807)), (323, (0, 25, 0, 0)), (337, (0, 12, 0, 0)), (344, (6, 0, 64, 1)), (370, (4, 20, 0, 0)), (374, (6, 0, 65, 1)), (377, (4, 23, 0, 0)), (380, (4, 26, 0, 0))])
def own_r19 : List (List ORow) := [[(0, .aload_n 0, 1), (1, .arraylength, 2), (2, .iload_n 1, 3), (3, .if_icmp .ge 9, 12), (6, .iload_n 1, 7), (7, .newarray .int, 9), (9, .goto 4, 13), (12, .aload_n 0, 13), (13, .areturn, 14)]]
def own_m19 : OMth := (⟨"evenkeel/group/Scratch", "atLeast", "([II)[I"⟩, prog_95_method_2_code, 2, (some (.array .int)), 2, own_r19, [])
def own_r20 : List (List ORow) := [[(0, .iload_n 3, 1), (1, .istore 4, 3), (3, .aload_n 0, 4), (4, .getfield 163, 7), (7, .ifCond .eq 7, 14), (10, .iconst 0, 11), (11, .goto 9, 20), (14, .aload_n 0, 15), (15, .getfield 279, 18)],
  [(18, .iload_n 1, 19), (19, .iaload, 20), (20, .istore 5, 22), (22, .aload_n 0, 23), (23, .getfield 163, 26), (26, .ifCond .eq 10, 36), (29, .aload_n 0, 30), (30, .getfield 344, 33)],
  [(33, .goto 11, 44), (36, .aload_n 0, 37), (37, .getfield 279, 40), (40, .iload_n 1, 41), (41, .iconst 1, 42), (42, .iadd, 43), (43, .iaload, 44), (44, .istore 6, 46), (46, .iload 5, 48)],
  [(48, .istore 7, 50), (50, .iload 7, 52), (52, .iload 6, 54), (54, .if_icmp .ge 31, 85), (57, .aload_n 0, 58), (58, .iload_n 1, 59), (59, .iload 7, 61), (61, .iload 6, 63), (63, .iload 7, 65)],
  [(65, .bipush 32, 67), (67, .iadd, 68), (68, .invokestatic 318, 71), (71, .aload_n 2, 72), (72, .iload 4, 74), (74, .invokevirtual 383, 77), (77, .istore 4, 79), (79, .iinc 7 32, 82)],
  [(82, .goto (-32), 50), (85, .iload 4, 87), (87, .ireturn, 88)]]
def own_m20 : OMth := (⟨"evenkeel/group/SpreadSearch", "fillColumn", "(I[JI)I"⟩, prog_98_method_43_code, 8, (some .int), 4, own_r20, [(163, (6, 0, 60, 1)), (279, (6, 0, 53, 1)), (318, (0, 21, 0, 0)), (344, (6, 0, 64, 1)), (383, (4, 22, 0, 0))])
def own_r21 : List (List ORow) := [[(0, .iload_n 0, 1), (1, .iload_n 1, 2), (2, .if_icmp .gt 7, 9), (5, .iload_n 0, 6), (6, .goto 4, 10), (9, .iload_n 1, 10), (10, .ireturn, 11)]]
def own_m21 : OMth := (⟨"java/lang/Math", "min", "(II)I"⟩, jdk_29_method_69_code, 2, (some .int), 2, own_r21, [])
def own_r22 : List (List ORow) := [[(0, .aload_n 0, 1), (1, .getfield 163, 4), (4, .istore 6, 6), (6, .aload_n 0, 7), (7, .getfield 163, 10), (10, .ifCond .eq 10, 20), (13, .aload_n 0, 14), (14, .getfield 56, 17)],
  [(17, .goto 7, 24), (20, .aload_n 0, 21), (21, .getfield 282, 24), (24, .astore 7, 26), (26, .aload_n 0, 27), (27, .getfield 285, 30), (30, .astore 8, 32)],
  [(32, .aload_n 0, 33), (33, .getfield 276, 36), (36, .astore 9, 38), (38, .aload_n 0, 39), (39, .getfield 213, 42), (42, .astore 10, 44), (44, .aload_n 0, 45), (45, .getfield 180, 48)],
  [(48, .astore 11, 50), (50, .aload_n 0, 51), (51, .getfield 32, 54), (54, .astore 12, 56), (56, .aload_n 0, 57), (57, .getfield 41, 60), (60, .astore 13, 62), (62, .aload_n 0, 63), (63, .getfield 35, 66)],
  [(66, .astore 14, 68), (68, .aload_n 0, 69), (69, .getfield 38, 72), (72, .astore 15, 74), (74, .iload 5, 76), (76, .istore 16, 78), (78, .iload_n 1, 79), (79, .aload_n 0, 80)],
  [(80, .getfield 173, 83), (83, .imul, 84), (84, .istore 17, 86), (86, .lconst 0, 87), (87, .lstore 18, 89), (89, .iload_n 2, 90), (90, .istore 20, 92), (92, .iload 20, 94), (94, .iload_n 3, 95), (95, .if_icmp .ge 277, 372)],
  [(98, .aload 7, 100), (100, .iload 20, 102), (102, .iaload, 103), (103, .istore 21, 105), (105, .iload 6, 107), (107, .ifCond .eq 11, 118), (110, .iload 17, 112)],
  [(112, .iload 21, 114), (114, .iadd, 115), (115, .goto 5, 120), (118, .iload 20, 120), (120, .istore 22, 122), (122, .aload 8, 124), (124, .iload 22, 126), (126, .iaload, 127), (127, .istore 23, 129)],
  [(129, .aload 9, 131), (131, .iload 22, 133), (133, .iaload, 134), (134, .istore 24, 136), (136, .iload 24, 138), (138, .i2l, 139), (139, .aload 4, 141), (141, .iload 21, 143), (143, .laload, 144)],
  [(144, .lcmp, 145), (145, .ifCond .ge 9, 154), (148, .iload 24, 150), (150, .i2l, 151), (151, .goto 8, 159), (154, .aload 4, 156), (156, .iload 21, 158), (158, .laload, 159), (159, .lstore 25, 161)],
  [(161, .iload 23, 163), (163, .i2l, 164), (164, .lload 25, 166), (166, .lcmp, 167), (167, .ifCond .le 9, 176), (170, .iload 23, 172), (172, .i2l, 173), (173, .goto 5, 178)],
  [(176, .lload 25, 178), (178, .l2i, 179), (179, .istore 27, 181), (181, .aload 10, 183), (183, .iload 22, 185), (185, .iload 27, 187), (187, .iastore, 188), (188, .aload 12, 190), (190, .iload 21, 192)],
  [(192, .dup2, 193), (193, .laload, 194), (194, .iload 27, 196), (196, .i2l, 197), (197, .lsub, 198), (198, .lastore, 199), (199, .lload 18, 201), (201, .iload 27, 203), (203, .i2l, 204), (204, .ladd, 205), (205, .lstore 18, 207), (207, .aload 11, 209)],
  [(209, .iload 21, 211), (211, .iaload, 212), (212, .istore 28, 214), (214, .aload 4, 216), (216, .iload 21, 218), (218, .laload, 219), (219, .iload 28, 221), (221, .i2l, 222), (222, .ladd, 223), (223, .lstore 29, 225)],
  [(225, .iload 24, 227), (227, .i2l, 228), (228, .lload 29, 230), (230, .lcmp, 231), (231, .ifCond .ge 9, 240), (234, .iload 24, 236), (236, .i2l, 237), (237, .goto 5, 242)],
  [(240, .lload 29, 242), (242, .iload 27, 244), (244, .i2l, 245), (245, .lcmp, 246), (246, .ifCond .le 32, 278), (249, .iload 6, 251), (251, .ifCond .ne 15, 266), (254, .aload_n 0, 255), (255, .getfield 83, 258)],
  [(258, .iload 16, 260), (260, .iinc 16 1, 263), (263, .iload 22, 265), (265, .iastore, 266), (266, .aload 13, 268), (268, .iload 21, 270), (270, .dup2, 271), (271, .iaload, 272)],
  [(272, .iconst 1, 273), (273, .iadd, 274), (274, .iastore, 275), (275, .goto 46, 321), (278, .iload 27, 280), (280, .iload 24, 282), (282, .if_icmp .ge 39, 321), (285, .iload 27, 287), (287, .i2l, 288)],
  [(288, .iload 28, 290), (290, .invokestatic 323, 293), (293, .lstore 31, 295), (295, .aload 14, 297), (297, .iload 21, 299), (299, .lload 31, 301), (301, .aload 14, 303), (303, .iload 21, 305)],
  [(305, .laload, 306), (306, .lcmp, 307), (307, .ifCond .ge 8, 315), (310, .lload 31, 312), (312, .goto 8, 320), (315, .aload 14, 317), (317, .iload 21, 319), (319, .laload, 320)],
  [(320, .lastore, 321), (321, .iload 27, 323), (323, .iload 23, 325), (325, .if_icmp .le 41, 366), (328, .iload 27, 330), (330, .iconst 1, 331), (331, .isub, 332), (332, .i2l, 333), (333, .iload 28, 335), (335, .invokestatic 323, 338)],
  [(338, .lstore 31, 340), (340, .aload 15, 342), (342, .iload 21, 344), (344, .lload 31, 346), (346, .aload 15, 348), (348, .iload 21, 350), (350, .laload, 351), (351, .lcmp, 352)],
  [(352, .ifCond .le 8, 360), (355, .lload 31, 357), (357, .goto 8, 365), (360, .aload 15, 362), (362, .iload 21, 364), (364, .laload, 365), (365, .lastore, 366), (366, .iinc 20 1, 369)],
  [(369, .goto (-277), 92), (372, .aload_n 0, 373), (373, .getfield 19, 376), (376, .iload_n 1, 377), (377, .dup2, 378), (378, .laload, 379), (379, .lload 18, 381), (381, .lsub, 382), (382, .lastore, 383), (383, .iload 16, 385)],
  [(385, .ireturn, 386)]]
def own_m22 : OMth := (⟨"evenkeel/group/SpreadSearch", "fillCells", "(III[JI)I"⟩, prog_98_method_44_code, 33, (some .int), 6, own_r22, [(19, (6, 0, 16, 1)), (32, (6, 0, 20, 1)), (35, (6, 0, 21, 1)), (38, (6, 0, 22, 1)), (41, (6, 0, 23, 1)), (56, (6, 0, 28, 1)), (83, (6, 0, 37, 1)), (163, (6, 0, 60, 1)), (173, (6, 0, 50, 1)), (180, (6, 0, 52, 1)), (213, (6, 0, 57, 1)), (276, (6, 0, 56, 1)), (282, (6, 0, 54, 1)), (285, (6, 0, 55, 1)), (323, (0, 25, 0, 0))])
def own_r23 : List (List ORow) := [[(0, .iconst 0, 1), (1, .istore_n 1, 2), (2, .iconst 0, 3), (3, .istore_n 2, 4), (4, .iload_n 2, 5), (5, .aload_n 0, 6), (6, .getfield 177, 9), (9, .if_icmp .ge 16, 25), (12, .aload_n 0, 13), (13, .iload_n 2, 14), (14, .iload_n 1, 15), (15, .invokevirtual 387, 18)],
  [(18, .istore_n 1, 19), (19, .iinc 2 1, 22), (22, .goto (-18), 4), (25, .return_, 26)]]
def own_m23 : OMth := (⟨"evenkeel/group/SpreadSearch", "placeInColumns", "()V"⟩, prog_98_method_45_code, 3, none, 1, own_r23, [(177, (6, 0, 51, 1)), (387, (4, 24, 0, 0))])
def own_r24 : List (List ORow) := [[(0, .aload_n 0, 1), (1, .getfield 163, 4), (4, .ifCond .eq 10, 14), (7, .aload_n 0, 8), (8, .iload_n 1, 9), (9, .iload_n 2, 10), (10, .invokevirtual 390, 13), (13, .ireturn, 14), (14, .iload_n 2, 15), (15, .istore_n 3, 16)],
  [(16, .aload_n 0, 17), (17, .getfield 80, 20), (20, .iload_n 1, 21), (21, .iaload, 22), (22, .istore 4, 24), (24, .aload_n 0, 25), (25, .getfield 80, 28), (28, .iload_n 1, 29), (29, .iconst 1, 30), (30, .iadd, 31), (31, .iaload, 32)],
  [(32, .iload 4, 34), (34, .isub, 35), (35, .istore 5, 37), (37, .iconst 0, 38), (38, .istore 6, 40), (40, .iload 6, 42), (42, .iconst 2, 43), (43, .if_icmp .ge 218, 261), (46, .aload_n 0, 47), (47, .getfield 19, 50)],
  [(50, .iload_n 1, 51), (51, .laload, 52), (52, .lconst 0, 53), (53, .lcmp, 54), (54, .ifCond .le 207, 261), (57, .iconst 0, 58), (58, .istore 7, 60), (60, .iload 6, 62), (62, .iconst 1, 63), (63, .if_icmp .ne 34, 97)],
  [(66, .iload 7, 68), (68, .iload 5, 70), (70, .if_icmp .ge 27, 97), (73, .aload_n 0, 74), (74, .aload_n 0, 75), (75, .getfield 83, 78), (78, .iload 4, 80)],
  [(80, .iload 7, 82), (82, .iadd, 83), (83, .iaload, 84), (84, .invokevirtual 393, 87), (87, .iload_n 2, 88), (88, .if_icmp .ge 9, 97), (91, .iinc 7 1, 94), (94, .goto (-34), 60)],
  [(97, .iload 7, 99), (99, .iload 5, 101), (101, .if_icmp .ne 7, 108), (104, .iconst 0, 105), (105, .goto 5, 110), (108, .iload 7, 110), (110, .istore 7, 112)],
  [(112, .iconst 0, 113), (113, .istore 8, 115), (115, .iload 8, 117), (117, .iload 5, 119), (119, .if_icmp .ge 136, 255), (122, .aload_n 0, 123), (123, .getfield 19, 126), (126, .iload_n 1, 127), (127, .laload, 128)],
  [(128, .lconst 0, 129), (129, .lcmp, 130), (130, .ifCond .le 125, 255), (133, .aload_n 0, 134), (134, .getfield 83, 137), (137, .iload 4, 139), (139, .iload 7, 141), (141, .iload 8, 143), (143, .iadd, 144)],
  [(144, .iload 5, 146), (146, .if_icmp .ge 11, 157), (149, .iload 7, 151), (151, .iload 8, 153), (153, .iadd, 154), (154, .goto 11, 165), (157, .iload 7, 159), (159, .iload 8, 161)],
  [(161, .iadd, 162), (162, .iload 5, 164), (164, .isub, 165), (165, .iadd, 166), (166, .iaload, 167), (167, .istore 9, 169), (169, .aload_n 0, 170), (170, .iload 9, 172), (172, .invokevirtual 393, 175), (175, .istore 10, 177)],
  [(177, .aload_n 0, 178), (178, .getfield 32, 181), (181, .iload 10, 183), (183, .laload, 184), (184, .lconst 0, 185), (185, .lcmp, 186), (186, .ifCond .le 63, 249), (189, .aload_n 0, 190), (190, .getfield 41, 193)],
  [(193, .iload 10, 195), (195, .iaload, 196), (196, .bipush 8, 198), (198, .if_icmp .gt 7, 205), (201, .iconst 1, 202), (202, .goto 4, 206), (205, .iconst 0, 206), (206, .iload 6, 208)],
  [(208, .ifCond .ne 7, 215), (211, .iconst 1, 212), (212, .goto 4, 216), (215, .iconst 0, 216), (216, .if_icmp .ne 33, 249), (219, .aload_n 0, 220), (220, .iload 9, 222), (222, .iload 10, 224)],
  [(224, .iload_n 1, 225), (225, .aload_n 0, 226), (226, .getfield 19, 229), (229, .iload_n 1, 230), (230, .laload, 231), (231, .invokevirtual 396, 234), (234, .iload 6, 236), (236, .iconst 1, 237), (237, .if_icmp .ne 10, 247)],
  [(240, .iload 10, 242), (242, .iconst 1, 243), (243, .iadd, 244), (244, .goto 4, 248), (247, .iload_n 3, 248), (248, .istore_n 3, 249), (249, .iinc 8 1, 252), (252, .goto (-137), 115), (255, .iinc 6 1, 258)],
  [(258, .goto (-218), 40), (261, .iload_n 3, 262), (262, .ireturn, 263)]]
def own_m24 : OMth := (⟨"evenkeel/group/SpreadSearch", "placeInColumn", "(II)I"⟩, prog_98_method_46_code, 11, (some .int), 3, own_r24, [(19, (6, 0, 16, 1)), (32, (6, 0, 20, 1)), (41, (6, 0, 23, 1)), (80, (6, 0, 36, 1)), (83, (6, 0, 37, 1)), (163, (6, 0, 60, 1)), (390, (4, 60, 0, 0)), (396, (4, 32, 0, 0))])
def own_r25 : List (List ORow) := [[(0, .ldc2_w 122, 3), (3, .iload_n 2, 4), (4, .iconst 1, 5), (5, .if_icmp .ne 7, 12), (8, .lload_n 0, 9), (9, .goto 7, 16), (12, .lload_n 0, 13), (13, .iload_n 2, 14), (14, .i2l, 15), (15, .ldiv, 16)],
  [(16, .lmul, 17), (17, .lconst 1, 18), (18, .ladd, 19), (19, .lreturn, 20)]]
def own_m25 : OMth := (⟨"evenkeel/group/SpreadSearch", "unitCost", "(JI)J"⟩, prog_98_method_2_code, 3, (some .long), 2, own_r25, [(122, (9, 0, 0, 2))])
def own_r26 : List (List ORow) := [[(0, .aload_n 0, 1), (1, .invokevirtual 250, 4), (4, .aload_n 0, 5), (5, .getfield 253, 8), (8, .ifCond .le 154, 162), (11, .iconst 0, 12), (12, .istore_n 1, 13), (13, .iload_n 1, 14), (14, .aload_n 0, 15), (15, .getfield 253, 18)],
  [(18, .if_icmp .ge 21, 39), (21, .aload_n 0, 22), (22, .getfield 68, 25), (25, .aload_n 0, 26), (26, .getfield 62, 29), (29, .iload_n 1, 30), (30, .iaload, 31), (31, .lconst 0, 32)],
  [(32, .lastore, 33), (33, .iinc 1 1, 36), (36, .goto (-23), 13), (39, .aload_n 0, 40), (40, .invokevirtual 256, 43), (43, .iconst 0, 44), (44, .istore_n 1, 45), (45, .iload_n 1, 46), (46, .aload_n 0, 47), (47, .getfield 177, 50)],
  [(50, .if_icmp .ge 14, 64), (53, .aload_n 0, 54), (54, .iload_n 1, 55), (55, .invokevirtual 404, 58), (58, .iinc 1 1, 61), (61, .goto (-16), 45)],
  [(64, .iconst 0, 65), (65, .istore_n 1, 66), (66, .iload_n 1, 67), (67, .aload_n 0, 68), (68, .getfield 253, 71), (71, .if_icmp .ge 59, 130), (74, .aload_n 0, 75), (75, .getfield 62, 78), (78, .iload_n 1, 79), (79, .iaload, 80)],
  [(80, .istore_n 2, 81), (81, .aload_n 0, 82), (82, .getfield 68, 85), (85, .iload_n 2, 86), (86, .laload, 87), (87, .lstore_n 3, 88), (88, .lload_n 3, 89), (89, .lconst 0, 90), (90, .lcmp, 91), (91, .ifCond .ne 5, 96), (94, .iconst 0, 95), (95, .ireturn, 96)],
  [(96, .aload_n 0, 97), (97, .getfield 68, 100), (100, .iload_n 2, 101), (101, .aload_n 0, 102), (102, .getfield 32, 105), (105, .iload_n 2, 106), (106, .laload, 107), (107, .lload_n 3, 108), (108, .ldiv, 109), (109, .lastore, 110), (110, .aload_n 0, 111), (111, .getfield 71, 114)],
  [(114, .iload_n 2, 115), (115, .aload_n 0, 116), (116, .getfield 32, 119), (119, .iload_n 2, 120), (120, .laload, 121), (121, .lload_n 3, 122), (122, .lrem, 123), (123, .lastore, 124), (124, .iinc 1 1, 127), (127, .goto (-61), 66)],
  [(130, .aload_n 0, 131), (131, .invokevirtual 256, 134), (134, .iconst 0, 135), (135, .istore_n 1, 136), (136, .iload_n 1, 137), (137, .aload_n 0, 138), (138, .getfield 177, 141), (141, .if_icmp .ge 14, 155)],
  [(144, .aload_n 0, 145), (145, .iload_n 1, 146), (146, .invokevirtual 407, 149), (149, .iinc 1 1, 152), (152, .goto (-16), 136), (155, .aload_n 0, 156), (156, .invokevirtual 250, 159), (159, .goto (-155), 4)],
  [(162, .iconst 1, 163), (163, .ireturn, 164)]]
def own_m26 : OMth := (⟨"evenkeel/group/SpreadSearch", "spreadWhatIsLeft", "()Z"⟩, prog_98_method_50_code, 5, (some .boolean), 1, own_r26, [(32, (6, 0, 20, 1)), (62, (6, 0, 30, 1)), (68, (6, 0, 32, 1)), (71, (6, 0, 33, 1)), (177, (6, 0, 51, 1)), (250, (4, 27, 0, 0)), (253, (6, 0, 66, 1)), (256, (4, 28, 0, 0)), (404, (4, 29, 0, 0)), (407, (4, 31, 0, 0))])
def own_r27 : List (List ORow) := [[(0, .aload_n 0, 1), (1, .iconst 0, 2), (2, .putfield 253, 5), (5, .iconst 0, 6), (6, .istore_n 1, 7), (7, .iload_n 1, 8), (8, .aload_n 0, 9), (9, .getfield 173, 12), (12, .if_icmp .ge 37, 49), (15, .aload_n 0, 16)],
  [(16, .getfield 32, 19), (19, .iload_n 1, 20), (20, .laload, 21), (21, .lconst 0, 22), (22, .lcmp, 23), (23, .ifCond .le 20, 43), (26, .aload_n 0, 27), (27, .getfield 62, 30), (30, .aload_n 0, 31), (31, .dup, 32)],
  [(32, .getfield 253, 35), (35, .dup_x1, 36), (36, .iconst 1, 37), (37, .iadd, 38), (38, .putfield 253, 41), (41, .iload_n 1, 42), (42, .iastore, 43), (43, .iinc 1 1, 46), (46, .goto (-39), 7)],
  [(49, .return_, 50)]]
def own_m27 : OMth := (⟨"evenkeel/group/SpreadSearch", "listPlacing", "()V"⟩, prog_98_method_51_code, 2, none, 1, own_r27, [(32, (6, 0, 20, 1)), (62, (6, 0, 30, 1)), (173, (6, 0, 50, 1)), (253, (6, 0, 66, 1))])
def own_r28 : List (List ORow) := [[(0, .iconst 0, 1), (1, .istore_n 1, 2), (2, .aload_n 0, 3), (3, .getfield 163, 6), (6, .ifCond .ne 39, 45), (9, .iload_n 1, 10), (10, .aload_n 0, 11), (11, .getfield 253, 14), (14, .if_icmp .ge 31, 45)],
  [(17, .aload_n 0, 18), (18, .getfield 74, 21), (21, .aload_n 0, 22), (22, .getfield 62, 25), (25, .iload_n 1, 26), (26, .iaload, 27), (27, .aload_n 0, 28), (28, .getfield 7, 31), (31, .aload_n 0, 32)],
  [(32, .getfield 62, 35), (35, .iload_n 1, 36), (36, .iaload, 37), (37, .iaload, 38), (38, .iastore, 39), (39, .iinc 1 1, 42), (42, .goto (-40), 2), (45, .return_, 46)]]
def own_m28 : OMth := (⟨"evenkeel/group/SpreadSearch", "startPlacing", "()V"⟩, prog_98_method_55_code, 2, none, 1, own_r28, [(7, (6, 0, 13, 1)), (62, (6, 0, 30, 1)), (74, (6, 0, 34, 1)), (163, (6, 0, 60, 1)), (253, (6, 0, 66, 1))])
def own_r29 : List (List ORow) := [[(0, .iconst 0, 1), (1, .istore_n 2, 2), (2, .iload_n 2, 3), (3, .aload_n 0, 4), (4, .getfield 253, 7), (7, .if_icmp .ge 114, 121), (10, .aload_n 0, 11), (11, .getfield 62, 14), (14, .iload_n 2, 15), (15, .iaload, 16)],
  [(16, .istore_n 3, 17), (17, .aload_n 0, 18), (18, .getfield 163, 21), (21, .ifCond .eq 14, 35), (24, .iload_n 1, 25), (25, .aload_n 0, 26), (26, .getfield 173, 29), (29, .imul, 30), (30, .iload_n 3, 31), (31, .iadd, 32)],
  [(32, .goto 9, 41), (35, .aload_n 0, 36), (36, .iload_n 3, 37), (37, .iload_n 1, 38), (38, .invokevirtual 268, 41), (41, .istore 4, 43), (43, .aload_n 0, 44), (44, .getfield 23, 47), (47, .iload_n 3, 48)],
  [(48, .laload, 49), (49, .lconst 1, 50), (50, .ladd, 51), (51, .aload_n 0, 52), (52, .getfield 180, 55), (55, .iload_n 3, 56), (56, .iaload, 57), (57, .i2l, 58), (58, .lmul, 59), (59, .lstore 5, 61), (61, .iload 4, 63), (63, .ifCond .lt 52, 115)],
  [(66, .aload_n 0, 67), (67, .getfield 276, 70), (70, .iload 4, 72), (72, .iaload, 73), (73, .i2l, 74), (74, .lload 5, 76), (76, .lcmp, 77), (77, .ifCond .ge 14, 91)],
  [(80, .aload_n 0, 81), (81, .getfield 276, 84), (84, .iload 4, 86), (86, .iaload, 87), (87, .i2l, 88), (88, .goto 5, 93), (91, .lload 5, 93), (93, .aload_n 0, 94), (94, .getfield 213, 97)],
  [(97, .iload 4, 99), (99, .iaload, 100), (100, .i2l, 101), (101, .lcmp, 102), (102, .ifCond .le 13, 115), (105, .aload_n 0, 106), (106, .getfield 68, 109), (109, .iload_n 3, 110), (110, .dup2, 111), (111, .laload, 112)],
  [(112, .lconst 1, 113), (113, .ladd, 114), (114, .lastore, 115), (115, .iinc 2 1, 118), (118, .goto (-116), 2), (121, .return_, 122)]]
def own_m29 : OMth := (⟨"evenkeel/group/SpreadSearch", "countOpenIn", "(I)V"⟩, prog_98_method_52_code, 7, none, 2, own_r29, [(23, (6, 0, 17, 1)), (62, (6, 0, 30, 1)), (68, (6, 0, 32, 1)), (163, (6, 0, 60, 1)), (173, (6, 0, 50, 1)), (180, (6, 0, 52, 1)), (213, (6, 0, 57, 1)), (253, (6, 0, 66, 1)), (268, (4, 30, 0, 0)), (276, (6, 0, 56, 1))])
def own_r30 : List (List ORow) := [[(0, .aload_n 0, 1), (1, .getfield 163, 4), (4, .ifCond .eq 12, 16), (7, .iload_n 2, 8), (8, .aload_n 0, 9), (9, .getfield 173, 12), (12, .imul, 13), (13, .iload_n 1, 14), (14, .iadd, 15), (15, .ireturn, 16)],
  [(16, .aload_n 0, 17), (17, .getfield 74, 20), (20, .iload_n 1, 21), (21, .iaload, 22), (22, .istore_n 3, 23), (23, .iload_n 3, 24), (24, .aload_n 0, 25), (25, .getfield 7, 28), (28, .iload_n 1, 29), (29, .iconst 1, 30), (30, .iadd, 31), (31, .iaload, 32)],
  [(32, .if_icmp .ge 24, 56), (35, .aload_n 0, 36), (36, .getfield 16, 39), (39, .aload_n 0, 40), (40, .getfield 13, 43), (43, .iload_n 3, 44), (44, .iaload, 45), (45, .iaload, 46), (46, .iload_n 2, 47), (47, .if_icmp .ge 9, 56)],
  [(50, .iinc 3 1, 53), (53, .goto (-30), 23), (56, .aload_n 0, 57), (57, .getfield 74, 60), (60, .iload_n 1, 61), (61, .iload_n 3, 62), (62, .iastore, 63), (63, .iload_n 3, 64)],
  [(64, .aload_n 0, 65), (65, .getfield 7, 68), (68, .iload_n 1, 69), (69, .iconst 1, 70), (70, .iadd, 71), (71, .iaload, 72), (72, .if_icmp .ge 27, 99), (75, .aload_n 0, 76), (76, .getfield 16, 79), (79, .aload_n 0, 80)],
  [(80, .getfield 13, 83), (83, .iload_n 3, 84), (84, .iaload, 85), (85, .iaload, 86), (86, .iload_n 2, 87), (87, .if_icmp .ne 12, 99), (90, .aload_n 0, 91), (91, .getfield 13, 94), (94, .iload_n 3, 95), (95, .iaload, 96)],
  [(96, .goto 4, 100), (99, .iconst (-1), 100), (100, .ireturn, 101)]]
def own_m30 : OMth := (⟨"evenkeel/group/SpreadSearch", "placedCell", "(II)I"⟩, prog_98_method_54_code, 4, (some .int), 3, own_r30, [(7, (6, 0, 13, 1)), (13, (6, 0, 14, 1)), (16, (6, 0, 15, 1)), (74, (6, 0, 34, 1)), (163, (6, 0, 60, 1)), (173, (6, 0, 50, 1))])
def own_r31 : List (List ORow) := [[(0, .iconst 0, 1), (1, .istore_n 2, 2), (2, .iload_n 2, 3), (3, .aload_n 0, 4), (4, .getfield 253, 7), (7, .if_icmp .ge 176, 183), (10, .aload_n 0, 11), (11, .getfield 62, 14), (14, .iload_n 2, 15), (15, .iaload, 16)],
  [(16, .istore_n 3, 17), (17, .aload_n 0, 18), (18, .getfield 163, 21), (21, .ifCond .eq 14, 35), (24, .iload_n 1, 25), (25, .aload_n 0, 26), (26, .getfield 173, 29), (29, .imul, 30), (30, .iload_n 3, 31), (31, .iadd, 32)],
  [(32, .goto 9, 41), (35, .aload_n 0, 36), (36, .iload_n 3, 37), (37, .iload_n 1, 38), (38, .invokevirtual 268, 41), (41, .istore 4, 43), (43, .aload_n 0, 44), (44, .getfield 23, 47), (47, .iload_n 3, 48)],
  [(48, .laload, 49), (49, .lconst 1, 50), (50, .ladd, 51), (51, .aload_n 0, 52), (52, .getfield 180, 55), (55, .iload_n 3, 56), (56, .iaload, 57), (57, .i2l, 58), (58, .lmul, 59), (59, .lstore 5, 61), (61, .iload 4, 63), (63, .ifCond .lt 114, 177)],
  [(66, .aload_n 0, 67), (67, .getfield 32, 70), (70, .iload_n 3, 71), (71, .laload, 72), (72, .lconst 0, 73), (73, .lcmp, 74), (74, .ifCond .le 103, 177), (77, .aload_n 0, 78), (78, .getfield 276, 81)],
  [(81, .iload 4, 83), (83, .iaload, 84), (84, .i2l, 85), (85, .lload 5, 87), (87, .lcmp, 88), (88, .ifCond .ge 14, 102), (91, .aload_n 0, 92), (92, .getfield 276, 95), (95, .iload 4, 97)],
  [(97, .iaload, 98), (98, .i2l, 99), (99, .goto 5, 104), (102, .lload 5, 104), (104, .aload_n 0, 105), (105, .getfield 213, 108), (108, .iload 4, 110), (110, .iaload, 111), (111, .i2l, 112)],
  [(112, .lcmp, 113), (113, .ifCond .le 64, 177), (116, .aload_n 0, 117), (117, .iload 4, 119), (119, .iload_n 3, 120), (120, .iload_n 1, 121), (121, .aload_n 0, 122), (122, .getfield 71, 125), (125, .iload_n 3, 126), (126, .laload, 127), (127, .lconst 0, 128)],
  [(128, .lcmp, 129), (129, .ifCond .le 14, 143), (132, .aload_n 0, 133), (133, .getfield 68, 136), (136, .iload_n 3, 137), (137, .laload, 138), (138, .lconst 1, 139), (139, .ladd, 140), (140, .goto 9, 149), (143, .aload_n 0, 144)],
  [(144, .getfield 68, 147), (147, .iload_n 3, 148), (148, .laload, 149), (149, .invokevirtual 396, 152), (152, .aload_n 0, 153), (153, .getfield 71, 156), (156, .iload_n 3, 157), (157, .dup2, 158), (158, .laload, 159), (159, .aload_n 0, 160)],
  [(160, .getfield 71, 163), (163, .iload_n 3, 164), (164, .laload, 165), (165, .lconst 0, 166), (166, .lcmp, 167), (167, .ifCond .le 7, 174), (170, .lconst 1, 171), (171, .goto 4, 175), (174, .lconst 0, 175), (175, .lsub, 176)],
  [(176, .lastore, 177), (177, .iinc 2 1, 180), (180, .goto (-178), 2), (183, .return_, 184)]]
def own_m31 : OMth := (⟨"evenkeel/group/SpreadSearch", "spreadIn", "(I)V"⟩, prog_98_method_53_code, 7, none, 2, own_r31, [(23, (6, 0, 17, 1)), (32, (6, 0, 20, 1)), (62, (6, 0, 30, 1)), (68, (6, 0, 32, 1)), (71, (6, 0, 33, 1)), (163, (6, 0, 60, 1)), (173, (6, 0, 50, 1)), (180, (6, 0, 52, 1)), (213, (6, 0, 57, 1)), (253, (6, 0, 66, 1)), (268, (4, 30, 0, 0)), (276, (6, 0, 56, 1)), (396, (4, 32, 0, 0))])
def own_r32 : List (List ORow) := [[(0, .aload_n 0, 1), (1, .getfield 23, 4), (4, .iload_n 2, 5), (5, .laload, 6), (6, .lconst 1, 7), (7, .ladd, 8), (8, .aload_n 0, 9), (9, .getfield 180, 12), (12, .iload_n 2, 13), (13, .iaload, 14), (14, .i2l, 15), (15, .lmul, 16)],
  [(16, .lstore 6, 18), (18, .aload_n 0, 19), (19, .getfield 276, 22), (22, .iload_n 1, 23), (23, .iaload, 24), (24, .i2l, 25), (25, .lload 6, 27), (27, .lcmp, 28), (28, .ifCond .ge 13, 41), (31, .aload_n 0, 32)],
  [(32, .getfield 276, 35), (35, .iload_n 1, 36), (36, .iaload, 37), (37, .i2l, 38), (38, .goto 5, 43), (41, .lload 6, 43), (43, .aload_n 0, 44), (44, .getfield 213, 47), (47, .iload_n 1, 48)],
  [(48, .iaload, 49), (49, .i2l, 50), (50, .lsub, 51), (51, .lstore 8, 53), (53, .lload 8, 55), (55, .aload_n 0, 56), (56, .getfield 32, 59), (59, .iload_n 2, 60), (60, .laload, 61), (61, .lcmp, 62), (62, .ifCond .ge 8, 70)],
  [(65, .lload 8, 67), (67, .goto 9, 76), (70, .aload_n 0, 71), (71, .getfield 32, 74), (74, .iload_n 2, 75), (75, .laload, 76), (76, .lstore 10, 78), (78, .lload 4, 80)],
  [(80, .lload 10, 82), (82, .lcmp, 83), (83, .ifCond .ge 8, 91), (86, .lload 4, 88), (88, .goto 5, 93), (91, .lload 10, 93), (93, .lstore 10, 95), (95, .aload_n 0, 96)],
  [(96, .getfield 213, 99), (99, .iload_n 1, 100), (100, .dup2, 101), (101, .iaload, 102), (102, .lload 10, 104), (104, .l2i, 105), (105, .iadd, 106), (106, .iastore, 107), (107, .aload_n 0, 108), (108, .getfield 19, 111), (111, .iload_n 3, 112)],
  [(112, .dup2, 113), (113, .laload, 114), (114, .lload 10, 116), (116, .lsub, 117), (117, .lastore, 118), (118, .aload_n 0, 119), (119, .getfield 32, 122), (122, .iload_n 2, 123), (123, .dup2, 124), (124, .laload, 125), (125, .lload 10, 127), (127, .lsub, 128)],
  [(128, .lastore, 129), (129, .return_, 130)]]
def own_m32 : OMth := (⟨"evenkeel/group/SpreadSearch", "placeIn", "(IIIJ)V"⟩, prog_98_method_49_code, 12, none, 5, own_r32, [(19, (6, 0, 16, 1)), (23, (6, 0, 17, 1)), (32, (6, 0, 20, 1)), (180, (6, 0, 52, 1)), (213, (6, 0, 57, 1)), (276, (6, 0, 56, 1))])
def own_r33 : List (List ORow) := [[(0, .lload_n 0, 1), (1, .lload_n 2, 2), (2, .lcmp, 3), (3, .ifCond .lt 7, 10), (6, .lload_n 0, 7), (7, .goto 4, 11), (10, .lload_n 2, 11), (11, .lreturn, 12)]]
def own_m33 : OMth := (⟨"java/lang/Math", "max", "(JJ)J"⟩, jdk_29_method_66_code, 4, (some .long), 2, own_r33, [])
def own_r34 : List (List ORow) := [[(0, .aload_n 0, 1), (1, .iconst 0, 2), (2, .putfield 410, 5), (5, .aload_n 0, 6), (6, .aload_n 0, 7), (7, .getfield 80, 10), (10, .aload_n 0, 11), (11, .getfield 177, 14), (14, .iaload, 15), (15, .invokevirtual 413, 18)],
  [(18, .iconst 0, 19), (19, .istore_n 1, 20), (20, .iload_n 1, 21), (21, .aload_n 0, 22), (22, .getfield 177, 25), (25, .if_icmp .ge 24, 49), (28, .aload_n 0, 29), (29, .getfield 95, 32)],
  [(32, .iload_n 1, 33), (33, .aload_n 0, 34), (34, .getfield 410, 37), (37, .iastore, 38), (38, .aload_n 0, 39), (39, .iload_n 1, 40), (40, .invokevirtual 416, 43), (43, .iinc 1 1, 46), (46, .goto (-26), 20)],
  [(49, .aload_n 0, 50), (50, .invokevirtual 419, 53), (53, .return_, 54)]]
def own_m34 : OMth := (⟨"evenkeel/group/SpreadSearch", "listOpenCells", "()V"⟩, prog_98_method_56_code, 2, none, 1, own_r34, [(80, (6, 0, 36, 1)), (95, (6, 0, 41, 1)), (177, (6, 0, 51, 1)), (410, (6, 0, 69, 1)), (413, (4, 35, 0, 0)), (416, (4, 36, 0, 0)), (419, (4, 39, 0, 0))])
def own_r35 : List (List ORow) := [[(0, .aload_n 0, 1), (1, .getfield 86, 4), (4, .arraylength, 5), (5, .iload_n 1, 6), (6, .if_icmp .ge 24, 30), (9, .aload_n 0, 10), (10, .iload_n 1, 11), (11, .newarray .int, 13), (13, .putfield 86, 16)],
  [(16, .aload_n 0, 17), (17, .iload_n 1, 18), (18, .newarray .int, 20), (20, .putfield 89, 23), (23, .aload_n 0, 24), (24, .iload_n 1, 25), (25, .newarray .int, 27), (27, .putfield 92, 30), (30, .return_, 31)]]
def own_m35 : OMth := (⟨"evenkeel/group/SpreadSearch", "makeTightRoom", "(I)V"⟩, prog_98_method_59_code, 2, none, 2, own_r35, [(86, (6, 0, 38, 1)), (89, (6, 0, 39, 1)), (92, (6, 0, 40, 1))])
def own_r36 : List (List ORow) := [[(0, .aload_n 0, 1), (1, .getfield 80, 4), (4, .iload_n 1, 5), (5, .iaload, 6), (6, .istore_n 2, 7), (7, .iload_n 2, 8), (8, .aload_n 0, 9), (9, .getfield 80, 12), (12, .iload_n 1, 13), (13, .iconst 1, 14), (14, .iadd, 15), (15, .iaload, 16)],
  [(16, .if_icmp .ge 32, 48), (19, .aload_n 0, 20), (20, .getfield 83, 23), (23, .iload_n 2, 24), (24, .iaload, 25), (25, .istore_n 3, 26), (26, .aload_n 0, 27), (27, .iload_n 3, 28), (28, .aload_n 0, 29), (29, .getfield 23, 32)],
  [(32, .aload_n 0, 33), (33, .getfield 282, 36), (36, .iload_n 3, 37), (37, .iaload, 38), (38, .laload, 39), (39, .invokevirtual 422, 42), (42, .iinc 2 1, 45), (45, .goto (-38), 7)],
  [(48, .return_, 49)]]
def own_m36 : OMth := (⟨"evenkeel/group/SpreadSearch", "listOpenIn", "(I)V"⟩, prog_98_method_57_code, 4, none, 2, own_r36, [(23, (6, 0, 17, 1)), (80, (6, 0, 36, 1)), (83, (6, 0, 37, 1)), (282, (6, 0, 54, 1)), (422, (4, 37, 0, 0))])
def own_r37 : List (List ORow) := [[(0, .aload_n 0, 1), (1, .getfield 180, 4), (4, .aload_n 0, 5), (5, .getfield 282, 8), (8, .iload_n 1, 9), (9, .iaload, 10), (10, .iaload, 11), (11, .istore 4, 13), (13, .aload_n 0, 14), (14, .getfield 86, 17)],
  [(17, .aload_n 0, 18), (18, .getfield 410, 21), (21, .iload_n 1, 22), (22, .iastore, 23), (23, .aload_n 0, 24), (24, .getfield 89, 27), (27, .aload_n 0, 28), (28, .getfield 410, 31), (31, .aload_n 0, 32)],
  [(32, .getfield 285, 35), (35, .iload_n 1, 36), (36, .iaload, 37), (37, .i2l, 38), (38, .lload_n 2, 39), (39, .iload 4, 41), (41, .i2l, 42), (42, .lmul, 43), (43, .invokestatic 154, 46), (46, .l2i, 47), (47, .iastore, 48)],
  [(48, .aload_n 0, 49), (49, .getfield 92, 52), (52, .aload_n 0, 53), (53, .getfield 410, 56), (56, .aload_n 0, 57), (57, .getfield 276, 60), (60, .iload_n 1, 61), (61, .iaload, 62), (62, .i2l, 63), (63, .lload_n 2, 64)],
  [(64, .lconst 1, 65), (65, .ladd, 66), (66, .iload 4, 68), (68, .i2l, 69), (69, .lmul, 70), (70, .invokestatic 241, 73), (73, .l2i, 74), (74, .iastore, 75), (75, .aload_n 0, 76), (76, .dup, 77), (77, .getfield 410, 80)],
  [(80, .iconst 1, 81), (81, .iadd, 82), (82, .putfield 410, 85), (85, .return_, 86)]]
def own_m37 : OMth := (⟨"evenkeel/group/SpreadSearch", "addTight", "(IJ)V"⟩, prog_98_method_58_code, 5, none, 3, own_r37, [(86, (6, 0, 38, 1)), (89, (6, 0, 39, 1)), (92, (6, 0, 40, 1)), (154, (0, 33, 0, 0)), (180, (6, 0, 52, 1)), (241, (0, 38, 0, 0)), (276, (6, 0, 56, 1)), (282, (6, 0, 54, 1)), (285, (6, 0, 55, 1)), (410, (6, 0, 69, 1))])
def own_r38 : List (List ORow) := [[(0, .lload_n 0, 1), (1, .lload_n 2, 2), (2, .lcmp, 3), (3, .ifCond .gt 7, 10), (6, .lload_n 0, 7), (7, .goto 4, 11), (10, .lload_n 2, 11), (11, .lreturn, 12)]]
def own_m38 : OMth := (⟨"java/lang/Math", "min", "(JJ)J"⟩, jdk_29_method_70_code, 4, (some .long), 2, own_r38, [])
def own_r39 : List (List ORow) := [[(0, .aload_n 0, 1), (1, .getfield 95, 4), (4, .aload_n 0, 5), (5, .getfield 177, 8), (8, .aload_n 0, 9), (9, .getfield 410, 12), (12, .iastore, 13), (13, .aload_n 0, 14), (14, .getfield 98, 17)],
  [(17, .iconst 0, 18), (18, .aload_n 0, 19), (19, .getfield 173, 22), (22, .iconst 1, 23), (23, .iadd, 24), (24, .iconst 0, 25), (25, .invokestatic 337, 28), (28, .iconst 0, 29), (29, .istore_n 1, 30), (30, .iload_n 1, 31), (31, .aload_n 0, 32)],
  [(32, .getfield 410, 35), (35, .if_icmp .ge 31, 66), (38, .aload_n 0, 39), (39, .getfield 98, 42), (42, .aload_n 0, 43), (43, .getfield 282, 46), (46, .aload_n 0, 47), (47, .getfield 86, 50)],
  [(50, .iload_n 1, 51), (51, .iaload, 52), (52, .iaload, 53), (53, .iconst 1, 54), (54, .iadd, 55), (55, .dup2, 56), (56, .iaload, 57), (57, .iconst 1, 58), (58, .iadd, 59), (59, .iastore, 60), (60, .iinc 1 1, 63), (63, .goto (-33), 30)],
  [(66, .iconst 0, 67), (67, .istore_n 1, 68), (68, .iload_n 1, 69), (69, .aload_n 0, 70), (70, .getfield 173, 73), (73, .if_icmp .ge 26, 99), (76, .aload_n 0, 77), (77, .getfield 98, 80)],
  [(80, .iload_n 1, 81), (81, .iconst 1, 82), (82, .iadd, 83), (83, .dup2, 84), (84, .iaload, 85), (85, .aload_n 0, 86), (86, .getfield 98, 89), (89, .iload_n 1, 90), (90, .iaload, 91), (91, .iadd, 92), (92, .iastore, 93), (93, .iinc 1 1, 96)],
  [(96, .goto (-28), 68), (99, .aload_n 0, 100), (100, .getfield 101, 103), (103, .arraylength, 104), (104, .aload_n 0, 105), (105, .getfield 410, 108), (108, .if_icmp .ge 14, 122), (111, .aload_n 0, 112)],
  [(112, .aload_n 0, 113), (113, .getfield 86, 116), (116, .arraylength, 117), (117, .newarray .int, 119), (119, .putfield 101, 122), (122, .iconst 0, 123), (123, .istore_n 1, 124), (124, .iload_n 1, 125), (125, .aload_n 0, 126), (126, .getfield 410, 129)],
  [(129, .if_icmp .ge 36, 165), (132, .aload_n 0, 133), (133, .getfield 101, 136), (136, .aload_n 0, 137), (137, .getfield 98, 140), (140, .aload_n 0, 141), (141, .getfield 282, 144)],
  [(144, .aload_n 0, 145), (145, .getfield 86, 148), (148, .iload_n 1, 149), (149, .iaload, 150), (150, .iaload, 151), (151, .dup2, 152), (152, .iaload, 153), (153, .dup_x2, 154), (154, .iconst 1, 155), (155, .iadd, 156), (156, .iastore, 157), (157, .iload_n 1, 158), (158, .iastore, 159), (159, .iinc 1 1, 162)],
  [(162, .goto (-38), 124), (165, .aload_n 0, 166), (166, .getfield 98, 169), (169, .iconst 0, 170), (170, .aload_n 0, 171), (171, .getfield 98, 174), (174, .iconst 1, 175), (175, .aload_n 0, 176)],
  [(176, .getfield 173, 179), (179, .invokestatic 216, 182), (182, .aload_n 0, 183), (183, .getfield 98, 186), (186, .iconst 0, 187), (187, .iconst 0, 188), (188, .iastore, 189), (189, .return_, 190)]]
def own_m39 : OMth := (⟨"evenkeel/group/SpreadSearch", "indexTightCells", "()V"⟩, prog_98_method_60_code, 2, none, 1, own_r39, [(86, (6, 0, 38, 1)), (95, (6, 0, 41, 1)), (98, (6, 0, 42, 1)), (101, (6, 0, 43, 1)), (173, (6, 0, 50, 1)), (177, (6, 0, 51, 1)), (216, (10, 0, 0, 0)), (282, (6, 0, 54, 1)), (337, (0, 12, 0, 0)), (410, (6, 0, 69, 1))])
def own_r40 : List (List ORow) := [[(0, .iconst 1, 1), (1, .istore_n 1, 2), (2, .iload_n 1, 3), (3, .ifCond .eq 29, 32), (6, .aload_n 0, 7), (7, .getfield 113, 10), (10, .lconst 0, 11), (11, .lcmp, 12), (12, .ifCond .le 20, 32), (15, .aload_n 0, 16)],
  [(16, .getfield 116, 19), (19, .lconst 0, 20), (20, .lcmp, 21), (21, .ifCond .le 11, 32), (24, .aload_n 0, 25), (25, .invokevirtual 119, 28), (28, .istore_n 1, 29), (29, .goto (-27), 2)],
  [(32, .return_, 33)]]
def own_m40 : OMth := (⟨"evenkeel/group/MinCostFlow", "moveAlongShortestPaths", "()V"⟩, prog_76_method_12_code, 2, none, 1, own_r40, [(113, (6, 0, 67, 1)), (116, (6, 0, 68, 1)), (119, (3, 41, 0, 0))])
def own_r41 : List (List ORow) := [[(0, .aload_n 0, 1), (1, .invokevirtual 123, 4), (4, .istore_n 1, 5), (5, .aload_n 0, 6), (6, .iload_n 1, 7), (7, .invokevirtual 126, 10), (10, .aload_n 0, 11), (11, .invokevirtual 130, 14), (14, .ifCond .ne 5, 19)],
  [(17, .iconst 0, 18), (18, .ireturn, 19), (19, .aload_n 0, 20), (20, .getfield 34, 23), (23, .iconst 0, 24), (24, .aload_n 0, 25), (25, .getfield 56, 28), (28, .iconst 1, 29), (29, .iadd, 30), (30, .iconst 0, 31), (31, .invokestatic 133, 34)],
  [(34, .iload_n 1, 35), (35, .ifCond .eq 7, 42), (38, .aload_n 0, 39), (39, .invokevirtual 136, 42), (42, .aload_n 0, 43), (43, .getfield 113, 46), (46, .lconst 0, 47), (47, .lcmp, 48)],
  [(48, .ifCond .le 54, 102), (51, .aload_n 0, 52), (52, .getfield 116, 55), (55, .lconst 0, 56), (56, .lcmp, 57), (57, .ifCond .le 45, 102), (60, .aload_n 0, 61), (61, .iload_n 1, 62), (62, .invokevirtual 139, 65)],
  [(65, .istore_n 2, 66), (66, .iload_n 2, 67), (67, .ifCond .ge 6, 73), (70, .goto 32, 102), (73, .aload_n 0, 74), (74, .iload_n 2, 75), (75, .invokevirtual 143, 78), (78, .lstore_n 3, 79), (79, .aload_n 0, 80)],
  [(80, .dup, 81), (81, .getfield 113, 84), (84, .lload_n 3, 85), (85, .lsub, 86), (86, .putfield 113, 89), (89, .aload_n 0, 90), (90, .dup, 91), (91, .getfield 116, 94), (94, .lload_n 3, 95), (95, .lsub, 96)],
  [(96, .putfield 116, 99), (99, .goto (-57), 42), (102, .iconst 1, 103), (103, .ireturn, 104)]]
def own_m41 : OMth := (⟨"evenkeel/group/MinCostFlow", "sweep", "()Z"⟩, prog_76_method_13_code, 5, (some .boolean), 1, own_r41, [(34, (6, 0, 7, 1)), (56, (6, 0, 62, 1)), (113, (6, 0, 67, 1)), (116, (6, 0, 68, 1)), (123, (3, 42, 0, 0)), (126, (4, 43, 0, 0)), (130, (4, 44, 0, 0)), (133, (0, 12, 0, 0))])
def own_r42 : List (List ORow) := [[(0, .aload_n 0, 1), (1, .getfield 163, 4), (4, .ireturn, 5)]]
def own_m42 : OMth := (⟨"evenkeel/group/SpreadSearch", "arcsByHead", "()Z"⟩, prog_98_method_78_code, 1, (some .boolean), 1, own_r42, [(163, (6, 0, 60, 1))])
def own_r43 : List (List ORow) := [[(0, .aload_n 0, 1), (1, .getfield 56, 4), (4, .iconst 1, 5), (5, .iadd, 6), (6, .istore_n 2, 7), (7, .aload_n 0, 8), (8, .getfield 31, 11), (11, .arraylength, 12), (12, .iload_n 2, 13), (13, .if_icmp .ge 38, 51)],
  [(16, .aload_n 0, 17), (17, .iload_n 2, 18), (18, .newarray .int, 20), (20, .putfield 31, 23), (23, .aload_n 0, 24), (24, .iload_n 2, 25), (25, .newarray .int, 27), (27, .putfield 34, 30), (30, .aload_n 0, 31), (31, .iload_n 2, 32)],
  [(32, .newarray .int, 34), (34, .putfield 37, 37), (37, .aload_n 0, 38), (38, .iload_n 2, 39), (39, .newarray .int, 41), (41, .putfield 40, 44), (44, .aload_n 0, 45), (45, .iload_n 2, 46), (46, .newarray .int, 48)],
  [(48, .putfield 49, 51), (51, .iload_n 1, 52), (52, .ifCond .eq 28, 80), (55, .aload_n 0, 56), (56, .getfield 46, 59), (59, .arraylength, 60), (60, .iload_n 2, 61), (61, .if_icmp .ge 19, 80)],
  [(64, .aload_n 0, 65), (65, .iload_n 2, 66), (66, .iconst 2, 67), (67, .iadd, 68), (68, .newarray .int, 70), (70, .putfield 43, 73), (73, .aload_n 0, 74), (74, .iload_n 2, 75), (75, .newarray .int, 77), (77, .putfield 46, 80)],
  [(80, .return_, 81)]]
def own_m43 : OMth := (⟨"evenkeel/group/MinCostFlow", "readySweep", "(Z)V"⟩, prog_76_method_4_code, 3, none, 2, own_r43, [(31, (6, 0, 6, 1)), (34, (6, 0, 7, 1)), (37, (6, 0, 8, 1)), (40, (6, 0, 9, 1)), (43, (6, 0, 10, 1)), (46, (6, 0, 11, 1)), (49, (6, 0, 12, 1)), (56, (6, 0, 62, 1))])
def own_r44 : List (List ORow) := [[(0, .aload_n 0, 1), (1, .invokevirtual 175, 4), (4, .ifCond .ne 5, 9), (7, .iconst 0, 8), (8, .ireturn, 9), (9, .aload_n 0, 10), (10, .dup, 11), (11, .getfield 178, 14), (14, .iconst 1, 15), (15, .iadd, 16)],
  [(16, .putfield 178, 19), (19, .aload_n 0, 20), (20, .iconst 0, 21), (21, .putfield 181, 24), (24, .aload_n 0, 25), (25, .getfield 31, 28), (28, .iconst 0, 29), (29, .aload_n 0, 30), (30, .getfield 56, 33)],
  [(33, .iconst 1, 34), (34, .iadd, 35), (35, .iconst (-1), 36), (36, .invokestatic 133, 39), (39, .aload_n 0, 40), (40, .getfield 37, 43), (43, .astore_n 1, 44), (44, .iconst 0, 45), (45, .istore_n 2, 46), (46, .aload_n 0, 47), (47, .getfield 31, 50)],
  [(50, .aload_n 0, 51), (51, .getfield 52, 54), (54, .iconst 0, 55), (55, .iastore, 56), (56, .aload_n 1, 57), (57, .iload_n 2, 58), (58, .iinc 2 1, 61), (61, .aload_n 0, 62), (62, .getfield 52, 65)],
  [(65, .iastore, 66), (66, .iconst 0, 67), (67, .istore_n 3, 68), (68, .iload_n 3, 69), (69, .iload_n 2, 70), (70, .if_icmp .ge 31, 101), (73, .aload_n 0, 74), (74, .getfield 31, 77), (77, .aload_n 0, 78), (78, .getfield 56, 81)],
  [(81, .iaload, 82), (82, .ifCond .ge 19, 101), (85, .aload_n 0, 86), (86, .aload_n 1, 87), (87, .iload_n 3, 88), (88, .iaload, 89), (89, .aload_n 1, 90), (90, .iload_n 2, 91), (91, .invokevirtual 185, 94), (94, .istore_n 2, 95), (95, .iinc 3 1, 98)],
  [(98, .goto (-30), 68), (101, .aload_n 0, 102), (102, .getfield 31, 105), (105, .aload_n 0, 106), (106, .getfield 56, 109), (109, .iaload, 110), (110, .ifCond .lt 7, 117)],
  [(113, .iconst 1, 114), (114, .goto 4, 118), (117, .iconst 0, 118), (118, .ireturn, 119)]]
def own_m44 : OMth := (⟨"evenkeel/group/MinCostFlow", "levelGraph", "()Z"⟩, prog_76_method_16_code, 4, (some .boolean), 1, own_r44, [(31, (6, 0, 6, 1)), (37, (6, 0, 8, 1)), (52, (6, 0, 61, 1)), (56, (6, 0, 62, 1)), (133, (0, 12, 0, 0)), (175, (3, 45, 0, 0)), (178, (6, 0, 70, 1)), (181, (6, 0, 71, 1)), (185, (3, 46, 0, 0))])
def own_r45 : List (List ORow) := [[(0, .iconst 1, 1), (1, .ireturn, 2)]]
def own_m45 : OMth := (⟨"evenkeel/group/MinCostFlow", "anyRoomToSink", "()Z"⟩, prog_76_method_17_code, 1, (some .boolean), 1, own_r45, [])
def own_r46 : List (List ORow) := [[(0, .aload_n 0, 1), (1, .getfield 163, 4), (4, .ifCond .ne 11, 15), (7, .aload_n 0, 8), (8, .iload_n 1, 9), (9, .aload_n 2, 10), (10, .iload_n 3, 11), (11, .invokespecial 460, 14), (14, .ireturn, 15), (15, .iload_n 3, 16)],
  [(16, .istore 4, 18), (18, .iload_n 1, 19), (19, .aload_n 0, 20), (20, .getfield 244, 23), (23, .if_icmp .ne 64, 87), (26, .aload_n 0, 27), (27, .invokevirtual 426, 30), (30, .iconst 0, 31), (31, .istore 5, 33)],
  [(33, .iload 5, 35), (35, .aload_n 0, 36), (36, .getfield 177, 39), (39, .if_icmp .ge 45, 84), (42, .aload_n 0, 43), (43, .aload_n 0, 44), (44, .getfield 244, 47), (47, .iload 5, 49)],
  [(49, .invokevirtual 464, 52), (52, .lconst 0, 53), (53, .lcmp, 54), (54, .ifCond .le 24, 78), (57, .aload_n 0, 58), (58, .iload 5, 60), (60, .aload_n 0, 61), (61, .getfield 244, 64)],
  [(64, .aload_n 2, 65), (65, .iload 4, 67), (67, .invokevirtual 468, 70), (70, .istore 4, 72), (72, .aload_n 0, 73), (73, .iload 5, 75), (75, .invokevirtual 432, 78), (78, .iinc 5 1, 81)],
  [(81, .goto (-48), 33), (84, .goto 86, 170), (87, .iload_n 1, 88), (88, .aload_n 0, 89), (89, .getfield 177, 92), (92, .if_icmp .ge 63, 155), (95, .aload_n 0, 96)],
  [(96, .getfield 19, 99), (99, .iload_n 1, 100), (100, .laload, 101), (101, .lconst 0, 102), (102, .lcmp, 103), (103, .ifCond .ge 39, 142), (106, .aload_n 0, 107), (107, .getfield 222, 110), (110, .iload_n 1, 111), (111, .laload, 112)],
  [(112, .aload_n 0, 113), (113, .getfield 222, 116), (116, .aload_n 0, 117), (117, .getfield 247, 120), (120, .laload, 121), (121, .lcmp, 122), (122, .ifCond .ne 20, 142), (125, .aload_n 0, 126), (126, .aload_n 0, 127), (127, .getfield 247, 130)],
  [(130, .iload_n 1, 131), (131, .aload_n 2, 132), (132, .iload 4, 134), (134, .invokevirtual 468, 137), (137, .istore 4, 139), (139, .goto 31, 170), (142, .aload_n 0, 143), (143, .iload_n 1, 144)],
  [(144, .aload_n 2, 145), (145, .iload 4, 147), (147, .invokevirtual 472, 150), (150, .istore 4, 152), (152, .goto 18, 170), (155, .aload_n 0, 156), (156, .iload_n 1, 157), (157, .aload_n 0, 158), (158, .getfield 177, 161)],
  [(161, .isub, 162), (162, .aload_n 2, 163), (163, .iload 4, 165), (165, .invokevirtual 475, 168), (168, .istore 4, 170), (170, .iload 4, 172), (172, .ireturn, 173)]]
def own_m46 : OMth := (⟨"evenkeel/group/SpreadSearch", "levelArcsOf", "(I[II)I"⟩, prog_98_method_69_code, 6, (some .int), 4, own_r46, [(19, (6, 0, 16, 1)), (163, (6, 0, 60, 1)), (177, (6, 0, 51, 1)), (222, (6, 0, 0, 1)), (244, (6, 0, 61, 1)), (247, (6, 0, 62, 1)), (460, (5, 47, 0, 0)), (464, (3, 50, 0, 0)), (468, (13, 51, 0, 0))])
def own_r47 : List (List ORow) := [[(0, .iload_n 3, 1), (1, .istore 4, 3), (3, .aload_n 0, 4), (4, .iload_n 1, 5), (5, .invokevirtual 155, 8), (8, .istore 5, 10), (10, .iconst 0, 11), (11, .istore 6, 13), (13, .iload 6, 15), (15, .iload 5, 17)],
  [(17, .if_icmp .ge 52, 69), (20, .aload_n 0, 21), (21, .iload_n 1, 22), (22, .iload 6, 24), (24, .invokevirtual 158, 27), (27, .istore 7, 29), (29, .aload_n 0, 30), (30, .getfield 31, 33)],
  [(33, .iload 7, 35), (35, .iaload, 36), (36, .ifCond .ge 27, 63), (39, .aload_n 0, 40), (40, .iload_n 1, 41), (41, .iload 6, 43), (43, .invokevirtual 161, 46), (46, .lconst 0, 47), (47, .lcmp, 48)],
  [(48, .ifCond .le 15, 63), (51, .aload_n 0, 52), (52, .iload 7, 54), (54, .iload_n 1, 55), (55, .aload_n 2, 56), (56, .iload 4, 58), (58, .invokevirtual 189, 61), (61, .istore 4, 63), (63, .iinc 6 1, 66)],
  [(66, .goto (-53), 13), (69, .iload 4, 71), (71, .ireturn, 72)]]
def own_m47 : OMth := (⟨"evenkeel/group/MinCostFlow", "levelArcsOf", "(I[II)I"⟩, prog_76_method_18_code, 8, (some .int), 4, own_r47, [(31, (6, 0, 6, 1)), (155, (3, 48, 0, 0)), (158, (3, 49, 0, 0)), (161, (3, 50, 0, 0)), (189, (3, 51, 0, 0))])
def own_r48 : List (List ORow) := [[(0, .iload_n 1, 1), (1, .aload_n 0, 2), (2, .getfield 177, 5), (5, .if_icmp .ge 37, 42), (8, .aload_n 0, 9), (9, .getfield 163, 12), (12, .ifCond .eq 12, 24), (15, .aload_n 0, 16)],
  [(16, .getfield 173, 19), (19, .iconst 1, 20), (20, .iadd, 21), (21, .goto 20, 41), (24, .aload_n 0, 25), (25, .getfield 95, 28), (28, .iload_n 1, 29), (29, .iconst 1, 30), (30, .iadd, 31), (31, .iaload, 32)],
  [(32, .aload_n 0, 33), (33, .getfield 95, 36), (36, .iload_n 1, 37), (37, .iaload, 38), (38, .isub, 39), (39, .iconst 1, 40), (40, .iadd, 41), (41, .ireturn, 42), (42, .iload_n 1, 43), (43, .aload_n 0, 44), (44, .getfield 244, 47), (47, .if_icmp .ne 8, 55)],
  [(50, .aload_n 0, 51), (51, .getfield 177, 54), (54, .ireturn, 55), (55, .iload_n 1, 56), (56, .aload_n 0, 57), (57, .getfield 247, 60), (60, .if_icmp .ne 5, 65), (63, .iconst 0, 64)],
  [(64, .ireturn, 65), (65, .aload_n 0, 66), (66, .getfield 163, 69), (69, .ifCond .eq 10, 79), (72, .aload_n 0, 73), (73, .getfield 177, 76), (76, .goto 28, 104), (79, .aload_n 0, 80)],
  [(80, .getfield 98, 83), (83, .iload_n 1, 84), (84, .aload_n 0, 85), (85, .getfield 177, 88), (88, .isub, 89), (89, .iconst 1, 90), (90, .iadd, 91), (91, .iaload, 92), (92, .aload_n 0, 93), (93, .getfield 98, 96)],
  [(96, .iload_n 1, 97), (97, .aload_n 0, 98), (98, .getfield 177, 101), (101, .isub, 102), (102, .iaload, 103), (103, .isub, 104), (104, .ireturn, 105)]]
def own_m48 : OMth := (⟨"evenkeel/group/SpreadSearch", "arcs", "(I)I"⟩, prog_98_method_76_code, 2, (some .int), 2, own_r48, [(95, (6, 0, 41, 1)), (98, (6, 0, 42, 1)), (163, (6, 0, 60, 1)), (173, (6, 0, 50, 1)), (177, (6, 0, 51, 1)), (244, (6, 0, 61, 1)), (247, (6, 0, 62, 1))])
def own_r49 : List (List ORow) := [[(0, .iload_n 1, 1), (1, .aload_n 0, 2), (2, .getfield 177, 5), (5, .if_icmp .ge 32, 37), (8, .aload_n 0, 9), (9, .getfield 163, 12), (12, .ifCond .eq 25, 37), (15, .iload_n 2, 16)],
  [(16, .aload_n 0, 17), (17, .getfield 173, 20), (20, .if_icmp .ge 12, 32), (23, .aload_n 0, 24), (24, .getfield 177, 27), (27, .iload_n 2, 28), (28, .iadd, 29), (29, .goto 7, 36)],
  [(32, .aload_n 0, 33), (33, .getfield 247, 36), (36, .ireturn, 37), (37, .iload_n 1, 38), (38, .aload_n 0, 39), (39, .getfield 177, 42), (42, .if_icmp .ge 48, 90), (45, .aload_n 0, 46), (46, .getfield 95, 49)],
  [(49, .iload_n 1, 50), (50, .iaload, 51), (51, .iload_n 2, 52), (52, .iadd, 53), (53, .istore_n 3, 54), (54, .iload_n 3, 55), (55, .aload_n 0, 56), (56, .getfield 95, 59), (59, .iload_n 1, 60), (60, .iconst 1, 61), (61, .iadd, 62), (62, .iaload, 63), (63, .if_icmp .ge 22, 85)],
  [(66, .aload_n 0, 67), (67, .getfield 177, 70), (70, .aload_n 0, 71), (71, .getfield 282, 74), (74, .aload_n 0, 75), (75, .getfield 86, 78), (78, .iload_n 3, 79), (79, .iaload, 80)],
  [(80, .iaload, 81), (81, .iadd, 82), (82, .goto 7, 89), (85, .aload_n 0, 86), (86, .getfield 247, 89), (89, .ireturn, 90), (90, .iload_n 1, 91), (91, .aload_n 0, 92), (92, .getfield 244, 95), (95, .if_icmp .eq 10, 105)],
  [(98, .aload_n 0, 99), (99, .getfield 163, 102), (102, .ifCond .eq 5, 107), (105, .iload_n 2, 106), (106, .ireturn, 107), (107, .aload_n 0, 108), (108, .getfield 16, 111), (111, .aload_n 0, 112)],
  [(112, .getfield 86, 115), (115, .aload_n 0, 116), (116, .getfield 101, 119), (119, .aload_n 0, 120), (120, .getfield 98, 123), (123, .iload_n 1, 124), (124, .aload_n 0, 125), (125, .getfield 177, 128)],
  [(128, .isub, 129), (129, .iaload, 130), (130, .iload_n 2, 131), (131, .iadd, 132), (132, .iaload, 133), (133, .iaload, 134), (134, .iaload, 135), (135, .ireturn, 136)]]
def own_m49 : OMth := (⟨"evenkeel/group/SpreadSearch", "head", "(II)I"⟩, prog_98_method_77_code, 4, (some .int), 3, own_r49, [(16, (6, 0, 15, 1)), (86, (6, 0, 38, 1)), (95, (6, 0, 41, 1)), (98, (6, 0, 42, 1)), (101, (6, 0, 43, 1)), (163, (6, 0, 60, 1)), (173, (6, 0, 50, 1)), (177, (6, 0, 51, 1)), (244, (6, 0, 61, 1)), (247, (6, 0, 62, 1)), (282, (6, 0, 54, 1))])
def own_r50 : List (List ORow) := [[(0, .iload_n 1, 1), (1, .aload_n 0, 2), (2, .getfield 244, 5), (5, .if_icmp .ne 44, 49), (8, .aload_n 0, 9), (9, .getfield 19, 12), (12, .iload_n 2, 13), (13, .laload, 14), (14, .lconst 0, 15), (15, .lcmp, 16)],
  [(16, .ifCond .le 31, 47), (19, .aload_n 0, 20), (20, .getfield 222, 23), (23, .aload_n 0, 24), (24, .getfield 244, 27), (27, .laload, 28), (28, .aload_n 0, 29), (29, .getfield 222, 32)],
  [(32, .iload_n 2, 33), (33, .laload, 34), (34, .lcmp, 35), (35, .ifCond .ne 12, 47), (38, .aload_n 0, 39), (39, .getfield 19, 42), (42, .iload_n 2, 43), (43, .laload, 44), (44, .goto 4, 48), (47, .lconst 0, 48)],
  [(48, .lreturn, 49), (49, .iload_n 1, 50), (50, .aload_n 0, 51), (51, .getfield 177, 54), (54, .if_icmp .ge 128, 182), (57, .aload_n 0, 58), (58, .getfield 95, 61), (61, .iload_n 1, 62), (62, .iaload, 63), (63, .iload_n 2, 64)],
  [(64, .iadd, 65), (65, .istore_n 3, 66), (66, .aload_n 0, 67), (67, .getfield 163, 70), (70, .ifCond .eq 14, 84), (73, .iload_n 2, 74), (74, .aload_n 0, 75), (75, .getfield 173, 78), (78, .if_icmp .ne 60, 138)],
  [(81, .goto 15, 96), (84, .iload_n 3, 85), (85, .aload_n 0, 86), (86, .getfield 95, 89), (89, .iload_n 1, 90), (90, .iconst 1, 91), (91, .iadd, 92), (92, .iaload, 93), (93, .if_icmp .ne 45, 138)],
  [(96, .aload_n 0, 97), (97, .getfield 19, 100), (100, .iload_n 1, 101), (101, .laload, 102), (102, .lconst 0, 103), (103, .lcmp, 104), (104, .ifCond .ge 32, 136), (107, .aload_n 0, 108), (108, .getfield 222, 111), (111, .iload_n 1, 112)],
  [(112, .laload, 113), (113, .aload_n 0, 114), (114, .getfield 222, 117), (117, .aload_n 0, 118), (118, .getfield 247, 121), (121, .laload, 122), (122, .lcmp, 123), (123, .ifCond .ne 13, 136), (126, .aload_n 0, 127), (127, .getfield 19, 130)],
  [(130, .iload_n 1, 131), (131, .laload, 132), (132, .lneg, 133), (133, .goto 4, 137), (136, .lconst 0, 137), (137, .lreturn, 138), (138, .aload_n 0, 139), (139, .getfield 163, 142), (142, .ifCond .eq 20, 162)],
  [(145, .aload_n 0, 146), (146, .iload_n 1, 147), (147, .aload_n 0, 148), (148, .getfield 173, 151), (151, .imul, 152), (152, .iload_n 2, 153), (153, .iadd, 154), (154, .iload_n 1, 155), (155, .iload_n 2, 156), (156, .invokevirtual 481, 159), (159, .goto 22, 181)],
  [(162, .aload_n 0, 163), (163, .getfield 92, 166), (166, .iload_n 3, 167), (167, .iaload, 168), (168, .aload_n 0, 169), (169, .getfield 213, 172), (172, .aload_n 0, 173), (173, .getfield 86, 176)],
  [(176, .iload_n 3, 177), (177, .iaload, 178), (178, .iaload, 179), (179, .isub, 180), (180, .i2l, 181), (181, .lreturn, 182), (182, .aload_n 0, 183), (183, .getfield 163, 186), (186, .ifCond .eq 28, 214), (189, .aload_n 0, 190), (190, .iload_n 2, 191), (191, .aload_n 0, 192)],
  [(192, .getfield 173, 195), (195, .imul, 196), (196, .iload_n 1, 197), (197, .iadd, 198), (198, .aload_n 0, 199), (199, .getfield 177, 202), (202, .isub, 203), (203, .iload_n 2, 204), (204, .iload_n 1, 205), (205, .aload_n 0, 206), (206, .getfield 177, 209)],
  [(209, .isub, 210), (210, .invokevirtual 484, 213), (213, .lreturn, 214), (214, .aload_n 0, 215), (215, .getfield 101, 218), (218, .aload_n 0, 219), (219, .getfield 98, 222), (222, .iload_n 1, 223), (223, .aload_n 0, 224)],
  [(224, .getfield 177, 227), (227, .isub, 228), (228, .iaload, 229), (229, .iload_n 2, 230), (230, .iadd, 231), (231, .iaload, 232), (232, .istore_n 3, 233), (233, .aload_n 0, 234), (234, .getfield 213, 237), (237, .aload_n 0, 238), (238, .getfield 86, 241)],
  [(241, .iload_n 3, 242), (242, .iaload, 243), (243, .iaload, 244), (244, .aload_n 0, 245), (245, .getfield 89, 248), (248, .iload_n 3, 249), (249, .iaload, 250), (250, .isub, 251), (251, .i2l, 252), (252, .lreturn, 253)]]
def own_m50 : OMth := (⟨"evenkeel/group/SpreadSearch", "room", "(II)J"⟩, prog_98_method_81_code, 4, (some .long), 3, own_r50, [(19, (6, 0, 16, 1)), (86, (6, 0, 38, 1)), (89, (6, 0, 39, 1)), (92, (6, 0, 40, 1)), (95, (6, 0, 41, 1)), (98, (6, 0, 42, 1)), (101, (6, 0, 43, 1)), (163, (6, 0, 60, 1)), (173, (6, 0, 50, 1)), (177, (6, 0, 51, 1)), (213, (6, 0, 57, 1)), (222, (6, 0, 0, 1)), (244, (6, 0, 61, 1)), (247, (6, 0, 62, 1))])
def own_r51 : List (List ORow) := [[(0, .aload_n 0, 1), (1, .getfield 31, 4), (4, .iload_n 1, 5), (5, .aload_n 0, 6), (6, .getfield 31, 9), (9, .iload_n 2, 10), (10, .iaload, 11), (11, .iconst 1, 12), (12, .iadd, 13), (13, .iastore, 14), (14, .iload_n 1, 15), (15, .aload_n 0, 16)],
  [(16, .getfield 56, 19), (19, .if_icmp .ne 6, 25), (22, .iload 4, 24), (24, .ireturn, 25), (25, .aload_n 0, 26), (26, .getfield 31, 29), (29, .aload_n 0, 30), (30, .getfield 56, 33)],
  [(33, .iaload, 34), (34, .iconst (-1), 35), (35, .if_icmp .ne 33, 68), (38, .aload_n 0, 39), (39, .iload_n 1, 40), (40, .invokevirtual 193, 43), (43, .ifCond .eq 25, 68), (46, .aload_n 0, 47), (47, .getfield 31, 50)],
  [(50, .aload_n 0, 51), (51, .getfield 56, 54), (54, .aload_n 0, 55), (55, .getfield 31, 58), (58, .iload_n 1, 59), (59, .iaload, 60), (60, .iconst 1, 61), (61, .iadd, 62), (62, .iastore, 63), (63, .aload_n 0, 64)],
  [(64, .iconst 1, 65), (65, .putfield 181, 68), (68, .aload_n 3, 69), (69, .iload 4, 71), (71, .iload_n 1, 72), (72, .iastore, 73), (73, .iload 4, 75), (75, .iconst 1, 76), (76, .iadd, 77), (77, .ireturn, 78)]]
def own_m51 : OMth := (⟨"evenkeel/group/MinCostFlow", "number", "(II[II)I"⟩, prog_76_method_20_code, 5, (some .int), 5, own_r51, [(31, (6, 0, 6, 1)), (56, (6, 0, 62, 1)), (181, (6, 0, 71, 1)), (193, (3, 52, 0, 0))])
def own_r52 : List (List ORow) := [[(0, .iconst 0, 1), (1, .ireturn, 2)]]
def own_m52 : OMth := (⟨"evenkeel/group/MinCostFlow", "leadsToSink", "(I)Z"⟩, prog_76_method_21_code, 2, (some .boolean), 2, own_r52, [])
def own_r53 : List (List ORow) := [[(0, .iload_n 1, 1), (1, .iconst 3, 2), (2, .iushr, 3), (3, .istore_n 3, 4), (4, .iload_n 0, 5), (5, .iconst 1, 6), (6, .if_icmp .eq 8, 14), (9, .iload_n 0, 10), (10, .iconst 3, 11), (11, .if_icmp .ne 13, 24), (14, .iload_n 2, 15), (15, .ifCond .ne 9, 24)],
  [(18, .iload_n 3, 19), (19, .iconst 2, 20), (20, .irem, 21), (21, .goto 6, 27), (24, .iload_n 3, 25), (25, .iconst 3, 26), (26, .irem, 27), (27, .ireturn, 28)]]
def own_m53 : OMth := (⟨"evenkeel/group/SpreadSearchMovePinLaw", "column", "(IIZ)I"⟩, method_3_code, 4, (some .int), 3, own_r53, [])
def own_r54 : List (List ORow) := [[(0, .iload_n 0, 1), (1, .ifCond .ne 7, 8), (4, .iconst 5, 5), (5, .goto 15, 20), (8, .iload_n 0, 9), (9, .iconst 3, 10), (10, .if_icmp .ne 9, 19), (13, .iconst 3, 14), (14, .iload_n 2, 15), (15, .iadd, 16)],
  [(16, .goto 4, 20), (19, .iload_n 1, 20), (20, .ireturn, 21)]]
def own_m54 : OMth := (⟨"evenkeel/group/SpreadSearchMovePinLaw", "node", "(III)I"⟩, method_5_code, 3, (some .int), 3, own_r54, [])
def own_r55 : List (List ORow) := [[(0, .iload_n 0, 1), (1, .ifCond .ne 7, 8), (4, .iload_n 1, 5), (5, .goto 26, 31), (8, .iload_n 0, 9), (9, .iconst 1, 10), (10, .if_icmp .ne 7, 17), (13, .iload_n 2, 14), (14, .goto 17, 31)],
  [(17, .iload_n 0, 18), (18, .iconst 2, 19), (19, .if_icmp .ne 11, 30), (22, .iload_n 1, 23), (23, .iload_n 3, 24), (24, .invokestatic 47, 27), (27, .goto 4, 31), (30, .iload_n 1, 31), (31, .ireturn, 32)]]
def own_m55 : OMth := (⟨"evenkeel/group/SpreadSearchMovePinLaw", "arcIndex", "(IIIZ)I"⟩, method_6_code, 4, (some .int), 4, own_r55, [(47, (0, 59, 0, 0))])
def own_r56 : List (List ORow) := [[(0, .iload_n 1, 1), (1, .aload_n 0, 2), (2, .getfield 244, 5), (5, .if_icmp .ne 17, 22), (8, .aload_n 0, 9), (9, .getfield 19, 12), (12, .iload_n 2, 13), (13, .dup2, 14), (14, .laload, 15), (15, .iload_n 3, 16)],
  [(16, .i2l, 17), (17, .lsub, 18), (18, .lastore, 19), (19, .goto 158, 177), (22, .iload_n 1, 23), (23, .aload_n 0, 24), (24, .getfield 177, 27), (27, .if_icmp .ge 95, 122), (30, .aload_n 0, 31), (31, .getfield 95, 34)],
  [(34, .iload_n 1, 35), (35, .iaload, 36), (36, .iload_n 2, 37), (37, .iadd, 38), (38, .istore 4, 40), (40, .aload_n 0, 41), (41, .getfield 163, 44), (44, .ifCond .eq 14, 58), (47, .iload_n 2, 48)],
  [(48, .aload_n 0, 49), (49, .getfield 173, 52), (52, .if_icmp .ne 33, 85), (55, .goto 16, 71), (58, .iload 4, 60), (60, .aload_n 0, 61), (61, .getfield 95, 64)],
  [(64, .iload_n 1, 65), (65, .iconst 1, 66), (66, .iadd, 67), (67, .iaload, 68), (68, .if_icmp .ne 17, 85), (71, .aload_n 0, 72), (72, .getfield 19, 75), (75, .iload_n 1, 76), (76, .dup2, 77), (77, .laload, 78), (78, .iload_n 3, 79), (79, .i2l, 80)],
  [(80, .ladd, 81), (81, .lastore, 82), (82, .goto 37, 119), (85, .aload_n 0, 86), (86, .getfield 213, 89), (89, .aload_n 0, 90), (90, .getfield 163, 93), (93, .ifCond .eq 14, 107)],
  [(96, .iload_n 1, 97), (97, .aload_n 0, 98), (98, .getfield 173, 101), (101, .imul, 102), (102, .iload_n 2, 103), (103, .iadd, 104), (104, .goto 10, 114), (107, .aload_n 0, 108), (108, .getfield 86, 111), (111, .iload 4, 113)],
  [(113, .iaload, 114), (114, .dup2, 115), (115, .iaload, 116), (116, .iload_n 3, 117), (117, .iadd, 118), (118, .iastore, 119), (119, .goto 58, 177), (122, .aload_n 0, 123), (123, .getfield 213, 126), (126, .aload_n 0, 127), (127, .getfield 163, 130)],
  [(130, .ifCond .eq 19, 149), (133, .iload_n 2, 134), (134, .aload_n 0, 135), (135, .getfield 173, 138), (138, .imul, 139), (139, .iload_n 1, 140), (140, .iadd, 141), (141, .aload_n 0, 142), (142, .getfield 177, 145)],
  [(145, .isub, 146), (146, .goto 26, 172), (149, .aload_n 0, 150), (150, .getfield 86, 153), (153, .aload_n 0, 154), (154, .getfield 101, 157), (157, .aload_n 0, 158), (158, .getfield 98, 161)],
  [(161, .iload_n 1, 162), (162, .aload_n 0, 163), (163, .getfield 177, 166), (166, .isub, 167), (167, .iaload, 168), (168, .iload_n 2, 169), (169, .iadd, 170), (170, .iaload, 171), (171, .iaload, 172), (172, .dup2, 173), (173, .iaload, 174), (174, .iload_n 3, 175), (175, .isub, 176)],
  [(176, .iastore, 177), (177, .return_, 178)]]
def own_m56 : OMth := (⟨"evenkeel/group/SpreadSearch", "move", "(III)V"⟩, prog_98_method_82_code, 5, none, 4, own_r56, [(19, (6, 0, 16, 1)), (86, (6, 0, 38, 1)), (95, (6, 0, 41, 1)), (98, (6, 0, 42, 1)), (101, (6, 0, 43, 1)), (163, (6, 0, 60, 1)), (173, (6, 0, 50, 1)), (177, (6, 0, 51, 1)), (213, (6, 0, 57, 1)), (244, (6, 0, 61, 1))])
def own_r57 : List (List ORow) := [[(0, .iload_n 2, 1), (1, .ifCond .ne 15, 16), (4, .aload_n 0, 5), (5, .iload_n 3, 6), (6, .dup2, 7), (7, .laload, 8), (8, .iload 5, 10), (10, .i2l, 11), (11, .lsub, 12), (12, .lastore, 13), (13, .goto 54, 67)],
  [(16, .iload_n 2, 17), (17, .iconst 1, 18), (18, .if_icmp .ne 19, 37), (21, .aload_n 1, 22), (22, .iconst 2, 23), (23, .iload_n 3, 24), (24, .imul, 25), (25, .iload 4, 27), (27, .iadd, 28), (28, .dup2, 29), (29, .iaload, 30), (30, .iload 5, 32)],
  [(32, .iadd, 33), (33, .iastore, 34), (34, .goto 33, 67), (37, .iload_n 2, 38), (38, .iconst 2, 39), (39, .if_icmp .ne 15, 54), (42, .aload_n 0, 43), (43, .iload_n 3, 44), (44, .dup2, 45), (45, .laload, 46), (46, .iload 5, 48)],
  [(48, .i2l, 49), (49, .ladd, 50), (50, .lastore, 51), (51, .goto 16, 67), (54, .aload_n 1, 55), (55, .iconst 2, 56), (56, .iload_n 3, 57), (57, .imul, 58), (58, .iload 4, 60), (60, .iadd, 61), (61, .dup2, 62), (62, .iaload, 63), (63, .iload 5, 65)],
  [(65, .isub, 66), (66, .iastore, 67), (67, .return_, 68)]]
def own_m57 : OMth := (⟨"evenkeel/group/SpreadSearchMovePinLaw", "apply", "([J[IIIII)V"⟩, method_7_code, 6, none, 6, own_r57, [])
def own_r58 : List (List ORow) := [[(0, .aload_n 0, 1), (1, .iconst 5, 2), (2, .iload_n 1, 3), (3, .invokevirtual 51, 6), (6, .aload_n 0, 7), (7, .iload_n 1, 8), (8, .iload_n 1, 9), (9, .iload_n 2, 10), (10, .invokestatic 47, 13), (13, .invokevirtual 51, 16)],
  [(16, .lsub, 17), (17, .lreturn, 18)]]
def own_m58 : OMth := (⟨"evenkeel/group/SpreadSearchMovePinLaw", "overSeen", "(Levenkeel/group/SpreadSearch;IZ)J"⟩, method_8_code, 3, (some .long), 3, own_r58, [(47, (0, 59, 0, 0)), (51, (3, 50, 0, 0))])
def own_r59 : List (List ORow) := [[(0, .iload_n 1, 1), (1, .ifCond .ne 8, 9), (4, .iload_n 0, 5), (5, .iconst 2, 6), (6, .if_icmp .ge 7, 13), (9, .iconst 2, 10), (10, .goto 4, 14), (13, .iconst 0, 14), (14, .ireturn, 15)]]
def own_m59 : OMth := (⟨"evenkeel/group/SpreadSearchMovePinLaw", "sinkArc", "(IZ)I"⟩, method_4_code, 2, (some .int), 2, own_r59, [])
def own_r60 : List (List ORow) := [[(0, .iload_n 2, 1), (1, .istore_n 3, 2), (2, .iload_n 1, 3), (3, .aload_n 0, 4), (4, .getfield 173, 7), (7, .imul, 8), (8, .istore 4, 10), (10, .iconst 0, 11), (11, .istore 5, 13), (13, .aload_n 0, 14), (14, .getfield 374, 17)],
  [(17, .ifCond .le 111, 128), (20, .iload 5, 22), (22, .aload_n 0, 23), (23, .getfield 173, 26), (26, .if_icmp .ge 102, 128), (29, .aload_n 0, 30), (30, .getfield 19, 33)],
  [(33, .iload_n 1, 34), (34, .laload, 35), (35, .lconst 0, 36), (36, .lcmp, 37), (37, .ifCond .le 91, 128), (40, .aload_n 0, 41), (41, .getfield 41, 44), (44, .iload 5, 46), (46, .iaload, 47), (47, .bipush 8, 49)],
  [(49, .if_icmp .gt 73, 122), (52, .aload_n 0, 53), (53, .getfield 32, 56), (56, .iload 5, 58), (58, .laload, 59), (59, .lconst 0, 60), (60, .lcmp, 61), (61, .ifCond .le 61, 122)],
  [(64, .aload_n 0, 65), (65, .iload 4, 67), (67, .iload 5, 69), (69, .iadd, 70), (70, .iload 5, 72), (72, .invokevirtual 400, 75), (75, .ifCond .eq 47, 122), (78, .aload_n 0, 79), (79, .iload 4, 81)],
  [(81, .iload 5, 83), (83, .iadd, 84), (84, .iload 5, 86), (86, .iload_n 1, 87), (87, .aload_n 0, 88), (88, .getfield 19, 91), (91, .iload_n 1, 92), (92, .laload, 93), (93, .invokevirtual 396, 96)],
  [(96, .aload_n 0, 97), (97, .dup, 98), (98, .getfield 374, 101), (101, .aload_n 0, 102), (102, .getfield 32, 105), (105, .iload 5, 107), (107, .laload, 108), (108, .lconst 0, 109), (109, .lcmp, 110), (110, .ifCond .ne 7, 117)],
  [(113, .iconst 1, 114), (114, .goto 4, 118), (117, .iconst 0, 118), (118, .isub, 119), (119, .putfield 374, 122), (122, .iinc 5 1, 125), (125, .goto (-112), 13)],
  [(128, .iconst 0, 129), (129, .istore 5, 131), (131, .iload 5, 133), (133, .aload_n 0, 134), (134, .getfield 173, 137), (137, .if_icmp .ge 110, 247), (140, .aload_n 0, 141), (141, .getfield 19, 144)],
  [(144, .iload_n 1, 145), (145, .laload, 146), (146, .lconst 0, 147), (147, .lcmp, 148), (148, .ifCond .le 99, 247), (151, .iload_n 2, 152), (152, .iload 5, 154), (154, .iadd, 155), (155, .aload_n 0, 156), (156, .getfield 173, 159), (159, .if_icmp .ge 10, 169)],
  [(162, .iload_n 2, 163), (163, .iload 5, 165), (165, .iadd, 166), (166, .goto 12, 178), (169, .iload_n 2, 170), (170, .iload 5, 172), (172, .iadd, 173), (173, .aload_n 0, 174), (174, .getfield 173, 177)],
  [(177, .isub, 178), (178, .istore 6, 180), (180, .aload_n 0, 181), (181, .getfield 41, 184), (184, .iload 6, 186), (186, .iaload, 187), (187, .bipush 8, 189), (189, .if_icmp .le 52, 241)],
  [(192, .aload_n 0, 193), (193, .getfield 32, 196), (196, .iload 6, 198), (198, .laload, 199), (199, .lconst 0, 200), (200, .lcmp, 201), (201, .ifCond .le 40, 241), (204, .aload_n 0, 205), (205, .iload 4, 207), (207, .iload 6, 209)],
  [(209, .iadd, 210), (210, .iload 6, 212), (212, .invokevirtual 400, 215), (215, .ifCond .eq 26, 241), (218, .aload_n 0, 219), (219, .iload 4, 221), (221, .iload 6, 223), (223, .iadd, 224)],
  [(224, .iload 6, 226), (226, .iload_n 1, 227), (227, .aload_n 0, 228), (228, .getfield 19, 231), (231, .iload_n 1, 232), (232, .laload, 233), (233, .invokevirtual 396, 236), (236, .iload 6, 238), (238, .iconst 1, 239), (239, .iadd, 240)],
  [(240, .istore_n 3, 241), (241, .iinc 5 1, 244), (244, .goto (-113), 131), (247, .iload_n 3, 248), (248, .ireturn, 249)]]
def own_m60 : OMth := (⟨"evenkeel/group/SpreadSearch", "placeInDenseColumn", "(II)I"⟩, prog_98_method_47_code, 7, (some .int), 3, own_r60, [(19, (6, 0, 16, 1)), (32, (6, 0, 20, 1)), (41, (6, 0, 23, 1)), (173, (6, 0, 50, 1)), (374, (6, 0, 65, 1)), (396, (4, 32, 0, 0))])
def own_P : OPrg := ([own_m0, own_m1, own_m2, own_m3, own_m4, own_m5, own_m6, own_m7, own_m8, own_m9, own_m10, own_m11, own_m12, own_m13, own_m14, own_m15, own_m16, own_m17, own_m18, own_m19, own_m20, own_m21, own_m22, own_m23, own_m24, own_m25, own_m26, own_m27, own_m28, own_m29, own_m30, own_m31, own_m32, own_m33, own_m34, own_m35, own_m36, own_m37, own_m38, own_m39, own_m40, own_m41, own_m42, own_m43, own_m44, own_m45, own_m46, own_m47, own_m48, own_m49, own_m50, own_m51, own_m52, own_m53, own_m54, own_m55, own_m56, own_m57, own_m58, own_m59, own_m60], [own_k0], [.int, .long])
theorem own_pd0 : parseMethodDescriptor "()V" = some ⟨[], none⟩ := by decide +kernel
theorem own_pd1 : parseMethodDescriptor "(II[I[I[I[I[I[J[J[I)Z" = some ⟨[.int, .int, (.array .int), (.array .int), (.array .int), (.array .int), (.array .int), (.array .long), (.array .long), (.array .int)], some .boolean⟩ := by decide +kernel
theorem own_pd2 : parseMethodDescriptor "(IIZ)I" = some ⟨[.int, .int, .boolean], some .int⟩ := by decide +kernel
theorem own_pd3 : parseMethodDescriptor "(III)I" = some ⟨[.int, .int, .int], some .int⟩ := by decide +kernel
theorem own_pd4 : parseMethodDescriptor "(IIIZ)I" = some ⟨[.int, .int, .int, .boolean], some .int⟩ := by decide +kernel
theorem own_pd5 : parseMethodDescriptor "(III)V" = some ⟨[.int, .int, .int], none⟩ := by decide +kernel
theorem own_pd6 : parseMethodDescriptor "([J[IIIII)V" = some ⟨[(.array .long), (.array .int), .int, .int, .int, .int], none⟩ := by decide +kernel
theorem own_pd7 : parseMethodDescriptor "(Levenkeel/group/SpreadSearch;IZ)J" = some ⟨[(.object "evenkeel/group/SpreadSearch"), .int, .boolean], some .long⟩ := by decide +kernel
theorem own_pd8 : parseMethodDescriptor "(II[I[I[I[I[I[J[J[I[Z)Z" = some ⟨[.int, .int, (.array .int), (.array .int), (.array .int), (.array .int), (.array .int), (.array .long), (.array .long), (.array .int), (.array .boolean)], some .boolean⟩ := by decide +kernel
theorem own_pd9 : parseMethodDescriptor "(II[I[I[I[I[I[I[ZZ)V" = some ⟨[.int, .int, (.array .int), (.array .int), (.array .int), (.array .int), (.array .int), (.array .int), (.array .boolean), .boolean], none⟩ := by decide +kernel
theorem own_pd10 : parseMethodDescriptor "([J[J)Z" = some ⟨[(.array .long), (.array .long)], some .boolean⟩ := by decide +kernel
theorem own_pd11 : parseMethodDescriptor "([J)Z" = some ⟨[(.array .long)], some .boolean⟩ := by decide +kernel
theorem own_pd12 : parseMethodDescriptor "(JJ)J" = some ⟨[.long, .long], some .long⟩ := by decide +kernel
theorem own_pd13 : parseMethodDescriptor "(I)V" = some ⟨[.int], none⟩ := by decide +kernel
theorem own_pd14 : parseMethodDescriptor "([JI)[J" = some ⟨[(.array .long), .int], some (.array .long)⟩ := by decide +kernel
theorem own_pd15 : parseMethodDescriptor "([JIIJ)V" = some ⟨[(.array .long), .int, .int, .long], none⟩ := by decide +kernel
theorem own_pd16 : parseMethodDescriptor "([II)[I" = some ⟨[(.array .int), .int], some (.array .int)⟩ := by decide +kernel
theorem own_pd17 : parseMethodDescriptor "([IIII)V" = some ⟨[(.array .int), .int, .int, .int], none⟩ := by decide +kernel
theorem own_pd18 : parseMethodDescriptor "(I[I)V" = some ⟨[.int, (.array .int)], none⟩ := by decide +kernel
theorem own_pd19 : parseMethodDescriptor "(IJ)Z" = some ⟨[.int, .long], some .boolean⟩ := by decide +kernel
theorem own_pd20 : parseMethodDescriptor "([J)V" = some ⟨[(.array .long)], none⟩ := by decide +kernel
theorem own_pd21 : parseMethodDescriptor "(I[JI)I" = some ⟨[.int, (.array .long), .int], some .int⟩ := by decide +kernel
theorem own_pd22 : parseMethodDescriptor "(JI)J" = some ⟨[.long, .int], some .long⟩ := by decide +kernel
theorem own_pd23 : parseMethodDescriptor "()Z" = some ⟨[], some .boolean⟩ := by decide +kernel
theorem own_pd24 : parseMethodDescriptor "(II)I" = some ⟨[.int, .int], some .int⟩ := by decide +kernel
theorem own_pd25 : parseMethodDescriptor "(III[JI)I" = some ⟨[.int, .int, .int, (.array .long), .int], some .int⟩ := by decide +kernel
theorem own_pd26 : parseMethodDescriptor "(IIIJ)V" = some ⟨[.int, .int, .int, .long], none⟩ := by decide +kernel
theorem own_pd27 : parseMethodDescriptor "(IJ)V" = some ⟨[.int, .long], none⟩ := by decide +kernel
theorem own_pd28 : parseMethodDescriptor "(Z)V" = some ⟨[.boolean], none⟩ := by decide +kernel
theorem own_pd29 : parseMethodDescriptor "(I[II)I" = some ⟨[.int, (.array .int), .int], some .int⟩ := by decide +kernel
theorem own_pd30 : parseMethodDescriptor "(II)J" = some ⟨[.int, .int], some .long⟩ := by decide +kernel
theorem own_pd31 : parseMethodDescriptor "(II[II)I" = some ⟨[.int, .int, (.array .int), .int], some .int⟩ := by decide +kernel
theorem own_pd32 : parseMethodDescriptor "(I)I" = some ⟨[.int], some .int⟩ := by decide +kernel
theorem own_pd33 : parseMethodDescriptor "(I)Z" = some ⟨[.int], some .boolean⟩ := by decide +kernel
theorem own_pd34 : parseMethodDescriptor "(IZ)I" = some ⟨[.int, .boolean], some .int⟩ := by decide +kernel
theorem own_pf21 : plainFor ⟨"java/lang/Math", "min", "(II)I"⟩ = true := by decide +kernel
theorem own_pf33 : plainFor ⟨"java/lang/Math", "max", "(JJ)J"⟩ = true := by decide +kernel
theorem own_pf38 : plainFor ⟨"java/lang/Math", "min", "(JJ)J"⟩ = true := by decide +kernel
theorem own_pn0 : plainName "evenkeel/group/SpreadSearchMovePinLaw" = true := by first | (simp [plainName, overriddenIn]; done) | decide +kernel
theorem own_pn1 : plainName "evenkeel/group/SpreadSearch" = true := by first | (simp [plainName, overriddenIn]; done) | decide +kernel
theorem own_pn2 : plainName "evenkeel/group/MinCostFlow" = true := by first | (simp [plainName, overriddenIn]; done) | decide +kernel
theorem own_pn3 : plainName "evenkeel/group/Scratch" = true := by first | (simp [plainName, overriddenIn]; done) | decide +kernel
theorem own_pn4 : plainName "java/util/Arrays" = true := by first | (simp [plainName, overriddenIn]; done) | decide +kernel
theorem own_rk0 : ∀ r ∈ own_r0, ∀ x ∈ r, own_okI code x = true := by decide +kernel
theorem own_rk1 : ∀ r ∈ own_r1, ∀ x ∈ r, own_okI prog_98_method_1_code x = true := by decide +kernel
theorem own_rk2 : ∀ r ∈ own_r2, ∀ x ∈ r, own_okI prog_76_method_1_code x = true := by decide +kernel
theorem own_rk3 : ∀ r ∈ own_r3, ∀ x ∈ r, own_okI prog_98_method_6_code x = true := by decide +kernel
theorem own_rk4 : ∀ r ∈ own_r4, ∀ x ∈ r, own_okI prog_98_method_7_code x = true := by decide +kernel
theorem own_rk5 : ∀ r ∈ own_r5, ∀ x ∈ r, own_okI prog_98_method_20_code x = true := by decide +kernel
theorem own_rk6 : ∀ r ∈ own_r6, ∀ x ∈ r, own_okI prog_76_method_2_code x = true := by decide +kernel
theorem own_rk7 : ∀ r ∈ own_r7, ∀ x ∈ r, own_okI prog_95_method_3_code x = true := by decide +kernel
theorem own_rk8 : ∀ r ∈ own_r8, ∀ x ∈ r, own_okI jdk_65_method_102_code x = true := by decide +kernel
theorem own_rk9 : ∀ r ∈ own_r9, ∀ x ∈ r, own_okI jdk_65_method_30_code x = true := by decide +kernel
theorem own_rk10 : ∀ r ∈ own_r10, ∀ x ∈ r, own_okI prog_98_method_29_code x = true := by decide +kernel
theorem own_rk11 : ∀ r ∈ own_r11, ∀ x ∈ r, own_okI prog_98_method_30_code x = true := by decide +kernel
theorem own_rk12 : ∀ r ∈ own_r12, ∀ x ∈ r, own_okI jdk_65_method_104_code x = true := by decide +kernel
theorem own_rk13 : ∀ r ∈ own_r13, ∀ x ∈ r, own_okI prog_98_method_31_code x = true := by decide +kernel
theorem own_rk14 : ∀ r ∈ own_r14, ∀ x ∈ r, own_okI prog_98_method_15_code x = true := by decide +kernel
theorem own_rk15 : ∀ r ∈ own_r15, ∀ x ∈ r, own_okI prog_98_method_37_code x = true := by decide +kernel
theorem own_rk16 : ∀ r ∈ own_r16, ∀ x ∈ r, own_okI prog_98_method_38_code x = true := by decide +kernel
theorem own_rk17 : ∀ r ∈ own_r17, ∀ x ∈ r, own_okI prog_98_method_41_code x = true := by decide +kernel
theorem own_rk18 : ∀ r ∈ own_r18, ∀ x ∈ r, own_okI prog_98_method_42_code x = true := by decide +kernel
theorem own_rk19 : ∀ r ∈ own_r19, ∀ x ∈ r, own_okI prog_95_method_2_code x = true := by decide +kernel
theorem own_rk20 : ∀ r ∈ own_r20, ∀ x ∈ r, own_okI prog_98_method_43_code x = true := by decide +kernel
theorem own_rk21 : ∀ r ∈ own_r21, ∀ x ∈ r, own_okI jdk_29_method_69_code x = true := by decide +kernel
theorem own_rk22 : ∀ r ∈ own_r22, ∀ x ∈ r, own_okI prog_98_method_44_code x = true := by decide +kernel
theorem own_rk23 : ∀ r ∈ own_r23, ∀ x ∈ r, own_okI prog_98_method_45_code x = true := by decide +kernel
theorem own_rk24 : ∀ r ∈ own_r24, ∀ x ∈ r, own_okI prog_98_method_46_code x = true := by decide +kernel
theorem own_rk25 : ∀ r ∈ own_r25, ∀ x ∈ r, own_okI prog_98_method_2_code x = true := by decide +kernel
theorem own_rk26 : ∀ r ∈ own_r26, ∀ x ∈ r, own_okI prog_98_method_50_code x = true := by decide +kernel
theorem own_rk27 : ∀ r ∈ own_r27, ∀ x ∈ r, own_okI prog_98_method_51_code x = true := by decide +kernel
theorem own_rk28 : ∀ r ∈ own_r28, ∀ x ∈ r, own_okI prog_98_method_55_code x = true := by decide +kernel
theorem own_rk29 : ∀ r ∈ own_r29, ∀ x ∈ r, own_okI prog_98_method_52_code x = true := by decide +kernel
theorem own_rk30 : ∀ r ∈ own_r30, ∀ x ∈ r, own_okI prog_98_method_54_code x = true := by decide +kernel
theorem own_rk31 : ∀ r ∈ own_r31, ∀ x ∈ r, own_okI prog_98_method_53_code x = true := by decide +kernel
theorem own_rk32 : ∀ r ∈ own_r32, ∀ x ∈ r, own_okI prog_98_method_49_code x = true := by decide +kernel
theorem own_rk33 : ∀ r ∈ own_r33, ∀ x ∈ r, own_okI jdk_29_method_66_code x = true := by decide +kernel
theorem own_rk34 : ∀ r ∈ own_r34, ∀ x ∈ r, own_okI prog_98_method_56_code x = true := by decide +kernel
theorem own_rk35 : ∀ r ∈ own_r35, ∀ x ∈ r, own_okI prog_98_method_59_code x = true := by decide +kernel
theorem own_rk36 : ∀ r ∈ own_r36, ∀ x ∈ r, own_okI prog_98_method_57_code x = true := by decide +kernel
theorem own_rk37 : ∀ r ∈ own_r37, ∀ x ∈ r, own_okI prog_98_method_58_code x = true := by decide +kernel
theorem own_rk38 : ∀ r ∈ own_r38, ∀ x ∈ r, own_okI jdk_29_method_70_code x = true := by decide +kernel
theorem own_rk39 : ∀ r ∈ own_r39, ∀ x ∈ r, own_okI prog_98_method_60_code x = true := by decide +kernel
theorem own_rk40 : ∀ r ∈ own_r40, ∀ x ∈ r, own_okI prog_76_method_12_code x = true := by decide +kernel
theorem own_rk41 : ∀ r ∈ own_r41, ∀ x ∈ r, own_okI prog_76_method_13_code x = true := by decide +kernel
theorem own_rk42 : ∀ r ∈ own_r42, ∀ x ∈ r, own_okI prog_98_method_78_code x = true := by decide +kernel
theorem own_rk43 : ∀ r ∈ own_r43, ∀ x ∈ r, own_okI prog_76_method_4_code x = true := by decide +kernel
theorem own_rk44 : ∀ r ∈ own_r44, ∀ x ∈ r, own_okI prog_76_method_16_code x = true := by decide +kernel
theorem own_rk45 : ∀ r ∈ own_r45, ∀ x ∈ r, own_okI prog_76_method_17_code x = true := by decide +kernel
theorem own_rk46 : ∀ r ∈ own_r46, ∀ x ∈ r, own_okI prog_98_method_69_code x = true := by decide +kernel
theorem own_rk47 : ∀ r ∈ own_r47, ∀ x ∈ r, own_okI prog_76_method_18_code x = true := by decide +kernel
theorem own_rk48 : ∀ r ∈ own_r48, ∀ x ∈ r, own_okI prog_98_method_76_code x = true := by decide +kernel
theorem own_rk49 : ∀ r ∈ own_r49, ∀ x ∈ r, own_okI prog_98_method_77_code x = true := by decide +kernel
theorem own_rk50 : ∀ r ∈ own_r50, ∀ x ∈ r, own_okI prog_98_method_81_code x = true := by decide +kernel
theorem own_rk51 : ∀ r ∈ own_r51, ∀ x ∈ r, own_okI prog_76_method_20_code x = true := by decide +kernel
theorem own_rk52 : ∀ r ∈ own_r52, ∀ x ∈ r, own_okI prog_76_method_21_code x = true := by decide +kernel
theorem own_rk53 : ∀ r ∈ own_r53, ∀ x ∈ r, own_okI method_3_code x = true := by decide +kernel
theorem own_rk54 : ∀ r ∈ own_r54, ∀ x ∈ r, own_okI method_5_code x = true := by decide +kernel
theorem own_rk55 : ∀ r ∈ own_r55, ∀ x ∈ r, own_okI method_6_code x = true := by decide +kernel
theorem own_rk56 : ∀ r ∈ own_r56, ∀ x ∈ r, own_okI prog_98_method_82_code x = true := by decide +kernel
theorem own_rk57 : ∀ r ∈ own_r57, ∀ x ∈ r, own_okI method_7_code x = true := by decide +kernel
theorem own_rk58 : ∀ r ∈ own_r58, ∀ x ∈ r, own_okI method_8_code x = true := by decide +kernel
theorem own_rk59 : ∀ r ∈ own_r59, ∀ x ∈ r, own_okI method_4_code x = true := by decide +kernel
theorem own_rk60 : ∀ r ∈ own_r60, ∀ x ∈ r, own_okI prog_98_method_47_code x = true := by decide +kernel
abbrev own_hw (Z : State) (a0 : Array Value) : Prop := ∀ d ∈ Jvm.Cond.code x code maxLocals ret :: tables_1, d.before a0 Z = true
set_option maxRecDepth 65536 in
theorem own_g0 {Z : State} {a0 : Array Value} (hw : own_hw Z a0) : own_okM Z a0 own_P own_m0 := ⟨plainFor_of_name own_pn0, (hw _ (List.mem_of_getElem? (i := 0) rfl)), own_rk0, List.forall_mem_cons.mpr ⟨own_e8 (by decide) (hw _ (List.mem_of_getElem? (i := 1) rfl)),
    List.forall_mem_cons.mpr ⟨own_e9 (by decide) (hw _ (List.mem_of_getElem? (i := 4) rfl)),
    List.forall_mem_cons.mpr ⟨own_e7 (c := own_k0) rfl (hw _ (List.mem_of_getElem? (i := 5) rfl)),
    List.forall_mem_cons.mpr ⟨own_e1 (mj := own_m1) rfl rfl rfl (hw _ (List.mem_of_getElem? (i := 8) rfl)) (hw _ (List.mem_of_getElem? (i := 9) rfl)) (hw _ (List.mem_of_getElem? (i := 7) rfl)) ⟨by decide, by decide⟩ ⟨_, _, own_pd0, rfl⟩,
    List.forall_mem_cons.mpr ⟨own_e3 (mj := own_m3) (c := own_k0) (v := ⟨"evenkeel/group/SpreadSearch", "spreadAtLevels", "(II[I[I[I[I[I[J[J[I)Z"⟩) rfl rfl rfl (hw _ (List.mem_of_getElem? (i := 119) rfl)) (hw _ (List.mem_of_getElem? (i := 120) rfl)) (hw _ (List.mem_of_getElem? (i := 122) rfl)) (hw _ (List.mem_of_getElem? (i := 121) rfl)) (hw _ (List.mem_of_getElem? (i := 7) rfl)) (fun s hZ => notFace_of_selects (args := #[]) (mvT hZ (hw _ (List.mem_of_getElem? (i := 122) rfl)))) ⟨by decide, by decide⟩ ⟨_, _, own_pd1, rfl⟩,
    List.forall_mem_cons.mpr ⟨own_e9 (by decide) (hw _ (List.mem_of_getElem? (i := 391) rfl)),
    List.forall_mem_cons.mpr ⟨own_e0 (mj := own_m53) rfl (hw _ (List.mem_of_getElem? (i := 392) rfl)) (hw _ (List.mem_of_getElem? (i := 393) rfl)) (hw _ (List.mem_of_getElem? (i := 394) rfl)) ⟨by decide, by decide⟩ ⟨_, _, own_pd2, rfl⟩,
    List.forall_mem_cons.mpr ⟨own_e0 (mj := own_m54) rfl (hw _ (List.mem_of_getElem? (i := 396) rfl)) (hw _ (List.mem_of_getElem? (i := 397) rfl)) (hw _ (List.mem_of_getElem? (i := 394) rfl)) ⟨by decide, by decide⟩ ⟨_, _, own_pd3, rfl⟩,
    List.forall_mem_cons.mpr ⟨own_e0 (mj := own_m55) rfl (hw _ (List.mem_of_getElem? (i := 399) rfl)) (hw _ (List.mem_of_getElem? (i := 400) rfl)) (hw _ (List.mem_of_getElem? (i := 394) rfl)) ⟨by decide, by decide⟩ ⟨_, _, own_pd4, rfl⟩,
    List.forall_mem_cons.mpr ⟨own_e3 (mj := own_m56) (c := own_k0) (v := ⟨"evenkeel/group/SpreadSearch", "move", "(III)V"⟩) rfl rfl rfl (hw _ (List.mem_of_getElem? (i := 402) rfl)) (hw _ (List.mem_of_getElem? (i := 403) rfl)) (hw _ (List.mem_of_getElem? (i := 405) rfl)) (hw _ (List.mem_of_getElem? (i := 404) rfl)) (hw _ (List.mem_of_getElem? (i := 7) rfl)) (fun s hZ => own_nf (y := ⟨"evenkeel/group/SpreadSearch", "move", "(III)V"⟩) (y' := ⟨"evenkeel/group/SpreadSearch", "spreadAtLevels", "(II[I[I[I[I[I[J[J[I)Z"⟩) rfl (mvT (args := #[]) hZ (hw _ (List.mem_of_getElem? (i := 122) rfl)))) ⟨by decide, by decide⟩ ⟨_, _, own_pd5, rfl⟩,
    List.forall_mem_cons.mpr ⟨own_e0 (mj := own_m57) rfl (hw _ (List.mem_of_getElem? (i := 407) rfl)) (hw _ (List.mem_of_getElem? (i := 408) rfl)) (hw _ (List.mem_of_getElem? (i := 394) rfl)) ⟨by decide, by decide⟩ ⟨_, _, own_pd6, rfl⟩,
    List.forall_mem_cons.mpr ⟨own_e0 (mj := own_m58) rfl (hw _ (List.mem_of_getElem? (i := 410) rfl)) (hw _ (List.mem_of_getElem? (i := 411) rfl)) (hw _ (List.mem_of_getElem? (i := 394) rfl)) ⟨by decide, by decide⟩ ⟨_, _, own_pd7, rfl⟩,
    List.forall_mem_nil _⟩⟩⟩⟩⟩⟩⟩⟩⟩⟩⟩⟩⟩
set_option maxRecDepth 65536 in
theorem own_g1 {Z : State} {a0 : Array Value} (hw : own_hw Z a0) : own_okM Z a0 own_P own_m1 := ⟨plainFor_of_name own_pn1, (hw _ (List.mem_of_getElem? (i := 10) rfl)), own_rk1, List.forall_mem_cons.mpr ⟨own_e1 (mj := own_m2) rfl rfl rfl (hw _ (List.mem_of_getElem? (i := 11) rfl)) (hw _ (List.mem_of_getElem? (i := 12) rfl)) (hw _ (List.mem_of_getElem? (i := 14) rfl)) ⟨by decide, by decide⟩ ⟨_, _, own_pd0, rfl⟩,
    List.forall_mem_cons.mpr ⟨own_e6 (c := own_k0) (R0 := "evenkeel/group/SpreadSearch") rfl rfl (hw _ (List.mem_of_getElem? (i := 45) rfl)) Via.refl (fun _ => Or.inl (hw _ (List.mem_of_getElem? (i := 46) rfl))),
    List.forall_mem_cons.mpr ⟨own_e6 (c := own_k0) (R0 := "evenkeel/group/SpreadSearch") rfl rfl (hw _ (List.mem_of_getElem? (i := 47) rfl)) Via.refl (fun _ => Or.inl (hw _ (List.mem_of_getElem? (i := 48) rfl))),
    List.forall_mem_cons.mpr ⟨own_e6 (c := own_k0) (R0 := "evenkeel/group/SpreadSearch") rfl rfl (hw _ (List.mem_of_getElem? (i := 49) rfl)) Via.refl (fun _ => Or.inl (hw _ (List.mem_of_getElem? (i := 50) rfl))),
    List.forall_mem_cons.mpr ⟨own_e6 (c := own_k0) (R0 := "evenkeel/group/SpreadSearch") rfl rfl (hw _ (List.mem_of_getElem? (i := 51) rfl)) Via.refl (fun _ => Or.inl (hw _ (List.mem_of_getElem? (i := 52) rfl))),
    List.forall_mem_cons.mpr ⟨own_e6 (c := own_k0) (R0 := "evenkeel/group/SpreadSearch") rfl rfl (hw _ (List.mem_of_getElem? (i := 53) rfl)) Via.refl (fun _ => Or.inl (hw _ (List.mem_of_getElem? (i := 54) rfl))),
    List.forall_mem_cons.mpr ⟨own_e6 (c := own_k0) (R0 := "evenkeel/group/SpreadSearch") rfl rfl (hw _ (List.mem_of_getElem? (i := 55) rfl)) Via.refl (fun _ => Or.inl (hw _ (List.mem_of_getElem? (i := 56) rfl))),
    List.forall_mem_cons.mpr ⟨own_e6 (c := own_k0) (R0 := "evenkeel/group/SpreadSearch") rfl rfl (hw _ (List.mem_of_getElem? (i := 57) rfl)) Via.refl (fun _ => Or.inl (hw _ (List.mem_of_getElem? (i := 58) rfl))),
    List.forall_mem_cons.mpr ⟨own_e6 (c := own_k0) (R0 := "evenkeel/group/SpreadSearch") rfl rfl (hw _ (List.mem_of_getElem? (i := 59) rfl)) Via.refl (fun _ => Or.inl (hw _ (List.mem_of_getElem? (i := 60) rfl))),
    List.forall_mem_cons.mpr ⟨own_e6 (c := own_k0) (R0 := "evenkeel/group/SpreadSearch") rfl rfl (hw _ (List.mem_of_getElem? (i := 61) rfl)) Via.refl (fun _ => Or.inl (hw _ (List.mem_of_getElem? (i := 62) rfl))),
    List.forall_mem_cons.mpr ⟨own_e6 (c := own_k0) (R0 := "evenkeel/group/SpreadSearch") rfl rfl (hw _ (List.mem_of_getElem? (i := 63) rfl)) Via.refl (fun _ => Or.inl (hw _ (List.mem_of_getElem? (i := 64) rfl))),
    List.forall_mem_cons.mpr ⟨own_e6 (c := own_k0) (R0 := "evenkeel/group/SpreadSearch") rfl rfl (hw _ (List.mem_of_getElem? (i := 65) rfl)) Via.refl (fun _ => Or.inl (hw _ (List.mem_of_getElem? (i := 66) rfl))),
    List.forall_mem_cons.mpr ⟨own_e6 (c := own_k0) (R0 := "evenkeel/group/SpreadSearch") rfl rfl (hw _ (List.mem_of_getElem? (i := 67) rfl)) Via.refl (fun _ => Or.inr ⟨(hw _ (List.mem_of_getElem? (i := 68) rfl)), rfl, rfl⟩),
    List.forall_mem_cons.mpr ⟨own_e6 (c := own_k0) (R0 := "evenkeel/group/SpreadSearch") rfl rfl (hw _ (List.mem_of_getElem? (i := 69) rfl)) Via.refl (fun _ => Or.inr ⟨(hw _ (List.mem_of_getElem? (i := 70) rfl)), rfl, rfl⟩),
    List.forall_mem_cons.mpr ⟨own_e6 (c := own_k0) (R0 := "evenkeel/group/SpreadSearch") rfl rfl (hw _ (List.mem_of_getElem? (i := 71) rfl)) Via.refl (fun _ => Or.inr ⟨(hw _ (List.mem_of_getElem? (i := 72) rfl)), rfl, rfl⟩),
    List.forall_mem_cons.mpr ⟨own_e6 (c := own_k0) (R0 := "evenkeel/group/SpreadSearch") rfl rfl (hw _ (List.mem_of_getElem? (i := 73) rfl)) Via.refl (fun _ => Or.inr ⟨(hw _ (List.mem_of_getElem? (i := 74) rfl)), rfl, rfl⟩),
    List.forall_mem_cons.mpr ⟨own_e6 (c := own_k0) (R0 := "evenkeel/group/SpreadSearch") rfl rfl (hw _ (List.mem_of_getElem? (i := 75) rfl)) Via.refl (fun _ => Or.inl (hw _ (List.mem_of_getElem? (i := 76) rfl))),
    List.forall_mem_cons.mpr ⟨own_e6 (c := own_k0) (R0 := "evenkeel/group/SpreadSearch") rfl rfl (hw _ (List.mem_of_getElem? (i := 77) rfl)) Via.refl (fun _ => Or.inl (hw _ (List.mem_of_getElem? (i := 78) rfl))),
    List.forall_mem_cons.mpr ⟨own_e6 (c := own_k0) (R0 := "evenkeel/group/SpreadSearch") rfl rfl (hw _ (List.mem_of_getElem? (i := 79) rfl)) Via.refl (fun _ => Or.inl (hw _ (List.mem_of_getElem? (i := 80) rfl))),
    List.forall_mem_cons.mpr ⟨own_e6 (c := own_k0) (R0 := "evenkeel/group/SpreadSearch") rfl rfl (hw _ (List.mem_of_getElem? (i := 81) rfl)) Via.refl (fun _ => Or.inl (hw _ (List.mem_of_getElem? (i := 82) rfl))),
    List.forall_mem_cons.mpr ⟨own_e6 (c := own_k0) (R0 := "evenkeel/group/SpreadSearch") rfl rfl (hw _ (List.mem_of_getElem? (i := 83) rfl)) Via.refl (fun _ => Or.inl (hw _ (List.mem_of_getElem? (i := 84) rfl))),
    List.forall_mem_cons.mpr ⟨own_e6 (c := own_k0) (R0 := "evenkeel/group/SpreadSearch") rfl rfl (hw _ (List.mem_of_getElem? (i := 85) rfl)) Via.refl (fun _ => Or.inl (hw _ (List.mem_of_getElem? (i := 86) rfl))),
    List.forall_mem_cons.mpr ⟨own_e6 (c := own_k0) (R0 := "evenkeel/group/SpreadSearch") rfl rfl (hw _ (List.mem_of_getElem? (i := 87) rfl)) Via.refl (fun _ => Or.inl (hw _ (List.mem_of_getElem? (i := 88) rfl))),
    List.forall_mem_cons.mpr ⟨own_e6 (c := own_k0) (R0 := "evenkeel/group/SpreadSearch") rfl rfl (hw _ (List.mem_of_getElem? (i := 89) rfl)) Via.refl (fun _ => Or.inl (hw _ (List.mem_of_getElem? (i := 90) rfl))),
    List.forall_mem_cons.mpr ⟨own_e6 (c := own_k0) (R0 := "evenkeel/group/SpreadSearch") rfl rfl (hw _ (List.mem_of_getElem? (i := 91) rfl)) Via.refl (fun _ => Or.inl (hw _ (List.mem_of_getElem? (i := 92) rfl))),
    List.forall_mem_cons.mpr ⟨own_e6 (c := own_k0) (R0 := "evenkeel/group/SpreadSearch") rfl rfl (hw _ (List.mem_of_getElem? (i := 93) rfl)) Via.refl (fun _ => Or.inl (hw _ (List.mem_of_getElem? (i := 94) rfl))),
    List.forall_mem_cons.mpr ⟨own_e6 (c := own_k0) (R0 := "evenkeel/group/SpreadSearch") rfl rfl (hw _ (List.mem_of_getElem? (i := 95) rfl)) Via.refl (fun _ => Or.inl (hw _ (List.mem_of_getElem? (i := 96) rfl))),
    List.forall_mem_cons.mpr ⟨own_e6 (c := own_k0) (R0 := "evenkeel/group/SpreadSearch") rfl rfl (hw _ (List.mem_of_getElem? (i := 97) rfl)) Via.refl (fun _ => Or.inl (hw _ (List.mem_of_getElem? (i := 98) rfl))),
    List.forall_mem_cons.mpr ⟨own_e6 (c := own_k0) (R0 := "evenkeel/group/SpreadSearch") rfl rfl (hw _ (List.mem_of_getElem? (i := 99) rfl)) Via.refl (fun _ => Or.inl (hw _ (List.mem_of_getElem? (i := 100) rfl))),
    List.forall_mem_cons.mpr ⟨own_e6 (c := own_k0) (R0 := "evenkeel/group/SpreadSearch") rfl rfl (hw _ (List.mem_of_getElem? (i := 101) rfl)) Via.refl (fun _ => Or.inl (hw _ (List.mem_of_getElem? (i := 102) rfl))),
    List.forall_mem_cons.mpr ⟨own_e6 (c := own_k0) (R0 := "evenkeel/group/SpreadSearch") rfl rfl (hw _ (List.mem_of_getElem? (i := 103) rfl)) Via.refl (fun _ => Or.inl (hw _ (List.mem_of_getElem? (i := 104) rfl))),
    List.forall_mem_cons.mpr ⟨own_e6 (c := own_k0) (R0 := "evenkeel/group/SpreadSearch") rfl rfl (hw _ (List.mem_of_getElem? (i := 105) rfl)) Via.refl (fun _ => Or.inl (hw _ (List.mem_of_getElem? (i := 106) rfl))),
    List.forall_mem_cons.mpr ⟨own_e6 (c := own_k0) (R0 := "evenkeel/group/SpreadSearch") rfl rfl (hw _ (List.mem_of_getElem? (i := 107) rfl)) Via.refl (fun _ => Or.inl (hw _ (List.mem_of_getElem? (i := 108) rfl))),
    List.forall_mem_cons.mpr ⟨own_e6 (c := own_k0) (R0 := "evenkeel/group/SpreadSearch") rfl rfl (hw _ (List.mem_of_getElem? (i := 109) rfl)) Via.refl (fun _ => Or.inl (hw _ (List.mem_of_getElem? (i := 110) rfl))),
    List.forall_mem_cons.mpr ⟨own_e6 (c := own_k0) (R0 := "evenkeel/group/SpreadSearch") rfl rfl (hw _ (List.mem_of_getElem? (i := 111) rfl)) Via.refl (fun _ => Or.inl (hw _ (List.mem_of_getElem? (i := 112) rfl))),
    List.forall_mem_cons.mpr ⟨own_e6 (c := own_k0) (R0 := "evenkeel/group/SpreadSearch") rfl rfl (hw _ (List.mem_of_getElem? (i := 113) rfl)) Via.refl (fun _ => Or.inl (hw _ (List.mem_of_getElem? (i := 114) rfl))),
    List.forall_mem_cons.mpr ⟨own_e6 (c := own_k0) (R0 := "evenkeel/group/SpreadSearch") rfl rfl (hw _ (List.mem_of_getElem? (i := 115) rfl)) Via.refl (fun _ => Or.inl (hw _ (List.mem_of_getElem? (i := 116) rfl))),
    List.forall_mem_cons.mpr ⟨own_e6 (c := own_k0) (R0 := "evenkeel/group/SpreadSearch") rfl rfl (hw _ (List.mem_of_getElem? (i := 117) rfl)) Via.refl (fun _ => Or.inl (hw _ (List.mem_of_getElem? (i := 118) rfl))),
    List.forall_mem_nil _⟩⟩⟩⟩⟩⟩⟩⟩⟩⟩⟩⟩⟩⟩⟩⟩⟩⟩⟩⟩⟩⟩⟩⟩⟩⟩⟩⟩⟩⟩⟩⟩⟩⟩⟩⟩⟩⟩⟩
set_option maxRecDepth 65536 in
theorem own_g2 {Z : State} {a0 : Array Value} (hw : own_hw Z a0) : own_okM Z a0 own_P own_m2 := ⟨plainFor_of_name own_pn2, (hw _ (List.mem_of_getElem? (i := 15) rfl)), own_rk2, List.forall_mem_cons.mpr ⟨own_e2 (hw _ (List.mem_of_getElem? (i := 16) rfl)) (hw _ (List.mem_of_getElem? (i := 17) rfl)) (hw _ (List.mem_of_getElem? (i := 18) rfl)),
    List.forall_mem_cons.mpr ⟨own_e6 (c := own_k0) (R0 := "evenkeel/group/MinCostFlow") rfl rfl (hw _ (List.mem_of_getElem? (i := 19) rfl)) Via.refl (fun _ => Or.inl (hw _ (List.mem_of_getElem? (i := 20) rfl))),
    List.forall_mem_cons.mpr ⟨own_e6 (c := own_k0) (R0 := "evenkeel/group/MinCostFlow") rfl rfl (hw _ (List.mem_of_getElem? (i := 21) rfl)) Via.refl (fun _ => Or.inl (hw _ (List.mem_of_getElem? (i := 22) rfl))),
    List.forall_mem_cons.mpr ⟨own_e6 (c := own_k0) (R0 := "evenkeel/group/MinCostFlow") rfl rfl (hw _ (List.mem_of_getElem? (i := 23) rfl)) Via.refl (fun _ => Or.inl (hw _ (List.mem_of_getElem? (i := 24) rfl))),
    List.forall_mem_cons.mpr ⟨own_e6 (c := own_k0) (R0 := "evenkeel/group/MinCostFlow") rfl rfl (hw _ (List.mem_of_getElem? (i := 25) rfl)) Via.refl (fun _ => Or.inl (hw _ (List.mem_of_getElem? (i := 26) rfl))),
    List.forall_mem_cons.mpr ⟨own_e6 (c := own_k0) (R0 := "evenkeel/group/MinCostFlow") rfl rfl (hw _ (List.mem_of_getElem? (i := 27) rfl)) Via.refl (fun _ => Or.inl (hw _ (List.mem_of_getElem? (i := 28) rfl))),
    List.forall_mem_cons.mpr ⟨own_e6 (c := own_k0) (R0 := "evenkeel/group/MinCostFlow") rfl rfl (hw _ (List.mem_of_getElem? (i := 29) rfl)) Via.refl (fun _ => Or.inl (hw _ (List.mem_of_getElem? (i := 30) rfl))),
    List.forall_mem_cons.mpr ⟨own_e6 (c := own_k0) (R0 := "evenkeel/group/MinCostFlow") rfl rfl (hw _ (List.mem_of_getElem? (i := 31) rfl)) Via.refl (fun _ => Or.inl (hw _ (List.mem_of_getElem? (i := 32) rfl))),
    List.forall_mem_cons.mpr ⟨own_e6 (c := own_k0) (R0 := "evenkeel/group/MinCostFlow") rfl rfl (hw _ (List.mem_of_getElem? (i := 33) rfl)) Via.refl (fun _ => Or.inl (hw _ (List.mem_of_getElem? (i := 34) rfl))),
    List.forall_mem_cons.mpr ⟨own_e6 (c := own_k0) (R0 := "evenkeel/group/MinCostFlow") rfl rfl (hw _ (List.mem_of_getElem? (i := 35) rfl)) Via.refl (fun _ => Or.inl (hw _ (List.mem_of_getElem? (i := 36) rfl))),
    List.forall_mem_cons.mpr ⟨own_e6 (c := own_k0) (R0 := "evenkeel/group/MinCostFlow") rfl rfl (hw _ (List.mem_of_getElem? (i := 37) rfl)) Via.refl (fun _ => Or.inl (hw _ (List.mem_of_getElem? (i := 38) rfl))),
    List.forall_mem_cons.mpr ⟨own_e6 (c := own_k0) (R0 := "evenkeel/group/MinCostFlow") rfl rfl (hw _ (List.mem_of_getElem? (i := 39) rfl)) Via.refl (fun _ => Or.inl (hw _ (List.mem_of_getElem? (i := 40) rfl))),
    List.forall_mem_cons.mpr ⟨own_e6 (c := own_k0) (R0 := "evenkeel/group/MinCostFlow") rfl rfl (hw _ (List.mem_of_getElem? (i := 41) rfl)) Via.refl (fun _ => Or.inl (hw _ (List.mem_of_getElem? (i := 42) rfl))),
    List.forall_mem_cons.mpr ⟨own_e6 (c := own_k0) (R0 := "evenkeel/group/MinCostFlow") rfl rfl (hw _ (List.mem_of_getElem? (i := 43) rfl)) Via.refl (fun _ => Or.inl (hw _ (List.mem_of_getElem? (i := 44) rfl))),
    List.forall_mem_nil _⟩⟩⟩⟩⟩⟩⟩⟩⟩⟩⟩⟩⟩⟩⟩
set_option maxRecDepth 65536 in
theorem own_g3 {Z : State} {a0 : Array Value} (hw : own_hw Z a0) : own_okM Z a0 own_P own_m3 := ⟨plainFor_of_name own_pn1, (hw _ (List.mem_of_getElem? (i := 123) rfl)), own_rk3, List.forall_mem_cons.mpr ⟨own_e4 (mj := own_m4) rfl (hw _ (List.mem_of_getElem? (i := 124) rfl)) (hw _ (List.mem_of_getElem? (i := 125) rfl)) (hw _ (List.mem_of_getElem? (i := 126) rfl)) (fun s hZ => own_nf (y := ⟨"evenkeel/group/SpreadSearch", "spreadAtLevels", "(II[I[I[I[I[I[J[J[I[Z)Z"⟩) (y' := ⟨"evenkeel/group/SpreadSearch", "spreadAtLevels", "(II[I[I[I[I[I[J[J[I)Z"⟩) rfl (mvT (args := #[]) hZ (hw _ (List.mem_of_getElem? (i := 122) rfl)))) (hw _ (List.mem_of_getElem? (i := 7) rfl)) ⟨by decide, by decide⟩ ⟨_, _, own_pd8, rfl⟩,
    List.forall_mem_nil _⟩⟩
set_option maxRecDepth 65536 in
theorem own_g4 {Z : State} {a0 : Array Value} (hw : own_hw Z a0) : own_okM Z a0 own_P own_m4 := ⟨plainFor_of_name own_pn1, (hw _ (List.mem_of_getElem? (i := 127) rfl)), own_rk4, List.forall_mem_cons.mpr ⟨own_e6 (c := own_k0) (R0 := "evenkeel/group/SpreadSearch") rfl rfl (hw _ (List.mem_of_getElem? (i := 51) rfl)) Via.refl (fun _ => Or.inl (hw _ (List.mem_of_getElem? (i := 52) rfl))),
    List.forall_mem_cons.mpr ⟨own_e4 (mj := own_m5) rfl (hw _ (List.mem_of_getElem? (i := 128) rfl)) (hw _ (List.mem_of_getElem? (i := 129) rfl)) (hw _ (List.mem_of_getElem? (i := 130) rfl)) (fun s hZ => own_nf (y := ⟨"evenkeel/group/SpreadSearch", "setUp", "(II[I[I[I[I[I[I[ZZ)V"⟩) (y' := ⟨"evenkeel/group/SpreadSearch", "spreadAtLevels", "(II[I[I[I[I[I[J[J[I)Z"⟩) rfl (mvT (args := #[]) hZ (hw _ (List.mem_of_getElem? (i := 122) rfl)))) (hw _ (List.mem_of_getElem? (i := 7) rfl)) ⟨by decide, by decide⟩ ⟨_, _, own_pd9, rfl⟩,
    List.forall_mem_cons.mpr ⟨own_e4 (mj := own_m14) rfl (hw _ (List.mem_of_getElem? (i := 196) rfl)) (hw _ (List.mem_of_getElem? (i := 197) rfl)) (hw _ (List.mem_of_getElem? (i := 198) rfl)) (fun s hZ => own_nf (y := ⟨"evenkeel/group/SpreadSearch", "balances", "([J[J)Z"⟩) (y' := ⟨"evenkeel/group/SpreadSearch", "spreadAtLevels", "(II[I[I[I[I[I[J[J[I)Z"⟩) rfl (mvT (args := #[]) hZ (hw _ (List.mem_of_getElem? (i := 122) rfl)))) (hw _ (List.mem_of_getElem? (i := 7) rfl)) ⟨by decide, by decide⟩ ⟨_, _, own_pd10, rfl⟩,
    List.forall_mem_cons.mpr ⟨own_e4 (mj := own_m15) rfl (hw _ (List.mem_of_getElem? (i := 200) rfl)) (hw _ (List.mem_of_getElem? (i := 201) rfl)) (hw _ (List.mem_of_getElem? (i := 202) rfl)) (fun s hZ => own_nf (y := ⟨"evenkeel/group/SpreadSearch", "findLevels", "([J)Z"⟩) (y' := ⟨"evenkeel/group/SpreadSearch", "spreadAtLevels", "(II[I[I[I[I[I[J[J[I)Z"⟩) rfl (mvT (args := #[]) hZ (hw _ (List.mem_of_getElem? (i := 122) rfl)))) (hw _ (List.mem_of_getElem? (i := 7) rfl)) ⟨by decide, by decide⟩ ⟨_, _, own_pd11, rfl⟩,
    List.forall_mem_cons.mpr ⟨own_e4 (mj := own_m18) rfl (hw _ (List.mem_of_getElem? (i := 216) rfl)) (hw _ (List.mem_of_getElem? (i := 217) rfl)) (hw _ (List.mem_of_getElem? (i := 218) rfl)) (fun s hZ => own_nf (y := ⟨"evenkeel/group/SpreadSearch", "placeLeft", "([J)Z"⟩) (y' := ⟨"evenkeel/group/SpreadSearch", "spreadAtLevels", "(II[I[I[I[I[I[J[J[I)Z"⟩) rfl (mvT (args := #[]) hZ (hw _ (List.mem_of_getElem? (i := 122) rfl)))) (hw _ (List.mem_of_getElem? (i := 7) rfl)) ⟨by decide, by decide⟩ ⟨_, _, own_pd11, rfl⟩,
    List.forall_mem_cons.mpr ⟨own_e6 (c := own_k0) (R0 := "evenkeel/group/SpreadSearch") rfl rfl (hw _ (List.mem_of_getElem? (i := 282) rfl)) (Via.of (hw _ (List.mem_of_getElem? (i := 283) rfl))) (fun _ => Or.inl (hw _ (List.mem_of_getElem? (i := 284) rfl))),
    List.forall_mem_cons.mpr ⟨own_e0 (mj := own_m33) rfl (hw _ (List.mem_of_getElem? (i := 285) rfl)) (hw _ (List.mem_of_getElem? (i := 286) rfl)) (hw _ (List.mem_of_getElem? (i := 231) rfl)) ⟨by decide, by decide⟩ ⟨_, _, own_pd12, rfl⟩,
    List.forall_mem_cons.mpr ⟨own_e6 (c := own_k0) (R0 := "evenkeel/group/SpreadSearch") rfl rfl (hw _ (List.mem_of_getElem? (i := 288) rfl)) (Via.of (hw _ (List.mem_of_getElem? (i := 289) rfl))) (fun _ => Or.inl (hw _ (List.mem_of_getElem? (i := 290) rfl))),
    List.forall_mem_cons.mpr ⟨own_e6 (c := own_k0) (R0 := "evenkeel/group/SpreadSearch") rfl rfl (hw _ (List.mem_of_getElem? (i := 152) rfl)) Via.refl (fun _ => Or.inl (hw _ (List.mem_of_getElem? (i := 153) rfl))),
    List.forall_mem_cons.mpr ⟨own_e4 (mj := own_m34) rfl (hw _ (List.mem_of_getElem? (i := 291) rfl)) (hw _ (List.mem_of_getElem? (i := 292) rfl)) (hw _ (List.mem_of_getElem? (i := 293) rfl)) (fun s hZ => own_nf (y := ⟨"evenkeel/group/SpreadSearch", "listOpenCells", "()V"⟩) (y' := ⟨"evenkeel/group/SpreadSearch", "spreadAtLevels", "(II[I[I[I[I[I[J[J[I)Z"⟩) rfl (mvT (args := #[]) hZ (hw _ (List.mem_of_getElem? (i := 122) rfl)))) (hw _ (List.mem_of_getElem? (i := 7) rfl)) ⟨by decide, by decide⟩ ⟨_, _, own_pd0, rfl⟩,
    List.forall_mem_cons.mpr ⟨own_e13 (mj := own_m40) (c := own_k0) (v := ⟨"evenkeel/group/SpreadSearch", "moveAlongShortestPaths", "()V"⟩) (ow := "evenkeel/group/MinCostFlow") rfl rfl rfl (hw _ (List.mem_of_getElem? (i := 316) rfl)) (hw _ (List.mem_of_getElem? (i := 317) rfl)) (hw _ (List.mem_of_getElem? (i := 318) rfl)) (hw _ (List.mem_of_getElem? (i := 320) rfl)) (hw _ (List.mem_of_getElem? (i := 319) rfl)) (hw _ (List.mem_of_getElem? (i := 14) rfl)) ⟨by decide, by decide⟩ ⟨_, _, own_pd0, rfl⟩,
    List.forall_mem_nil _⟩⟩⟩⟩⟩⟩⟩⟩⟩⟩⟩⟩
set_option maxRecDepth 65536 in
theorem own_g5 {Z : State} {a0 : Array Value} (hw : own_hw Z a0) : own_okM Z a0 own_P own_m5 := ⟨plainFor_of_name own_pn1, (hw _ (List.mem_of_getElem? (i := 131) rfl)), own_rk5, List.forall_mem_cons.mpr ⟨own_e6 (c := own_k0) (R0 := "evenkeel/group/SpreadSearch") rfl rfl (hw _ (List.mem_of_getElem? (i := 152) rfl)) Via.refl (fun _ => Or.inl (hw _ (List.mem_of_getElem? (i := 153) rfl))),
    List.forall_mem_cons.mpr ⟨own_e6 (c := own_k0) (R0 := "evenkeel/group/SpreadSearch") rfl rfl (hw _ (List.mem_of_getElem? (i := 132) rfl)) Via.refl (fun _ => Or.inl (hw _ (List.mem_of_getElem? (i := 133) rfl))),
    List.forall_mem_cons.mpr ⟨own_e6 (c := own_k0) (R0 := "evenkeel/group/SpreadSearch") rfl rfl (hw _ (List.mem_of_getElem? (i := 134) rfl)) Via.refl (fun _ => Or.inl (hw _ (List.mem_of_getElem? (i := 135) rfl))),
    List.forall_mem_cons.mpr ⟨own_e6 (c := own_k0) (R0 := "evenkeel/group/SpreadSearch") rfl rfl (hw _ (List.mem_of_getElem? (i := 136) rfl)) Via.refl (fun _ => Or.inl (hw _ (List.mem_of_getElem? (i := 137) rfl))),
    List.forall_mem_cons.mpr ⟨own_e6 (c := own_k0) (R0 := "evenkeel/group/SpreadSearch") rfl rfl (hw _ (List.mem_of_getElem? (i := 150) rfl)) Via.refl (fun _ => Or.inl (hw _ (List.mem_of_getElem? (i := 151) rfl))),
    List.forall_mem_cons.mpr ⟨own_e6 (c := own_k0) (R0 := "evenkeel/group/SpreadSearch") rfl rfl (hw _ (List.mem_of_getElem? (i := 146) rfl)) Via.refl (fun _ => Or.inl (hw _ (List.mem_of_getElem? (i := 147) rfl))),
    List.forall_mem_cons.mpr ⟨own_e6 (c := own_k0) (R0 := "evenkeel/group/SpreadSearch") rfl rfl (hw _ (List.mem_of_getElem? (i := 144) rfl)) Via.refl (fun _ => Or.inl (hw _ (List.mem_of_getElem? (i := 145) rfl))),
    List.forall_mem_cons.mpr ⟨own_e6 (c := own_k0) (R0 := "evenkeel/group/SpreadSearch") rfl rfl (hw _ (List.mem_of_getElem? (i := 138) rfl)) Via.refl (fun _ => Or.inl (hw _ (List.mem_of_getElem? (i := 139) rfl))),
    List.forall_mem_cons.mpr ⟨own_e6 (c := own_k0) (R0 := "evenkeel/group/SpreadSearch") rfl rfl (hw _ (List.mem_of_getElem? (i := 140) rfl)) Via.refl (fun _ => Or.inl (hw _ (List.mem_of_getElem? (i := 141) rfl))),
    List.forall_mem_cons.mpr ⟨own_e6 (c := own_k0) (R0 := "evenkeel/group/SpreadSearch") rfl rfl (hw _ (List.mem_of_getElem? (i := 142) rfl)) Via.refl (fun _ => Or.inl (hw _ (List.mem_of_getElem? (i := 143) rfl))),
    List.forall_mem_cons.mpr ⟨own_e6 (c := own_k0) (R0 := "evenkeel/group/SpreadSearch") rfl rfl (hw _ (List.mem_of_getElem? (i := 148) rfl)) Via.refl (fun _ => Or.inl (hw _ (List.mem_of_getElem? (i := 149) rfl))),
    List.forall_mem_cons.mpr ⟨own_e13 (mj := own_m6) (c := own_k0) (v := ⟨"evenkeel/group/SpreadSearch", "layOut", "(I)V"⟩) (ow := "evenkeel/group/MinCostFlow") rfl rfl rfl (hw _ (List.mem_of_getElem? (i := 154) rfl)) (hw _ (List.mem_of_getElem? (i := 155) rfl)) (hw _ (List.mem_of_getElem? (i := 156) rfl)) (hw _ (List.mem_of_getElem? (i := 158) rfl)) (hw _ (List.mem_of_getElem? (i := 157) rfl)) (hw _ (List.mem_of_getElem? (i := 14) rfl)) ⟨by decide, by decide⟩ ⟨_, _, own_pd13, rfl⟩,
    List.forall_mem_cons.mpr ⟨own_e4 (mj := own_m10) rfl (hw _ (List.mem_of_getElem? (i := 177) rfl)) (hw _ (List.mem_of_getElem? (i := 178) rfl)) (hw _ (List.mem_of_getElem? (i := 179) rfl)) (fun s hZ => own_nf (y := ⟨"evenkeel/group/SpreadSearch", "makeRoom", "()V"⟩) (y' := ⟨"evenkeel/group/SpreadSearch", "spreadAtLevels", "(II[I[I[I[I[I[J[J[I)Z"⟩) rfl (mvT (args := #[]) hZ (hw _ (List.mem_of_getElem? (i := 122) rfl)))) (hw _ (List.mem_of_getElem? (i := 7) rfl)) ⟨by decide, by decide⟩ ⟨_, _, own_pd0, rfl⟩,
    List.forall_mem_cons.mpr ⟨own_e4 (mj := own_m11) rfl (hw _ (List.mem_of_getElem? (i := 181) rfl)) (hw _ (List.mem_of_getElem? (i := 182) rfl)) (hw _ (List.mem_of_getElem? (i := 183) rfl)) (fun s hZ => own_nf (y := ⟨"evenkeel/group/SpreadSearch", "indexRows", "()V"⟩) (y' := ⟨"evenkeel/group/SpreadSearch", "spreadAtLevels", "(II[I[I[I[I[I[J[J[I)Z"⟩) rfl (mvT (args := #[]) hZ (hw _ (List.mem_of_getElem? (i := 122) rfl)))) (hw _ (List.mem_of_getElem? (i := 7) rfl)) ⟨by decide, by decide⟩ ⟨_, _, own_pd0, rfl⟩,
    List.forall_mem_nil _⟩⟩⟩⟩⟩⟩⟩⟩⟩⟩⟩⟩⟩⟩⟩
set_option maxRecDepth 65536 in
theorem own_g6 {Z : State} {a0 : Array Value} (hw : own_hw Z a0) : own_okM Z a0 own_P own_m6 := ⟨plainFor_of_name own_pn2, (hw _ (List.mem_of_getElem? (i := 159) rfl)), own_rk6, List.forall_mem_cons.mpr ⟨own_e6 (c := own_k0) (R0 := "evenkeel/group/MinCostFlow") rfl rfl (hw _ (List.mem_of_getElem? (i := 19) rfl)) Via.refl (fun _ => Or.inl (hw _ (List.mem_of_getElem? (i := 20) rfl))),
    List.forall_mem_cons.mpr ⟨own_e6 (c := own_k0) (R0 := "evenkeel/group/MinCostFlow") rfl rfl (hw _ (List.mem_of_getElem? (i := 160) rfl)) Via.refl (fun _ => Or.inl (hw _ (List.mem_of_getElem? (i := 161) rfl))),
    List.forall_mem_cons.mpr ⟨own_e6 (c := own_k0) (R0 := "evenkeel/group/MinCostFlow") rfl rfl (hw _ (List.mem_of_getElem? (i := 162) rfl)) Via.refl (fun _ => Or.inl (hw _ (List.mem_of_getElem? (i := 163) rfl))),
    List.forall_mem_cons.mpr ⟨own_e0 (mj := own_m7) rfl (hw _ (List.mem_of_getElem? (i := 164) rfl)) (hw _ (List.mem_of_getElem? (i := 165) rfl)) (hw _ (List.mem_of_getElem? (i := 166) rfl)) ⟨by decide, by decide⟩ ⟨_, _, own_pd14, rfl⟩,
    List.forall_mem_cons.mpr ⟨own_e0 (mj := own_m8) rfl (hw _ (List.mem_of_getElem? (i := 168) rfl)) (hw _ (List.mem_of_getElem? (i := 169) rfl)) (hw _ (List.mem_of_getElem? (i := 170) rfl)) ⟨by decide, by decide⟩ ⟨_, _, own_pd15, rfl⟩,
    List.forall_mem_cons.mpr ⟨own_e6 (c := own_k0) (R0 := "evenkeel/group/MinCostFlow") rfl rfl (hw _ (List.mem_of_getElem? (i := 175) rfl)) Via.refl (fun _ => Or.inl (hw _ (List.mem_of_getElem? (i := 176) rfl))),
    List.forall_mem_nil _⟩⟩⟩⟩⟩⟩⟩
set_option maxRecDepth 65536 in
theorem own_g7 {Z : State} {a0 : Array Value} (hw : own_hw Z a0) : own_okM Z a0 own_P own_m7 := ⟨plainFor_of_name own_pn3, (hw _ (List.mem_of_getElem? (i := 167) rfl)), own_rk7, List.forall_mem_nil _⟩
set_option maxRecDepth 65536 in
theorem own_g8 {Z : State} {a0 : Array Value} (hw : own_hw Z a0) : own_okM Z a0 own_P own_m8 := ⟨plainFor_of_name own_pn4, (hw _ (List.mem_of_getElem? (i := 171) rfl)), own_rk8, List.forall_mem_cons.mpr ⟨own_e0 (mj := own_m9) rfl (hw _ (List.mem_of_getElem? (i := 172) rfl)) (hw _ (List.mem_of_getElem? (i := 173) rfl)) (hw _ (List.mem_of_getElem? (i := 170) rfl)) ⟨by decide, by decide⟩ ⟨_, _, own_pd5, rfl⟩,
    List.forall_mem_nil _⟩⟩
set_option maxRecDepth 65536 in
theorem own_g9 {Z : State} {a0 : Array Value} (hw : own_hw Z a0) : own_okM Z a0 own_P own_m9 := ⟨plainFor_of_name own_pn4, (hw _ (List.mem_of_getElem? (i := 174) rfl)), own_rk9, List.forall_mem_nil _⟩
set_option maxRecDepth 65536 in
theorem own_g10 {Z : State} {a0 : Array Value} (hw : own_hw Z a0) : own_okM Z a0 own_P own_m10 := ⟨plainFor_of_name own_pn1, (hw _ (List.mem_of_getElem? (i := 180) rfl)), own_rk10, List.forall_mem_cons.mpr ⟨own_e6 (c := own_k0) (R0 := "evenkeel/group/SpreadSearch") rfl rfl (hw _ (List.mem_of_getElem? (i := 45) rfl)) Via.refl (fun _ => Or.inl (hw _ (List.mem_of_getElem? (i := 46) rfl))),
    List.forall_mem_cons.mpr ⟨own_e6 (c := own_k0) (R0 := "evenkeel/group/SpreadSearch") rfl rfl (hw _ (List.mem_of_getElem? (i := 47) rfl)) Via.refl (fun _ => Or.inl (hw _ (List.mem_of_getElem? (i := 48) rfl))),
    List.forall_mem_cons.mpr ⟨own_e6 (c := own_k0) (R0 := "evenkeel/group/SpreadSearch") rfl rfl (hw _ (List.mem_of_getElem? (i := 49) rfl)) Via.refl (fun _ => Or.inl (hw _ (List.mem_of_getElem? (i := 50) rfl))),
    List.forall_mem_cons.mpr ⟨own_e6 (c := own_k0) (R0 := "evenkeel/group/SpreadSearch") rfl rfl (hw _ (List.mem_of_getElem? (i := 51) rfl)) Via.refl (fun _ => Or.inl (hw _ (List.mem_of_getElem? (i := 52) rfl))),
    List.forall_mem_cons.mpr ⟨own_e6 (c := own_k0) (R0 := "evenkeel/group/SpreadSearch") rfl rfl (hw _ (List.mem_of_getElem? (i := 53) rfl)) Via.refl (fun _ => Or.inl (hw _ (List.mem_of_getElem? (i := 54) rfl))),
    List.forall_mem_cons.mpr ⟨own_e6 (c := own_k0) (R0 := "evenkeel/group/SpreadSearch") rfl rfl (hw _ (List.mem_of_getElem? (i := 55) rfl)) Via.refl (fun _ => Or.inl (hw _ (List.mem_of_getElem? (i := 56) rfl))),
    List.forall_mem_cons.mpr ⟨own_e6 (c := own_k0) (R0 := "evenkeel/group/SpreadSearch") rfl rfl (hw _ (List.mem_of_getElem? (i := 57) rfl)) Via.refl (fun _ => Or.inl (hw _ (List.mem_of_getElem? (i := 58) rfl))),
    List.forall_mem_cons.mpr ⟨own_e6 (c := own_k0) (R0 := "evenkeel/group/SpreadSearch") rfl rfl (hw _ (List.mem_of_getElem? (i := 59) rfl)) Via.refl (fun _ => Or.inl (hw _ (List.mem_of_getElem? (i := 60) rfl))),
    List.forall_mem_cons.mpr ⟨own_e6 (c := own_k0) (R0 := "evenkeel/group/SpreadSearch") rfl rfl (hw _ (List.mem_of_getElem? (i := 61) rfl)) Via.refl (fun _ => Or.inl (hw _ (List.mem_of_getElem? (i := 62) rfl))),
    List.forall_mem_cons.mpr ⟨own_e6 (c := own_k0) (R0 := "evenkeel/group/SpreadSearch") rfl rfl (hw _ (List.mem_of_getElem? (i := 63) rfl)) Via.refl (fun _ => Or.inl (hw _ (List.mem_of_getElem? (i := 64) rfl))),
    List.forall_mem_cons.mpr ⟨own_e6 (c := own_k0) (R0 := "evenkeel/group/SpreadSearch") rfl rfl (hw _ (List.mem_of_getElem? (i := 65) rfl)) Via.refl (fun _ => Or.inl (hw _ (List.mem_of_getElem? (i := 66) rfl))),
    List.forall_mem_cons.mpr ⟨own_e6 (c := own_k0) (R0 := "evenkeel/group/SpreadSearch") rfl rfl (hw _ (List.mem_of_getElem? (i := 75) rfl)) Via.refl (fun _ => Or.inl (hw _ (List.mem_of_getElem? (i := 76) rfl))),
    List.forall_mem_cons.mpr ⟨own_e6 (c := own_k0) (R0 := "evenkeel/group/SpreadSearch") rfl rfl (hw _ (List.mem_of_getElem? (i := 77) rfl)) Via.refl (fun _ => Or.inl (hw _ (List.mem_of_getElem? (i := 78) rfl))),
    List.forall_mem_cons.mpr ⟨own_e6 (c := own_k0) (R0 := "evenkeel/group/SpreadSearch") rfl rfl (hw _ (List.mem_of_getElem? (i := 79) rfl)) Via.refl (fun _ => Or.inl (hw _ (List.mem_of_getElem? (i := 80) rfl))),
    List.forall_mem_cons.mpr ⟨own_e6 (c := own_k0) (R0 := "evenkeel/group/SpreadSearch") rfl rfl (hw _ (List.mem_of_getElem? (i := 81) rfl)) Via.refl (fun _ => Or.inl (hw _ (List.mem_of_getElem? (i := 82) rfl))),
    List.forall_mem_cons.mpr ⟨own_e6 (c := own_k0) (R0 := "evenkeel/group/SpreadSearch") rfl rfl (hw _ (List.mem_of_getElem? (i := 83) rfl)) Via.refl (fun _ => Or.inl (hw _ (List.mem_of_getElem? (i := 84) rfl))),
    List.forall_mem_cons.mpr ⟨own_e6 (c := own_k0) (R0 := "evenkeel/group/SpreadSearch") rfl rfl (hw _ (List.mem_of_getElem? (i := 85) rfl)) Via.refl (fun _ => Or.inl (hw _ (List.mem_of_getElem? (i := 86) rfl))),
    List.forall_mem_cons.mpr ⟨own_e6 (c := own_k0) (R0 := "evenkeel/group/SpreadSearch") rfl rfl (hw _ (List.mem_of_getElem? (i := 87) rfl)) Via.refl (fun _ => Or.inl (hw _ (List.mem_of_getElem? (i := 88) rfl))),
    List.forall_mem_cons.mpr ⟨own_e6 (c := own_k0) (R0 := "evenkeel/group/SpreadSearch") rfl rfl (hw _ (List.mem_of_getElem? (i := 89) rfl)) Via.refl (fun _ => Or.inl (hw _ (List.mem_of_getElem? (i := 90) rfl))),
    List.forall_mem_cons.mpr ⟨own_e6 (c := own_k0) (R0 := "evenkeel/group/SpreadSearch") rfl rfl (hw _ (List.mem_of_getElem? (i := 91) rfl)) Via.refl (fun _ => Or.inl (hw _ (List.mem_of_getElem? (i := 92) rfl))),
    List.forall_mem_cons.mpr ⟨own_e6 (c := own_k0) (R0 := "evenkeel/group/SpreadSearch") rfl rfl (hw _ (List.mem_of_getElem? (i := 101) rfl)) Via.refl (fun _ => Or.inl (hw _ (List.mem_of_getElem? (i := 102) rfl))),
    List.forall_mem_cons.mpr ⟨own_e6 (c := own_k0) (R0 := "evenkeel/group/SpreadSearch") rfl rfl (hw _ (List.mem_of_getElem? (i := 103) rfl)) Via.refl (fun _ => Or.inl (hw _ (List.mem_of_getElem? (i := 104) rfl))),
    List.forall_mem_cons.mpr ⟨own_e6 (c := own_k0) (R0 := "evenkeel/group/SpreadSearch") rfl rfl (hw _ (List.mem_of_getElem? (i := 107) rfl)) Via.refl (fun _ => Or.inl (hw _ (List.mem_of_getElem? (i := 108) rfl))),
    List.forall_mem_cons.mpr ⟨own_e6 (c := own_k0) (R0 := "evenkeel/group/SpreadSearch") rfl rfl (hw _ (List.mem_of_getElem? (i := 109) rfl)) Via.refl (fun _ => Or.inl (hw _ (List.mem_of_getElem? (i := 110) rfl))),
    List.forall_mem_cons.mpr ⟨own_e6 (c := own_k0) (R0 := "evenkeel/group/SpreadSearch") rfl rfl (hw _ (List.mem_of_getElem? (i := 111) rfl)) Via.refl (fun _ => Or.inl (hw _ (List.mem_of_getElem? (i := 112) rfl))),
    List.forall_mem_cons.mpr ⟨own_e6 (c := own_k0) (R0 := "evenkeel/group/SpreadSearch") rfl rfl (hw _ (List.mem_of_getElem? (i := 113) rfl)) Via.refl (fun _ => Or.inl (hw _ (List.mem_of_getElem? (i := 114) rfl))),
    List.forall_mem_cons.mpr ⟨own_e6 (c := own_k0) (R0 := "evenkeel/group/SpreadSearch") rfl rfl (hw _ (List.mem_of_getElem? (i := 152) rfl)) Via.refl (fun _ => Or.inl (hw _ (List.mem_of_getElem? (i := 153) rfl))),
    List.forall_mem_cons.mpr ⟨own_e6 (c := own_k0) (R0 := "evenkeel/group/SpreadSearch") rfl rfl (hw _ (List.mem_of_getElem? (i := 132) rfl)) Via.refl (fun _ => Or.inl (hw _ (List.mem_of_getElem? (i := 133) rfl))),
    List.forall_mem_cons.mpr ⟨own_e6 (c := own_k0) (R0 := "evenkeel/group/SpreadSearch") rfl rfl (hw _ (List.mem_of_getElem? (i := 134) rfl)) Via.refl (fun _ => Or.inl (hw _ (List.mem_of_getElem? (i := 135) rfl))),
    List.forall_mem_cons.mpr ⟨own_e6 (c := own_k0) (R0 := "evenkeel/group/SpreadSearch") rfl rfl (hw _ (List.mem_of_getElem? (i := 150) rfl)) Via.refl (fun _ => Or.inl (hw _ (List.mem_of_getElem? (i := 151) rfl))),
    List.forall_mem_cons.mpr ⟨own_e0 (mj := own_m19) rfl (hw _ (List.mem_of_getElem? (i := 222) rfl)) (hw _ (List.mem_of_getElem? (i := 223) rfl)) (hw _ (List.mem_of_getElem? (i := 166) rfl)) ⟨by decide, by decide⟩ ⟨_, _, own_pd16, rfl⟩,
    List.forall_mem_nil _⟩⟩⟩⟩⟩⟩⟩⟩⟩⟩⟩⟩⟩⟩⟩⟩⟩⟩⟩⟩⟩⟩⟩⟩⟩⟩⟩⟩⟩⟩⟩⟩
set_option maxRecDepth 65536 in
theorem own_g11 {Z : State} {a0 : Array Value} (hw : own_hw Z a0) : own_okM Z a0 own_P own_m11 := ⟨plainFor_of_name own_pn1, (hw _ (List.mem_of_getElem? (i := 184) rfl)), own_rk11, List.forall_mem_cons.mpr ⟨own_e6 (c := own_k0) (R0 := "evenkeel/group/SpreadSearch") rfl rfl (hw _ (List.mem_of_getElem? (i := 45) rfl)) Via.refl (fun _ => Or.inl (hw _ (List.mem_of_getElem? (i := 46) rfl))),
    List.forall_mem_cons.mpr ⟨own_e6 (c := own_k0) (R0 := "evenkeel/group/SpreadSearch") rfl rfl (hw _ (List.mem_of_getElem? (i := 65) rfl)) Via.refl (fun _ => Or.inl (hw _ (List.mem_of_getElem? (i := 66) rfl))),
    List.forall_mem_cons.mpr ⟨own_e6 (c := own_k0) (R0 := "evenkeel/group/SpreadSearch") rfl rfl (hw _ (List.mem_of_getElem? (i := 152) rfl)) Via.refl (fun _ => Or.inl (hw _ (List.mem_of_getElem? (i := 153) rfl))),
    List.forall_mem_cons.mpr ⟨own_e6 (c := own_k0) (R0 := "evenkeel/group/SpreadSearch") rfl rfl (hw _ (List.mem_of_getElem? (i := 132) rfl)) Via.refl (fun _ => Or.inl (hw _ (List.mem_of_getElem? (i := 133) rfl))),
    List.forall_mem_cons.mpr ⟨own_e6 (c := own_k0) (R0 := "evenkeel/group/SpreadSearch") rfl rfl (hw _ (List.mem_of_getElem? (i := 134) rfl)) Via.refl (fun _ => Or.inl (hw _ (List.mem_of_getElem? (i := 135) rfl))),
    List.forall_mem_cons.mpr ⟨own_e6 (c := own_k0) (R0 := "evenkeel/group/SpreadSearch") rfl rfl (hw _ (List.mem_of_getElem? (i := 150) rfl)) Via.refl (fun _ => Or.inl (hw _ (List.mem_of_getElem? (i := 151) rfl))),
    List.forall_mem_cons.mpr ⟨own_e10 (hw _ (List.mem_of_getElem? (i := 188) rfl)) (hw _ (List.mem_of_getElem? (i := 191) rfl)) (hw _ (List.mem_of_getElem? (i := 189) rfl)) (hw _ (List.mem_of_getElem? (i := 190) rfl)),
    List.forall_mem_cons.mpr ⟨own_e6 (c := own_k0) (R0 := "evenkeel/group/SpreadSearch") rfl rfl (hw _ (List.mem_of_getElem? (i := 140) rfl)) Via.refl (fun _ => Or.inl (hw _ (List.mem_of_getElem? (i := 141) rfl))),
    List.forall_mem_cons.mpr ⟨own_e0 (mj := own_m12) rfl (hw _ (List.mem_of_getElem? (i := 185) rfl)) (hw _ (List.mem_of_getElem? (i := 186) rfl)) (hw _ (List.mem_of_getElem? (i := 170) rfl)) ⟨by decide, by decide⟩ ⟨_, _, own_pd17, rfl⟩,
    List.forall_mem_cons.mpr ⟨own_e4 (mj := own_m13) rfl (hw _ (List.mem_of_getElem? (i := 192) rfl)) (hw _ (List.mem_of_getElem? (i := 193) rfl)) (hw _ (List.mem_of_getElem? (i := 194) rfl)) (fun s hZ => own_nf (y := ⟨"evenkeel/group/SpreadSearch", "indexColumn", "(I[I)V"⟩) (y' := ⟨"evenkeel/group/SpreadSearch", "spreadAtLevels", "(II[I[I[I[I[I[J[J[I)Z"⟩) rfl (mvT (args := #[]) hZ (hw _ (List.mem_of_getElem? (i := 122) rfl)))) (hw _ (List.mem_of_getElem? (i := 7) rfl)) ⟨by decide, by decide⟩ ⟨_, _, own_pd18, rfl⟩,
    List.forall_mem_nil _⟩⟩⟩⟩⟩⟩⟩⟩⟩⟩⟩
set_option maxRecDepth 65536 in
theorem own_g12 {Z : State} {a0 : Array Value} (hw : own_hw Z a0) : own_okM Z a0 own_P own_m12 := ⟨plainFor_of_name own_pn4, (hw _ (List.mem_of_getElem? (i := 187) rfl)), own_rk12, List.forall_mem_cons.mpr ⟨own_e0 (mj := own_m9) rfl (hw _ (List.mem_of_getElem? (i := 172) rfl)) (hw _ (List.mem_of_getElem? (i := 173) rfl)) (hw _ (List.mem_of_getElem? (i := 170) rfl)) ⟨by decide, by decide⟩ ⟨_, _, own_pd5, rfl⟩,
    List.forall_mem_nil _⟩⟩
set_option maxRecDepth 65536 in
theorem own_g13 {Z : State} {a0 : Array Value} (hw : own_hw Z a0) : own_okM Z a0 own_P own_m13 := ⟨plainFor_of_name own_pn1, (hw _ (List.mem_of_getElem? (i := 195) rfl)), own_rk13, List.forall_mem_cons.mpr ⟨own_e6 (c := own_k0) (R0 := "evenkeel/group/SpreadSearch") rfl rfl (hw _ (List.mem_of_getElem? (i := 47) rfl)) Via.refl (fun _ => Or.inl (hw _ (List.mem_of_getElem? (i := 48) rfl))),
    List.forall_mem_cons.mpr ⟨own_e6 (c := own_k0) (R0 := "evenkeel/group/SpreadSearch") rfl rfl (hw _ (List.mem_of_getElem? (i := 49) rfl)) Via.refl (fun _ => Or.inl (hw _ (List.mem_of_getElem? (i := 50) rfl))),
    List.forall_mem_cons.mpr ⟨own_e6 (c := own_k0) (R0 := "evenkeel/group/SpreadSearch") rfl rfl (hw _ (List.mem_of_getElem? (i := 138) rfl)) Via.refl (fun _ => Or.inl (hw _ (List.mem_of_getElem? (i := 139) rfl))),
    List.forall_mem_cons.mpr ⟨own_e6 (c := own_k0) (R0 := "evenkeel/group/SpreadSearch") rfl rfl (hw _ (List.mem_of_getElem? (i := 140) rfl)) Via.refl (fun _ => Or.inl (hw _ (List.mem_of_getElem? (i := 141) rfl))),
    List.forall_mem_nil _⟩⟩⟩⟩⟩
set_option maxRecDepth 65536 in
theorem own_g14 {Z : State} {a0 : Array Value} (hw : own_hw Z a0) : own_okM Z a0 own_P own_m14 := ⟨plainFor_of_name own_pn1, (hw _ (List.mem_of_getElem? (i := 199) rfl)), own_rk14, List.forall_mem_cons.mpr ⟨own_e6 (c := own_k0) (R0 := "evenkeel/group/SpreadSearch") rfl rfl (hw _ (List.mem_of_getElem? (i := 132) rfl)) Via.refl (fun _ => Or.inl (hw _ (List.mem_of_getElem? (i := 133) rfl))),
    List.forall_mem_cons.mpr ⟨own_e6 (c := own_k0) (R0 := "evenkeel/group/SpreadSearch") rfl rfl (hw _ (List.mem_of_getElem? (i := 134) rfl)) Via.refl (fun _ => Or.inl (hw _ (List.mem_of_getElem? (i := 135) rfl))),
    List.forall_mem_nil _⟩⟩⟩
set_option maxRecDepth 65536 in
theorem own_g15 {Z : State} {a0 : Array Value} (hw : own_hw Z a0) : own_okM Z a0 own_P own_m15 := ⟨plainFor_of_name own_pn1, (hw _ (List.mem_of_getElem? (i := 203) rfl)), own_rk15, List.forall_mem_cons.mpr ⟨own_e6 (c := own_k0) (R0 := "evenkeel/group/SpreadSearch") rfl rfl (hw _ (List.mem_of_getElem? (i := 132) rfl)) Via.refl (fun _ => Or.inl (hw _ (List.mem_of_getElem? (i := 133) rfl))),
    List.forall_mem_cons.mpr ⟨own_e6 (c := own_k0) (R0 := "evenkeel/group/SpreadSearch") rfl rfl (hw _ (List.mem_of_getElem? (i := 204) rfl)) Via.refl (fun _ => Or.inl (hw _ (List.mem_of_getElem? (i := 205) rfl))),
    List.forall_mem_cons.mpr ⟨own_e4 (mj := own_m16) rfl (hw _ (List.mem_of_getElem? (i := 206) rfl)) (hw _ (List.mem_of_getElem? (i := 207) rfl)) (hw _ (List.mem_of_getElem? (i := 208) rfl)) (fun s hZ => own_nf (y := ⟨"evenkeel/group/SpreadSearch", "findLevel", "(IJ)Z"⟩) (y' := ⟨"evenkeel/group/SpreadSearch", "spreadAtLevels", "(II[I[I[I[I[I[J[J[I)Z"⟩) rfl (mvT (args := #[]) hZ (hw _ (List.mem_of_getElem? (i := 122) rfl)))) (hw _ (List.mem_of_getElem? (i := 7) rfl)) ⟨by decide, by decide⟩ ⟨_, _, own_pd19, rfl⟩,
    List.forall_mem_cons.mpr ⟨own_e4 (mj := own_m17) rfl (hw _ (List.mem_of_getElem? (i := 211) rfl)) (hw _ (List.mem_of_getElem? (i := 212) rfl)) (hw _ (List.mem_of_getElem? (i := 213) rfl)) (fun s hZ => own_nf (y := ⟨"evenkeel/group/SpreadSearch", "searchLevels", "([J)V"⟩) (y' := ⟨"evenkeel/group/SpreadSearch", "spreadAtLevels", "(II[I[I[I[I[I[J[J[I)Z"⟩) rfl (mvT (args := #[]) hZ (hw _ (List.mem_of_getElem? (i := 122) rfl)))) (hw _ (List.mem_of_getElem? (i := 7) rfl)) ⟨by decide, by decide⟩ ⟨_, _, own_pd20, rfl⟩,
    List.forall_mem_nil _⟩⟩⟩⟩⟩
set_option maxRecDepth 65536 in
theorem own_g16 {Z : State} {a0 : Array Value} (hw : own_hw Z a0) : own_okM Z a0 own_P own_m16 := ⟨plainFor_of_name own_pn1, (hw _ (List.mem_of_getElem? (i := 209) rfl)), own_rk16, List.forall_mem_cons.mpr ⟨own_e6 (c := own_k0) (R0 := "evenkeel/group/SpreadSearch") rfl rfl (hw _ (List.mem_of_getElem? (i := 45) rfl)) Via.refl (fun _ => Or.inl (hw _ (List.mem_of_getElem? (i := 46) rfl))),
    List.forall_mem_cons.mpr ⟨own_e6 (c := own_k0) (R0 := "evenkeel/group/SpreadSearch") rfl rfl (hw _ (List.mem_of_getElem? (i := 47) rfl)) Via.refl (fun _ => Or.inl (hw _ (List.mem_of_getElem? (i := 48) rfl))),
    List.forall_mem_cons.mpr ⟨own_e6 (c := own_k0) (R0 := "evenkeel/group/SpreadSearch") rfl rfl (hw _ (List.mem_of_getElem? (i := 53) rfl)) Via.refl (fun _ => Or.inl (hw _ (List.mem_of_getElem? (i := 54) rfl))),
    List.forall_mem_cons.mpr ⟨own_e6 (c := own_k0) (R0 := "evenkeel/group/SpreadSearch") rfl rfl (hw _ (List.mem_of_getElem? (i := 55) rfl)) Via.refl (fun _ => Or.inl (hw _ (List.mem_of_getElem? (i := 56) rfl))),
    List.forall_mem_cons.mpr ⟨own_e6 (c := own_k0) (R0 := "evenkeel/group/SpreadSearch") rfl rfl (hw _ (List.mem_of_getElem? (i := 75) rfl)) Via.refl (fun _ => Or.inl (hw _ (List.mem_of_getElem? (i := 76) rfl))),
    List.forall_mem_cons.mpr ⟨own_e9 (by decide) (hw _ (List.mem_of_getElem? (i := 210) rfl)),
    List.forall_mem_cons.mpr ⟨own_e6 (c := own_k0) (R0 := "evenkeel/group/SpreadSearch") rfl rfl (hw _ (List.mem_of_getElem? (i := 152) rfl)) Via.refl (fun _ => Or.inl (hw _ (List.mem_of_getElem? (i := 153) rfl))),
    List.forall_mem_cons.mpr ⟨own_e6 (c := own_k0) (R0 := "evenkeel/group/SpreadSearch") rfl rfl (hw _ (List.mem_of_getElem? (i := 132) rfl)) Via.refl (fun _ => Or.inl (hw _ (List.mem_of_getElem? (i := 133) rfl))),
    List.forall_mem_cons.mpr ⟨own_e6 (c := own_k0) (R0 := "evenkeel/group/SpreadSearch") rfl rfl (hw _ (List.mem_of_getElem? (i := 134) rfl)) Via.refl (fun _ => Or.inl (hw _ (List.mem_of_getElem? (i := 135) rfl))),
    List.forall_mem_cons.mpr ⟨own_e6 (c := own_k0) (R0 := "evenkeel/group/SpreadSearch") rfl rfl (hw _ (List.mem_of_getElem? (i := 136) rfl)) Via.refl (fun _ => Or.inl (hw _ (List.mem_of_getElem? (i := 137) rfl))),
    List.forall_mem_cons.mpr ⟨own_e6 (c := own_k0) (R0 := "evenkeel/group/SpreadSearch") rfl rfl (hw _ (List.mem_of_getElem? (i := 144) rfl)) Via.refl (fun _ => Or.inl (hw _ (List.mem_of_getElem? (i := 145) rfl))),
    List.forall_mem_cons.mpr ⟨own_e6 (c := own_k0) (R0 := "evenkeel/group/SpreadSearch") rfl rfl (hw _ (List.mem_of_getElem? (i := 142) rfl)) Via.refl (fun _ => Or.inl (hw _ (List.mem_of_getElem? (i := 143) rfl))),
    List.forall_mem_cons.mpr ⟨own_e6 (c := own_k0) (R0 := "evenkeel/group/SpreadSearch") rfl rfl (hw _ (List.mem_of_getElem? (i := 148) rfl)) Via.refl (fun _ => Or.inl (hw _ (List.mem_of_getElem? (i := 149) rfl))),
    List.forall_mem_cons.mpr ⟨own_e6 (c := own_k0) (R0 := "evenkeel/group/SpreadSearch") rfl rfl (hw _ (List.mem_of_getElem? (i := 204) rfl)) Via.refl (fun _ => Or.inl (hw _ (List.mem_of_getElem? (i := 205) rfl))),
    List.forall_mem_nil _⟩⟩⟩⟩⟩⟩⟩⟩⟩⟩⟩⟩⟩⟩⟩
set_option maxRecDepth 65536 in
theorem own_g17 {Z : State} {a0 : Array Value} (hw : own_hw Z a0) : own_okM Z a0 own_P own_m17 := ⟨plainFor_of_name own_pn1, (hw _ (List.mem_of_getElem? (i := 214) rfl)), own_rk17, List.forall_mem_cons.mpr ⟨own_e6 (c := own_k0) (R0 := "evenkeel/group/SpreadSearch") rfl rfl (hw _ (List.mem_of_getElem? (i := 53) rfl)) Via.refl (fun _ => Or.inl (hw _ (List.mem_of_getElem? (i := 54) rfl))),
    List.forall_mem_cons.mpr ⟨own_e6 (c := own_k0) (R0 := "evenkeel/group/SpreadSearch") rfl rfl (hw _ (List.mem_of_getElem? (i := 55) rfl)) Via.refl (fun _ => Or.inl (hw _ (List.mem_of_getElem? (i := 56) rfl))),
    List.forall_mem_cons.mpr ⟨own_e6 (c := own_k0) (R0 := "evenkeel/group/SpreadSearch") rfl rfl (hw _ (List.mem_of_getElem? (i := 57) rfl)) Via.refl (fun _ => Or.inl (hw _ (List.mem_of_getElem? (i := 58) rfl))),
    List.forall_mem_cons.mpr ⟨own_e6 (c := own_k0) (R0 := "evenkeel/group/SpreadSearch") rfl rfl (hw _ (List.mem_of_getElem? (i := 59) rfl)) Via.refl (fun _ => Or.inl (hw _ (List.mem_of_getElem? (i := 60) rfl))),
    List.forall_mem_cons.mpr ⟨own_e9 (by decide) (hw _ (List.mem_of_getElem? (i := 210) rfl)),
    List.forall_mem_cons.mpr ⟨own_e6 (c := own_k0) (R0 := "evenkeel/group/SpreadSearch") rfl rfl (hw _ (List.mem_of_getElem? (i := 152) rfl)) Via.refl (fun _ => Or.inl (hw _ (List.mem_of_getElem? (i := 153) rfl))),
    List.forall_mem_cons.mpr ⟨own_e6 (c := own_k0) (R0 := "evenkeel/group/SpreadSearch") rfl rfl (hw _ (List.mem_of_getElem? (i := 132) rfl)) Via.refl (fun _ => Or.inl (hw _ (List.mem_of_getElem? (i := 133) rfl))),
    List.forall_mem_cons.mpr ⟨own_e6 (c := own_k0) (R0 := "evenkeel/group/SpreadSearch") rfl rfl (hw _ (List.mem_of_getElem? (i := 136) rfl)) Via.refl (fun _ => Or.inl (hw _ (List.mem_of_getElem? (i := 137) rfl))),
    List.forall_mem_cons.mpr ⟨own_e6 (c := own_k0) (R0 := "evenkeel/group/SpreadSearch") rfl rfl (hw _ (List.mem_of_getElem? (i := 150) rfl)) Via.refl (fun _ => Or.inl (hw _ (List.mem_of_getElem? (i := 151) rfl))),
    List.forall_mem_cons.mpr ⟨own_e6 (c := own_k0) (R0 := "evenkeel/group/SpreadSearch") rfl rfl (hw _ (List.mem_of_getElem? (i := 144) rfl)) Via.refl (fun _ => Or.inl (hw _ (List.mem_of_getElem? (i := 145) rfl))),
    List.forall_mem_cons.mpr ⟨own_e6 (c := own_k0) (R0 := "evenkeel/group/SpreadSearch") rfl rfl (hw _ (List.mem_of_getElem? (i := 140) rfl)) Via.refl (fun _ => Or.inl (hw _ (List.mem_of_getElem? (i := 141) rfl))),
    List.forall_mem_cons.mpr ⟨own_e6 (c := own_k0) (R0 := "evenkeel/group/SpreadSearch") rfl rfl (hw _ (List.mem_of_getElem? (i := 142) rfl)) Via.refl (fun _ => Or.inl (hw _ (List.mem_of_getElem? (i := 143) rfl))),
    List.forall_mem_cons.mpr ⟨own_e9 (by decide) (hw _ (List.mem_of_getElem? (i := 215) rfl)),
    List.forall_mem_nil _⟩⟩⟩⟩⟩⟩⟩⟩⟩⟩⟩⟩⟩⟩
set_option maxRecDepth 65536 in
theorem own_g18 {Z : State} {a0 : Array Value} (hw : own_hw Z a0) : own_okM Z a0 own_P own_m18 := ⟨plainFor_of_name own_pn1, (hw _ (List.mem_of_getElem? (i := 219) rfl)), own_rk18, List.forall_mem_cons.mpr ⟨own_e6 (c := own_k0) (R0 := "evenkeel/group/SpreadSearch") rfl rfl (hw _ (List.mem_of_getElem? (i := 53) rfl)) Via.refl (fun _ => Or.inl (hw _ (List.mem_of_getElem? (i := 54) rfl))),
    List.forall_mem_cons.mpr ⟨own_e6 (c := own_k0) (R0 := "evenkeel/group/SpreadSearch") rfl rfl (hw _ (List.mem_of_getElem? (i := 57) rfl)) Via.refl (fun _ => Or.inl (hw _ (List.mem_of_getElem? (i := 58) rfl))),
    List.forall_mem_cons.mpr ⟨own_e6 (c := own_k0) (R0 := "evenkeel/group/SpreadSearch") rfl rfl (hw _ (List.mem_of_getElem? (i := 59) rfl)) Via.refl (fun _ => Or.inl (hw _ (List.mem_of_getElem? (i := 60) rfl))),
    List.forall_mem_cons.mpr ⟨own_e6 (c := own_k0) (R0 := "evenkeel/group/SpreadSearch") rfl rfl (hw _ (List.mem_of_getElem? (i := 61) rfl)) Via.refl (fun _ => Or.inl (hw _ (List.mem_of_getElem? (i := 62) rfl))),
    List.forall_mem_cons.mpr ⟨own_e6 (c := own_k0) (R0 := "evenkeel/group/SpreadSearch") rfl rfl (hw _ (List.mem_of_getElem? (i := 63) rfl)) Via.refl (fun _ => Or.inl (hw _ (List.mem_of_getElem? (i := 64) rfl))),
    List.forall_mem_cons.mpr ⟨own_e6 (c := own_k0) (R0 := "evenkeel/group/SpreadSearch") rfl rfl (hw _ (List.mem_of_getElem? (i := 65) rfl)) Via.refl (fun _ => Or.inl (hw _ (List.mem_of_getElem? (i := 66) rfl))),
    List.forall_mem_cons.mpr ⟨own_e6 (c := own_k0) (R0 := "evenkeel/group/SpreadSearch") rfl rfl (hw _ (List.mem_of_getElem? (i := 75) rfl)) Via.refl (fun _ => Or.inl (hw _ (List.mem_of_getElem? (i := 76) rfl))),
    List.forall_mem_cons.mpr ⟨own_e6 (c := own_k0) (R0 := "evenkeel/group/SpreadSearch") rfl rfl (hw _ (List.mem_of_getElem? (i := 77) rfl)) Via.refl (fun _ => Or.inl (hw _ (List.mem_of_getElem? (i := 78) rfl))),
    List.forall_mem_cons.mpr ⟨own_e6 (c := own_k0) (R0 := "evenkeel/group/SpreadSearch") rfl rfl (hw _ (List.mem_of_getElem? (i := 91) rfl)) Via.refl (fun _ => Or.inl (hw _ (List.mem_of_getElem? (i := 92) rfl))),
    List.forall_mem_cons.mpr ⟨own_e6 (c := own_k0) (R0 := "evenkeel/group/SpreadSearch") rfl rfl (hw _ (List.mem_of_getElem? (i := 93) rfl)) Via.refl (fun _ => Or.inl (hw _ (List.mem_of_getElem? (i := 94) rfl))),
    List.forall_mem_cons.mpr ⟨own_e6 (c := own_k0) (R0 := "evenkeel/group/SpreadSearch") rfl rfl (hw _ (List.mem_of_getElem? (i := 152) rfl)) Via.refl (fun _ => Or.inl (hw _ (List.mem_of_getElem? (i := 153) rfl))),
    List.forall_mem_cons.mpr ⟨own_e6 (c := own_k0) (R0 := "evenkeel/group/SpreadSearch") rfl rfl (hw _ (List.mem_of_getElem? (i := 132) rfl)) Via.refl (fun _ => Or.inl (hw _ (List.mem_of_getElem? (i := 133) rfl))),
    List.forall_mem_cons.mpr ⟨own_e6 (c := own_k0) (R0 := "evenkeel/group/SpreadSearch") rfl rfl (hw _ (List.mem_of_getElem? (i := 134) rfl)) Via.refl (fun _ => Or.inl (hw _ (List.mem_of_getElem? (i := 135) rfl))),
    List.forall_mem_cons.mpr ⟨own_e6 (c := own_k0) (R0 := "evenkeel/group/SpreadSearch") rfl rfl (hw _ (List.mem_of_getElem? (i := 136) rfl)) Via.refl (fun _ => Or.inl (hw _ (List.mem_of_getElem? (i := 137) rfl))),
    List.forall_mem_cons.mpr ⟨own_e6 (c := own_k0) (R0 := "evenkeel/group/SpreadSearch") rfl rfl (hw _ (List.mem_of_getElem? (i := 150) rfl)) Via.refl (fun _ => Or.inl (hw _ (List.mem_of_getElem? (i := 151) rfl))),
    List.forall_mem_cons.mpr ⟨own_e0 (mj := own_m19) rfl (hw _ (List.mem_of_getElem? (i := 222) rfl)) (hw _ (List.mem_of_getElem? (i := 223) rfl)) (hw _ (List.mem_of_getElem? (i := 166) rfl)) ⟨by decide, by decide⟩ ⟨_, _, own_pd16, rfl⟩,
    List.forall_mem_cons.mpr ⟨own_e6 (c := own_k0) (R0 := "evenkeel/group/SpreadSearch") rfl rfl (hw _ (List.mem_of_getElem? (i := 146) rfl)) Via.refl (fun _ => Or.inl (hw _ (List.mem_of_getElem? (i := 147) rfl))),
    List.forall_mem_cons.mpr ⟨own_e10 (hw _ (List.mem_of_getElem? (i := 188) rfl)) (hw _ (List.mem_of_getElem? (i := 191) rfl)) (hw _ (List.mem_of_getElem? (i := 189) rfl)) (hw _ (List.mem_of_getElem? (i := 190) rfl)),
    List.forall_mem_cons.mpr ⟨own_e6 (c := own_k0) (R0 := "evenkeel/group/SpreadSearch") rfl rfl (hw _ (List.mem_of_getElem? (i := 247) rfl)) (Via.of (hw _ (List.mem_of_getElem? (i := 248) rfl))) (fun _ => Or.inl (hw _ (List.mem_of_getElem? (i := 20) rfl))),
    List.forall_mem_cons.mpr ⟨own_e9 (by decide) (hw _ (List.mem_of_getElem? (i := 221) rfl)),
    List.forall_mem_cons.mpr ⟨own_e9 (by decide) (hw _ (List.mem_of_getElem? (i := 220) rfl)),
    List.forall_mem_cons.mpr ⟨own_e0 (mj := own_m25) rfl (hw _ (List.mem_of_getElem? (i := 249) rfl)) (hw _ (List.mem_of_getElem? (i := 250) rfl)) (hw _ (List.mem_of_getElem? (i := 7) rfl)) ⟨by decide, by decide⟩ ⟨_, _, own_pd22, rfl⟩,
    List.forall_mem_cons.mpr ⟨own_e0 (mj := own_m12) rfl (hw _ (List.mem_of_getElem? (i := 185) rfl)) (hw _ (List.mem_of_getElem? (i := 186) rfl)) (hw _ (List.mem_of_getElem? (i := 170) rfl)) ⟨by decide, by decide⟩ ⟨_, _, own_pd17, rfl⟩,
    List.forall_mem_cons.mpr ⟨own_e6 (c := own_k0) (R0 := "evenkeel/group/SpreadSearch") rfl rfl (hw _ (List.mem_of_getElem? (i := 204) rfl)) Via.refl (fun _ => Or.inl (hw _ (List.mem_of_getElem? (i := 205) rfl))),
    List.forall_mem_cons.mpr ⟨own_e4 (mj := own_m20) rfl (hw _ (List.mem_of_getElem? (i := 225) rfl)) (hw _ (List.mem_of_getElem? (i := 226) rfl)) (hw _ (List.mem_of_getElem? (i := 227) rfl)) (fun s hZ => own_nf (y := ⟨"evenkeel/group/SpreadSearch", "fillColumn", "(I[JI)I"⟩) (y' := ⟨"evenkeel/group/SpreadSearch", "spreadAtLevels", "(II[I[I[I[I[I[J[J[I)Z"⟩) rfl (mvT (args := #[]) hZ (hw _ (List.mem_of_getElem? (i := 122) rfl)))) (hw _ (List.mem_of_getElem? (i := 7) rfl)) ⟨by decide, by decide⟩ ⟨_, _, own_pd21, rfl⟩,
    List.forall_mem_cons.mpr ⟨own_e6 (c := own_k0) (R0 := "evenkeel/group/SpreadSearch") rfl rfl (hw _ (List.mem_of_getElem? (i := 237) rfl)) Via.refl (fun _ => Or.inl (hw _ (List.mem_of_getElem? (i := 238) rfl))),
    List.forall_mem_cons.mpr ⟨own_e4 (mj := own_m23) rfl (hw _ (List.mem_of_getElem? (i := 239) rfl)) (hw _ (List.mem_of_getElem? (i := 240) rfl)) (hw _ (List.mem_of_getElem? (i := 241) rfl)) (fun s hZ => own_nf (y := ⟨"evenkeel/group/SpreadSearch", "placeInColumns", "()V"⟩) (y' := ⟨"evenkeel/group/SpreadSearch", "spreadAtLevels", "(II[I[I[I[I[I[J[J[I)Z"⟩) rfl (mvT (args := #[]) hZ (hw _ (List.mem_of_getElem? (i := 122) rfl)))) (hw _ (List.mem_of_getElem? (i := 7) rfl)) ⟨by decide, by decide⟩ ⟨_, _, own_pd0, rfl⟩,
    List.forall_mem_cons.mpr ⟨own_e4 (mj := own_m26) rfl (hw _ (List.mem_of_getElem? (i := 252) rfl)) (hw _ (List.mem_of_getElem? (i := 253) rfl)) (hw _ (List.mem_of_getElem? (i := 254) rfl)) (fun s hZ => own_nf (y := ⟨"evenkeel/group/SpreadSearch", "spreadWhatIsLeft", "()Z"⟩) (y' := ⟨"evenkeel/group/SpreadSearch", "spreadAtLevels", "(II[I[I[I[I[I[J[J[I)Z"⟩) rfl (mvT (args := #[]) hZ (hw _ (List.mem_of_getElem? (i := 122) rfl)))) (hw _ (List.mem_of_getElem? (i := 7) rfl)) ⟨by decide, by decide⟩ ⟨_, _, own_pd23, rfl⟩,
    List.forall_mem_nil _⟩⟩⟩⟩⟩⟩⟩⟩⟩⟩⟩⟩⟩⟩⟩⟩⟩⟩⟩⟩⟩⟩⟩⟩⟩⟩⟩⟩⟩
set_option maxRecDepth 65536 in
theorem own_g19 {Z : State} {a0 : Array Value} (hw : own_hw Z a0) : own_okM Z a0 own_P own_m19 := ⟨plainFor_of_name own_pn3, (hw _ (List.mem_of_getElem? (i := 224) rfl)), own_rk19, List.forall_mem_nil _⟩
set_option maxRecDepth 65536 in
theorem own_g20 {Z : State} {a0 : Array Value} (hw : own_hw Z a0) : own_okM Z a0 own_P own_m20 := ⟨plainFor_of_name own_pn1, (hw _ (List.mem_of_getElem? (i := 228) rfl)), own_rk20, List.forall_mem_cons.mpr ⟨own_e6 (c := own_k0) (R0 := "evenkeel/group/SpreadSearch") rfl rfl (hw _ (List.mem_of_getElem? (i := 152) rfl)) Via.refl (fun _ => Or.inl (hw _ (List.mem_of_getElem? (i := 153) rfl))),
    List.forall_mem_cons.mpr ⟨own_e6 (c := own_k0) (R0 := "evenkeel/group/SpreadSearch") rfl rfl (hw _ (List.mem_of_getElem? (i := 138) rfl)) Via.refl (fun _ => Or.inl (hw _ (List.mem_of_getElem? (i := 139) rfl))),
    List.forall_mem_cons.mpr ⟨own_e0 (mj := own_m21) rfl (hw _ (List.mem_of_getElem? (i := 229) rfl)) (hw _ (List.mem_of_getElem? (i := 230) rfl)) (hw _ (List.mem_of_getElem? (i := 231) rfl)) ⟨by decide, by decide⟩ ⟨_, _, own_pd24, rfl⟩,
    List.forall_mem_cons.mpr ⟨own_e6 (c := own_k0) (R0 := "evenkeel/group/SpreadSearch") rfl rfl (hw _ (List.mem_of_getElem? (i := 204) rfl)) Via.refl (fun _ => Or.inl (hw _ (List.mem_of_getElem? (i := 205) rfl))),
    List.forall_mem_cons.mpr ⟨own_e4 (mj := own_m22) rfl (hw _ (List.mem_of_getElem? (i := 233) rfl)) (hw _ (List.mem_of_getElem? (i := 234) rfl)) (hw _ (List.mem_of_getElem? (i := 235) rfl)) (fun s hZ => own_nf (y := ⟨"evenkeel/group/SpreadSearch", "fillCells", "(III[JI)I"⟩) (y' := ⟨"evenkeel/group/SpreadSearch", "spreadAtLevels", "(II[I[I[I[I[I[J[J[I)Z"⟩) rfl (mvT (args := #[]) hZ (hw _ (List.mem_of_getElem? (i := 122) rfl)))) (hw _ (List.mem_of_getElem? (i := 7) rfl)) ⟨by decide, by decide⟩ ⟨_, _, own_pd25, rfl⟩,
    List.forall_mem_nil _⟩⟩⟩⟩⟩⟩
set_option maxRecDepth 65536 in
theorem own_g21 {Z : State} {a0 : Array Value} (hw : own_hw Z a0) : own_okM Z a0 own_P own_m21 := ⟨own_pf21, (hw _ (List.mem_of_getElem? (i := 232) rfl)), own_rk21, List.forall_mem_nil _⟩
set_option maxRecDepth 65536 in
theorem own_g22 {Z : State} {a0 : Array Value} (hw : own_hw Z a0) : own_okM Z a0 own_P own_m22 := ⟨plainFor_of_name own_pn1, (hw _ (List.mem_of_getElem? (i := 236) rfl)), own_rk22, List.forall_mem_cons.mpr ⟨own_e6 (c := own_k0) (R0 := "evenkeel/group/SpreadSearch") rfl rfl (hw _ (List.mem_of_getElem? (i := 51) rfl)) Via.refl (fun _ => Or.inl (hw _ (List.mem_of_getElem? (i := 52) rfl))),
    List.forall_mem_cons.mpr ⟨own_e6 (c := own_k0) (R0 := "evenkeel/group/SpreadSearch") rfl rfl (hw _ (List.mem_of_getElem? (i := 59) rfl)) Via.refl (fun _ => Or.inl (hw _ (List.mem_of_getElem? (i := 60) rfl))),
    List.forall_mem_cons.mpr ⟨own_e6 (c := own_k0) (R0 := "evenkeel/group/SpreadSearch") rfl rfl (hw _ (List.mem_of_getElem? (i := 61) rfl)) Via.refl (fun _ => Or.inl (hw _ (List.mem_of_getElem? (i := 62) rfl))),
    List.forall_mem_cons.mpr ⟨own_e6 (c := own_k0) (R0 := "evenkeel/group/SpreadSearch") rfl rfl (hw _ (List.mem_of_getElem? (i := 63) rfl)) Via.refl (fun _ => Or.inl (hw _ (List.mem_of_getElem? (i := 64) rfl))),
    List.forall_mem_cons.mpr ⟨own_e6 (c := own_k0) (R0 := "evenkeel/group/SpreadSearch") rfl rfl (hw _ (List.mem_of_getElem? (i := 65) rfl)) Via.refl (fun _ => Or.inl (hw _ (List.mem_of_getElem? (i := 66) rfl))),
    List.forall_mem_cons.mpr ⟨own_e6 (c := own_k0) (R0 := "evenkeel/group/SpreadSearch") rfl rfl (hw _ (List.mem_of_getElem? (i := 75) rfl)) Via.refl (fun _ => Or.inl (hw _ (List.mem_of_getElem? (i := 76) rfl))),
    List.forall_mem_cons.mpr ⟨own_e6 (c := own_k0) (R0 := "evenkeel/group/SpreadSearch") rfl rfl (hw _ (List.mem_of_getElem? (i := 93) rfl)) Via.refl (fun _ => Or.inl (hw _ (List.mem_of_getElem? (i := 94) rfl))),
    List.forall_mem_cons.mpr ⟨own_e6 (c := own_k0) (R0 := "evenkeel/group/SpreadSearch") rfl rfl (hw _ (List.mem_of_getElem? (i := 152) rfl)) Via.refl (fun _ => Or.inl (hw _ (List.mem_of_getElem? (i := 153) rfl))),
    List.forall_mem_cons.mpr ⟨own_e6 (c := own_k0) (R0 := "evenkeel/group/SpreadSearch") rfl rfl (hw _ (List.mem_of_getElem? (i := 132) rfl)) Via.refl (fun _ => Or.inl (hw _ (List.mem_of_getElem? (i := 133) rfl))),
    List.forall_mem_cons.mpr ⟨own_e6 (c := own_k0) (R0 := "evenkeel/group/SpreadSearch") rfl rfl (hw _ (List.mem_of_getElem? (i := 136) rfl)) Via.refl (fun _ => Or.inl (hw _ (List.mem_of_getElem? (i := 137) rfl))),
    List.forall_mem_cons.mpr ⟨own_e6 (c := own_k0) (R0 := "evenkeel/group/SpreadSearch") rfl rfl (hw _ (List.mem_of_getElem? (i := 146) rfl)) Via.refl (fun _ => Or.inl (hw _ (List.mem_of_getElem? (i := 147) rfl))),
    List.forall_mem_cons.mpr ⟨own_e6 (c := own_k0) (R0 := "evenkeel/group/SpreadSearch") rfl rfl (hw _ (List.mem_of_getElem? (i := 144) rfl)) Via.refl (fun _ => Or.inl (hw _ (List.mem_of_getElem? (i := 145) rfl))),
    List.forall_mem_cons.mpr ⟨own_e6 (c := own_k0) (R0 := "evenkeel/group/SpreadSearch") rfl rfl (hw _ (List.mem_of_getElem? (i := 140) rfl)) Via.refl (fun _ => Or.inl (hw _ (List.mem_of_getElem? (i := 141) rfl))),
    List.forall_mem_cons.mpr ⟨own_e6 (c := own_k0) (R0 := "evenkeel/group/SpreadSearch") rfl rfl (hw _ (List.mem_of_getElem? (i := 142) rfl)) Via.refl (fun _ => Or.inl (hw _ (List.mem_of_getElem? (i := 143) rfl))),
    List.forall_mem_cons.mpr ⟨own_e0 (mj := own_m25) rfl (hw _ (List.mem_of_getElem? (i := 249) rfl)) (hw _ (List.mem_of_getElem? (i := 250) rfl)) (hw _ (List.mem_of_getElem? (i := 7) rfl)) ⟨by decide, by decide⟩ ⟨_, _, own_pd22, rfl⟩,
    List.forall_mem_nil _⟩⟩⟩⟩⟩⟩⟩⟩⟩⟩⟩⟩⟩⟩⟩⟩
set_option maxRecDepth 65536 in
theorem own_g23 {Z : State} {a0 : Array Value} (hw : own_hw Z a0) : own_okM Z a0 own_P own_m23 := ⟨plainFor_of_name own_pn1, (hw _ (List.mem_of_getElem? (i := 242) rfl)), own_rk23, List.forall_mem_cons.mpr ⟨own_e6 (c := own_k0) (R0 := "evenkeel/group/SpreadSearch") rfl rfl (hw _ (List.mem_of_getElem? (i := 134) rfl)) Via.refl (fun _ => Or.inl (hw _ (List.mem_of_getElem? (i := 135) rfl))),
    List.forall_mem_cons.mpr ⟨own_e4 (mj := own_m24) rfl (hw _ (List.mem_of_getElem? (i := 243) rfl)) (hw _ (List.mem_of_getElem? (i := 244) rfl)) (hw _ (List.mem_of_getElem? (i := 245) rfl)) (fun s hZ => own_nf (y := ⟨"evenkeel/group/SpreadSearch", "placeInColumn", "(II)I"⟩) (y' := ⟨"evenkeel/group/SpreadSearch", "spreadAtLevels", "(II[I[I[I[I[I[J[J[I)Z"⟩) rfl (mvT (args := #[]) hZ (hw _ (List.mem_of_getElem? (i := 122) rfl)))) (hw _ (List.mem_of_getElem? (i := 7) rfl)) ⟨by decide, by decide⟩ ⟨_, _, own_pd24, rfl⟩,
    List.forall_mem_nil _⟩⟩⟩
set_option maxRecDepth 65536 in
theorem own_g24 {Z : State} {a0 : Array Value} (hw : own_hw Z a0) : own_okM Z a0 own_P own_m24 := ⟨plainFor_of_name own_pn1, (hw _ (List.mem_of_getElem? (i := 246) rfl)), own_rk24, List.forall_mem_cons.mpr ⟨own_e6 (c := own_k0) (R0 := "evenkeel/group/SpreadSearch") rfl rfl (hw _ (List.mem_of_getElem? (i := 51) rfl)) Via.refl (fun _ => Or.inl (hw _ (List.mem_of_getElem? (i := 52) rfl))),
    List.forall_mem_cons.mpr ⟨own_e6 (c := own_k0) (R0 := "evenkeel/group/SpreadSearch") rfl rfl (hw _ (List.mem_of_getElem? (i := 59) rfl)) Via.refl (fun _ => Or.inl (hw _ (List.mem_of_getElem? (i := 60) rfl))),
    List.forall_mem_cons.mpr ⟨own_e6 (c := own_k0) (R0 := "evenkeel/group/SpreadSearch") rfl rfl (hw _ (List.mem_of_getElem? (i := 65) rfl)) Via.refl (fun _ => Or.inl (hw _ (List.mem_of_getElem? (i := 66) rfl))),
    List.forall_mem_cons.mpr ⟨own_e6 (c := own_k0) (R0 := "evenkeel/group/SpreadSearch") rfl rfl (hw _ (List.mem_of_getElem? (i := 91) rfl)) Via.refl (fun _ => Or.inl (hw _ (List.mem_of_getElem? (i := 92) rfl))),
    List.forall_mem_cons.mpr ⟨own_e6 (c := own_k0) (R0 := "evenkeel/group/SpreadSearch") rfl rfl (hw _ (List.mem_of_getElem? (i := 93) rfl)) Via.refl (fun _ => Or.inl (hw _ (List.mem_of_getElem? (i := 94) rfl))),
    List.forall_mem_cons.mpr ⟨own_e6 (c := own_k0) (R0 := "evenkeel/group/SpreadSearch") rfl rfl (hw _ (List.mem_of_getElem? (i := 152) rfl)) Via.refl (fun _ => Or.inl (hw _ (List.mem_of_getElem? (i := 153) rfl))),
    List.forall_mem_cons.mpr ⟨own_e4 (mj := own_m60) rfl (hw _ (List.mem_of_getElem? (i := 419) rfl)) (hw _ (List.mem_of_getElem? (i := 420) rfl)) (hw _ (List.mem_of_getElem? (i := 421) rfl)) (fun s hZ => own_nf (y := ⟨"evenkeel/group/SpreadSearch", "placeInDenseColumn", "(II)I"⟩) (y' := ⟨"evenkeel/group/SpreadSearch", "spreadAtLevels", "(II[I[I[I[I[I[J[J[I)Z"⟩) rfl (mvT (args := #[]) hZ (hw _ (List.mem_of_getElem? (i := 122) rfl)))) (hw _ (List.mem_of_getElem? (i := 7) rfl)) ⟨by decide, by decide⟩ ⟨_, _, own_pd24, rfl⟩,
    List.forall_mem_cons.mpr ⟨own_e4 (mj := own_m32) rfl (hw _ (List.mem_of_getElem? (i := 278) rfl)) (hw _ (List.mem_of_getElem? (i := 279) rfl)) (hw _ (List.mem_of_getElem? (i := 280) rfl)) (fun s hZ => own_nf (y := ⟨"evenkeel/group/SpreadSearch", "placeIn", "(IIIJ)V"⟩) (y' := ⟨"evenkeel/group/SpreadSearch", "spreadAtLevels", "(II[I[I[I[I[I[J[J[I)Z"⟩) rfl (mvT (args := #[]) hZ (hw _ (List.mem_of_getElem? (i := 122) rfl)))) (hw _ (List.mem_of_getElem? (i := 7) rfl)) ⟨by decide, by decide⟩ ⟨_, _, own_pd26, rfl⟩,
    List.forall_mem_nil _⟩⟩⟩⟩⟩⟩⟩⟩⟩
set_option maxRecDepth 65536 in
theorem own_g25 {Z : State} {a0 : Array Value} (hw : own_hw Z a0) : own_okM Z a0 own_P own_m25 := ⟨plainFor_of_name own_pn1, (hw _ (List.mem_of_getElem? (i := 251) rfl)), own_rk25, List.forall_mem_cons.mpr ⟨own_e9 (by decide) (hw _ (List.mem_of_getElem? (i := 210) rfl)),
    List.forall_mem_nil _⟩⟩
set_option maxRecDepth 65536 in
theorem own_g26 {Z : State} {a0 : Array Value} (hw : own_hw Z a0) : own_okM Z a0 own_P own_m26 := ⟨plainFor_of_name own_pn1, (hw _ (List.mem_of_getElem? (i := 255) rfl)), own_rk26, List.forall_mem_cons.mpr ⟨own_e6 (c := own_k0) (R0 := "evenkeel/group/SpreadSearch") rfl rfl (hw _ (List.mem_of_getElem? (i := 59) rfl)) Via.refl (fun _ => Or.inl (hw _ (List.mem_of_getElem? (i := 60) rfl))),
    List.forall_mem_cons.mpr ⟨own_e6 (c := own_k0) (R0 := "evenkeel/group/SpreadSearch") rfl rfl (hw _ (List.mem_of_getElem? (i := 79) rfl)) Via.refl (fun _ => Or.inl (hw _ (List.mem_of_getElem? (i := 80) rfl))),
    List.forall_mem_cons.mpr ⟨own_e6 (c := own_k0) (R0 := "evenkeel/group/SpreadSearch") rfl rfl (hw _ (List.mem_of_getElem? (i := 83) rfl)) Via.refl (fun _ => Or.inl (hw _ (List.mem_of_getElem? (i := 84) rfl))),
    List.forall_mem_cons.mpr ⟨own_e6 (c := own_k0) (R0 := "evenkeel/group/SpreadSearch") rfl rfl (hw _ (List.mem_of_getElem? (i := 85) rfl)) Via.refl (fun _ => Or.inl (hw _ (List.mem_of_getElem? (i := 86) rfl))),
    List.forall_mem_cons.mpr ⟨own_e6 (c := own_k0) (R0 := "evenkeel/group/SpreadSearch") rfl rfl (hw _ (List.mem_of_getElem? (i := 134) rfl)) Via.refl (fun _ => Or.inl (hw _ (List.mem_of_getElem? (i := 135) rfl))),
    List.forall_mem_cons.mpr ⟨own_e4 (mj := own_m27) rfl (hw _ (List.mem_of_getElem? (i := 256) rfl)) (hw _ (List.mem_of_getElem? (i := 257) rfl)) (hw _ (List.mem_of_getElem? (i := 258) rfl)) (fun s hZ => own_nf (y := ⟨"evenkeel/group/SpreadSearch", "listPlacing", "()V"⟩) (y' := ⟨"evenkeel/group/SpreadSearch", "spreadAtLevels", "(II[I[I[I[I[I[J[J[I)Z"⟩) rfl (mvT (args := #[]) hZ (hw _ (List.mem_of_getElem? (i := 122) rfl)))) (hw _ (List.mem_of_getElem? (i := 7) rfl)) ⟨by decide, by decide⟩ ⟨_, _, own_pd0, rfl⟩,
    List.forall_mem_cons.mpr ⟨own_e6 (c := own_k0) (R0 := "evenkeel/group/SpreadSearch") rfl rfl (hw _ (List.mem_of_getElem? (i := 260) rfl)) Via.refl (fun _ => Or.inl (hw _ (List.mem_of_getElem? (i := 261) rfl))),
    List.forall_mem_cons.mpr ⟨own_e4 (mj := own_m28) rfl (hw _ (List.mem_of_getElem? (i := 262) rfl)) (hw _ (List.mem_of_getElem? (i := 263) rfl)) (hw _ (List.mem_of_getElem? (i := 264) rfl)) (fun s hZ => own_nf (y := ⟨"evenkeel/group/SpreadSearch", "startPlacing", "()V"⟩) (y' := ⟨"evenkeel/group/SpreadSearch", "spreadAtLevels", "(II[I[I[I[I[I[J[J[I)Z"⟩) rfl (mvT (args := #[]) hZ (hw _ (List.mem_of_getElem? (i := 122) rfl)))) (hw _ (List.mem_of_getElem? (i := 7) rfl)) ⟨by decide, by decide⟩ ⟨_, _, own_pd0, rfl⟩,
    List.forall_mem_cons.mpr ⟨own_e4 (mj := own_m29) rfl (hw _ (List.mem_of_getElem? (i := 266) rfl)) (hw _ (List.mem_of_getElem? (i := 267) rfl)) (hw _ (List.mem_of_getElem? (i := 268) rfl)) (fun s hZ => own_nf (y := ⟨"evenkeel/group/SpreadSearch", "countOpenIn", "(I)V"⟩) (y' := ⟨"evenkeel/group/SpreadSearch", "spreadAtLevels", "(II[I[I[I[I[I[J[J[I)Z"⟩) rfl (mvT (args := #[]) hZ (hw _ (List.mem_of_getElem? (i := 122) rfl)))) (hw _ (List.mem_of_getElem? (i := 7) rfl)) ⟨by decide, by decide⟩ ⟨_, _, own_pd13, rfl⟩,
    List.forall_mem_cons.mpr ⟨own_e4 (mj := own_m31) rfl (hw _ (List.mem_of_getElem? (i := 274) rfl)) (hw _ (List.mem_of_getElem? (i := 275) rfl)) (hw _ (List.mem_of_getElem? (i := 276) rfl)) (fun s hZ => own_nf (y := ⟨"evenkeel/group/SpreadSearch", "spreadIn", "(I)V"⟩) (y' := ⟨"evenkeel/group/SpreadSearch", "spreadAtLevels", "(II[I[I[I[I[I[J[J[I)Z"⟩) rfl (mvT (args := #[]) hZ (hw _ (List.mem_of_getElem? (i := 122) rfl)))) (hw _ (List.mem_of_getElem? (i := 7) rfl)) ⟨by decide, by decide⟩ ⟨_, _, own_pd13, rfl⟩,
    List.forall_mem_nil _⟩⟩⟩⟩⟩⟩⟩⟩⟩⟩⟩
set_option maxRecDepth 65536 in
theorem own_g27 {Z : State} {a0 : Array Value} (hw : own_hw Z a0) : own_okM Z a0 own_P own_m27 := ⟨plainFor_of_name own_pn1, (hw _ (List.mem_of_getElem? (i := 259) rfl)), own_rk27, List.forall_mem_cons.mpr ⟨own_e6 (c := own_k0) (R0 := "evenkeel/group/SpreadSearch") rfl rfl (hw _ (List.mem_of_getElem? (i := 59) rfl)) Via.refl (fun _ => Or.inl (hw _ (List.mem_of_getElem? (i := 60) rfl))),
    List.forall_mem_cons.mpr ⟨own_e6 (c := own_k0) (R0 := "evenkeel/group/SpreadSearch") rfl rfl (hw _ (List.mem_of_getElem? (i := 79) rfl)) Via.refl (fun _ => Or.inl (hw _ (List.mem_of_getElem? (i := 80) rfl))),
    List.forall_mem_cons.mpr ⟨own_e6 (c := own_k0) (R0 := "evenkeel/group/SpreadSearch") rfl rfl (hw _ (List.mem_of_getElem? (i := 132) rfl)) Via.refl (fun _ => Or.inl (hw _ (List.mem_of_getElem? (i := 133) rfl))),
    List.forall_mem_cons.mpr ⟨own_e6 (c := own_k0) (R0 := "evenkeel/group/SpreadSearch") rfl rfl (hw _ (List.mem_of_getElem? (i := 260) rfl)) Via.refl (fun _ => Or.inl (hw _ (List.mem_of_getElem? (i := 261) rfl))),
    List.forall_mem_nil _⟩⟩⟩⟩⟩
set_option maxRecDepth 65536 in
theorem own_g28 {Z : State} {a0 : Array Value} (hw : own_hw Z a0) : own_okM Z a0 own_P own_m28 := ⟨plainFor_of_name own_pn1, (hw _ (List.mem_of_getElem? (i := 265) rfl)), own_rk28, List.forall_mem_cons.mpr ⟨own_e6 (c := own_k0) (R0 := "evenkeel/group/SpreadSearch") rfl rfl (hw _ (List.mem_of_getElem? (i := 45) rfl)) Via.refl (fun _ => Or.inl (hw _ (List.mem_of_getElem? (i := 46) rfl))),
    List.forall_mem_cons.mpr ⟨own_e6 (c := own_k0) (R0 := "evenkeel/group/SpreadSearch") rfl rfl (hw _ (List.mem_of_getElem? (i := 79) rfl)) Via.refl (fun _ => Or.inl (hw _ (List.mem_of_getElem? (i := 80) rfl))),
    List.forall_mem_cons.mpr ⟨own_e6 (c := own_k0) (R0 := "evenkeel/group/SpreadSearch") rfl rfl (hw _ (List.mem_of_getElem? (i := 87) rfl)) Via.refl (fun _ => Or.inl (hw _ (List.mem_of_getElem? (i := 88) rfl))),
    List.forall_mem_cons.mpr ⟨own_e6 (c := own_k0) (R0 := "evenkeel/group/SpreadSearch") rfl rfl (hw _ (List.mem_of_getElem? (i := 152) rfl)) Via.refl (fun _ => Or.inl (hw _ (List.mem_of_getElem? (i := 153) rfl))),
    List.forall_mem_cons.mpr ⟨own_e6 (c := own_k0) (R0 := "evenkeel/group/SpreadSearch") rfl rfl (hw _ (List.mem_of_getElem? (i := 260) rfl)) Via.refl (fun _ => Or.inl (hw _ (List.mem_of_getElem? (i := 261) rfl))),
    List.forall_mem_nil _⟩⟩⟩⟩⟩⟩
set_option maxRecDepth 65536 in
theorem own_g29 {Z : State} {a0 : Array Value} (hw : own_hw Z a0) : own_okM Z a0 own_P own_m29 := ⟨plainFor_of_name own_pn1, (hw _ (List.mem_of_getElem? (i := 269) rfl)), own_rk29, List.forall_mem_cons.mpr ⟨own_e6 (c := own_k0) (R0 := "evenkeel/group/SpreadSearch") rfl rfl (hw _ (List.mem_of_getElem? (i := 53) rfl)) Via.refl (fun _ => Or.inl (hw _ (List.mem_of_getElem? (i := 54) rfl))),
    List.forall_mem_cons.mpr ⟨own_e6 (c := own_k0) (R0 := "evenkeel/group/SpreadSearch") rfl rfl (hw _ (List.mem_of_getElem? (i := 79) rfl)) Via.refl (fun _ => Or.inl (hw _ (List.mem_of_getElem? (i := 80) rfl))),
    List.forall_mem_cons.mpr ⟨own_e6 (c := own_k0) (R0 := "evenkeel/group/SpreadSearch") rfl rfl (hw _ (List.mem_of_getElem? (i := 83) rfl)) Via.refl (fun _ => Or.inl (hw _ (List.mem_of_getElem? (i := 84) rfl))),
    List.forall_mem_cons.mpr ⟨own_e6 (c := own_k0) (R0 := "evenkeel/group/SpreadSearch") rfl rfl (hw _ (List.mem_of_getElem? (i := 152) rfl)) Via.refl (fun _ => Or.inl (hw _ (List.mem_of_getElem? (i := 153) rfl))),
    List.forall_mem_cons.mpr ⟨own_e6 (c := own_k0) (R0 := "evenkeel/group/SpreadSearch") rfl rfl (hw _ (List.mem_of_getElem? (i := 132) rfl)) Via.refl (fun _ => Or.inl (hw _ (List.mem_of_getElem? (i := 133) rfl))),
    List.forall_mem_cons.mpr ⟨own_e6 (c := own_k0) (R0 := "evenkeel/group/SpreadSearch") rfl rfl (hw _ (List.mem_of_getElem? (i := 136) rfl)) Via.refl (fun _ => Or.inl (hw _ (List.mem_of_getElem? (i := 137) rfl))),
    List.forall_mem_cons.mpr ⟨own_e6 (c := own_k0) (R0 := "evenkeel/group/SpreadSearch") rfl rfl (hw _ (List.mem_of_getElem? (i := 146) rfl)) Via.refl (fun _ => Or.inl (hw _ (List.mem_of_getElem? (i := 147) rfl))),
    List.forall_mem_cons.mpr ⟨own_e6 (c := own_k0) (R0 := "evenkeel/group/SpreadSearch") rfl rfl (hw _ (List.mem_of_getElem? (i := 260) rfl)) Via.refl (fun _ => Or.inl (hw _ (List.mem_of_getElem? (i := 261) rfl))),
    List.forall_mem_cons.mpr ⟨own_e4 (mj := own_m30) rfl (hw _ (List.mem_of_getElem? (i := 270) rfl)) (hw _ (List.mem_of_getElem? (i := 271) rfl)) (hw _ (List.mem_of_getElem? (i := 272) rfl)) (fun s hZ => own_nf (y := ⟨"evenkeel/group/SpreadSearch", "placedCell", "(II)I"⟩) (y' := ⟨"evenkeel/group/SpreadSearch", "spreadAtLevels", "(II[I[I[I[I[I[J[J[I)Z"⟩) rfl (mvT (args := #[]) hZ (hw _ (List.mem_of_getElem? (i := 122) rfl)))) (hw _ (List.mem_of_getElem? (i := 7) rfl)) ⟨by decide, by decide⟩ ⟨_, _, own_pd24, rfl⟩,
    List.forall_mem_cons.mpr ⟨own_e6 (c := own_k0) (R0 := "evenkeel/group/SpreadSearch") rfl rfl (hw _ (List.mem_of_getElem? (i := 144) rfl)) Via.refl (fun _ => Or.inl (hw _ (List.mem_of_getElem? (i := 145) rfl))),
    List.forall_mem_nil _⟩⟩⟩⟩⟩⟩⟩⟩⟩⟩⟩
set_option maxRecDepth 65536 in
theorem own_g30 {Z : State} {a0 : Array Value} (hw : own_hw Z a0) : own_okM Z a0 own_P own_m30 := ⟨plainFor_of_name own_pn1, (hw _ (List.mem_of_getElem? (i := 273) rfl)), own_rk30, List.forall_mem_cons.mpr ⟨own_e6 (c := own_k0) (R0 := "evenkeel/group/SpreadSearch") rfl rfl (hw _ (List.mem_of_getElem? (i := 45) rfl)) Via.refl (fun _ => Or.inl (hw _ (List.mem_of_getElem? (i := 46) rfl))),
    List.forall_mem_cons.mpr ⟨own_e6 (c := own_k0) (R0 := "evenkeel/group/SpreadSearch") rfl rfl (hw _ (List.mem_of_getElem? (i := 47) rfl)) Via.refl (fun _ => Or.inl (hw _ (List.mem_of_getElem? (i := 48) rfl))),
    List.forall_mem_cons.mpr ⟨own_e6 (c := own_k0) (R0 := "evenkeel/group/SpreadSearch") rfl rfl (hw _ (List.mem_of_getElem? (i := 49) rfl)) Via.refl (fun _ => Or.inl (hw _ (List.mem_of_getElem? (i := 50) rfl))),
    List.forall_mem_cons.mpr ⟨own_e6 (c := own_k0) (R0 := "evenkeel/group/SpreadSearch") rfl rfl (hw _ (List.mem_of_getElem? (i := 87) rfl)) Via.refl (fun _ => Or.inl (hw _ (List.mem_of_getElem? (i := 88) rfl))),
    List.forall_mem_cons.mpr ⟨own_e6 (c := own_k0) (R0 := "evenkeel/group/SpreadSearch") rfl rfl (hw _ (List.mem_of_getElem? (i := 152) rfl)) Via.refl (fun _ => Or.inl (hw _ (List.mem_of_getElem? (i := 153) rfl))),
    List.forall_mem_cons.mpr ⟨own_e6 (c := own_k0) (R0 := "evenkeel/group/SpreadSearch") rfl rfl (hw _ (List.mem_of_getElem? (i := 132) rfl)) Via.refl (fun _ => Or.inl (hw _ (List.mem_of_getElem? (i := 133) rfl))),
    List.forall_mem_nil _⟩⟩⟩⟩⟩⟩⟩
set_option maxRecDepth 65536 in
theorem own_g31 {Z : State} {a0 : Array Value} (hw : own_hw Z a0) : own_okM Z a0 own_P own_m31 := ⟨plainFor_of_name own_pn1, (hw _ (List.mem_of_getElem? (i := 277) rfl)), own_rk31, List.forall_mem_cons.mpr ⟨own_e6 (c := own_k0) (R0 := "evenkeel/group/SpreadSearch") rfl rfl (hw _ (List.mem_of_getElem? (i := 53) rfl)) Via.refl (fun _ => Or.inl (hw _ (List.mem_of_getElem? (i := 54) rfl))),
    List.forall_mem_cons.mpr ⟨own_e6 (c := own_k0) (R0 := "evenkeel/group/SpreadSearch") rfl rfl (hw _ (List.mem_of_getElem? (i := 59) rfl)) Via.refl (fun _ => Or.inl (hw _ (List.mem_of_getElem? (i := 60) rfl))),
    List.forall_mem_cons.mpr ⟨own_e6 (c := own_k0) (R0 := "evenkeel/group/SpreadSearch") rfl rfl (hw _ (List.mem_of_getElem? (i := 79) rfl)) Via.refl (fun _ => Or.inl (hw _ (List.mem_of_getElem? (i := 80) rfl))),
    List.forall_mem_cons.mpr ⟨own_e6 (c := own_k0) (R0 := "evenkeel/group/SpreadSearch") rfl rfl (hw _ (List.mem_of_getElem? (i := 83) rfl)) Via.refl (fun _ => Or.inl (hw _ (List.mem_of_getElem? (i := 84) rfl))),
    List.forall_mem_cons.mpr ⟨own_e6 (c := own_k0) (R0 := "evenkeel/group/SpreadSearch") rfl rfl (hw _ (List.mem_of_getElem? (i := 85) rfl)) Via.refl (fun _ => Or.inl (hw _ (List.mem_of_getElem? (i := 86) rfl))),
    List.forall_mem_cons.mpr ⟨own_e6 (c := own_k0) (R0 := "evenkeel/group/SpreadSearch") rfl rfl (hw _ (List.mem_of_getElem? (i := 152) rfl)) Via.refl (fun _ => Or.inl (hw _ (List.mem_of_getElem? (i := 153) rfl))),
    List.forall_mem_cons.mpr ⟨own_e6 (c := own_k0) (R0 := "evenkeel/group/SpreadSearch") rfl rfl (hw _ (List.mem_of_getElem? (i := 132) rfl)) Via.refl (fun _ => Or.inl (hw _ (List.mem_of_getElem? (i := 133) rfl))),
    List.forall_mem_cons.mpr ⟨own_e6 (c := own_k0) (R0 := "evenkeel/group/SpreadSearch") rfl rfl (hw _ (List.mem_of_getElem? (i := 136) rfl)) Via.refl (fun _ => Or.inl (hw _ (List.mem_of_getElem? (i := 137) rfl))),
    List.forall_mem_cons.mpr ⟨own_e6 (c := own_k0) (R0 := "evenkeel/group/SpreadSearch") rfl rfl (hw _ (List.mem_of_getElem? (i := 146) rfl)) Via.refl (fun _ => Or.inl (hw _ (List.mem_of_getElem? (i := 147) rfl))),
    List.forall_mem_cons.mpr ⟨own_e6 (c := own_k0) (R0 := "evenkeel/group/SpreadSearch") rfl rfl (hw _ (List.mem_of_getElem? (i := 260) rfl)) Via.refl (fun _ => Or.inl (hw _ (List.mem_of_getElem? (i := 261) rfl))),
    List.forall_mem_cons.mpr ⟨own_e4 (mj := own_m30) rfl (hw _ (List.mem_of_getElem? (i := 270) rfl)) (hw _ (List.mem_of_getElem? (i := 271) rfl)) (hw _ (List.mem_of_getElem? (i := 272) rfl)) (fun s hZ => own_nf (y := ⟨"evenkeel/group/SpreadSearch", "placedCell", "(II)I"⟩) (y' := ⟨"evenkeel/group/SpreadSearch", "spreadAtLevels", "(II[I[I[I[I[I[J[J[I)Z"⟩) rfl (mvT (args := #[]) hZ (hw _ (List.mem_of_getElem? (i := 122) rfl)))) (hw _ (List.mem_of_getElem? (i := 7) rfl)) ⟨by decide, by decide⟩ ⟨_, _, own_pd24, rfl⟩,
    List.forall_mem_cons.mpr ⟨own_e6 (c := own_k0) (R0 := "evenkeel/group/SpreadSearch") rfl rfl (hw _ (List.mem_of_getElem? (i := 144) rfl)) Via.refl (fun _ => Or.inl (hw _ (List.mem_of_getElem? (i := 145) rfl))),
    List.forall_mem_cons.mpr ⟨own_e4 (mj := own_m32) rfl (hw _ (List.mem_of_getElem? (i := 278) rfl)) (hw _ (List.mem_of_getElem? (i := 279) rfl)) (hw _ (List.mem_of_getElem? (i := 280) rfl)) (fun s hZ => own_nf (y := ⟨"evenkeel/group/SpreadSearch", "placeIn", "(IIIJ)V"⟩) (y' := ⟨"evenkeel/group/SpreadSearch", "spreadAtLevels", "(II[I[I[I[I[I[J[J[I)Z"⟩) rfl (mvT (args := #[]) hZ (hw _ (List.mem_of_getElem? (i := 122) rfl)))) (hw _ (List.mem_of_getElem? (i := 7) rfl)) ⟨by decide, by decide⟩ ⟨_, _, own_pd26, rfl⟩,
    List.forall_mem_nil _⟩⟩⟩⟩⟩⟩⟩⟩⟩⟩⟩⟩⟩⟩
set_option maxRecDepth 65536 in
theorem own_g32 {Z : State} {a0 : Array Value} (hw : own_hw Z a0) : own_okM Z a0 own_P own_m32 := ⟨plainFor_of_name own_pn1, (hw _ (List.mem_of_getElem? (i := 281) rfl)), own_rk32, List.forall_mem_cons.mpr ⟨own_e6 (c := own_k0) (R0 := "evenkeel/group/SpreadSearch") rfl rfl (hw _ (List.mem_of_getElem? (i := 51) rfl)) Via.refl (fun _ => Or.inl (hw _ (List.mem_of_getElem? (i := 52) rfl))),
    List.forall_mem_cons.mpr ⟨own_e6 (c := own_k0) (R0 := "evenkeel/group/SpreadSearch") rfl rfl (hw _ (List.mem_of_getElem? (i := 53) rfl)) Via.refl (fun _ => Or.inl (hw _ (List.mem_of_getElem? (i := 54) rfl))),
    List.forall_mem_cons.mpr ⟨own_e6 (c := own_k0) (R0 := "evenkeel/group/SpreadSearch") rfl rfl (hw _ (List.mem_of_getElem? (i := 59) rfl)) Via.refl (fun _ => Or.inl (hw _ (List.mem_of_getElem? (i := 60) rfl))),
    List.forall_mem_cons.mpr ⟨own_e6 (c := own_k0) (R0 := "evenkeel/group/SpreadSearch") rfl rfl (hw _ (List.mem_of_getElem? (i := 136) rfl)) Via.refl (fun _ => Or.inl (hw _ (List.mem_of_getElem? (i := 137) rfl))),
    List.forall_mem_cons.mpr ⟨own_e6 (c := own_k0) (R0 := "evenkeel/group/SpreadSearch") rfl rfl (hw _ (List.mem_of_getElem? (i := 146) rfl)) Via.refl (fun _ => Or.inl (hw _ (List.mem_of_getElem? (i := 147) rfl))),
    List.forall_mem_cons.mpr ⟨own_e6 (c := own_k0) (R0 := "evenkeel/group/SpreadSearch") rfl rfl (hw _ (List.mem_of_getElem? (i := 144) rfl)) Via.refl (fun _ => Or.inl (hw _ (List.mem_of_getElem? (i := 145) rfl))),
    List.forall_mem_nil _⟩⟩⟩⟩⟩⟩⟩
set_option maxRecDepth 65536 in
theorem own_g33 {Z : State} {a0 : Array Value} (hw : own_hw Z a0) : own_okM Z a0 own_P own_m33 := ⟨own_pf33, (hw _ (List.mem_of_getElem? (i := 287) rfl)), own_rk33, List.forall_mem_nil _⟩
set_option maxRecDepth 65536 in
theorem own_g34 {Z : State} {a0 : Array Value} (hw : own_hw Z a0) : own_okM Z a0 own_P own_m34 := ⟨plainFor_of_name own_pn1, (hw _ (List.mem_of_getElem? (i := 294) rfl)), own_rk34, List.forall_mem_cons.mpr ⟨own_e6 (c := own_k0) (R0 := "evenkeel/group/SpreadSearch") rfl rfl (hw _ (List.mem_of_getElem? (i := 91) rfl)) Via.refl (fun _ => Or.inl (hw _ (List.mem_of_getElem? (i := 92) rfl))),
    List.forall_mem_cons.mpr ⟨own_e6 (c := own_k0) (R0 := "evenkeel/group/SpreadSearch") rfl rfl (hw _ (List.mem_of_getElem? (i := 101) rfl)) Via.refl (fun _ => Or.inl (hw _ (List.mem_of_getElem? (i := 102) rfl))),
    List.forall_mem_cons.mpr ⟨own_e6 (c := own_k0) (R0 := "evenkeel/group/SpreadSearch") rfl rfl (hw _ (List.mem_of_getElem? (i := 134) rfl)) Via.refl (fun _ => Or.inl (hw _ (List.mem_of_getElem? (i := 135) rfl))),
    List.forall_mem_cons.mpr ⟨own_e6 (c := own_k0) (R0 := "evenkeel/group/SpreadSearch") rfl rfl (hw _ (List.mem_of_getElem? (i := 295) rfl)) Via.refl (fun _ => Or.inl (hw _ (List.mem_of_getElem? (i := 296) rfl))),
    List.forall_mem_cons.mpr ⟨own_e4 (mj := own_m35) rfl (hw _ (List.mem_of_getElem? (i := 297) rfl)) (hw _ (List.mem_of_getElem? (i := 298) rfl)) (hw _ (List.mem_of_getElem? (i := 299) rfl)) (fun s hZ => own_nf (y := ⟨"evenkeel/group/SpreadSearch", "makeTightRoom", "(I)V"⟩) (y' := ⟨"evenkeel/group/SpreadSearch", "spreadAtLevels", "(II[I[I[I[I[I[J[J[I)Z"⟩) rfl (mvT (args := #[]) hZ (hw _ (List.mem_of_getElem? (i := 122) rfl)))) (hw _ (List.mem_of_getElem? (i := 7) rfl)) ⟨by decide, by decide⟩ ⟨_, _, own_pd13, rfl⟩,
    List.forall_mem_cons.mpr ⟨own_e4 (mj := own_m36) rfl (hw _ (List.mem_of_getElem? (i := 301) rfl)) (hw _ (List.mem_of_getElem? (i := 302) rfl)) (hw _ (List.mem_of_getElem? (i := 303) rfl)) (fun s hZ => own_nf (y := ⟨"evenkeel/group/SpreadSearch", "listOpenIn", "(I)V"⟩) (y' := ⟨"evenkeel/group/SpreadSearch", "spreadAtLevels", "(II[I[I[I[I[I[J[J[I)Z"⟩) rfl (mvT (args := #[]) hZ (hw _ (List.mem_of_getElem? (i := 122) rfl)))) (hw _ (List.mem_of_getElem? (i := 7) rfl)) ⟨by decide, by decide⟩ ⟨_, _, own_pd13, rfl⟩,
    List.forall_mem_cons.mpr ⟨own_e4 (mj := own_m39) rfl (hw _ (List.mem_of_getElem? (i := 312) rfl)) (hw _ (List.mem_of_getElem? (i := 313) rfl)) (hw _ (List.mem_of_getElem? (i := 314) rfl)) (fun s hZ => own_nf (y := ⟨"evenkeel/group/SpreadSearch", "indexTightCells", "()V"⟩) (y' := ⟨"evenkeel/group/SpreadSearch", "spreadAtLevels", "(II[I[I[I[I[I[J[J[I)Z"⟩) rfl (mvT (args := #[]) hZ (hw _ (List.mem_of_getElem? (i := 122) rfl)))) (hw _ (List.mem_of_getElem? (i := 7) rfl)) ⟨by decide, by decide⟩ ⟨_, _, own_pd0, rfl⟩,
    List.forall_mem_nil _⟩⟩⟩⟩⟩⟩⟩⟩
set_option maxRecDepth 65536 in
theorem own_g35 {Z : State} {a0 : Array Value} (hw : own_hw Z a0) : own_okM Z a0 own_P own_m35 := ⟨plainFor_of_name own_pn1, (hw _ (List.mem_of_getElem? (i := 300) rfl)), own_rk35, List.forall_mem_cons.mpr ⟨own_e6 (c := own_k0) (R0 := "evenkeel/group/SpreadSearch") rfl rfl (hw _ (List.mem_of_getElem? (i := 95) rfl)) Via.refl (fun _ => Or.inl (hw _ (List.mem_of_getElem? (i := 96) rfl))),
    List.forall_mem_cons.mpr ⟨own_e6 (c := own_k0) (R0 := "evenkeel/group/SpreadSearch") rfl rfl (hw _ (List.mem_of_getElem? (i := 97) rfl)) Via.refl (fun _ => Or.inl (hw _ (List.mem_of_getElem? (i := 98) rfl))),
    List.forall_mem_cons.mpr ⟨own_e6 (c := own_k0) (R0 := "evenkeel/group/SpreadSearch") rfl rfl (hw _ (List.mem_of_getElem? (i := 99) rfl)) Via.refl (fun _ => Or.inl (hw _ (List.mem_of_getElem? (i := 100) rfl))),
    List.forall_mem_nil _⟩⟩⟩⟩
set_option maxRecDepth 65536 in
theorem own_g36 {Z : State} {a0 : Array Value} (hw : own_hw Z a0) : own_okM Z a0 own_P own_m36 := ⟨plainFor_of_name own_pn1, (hw _ (List.mem_of_getElem? (i := 304) rfl)), own_rk36, List.forall_mem_cons.mpr ⟨own_e6 (c := own_k0) (R0 := "evenkeel/group/SpreadSearch") rfl rfl (hw _ (List.mem_of_getElem? (i := 53) rfl)) Via.refl (fun _ => Or.inl (hw _ (List.mem_of_getElem? (i := 54) rfl))),
    List.forall_mem_cons.mpr ⟨own_e6 (c := own_k0) (R0 := "evenkeel/group/SpreadSearch") rfl rfl (hw _ (List.mem_of_getElem? (i := 91) rfl)) Via.refl (fun _ => Or.inl (hw _ (List.mem_of_getElem? (i := 92) rfl))),
    List.forall_mem_cons.mpr ⟨own_e6 (c := own_k0) (R0 := "evenkeel/group/SpreadSearch") rfl rfl (hw _ (List.mem_of_getElem? (i := 93) rfl)) Via.refl (fun _ => Or.inl (hw _ (List.mem_of_getElem? (i := 94) rfl))),
    List.forall_mem_cons.mpr ⟨own_e6 (c := own_k0) (R0 := "evenkeel/group/SpreadSearch") rfl rfl (hw _ (List.mem_of_getElem? (i := 140) rfl)) Via.refl (fun _ => Or.inl (hw _ (List.mem_of_getElem? (i := 141) rfl))),
    List.forall_mem_cons.mpr ⟨own_e4 (mj := own_m37) rfl (hw _ (List.mem_of_getElem? (i := 305) rfl)) (hw _ (List.mem_of_getElem? (i := 306) rfl)) (hw _ (List.mem_of_getElem? (i := 307) rfl)) (fun s hZ => own_nf (y := ⟨"evenkeel/group/SpreadSearch", "addTight", "(IJ)V"⟩) (y' := ⟨"evenkeel/group/SpreadSearch", "spreadAtLevels", "(II[I[I[I[I[I[J[J[I)Z"⟩) rfl (mvT (args := #[]) hZ (hw _ (List.mem_of_getElem? (i := 122) rfl)))) (hw _ (List.mem_of_getElem? (i := 7) rfl)) ⟨by decide, by decide⟩ ⟨_, _, own_pd27, rfl⟩,
    List.forall_mem_nil _⟩⟩⟩⟩⟩⟩
set_option maxRecDepth 65536 in
theorem own_g37 {Z : State} {a0 : Array Value} (hw : own_hw Z a0) : own_okM Z a0 own_P own_m37 := ⟨plainFor_of_name own_pn1, (hw _ (List.mem_of_getElem? (i := 308) rfl)), own_rk37, List.forall_mem_cons.mpr ⟨own_e6 (c := own_k0) (R0 := "evenkeel/group/SpreadSearch") rfl rfl (hw _ (List.mem_of_getElem? (i := 95) rfl)) Via.refl (fun _ => Or.inl (hw _ (List.mem_of_getElem? (i := 96) rfl))),
    List.forall_mem_cons.mpr ⟨own_e6 (c := own_k0) (R0 := "evenkeel/group/SpreadSearch") rfl rfl (hw _ (List.mem_of_getElem? (i := 97) rfl)) Via.refl (fun _ => Or.inl (hw _ (List.mem_of_getElem? (i := 98) rfl))),
    List.forall_mem_cons.mpr ⟨own_e6 (c := own_k0) (R0 := "evenkeel/group/SpreadSearch") rfl rfl (hw _ (List.mem_of_getElem? (i := 99) rfl)) Via.refl (fun _ => Or.inl (hw _ (List.mem_of_getElem? (i := 100) rfl))),
    List.forall_mem_cons.mpr ⟨own_e0 (mj := own_m33) rfl (hw _ (List.mem_of_getElem? (i := 285) rfl)) (hw _ (List.mem_of_getElem? (i := 286) rfl)) (hw _ (List.mem_of_getElem? (i := 231) rfl)) ⟨by decide, by decide⟩ ⟨_, _, own_pd12, rfl⟩,
    List.forall_mem_cons.mpr ⟨own_e6 (c := own_k0) (R0 := "evenkeel/group/SpreadSearch") rfl rfl (hw _ (List.mem_of_getElem? (i := 136) rfl)) Via.refl (fun _ => Or.inl (hw _ (List.mem_of_getElem? (i := 137) rfl))),
    List.forall_mem_cons.mpr ⟨own_e0 (mj := own_m38) rfl (hw _ (List.mem_of_getElem? (i := 309) rfl)) (hw _ (List.mem_of_getElem? (i := 310) rfl)) (hw _ (List.mem_of_getElem? (i := 231) rfl)) ⟨by decide, by decide⟩ ⟨_, _, own_pd12, rfl⟩,
    List.forall_mem_cons.mpr ⟨own_e6 (c := own_k0) (R0 := "evenkeel/group/SpreadSearch") rfl rfl (hw _ (List.mem_of_getElem? (i := 144) rfl)) Via.refl (fun _ => Or.inl (hw _ (List.mem_of_getElem? (i := 145) rfl))),
    List.forall_mem_cons.mpr ⟨own_e6 (c := own_k0) (R0 := "evenkeel/group/SpreadSearch") rfl rfl (hw _ (List.mem_of_getElem? (i := 140) rfl)) Via.refl (fun _ => Or.inl (hw _ (List.mem_of_getElem? (i := 141) rfl))),
    List.forall_mem_cons.mpr ⟨own_e6 (c := own_k0) (R0 := "evenkeel/group/SpreadSearch") rfl rfl (hw _ (List.mem_of_getElem? (i := 142) rfl)) Via.refl (fun _ => Or.inl (hw _ (List.mem_of_getElem? (i := 143) rfl))),
    List.forall_mem_cons.mpr ⟨own_e6 (c := own_k0) (R0 := "evenkeel/group/SpreadSearch") rfl rfl (hw _ (List.mem_of_getElem? (i := 295) rfl)) Via.refl (fun _ => Or.inl (hw _ (List.mem_of_getElem? (i := 296) rfl))),
    List.forall_mem_nil _⟩⟩⟩⟩⟩⟩⟩⟩⟩⟩⟩
set_option maxRecDepth 65536 in
theorem own_g38 {Z : State} {a0 : Array Value} (hw : own_hw Z a0) : own_okM Z a0 own_P own_m38 := ⟨own_pf38, (hw _ (List.mem_of_getElem? (i := 311) rfl)), own_rk38, List.forall_mem_nil _⟩
set_option maxRecDepth 65536 in
theorem own_g39 {Z : State} {a0 : Array Value} (hw : own_hw Z a0) : own_okM Z a0 own_P own_m39 := ⟨plainFor_of_name own_pn1, (hw _ (List.mem_of_getElem? (i := 315) rfl)), own_rk39, List.forall_mem_cons.mpr ⟨own_e6 (c := own_k0) (R0 := "evenkeel/group/SpreadSearch") rfl rfl (hw _ (List.mem_of_getElem? (i := 95) rfl)) Via.refl (fun _ => Or.inl (hw _ (List.mem_of_getElem? (i := 96) rfl))),
    List.forall_mem_cons.mpr ⟨own_e6 (c := own_k0) (R0 := "evenkeel/group/SpreadSearch") rfl rfl (hw _ (List.mem_of_getElem? (i := 101) rfl)) Via.refl (fun _ => Or.inl (hw _ (List.mem_of_getElem? (i := 102) rfl))),
    List.forall_mem_cons.mpr ⟨own_e6 (c := own_k0) (R0 := "evenkeel/group/SpreadSearch") rfl rfl (hw _ (List.mem_of_getElem? (i := 103) rfl)) Via.refl (fun _ => Or.inl (hw _ (List.mem_of_getElem? (i := 104) rfl))),
    List.forall_mem_cons.mpr ⟨own_e6 (c := own_k0) (R0 := "evenkeel/group/SpreadSearch") rfl rfl (hw _ (List.mem_of_getElem? (i := 105) rfl)) Via.refl (fun _ => Or.inl (hw _ (List.mem_of_getElem? (i := 106) rfl))),
    List.forall_mem_cons.mpr ⟨own_e6 (c := own_k0) (R0 := "evenkeel/group/SpreadSearch") rfl rfl (hw _ (List.mem_of_getElem? (i := 132) rfl)) Via.refl (fun _ => Or.inl (hw _ (List.mem_of_getElem? (i := 133) rfl))),
    List.forall_mem_cons.mpr ⟨own_e6 (c := own_k0) (R0 := "evenkeel/group/SpreadSearch") rfl rfl (hw _ (List.mem_of_getElem? (i := 134) rfl)) Via.refl (fun _ => Or.inl (hw _ (List.mem_of_getElem? (i := 135) rfl))),
    List.forall_mem_cons.mpr ⟨own_e10 (hw _ (List.mem_of_getElem? (i := 188) rfl)) (hw _ (List.mem_of_getElem? (i := 191) rfl)) (hw _ (List.mem_of_getElem? (i := 189) rfl)) (hw _ (List.mem_of_getElem? (i := 190) rfl)),
    List.forall_mem_cons.mpr ⟨own_e6 (c := own_k0) (R0 := "evenkeel/group/SpreadSearch") rfl rfl (hw _ (List.mem_of_getElem? (i := 140) rfl)) Via.refl (fun _ => Or.inl (hw _ (List.mem_of_getElem? (i := 141) rfl))),
    List.forall_mem_cons.mpr ⟨own_e0 (mj := own_m12) rfl (hw _ (List.mem_of_getElem? (i := 185) rfl)) (hw _ (List.mem_of_getElem? (i := 186) rfl)) (hw _ (List.mem_of_getElem? (i := 170) rfl)) ⟨by decide, by decide⟩ ⟨_, _, own_pd17, rfl⟩,
    List.forall_mem_cons.mpr ⟨own_e6 (c := own_k0) (R0 := "evenkeel/group/SpreadSearch") rfl rfl (hw _ (List.mem_of_getElem? (i := 295) rfl)) Via.refl (fun _ => Or.inl (hw _ (List.mem_of_getElem? (i := 296) rfl))),
    List.forall_mem_nil _⟩⟩⟩⟩⟩⟩⟩⟩⟩⟩⟩
set_option maxRecDepth 65536 in
theorem own_g40 {Z : State} {a0 : Array Value} (hw : own_hw Z a0) : own_okM Z a0 own_P own_m40 := ⟨plainFor_of_name own_pn2, (hw _ (List.mem_of_getElem? (i := 321) rfl)), own_rk40, List.forall_mem_cons.mpr ⟨own_e6 (c := own_k0) (R0 := "evenkeel/group/MinCostFlow") rfl rfl (hw _ (List.mem_of_getElem? (i := 322) rfl)) Via.refl (fun _ => Or.inl (hw _ (List.mem_of_getElem? (i := 284) rfl))),
    List.forall_mem_cons.mpr ⟨own_e6 (c := own_k0) (R0 := "evenkeel/group/MinCostFlow") rfl rfl (hw _ (List.mem_of_getElem? (i := 323) rfl)) Via.refl (fun _ => Or.inl (hw _ (List.mem_of_getElem? (i := 290) rfl))),
    List.forall_mem_cons.mpr ⟨own_e3 (mj := own_m41) (c := own_k0) (v := ⟨"evenkeel/group/MinCostFlow", "sweep", "()Z"⟩) rfl rfl rfl (hw _ (List.mem_of_getElem? (i := 324) rfl)) (hw _ (List.mem_of_getElem? (i := 325) rfl)) (hw _ (List.mem_of_getElem? (i := 327) rfl)) (hw _ (List.mem_of_getElem? (i := 326) rfl)) (hw _ (List.mem_of_getElem? (i := 14) rfl)) (fun s hZ => notFace_of_selects (args := #[]) (mvT hZ (hw _ (List.mem_of_getElem? (i := 327) rfl)))) ⟨by decide, by decide⟩ ⟨_, _, own_pd23, rfl⟩,
    List.forall_mem_nil _⟩⟩⟩⟩
set_option maxRecDepth 65536 in
theorem own_g41 {Z : State} {a0 : Array Value} (hw : own_hw Z a0) : own_okM Z a0 own_P own_m41 := ⟨plainFor_of_name own_pn2, (hw _ (List.mem_of_getElem? (i := 328) rfl)), own_rk41, List.forall_mem_cons.mpr ⟨own_e6 (c := own_k0) (R0 := "evenkeel/group/MinCostFlow") rfl rfl (hw _ (List.mem_of_getElem? (i := 33) rfl)) Via.refl (fun _ => Or.inl (hw _ (List.mem_of_getElem? (i := 34) rfl))),
    List.forall_mem_cons.mpr ⟨own_e6 (c := own_k0) (R0 := "evenkeel/group/MinCostFlow") rfl rfl (hw _ (List.mem_of_getElem? (i := 162) rfl)) Via.refl (fun _ => Or.inl (hw _ (List.mem_of_getElem? (i := 163) rfl))),
    List.forall_mem_cons.mpr ⟨own_e6 (c := own_k0) (R0 := "evenkeel/group/MinCostFlow") rfl rfl (hw _ (List.mem_of_getElem? (i := 322) rfl)) Via.refl (fun _ => Or.inl (hw _ (List.mem_of_getElem? (i := 284) rfl))),
    List.forall_mem_cons.mpr ⟨own_e6 (c := own_k0) (R0 := "evenkeel/group/MinCostFlow") rfl rfl (hw _ (List.mem_of_getElem? (i := 323) rfl)) Via.refl (fun _ => Or.inl (hw _ (List.mem_of_getElem? (i := 290) rfl))),
    List.forall_mem_cons.mpr ⟨own_e3 (mj := own_m42) (c := own_k0) (v := ⟨"evenkeel/group/MinCostFlow", "arcsByHead", "()Z"⟩) rfl rfl rfl (hw _ (List.mem_of_getElem? (i := 329) rfl)) (hw _ (List.mem_of_getElem? (i := 330) rfl)) (hw _ (List.mem_of_getElem? (i := 332) rfl)) (hw _ (List.mem_of_getElem? (i := 333) rfl)) (hw _ (List.mem_of_getElem? (i := 7) rfl)) (fun s hZ => own_nf (y := ⟨"evenkeel/group/MinCostFlow", "arcsByHead", "()Z"⟩) (y' := ⟨"evenkeel/group/MinCostFlow", "sweep", "()Z"⟩) rfl (mvT (args := #[]) hZ (hw _ (List.mem_of_getElem? (i := 327) rfl)))) ⟨by decide, by decide⟩ ⟨_, _, own_pd23, rfl⟩,
    List.forall_mem_cons.mpr ⟨own_e4 (mj := own_m43) rfl (hw _ (List.mem_of_getElem? (i := 335) rfl)) (hw _ (List.mem_of_getElem? (i := 336) rfl)) (hw _ (List.mem_of_getElem? (i := 337) rfl)) (fun s hZ => own_nf (y := ⟨"evenkeel/group/MinCostFlow", "readySweep", "(Z)V"⟩) (y' := ⟨"evenkeel/group/MinCostFlow", "sweep", "()Z"⟩) rfl (mvT (args := #[]) hZ (hw _ (List.mem_of_getElem? (i := 327) rfl)))) (hw _ (List.mem_of_getElem? (i := 14) rfl)) ⟨by decide, by decide⟩ ⟨_, _, own_pd28, rfl⟩,
    List.forall_mem_cons.mpr ⟨own_e4 (mj := own_m44) rfl (hw _ (List.mem_of_getElem? (i := 339) rfl)) (hw _ (List.mem_of_getElem? (i := 340) rfl)) (hw _ (List.mem_of_getElem? (i := 341) rfl)) (fun s hZ => own_nf (y := ⟨"evenkeel/group/MinCostFlow", "levelGraph", "()Z"⟩) (y' := ⟨"evenkeel/group/MinCostFlow", "sweep", "()Z"⟩) rfl (mvT (args := #[]) hZ (hw _ (List.mem_of_getElem? (i := 327) rfl)))) (hw _ (List.mem_of_getElem? (i := 14) rfl)) ⟨by decide, by decide⟩ ⟨_, _, own_pd23, rfl⟩,
    List.forall_mem_cons.mpr ⟨own_e0 (mj := own_m12) rfl (hw _ (List.mem_of_getElem? (i := 352) rfl)) (hw _ (List.mem_of_getElem? (i := 186) rfl)) (hw _ (List.mem_of_getElem? (i := 170) rfl)) ⟨by decide, by decide⟩ ⟨_, _, own_pd17, rfl⟩,
    List.forall_mem_nil _⟩⟩⟩⟩⟩⟩⟩⟩⟩
set_option maxRecDepth 65536 in
theorem own_g42 {Z : State} {a0 : Array Value} (hw : own_hw Z a0) : own_okM Z a0 own_P own_m42 := ⟨plainFor_of_name own_pn1, (hw _ (List.mem_of_getElem? (i := 334) rfl)), own_rk42, List.forall_mem_cons.mpr ⟨own_e6 (c := own_k0) (R0 := "evenkeel/group/SpreadSearch") rfl rfl (hw _ (List.mem_of_getElem? (i := 152) rfl)) Via.refl (fun _ => Or.inl (hw _ (List.mem_of_getElem? (i := 153) rfl))),
    List.forall_mem_nil _⟩⟩
set_option maxRecDepth 65536 in
theorem own_g43 {Z : State} {a0 : Array Value} (hw : own_hw Z a0) : own_okM Z a0 own_P own_m43 := ⟨plainFor_of_name own_pn2, (hw _ (List.mem_of_getElem? (i := 338) rfl)), own_rk43, List.forall_mem_cons.mpr ⟨own_e6 (c := own_k0) (R0 := "evenkeel/group/MinCostFlow") rfl rfl (hw _ (List.mem_of_getElem? (i := 31) rfl)) Via.refl (fun _ => Or.inl (hw _ (List.mem_of_getElem? (i := 32) rfl))),
    List.forall_mem_cons.mpr ⟨own_e6 (c := own_k0) (R0 := "evenkeel/group/MinCostFlow") rfl rfl (hw _ (List.mem_of_getElem? (i := 33) rfl)) Via.refl (fun _ => Or.inl (hw _ (List.mem_of_getElem? (i := 34) rfl))),
    List.forall_mem_cons.mpr ⟨own_e6 (c := own_k0) (R0 := "evenkeel/group/MinCostFlow") rfl rfl (hw _ (List.mem_of_getElem? (i := 35) rfl)) Via.refl (fun _ => Or.inl (hw _ (List.mem_of_getElem? (i := 36) rfl))),
    List.forall_mem_cons.mpr ⟨own_e6 (c := own_k0) (R0 := "evenkeel/group/MinCostFlow") rfl rfl (hw _ (List.mem_of_getElem? (i := 37) rfl)) Via.refl (fun _ => Or.inl (hw _ (List.mem_of_getElem? (i := 38) rfl))),
    List.forall_mem_cons.mpr ⟨own_e6 (c := own_k0) (R0 := "evenkeel/group/MinCostFlow") rfl rfl (hw _ (List.mem_of_getElem? (i := 39) rfl)) Via.refl (fun _ => Or.inl (hw _ (List.mem_of_getElem? (i := 40) rfl))),
    List.forall_mem_cons.mpr ⟨own_e6 (c := own_k0) (R0 := "evenkeel/group/MinCostFlow") rfl rfl (hw _ (List.mem_of_getElem? (i := 41) rfl)) Via.refl (fun _ => Or.inl (hw _ (List.mem_of_getElem? (i := 42) rfl))),
    List.forall_mem_cons.mpr ⟨own_e6 (c := own_k0) (R0 := "evenkeel/group/MinCostFlow") rfl rfl (hw _ (List.mem_of_getElem? (i := 43) rfl)) Via.refl (fun _ => Or.inl (hw _ (List.mem_of_getElem? (i := 44) rfl))),
    List.forall_mem_cons.mpr ⟨own_e6 (c := own_k0) (R0 := "evenkeel/group/MinCostFlow") rfl rfl (hw _ (List.mem_of_getElem? (i := 162) rfl)) Via.refl (fun _ => Or.inl (hw _ (List.mem_of_getElem? (i := 163) rfl))),
    List.forall_mem_nil _⟩⟩⟩⟩⟩⟩⟩⟩⟩
set_option maxRecDepth 65536 in
theorem own_g44 {Z : State} {a0 : Array Value} (hw : own_hw Z a0) : own_okM Z a0 own_P own_m44 := ⟨plainFor_of_name own_pn2, (hw _ (List.mem_of_getElem? (i := 342) rfl)), own_rk44, List.forall_mem_cons.mpr ⟨own_e6 (c := own_k0) (R0 := "evenkeel/group/MinCostFlow") rfl rfl (hw _ (List.mem_of_getElem? (i := 31) rfl)) Via.refl (fun _ => Or.inl (hw _ (List.mem_of_getElem? (i := 32) rfl))),
    List.forall_mem_cons.mpr ⟨own_e6 (c := own_k0) (R0 := "evenkeel/group/MinCostFlow") rfl rfl (hw _ (List.mem_of_getElem? (i := 35) rfl)) Via.refl (fun _ => Or.inl (hw _ (List.mem_of_getElem? (i := 36) rfl))),
    List.forall_mem_cons.mpr ⟨own_e6 (c := own_k0) (R0 := "evenkeel/group/MinCostFlow") rfl rfl (hw _ (List.mem_of_getElem? (i := 160) rfl)) Via.refl (fun _ => Or.inl (hw _ (List.mem_of_getElem? (i := 161) rfl))),
    List.forall_mem_cons.mpr ⟨own_e6 (c := own_k0) (R0 := "evenkeel/group/MinCostFlow") rfl rfl (hw _ (List.mem_of_getElem? (i := 162) rfl)) Via.refl (fun _ => Or.inl (hw _ (List.mem_of_getElem? (i := 163) rfl))),
    List.forall_mem_cons.mpr ⟨own_e0 (mj := own_m12) rfl (hw _ (List.mem_of_getElem? (i := 352) rfl)) (hw _ (List.mem_of_getElem? (i := 186) rfl)) (hw _ (List.mem_of_getElem? (i := 170) rfl)) ⟨by decide, by decide⟩ ⟨_, _, own_pd17, rfl⟩,
    List.forall_mem_cons.mpr ⟨own_e3 (mj := own_m45) (c := own_k0) (v := ⟨"evenkeel/group/MinCostFlow", "anyRoomToSink", "()Z"⟩) rfl rfl rfl (hw _ (List.mem_of_getElem? (i := 343) rfl)) (hw _ (List.mem_of_getElem? (i := 344) rfl)) (hw _ (List.mem_of_getElem? (i := 346) rfl)) (hw _ (List.mem_of_getElem? (i := 345) rfl)) (hw _ (List.mem_of_getElem? (i := 14) rfl)) (fun s hZ => own_nf (y := ⟨"evenkeel/group/MinCostFlow", "anyRoomToSink", "()Z"⟩) (y' := ⟨"evenkeel/group/MinCostFlow", "sweep", "()Z"⟩) rfl (mvT (args := #[]) hZ (hw _ (List.mem_of_getElem? (i := 327) rfl)))) ⟨by decide, by decide⟩ ⟨_, _, own_pd23, rfl⟩,
    List.forall_mem_cons.mpr ⟨own_e6 (c := own_k0) (R0 := "evenkeel/group/MinCostFlow") rfl rfl (hw _ (List.mem_of_getElem? (i := 348) rfl)) Via.refl (fun _ => Or.inl (hw _ (List.mem_of_getElem? (i := 349) rfl))),
    List.forall_mem_cons.mpr ⟨own_e6 (c := own_k0) (R0 := "evenkeel/group/MinCostFlow") rfl rfl (hw _ (List.mem_of_getElem? (i := 350) rfl)) Via.refl (fun _ => Or.inl (hw _ (List.mem_of_getElem? (i := 351) rfl))),
    List.forall_mem_cons.mpr ⟨own_e3 (mj := own_m46) (c := own_k0) (v := ⟨"evenkeel/group/MinCostFlow", "levelArcsOf", "(I[II)I"⟩) rfl rfl rfl (hw _ (List.mem_of_getElem? (i := 353) rfl)) (hw _ (List.mem_of_getElem? (i := 354) rfl)) (hw _ (List.mem_of_getElem? (i := 356) rfl)) (hw _ (List.mem_of_getElem? (i := 357) rfl)) (hw _ (List.mem_of_getElem? (i := 7) rfl)) (fun s hZ => own_nf (y := ⟨"evenkeel/group/MinCostFlow", "levelArcsOf", "(I[II)I"⟩) (y' := ⟨"evenkeel/group/MinCostFlow", "sweep", "()Z"⟩) rfl (mvT (args := #[]) hZ (hw _ (List.mem_of_getElem? (i := 327) rfl)))) ⟨by decide, by decide⟩ ⟨_, _, own_pd29, rfl⟩,
    List.forall_mem_nil _⟩⟩⟩⟩⟩⟩⟩⟩⟩⟩
set_option maxRecDepth 65536 in
theorem own_g45 {Z : State} {a0 : Array Value} (hw : own_hw Z a0) : own_okM Z a0 own_P own_m45 := ⟨plainFor_of_name own_pn2, (hw _ (List.mem_of_getElem? (i := 347) rfl)), own_rk45, List.forall_mem_nil _⟩
set_option maxRecDepth 65536 in
theorem own_g46 {Z : State} {a0 : Array Value} (hw : own_hw Z a0) : own_okM Z a0 own_P own_m46 := ⟨plainFor_of_name own_pn1, (hw _ (List.mem_of_getElem? (i := 358) rfl)), own_rk46, List.forall_mem_cons.mpr ⟨own_e6 (c := own_k0) (R0 := "evenkeel/group/SpreadSearch") rfl rfl (hw _ (List.mem_of_getElem? (i := 51) rfl)) Via.refl (fun _ => Or.inl (hw _ (List.mem_of_getElem? (i := 52) rfl))),
    List.forall_mem_cons.mpr ⟨own_e6 (c := own_k0) (R0 := "evenkeel/group/SpreadSearch") rfl rfl (hw _ (List.mem_of_getElem? (i := 152) rfl)) Via.refl (fun _ => Or.inl (hw _ (List.mem_of_getElem? (i := 153) rfl))),
    List.forall_mem_cons.mpr ⟨own_e6 (c := own_k0) (R0 := "evenkeel/group/SpreadSearch") rfl rfl (hw _ (List.mem_of_getElem? (i := 134) rfl)) Via.refl (fun _ => Or.inl (hw _ (List.mem_of_getElem? (i := 135) rfl))),
    List.forall_mem_cons.mpr ⟨own_e6 (c := own_k0) (R0 := "evenkeel/group/SpreadSearch") rfl rfl (hw _ (List.mem_of_getElem? (i := 247) rfl)) (Via.of (hw _ (List.mem_of_getElem? (i := 248) rfl))) (fun _ => Or.inl (hw _ (List.mem_of_getElem? (i := 20) rfl))),
    List.forall_mem_cons.mpr ⟨own_e6 (c := own_k0) (R0 := "evenkeel/group/SpreadSearch") rfl rfl (hw _ (List.mem_of_getElem? (i := 367) rfl)) (Via.of (hw _ (List.mem_of_getElem? (i := 368) rfl))) (fun _ => Or.inl (hw _ (List.mem_of_getElem? (i := 161) rfl))),
    List.forall_mem_cons.mpr ⟨own_e6 (c := own_k0) (R0 := "evenkeel/group/SpreadSearch") rfl rfl (hw _ (List.mem_of_getElem? (i := 389) rfl)) (Via.of (hw _ (List.mem_of_getElem? (i := 390) rfl))) (fun _ => Or.inl (hw _ (List.mem_of_getElem? (i := 163) rfl))),
    List.forall_mem_cons.mpr ⟨own_e5 (mj := own_m47) (c := own_k0) rfl rfl (by decide) (hw _ (List.mem_of_getElem? (i := 359) rfl)) (hw _ (List.mem_of_getElem? (i := 355) rfl)) (hw _ (List.mem_of_getElem? (i := 360) rfl)) ((fun s hZ => own_nf (y := ⟨"evenkeel/group/MinCostFlow", "levelArcsOf", "(I[II)I"⟩) (y' := ⟨"evenkeel/group/MinCostFlow", "sweep", "()Z"⟩) rfl (mvT (args := #[]) hZ (hw _ (List.mem_of_getElem? (i := 327) rfl)))) Z (State.Warmed39.refl Z)) (hw _ (List.mem_of_getElem? (i := 14) rfl)) ⟨by decide, by decide⟩ ⟨_, _, own_pd29, rfl⟩,
    List.forall_mem_cons.mpr ⟨own_e3 (mj := own_m50) (c := own_k0) (v := ⟨"evenkeel/group/SpreadSearch", "room", "(II)J"⟩) rfl rfl rfl (hw _ (List.mem_of_getElem? (i := 423) rfl)) (hw _ (List.mem_of_getElem? (i := 414) rfl)) (hw _ (List.mem_of_getElem? (i := 415) rfl)) (hw _ (List.mem_of_getElem? (i := 377) rfl)) (hw _ (List.mem_of_getElem? (i := 7) rfl)) (fun s hZ => own_nf (y := ⟨"evenkeel/group/SpreadSearch", "room", "(II)J"⟩) (y' := ⟨"evenkeel/group/SpreadSearch", "spreadAtLevels", "(II[I[I[I[I[I[J[J[I)Z"⟩) rfl (mvT (args := #[]) hZ (hw _ (List.mem_of_getElem? (i := 122) rfl)))) ⟨by decide, by decide⟩ ⟨_, _, own_pd30, rfl⟩,
    List.forall_mem_cons.mpr ⟨own_e13 (mj := own_m51) (c := own_k0) (v := ⟨"evenkeel/group/SpreadSearch", "number", "(II[II)I"⟩) (ow := "evenkeel/group/MinCostFlow") rfl rfl rfl (hw _ (List.mem_of_getElem? (i := 424) rfl)) (hw _ (List.mem_of_getElem? (i := 425) rfl)) (hw _ (List.mem_of_getElem? (i := 380) rfl)) (hw _ (List.mem_of_getElem? (i := 426) rfl)) (hw _ (List.mem_of_getElem? (i := 381) rfl)) (hw _ (List.mem_of_getElem? (i := 14) rfl)) ⟨by decide, by decide⟩ ⟨_, _, own_pd31, rfl⟩,
    List.forall_mem_nil _⟩⟩⟩⟩⟩⟩⟩⟩⟩⟩
set_option maxRecDepth 65536 in
theorem own_g47 {Z : State} {a0 : Array Value} (hw : own_hw Z a0) : own_okM Z a0 own_P own_m47 := ⟨plainFor_of_name own_pn2, (hw _ (List.mem_of_getElem? (i := 361) rfl)), own_rk47, List.forall_mem_cons.mpr ⟨own_e6 (c := own_k0) (R0 := "evenkeel/group/MinCostFlow") rfl rfl (hw _ (List.mem_of_getElem? (i := 31) rfl)) Via.refl (fun _ => Or.inl (hw _ (List.mem_of_getElem? (i := 32) rfl))),
    List.forall_mem_cons.mpr ⟨own_e3 (mj := own_m48) (c := own_k0) (v := ⟨"evenkeel/group/MinCostFlow", "arcs", "(I)I"⟩) rfl rfl rfl (hw _ (List.mem_of_getElem? (i := 362) rfl)) (hw _ (List.mem_of_getElem? (i := 363) rfl)) (hw _ (List.mem_of_getElem? (i := 364) rfl)) (hw _ (List.mem_of_getElem? (i := 365) rfl)) (hw _ (List.mem_of_getElem? (i := 7) rfl)) (fun s hZ => own_nf (y := ⟨"evenkeel/group/MinCostFlow", "arcs", "(I)I"⟩) (y' := ⟨"evenkeel/group/MinCostFlow", "sweep", "()Z"⟩) rfl (mvT (args := #[]) hZ (hw _ (List.mem_of_getElem? (i := 327) rfl)))) ⟨by decide, by decide⟩ ⟨_, _, own_pd32, rfl⟩,
    List.forall_mem_cons.mpr ⟨own_e3 (mj := own_m49) (c := own_k0) (v := ⟨"evenkeel/group/MinCostFlow", "head", "(II)I"⟩) rfl rfl rfl (hw _ (List.mem_of_getElem? (i := 369) rfl)) (hw _ (List.mem_of_getElem? (i := 370) rfl)) (hw _ (List.mem_of_getElem? (i := 371) rfl)) (hw _ (List.mem_of_getElem? (i := 372) rfl)) (hw _ (List.mem_of_getElem? (i := 7) rfl)) (fun s hZ => own_nf (y := ⟨"evenkeel/group/MinCostFlow", "head", "(II)I"⟩) (y' := ⟨"evenkeel/group/MinCostFlow", "sweep", "()Z"⟩) rfl (mvT (args := #[]) hZ (hw _ (List.mem_of_getElem? (i := 327) rfl)))) ⟨by decide, by decide⟩ ⟨_, _, own_pd24, rfl⟩,
    List.forall_mem_cons.mpr ⟨own_e3 (mj := own_m50) (c := own_k0) (v := ⟨"evenkeel/group/MinCostFlow", "room", "(II)J"⟩) rfl rfl rfl (hw _ (List.mem_of_getElem? (i := 374) rfl)) (hw _ (List.mem_of_getElem? (i := 375) rfl)) (hw _ (List.mem_of_getElem? (i := 376) rfl)) (hw _ (List.mem_of_getElem? (i := 377) rfl)) (hw _ (List.mem_of_getElem? (i := 7) rfl)) (fun s hZ => own_nf (y := ⟨"evenkeel/group/MinCostFlow", "room", "(II)J"⟩) (y' := ⟨"evenkeel/group/MinCostFlow", "sweep", "()Z"⟩) rfl (mvT (args := #[]) hZ (hw _ (List.mem_of_getElem? (i := 327) rfl)))) ⟨by decide, by decide⟩ ⟨_, _, own_pd30, rfl⟩,
    List.forall_mem_cons.mpr ⟨own_e3 (mj := own_m51) (c := own_k0) (v := ⟨"evenkeel/group/MinCostFlow", "number", "(II[II)I"⟩) rfl rfl rfl (hw _ (List.mem_of_getElem? (i := 379) rfl)) (hw _ (List.mem_of_getElem? (i := 380) rfl)) (hw _ (List.mem_of_getElem? (i := 382) rfl)) (hw _ (List.mem_of_getElem? (i := 381) rfl)) (hw _ (List.mem_of_getElem? (i := 14) rfl)) (fun s hZ => own_nf (y := ⟨"evenkeel/group/MinCostFlow", "number", "(II[II)I"⟩) (y' := ⟨"evenkeel/group/MinCostFlow", "sweep", "()Z"⟩) rfl (mvT (args := #[]) hZ (hw _ (List.mem_of_getElem? (i := 327) rfl)))) ⟨by decide, by decide⟩ ⟨_, _, own_pd31, rfl⟩,
    List.forall_mem_nil _⟩⟩⟩⟩⟩⟩
set_option maxRecDepth 65536 in
theorem own_g48 {Z : State} {a0 : Array Value} (hw : own_hw Z a0) : own_okM Z a0 own_P own_m48 := ⟨plainFor_of_name own_pn1, (hw _ (List.mem_of_getElem? (i := 366) rfl)), own_rk48, List.forall_mem_cons.mpr ⟨own_e6 (c := own_k0) (R0 := "evenkeel/group/SpreadSearch") rfl rfl (hw _ (List.mem_of_getElem? (i := 101) rfl)) Via.refl (fun _ => Or.inl (hw _ (List.mem_of_getElem? (i := 102) rfl))),
    List.forall_mem_cons.mpr ⟨own_e6 (c := own_k0) (R0 := "evenkeel/group/SpreadSearch") rfl rfl (hw _ (List.mem_of_getElem? (i := 103) rfl)) Via.refl (fun _ => Or.inl (hw _ (List.mem_of_getElem? (i := 104) rfl))),
    List.forall_mem_cons.mpr ⟨own_e6 (c := own_k0) (R0 := "evenkeel/group/SpreadSearch") rfl rfl (hw _ (List.mem_of_getElem? (i := 152) rfl)) Via.refl (fun _ => Or.inl (hw _ (List.mem_of_getElem? (i := 153) rfl))),
    List.forall_mem_cons.mpr ⟨own_e6 (c := own_k0) (R0 := "evenkeel/group/SpreadSearch") rfl rfl (hw _ (List.mem_of_getElem? (i := 132) rfl)) Via.refl (fun _ => Or.inl (hw _ (List.mem_of_getElem? (i := 133) rfl))),
    List.forall_mem_cons.mpr ⟨own_e6 (c := own_k0) (R0 := "evenkeel/group/SpreadSearch") rfl rfl (hw _ (List.mem_of_getElem? (i := 134) rfl)) Via.refl (fun _ => Or.inl (hw _ (List.mem_of_getElem? (i := 135) rfl))),
    List.forall_mem_cons.mpr ⟨own_e6 (c := own_k0) (R0 := "evenkeel/group/SpreadSearch") rfl rfl (hw _ (List.mem_of_getElem? (i := 367) rfl)) (Via.of (hw _ (List.mem_of_getElem? (i := 368) rfl))) (fun _ => Or.inl (hw _ (List.mem_of_getElem? (i := 161) rfl))),
    List.forall_mem_cons.mpr ⟨own_e6 (c := own_k0) (R0 := "evenkeel/group/SpreadSearch") rfl rfl (hw _ (List.mem_of_getElem? (i := 389) rfl)) (Via.of (hw _ (List.mem_of_getElem? (i := 390) rfl))) (fun _ => Or.inl (hw _ (List.mem_of_getElem? (i := 163) rfl))),
    List.forall_mem_nil _⟩⟩⟩⟩⟩⟩⟩⟩
set_option maxRecDepth 65536 in
theorem own_g49 {Z : State} {a0 : Array Value} (hw : own_hw Z a0) : own_okM Z a0 own_P own_m49 := ⟨plainFor_of_name own_pn1, (hw _ (List.mem_of_getElem? (i := 373) rfl)), own_rk49, List.forall_mem_cons.mpr ⟨own_e6 (c := own_k0) (R0 := "evenkeel/group/SpreadSearch") rfl rfl (hw _ (List.mem_of_getElem? (i := 49) rfl)) Via.refl (fun _ => Or.inl (hw _ (List.mem_of_getElem? (i := 50) rfl))),
    List.forall_mem_cons.mpr ⟨own_e6 (c := own_k0) (R0 := "evenkeel/group/SpreadSearch") rfl rfl (hw _ (List.mem_of_getElem? (i := 95) rfl)) Via.refl (fun _ => Or.inl (hw _ (List.mem_of_getElem? (i := 96) rfl))),
    List.forall_mem_cons.mpr ⟨own_e6 (c := own_k0) (R0 := "evenkeel/group/SpreadSearch") rfl rfl (hw _ (List.mem_of_getElem? (i := 101) rfl)) Via.refl (fun _ => Or.inl (hw _ (List.mem_of_getElem? (i := 102) rfl))),
    List.forall_mem_cons.mpr ⟨own_e6 (c := own_k0) (R0 := "evenkeel/group/SpreadSearch") rfl rfl (hw _ (List.mem_of_getElem? (i := 103) rfl)) Via.refl (fun _ => Or.inl (hw _ (List.mem_of_getElem? (i := 104) rfl))),
    List.forall_mem_cons.mpr ⟨own_e6 (c := own_k0) (R0 := "evenkeel/group/SpreadSearch") rfl rfl (hw _ (List.mem_of_getElem? (i := 105) rfl)) Via.refl (fun _ => Or.inl (hw _ (List.mem_of_getElem? (i := 106) rfl))),
    List.forall_mem_cons.mpr ⟨own_e6 (c := own_k0) (R0 := "evenkeel/group/SpreadSearch") rfl rfl (hw _ (List.mem_of_getElem? (i := 152) rfl)) Via.refl (fun _ => Or.inl (hw _ (List.mem_of_getElem? (i := 153) rfl))),
    List.forall_mem_cons.mpr ⟨own_e6 (c := own_k0) (R0 := "evenkeel/group/SpreadSearch") rfl rfl (hw _ (List.mem_of_getElem? (i := 132) rfl)) Via.refl (fun _ => Or.inl (hw _ (List.mem_of_getElem? (i := 133) rfl))),
    List.forall_mem_cons.mpr ⟨own_e6 (c := own_k0) (R0 := "evenkeel/group/SpreadSearch") rfl rfl (hw _ (List.mem_of_getElem? (i := 134) rfl)) Via.refl (fun _ => Or.inl (hw _ (List.mem_of_getElem? (i := 135) rfl))),
    List.forall_mem_cons.mpr ⟨own_e6 (c := own_k0) (R0 := "evenkeel/group/SpreadSearch") rfl rfl (hw _ (List.mem_of_getElem? (i := 367) rfl)) (Via.of (hw _ (List.mem_of_getElem? (i := 368) rfl))) (fun _ => Or.inl (hw _ (List.mem_of_getElem? (i := 161) rfl))),
    List.forall_mem_cons.mpr ⟨own_e6 (c := own_k0) (R0 := "evenkeel/group/SpreadSearch") rfl rfl (hw _ (List.mem_of_getElem? (i := 389) rfl)) (Via.of (hw _ (List.mem_of_getElem? (i := 390) rfl))) (fun _ => Or.inl (hw _ (List.mem_of_getElem? (i := 163) rfl))),
    List.forall_mem_cons.mpr ⟨own_e6 (c := own_k0) (R0 := "evenkeel/group/SpreadSearch") rfl rfl (hw _ (List.mem_of_getElem? (i := 140) rfl)) Via.refl (fun _ => Or.inl (hw _ (List.mem_of_getElem? (i := 141) rfl))),
    List.forall_mem_nil _⟩⟩⟩⟩⟩⟩⟩⟩⟩⟩⟩⟩
set_option maxRecDepth 65536 in
theorem own_g50 {Z : State} {a0 : Array Value} (hw : own_hw Z a0) : own_okM Z a0 own_P own_m50 := ⟨plainFor_of_name own_pn1, (hw _ (List.mem_of_getElem? (i := 378) rfl)), own_rk50, List.forall_mem_cons.mpr ⟨own_e6 (c := own_k0) (R0 := "evenkeel/group/SpreadSearch") rfl rfl (hw _ (List.mem_of_getElem? (i := 51) rfl)) Via.refl (fun _ => Or.inl (hw _ (List.mem_of_getElem? (i := 52) rfl))),
    List.forall_mem_cons.mpr ⟨own_e6 (c := own_k0) (R0 := "evenkeel/group/SpreadSearch") rfl rfl (hw _ (List.mem_of_getElem? (i := 95) rfl)) Via.refl (fun _ => Or.inl (hw _ (List.mem_of_getElem? (i := 96) rfl))),
    List.forall_mem_cons.mpr ⟨own_e6 (c := own_k0) (R0 := "evenkeel/group/SpreadSearch") rfl rfl (hw _ (List.mem_of_getElem? (i := 97) rfl)) Via.refl (fun _ => Or.inl (hw _ (List.mem_of_getElem? (i := 98) rfl))),
    List.forall_mem_cons.mpr ⟨own_e6 (c := own_k0) (R0 := "evenkeel/group/SpreadSearch") rfl rfl (hw _ (List.mem_of_getElem? (i := 99) rfl)) Via.refl (fun _ => Or.inl (hw _ (List.mem_of_getElem? (i := 100) rfl))),
    List.forall_mem_cons.mpr ⟨own_e6 (c := own_k0) (R0 := "evenkeel/group/SpreadSearch") rfl rfl (hw _ (List.mem_of_getElem? (i := 101) rfl)) Via.refl (fun _ => Or.inl (hw _ (List.mem_of_getElem? (i := 102) rfl))),
    List.forall_mem_cons.mpr ⟨own_e6 (c := own_k0) (R0 := "evenkeel/group/SpreadSearch") rfl rfl (hw _ (List.mem_of_getElem? (i := 103) rfl)) Via.refl (fun _ => Or.inl (hw _ (List.mem_of_getElem? (i := 104) rfl))),
    List.forall_mem_cons.mpr ⟨own_e6 (c := own_k0) (R0 := "evenkeel/group/SpreadSearch") rfl rfl (hw _ (List.mem_of_getElem? (i := 105) rfl)) Via.refl (fun _ => Or.inl (hw _ (List.mem_of_getElem? (i := 106) rfl))),
    List.forall_mem_cons.mpr ⟨own_e6 (c := own_k0) (R0 := "evenkeel/group/SpreadSearch") rfl rfl (hw _ (List.mem_of_getElem? (i := 152) rfl)) Via.refl (fun _ => Or.inl (hw _ (List.mem_of_getElem? (i := 153) rfl))),
    List.forall_mem_cons.mpr ⟨own_e6 (c := own_k0) (R0 := "evenkeel/group/SpreadSearch") rfl rfl (hw _ (List.mem_of_getElem? (i := 132) rfl)) Via.refl (fun _ => Or.inl (hw _ (List.mem_of_getElem? (i := 133) rfl))),
    List.forall_mem_cons.mpr ⟨own_e6 (c := own_k0) (R0 := "evenkeel/group/SpreadSearch") rfl rfl (hw _ (List.mem_of_getElem? (i := 134) rfl)) Via.refl (fun _ => Or.inl (hw _ (List.mem_of_getElem? (i := 135) rfl))),
    List.forall_mem_cons.mpr ⟨own_e6 (c := own_k0) (R0 := "evenkeel/group/SpreadSearch") rfl rfl (hw _ (List.mem_of_getElem? (i := 146) rfl)) Via.refl (fun _ => Or.inl (hw _ (List.mem_of_getElem? (i := 147) rfl))),
    List.forall_mem_cons.mpr ⟨own_e6 (c := own_k0) (R0 := "evenkeel/group/SpreadSearch") rfl rfl (hw _ (List.mem_of_getElem? (i := 247) rfl)) (Via.of (hw _ (List.mem_of_getElem? (i := 248) rfl))) (fun _ => Or.inl (hw _ (List.mem_of_getElem? (i := 20) rfl))),
    List.forall_mem_cons.mpr ⟨own_e6 (c := own_k0) (R0 := "evenkeel/group/SpreadSearch") rfl rfl (hw _ (List.mem_of_getElem? (i := 367) rfl)) (Via.of (hw _ (List.mem_of_getElem? (i := 368) rfl))) (fun _ => Or.inl (hw _ (List.mem_of_getElem? (i := 161) rfl))),
    List.forall_mem_cons.mpr ⟨own_e6 (c := own_k0) (R0 := "evenkeel/group/SpreadSearch") rfl rfl (hw _ (List.mem_of_getElem? (i := 389) rfl)) (Via.of (hw _ (List.mem_of_getElem? (i := 390) rfl))) (fun _ => Or.inl (hw _ (List.mem_of_getElem? (i := 163) rfl))),
    List.forall_mem_nil _⟩⟩⟩⟩⟩⟩⟩⟩⟩⟩⟩⟩⟩⟩⟩
set_option maxRecDepth 65536 in
theorem own_g51 {Z : State} {a0 : Array Value} (hw : own_hw Z a0) : own_okM Z a0 own_P own_m51 := ⟨plainFor_of_name own_pn2, (hw _ (List.mem_of_getElem? (i := 383) rfl)), own_rk51, List.forall_mem_cons.mpr ⟨own_e6 (c := own_k0) (R0 := "evenkeel/group/MinCostFlow") rfl rfl (hw _ (List.mem_of_getElem? (i := 31) rfl)) Via.refl (fun _ => Or.inl (hw _ (List.mem_of_getElem? (i := 32) rfl))),
    List.forall_mem_cons.mpr ⟨own_e6 (c := own_k0) (R0 := "evenkeel/group/MinCostFlow") rfl rfl (hw _ (List.mem_of_getElem? (i := 162) rfl)) Via.refl (fun _ => Or.inl (hw _ (List.mem_of_getElem? (i := 163) rfl))),
    List.forall_mem_cons.mpr ⟨own_e6 (c := own_k0) (R0 := "evenkeel/group/MinCostFlow") rfl rfl (hw _ (List.mem_of_getElem? (i := 350) rfl)) Via.refl (fun _ => Or.inl (hw _ (List.mem_of_getElem? (i := 351) rfl))),
    List.forall_mem_cons.mpr ⟨own_e3 (mj := own_m52) (c := own_k0) (v := ⟨"evenkeel/group/MinCostFlow", "leadsToSink", "(I)Z"⟩) rfl rfl rfl (hw _ (List.mem_of_getElem? (i := 384) rfl)) (hw _ (List.mem_of_getElem? (i := 385) rfl)) (hw _ (List.mem_of_getElem? (i := 387) rfl)) (hw _ (List.mem_of_getElem? (i := 386) rfl)) (hw _ (List.mem_of_getElem? (i := 14) rfl)) (fun s hZ => own_nf (y := ⟨"evenkeel/group/MinCostFlow", "leadsToSink", "(I)Z"⟩) (y' := ⟨"evenkeel/group/MinCostFlow", "sweep", "()Z"⟩) rfl (mvT (args := #[]) hZ (hw _ (List.mem_of_getElem? (i := 327) rfl)))) ⟨by decide, by decide⟩ ⟨_, _, own_pd33, rfl⟩,
    List.forall_mem_nil _⟩⟩⟩⟩⟩
set_option maxRecDepth 65536 in
theorem own_g52 {Z : State} {a0 : Array Value} (hw : own_hw Z a0) : own_okM Z a0 own_P own_m52 := ⟨plainFor_of_name own_pn2, (hw _ (List.mem_of_getElem? (i := 388) rfl)), own_rk52, List.forall_mem_nil _⟩
set_option maxRecDepth 65536 in
theorem own_g53 {Z : State} {a0 : Array Value} (hw : own_hw Z a0) : own_okM Z a0 own_P own_m53 := ⟨plainFor_of_name own_pn0, (hw _ (List.mem_of_getElem? (i := 395) rfl)), own_rk53, List.forall_mem_nil _⟩
set_option maxRecDepth 65536 in
theorem own_g54 {Z : State} {a0 : Array Value} (hw : own_hw Z a0) : own_okM Z a0 own_P own_m54 := ⟨plainFor_of_name own_pn0, (hw _ (List.mem_of_getElem? (i := 398) rfl)), own_rk54, List.forall_mem_nil _⟩
set_option maxRecDepth 65536 in
theorem own_g55 {Z : State} {a0 : Array Value} (hw : own_hw Z a0) : own_okM Z a0 own_P own_m55 := ⟨plainFor_of_name own_pn0, (hw _ (List.mem_of_getElem? (i := 401) rfl)), own_rk55, List.forall_mem_cons.mpr ⟨own_e0 (mj := own_m59) rfl (hw _ (List.mem_of_getElem? (i := 416) rfl)) (hw _ (List.mem_of_getElem? (i := 417) rfl)) (hw _ (List.mem_of_getElem? (i := 394) rfl)) ⟨by decide, by decide⟩ ⟨_, _, own_pd34, rfl⟩,
    List.forall_mem_nil _⟩⟩
set_option maxRecDepth 65536 in
theorem own_g56 {Z : State} {a0 : Array Value} (hw : own_hw Z a0) : own_okM Z a0 own_P own_m56 := ⟨plainFor_of_name own_pn1, (hw _ (List.mem_of_getElem? (i := 406) rfl)), own_rk56, List.forall_mem_cons.mpr ⟨own_e6 (c := own_k0) (R0 := "evenkeel/group/SpreadSearch") rfl rfl (hw _ (List.mem_of_getElem? (i := 51) rfl)) Via.refl (fun _ => Or.inl (hw _ (List.mem_of_getElem? (i := 52) rfl))),
    List.forall_mem_cons.mpr ⟨own_e6 (c := own_k0) (R0 := "evenkeel/group/SpreadSearch") rfl rfl (hw _ (List.mem_of_getElem? (i := 95) rfl)) Via.refl (fun _ => Or.inl (hw _ (List.mem_of_getElem? (i := 96) rfl))),
    List.forall_mem_cons.mpr ⟨own_e6 (c := own_k0) (R0 := "evenkeel/group/SpreadSearch") rfl rfl (hw _ (List.mem_of_getElem? (i := 101) rfl)) Via.refl (fun _ => Or.inl (hw _ (List.mem_of_getElem? (i := 102) rfl))),
    List.forall_mem_cons.mpr ⟨own_e6 (c := own_k0) (R0 := "evenkeel/group/SpreadSearch") rfl rfl (hw _ (List.mem_of_getElem? (i := 103) rfl)) Via.refl (fun _ => Or.inl (hw _ (List.mem_of_getElem? (i := 104) rfl))),
    List.forall_mem_cons.mpr ⟨own_e6 (c := own_k0) (R0 := "evenkeel/group/SpreadSearch") rfl rfl (hw _ (List.mem_of_getElem? (i := 105) rfl)) Via.refl (fun _ => Or.inl (hw _ (List.mem_of_getElem? (i := 106) rfl))),
    List.forall_mem_cons.mpr ⟨own_e6 (c := own_k0) (R0 := "evenkeel/group/SpreadSearch") rfl rfl (hw _ (List.mem_of_getElem? (i := 152) rfl)) Via.refl (fun _ => Or.inl (hw _ (List.mem_of_getElem? (i := 153) rfl))),
    List.forall_mem_cons.mpr ⟨own_e6 (c := own_k0) (R0 := "evenkeel/group/SpreadSearch") rfl rfl (hw _ (List.mem_of_getElem? (i := 132) rfl)) Via.refl (fun _ => Or.inl (hw _ (List.mem_of_getElem? (i := 133) rfl))),
    List.forall_mem_cons.mpr ⟨own_e6 (c := own_k0) (R0 := "evenkeel/group/SpreadSearch") rfl rfl (hw _ (List.mem_of_getElem? (i := 134) rfl)) Via.refl (fun _ => Or.inl (hw _ (List.mem_of_getElem? (i := 135) rfl))),
    List.forall_mem_cons.mpr ⟨own_e6 (c := own_k0) (R0 := "evenkeel/group/SpreadSearch") rfl rfl (hw _ (List.mem_of_getElem? (i := 146) rfl)) Via.refl (fun _ => Or.inl (hw _ (List.mem_of_getElem? (i := 147) rfl))),
    List.forall_mem_cons.mpr ⟨own_e6 (c := own_k0) (R0 := "evenkeel/group/SpreadSearch") rfl rfl (hw _ (List.mem_of_getElem? (i := 367) rfl)) (Via.of (hw _ (List.mem_of_getElem? (i := 368) rfl))) (fun _ => Or.inl (hw _ (List.mem_of_getElem? (i := 161) rfl))),
    List.forall_mem_nil _⟩⟩⟩⟩⟩⟩⟩⟩⟩⟩⟩
set_option maxRecDepth 65536 in
theorem own_g57 {Z : State} {a0 : Array Value} (hw : own_hw Z a0) : own_okM Z a0 own_P own_m57 := ⟨plainFor_of_name own_pn0, (hw _ (List.mem_of_getElem? (i := 409) rfl)), own_rk57, List.forall_mem_nil _⟩
set_option maxRecDepth 65536 in
theorem own_g58 {Z : State} {a0 : Array Value} (hw : own_hw Z a0) : own_okM Z a0 own_P own_m58 := ⟨plainFor_of_name own_pn0, (hw _ (List.mem_of_getElem? (i := 412) rfl)), own_rk58, List.forall_mem_cons.mpr ⟨own_e0 (mj := own_m59) rfl (hw _ (List.mem_of_getElem? (i := 416) rfl)) (hw _ (List.mem_of_getElem? (i := 417) rfl)) (hw _ (List.mem_of_getElem? (i := 394) rfl)) ⟨by decide, by decide⟩ ⟨_, _, own_pd34, rfl⟩,
    List.forall_mem_cons.mpr ⟨own_e3 (mj := own_m50) (c := own_k0) (v := ⟨"evenkeel/group/SpreadSearch", "room", "(II)J"⟩) rfl rfl rfl (hw _ (List.mem_of_getElem? (i := 413) rfl)) (hw _ (List.mem_of_getElem? (i := 414) rfl)) (hw _ (List.mem_of_getElem? (i := 415) rfl)) (hw _ (List.mem_of_getElem? (i := 377) rfl)) (hw _ (List.mem_of_getElem? (i := 7) rfl)) (fun s hZ => own_nf (y := ⟨"evenkeel/group/SpreadSearch", "room", "(II)J"⟩) (y' := ⟨"evenkeel/group/SpreadSearch", "spreadAtLevels", "(II[I[I[I[I[I[J[J[I)Z"⟩) rfl (mvT (args := #[]) hZ (hw _ (List.mem_of_getElem? (i := 122) rfl)))) ⟨by decide, by decide⟩ ⟨_, _, own_pd30, rfl⟩,
    List.forall_mem_nil _⟩⟩⟩
set_option maxRecDepth 65536 in
theorem own_g59 {Z : State} {a0 : Array Value} (hw : own_hw Z a0) : own_okM Z a0 own_P own_m59 := ⟨plainFor_of_name own_pn0, (hw _ (List.mem_of_getElem? (i := 418) rfl)), own_rk59, List.forall_mem_nil _⟩
set_option maxRecDepth 65536 in
theorem own_g60 {Z : State} {a0 : Array Value} (hw : own_hw Z a0) : own_okM Z a0 own_P own_m60 := ⟨plainFor_of_name own_pn1, (hw _ (List.mem_of_getElem? (i := 422) rfl)), own_rk60, List.forall_mem_cons.mpr ⟨own_e6 (c := own_k0) (R0 := "evenkeel/group/SpreadSearch") rfl rfl (hw _ (List.mem_of_getElem? (i := 51) rfl)) Via.refl (fun _ => Or.inl (hw _ (List.mem_of_getElem? (i := 52) rfl))),
    List.forall_mem_cons.mpr ⟨own_e6 (c := own_k0) (R0 := "evenkeel/group/SpreadSearch") rfl rfl (hw _ (List.mem_of_getElem? (i := 59) rfl)) Via.refl (fun _ => Or.inl (hw _ (List.mem_of_getElem? (i := 60) rfl))),
    List.forall_mem_cons.mpr ⟨own_e6 (c := own_k0) (R0 := "evenkeel/group/SpreadSearch") rfl rfl (hw _ (List.mem_of_getElem? (i := 65) rfl)) Via.refl (fun _ => Or.inl (hw _ (List.mem_of_getElem? (i := 66) rfl))),
    List.forall_mem_cons.mpr ⟨own_e6 (c := own_k0) (R0 := "evenkeel/group/SpreadSearch") rfl rfl (hw _ (List.mem_of_getElem? (i := 132) rfl)) Via.refl (fun _ => Or.inl (hw _ (List.mem_of_getElem? (i := 133) rfl))),
    List.forall_mem_cons.mpr ⟨own_e6 (c := own_k0) (R0 := "evenkeel/group/SpreadSearch") rfl rfl (hw _ (List.mem_of_getElem? (i := 237) rfl)) Via.refl (fun _ => Or.inl (hw _ (List.mem_of_getElem? (i := 238) rfl))),
    List.forall_mem_cons.mpr ⟨own_e4 (mj := own_m32) rfl (hw _ (List.mem_of_getElem? (i := 278) rfl)) (hw _ (List.mem_of_getElem? (i := 279) rfl)) (hw _ (List.mem_of_getElem? (i := 280) rfl)) (fun s hZ => own_nf (y := ⟨"evenkeel/group/SpreadSearch", "placeIn", "(IIIJ)V"⟩) (y' := ⟨"evenkeel/group/SpreadSearch", "spreadAtLevels", "(II[I[I[I[I[I[J[J[I)Z"⟩) rfl (mvT (args := #[]) hZ (hw _ (List.mem_of_getElem? (i := 122) rfl)))) (hw _ (List.mem_of_getElem? (i := 7) rfl)) ⟨by decide, by decide⟩ ⟨_, _, own_pd26, rfl⟩,
    List.forall_mem_nil _⟩⟩⟩⟩⟩⟩⟩
set_option maxRecDepth 65536 in
theorem own_G {Z : State} {a0 : Array Value} (hw : own_hw Z a0) : own_good Z a0 own_P := by
  refine ⟨List.forall_mem_cons.mpr ⟨own_g0 hw, List.forall_mem_cons.mpr ⟨own_g1 hw, List.forall_mem_cons.mpr ⟨own_g2 hw, List.forall_mem_cons.mpr ⟨own_g3 hw, List.forall_mem_cons.mpr ⟨own_g4 hw, List.forall_mem_cons.mpr ⟨own_g5 hw, List.forall_mem_cons.mpr ⟨own_g6 hw, List.forall_mem_cons.mpr ⟨own_g7 hw, List.forall_mem_cons.mpr ⟨own_g8 hw, List.forall_mem_cons.mpr ⟨own_g9 hw, List.forall_mem_cons.mpr ⟨own_g10 hw, List.forall_mem_cons.mpr ⟨own_g11 hw, List.forall_mem_cons.mpr ⟨own_g12 hw, List.forall_mem_cons.mpr ⟨own_g13 hw, List.forall_mem_cons.mpr ⟨own_g14 hw, List.forall_mem_cons.mpr ⟨own_g15 hw, List.forall_mem_cons.mpr ⟨own_g16 hw, List.forall_mem_cons.mpr ⟨own_g17 hw, List.forall_mem_cons.mpr ⟨own_g18 hw, List.forall_mem_cons.mpr ⟨own_g19 hw, List.forall_mem_cons.mpr ⟨own_g20 hw, List.forall_mem_cons.mpr ⟨own_g21 hw, List.forall_mem_cons.mpr ⟨own_g22 hw, List.forall_mem_cons.mpr ⟨own_g23 hw, List.forall_mem_cons.mpr ⟨own_g24 hw, List.forall_mem_cons.mpr ⟨own_g25 hw, List.forall_mem_cons.mpr ⟨own_g26 hw, List.forall_mem_cons.mpr ⟨own_g27 hw, List.forall_mem_cons.mpr ⟨own_g28 hw, List.forall_mem_cons.mpr ⟨own_g29 hw, List.forall_mem_cons.mpr ⟨own_g30 hw, List.forall_mem_cons.mpr ⟨own_g31 hw, List.forall_mem_cons.mpr ⟨own_g32 hw, List.forall_mem_cons.mpr ⟨own_g33 hw, List.forall_mem_cons.mpr ⟨own_g34 hw, List.forall_mem_cons.mpr ⟨own_g35 hw, List.forall_mem_cons.mpr ⟨own_g36 hw, List.forall_mem_cons.mpr ⟨own_g37 hw, List.forall_mem_cons.mpr ⟨own_g38 hw, List.forall_mem_cons.mpr ⟨own_g39 hw, List.forall_mem_cons.mpr ⟨own_g40 hw, List.forall_mem_cons.mpr ⟨own_g41 hw, List.forall_mem_cons.mpr ⟨own_g42 hw, List.forall_mem_cons.mpr ⟨own_g43 hw, List.forall_mem_cons.mpr ⟨own_g44 hw, List.forall_mem_cons.mpr ⟨own_g45 hw, List.forall_mem_cons.mpr ⟨own_g46 hw, List.forall_mem_cons.mpr ⟨own_g47 hw, List.forall_mem_cons.mpr ⟨own_g48 hw, List.forall_mem_cons.mpr ⟨own_g49 hw, List.forall_mem_cons.mpr ⟨own_g50 hw, List.forall_mem_cons.mpr ⟨own_g51 hw, List.forall_mem_cons.mpr ⟨own_g52 hw, List.forall_mem_cons.mpr ⟨own_g53 hw, List.forall_mem_cons.mpr ⟨own_g54 hw, List.forall_mem_cons.mpr ⟨own_g55 hw, List.forall_mem_cons.mpr ⟨own_g56 hw, List.forall_mem_cons.mpr ⟨own_g57 hw, List.forall_mem_cons.mpr ⟨own_g58 hw, List.forall_mem_cons.mpr ⟨own_g59 hw, List.forall_mem_cons.mpr ⟨own_g60 hw, List.forall_mem_nil _⟩⟩⟩⟩⟩⟩⟩⟩⟩⟩⟩⟩⟩⟩⟩⟩⟩⟩⟩⟩⟩⟩⟩⟩⟩⟩⟩⟩⟩⟩⟩⟩⟩⟩⟩⟩⟩⟩⟩⟩⟩⟩⟩⟩⟩⟩⟩⟩⟩⟩⟩⟩⟩⟩⟩⟩⟩⟩⟩⟩⟩, ?_, ?_⟩
  · intro k c hk
    have hk2 := List.mem_of_getElem? hk
    simp only [own_P, List.mem_cons, List.not_mem_nil, or_false] at hk2
    rcases hk2 with rfl
    · exact ⟨(hw _ (List.mem_of_getElem? (i := 6) rfl)), (hw _ (List.mem_of_getElem? (i := 7) rfl)), List.forall_mem_cons.mpr ⟨⟨Or.inl (hw _ (List.mem_of_getElem? (i := 20) rfl)), by decide +kernel⟩,
      List.forall_mem_cons.mpr ⟨⟨Or.inl (hw _ (List.mem_of_getElem? (i := 22) rfl)), by decide +kernel⟩,
      List.forall_mem_cons.mpr ⟨⟨Or.inl (hw _ (List.mem_of_getElem? (i := 24) rfl)), by decide +kernel⟩,
      List.forall_mem_cons.mpr ⟨⟨Or.inl (hw _ (List.mem_of_getElem? (i := 26) rfl)), by decide +kernel⟩,
      List.forall_mem_cons.mpr ⟨⟨Or.inl (hw _ (List.mem_of_getElem? (i := 28) rfl)), by decide +kernel⟩,
      List.forall_mem_cons.mpr ⟨⟨Or.inl (hw _ (List.mem_of_getElem? (i := 30) rfl)), by decide +kernel⟩,
      List.forall_mem_cons.mpr ⟨⟨Or.inl (hw _ (List.mem_of_getElem? (i := 32) rfl)), by decide +kernel⟩,
      List.forall_mem_cons.mpr ⟨⟨Or.inl (hw _ (List.mem_of_getElem? (i := 34) rfl)), by decide +kernel⟩,
      List.forall_mem_cons.mpr ⟨⟨Or.inl (hw _ (List.mem_of_getElem? (i := 36) rfl)), by decide +kernel⟩,
      List.forall_mem_cons.mpr ⟨⟨Or.inl (hw _ (List.mem_of_getElem? (i := 38) rfl)), by decide +kernel⟩,
      List.forall_mem_cons.mpr ⟨⟨Or.inl (hw _ (List.mem_of_getElem? (i := 40) rfl)), by decide +kernel⟩,
      List.forall_mem_cons.mpr ⟨⟨Or.inl (hw _ (List.mem_of_getElem? (i := 42) rfl)), by decide +kernel⟩,
      List.forall_mem_cons.mpr ⟨⟨Or.inl (hw _ (List.mem_of_getElem? (i := 44) rfl)), by decide +kernel⟩,
      List.forall_mem_cons.mpr ⟨⟨Or.inl (hw _ (List.mem_of_getElem? (i := 46) rfl)), by decide +kernel⟩,
      List.forall_mem_cons.mpr ⟨⟨Or.inl (hw _ (List.mem_of_getElem? (i := 48) rfl)), by decide +kernel⟩,
      List.forall_mem_cons.mpr ⟨⟨Or.inl (hw _ (List.mem_of_getElem? (i := 50) rfl)), by decide +kernel⟩,
      List.forall_mem_cons.mpr ⟨⟨Or.inl (hw _ (List.mem_of_getElem? (i := 52) rfl)), by decide +kernel⟩,
      List.forall_mem_cons.mpr ⟨⟨Or.inl (hw _ (List.mem_of_getElem? (i := 54) rfl)), by decide +kernel⟩,
      List.forall_mem_cons.mpr ⟨⟨Or.inl (hw _ (List.mem_of_getElem? (i := 56) rfl)), by decide +kernel⟩,
      List.forall_mem_cons.mpr ⟨⟨Or.inl (hw _ (List.mem_of_getElem? (i := 58) rfl)), by decide +kernel⟩,
      List.forall_mem_cons.mpr ⟨⟨Or.inl (hw _ (List.mem_of_getElem? (i := 60) rfl)), by decide +kernel⟩,
      List.forall_mem_cons.mpr ⟨⟨Or.inl (hw _ (List.mem_of_getElem? (i := 62) rfl)), by decide +kernel⟩,
      List.forall_mem_cons.mpr ⟨⟨Or.inl (hw _ (List.mem_of_getElem? (i := 64) rfl)), by decide +kernel⟩,
      List.forall_mem_cons.mpr ⟨⟨Or.inl (hw _ (List.mem_of_getElem? (i := 66) rfl)), by decide +kernel⟩,
      List.forall_mem_cons.mpr ⟨⟨Or.inr (hw _ (List.mem_of_getElem? (i := 68) rfl)), by decide +kernel⟩,
      List.forall_mem_cons.mpr ⟨⟨Or.inr (hw _ (List.mem_of_getElem? (i := 70) rfl)), by decide +kernel⟩,
      List.forall_mem_cons.mpr ⟨⟨Or.inr (hw _ (List.mem_of_getElem? (i := 72) rfl)), by decide +kernel⟩,
      List.forall_mem_cons.mpr ⟨⟨Or.inr (hw _ (List.mem_of_getElem? (i := 74) rfl)), by decide +kernel⟩,
      List.forall_mem_cons.mpr ⟨⟨Or.inl (hw _ (List.mem_of_getElem? (i := 76) rfl)), by decide +kernel⟩,
      List.forall_mem_cons.mpr ⟨⟨Or.inl (hw _ (List.mem_of_getElem? (i := 78) rfl)), by decide +kernel⟩,
      List.forall_mem_cons.mpr ⟨⟨Or.inl (hw _ (List.mem_of_getElem? (i := 80) rfl)), by decide +kernel⟩,
      List.forall_mem_cons.mpr ⟨⟨Or.inl (hw _ (List.mem_of_getElem? (i := 82) rfl)), by decide +kernel⟩,
      List.forall_mem_cons.mpr ⟨⟨Or.inl (hw _ (List.mem_of_getElem? (i := 84) rfl)), by decide +kernel⟩,
      List.forall_mem_cons.mpr ⟨⟨Or.inl (hw _ (List.mem_of_getElem? (i := 86) rfl)), by decide +kernel⟩,
      List.forall_mem_cons.mpr ⟨⟨Or.inl (hw _ (List.mem_of_getElem? (i := 88) rfl)), by decide +kernel⟩,
      List.forall_mem_cons.mpr ⟨⟨Or.inl (hw _ (List.mem_of_getElem? (i := 90) rfl)), by decide +kernel⟩,
      List.forall_mem_cons.mpr ⟨⟨Or.inl (hw _ (List.mem_of_getElem? (i := 92) rfl)), by decide +kernel⟩,
      List.forall_mem_cons.mpr ⟨⟨Or.inl (hw _ (List.mem_of_getElem? (i := 94) rfl)), by decide +kernel⟩,
      List.forall_mem_cons.mpr ⟨⟨Or.inl (hw _ (List.mem_of_getElem? (i := 96) rfl)), by decide +kernel⟩,
      List.forall_mem_cons.mpr ⟨⟨Or.inl (hw _ (List.mem_of_getElem? (i := 98) rfl)), by decide +kernel⟩,
      List.forall_mem_cons.mpr ⟨⟨Or.inl (hw _ (List.mem_of_getElem? (i := 100) rfl)), by decide +kernel⟩,
      List.forall_mem_cons.mpr ⟨⟨Or.inl (hw _ (List.mem_of_getElem? (i := 102) rfl)), by decide +kernel⟩,
      List.forall_mem_cons.mpr ⟨⟨Or.inl (hw _ (List.mem_of_getElem? (i := 104) rfl)), by decide +kernel⟩,
      List.forall_mem_cons.mpr ⟨⟨Or.inl (hw _ (List.mem_of_getElem? (i := 106) rfl)), by decide +kernel⟩,
      List.forall_mem_cons.mpr ⟨⟨Or.inl (hw _ (List.mem_of_getElem? (i := 108) rfl)), by decide +kernel⟩,
      List.forall_mem_cons.mpr ⟨⟨Or.inl (hw _ (List.mem_of_getElem? (i := 110) rfl)), by decide +kernel⟩,
      List.forall_mem_cons.mpr ⟨⟨Or.inl (hw _ (List.mem_of_getElem? (i := 112) rfl)), by decide +kernel⟩,
      List.forall_mem_cons.mpr ⟨⟨Or.inl (hw _ (List.mem_of_getElem? (i := 114) rfl)), by decide +kernel⟩,
      List.forall_mem_cons.mpr ⟨⟨Or.inl (hw _ (List.mem_of_getElem? (i := 116) rfl)), by decide +kernel⟩,
      List.forall_mem_cons.mpr ⟨⟨Or.inl (hw _ (List.mem_of_getElem? (i := 118) rfl)), by decide +kernel⟩,
      List.forall_mem_cons.mpr ⟨⟨Or.inl (hw _ (List.mem_of_getElem? (i := 133) rfl)), by decide +kernel⟩,
      List.forall_mem_cons.mpr ⟨⟨Or.inl (hw _ (List.mem_of_getElem? (i := 135) rfl)), by decide +kernel⟩,
      List.forall_mem_cons.mpr ⟨⟨Or.inl (hw _ (List.mem_of_getElem? (i := 137) rfl)), by decide +kernel⟩,
      List.forall_mem_cons.mpr ⟨⟨Or.inl (hw _ (List.mem_of_getElem? (i := 139) rfl)), by decide +kernel⟩,
      List.forall_mem_cons.mpr ⟨⟨Or.inl (hw _ (List.mem_of_getElem? (i := 141) rfl)), by decide +kernel⟩,
      List.forall_mem_cons.mpr ⟨⟨Or.inl (hw _ (List.mem_of_getElem? (i := 143) rfl)), by decide +kernel⟩,
      List.forall_mem_cons.mpr ⟨⟨Or.inl (hw _ (List.mem_of_getElem? (i := 145) rfl)), by decide +kernel⟩,
      List.forall_mem_cons.mpr ⟨⟨Or.inl (hw _ (List.mem_of_getElem? (i := 147) rfl)), by decide +kernel⟩,
      List.forall_mem_cons.mpr ⟨⟨Or.inl (hw _ (List.mem_of_getElem? (i := 149) rfl)), by decide +kernel⟩,
      List.forall_mem_cons.mpr ⟨⟨Or.inl (hw _ (List.mem_of_getElem? (i := 151) rfl)), by decide +kernel⟩,
      List.forall_mem_cons.mpr ⟨⟨Or.inl (hw _ (List.mem_of_getElem? (i := 153) rfl)), by decide +kernel⟩,
      List.forall_mem_cons.mpr ⟨⟨Or.inl (hw _ (List.mem_of_getElem? (i := 161) rfl)), by decide +kernel⟩,
      List.forall_mem_cons.mpr ⟨⟨Or.inl (hw _ (List.mem_of_getElem? (i := 163) rfl)), by decide +kernel⟩,
      List.forall_mem_cons.mpr ⟨⟨Or.inl (hw _ (List.mem_of_getElem? (i := 176) rfl)), by decide +kernel⟩,
      List.forall_mem_cons.mpr ⟨⟨Or.inl (hw _ (List.mem_of_getElem? (i := 205) rfl)), by decide +kernel⟩,
      List.forall_mem_cons.mpr ⟨⟨Or.inl (hw _ (List.mem_of_getElem? (i := 238) rfl)), by decide +kernel⟩,
      List.forall_mem_cons.mpr ⟨⟨Or.inl (hw _ (List.mem_of_getElem? (i := 261) rfl)), by decide +kernel⟩,
      List.forall_mem_cons.mpr ⟨⟨Or.inl (hw _ (List.mem_of_getElem? (i := 284) rfl)), by decide +kernel⟩,
      List.forall_mem_cons.mpr ⟨⟨Or.inl (hw _ (List.mem_of_getElem? (i := 290) rfl)), by decide +kernel⟩,
      List.forall_mem_cons.mpr ⟨⟨Or.inl (hw _ (List.mem_of_getElem? (i := 296) rfl)), by decide +kernel⟩,
      List.forall_mem_cons.mpr ⟨⟨Or.inl (hw _ (List.mem_of_getElem? (i := 349) rfl)), by decide +kernel⟩,
      List.forall_mem_cons.mpr ⟨⟨Or.inl (hw _ (List.mem_of_getElem? (i := 351) rfl)), by decide +kernel⟩,
      List.forall_mem_nil _⟩⟩⟩⟩⟩⟩⟩⟩⟩⟩⟩⟩⟩⟩⟩⟩⟩⟩⟩⟩⟩⟩⟩⟩⟩⟩⟩⟩⟩⟩⟩⟩⟩⟩⟩⟩⟩⟩⟩⟩⟩⟩⟩⟩⟩⟩⟩⟩⟩⟩⟩⟩⟩⟩⟩⟩⟩⟩⟩⟩⟩⟩⟩⟩⟩⟩⟩⟩⟩⟩⟩⟩, by decide +kernel⟩
  · exact List.forall_mem_cons.mpr ⟨⟨(hw _ (List.mem_of_getElem? (i := 2) rfl)), rfl⟩, List.forall_mem_cons.mpr ⟨⟨(hw _ (List.mem_of_getElem? (i := 3) rfl)), rfl⟩, List.forall_mem_nil _⟩⟩
abbrev own_goal (as : List Value) : Prop := own_ks own_P (own_end own_P.2.1 208 896) [] 0 12 304 0 (own_entry as own_m0.ml) [] []
/-! ## the law -/
theorem own_l0 (o : Int64) : o - (0 : Int64) = o := Int64.sub_zero o
theorem own_l1 (o : Int64) : (0 : Int64) - (-o) = o := by rw [Int64.zero_sub, Int64.neg_neg]
theorem own_l2 {o : Int64} (h1 : ¬ (0 : Int32) < lcmpW o (0 : Int64)) (h2 : ¬ lcmpW o (0 : Int64) < (0 : Int32)) : (0 : Int64) = o := by
  rw [lw_gt] at h1
  rw [lw_lt] at h2
  exact Int64.le_antisymm (Int64.not_lt.mp h2) (Int64.not_lt.mp h1)
def own_Ha00 : OHeap := [(.inr .int, [.int (1 : Int32), .int (1 : Int32)]), (.inr .int, [.int (0 : Int32), .int (2 : Int32), .int (4 : Int32), .int (4 : Int32)]), (.inr .int, [.int (0 : Int32), .int (1 : Int32), .int (0 : Int32), .int (1 : Int32), .int (0 : Int32), .int (1 : Int32)]), (.inr .int, [.int (0 : Int32), .int (0 : Int32), .int (0 : Int32), .int (0 : Int32), .int (0 : Int32), .int (0 : Int32)]), (.inr .int, [.int (2147483647 : Int32), .int (2147483647 : Int32), .int (2147483647 : Int32), .int (2147483647 : Int32), .int (2147483647 : Int32), .int (2147483647 : Int32)]), (.inr .long, [.long (1 : Int64), .long (1 : Int64)]), (.inr .long, [.long (0 : Int64), .long (0 : Int64), .long (2 : Int64)]), (.inr .int, [.int (0 : Int32), .int (0 : Int32), .int (0 : Int32), .int (0 : Int32), .int (0 : Int32), .int (0 : Int32)]), (.inl 0, [.null, .null, .null, .null, .null, .null, .null, .null, .null, .null, .null, .null, .null, .null, .null, .null, .null, .null, .null, .null, .null, .null, .null, .null, .null, .null, .null, .null, .null, .null, .null, .null, .null, .null, .null, .null, .null, .null, .null, .null, .null, .null, .null, .null, .null, .null, .null, .null, .null, .null, .int (0 : Int32), .int (0 : Int32), .null, .null, .null, .null, .null, .null, .null, .int (0 : Int32), .int (0 : Int32), .int (0 : Int32), .int (0 : Int32), .int (0 : Int32), .int (0 : Int32), .int (0 : Int32), .int (0 : Int32), .long (0 : Int64), .long (0 : Int64), .int (0 : Int32), .int (0 : Int32), .int (0 : Int32)])]
def own_Hb00 : OHeap := [(.inr .int, [.int (1 : Int32), .int (1 : Int32)]), (.inr .int, [.int (0 : Int32), .int (2 : Int32), .int (4 : Int32), .int (4 : Int32)]), (.inr .int, [.int (0 : Int32), .int (1 : Int32), .int (0 : Int32), .int (1 : Int32), .int (0 : Int32), .int (1 : Int32)]), (.inr .int, [.int (0 : Int32), .int (0 : Int32), .int (0 : Int32), .int (0 : Int32), .int (0 : Int32), .int (0 : Int32)]), (.inr .int, [.int (2147483647 : Int32), .int (2147483647 : Int32), .int (2147483647 : Int32), .int (2147483647 : Int32), .int (2147483647 : Int32), .int (2147483647 : Int32)]), (.inr .long, [.long (1 : Int64), .long (1 : Int64)]), (.inr .long, [.long (0 : Int64), .long (0 : Int64), .long (2 : Int64)]), (.inr .int, [.int (0 : Int32), .int (0 : Int32), .int (0 : Int32), .int (0 : Int32), .int (0 : Int32), .int (0 : Int32)]), (.inl 0, [.ref 9, .ref 10, .ref 11, .ref 12, .ref 13, .ref 14, .ref 15, .ref 16, .ref 17, .ref 18, .ref 19, .ref 20, .ref 21, .ref 22, .ref 23, .ref 24, .ref 25, .ref 26, .ref 27, .ref 28, .ref 29, .ref 30, .ref 31, .ref 32, .ref 33, .ref 34, .ref 35, .ref 36, .ref 37, .ref 38, .ref 39, .ref 40, .ref 41, .ref 42, .ref 43, .ref 44, .ref 45, .ref 46, .ref 47, .ref 48, .ref 49, .ref 50, .ref 51, .ref 52, .ref 53, .ref 54, .ref 55, .ref 56, .ref 57, .ref 58, .int (0 : Int32), .int (0 : Int32), .null, .null, .null, .null, .null, .null, .null, .int (0 : Int32), .int (0 : Int32), .int (0 : Int32), .int (0 : Int32), .int (0 : Int32), .int (0 : Int32), .int (0 : Int32), .int (0 : Int32), .long (0 : Int64), .long (0 : Int64), .int (0 : Int32), .int (0 : Int32), .int (0 : Int32)]), (.inr .long, []), (.inr .long, []), (.inr .int, []), (.inr .int, []), (.inr .long, [.long (0 : Int64), .long (0 : Int64), .long (0 : Int64), .long (0 : Int64), .long (0 : Int64), .long (0 : Int64), .long (0 : Int64), .long (0 : Int64), .long (0 : Int64), .long (0 : Int64), .long (0 : Int64), .long (0 : Int64), .long (0 : Int64), .long (0 : Int64), .long (0 : Int64), .long (0 : Int64), .long (0 : Int64), .long (0 : Int64), .long (0 : Int64), .long (0 : Int64), .long (0 : Int64), .long (0 : Int64), .long (0 : Int64), .long (0 : Int64), .long (0 : Int64), .long (0 : Int64), .long (0 : Int64), .long (0 : Int64), .long (0 : Int64), .long (0 : Int64), .long (0 : Int64), .long (0 : Int64), .long (0 : Int64), .long (0 : Int64), .long (0 : Int64), .long (0 : Int64), .long (0 : Int64), .long (0 : Int64), .long (0 : Int64), .long (0 : Int64), .long (0 : Int64), .long (0 : Int64), .long (0 : Int64), .long (0 : Int64), .long (0 : Int64), .long (0 : Int64), .long (0 : Int64), .long (0 : Int64), .long (0 : Int64), .long (0 : Int64), .long (0 : Int64), .long (0 : Int64), .long (0 : Int64), .long (0 : Int64), .long (0 : Int64), .long (0 : Int64), .long (0 : Int64), .long (0 : Int64), .long (0 : Int64), .long (0 : Int64), .long (0 : Int64), .long (0 : Int64), .long (0 : Int64), .long (0 : Int64)]), (.inr .int, [.int (0 : Int32), .int (0 : Int32), .int (0 : Int32), .int (0 : Int32), .int (0 : Int32), .int (0 : Int32), .int (0 : Int32), .int (0 : Int32), .int (0 : Int32), .int (0 : Int32), .int (0 : Int32), .int (0 : Int32), .int (0 : Int32), .int (0 : Int32), .int (0 : Int32), .int (0 : Int32), .int (0 : Int32), .int (0 : Int32), .int (0 : Int32), .int (0 : Int32), .int (0 : Int32), .int (0 : Int32), .int (0 : Int32), .int (0 : Int32), .int (0 : Int32), .int (0 : Int32), .int (0 : Int32), .int (0 : Int32), .int (0 : Int32), .int (0 : Int32), .int (0 : Int32), .int (0 : Int32), .int (0 : Int32), .int (0 : Int32), .int (0 : Int32), .int (0 : Int32), .int (0 : Int32), .int (0 : Int32), .int (0 : Int32), .int (0 : Int32), .int (0 : Int32), .int (0 : Int32), .int (0 : Int32), .int (0 : Int32), .int (0 : Int32), .int (0 : Int32), .int (0 : Int32), .int (0 : Int32), .int (0 : Int32), .int (0 : Int32), .int (0 : Int32), .int (0 : Int32), .int (0 : Int32), .int (0 : Int32), .int (0 : Int32), .int (0 : Int32), .int (0 : Int32), .int (0 : Int32), .int (0 : Int32), .int (0 : Int32), .int (0 : Int32), .int (0 : Int32), .int (0 : Int32), .int (0 : Int32)]), (.inr .int, []), (.inr .int, []), (.inr .int, []), (.inr .int, []), (.inr .int, []), (.inr .int, []), (.inr .int, []), (.inr .int, []), (.inr .int, []), (.inr .int, []), (.inr .long, []), (.inr .long, []), (.inr .long, []), (.inr .long, []), (.inr .long, []), (.inr .long, []), (.inr .long, []), (.inr .int, []), (.inr .int, [.int (0 : Int32), .int (0 : Int32), .int (0 : Int32), .int (0 : Int32), .int (0 : Int32), .int (0 : Int32), .int (0 : Int32), .int (0 : Int32)]), (.inr .long, [.long (0 : Int64), .long (0 : Int64), .long (0 : Int64), .long (0 : Int64), .long (0 : Int64), .long (0 : Int64), .long (0 : Int64), .long (0 : Int64)]), (.inr .int, [.int (0 : Int32), .int (0 : Int32), .int (0 : Int32), .int (0 : Int32), .int (0 : Int32), .int (0 : Int32), .int (0 : Int32), .int (0 : Int32)]), (.inr .long, [.long (0 : Int64), .long (0 : Int64), .long (0 : Int64), .long (0 : Int64), .long (0 : Int64), .long (0 : Int64), .long (0 : Int64), .long (0 : Int64)]), (.inr .int, []), (.inr .int, []), (.inr .int, []), (.inr .long, []), (.inr .long, []), (.inr .long, []), (.inr .int, []), (.inr .int, []), (.inr .int, []), (.inr .int, []), (.inr .int, []), (.inr .int, []), (.inr .int, []), (.inr .int, []), (.inr .int, []), (.inr .int, []), (.inr .int, []), (.inr .int, []), (.inr .int, []), (.inr .int, []), (.inr .int, []), (.inr .long, [])]
set_option maxRecDepth 1000000 in
set_option maxHeartbeats 40000000 in
theorem own_cl00 : own_exec own_P 207 1 11 291 0 (own_entry [.ref 8] own_m1.ml) [] own_Ha00 = some (none, own_Hb00) := by decide +kernel
def own_Ha01 : OHeap := [(.inr .int, [.int (1 : Int32), .int (1 : Int32)]), (.inr .int, [.int (0 : Int32), .int (2 : Int32), .int (4 : Int32), .int (4 : Int32)]), (.inr .int, [.int (0 : Int32), .int (1 : Int32), .int (0 : Int32), .int (1 : Int32), .int (0 : Int32), .int (1 : Int32)]), (.inr .int, [.int (0 : Int32), .int (0 : Int32), .int (0 : Int32), .int (0 : Int32), .int (0 : Int32), .int (0 : Int32)]), (.inr .int, [.int (2147483647 : Int32), .int (2147483647 : Int32), .int (2147483647 : Int32), .int (2147483647 : Int32), .int (2147483647 : Int32), .int (2147483647 : Int32)]), (.inr .long, [.long (1 : Int64), .long (1 : Int64)]), (.inr .long, [.long (0 : Int64), .long (0 : Int64), .long (2 : Int64)]), (.inr .int, [.int (0 : Int32), .int (0 : Int32), .int (0 : Int32), .int (0 : Int32), .int (0 : Int32), .int (0 : Int32)]), (.inl 0, [.ref 9, .ref 10, .ref 11, .ref 12, .ref 13, .ref 14, .ref 15, .ref 16, .ref 17, .ref 18, .ref 19, .ref 20, .ref 21, .ref 22, .ref 23, .ref 24, .ref 25, .ref 26, .ref 27, .ref 28, .ref 29, .ref 30, .ref 31, .ref 32, .ref 33, .ref 34, .ref 35, .ref 36, .ref 37, .ref 38, .ref 39, .ref 40, .ref 41, .ref 42, .ref 43, .ref 44, .ref 45, .ref 46, .ref 47, .ref 48, .ref 49, .ref 50, .ref 51, .ref 52, .ref 53, .ref 54, .ref 55, .ref 56, .ref 57, .ref 58, .int (0 : Int32), .int (0 : Int32), .null, .null, .null, .null, .null, .null, .null, .int (0 : Int32), .int (0 : Int32), .int (0 : Int32), .int (0 : Int32), .int (0 : Int32), .int (0 : Int32), .int (0 : Int32), .int (0 : Int32), .long (0 : Int64), .long (0 : Int64), .int (0 : Int32), .int (0 : Int32), .int (0 : Int32)]), (.inr .long, []), (.inr .long, []), (.inr .int, []), (.inr .int, []), (.inr .long, [.long (0 : Int64), .long (0 : Int64), .long (0 : Int64), .long (0 : Int64), .long (0 : Int64), .long (0 : Int64), .long (0 : Int64), .long (0 : Int64), .long (0 : Int64), .long (0 : Int64), .long (0 : Int64), .long (0 : Int64), .long (0 : Int64), .long (0 : Int64), .long (0 : Int64), .long (0 : Int64), .long (0 : Int64), .long (0 : Int64), .long (0 : Int64), .long (0 : Int64), .long (0 : Int64), .long (0 : Int64), .long (0 : Int64), .long (0 : Int64), .long (0 : Int64), .long (0 : Int64), .long (0 : Int64), .long (0 : Int64), .long (0 : Int64), .long (0 : Int64), .long (0 : Int64), .long (0 : Int64), .long (0 : Int64), .long (0 : Int64), .long (0 : Int64), .long (0 : Int64), .long (0 : Int64), .long (0 : Int64), .long (0 : Int64), .long (0 : Int64), .long (0 : Int64), .long (0 : Int64), .long (0 : Int64), .long (0 : Int64), .long (0 : Int64), .long (0 : Int64), .long (0 : Int64), .long (0 : Int64), .long (0 : Int64), .long (0 : Int64), .long (0 : Int64), .long (0 : Int64), .long (0 : Int64), .long (0 : Int64), .long (0 : Int64), .long (0 : Int64), .long (0 : Int64), .long (0 : Int64), .long (0 : Int64), .long (0 : Int64), .long (0 : Int64), .long (0 : Int64), .long (0 : Int64), .long (0 : Int64)]), (.inr .int, [.int (0 : Int32), .int (0 : Int32), .int (0 : Int32), .int (0 : Int32), .int (0 : Int32), .int (0 : Int32), .int (0 : Int32), .int (0 : Int32), .int (0 : Int32), .int (0 : Int32), .int (0 : Int32), .int (0 : Int32), .int (0 : Int32), .int (0 : Int32), .int (0 : Int32), .int (0 : Int32), .int (0 : Int32), .int (0 : Int32), .int (0 : Int32), .int (0 : Int32), .int (0 : Int32), .int (0 : Int32), .int (0 : Int32), .int (0 : Int32), .int (0 : Int32), .int (0 : Int32), .int (0 : Int32), .int (0 : Int32), .int (0 : Int32), .int (0 : Int32), .int (0 : Int32), .int (0 : Int32), .int (0 : Int32), .int (0 : Int32), .int (0 : Int32), .int (0 : Int32), .int (0 : Int32), .int (0 : Int32), .int (0 : Int32), .int (0 : Int32), .int (0 : Int32), .int (0 : Int32), .int (0 : Int32), .int (0 : Int32), .int (0 : Int32), .int (0 : Int32), .int (0 : Int32), .int (0 : Int32), .int (0 : Int32), .int (0 : Int32), .int (0 : Int32), .int (0 : Int32), .int (0 : Int32), .int (0 : Int32), .int (0 : Int32), .int (0 : Int32), .int (0 : Int32), .int (0 : Int32), .int (0 : Int32), .int (0 : Int32), .int (0 : Int32), .int (0 : Int32), .int (0 : Int32), .int (0 : Int32)]), (.inr .int, []), (.inr .int, []), (.inr .int, []), (.inr .int, []), (.inr .int, []), (.inr .int, []), (.inr .int, []), (.inr .int, []), (.inr .int, []), (.inr .int, []), (.inr .long, []), (.inr .long, []), (.inr .long, []), (.inr .long, []), (.inr .long, []), (.inr .long, []), (.inr .long, []), (.inr .int, []), (.inr .int, [.int (0 : Int32), .int (0 : Int32), .int (0 : Int32), .int (0 : Int32), .int (0 : Int32), .int (0 : Int32), .int (0 : Int32), .int (0 : Int32)]), (.inr .long, [.long (0 : Int64), .long (0 : Int64), .long (0 : Int64), .long (0 : Int64), .long (0 : Int64), .long (0 : Int64), .long (0 : Int64), .long (0 : Int64)]), (.inr .int, [.int (0 : Int32), .int (0 : Int32), .int (0 : Int32), .int (0 : Int32), .int (0 : Int32), .int (0 : Int32), .int (0 : Int32), .int (0 : Int32)]), (.inr .long, [.long (0 : Int64), .long (0 : Int64), .long (0 : Int64), .long (0 : Int64), .long (0 : Int64), .long (0 : Int64), .long (0 : Int64), .long (0 : Int64)]), (.inr .int, []), (.inr .int, []), (.inr .int, []), (.inr .long, []), (.inr .long, []), (.inr .long, []), (.inr .int, []), (.inr .int, []), (.inr .int, []), (.inr .int, []), (.inr .int, []), (.inr .int, []), (.inr .int, []), (.inr .int, []), (.inr .int, []), (.inr .int, []), (.inr .int, []), (.inr .int, []), (.inr .int, []), (.inr .int, []), (.inr .int, []), (.inr .long, [])]
def own_Hb01 : OHeap := [(.inr .int, [.int (1 : Int32), .int (1 : Int32)]), (.inr .int, [.int (0 : Int32), .int (2 : Int32), .int (4 : Int32), .int (4 : Int32)]), (.inr .int, [.int (0 : Int32), .int (1 : Int32), .int (0 : Int32), .int (1 : Int32), .int (0 : Int32), .int (1 : Int32)]), (.inr .int, [.int (0 : Int32), .int (0 : Int32), .int (0 : Int32), .int (0 : Int32), .int (0 : Int32), .int (0 : Int32)]), (.inr .int, [.int (2147483647 : Int32), .int (2147483647 : Int32), .int (2147483647 : Int32), .int (2147483647 : Int32), .int (2147483647 : Int32), .int (2147483647 : Int32)]), (.inr .long, [.long (1 : Int64), .long (1 : Int64)]), (.inr .long, [.long (0 : Int64), .long (0 : Int64), .long (2 : Int64)]), (.inr .int, [.int (1 : Int32), .int (1 : Int32), .int (0 : Int32), .int (0 : Int32), .int (0 : Int32), .int (0 : Int32)]), (.inl 0, [.ref 59, .ref 10, .ref 11, .ref 12, .ref 13, .ref 14, .ref 90, .ref 91, .ref 92, .ref 93, .ref 19, .ref 20, .ref 94, .ref 81, .ref 83, .ref 84, .ref 60, .ref 67, .ref 68, .ref 69, .ref 70, .ref 71, .ref 72, .ref 73, .ref 33, .ref 34, .ref 35, .ref 36, .ref 80, .ref 38, .ref 74, .ref 75, .ref 76, .ref 77, .ref 78, .ref 79, .ref 61, .ref 85, .ref 86, .ref 87, .ref 88, .ref 62, .ref 82, .ref 89, .ref 65, .ref 66, .ref 63, .ref 64, .ref 57, .ref 58, .int (2 : Int32), .int (3 : Int32), .ref 0, .ref 1, .ref 2, .ref 3, .ref 4, .ref 7, .null, .int (4 : Int32), .int (0 : Int32), .int (5 : Int32), .int (6 : Int32), .int (1 : Int32), .int (0 : Int32), .int (0 : Int32), .int (0 : Int32), .long (2 : Int64), .long (2 : Int64), .int (4 : Int32), .int (1 : Int32), .int (0 : Int32)]), (.inr .long, []), (.inr .long, []), (.inr .int, []), (.inr .int, []), (.inr .long, [.long (0 : Int64), .long (0 : Int64), .long (0 : Int64), .long (0 : Int64), .long (0 : Int64), .long (0 : Int64), .long (0 : Int64), .long (0 : Int64), .long (0 : Int64), .long (0 : Int64), .long (0 : Int64), .long (0 : Int64), .long (0 : Int64), .long (0 : Int64), .long (0 : Int64), .long (0 : Int64), .long (0 : Int64), .long (0 : Int64), .long (0 : Int64), .long (0 : Int64), .long (0 : Int64), .long (0 : Int64), .long (0 : Int64), .long (0 : Int64), .long (0 : Int64), .long (0 : Int64), .long (0 : Int64), .long (0 : Int64), .long (0 : Int64), .long (0 : Int64), .long (0 : Int64), .long (0 : Int64), .long (0 : Int64), .long (0 : Int64), .long (0 : Int64), .long (0 : Int64), .long (0 : Int64), .long (0 : Int64), .long (0 : Int64), .long (0 : Int64), .long (0 : Int64), .long (0 : Int64), .long (0 : Int64), .long (0 : Int64), .long (0 : Int64), .long (0 : Int64), .long (0 : Int64), .long (0 : Int64), .long (0 : Int64), .long (0 : Int64), .long (0 : Int64), .long (0 : Int64), .long (0 : Int64), .long (0 : Int64), .long (0 : Int64), .long (0 : Int64), .long (0 : Int64), .long (0 : Int64), .long (0 : Int64), .long (0 : Int64), .long (0 : Int64), .long (0 : Int64), .long (0 : Int64), .long (0 : Int64)]), (.inr .int, [.int (0 : Int32), .int (0 : Int32), .int (0 : Int32), .int (0 : Int32), .int (0 : Int32), .int (0 : Int32), .int (0 : Int32), .int (0 : Int32), .int (0 : Int32), .int (0 : Int32), .int (0 : Int32), .int (0 : Int32), .int (0 : Int32), .int (0 : Int32), .int (0 : Int32), .int (0 : Int32), .int (0 : Int32), .int (0 : Int32), .int (0 : Int32), .int (0 : Int32), .int (0 : Int32), .int (0 : Int32), .int (0 : Int32), .int (0 : Int32), .int (0 : Int32), .int (0 : Int32), .int (0 : Int32), .int (0 : Int32), .int (0 : Int32), .int (0 : Int32), .int (0 : Int32), .int (0 : Int32), .int (0 : Int32), .int (0 : Int32), .int (0 : Int32), .int (0 : Int32), .int (0 : Int32), .int (0 : Int32), .int (0 : Int32), .int (0 : Int32), .int (0 : Int32), .int (0 : Int32), .int (0 : Int32), .int (0 : Int32), .int (0 : Int32), .int (0 : Int32), .int (0 : Int32), .int (0 : Int32), .int (0 : Int32), .int (0 : Int32), .int (0 : Int32), .int (0 : Int32), .int (0 : Int32), .int (0 : Int32), .int (0 : Int32), .int (0 : Int32), .int (0 : Int32), .int (0 : Int32), .int (0 : Int32), .int (0 : Int32), .int (0 : Int32), .int (0 : Int32), .int (0 : Int32), .int (0 : Int32)]), (.inr .int, []), (.inr .int, []), (.inr .int, []), (.inr .int, []), (.inr .int, []), (.inr .int, []), (.inr .int, []), (.inr .int, []), (.inr .int, []), (.inr .int, []), (.inr .long, []), (.inr .long, []), (.inr .long, []), (.inr .long, []), (.inr .long, []), (.inr .long, []), (.inr .long, []), (.inr .int, []), (.inr .int, [.int (0 : Int32), .int (0 : Int32), .int (0 : Int32), .int (0 : Int32), .int (0 : Int32), .int (0 : Int32), .int (0 : Int32), .int (0 : Int32)]), (.inr .long, [.long (0 : Int64), .long (0 : Int64), .long (0 : Int64), .long (0 : Int64), .long (0 : Int64), .long (0 : Int64), .long (0 : Int64), .long (0 : Int64)]), (.inr .int, [.int (0 : Int32), .int (0 : Int32), .int (0 : Int32), .int (0 : Int32), .int (0 : Int32), .int (0 : Int32), .int (0 : Int32), .int (0 : Int32)]), (.inr .long, [.long (0 : Int64), .long (0 : Int64), .long (0 : Int64), .long (0 : Int64), .long (0 : Int64), .long (0 : Int64), .long (0 : Int64), .long (0 : Int64)]), (.inr .int, []), (.inr .int, []), (.inr .int, []), (.inr .long, []), (.inr .long, []), (.inr .long, []), (.inr .int, []), (.inr .int, []), (.inr .int, []), (.inr .int, []), (.inr .int, []), (.inr .int, []), (.inr .int, []), (.inr .int, []), (.inr .int, []), (.inr .int, []), (.inr .int, []), (.inr .int, []), (.inr .int, []), (.inr .int, []), (.inr .int, []), (.inr .long, []), (.inr .long, [.long (0 : Int64), .long (0 : Int64), .long (0 : Int64), .long (1 : Int64), .long (1 : Int64), .long (0 : Int64), .long (0 : Int64)]), (.inr .long, [.long (-2 : Int64), .long (0 : Int64), .long (2 : Int64)]), (.inr .int, [.int (0 : Int32), .int (2 : Int32), .int (4 : Int32), .int (4 : Int32)]), (.inr .int, [.int (0 : Int32), .int (2 : Int32), .int (4 : Int32), .int (4 : Int32)]), (.inr .int, [.int (0 : Int32), .int (0 : Int32), .int (0 : Int32)]), (.inr .int, [.int (0 : Int32), .int (0 : Int32), .int (0 : Int32)]), (.inr .int, [.int (0 : Int32), .int (0 : Int32)]), (.inr .int, [.int (0 : Int32), .int (0 : Int32)]), (.inr .long, [.long (0 : Int64), .long (0 : Int64)]), (.inr .long, [.long (0 : Int64), .long (0 : Int64)]), (.inr .long, [.long (0 : Int64), .long (0 : Int64)]), (.inr .long, [.long (0 : Int64), .long (0 : Int64)]), (.inr .long, [.long (9223372036854775807 : Int64), .long (9223372036854775807 : Int64)]), (.inr .long, [.long (-9223372036854775808 : Int64), .long (-9223372036854775808 : Int64)]), (.inr .int, [.int (2 : Int32), .int (2 : Int32)]), (.inr .int, [.int (0 : Int32), .int (1 : Int32)]), (.inr .long, [.long (0 : Int64), .long (0 : Int64)]), (.inr .long, [.long (0 : Int64), .long (0 : Int64)]), (.inr .long, [.long (0 : Int64), .long (0 : Int64)]), (.inr .int, [.int (2 : Int32), .int (4 : Int32)]), (.inr .int, [.int (0 : Int32), .int (0 : Int32)]), (.inr .int, [.int (0 : Int32), .int (0 : Int32)]), (.inr .int, [.int (0 : Int32), .int (2 : Int32), .int (4 : Int32)]), (.inr .int, [.int (0 : Int32), .int (2 : Int32), .int (4 : Int32)]), (.inr .int, [.int (0 : Int32), .int (2 : Int32), .int (1 : Int32), .int (3 : Int32)]), (.inr .int, [.int (0 : Int32), .int (0 : Int32), .int (1 : Int32), .int (1 : Int32)]), (.inr .int, [.int (0 : Int32), .int (1 : Int32), .int (2 : Int32), .int (3 : Int32)]), (.inr .int, [.int (0 : Int32), .int (1 : Int32), .int (2 : Int32), .int (3 : Int32)]), (.inr .int, [.int (0 : Int32), .int (0 : Int32), .int (0 : Int32), .int (0 : Int32)]), (.inr .int, [.int (1 : Int32), .int (1 : Int32), .int (1 : Int32), .int (1 : Int32)]), (.inr .int, [.int (0 : Int32), .int (2 : Int32), .int (1 : Int32), .int (3 : Int32)]), (.inr .int, [.int (-1 : Int32), .int (-1 : Int32), .int (1 : Int32), .int (-1 : Int32), .int (-1 : Int32), .int (0 : Int32), .int (-1 : Int32)]), (.inr .int, [.int (0 : Int32), .int (0 : Int32), .int (0 : Int32), .int (0 : Int32), .int (0 : Int32), .int (0 : Int32), .int (0 : Int32)]), (.inr .int, [.int (5 : Int32), .int (2 : Int32), .int (0 : Int32), .int (0 : Int32), .int (0 : Int32), .int (0 : Int32), .int (0 : Int32)]), (.inr .int, [.int (0 : Int32), .int (0 : Int32), .int (0 : Int32), .int (0 : Int32), .int (0 : Int32), .int (0 : Int32), .int (0 : Int32)]), (.inr .int, [.int (0 : Int32), .int (0 : Int32), .int (0 : Int32), .int (0 : Int32), .int (0 : Int32), .int (0 : Int32), .int (0 : Int32)])]
set_option maxRecDepth 1000000 in
set_option maxHeartbeats 40000000 in
theorem own_cl01 : own_exec own_P 5954 3 11 282 0 (own_entry [.ref 8, .int (2 : Int32), .int (3 : Int32), .ref 0, .ref 1, .ref 2, .ref 3, .ref 4, .ref 5, .ref 6, .ref 7] own_m3.ml) [] own_Ha01 = some (some (.int (1 : Int32)), own_Hb01) := by decide +kernel
def own_HD0 (x0 x1 x2 x3 x4 x5 : Int32) (o0 o1 o2 : Int64) (y0 y1 y2 y3 y4 y5 : Int32) (v0 v1 v2 : Int64) : OHeap := [(.inr .int, [.int (1 : Int32), .int (1 : Int32)]), (.inr .int, [.int (0 : Int32), .int (2 : Int32), .int (4 : Int32), .int (4 : Int32)]), (.inr .int, [.int (0 : Int32), .int (1 : Int32), .int (0 : Int32), .int (1 : Int32), .int (0 : Int32), .int (1 : Int32)]), (.inr .int, [.int (0 : Int32), .int (0 : Int32), .int (0 : Int32), .int (0 : Int32), .int (0 : Int32), .int (0 : Int32)]), (.inr .int, [.int (2147483647 : Int32), .int (2147483647 : Int32), .int (2147483647 : Int32), .int (2147483647 : Int32), .int (2147483647 : Int32), .int (2147483647 : Int32)]), (.inr .long, [.long (1 : Int64), .long (1 : Int64)]), (.inr .long, [.long (0 : Int64), .long (0 : Int64), .long (2 : Int64)]), (.inr .int, [.int x0, .int x1, .int x2, .int x3, .int x4, .int x5]), (.inl 0, [.ref 59, .ref 10, .ref 11, .ref 12, .ref 13, .ref 14, .ref 90, .ref 91, .ref 92, .ref 93, .ref 19, .ref 20, .ref 94, .ref 81, .ref 83, .ref 84, .ref 60, .ref 67, .ref 68, .ref 69, .ref 70, .ref 71, .ref 72, .ref 73, .ref 33, .ref 34, .ref 35, .ref 36, .ref 80, .ref 38, .ref 74, .ref 75, .ref 76, .ref 77, .ref 78, .ref 79, .ref 61, .ref 85, .ref 86, .ref 87, .ref 88, .ref 62, .ref 82, .ref 89, .ref 65, .ref 66, .ref 63, .ref 64, .ref 57, .ref 58, .int (2 : Int32), .int (3 : Int32), .ref 0, .ref 1, .ref 2, .ref 3, .ref 4, .ref 7, .null, .int (4 : Int32), .int (0 : Int32), .int (5 : Int32), .int (6 : Int32), .int (1 : Int32), .int (0 : Int32), .int (0 : Int32), .int (0 : Int32), .long (2 : Int64), .long (2 : Int64), .int (4 : Int32), .int (1 : Int32), .int (0 : Int32)]), (.inr .long, []), (.inr .long, []), (.inr .int, []), (.inr .int, []), (.inr .long, [.long (0 : Int64), .long (0 : Int64), .long (0 : Int64), .long (0 : Int64), .long (0 : Int64), .long (0 : Int64), .long (0 : Int64), .long (0 : Int64), .long (0 : Int64), .long (0 : Int64), .long (0 : Int64), .long (0 : Int64), .long (0 : Int64), .long (0 : Int64), .long (0 : Int64), .long (0 : Int64), .long (0 : Int64), .long (0 : Int64), .long (0 : Int64), .long (0 : Int64), .long (0 : Int64), .long (0 : Int64), .long (0 : Int64), .long (0 : Int64), .long (0 : Int64), .long (0 : Int64), .long (0 : Int64), .long (0 : Int64), .long (0 : Int64), .long (0 : Int64), .long (0 : Int64), .long (0 : Int64), .long (0 : Int64), .long (0 : Int64), .long (0 : Int64), .long (0 : Int64), .long (0 : Int64), .long (0 : Int64), .long (0 : Int64), .long (0 : Int64), .long (0 : Int64), .long (0 : Int64), .long (0 : Int64), .long (0 : Int64), .long (0 : Int64), .long (0 : Int64), .long (0 : Int64), .long (0 : Int64), .long (0 : Int64), .long (0 : Int64), .long (0 : Int64), .long (0 : Int64), .long (0 : Int64), .long (0 : Int64), .long (0 : Int64), .long (0 : Int64), .long (0 : Int64), .long (0 : Int64), .long (0 : Int64), .long (0 : Int64), .long (0 : Int64), .long (0 : Int64), .long (0 : Int64), .long (0 : Int64)]), (.inr .int, [.int (0 : Int32), .int (0 : Int32), .int (0 : Int32), .int (0 : Int32), .int (0 : Int32), .int (0 : Int32), .int (0 : Int32), .int (0 : Int32), .int (0 : Int32), .int (0 : Int32), .int (0 : Int32), .int (0 : Int32), .int (0 : Int32), .int (0 : Int32), .int (0 : Int32), .int (0 : Int32), .int (0 : Int32), .int (0 : Int32), .int (0 : Int32), .int (0 : Int32), .int (0 : Int32), .int (0 : Int32), .int (0 : Int32), .int (0 : Int32), .int (0 : Int32), .int (0 : Int32), .int (0 : Int32), .int (0 : Int32), .int (0 : Int32), .int (0 : Int32), .int (0 : Int32), .int (0 : Int32), .int (0 : Int32), .int (0 : Int32), .int (0 : Int32), .int (0 : Int32), .int (0 : Int32), .int (0 : Int32), .int (0 : Int32), .int (0 : Int32), .int (0 : Int32), .int (0 : Int32), .int (0 : Int32), .int (0 : Int32), .int (0 : Int32), .int (0 : Int32), .int (0 : Int32), .int (0 : Int32), .int (0 : Int32), .int (0 : Int32), .int (0 : Int32), .int (0 : Int32), .int (0 : Int32), .int (0 : Int32), .int (0 : Int32), .int (0 : Int32), .int (0 : Int32), .int (0 : Int32), .int (0 : Int32), .int (0 : Int32), .int (0 : Int32), .int (0 : Int32), .int (0 : Int32), .int (0 : Int32)]), (.inr .int, []), (.inr .int, []), (.inr .int, []), (.inr .int, []), (.inr .int, []), (.inr .int, []), (.inr .int, []), (.inr .int, []), (.inr .int, []), (.inr .int, []), (.inr .long, []), (.inr .long, []), (.inr .long, []), (.inr .long, []), (.inr .long, []), (.inr .long, []), (.inr .long, []), (.inr .int, []), (.inr .int, [.int (0 : Int32), .int (0 : Int32), .int (0 : Int32), .int (0 : Int32), .int (0 : Int32), .int (0 : Int32), .int (0 : Int32), .int (0 : Int32)]), (.inr .long, [.long (0 : Int64), .long (0 : Int64), .long (0 : Int64), .long (0 : Int64), .long (0 : Int64), .long (0 : Int64), .long (0 : Int64), .long (0 : Int64)]), (.inr .int, [.int (0 : Int32), .int (0 : Int32), .int (0 : Int32), .int (0 : Int32), .int (0 : Int32), .int (0 : Int32), .int (0 : Int32), .int (0 : Int32)]), (.inr .long, [.long (0 : Int64), .long (0 : Int64), .long (0 : Int64), .long (0 : Int64), .long (0 : Int64), .long (0 : Int64), .long (0 : Int64), .long (0 : Int64)]), (.inr .int, []), (.inr .int, []), (.inr .int, []), (.inr .long, []), (.inr .long, []), (.inr .long, []), (.inr .int, []), (.inr .int, []), (.inr .int, []), (.inr .int, []), (.inr .int, []), (.inr .int, []), (.inr .int, []), (.inr .int, []), (.inr .int, []), (.inr .int, []), (.inr .int, []), (.inr .int, []), (.inr .int, []), (.inr .int, []), (.inr .int, []), (.inr .long, []), (.inr .long, [.long (0 : Int64), .long (0 : Int64), .long (0 : Int64), .long (1 : Int64), .long (1 : Int64), .long (0 : Int64), .long (0 : Int64)]), (.inr .long, [.long o0, .long o1, .long o2]), (.inr .int, [.int (0 : Int32), .int (2 : Int32), .int (4 : Int32), .int (4 : Int32)]), (.inr .int, [.int (0 : Int32), .int (2 : Int32), .int (4 : Int32), .int (4 : Int32)]), (.inr .int, [.int (0 : Int32), .int (0 : Int32), .int (0 : Int32)]), (.inr .int, [.int (0 : Int32), .int (0 : Int32), .int (0 : Int32)]), (.inr .int, [.int (0 : Int32), .int (0 : Int32)]), (.inr .int, [.int (0 : Int32), .int (0 : Int32)]), (.inr .long, [.long (0 : Int64), .long (0 : Int64)]), (.inr .long, [.long (0 : Int64), .long (0 : Int64)]), (.inr .long, [.long (0 : Int64), .long (0 : Int64)]), (.inr .long, [.long (0 : Int64), .long (0 : Int64)]), (.inr .long, [.long (9223372036854775807 : Int64), .long (9223372036854775807 : Int64)]), (.inr .long, [.long (-9223372036854775808 : Int64), .long (-9223372036854775808 : Int64)]), (.inr .int, [.int (2 : Int32), .int (2 : Int32)]), (.inr .int, [.int (0 : Int32), .int (1 : Int32)]), (.inr .long, [.long (0 : Int64), .long (0 : Int64)]), (.inr .long, [.long (0 : Int64), .long (0 : Int64)]), (.inr .long, [.long (0 : Int64), .long (0 : Int64)]), (.inr .int, [.int (2 : Int32), .int (4 : Int32)]), (.inr .int, [.int (0 : Int32), .int (0 : Int32)]), (.inr .int, [.int (0 : Int32), .int (0 : Int32)]), (.inr .int, [.int (0 : Int32), .int (2 : Int32), .int (4 : Int32)]), (.inr .int, [.int (0 : Int32), .int (2 : Int32), .int (4 : Int32)]), (.inr .int, [.int (0 : Int32), .int (2 : Int32), .int (1 : Int32), .int (3 : Int32)]), (.inr .int, [.int (0 : Int32), .int (0 : Int32), .int (1 : Int32), .int (1 : Int32)]), (.inr .int, [.int (0 : Int32), .int (1 : Int32), .int (2 : Int32), .int (3 : Int32)]), (.inr .int, [.int (0 : Int32), .int (1 : Int32), .int (2 : Int32), .int (3 : Int32)]), (.inr .int, [.int (0 : Int32), .int (0 : Int32), .int (0 : Int32), .int (0 : Int32)]), (.inr .int, [.int (1 : Int32), .int (1 : Int32), .int (1 : Int32), .int (1 : Int32)]), (.inr .int, [.int (0 : Int32), .int (2 : Int32), .int (1 : Int32), .int (3 : Int32)]), (.inr .int, [.int (-1 : Int32), .int (-1 : Int32), .int (1 : Int32), .int (-1 : Int32), .int (-1 : Int32), .int (0 : Int32), .int (-1 : Int32)]), (.inr .int, [.int (0 : Int32), .int (0 : Int32), .int (0 : Int32), .int (0 : Int32), .int (0 : Int32), .int (0 : Int32), .int (0 : Int32)]), (.inr .int, [.int (5 : Int32), .int (2 : Int32), .int (0 : Int32), .int (0 : Int32), .int (0 : Int32), .int (0 : Int32), .int (0 : Int32)]), (.inr .int, [.int (0 : Int32), .int (0 : Int32), .int (0 : Int32), .int (0 : Int32), .int (0 : Int32), .int (0 : Int32), .int (0 : Int32)]), (.inr .int, [.int (0 : Int32), .int (0 : Int32), .int (0 : Int32), .int (0 : Int32), .int (0 : Int32), .int (0 : Int32), .int (0 : Int32)]), (.inr .int, [.int y0, .int y1, .int y2, .int y3, .int y4, .int y5]), (.inr .long, [.long v0, .long v1, .long v2])]
set_option maxRecDepth 1000000 in
set_option maxHeartbeats 40000000 in
theorem own_mv_0_0_0_0 (t : Int32) (x0 x1 x2 x3 x4 x5 : Int32) (o0 o1 o2 : Int64) (y0 y1 y2 y3 y4 y5 : Int32) (v0 v1 v2 : Int64) : own_run own_P 56 11 288 0 (own_entry [.ref 8, .int (5), .int (0), .int t] own_m56.ml) [] (own_HD0 x0 x1 x2 x3 x4 x5 o0 o1 o2 y0 y1 y2 y3 y4 y5 v0 v1 v2) (none, (own_HD0 x0 x1 x2 x3 x4 x5 (o0 - t.toInt64) o1 o2 y0 y1 y2 y3 y4 y5 v0 v1 v2)) := own_run.fuel 80 rfl
set_option maxRecDepth 1000000 in
set_option maxHeartbeats 40000000 in
theorem own_ap_0_0_0_0 (t : Int32) (x0 x1 x2 x3 x4 x5 : Int32) (o0 o1 o2 : Int64) (y0 y1 y2 y3 y4 y5 : Int32) (v0 v1 v2 : Int64) : own_run own_P 57 11 287 0 (own_entry [.ref 96, .ref 95, .int (0), .int (0), .int (0), .int t] own_m57.ml) [] (own_HD0 x0 x1 x2 x3 x4 x5 o0 o1 o2 y0 y1 y2 y3 y4 y5 v0 v1 v2) (none, (own_HD0 x0 x1 x2 x3 x4 x5 o0 o1 o2 y0 y1 y2 y3 y4 y5 (v0 - t.toInt64) v1 v2)) := own_run.fuel 60 rfl
set_option maxRecDepth 1000000 in
set_option maxHeartbeats 40000000 in
theorem own_mv_0_0_0_1 (t : Int32) (x0 x1 x2 x3 x4 x5 : Int32) (o0 o1 o2 : Int64) (y0 y1 y2 y3 y4 y5 : Int32) (v0 v1 v2 : Int64) : own_run own_P 56 11 288 0 (own_entry [.ref 8, .int (5), .int (0), .int t] own_m56.ml) [] (own_HD0 x0 x1 x2 x3 x4 x5 o0 o1 o2 y0 y1 y2 y3 y4 y5 v0 v1 v2) (none, (own_HD0 x0 x1 x2 x3 x4 x5 (o0 - t.toInt64) o1 o2 y0 y1 y2 y3 y4 y5 v0 v1 v2)) := own_run.fuel 80 rfl
set_option maxRecDepth 1000000 in
set_option maxHeartbeats 40000000 in
theorem own_ap_0_0_0_1 (t : Int32) (x0 x1 x2 x3 x4 x5 : Int32) (o0 o1 o2 : Int64) (y0 y1 y2 y3 y4 y5 : Int32) (v0 v1 v2 : Int64) : own_run own_P 57 11 287 0 (own_entry [.ref 96, .ref 95, .int (0), .int (0), .int (1), .int t] own_m57.ml) [] (own_HD0 x0 x1 x2 x3 x4 x5 o0 o1 o2 y0 y1 y2 y3 y4 y5 v0 v1 v2) (none, (own_HD0 x0 x1 x2 x3 x4 x5 o0 o1 o2 y0 y1 y2 y3 y4 y5 (v0 - t.toInt64) v1 v2)) := own_run.fuel 60 rfl
set_option maxRecDepth 1000000 in
set_option maxHeartbeats 40000000 in
theorem own_mv_0_0_1_0 (t : Int32) (x0 x1 x2 x3 x4 x5 : Int32) (o0 o1 o2 : Int64) (y0 y1 y2 y3 y4 y5 : Int32) (v0 v1 v2 : Int64) : own_run own_P 56 11 288 0 (own_entry [.ref 8, .int (5), .int (1), .int t] own_m56.ml) [] (own_HD0 x0 x1 x2 x3 x4 x5 o0 o1 o2 y0 y1 y2 y3 y4 y5 v0 v1 v2) (none, (own_HD0 x0 x1 x2 x3 x4 x5 o0 (o1 - t.toInt64) o2 y0 y1 y2 y3 y4 y5 v0 v1 v2)) := own_run.fuel 80 rfl
set_option maxRecDepth 1000000 in
set_option maxHeartbeats 40000000 in
theorem own_ap_0_0_1_0 (t : Int32) (x0 x1 x2 x3 x4 x5 : Int32) (o0 o1 o2 : Int64) (y0 y1 y2 y3 y4 y5 : Int32) (v0 v1 v2 : Int64) : own_run own_P 57 11 287 0 (own_entry [.ref 96, .ref 95, .int (0), .int (1), .int (0), .int t] own_m57.ml) [] (own_HD0 x0 x1 x2 x3 x4 x5 o0 o1 o2 y0 y1 y2 y3 y4 y5 v0 v1 v2) (none, (own_HD0 x0 x1 x2 x3 x4 x5 o0 o1 o2 y0 y1 y2 y3 y4 y5 v0 (v1 - t.toInt64) v2)) := own_run.fuel 60 rfl
set_option maxRecDepth 1000000 in
set_option maxHeartbeats 40000000 in
theorem own_mv_0_0_1_1 (t : Int32) (x0 x1 x2 x3 x4 x5 : Int32) (o0 o1 o2 : Int64) (y0 y1 y2 y3 y4 y5 : Int32) (v0 v1 v2 : Int64) : own_run own_P 56 11 288 0 (own_entry [.ref 8, .int (5), .int (1), .int t] own_m56.ml) [] (own_HD0 x0 x1 x2 x3 x4 x5 o0 o1 o2 y0 y1 y2 y3 y4 y5 v0 v1 v2) (none, (own_HD0 x0 x1 x2 x3 x4 x5 o0 (o1 - t.toInt64) o2 y0 y1 y2 y3 y4 y5 v0 v1 v2)) := own_run.fuel 80 rfl
set_option maxRecDepth 1000000 in
set_option maxHeartbeats 40000000 in
theorem own_ap_0_0_1_1 (t : Int32) (x0 x1 x2 x3 x4 x5 : Int32) (o0 o1 o2 : Int64) (y0 y1 y2 y3 y4 y5 : Int32) (v0 v1 v2 : Int64) : own_run own_P 57 11 287 0 (own_entry [.ref 96, .ref 95, .int (0), .int (1), .int (1), .int t] own_m57.ml) [] (own_HD0 x0 x1 x2 x3 x4 x5 o0 o1 o2 y0 y1 y2 y3 y4 y5 v0 v1 v2) (none, (own_HD0 x0 x1 x2 x3 x4 x5 o0 o1 o2 y0 y1 y2 y3 y4 y5 v0 (v1 - t.toInt64) v2)) := own_run.fuel 60 rfl
set_option maxRecDepth 1000000 in
set_option maxHeartbeats 40000000 in
theorem own_mv_0_0_2_0 (t : Int32) (x0 x1 x2 x3 x4 x5 : Int32) (o0 o1 o2 : Int64) (y0 y1 y2 y3 y4 y5 : Int32) (v0 v1 v2 : Int64) : own_run own_P 56 11 288 0 (own_entry [.ref 8, .int (5), .int (2), .int t] own_m56.ml) [] (own_HD0 x0 x1 x2 x3 x4 x5 o0 o1 o2 y0 y1 y2 y3 y4 y5 v0 v1 v2) (none, (own_HD0 x0 x1 x2 x3 x4 x5 o0 o1 (o2 - t.toInt64) y0 y1 y2 y3 y4 y5 v0 v1 v2)) := own_run.fuel 80 rfl
set_option maxRecDepth 1000000 in
set_option maxHeartbeats 40000000 in
theorem own_ap_0_0_2_0 (t : Int32) (x0 x1 x2 x3 x4 x5 : Int32) (o0 o1 o2 : Int64) (y0 y1 y2 y3 y4 y5 : Int32) (v0 v1 v2 : Int64) : own_run own_P 57 11 287 0 (own_entry [.ref 96, .ref 95, .int (0), .int (2), .int (0), .int t] own_m57.ml) [] (own_HD0 x0 x1 x2 x3 x4 x5 o0 o1 o2 y0 y1 y2 y3 y4 y5 v0 v1 v2) (none, (own_HD0 x0 x1 x2 x3 x4 x5 o0 o1 o2 y0 y1 y2 y3 y4 y5 v0 v1 (v2 - t.toInt64))) := own_run.fuel 60 rfl
set_option maxRecDepth 1000000 in
set_option maxHeartbeats 40000000 in
theorem own_mv_0_0_2_1 (t : Int32) (x0 x1 x2 x3 x4 x5 : Int32) (o0 o1 o2 : Int64) (y0 y1 y2 y3 y4 y5 : Int32) (v0 v1 v2 : Int64) : own_run own_P 56 11 288 0 (own_entry [.ref 8, .int (5), .int (2), .int t] own_m56.ml) [] (own_HD0 x0 x1 x2 x3 x4 x5 o0 o1 o2 y0 y1 y2 y3 y4 y5 v0 v1 v2) (none, (own_HD0 x0 x1 x2 x3 x4 x5 o0 o1 (o2 - t.toInt64) y0 y1 y2 y3 y4 y5 v0 v1 v2)) := own_run.fuel 80 rfl
set_option maxRecDepth 1000000 in
set_option maxHeartbeats 40000000 in
theorem own_ap_0_0_2_1 (t : Int32) (x0 x1 x2 x3 x4 x5 : Int32) (o0 o1 o2 : Int64) (y0 y1 y2 y3 y4 y5 : Int32) (v0 v1 v2 : Int64) : own_run own_P 57 11 287 0 (own_entry [.ref 96, .ref 95, .int (0), .int (2), .int (1), .int t] own_m57.ml) [] (own_HD0 x0 x1 x2 x3 x4 x5 o0 o1 o2 y0 y1 y2 y3 y4 y5 v0 v1 v2) (none, (own_HD0 x0 x1 x2 x3 x4 x5 o0 o1 o2 y0 y1 y2 y3 y4 y5 v0 v1 (v2 - t.toInt64))) := own_run.fuel 60 rfl
set_option maxRecDepth 1000000 in
set_option maxHeartbeats 40000000 in
theorem own_mv_0_1_0_0 (t : Int32) (x0 x1 x2 x3 x4 x5 : Int32) (o0 o1 o2 : Int64) (y0 y1 y2 y3 y4 y5 : Int32) (v0 v1 v2 : Int64) : own_run own_P 56 11 288 0 (own_entry [.ref 8, .int (0), .int (0), .int t] own_m56.ml) [] (own_HD0 x0 x1 x2 x3 x4 x5 o0 o1 o2 y0 y1 y2 y3 y4 y5 v0 v1 v2) (none, (own_HD0 (x0 + t) x1 x2 x3 x4 x5 o0 o1 o2 y0 y1 y2 y3 y4 y5 v0 v1 v2)) := own_run.fuel 80 rfl
set_option maxRecDepth 1000000 in
set_option maxHeartbeats 40000000 in
theorem own_ap_0_1_0_0 (t : Int32) (x0 x1 x2 x3 x4 x5 : Int32) (o0 o1 o2 : Int64) (y0 y1 y2 y3 y4 y5 : Int32) (v0 v1 v2 : Int64) : own_run own_P 57 11 287 0 (own_entry [.ref 96, .ref 95, .int (1), .int (0), .int (0), .int t] own_m57.ml) [] (own_HD0 x0 x1 x2 x3 x4 x5 o0 o1 o2 y0 y1 y2 y3 y4 y5 v0 v1 v2) (none, (own_HD0 x0 x1 x2 x3 x4 x5 o0 o1 o2 (y0 + t) y1 y2 y3 y4 y5 v0 v1 v2)) := own_run.fuel 60 rfl
set_option maxRecDepth 1000000 in
set_option maxHeartbeats 40000000 in
theorem own_mv_0_1_0_1 (t : Int32) (x0 x1 x2 x3 x4 x5 : Int32) (o0 o1 o2 : Int64) (y0 y1 y2 y3 y4 y5 : Int32) (v0 v1 v2 : Int64) : own_run own_P 56 11 288 0 (own_entry [.ref 8, .int (0), .int (1), .int t] own_m56.ml) [] (own_HD0 x0 x1 x2 x3 x4 x5 o0 o1 o2 y0 y1 y2 y3 y4 y5 v0 v1 v2) (none, (own_HD0 x0 (x1 + t) x2 x3 x4 x5 o0 o1 o2 y0 y1 y2 y3 y4 y5 v0 v1 v2)) := own_run.fuel 80 rfl
set_option maxRecDepth 1000000 in
set_option maxHeartbeats 40000000 in
theorem own_ap_0_1_0_1 (t : Int32) (x0 x1 x2 x3 x4 x5 : Int32) (o0 o1 o2 : Int64) (y0 y1 y2 y3 y4 y5 : Int32) (v0 v1 v2 : Int64) : own_run own_P 57 11 287 0 (own_entry [.ref 96, .ref 95, .int (1), .int (0), .int (1), .int t] own_m57.ml) [] (own_HD0 x0 x1 x2 x3 x4 x5 o0 o1 o2 y0 y1 y2 y3 y4 y5 v0 v1 v2) (none, (own_HD0 x0 x1 x2 x3 x4 x5 o0 o1 o2 y0 (y1 + t) y2 y3 y4 y5 v0 v1 v2)) := own_run.fuel 60 rfl
set_option maxRecDepth 1000000 in
set_option maxHeartbeats 40000000 in
theorem own_mv_0_1_1_0 (t : Int32) (x0 x1 x2 x3 x4 x5 : Int32) (o0 o1 o2 : Int64) (y0 y1 y2 y3 y4 y5 : Int32) (v0 v1 v2 : Int64) : own_run own_P 56 11 288 0 (own_entry [.ref 8, .int (1), .int (0), .int t] own_m56.ml) [] (own_HD0 x0 x1 x2 x3 x4 x5 o0 o1 o2 y0 y1 y2 y3 y4 y5 v0 v1 v2) (none, (own_HD0 x0 x1 (x2 + t) x3 x4 x5 o0 o1 o2 y0 y1 y2 y3 y4 y5 v0 v1 v2)) := own_run.fuel 80 rfl
set_option maxRecDepth 1000000 in
set_option maxHeartbeats 40000000 in
theorem own_ap_0_1_1_0 (t : Int32) (x0 x1 x2 x3 x4 x5 : Int32) (o0 o1 o2 : Int64) (y0 y1 y2 y3 y4 y5 : Int32) (v0 v1 v2 : Int64) : own_run own_P 57 11 287 0 (own_entry [.ref 96, .ref 95, .int (1), .int (1), .int (0), .int t] own_m57.ml) [] (own_HD0 x0 x1 x2 x3 x4 x5 o0 o1 o2 y0 y1 y2 y3 y4 y5 v0 v1 v2) (none, (own_HD0 x0 x1 x2 x3 x4 x5 o0 o1 o2 y0 y1 (y2 + t) y3 y4 y5 v0 v1 v2)) := own_run.fuel 60 rfl
set_option maxRecDepth 1000000 in
set_option maxHeartbeats 40000000 in
theorem own_mv_0_1_1_1 (t : Int32) (x0 x1 x2 x3 x4 x5 : Int32) (o0 o1 o2 : Int64) (y0 y1 y2 y3 y4 y5 : Int32) (v0 v1 v2 : Int64) : own_run own_P 56 11 288 0 (own_entry [.ref 8, .int (1), .int (1), .int t] own_m56.ml) [] (own_HD0 x0 x1 x2 x3 x4 x5 o0 o1 o2 y0 y1 y2 y3 y4 y5 v0 v1 v2) (none, (own_HD0 x0 x1 x2 (x3 + t) x4 x5 o0 o1 o2 y0 y1 y2 y3 y4 y5 v0 v1 v2)) := own_run.fuel 80 rfl
set_option maxRecDepth 1000000 in
set_option maxHeartbeats 40000000 in
theorem own_ap_0_1_1_1 (t : Int32) (x0 x1 x2 x3 x4 x5 : Int32) (o0 o1 o2 : Int64) (y0 y1 y2 y3 y4 y5 : Int32) (v0 v1 v2 : Int64) : own_run own_P 57 11 287 0 (own_entry [.ref 96, .ref 95, .int (1), .int (1), .int (1), .int t] own_m57.ml) [] (own_HD0 x0 x1 x2 x3 x4 x5 o0 o1 o2 y0 y1 y2 y3 y4 y5 v0 v1 v2) (none, (own_HD0 x0 x1 x2 x3 x4 x5 o0 o1 o2 y0 y1 y2 (y3 + t) y4 y5 v0 v1 v2)) := own_run.fuel 60 rfl
set_option maxRecDepth 1000000 in
set_option maxHeartbeats 40000000 in
theorem own_mv_0_2_0_0 (t : Int32) (x0 x1 x2 x3 x4 x5 : Int32) (o0 o1 o2 : Int64) (y0 y1 y2 y3 y4 y5 : Int32) (v0 v1 v2 : Int64) : own_run own_P 56 11 288 0 (own_entry [.ref 8, .int (0), .int (2), .int t] own_m56.ml) [] (own_HD0 x0 x1 x2 x3 x4 x5 o0 o1 o2 y0 y1 y2 y3 y4 y5 v0 v1 v2) (none, (own_HD0 x0 x1 x2 x3 x4 x5 (o0 + t.toInt64) o1 o2 y0 y1 y2 y3 y4 y5 v0 v1 v2)) := own_run.fuel 80 rfl
set_option maxRecDepth 1000000 in
set_option maxHeartbeats 40000000 in
theorem own_ap_0_2_0_0 (t : Int32) (x0 x1 x2 x3 x4 x5 : Int32) (o0 o1 o2 : Int64) (y0 y1 y2 y3 y4 y5 : Int32) (v0 v1 v2 : Int64) : own_run own_P 57 11 287 0 (own_entry [.ref 96, .ref 95, .int (2), .int (0), .int (0), .int t] own_m57.ml) [] (own_HD0 x0 x1 x2 x3 x4 x5 o0 o1 o2 y0 y1 y2 y3 y4 y5 v0 v1 v2) (none, (own_HD0 x0 x1 x2 x3 x4 x5 o0 o1 o2 y0 y1 y2 y3 y4 y5 (v0 + t.toInt64) v1 v2)) := own_run.fuel 60 rfl
set_option maxRecDepth 1000000 in
set_option maxHeartbeats 40000000 in
theorem own_mv_0_2_0_1 (t : Int32) (x0 x1 x2 x3 x4 x5 : Int32) (o0 o1 o2 : Int64) (y0 y1 y2 y3 y4 y5 : Int32) (v0 v1 v2 : Int64) : own_run own_P 56 11 288 0 (own_entry [.ref 8, .int (0), .int (2), .int t] own_m56.ml) [] (own_HD0 x0 x1 x2 x3 x4 x5 o0 o1 o2 y0 y1 y2 y3 y4 y5 v0 v1 v2) (none, (own_HD0 x0 x1 x2 x3 x4 x5 (o0 + t.toInt64) o1 o2 y0 y1 y2 y3 y4 y5 v0 v1 v2)) := own_run.fuel 80 rfl
set_option maxRecDepth 1000000 in
set_option maxHeartbeats 40000000 in
theorem own_ap_0_2_0_1 (t : Int32) (x0 x1 x2 x3 x4 x5 : Int32) (o0 o1 o2 : Int64) (y0 y1 y2 y3 y4 y5 : Int32) (v0 v1 v2 : Int64) : own_run own_P 57 11 287 0 (own_entry [.ref 96, .ref 95, .int (2), .int (0), .int (1), .int t] own_m57.ml) [] (own_HD0 x0 x1 x2 x3 x4 x5 o0 o1 o2 y0 y1 y2 y3 y4 y5 v0 v1 v2) (none, (own_HD0 x0 x1 x2 x3 x4 x5 o0 o1 o2 y0 y1 y2 y3 y4 y5 (v0 + t.toInt64) v1 v2)) := own_run.fuel 60 rfl
set_option maxRecDepth 1000000 in
set_option maxHeartbeats 40000000 in
theorem own_mv_0_2_1_0 (t : Int32) (x0 x1 x2 x3 x4 x5 : Int32) (o0 o1 o2 : Int64) (y0 y1 y2 y3 y4 y5 : Int32) (v0 v1 v2 : Int64) : own_run own_P 56 11 288 0 (own_entry [.ref 8, .int (1), .int (2), .int t] own_m56.ml) [] (own_HD0 x0 x1 x2 x3 x4 x5 o0 o1 o2 y0 y1 y2 y3 y4 y5 v0 v1 v2) (none, (own_HD0 x0 x1 x2 x3 x4 x5 o0 (o1 + t.toInt64) o2 y0 y1 y2 y3 y4 y5 v0 v1 v2)) := own_run.fuel 80 rfl
set_option maxRecDepth 1000000 in
set_option maxHeartbeats 40000000 in
theorem own_ap_0_2_1_0 (t : Int32) (x0 x1 x2 x3 x4 x5 : Int32) (o0 o1 o2 : Int64) (y0 y1 y2 y3 y4 y5 : Int32) (v0 v1 v2 : Int64) : own_run own_P 57 11 287 0 (own_entry [.ref 96, .ref 95, .int (2), .int (1), .int (0), .int t] own_m57.ml) [] (own_HD0 x0 x1 x2 x3 x4 x5 o0 o1 o2 y0 y1 y2 y3 y4 y5 v0 v1 v2) (none, (own_HD0 x0 x1 x2 x3 x4 x5 o0 o1 o2 y0 y1 y2 y3 y4 y5 v0 (v1 + t.toInt64) v2)) := own_run.fuel 60 rfl
set_option maxRecDepth 1000000 in
set_option maxHeartbeats 40000000 in
theorem own_mv_0_2_1_1 (t : Int32) (x0 x1 x2 x3 x4 x5 : Int32) (o0 o1 o2 : Int64) (y0 y1 y2 y3 y4 y5 : Int32) (v0 v1 v2 : Int64) : own_run own_P 56 11 288 0 (own_entry [.ref 8, .int (1), .int (2), .int t] own_m56.ml) [] (own_HD0 x0 x1 x2 x3 x4 x5 o0 o1 o2 y0 y1 y2 y3 y4 y5 v0 v1 v2) (none, (own_HD0 x0 x1 x2 x3 x4 x5 o0 (o1 + t.toInt64) o2 y0 y1 y2 y3 y4 y5 v0 v1 v2)) := own_run.fuel 80 rfl
set_option maxRecDepth 1000000 in
set_option maxHeartbeats 40000000 in
theorem own_ap_0_2_1_1 (t : Int32) (x0 x1 x2 x3 x4 x5 : Int32) (o0 o1 o2 : Int64) (y0 y1 y2 y3 y4 y5 : Int32) (v0 v1 v2 : Int64) : own_run own_P 57 11 287 0 (own_entry [.ref 96, .ref 95, .int (2), .int (1), .int (1), .int t] own_m57.ml) [] (own_HD0 x0 x1 x2 x3 x4 x5 o0 o1 o2 y0 y1 y2 y3 y4 y5 v0 v1 v2) (none, (own_HD0 x0 x1 x2 x3 x4 x5 o0 o1 o2 y0 y1 y2 y3 y4 y5 v0 (v1 + t.toInt64) v2)) := own_run.fuel 60 rfl
set_option maxRecDepth 1000000 in
set_option maxHeartbeats 40000000 in
theorem own_mv_0_2_2_0 (t : Int32) (x0 x1 x2 x3 x4 x5 : Int32) (o0 o1 o2 : Int64) (y0 y1 y2 y3 y4 y5 : Int32) (v0 v1 v2 : Int64) : own_run own_P 56 11 288 0 (own_entry [.ref 8, .int (2), .int (0), .int t] own_m56.ml) [] (own_HD0 x0 x1 x2 x3 x4 x5 o0 o1 o2 y0 y1 y2 y3 y4 y5 v0 v1 v2) (none, (own_HD0 x0 x1 x2 x3 x4 x5 o0 o1 (o2 + t.toInt64) y0 y1 y2 y3 y4 y5 v0 v1 v2)) := own_run.fuel 80 rfl
set_option maxRecDepth 1000000 in
set_option maxHeartbeats 40000000 in
theorem own_ap_0_2_2_0 (t : Int32) (x0 x1 x2 x3 x4 x5 : Int32) (o0 o1 o2 : Int64) (y0 y1 y2 y3 y4 y5 : Int32) (v0 v1 v2 : Int64) : own_run own_P 57 11 287 0 (own_entry [.ref 96, .ref 95, .int (2), .int (2), .int (0), .int t] own_m57.ml) [] (own_HD0 x0 x1 x2 x3 x4 x5 o0 o1 o2 y0 y1 y2 y3 y4 y5 v0 v1 v2) (none, (own_HD0 x0 x1 x2 x3 x4 x5 o0 o1 o2 y0 y1 y2 y3 y4 y5 v0 v1 (v2 + t.toInt64))) := own_run.fuel 60 rfl
set_option maxRecDepth 1000000 in
set_option maxHeartbeats 40000000 in
theorem own_mv_0_2_2_1 (t : Int32) (x0 x1 x2 x3 x4 x5 : Int32) (o0 o1 o2 : Int64) (y0 y1 y2 y3 y4 y5 : Int32) (v0 v1 v2 : Int64) : own_run own_P 56 11 288 0 (own_entry [.ref 8, .int (2), .int (0), .int t] own_m56.ml) [] (own_HD0 x0 x1 x2 x3 x4 x5 o0 o1 o2 y0 y1 y2 y3 y4 y5 v0 v1 v2) (none, (own_HD0 x0 x1 x2 x3 x4 x5 o0 o1 (o2 + t.toInt64) y0 y1 y2 y3 y4 y5 v0 v1 v2)) := own_run.fuel 80 rfl
set_option maxRecDepth 1000000 in
set_option maxHeartbeats 40000000 in
theorem own_ap_0_2_2_1 (t : Int32) (x0 x1 x2 x3 x4 x5 : Int32) (o0 o1 o2 : Int64) (y0 y1 y2 y3 y4 y5 : Int32) (v0 v1 v2 : Int64) : own_run own_P 57 11 287 0 (own_entry [.ref 96, .ref 95, .int (2), .int (2), .int (1), .int t] own_m57.ml) [] (own_HD0 x0 x1 x2 x3 x4 x5 o0 o1 o2 y0 y1 y2 y3 y4 y5 v0 v1 v2) (none, (own_HD0 x0 x1 x2 x3 x4 x5 o0 o1 o2 y0 y1 y2 y3 y4 y5 v0 v1 (v2 + t.toInt64))) := own_run.fuel 60 rfl
set_option maxRecDepth 1000000 in
set_option maxHeartbeats 40000000 in
theorem own_mv_0_3_0_0 (t : Int32) (x0 x1 x2 x3 x4 x5 : Int32) (o0 o1 o2 : Int64) (y0 y1 y2 y3 y4 y5 : Int32) (v0 v1 v2 : Int64) : own_run own_P 56 11 288 0 (own_entry [.ref 8, .int (3), .int (0), .int t] own_m56.ml) [] (own_HD0 x0 x1 x2 x3 x4 x5 o0 o1 o2 y0 y1 y2 y3 y4 y5 v0 v1 v2) (none, (own_HD0 (x0 - t) x1 x2 x3 x4 x5 o0 o1 o2 y0 y1 y2 y3 y4 y5 v0 v1 v2)) := own_run.fuel 80 rfl
set_option maxRecDepth 1000000 in
set_option maxHeartbeats 40000000 in
theorem own_ap_0_3_0_0 (t : Int32) (x0 x1 x2 x3 x4 x5 : Int32) (o0 o1 o2 : Int64) (y0 y1 y2 y3 y4 y5 : Int32) (v0 v1 v2 : Int64) : own_run own_P 57 11 287 0 (own_entry [.ref 96, .ref 95, .int (3), .int (0), .int (0), .int t] own_m57.ml) [] (own_HD0 x0 x1 x2 x3 x4 x5 o0 o1 o2 y0 y1 y2 y3 y4 y5 v0 v1 v2) (none, (own_HD0 x0 x1 x2 x3 x4 x5 o0 o1 o2 (y0 - t) y1 y2 y3 y4 y5 v0 v1 v2)) := own_run.fuel 60 rfl
set_option maxRecDepth 1000000 in
set_option maxHeartbeats 40000000 in
theorem own_mv_0_3_0_1 (t : Int32) (x0 x1 x2 x3 x4 x5 : Int32) (o0 o1 o2 : Int64) (y0 y1 y2 y3 y4 y5 : Int32) (v0 v1 v2 : Int64) : own_run own_P 56 11 288 0 (own_entry [.ref 8, .int (4), .int (0), .int t] own_m56.ml) [] (own_HD0 x0 x1 x2 x3 x4 x5 o0 o1 o2 y0 y1 y2 y3 y4 y5 v0 v1 v2) (none, (own_HD0 x0 (x1 - t) x2 x3 x4 x5 o0 o1 o2 y0 y1 y2 y3 y4 y5 v0 v1 v2)) := own_run.fuel 80 rfl
set_option maxRecDepth 1000000 in
set_option maxHeartbeats 40000000 in
theorem own_ap_0_3_0_1 (t : Int32) (x0 x1 x2 x3 x4 x5 : Int32) (o0 o1 o2 : Int64) (y0 y1 y2 y3 y4 y5 : Int32) (v0 v1 v2 : Int64) : own_run own_P 57 11 287 0 (own_entry [.ref 96, .ref 95, .int (3), .int (0), .int (1), .int t] own_m57.ml) [] (own_HD0 x0 x1 x2 x3 x4 x5 o0 o1 o2 y0 y1 y2 y3 y4 y5 v0 v1 v2) (none, (own_HD0 x0 x1 x2 x3 x4 x5 o0 o1 o2 y0 (y1 - t) y2 y3 y4 y5 v0 v1 v2)) := own_run.fuel 60 rfl
set_option maxRecDepth 1000000 in
set_option maxHeartbeats 40000000 in
theorem own_mv_0_3_1_0 (t : Int32) (x0 x1 x2 x3 x4 x5 : Int32) (o0 o1 o2 : Int64) (y0 y1 y2 y3 y4 y5 : Int32) (v0 v1 v2 : Int64) : own_run own_P 56 11 288 0 (own_entry [.ref 8, .int (3), .int (1), .int t] own_m56.ml) [] (own_HD0 x0 x1 x2 x3 x4 x5 o0 o1 o2 y0 y1 y2 y3 y4 y5 v0 v1 v2) (none, (own_HD0 x0 x1 (x2 - t) x3 x4 x5 o0 o1 o2 y0 y1 y2 y3 y4 y5 v0 v1 v2)) := own_run.fuel 80 rfl
set_option maxRecDepth 1000000 in
set_option maxHeartbeats 40000000 in
theorem own_ap_0_3_1_0 (t : Int32) (x0 x1 x2 x3 x4 x5 : Int32) (o0 o1 o2 : Int64) (y0 y1 y2 y3 y4 y5 : Int32) (v0 v1 v2 : Int64) : own_run own_P 57 11 287 0 (own_entry [.ref 96, .ref 95, .int (3), .int (1), .int (0), .int t] own_m57.ml) [] (own_HD0 x0 x1 x2 x3 x4 x5 o0 o1 o2 y0 y1 y2 y3 y4 y5 v0 v1 v2) (none, (own_HD0 x0 x1 x2 x3 x4 x5 o0 o1 o2 y0 y1 (y2 - t) y3 y4 y5 v0 v1 v2)) := own_run.fuel 60 rfl
set_option maxRecDepth 1000000 in
set_option maxHeartbeats 40000000 in
theorem own_mv_0_3_1_1 (t : Int32) (x0 x1 x2 x3 x4 x5 : Int32) (o0 o1 o2 : Int64) (y0 y1 y2 y3 y4 y5 : Int32) (v0 v1 v2 : Int64) : own_run own_P 56 11 288 0 (own_entry [.ref 8, .int (4), .int (1), .int t] own_m56.ml) [] (own_HD0 x0 x1 x2 x3 x4 x5 o0 o1 o2 y0 y1 y2 y3 y4 y5 v0 v1 v2) (none, (own_HD0 x0 x1 x2 (x3 - t) x4 x5 o0 o1 o2 y0 y1 y2 y3 y4 y5 v0 v1 v2)) := own_run.fuel 80 rfl
set_option maxRecDepth 1000000 in
set_option maxHeartbeats 40000000 in
theorem own_ap_0_3_1_1 (t : Int32) (x0 x1 x2 x3 x4 x5 : Int32) (o0 o1 o2 : Int64) (y0 y1 y2 y3 y4 y5 : Int32) (v0 v1 v2 : Int64) : own_run own_P 57 11 287 0 (own_entry [.ref 96, .ref 95, .int (3), .int (1), .int (1), .int t] own_m57.ml) [] (own_HD0 x0 x1 x2 x3 x4 x5 o0 o1 o2 y0 y1 y2 y3 y4 y5 v0 v1 v2) (none, (own_HD0 x0 x1 x2 x3 x4 x5 o0 o1 o2 y0 y1 y2 (y3 - t) y4 y5 v0 v1 v2)) := own_run.fuel 60 rfl
set_option maxRecDepth 1000000 in
set_option maxHeartbeats 40000000 in
theorem own_col_0_0 (a : Int32) (H : OHeap) : ∃ c : Int32, (c = 0 ∨ c = 1 ∨ c = 2) ∧ own_run own_P 53 11 289 0 (own_entry [.int (0), .int a, .int (0)] own_m53.ml) [] H (some (.int c), H) := by
  refine ⟨((a.toUInt32 >>> ((3 : Int32) &&& 31).toUInt32).toInt32 % (3 : Int32)), ?_, own_run.fuel 40 rfl⟩
  have s0 := c_iushr a 3 3 (by decide) (by decide)
  generalize (a.toUInt32 >>> ((3 : Int32) &&& 31).toUInt32).toInt32 = y at *
  have a2 := (c_irem y (3 : Int32) 3 (by decide)).1 (by omega)
  have e0 : (0 : Int32).toInt = 0 := rfl
  have e1 : (1 : Int32).toInt = 1 := rfl
  have e2 : (2 : Int32).toInt = 2 := rfl
  simp only [← Int32.toInt_inj, e0, e1, e2]; omega
set_option maxRecDepth 1000000 in
set_option maxHeartbeats 40000000 in
theorem own_col_0_1 (a : Int32) (H : OHeap) : ∃ c : Int32, (c = 0 ∨ c = 1) ∧ own_run own_P 53 11 289 0 (own_entry [.int (1), .int a, .int (0)] own_m53.ml) [] H (some (.int c), H) := by
  refine ⟨((a.toUInt32 >>> ((3 : Int32) &&& 31).toUInt32).toInt32 % (2 : Int32)), ?_, own_run.fuel 40 rfl⟩
  have s0 := c_iushr a 3 3 (by decide) (by decide)
  generalize (a.toUInt32 >>> ((3 : Int32) &&& 31).toUInt32).toInt32 = y at *
  have a2 := (c_irem y (2 : Int32) 2 (by decide)).1 (by omega)
  have e0 : (0 : Int32).toInt = 0 := rfl
  have e1 : (1 : Int32).toInt = 1 := rfl
  simp only [← Int32.toInt_inj, e0, e1]; omega
set_option maxRecDepth 1000000 in
set_option maxHeartbeats 40000000 in
theorem own_col_0_2 (a : Int32) (H : OHeap) : ∃ c : Int32, (c = 0 ∨ c = 1 ∨ c = 2) ∧ own_run own_P 53 11 289 0 (own_entry [.int (2), .int a, .int (0)] own_m53.ml) [] H (some (.int c), H) := by
  refine ⟨((a.toUInt32 >>> ((3 : Int32) &&& 31).toUInt32).toInt32 % (3 : Int32)), ?_, own_run.fuel 40 rfl⟩
  have s0 := c_iushr a 3 3 (by decide) (by decide)
  generalize (a.toUInt32 >>> ((3 : Int32) &&& 31).toUInt32).toInt32 = y at *
  have a2 := (c_irem y (3 : Int32) 3 (by decide)).1 (by omega)
  have e0 : (0 : Int32).toInt = 0 := rfl
  have e1 : (1 : Int32).toInt = 1 := rfl
  have e2 : (2 : Int32).toInt = 2 := rfl
  simp only [← Int32.toInt_inj, e0, e1, e2]; omega
set_option maxRecDepth 1000000 in
set_option maxHeartbeats 40000000 in
theorem own_col_0_3 (a : Int32) (H : OHeap) : ∃ c : Int32, (c = 0 ∨ c = 1) ∧ own_run own_P 53 11 289 0 (own_entry [.int (3), .int a, .int (0)] own_m53.ml) [] H (some (.int c), H) := by
  refine ⟨((a.toUInt32 >>> ((3 : Int32) &&& 31).toUInt32).toInt32 % (2 : Int32)), ?_, own_run.fuel 40 rfl⟩
  have s0 := c_iushr a 3 3 (by decide) (by decide)
  generalize (a.toUInt32 >>> ((3 : Int32) &&& 31).toUInt32).toInt32 = y at *
  have a2 := (c_irem y (2 : Int32) 2 (by decide)).1 (by omega)
  have e0 : (0 : Int32).toInt = 0 := rfl
  have e1 : (1 : Int32).toInt = 1 := rfl
  simp only [← Int32.toInt_inj, e0, e1]; omega
set_option maxRecDepth 1000000 in
set_option maxHeartbeats 40000000 in
theorem own_mvA_0 (a0 a1 a2 a3 a4 a5 k r c u i : Int32) (H H1 H2 : OHeap) (hn : own_run own_P 54 11 289 0 (own_entry [.int k, .int c, .int r] own_m54.ml) [] H (some (.int u), H)) (ha : own_run own_P 55 11 287 0 (own_entry [.int k, .int c, .int r, .int (0)] own_m55.ml) [] H (some (.int i), H))
    (hc : own_call own_P own_m0 (.invokevirtual 35) [.int a2, .int i, .int u, .ref 8] H = some (56, [.ref 8, .int u, .int i, .int a2], [])) (hm : own_run own_P 56 11 288 0 (own_entry [.ref 8, .int u, .int i, .int a2] own_m56.ml) [] H (none, H1)) (hp : own_run own_P 57 11 287 0 (own_entry [.ref 96, .ref 95, .int k, .int c, .int r, .int a2] own_m57.ml) [] H1 (none, H2))
    (kk : own_ks own_P (own_end own_P.2.1 208 896) [] 0 12 304 407 [.val (.int a0), .val (.int a1), .val (.int a2), .val (.int a3), .val (.int a4), .val (.int a5), .val (.int (0 : Int32)), .val (.int (1 : Int32)), .val (.int (2147483647 : Int32)), .val (.ref 0), .val (.ref 1), .val (.ref 2), .val (.ref 3), .val (.ref 4), .val (.ref 5), .val (.ref 6), .val (.ref 7), .val (.ref 8), .val (.ref 95), .val (.ref 96), .val (.int k), .val (.int r), .val (.int c), .unset, .unset, .unset, .unset] [] H2) : own_ks own_P (own_end own_P.2.1 208 896) [] 0 12 304 367 [.val (.int a0), .val (.int a1), .val (.int a2), .val (.int a3), .val (.int a4), .val (.int a5), .val (.int (0 : Int32)), .val (.int (1 : Int32)), .val (.int (2147483647 : Int32)), .val (.ref 0), .val (.ref 1), .val (.ref 2), .val (.ref 3), .val (.ref 4), .val (.ref 5), .val (.ref 6), .val (.ref 7), .val (.ref 8), .val (.ref 95), .val (.ref 96), .val (.int k), .val (.int r), .val (.int c), .unset, .unset, .unset, .unset] [] H := by
  refine own_ks.go (mt := own_m0) rfl 4 (pc' := 375) (L' := [.val (.int a0), .val (.int a1), .val (.int a2), .val (.int a3), .val (.int a4), .val (.int a5), .val (.int (0 : Int32)), .val (.int (1 : Int32)), .val (.int (2147483647 : Int32)), .val (.ref 0), .val (.ref 1), .val (.ref 2), .val (.ref 3), .val (.ref 4), .val (.ref 5), .val (.ref 6), .val (.ref 7), .val (.ref 8), .val (.ref 95), .val (.ref 96), .val (.int k), .val (.int r), .val (.int c), .unset, .unset, .unset, .unset]) (S' := [.int r, .int c, .int k, .ref 8]) (H' := H) rfl ?_
  refine own_ks.call (mt := own_m0) (mj := own_m54) rfl (ins := .invokestatic 27) (t := 378) (j := 54) (as := [.int k, .int c, .int r]) (r' := [.ref 8]) (v := some (.int u)) (H' := H) (S' := [.int u, .ref 8]) rfl rfl rfl rfl rfl hn rfl ?_
  refine own_ks.go (mt := own_m0) rfl 4 (pc' := 386) (L' := [.val (.int a0), .val (.int a1), .val (.int a2), .val (.int a3), .val (.int a4), .val (.int a5), .val (.int (0 : Int32)), .val (.int (1 : Int32)), .val (.int (2147483647 : Int32)), .val (.ref 0), .val (.ref 1), .val (.ref 2), .val (.ref 3), .val (.ref 4), .val (.ref 5), .val (.ref 6), .val (.ref 7), .val (.ref 8), .val (.ref 95), .val (.ref 96), .val (.int k), .val (.int r), .val (.int c), .unset, .unset, .unset, .unset]) (S' := [.int (0 : Int32), .int r, .int c, .int k, .int u, .ref 8]) (H' := H) rfl ?_
  refine own_ks.call (mt := own_m0) (mj := own_m55) rfl (ins := .invokestatic 31) (t := 389) (j := 55) (as := [.int k, .int c, .int r, .int (0 : Int32)]) (r' := [.int u, .ref 8]) (v := some (.int i)) (H' := H) (S' := [.int i, .int u, .ref 8]) rfl rfl rfl rfl rfl ha rfl ?_
  refine own_ks.go (mt := own_m0) rfl 1 (pc' := 390) (L' := [.val (.int a0), .val (.int a1), .val (.int a2), .val (.int a3), .val (.int a4), .val (.int a5), .val (.int (0 : Int32)), .val (.int (1 : Int32)), .val (.int (2147483647 : Int32)), .val (.ref 0), .val (.ref 1), .val (.ref 2), .val (.ref 3), .val (.ref 4), .val (.ref 5), .val (.ref 6), .val (.ref 7), .val (.ref 8), .val (.ref 95), .val (.ref 96), .val (.int k), .val (.int r), .val (.int c), .unset, .unset, .unset, .unset]) (S' := [.int a2, .int i, .int u, .ref 8]) (H' := H) rfl ?_
  refine own_ks.call (mt := own_m0) (mj := own_m56) rfl (ins := .invokevirtual 35) (t := 393) (j := 56) (as := [.ref 8, .int u, .int i, .int a2]) (r' := []) (v := none) (H' := H1) (S' := []) rfl rfl hc rfl rfl hm rfl ?_
  refine own_ks.go (mt := own_m0) rfl 6 (pc' := 404) (L' := [.val (.int a0), .val (.int a1), .val (.int a2), .val (.int a3), .val (.int a4), .val (.int a5), .val (.int (0 : Int32)), .val (.int (1 : Int32)), .val (.int (2147483647 : Int32)), .val (.ref 0), .val (.ref 1), .val (.ref 2), .val (.ref 3), .val (.ref 4), .val (.ref 5), .val (.ref 6), .val (.ref 7), .val (.ref 8), .val (.ref 95), .val (.ref 96), .val (.int k), .val (.int r), .val (.int c), .unset, .unset, .unset, .unset]) (S' := [.int a2, .int r, .int c, .int k, .ref 95, .ref 96]) (H' := H1) rfl ?_
  exact own_ks.call (mt := own_m0) (mj := own_m57) rfl (ins := .invokestatic 39) (t := 407) (j := 57) (as := [.ref 96, .ref 95, .int k, .int c, .int r, .int a2]) (r' := []) (v := none) (H' := H2) (S' := []) rfl rfl rfl rfl rfl hp rfl kk
set_option maxRecDepth 1000000 in
set_option maxHeartbeats 40000000 in
theorem own_mvB_0 (a0 a1 a2 a3 a4 a5 k r c u i k2 r2 c2 : Int32) (H H1 H2 : OHeap) (hn : own_run own_P 54 11 289 0 (own_entry [.int k2, .int c2, .int r2] own_m54.ml) [] H (some (.int u), H)) (ha : own_run own_P 55 11 287 0 (own_entry [.int k2, .int c2, .int r2, .int (0)] own_m55.ml) [] H (some (.int i), H))
    (hc : own_call own_P own_m0 (.invokevirtual 35) [.int a4, .int i, .int u, .ref 8] H = some (56, [.ref 8, .int u, .int i, .int a4], [])) (hm : own_run own_P 56 11 288 0 (own_entry [.ref 8, .int u, .int i, .int a4] own_m56.ml) [] H (none, H1)) (hp : own_run own_P 57 11 287 0 (own_entry [.ref 96, .ref 95, .int k2, .int c2, .int r2, .int a4] own_m57.ml) [] H1 (none, H2))
    (kk : own_ks own_P (own_end own_P.2.1 208 896) [] 0 12 304 471 [.val (.int a0), .val (.int a1), .val (.int a2), .val (.int a3), .val (.int a4), .val (.int a5), .val (.int (0 : Int32)), .val (.int (1 : Int32)), .val (.int (2147483647 : Int32)), .val (.ref 0), .val (.ref 1), .val (.ref 2), .val (.ref 3), .val (.ref 4), .val (.ref 5), .val (.ref 6), .val (.ref 7), .val (.ref 8), .val (.ref 95), .val (.ref 96), .val (.int k), .val (.int r), .val (.int c), .val (.int k2), .val (.int r2), .val (.int c2), .unset] [] H2) : own_ks own_P (own_end own_P.2.1 208 896) [] 0 12 304 429 [.val (.int a0), .val (.int a1), .val (.int a2), .val (.int a3), .val (.int a4), .val (.int a5), .val (.int (0 : Int32)), .val (.int (1 : Int32)), .val (.int (2147483647 : Int32)), .val (.ref 0), .val (.ref 1), .val (.ref 2), .val (.ref 3), .val (.ref 4), .val (.ref 5), .val (.ref 6), .val (.ref 7), .val (.ref 8), .val (.ref 95), .val (.ref 96), .val (.int k), .val (.int r), .val (.int c), .val (.int k2), .val (.int r2), .val (.int c2), .unset] [] H := by
  refine own_ks.go (mt := own_m0) rfl 4 (pc' := 437) (L' := [.val (.int a0), .val (.int a1), .val (.int a2), .val (.int a3), .val (.int a4), .val (.int a5), .val (.int (0 : Int32)), .val (.int (1 : Int32)), .val (.int (2147483647 : Int32)), .val (.ref 0), .val (.ref 1), .val (.ref 2), .val (.ref 3), .val (.ref 4), .val (.ref 5), .val (.ref 6), .val (.ref 7), .val (.ref 8), .val (.ref 95), .val (.ref 96), .val (.int k), .val (.int r), .val (.int c), .val (.int k2), .val (.int r2), .val (.int c2), .unset]) (S' := [.int r2, .int c2, .int k2, .ref 8]) (H' := H) rfl ?_
  refine own_ks.call (mt := own_m0) (mj := own_m54) rfl (ins := .invokestatic 27) (t := 440) (j := 54) (as := [.int k2, .int c2, .int r2]) (r' := [.ref 8]) (v := some (.int u)) (H' := H) (S' := [.int u, .ref 8]) rfl rfl rfl rfl rfl hn rfl ?_
  refine own_ks.go (mt := own_m0) rfl 4 (pc' := 448) (L' := [.val (.int a0), .val (.int a1), .val (.int a2), .val (.int a3), .val (.int a4), .val (.int a5), .val (.int (0 : Int32)), .val (.int (1 : Int32)), .val (.int (2147483647 : Int32)), .val (.ref 0), .val (.ref 1), .val (.ref 2), .val (.ref 3), .val (.ref 4), .val (.ref 5), .val (.ref 6), .val (.ref 7), .val (.ref 8), .val (.ref 95), .val (.ref 96), .val (.int k), .val (.int r), .val (.int c), .val (.int k2), .val (.int r2), .val (.int c2), .unset]) (S' := [.int (0 : Int32), .int r2, .int c2, .int k2, .int u, .ref 8]) (H' := H) rfl ?_
  refine own_ks.call (mt := own_m0) (mj := own_m55) rfl (ins := .invokestatic 31) (t := 451) (j := 55) (as := [.int k2, .int c2, .int r2, .int (0 : Int32)]) (r' := [.int u, .ref 8]) (v := some (.int i)) (H' := H) (S' := [.int i, .int u, .ref 8]) rfl rfl rfl rfl rfl ha rfl ?_
  refine own_ks.go (mt := own_m0) rfl 1 (pc' := 453) (L' := [.val (.int a0), .val (.int a1), .val (.int a2), .val (.int a3), .val (.int a4), .val (.int a5), .val (.int (0 : Int32)), .val (.int (1 : Int32)), .val (.int (2147483647 : Int32)), .val (.ref 0), .val (.ref 1), .val (.ref 2), .val (.ref 3), .val (.ref 4), .val (.ref 5), .val (.ref 6), .val (.ref 7), .val (.ref 8), .val (.ref 95), .val (.ref 96), .val (.int k), .val (.int r), .val (.int c), .val (.int k2), .val (.int r2), .val (.int c2), .unset]) (S' := [.int a4, .int i, .int u, .ref 8]) (H' := H) rfl ?_
  refine own_ks.call (mt := own_m0) (mj := own_m56) rfl (ins := .invokevirtual 35) (t := 456) (j := 56) (as := [.ref 8, .int u, .int i, .int a4]) (r' := []) (v := none) (H' := H1) (S' := []) rfl rfl hc rfl rfl hm rfl ?_
  refine own_ks.go (mt := own_m0) rfl 6 (pc' := 468) (L' := [.val (.int a0), .val (.int a1), .val (.int a2), .val (.int a3), .val (.int a4), .val (.int a5), .val (.int (0 : Int32)), .val (.int (1 : Int32)), .val (.int (2147483647 : Int32)), .val (.ref 0), .val (.ref 1), .val (.ref 2), .val (.ref 3), .val (.ref 4), .val (.ref 5), .val (.ref 6), .val (.ref 7), .val (.ref 8), .val (.ref 95), .val (.ref 96), .val (.int k), .val (.int r), .val (.int c), .val (.int k2), .val (.int r2), .val (.int c2), .unset]) (S' := [.int a4, .int r2, .int c2, .int k2, .ref 95, .ref 96]) (H' := H1) rfl ?_
  exact own_ks.call (mt := own_m0) (mj := own_m57) rfl (ins := .invokestatic 39) (t := 471) (j := 57) (as := [.ref 96, .ref 95, .int k2, .int c2, .int r2, .int a4]) (r' := []) (v := none) (H' := H2) (S' := []) rfl rfl rfl rfl rfl hp rfl kk
set_option maxRecDepth 1000000 in
set_option maxHeartbeats 40000000 in
theorem own_os_0_0 (x0 x1 x2 x3 x4 x5 : Int32) (o0 o1 o2 : Int64) (y0 y1 y2 y3 y4 y5 : Int32) (v0 v1 v2 : Int64) : own_run own_P 58 11 290 0 (own_entry [.ref 8, .int (0 : Int32), .int (0 : Int32)] own_m58.ml) [] (own_HD0 x0 x1 x2 x3 x4 x5 o0 o1 o2 y0 y1 y2 y3 y4 y5 v0 v1 v2) (some (.long o0), (own_HD0 x0 x1 x2 x3 x4 x5 o0 o1 o2 y0 y1 y2 y3 y4 y5 v0 v1 v2)) := by
  refine own_ks_run ?_
  refine own_ks.go (mt := own_m58) rfl 3 (pc' := 3) (L' := [.val (.ref 8), .val (.int (0 : Int32)), .val (.int (0 : Int32))]) (S' := [.int (0 : Int32), .int (5 : Int32), .ref 8]) (H' := (own_HD0 x0 x1 x2 x3 x4 x5 o0 o1 o2 y0 y1 y2 y3 y4 y5 v0 v1 v2)) rfl ?_
  refine own_ks.into (mt := own_m58) (mj := own_m50) rfl (ins := .invokevirtual 51) (t := 6) (j := 50) (as := [.ref 8, .int (5 : Int32), .int (0 : Int32)]) (r' := []) (L' := [.val (.ref 8), .val (.int (5 : Int32)), .val (.int (0 : Int32)), .unset]) rfl rfl rfl rfl rfl rfl rfl rfl ?_
  refine own_ks.go (mt := own_m50) rfl 10 (pc' := 16) (L' := [.val (.ref 8), .val (.int (5 : Int32)), .val (.int (0 : Int32)), .unset]) (S' := [.int (lcmpW o0 (0 : Int64))]) (H' := (own_HD0 x0 x1 x2 x3 x4 x5 o0 o1 o2 y0 y1 y2 y3 y4 y5 v0 v1 v2)) rfl ?_
  by_cases h1 : (0 : Int32) < (lcmpW o0 (0 : Int64))
  · refine own_ks.br1 (mt := own_m50) rfl (cd := .le) (t := 47) (b := false) (pc' := 19) rfl ((if0 _ _).trans (tlt h1).2.2.2) rfl ?_
    refine own_ks.go (mt := own_m50) rfl 16 (pc' := 48) (L' := [.val (.ref 8), .val (.int (5 : Int32)), .val (.int (0 : Int32)), .unset]) (S' := [.long o0]) (H' := (own_HD0 x0 x1 x2 x3 x4 x5 o0 o1 o2 y0 y1 y2 y3 y4 y5 v0 v1 v2)) rfl ?_
    refine own_ks.back (mt := own_m50) rfl (ins := .lreturn) (t := 49) (v := some (.long o0)) (S2 := [.long o0]) rfl rfl rfl ?_
    refine own_ks.go (mt := own_m58) rfl 4 (pc' := 10) (L' := [.val (.ref 8), .val (.int (0 : Int32)), .val (.int (0 : Int32))]) (S' := [.int (0 : Int32), .int (0 : Int32), .int (0 : Int32), .ref 8, .long o0]) (H' := (own_HD0 x0 x1 x2 x3 x4 x5 o0 o1 o2 y0 y1 y2 y3 y4 y5 v0 v1 v2)) rfl ?_
    refine own_ks.into (mt := own_m58) (mj := own_m59) rfl (ins := .invokestatic 47) (t := 13) (j := 59) (as := [.int (0 : Int32), .int (0 : Int32)]) (r' := [.int (0 : Int32), .ref 8, .long o0]) (L' := [.val (.int (0 : Int32)), .val (.int (0 : Int32))]) rfl rfl rfl rfl rfl rfl rfl rfl ?_
    refine own_ks.go (mt := own_m59) rfl 7 (pc' := 14) (L' := [.val (.int (0 : Int32)), .val (.int (0 : Int32))]) (S' := [.int (2 : Int32)]) (H' := (own_HD0 x0 x1 x2 x3 x4 x5 o0 o1 o2 y0 y1 y2 y3 y4 y5 v0 v1 v2)) rfl ?_
    refine own_ks.back (mt := own_m59) rfl (ins := .ireturn) (t := 15) (v := some (.int (2 : Int32))) (S2 := [.int (2 : Int32), .int (0 : Int32), .ref 8, .long o0]) rfl rfl rfl ?_
    refine own_ks.into (mt := own_m58) (mj := own_m50) rfl (ins := .invokevirtual 51) (t := 16) (j := 50) (as := [.ref 8, .int (0 : Int32), .int (2 : Int32)]) (r' := [.long o0]) (L' := [.val (.ref 8), .val (.int (0 : Int32)), .val (.int (2 : Int32)), .unset]) rfl rfl rfl rfl rfl rfl rfl rfl ?_
    refine own_ks.go (mt := own_m50) rfl 32 (pc' := 104) (L' := [.val (.ref 8), .val (.int (0 : Int32)), .val (.int (2 : Int32)), .val (.int (2 : Int32))]) (S' := [.int (lcmpW o0 (0 : Int64))]) (H' := (own_HD0 x0 x1 x2 x3 x4 x5 o0 o1 o2 y0 y1 y2 y3 y4 y5 v0 v1 v2)) rfl ?_
    have h2 : ¬ ((lcmpW o0 (0 : Int64)) < (0 : Int32)) := by (have e0 : (0 : Int32).toInt = 0 := rfl; simp only [Int32.lt_iff_toInt_lt, e0] at *; omega)
    refine own_ks.br1 (mt := own_m50) rfl (cd := .ge) (t := 136) (b := true) (pc' := 136) rfl ((if0 _ _).trans (flt h2).2.1) rfl ?_
    refine own_ks.go (mt := own_m50) rfl 1 (pc' := 137) (L' := [.val (.ref 8), .val (.int (0 : Int32)), .val (.int (2 : Int32)), .val (.int (2 : Int32))]) (S' := [.long (0 : Int64)]) (H' := (own_HD0 x0 x1 x2 x3 x4 x5 o0 o1 o2 y0 y1 y2 y3 y4 y5 v0 v1 v2)) rfl ?_
    refine own_ks.back (mt := own_m50) rfl (ins := .lreturn) (t := 138) (v := some (.long (0 : Int64))) (S2 := [.long (0 : Int64), .long o0]) rfl rfl rfl ?_
    refine own_ks.go (mt := own_m58) rfl 1 (pc' := 17) (L' := [.val (.ref 8), .val (.int (0 : Int32)), .val (.int (0 : Int32))]) (S' := [.long (o0 - (0 : Int64))]) (H' := (own_HD0 x0 x1 x2 x3 x4 x5 o0 o1 o2 y0 y1 y2 y3 y4 y5 v0 v1 v2)) rfl ?_
    exact own_ks.ret (mt := own_m58) rfl (ins := .lreturn) (t := 18) (v := some (.long (o0 - (0 : Int64)))) rfl rfl ⟨congrArg (fun z => some (Value.long z)) (own_l0 o0), rfl⟩
  · refine own_ks.br1 (mt := own_m50) rfl (cd := .le) (t := 47) (b := true) (pc' := 47) rfl ((if0 _ _).trans (flt h1).2.2.2) rfl ?_
    refine own_ks.go (mt := own_m50) rfl 1 (pc' := 48) (L' := [.val (.ref 8), .val (.int (5 : Int32)), .val (.int (0 : Int32)), .unset]) (S' := [.long (0 : Int64)]) (H' := (own_HD0 x0 x1 x2 x3 x4 x5 o0 o1 o2 y0 y1 y2 y3 y4 y5 v0 v1 v2)) rfl ?_
    refine own_ks.back (mt := own_m50) rfl (ins := .lreturn) (t := 49) (v := some (.long (0 : Int64))) (S2 := [.long (0 : Int64)]) rfl rfl rfl ?_
    refine own_ks.go (mt := own_m58) rfl 4 (pc' := 10) (L' := [.val (.ref 8), .val (.int (0 : Int32)), .val (.int (0 : Int32))]) (S' := [.int (0 : Int32), .int (0 : Int32), .int (0 : Int32), .ref 8, .long (0 : Int64)]) (H' := (own_HD0 x0 x1 x2 x3 x4 x5 o0 o1 o2 y0 y1 y2 y3 y4 y5 v0 v1 v2)) rfl ?_
    refine own_ks.into (mt := own_m58) (mj := own_m59) rfl (ins := .invokestatic 47) (t := 13) (j := 59) (as := [.int (0 : Int32), .int (0 : Int32)]) (r' := [.int (0 : Int32), .ref 8, .long (0 : Int64)]) (L' := [.val (.int (0 : Int32)), .val (.int (0 : Int32))]) rfl rfl rfl rfl rfl rfl rfl rfl ?_
    refine own_ks.go (mt := own_m59) rfl 7 (pc' := 14) (L' := [.val (.int (0 : Int32)), .val (.int (0 : Int32))]) (S' := [.int (2 : Int32)]) (H' := (own_HD0 x0 x1 x2 x3 x4 x5 o0 o1 o2 y0 y1 y2 y3 y4 y5 v0 v1 v2)) rfl ?_
    refine own_ks.back (mt := own_m59) rfl (ins := .ireturn) (t := 15) (v := some (.int (2 : Int32))) (S2 := [.int (2 : Int32), .int (0 : Int32), .ref 8, .long (0 : Int64)]) rfl rfl rfl ?_
    refine own_ks.into (mt := own_m58) (mj := own_m50) rfl (ins := .invokevirtual 51) (t := 16) (j := 50) (as := [.ref 8, .int (0 : Int32), .int (2 : Int32)]) (r' := [.long (0 : Int64)]) (L' := [.val (.ref 8), .val (.int (0 : Int32)), .val (.int (2 : Int32)), .unset]) rfl rfl rfl rfl rfl rfl rfl rfl ?_
    refine own_ks.go (mt := own_m50) rfl 32 (pc' := 104) (L' := [.val (.ref 8), .val (.int (0 : Int32)), .val (.int (2 : Int32)), .val (.int (2 : Int32))]) (S' := [.int (lcmpW o0 (0 : Int64))]) (H' := (own_HD0 x0 x1 x2 x3 x4 x5 o0 o1 o2 y0 y1 y2 y3 y4 y5 v0 v1 v2)) rfl ?_
    by_cases h3 : (lcmpW o0 (0 : Int64)) < (0 : Int32)
    · refine own_ks.br1 (mt := own_m50) rfl (cd := .ge) (t := 136) (b := false) (pc' := 107) rfl ((if0 _ _).trans (tlt h3).2.1) rfl ?_
      refine own_ks.go (mt := own_m50) rfl 17 (pc' := 137) (L' := [.val (.ref 8), .val (.int (0 : Int32)), .val (.int (2 : Int32)), .val (.int (2 : Int32))]) (S' := [.long (-o0)]) (H' := (own_HD0 x0 x1 x2 x3 x4 x5 o0 o1 o2 y0 y1 y2 y3 y4 y5 v0 v1 v2)) rfl ?_
      refine own_ks.back (mt := own_m50) rfl (ins := .lreturn) (t := 138) (v := some (.long (-o0))) (S2 := [.long (-o0), .long (0 : Int64)]) rfl rfl rfl ?_
      refine own_ks.go (mt := own_m58) rfl 1 (pc' := 17) (L' := [.val (.ref 8), .val (.int (0 : Int32)), .val (.int (0 : Int32))]) (S' := [.long ((0 : Int64) - (-o0))]) (H' := (own_HD0 x0 x1 x2 x3 x4 x5 o0 o1 o2 y0 y1 y2 y3 y4 y5 v0 v1 v2)) rfl ?_
      exact own_ks.ret (mt := own_m58) rfl (ins := .lreturn) (t := 18) (v := some (.long ((0 : Int64) - (-o0)))) rfl rfl ⟨congrArg (fun z => some (Value.long z)) (own_l1 o0), rfl⟩
    · refine own_ks.br1 (mt := own_m50) rfl (cd := .ge) (t := 136) (b := true) (pc' := 136) rfl ((if0 _ _).trans (flt h3).2.1) rfl ?_
      refine own_ks.go (mt := own_m50) rfl 1 (pc' := 137) (L' := [.val (.ref 8), .val (.int (0 : Int32)), .val (.int (2 : Int32)), .val (.int (2 : Int32))]) (S' := [.long (0 : Int64)]) (H' := (own_HD0 x0 x1 x2 x3 x4 x5 o0 o1 o2 y0 y1 y2 y3 y4 y5 v0 v1 v2)) rfl ?_
      refine own_ks.back (mt := own_m50) rfl (ins := .lreturn) (t := 138) (v := some (.long (0 : Int64))) (S2 := [.long (0 : Int64), .long (0 : Int64)]) rfl rfl rfl ?_
      refine own_ks.go (mt := own_m58) rfl 1 (pc' := 17) (L' := [.val (.ref 8), .val (.int (0 : Int32)), .val (.int (0 : Int32))]) (S' := [.long (0 : Int64)]) (H' := (own_HD0 x0 x1 x2 x3 x4 x5 o0 o1 o2 y0 y1 y2 y3 y4 y5 v0 v1 v2)) rfl ?_
      exact own_ks.ret (mt := own_m58) rfl (ins := .lreturn) (t := 18) (v := some (.long (0 : Int64))) rfl rfl ⟨congrArg (fun z => some (Value.long z)) (own_l2 h1 h3), rfl⟩
set_option maxRecDepth 1000000 in
set_option maxHeartbeats 40000000 in
theorem own_os_0_1 (x0 x1 x2 x3 x4 x5 : Int32) (o0 o1 o2 : Int64) (y0 y1 y2 y3 y4 y5 : Int32) (v0 v1 v2 : Int64) : own_run own_P 58 11 290 0 (own_entry [.ref 8, .int (1 : Int32), .int (0 : Int32)] own_m58.ml) [] (own_HD0 x0 x1 x2 x3 x4 x5 o0 o1 o2 y0 y1 y2 y3 y4 y5 v0 v1 v2) (some (.long o1), (own_HD0 x0 x1 x2 x3 x4 x5 o0 o1 o2 y0 y1 y2 y3 y4 y5 v0 v1 v2)) := by
  refine own_ks_run ?_
  refine own_ks.go (mt := own_m58) rfl 3 (pc' := 3) (L' := [.val (.ref 8), .val (.int (1 : Int32)), .val (.int (0 : Int32))]) (S' := [.int (1 : Int32), .int (5 : Int32), .ref 8]) (H' := (own_HD0 x0 x1 x2 x3 x4 x5 o0 o1 o2 y0 y1 y2 y3 y4 y5 v0 v1 v2)) rfl ?_
  refine own_ks.into (mt := own_m58) (mj := own_m50) rfl (ins := .invokevirtual 51) (t := 6) (j := 50) (as := [.ref 8, .int (5 : Int32), .int (1 : Int32)]) (r' := []) (L' := [.val (.ref 8), .val (.int (5 : Int32)), .val (.int (1 : Int32)), .unset]) rfl rfl rfl rfl rfl rfl rfl rfl ?_
  refine own_ks.go (mt := own_m50) rfl 10 (pc' := 16) (L' := [.val (.ref 8), .val (.int (5 : Int32)), .val (.int (1 : Int32)), .unset]) (S' := [.int (lcmpW o1 (0 : Int64))]) (H' := (own_HD0 x0 x1 x2 x3 x4 x5 o0 o1 o2 y0 y1 y2 y3 y4 y5 v0 v1 v2)) rfl ?_
  by_cases h1 : (0 : Int32) < (lcmpW o1 (0 : Int64))
  · refine own_ks.br1 (mt := own_m50) rfl (cd := .le) (t := 47) (b := false) (pc' := 19) rfl ((if0 _ _).trans (tlt h1).2.2.2) rfl ?_
    refine own_ks.go (mt := own_m50) rfl 16 (pc' := 48) (L' := [.val (.ref 8), .val (.int (5 : Int32)), .val (.int (1 : Int32)), .unset]) (S' := [.long o1]) (H' := (own_HD0 x0 x1 x2 x3 x4 x5 o0 o1 o2 y0 y1 y2 y3 y4 y5 v0 v1 v2)) rfl ?_
    refine own_ks.back (mt := own_m50) rfl (ins := .lreturn) (t := 49) (v := some (.long o1)) (S2 := [.long o1]) rfl rfl rfl ?_
    refine own_ks.go (mt := own_m58) rfl 4 (pc' := 10) (L' := [.val (.ref 8), .val (.int (1 : Int32)), .val (.int (0 : Int32))]) (S' := [.int (0 : Int32), .int (1 : Int32), .int (1 : Int32), .ref 8, .long o1]) (H' := (own_HD0 x0 x1 x2 x3 x4 x5 o0 o1 o2 y0 y1 y2 y3 y4 y5 v0 v1 v2)) rfl ?_
    refine own_ks.into (mt := own_m58) (mj := own_m59) rfl (ins := .invokestatic 47) (t := 13) (j := 59) (as := [.int (1 : Int32), .int (0 : Int32)]) (r' := [.int (1 : Int32), .ref 8, .long o1]) (L' := [.val (.int (1 : Int32)), .val (.int (0 : Int32))]) rfl rfl rfl rfl rfl rfl rfl rfl ?_
    refine own_ks.go (mt := own_m59) rfl 7 (pc' := 14) (L' := [.val (.int (1 : Int32)), .val (.int (0 : Int32))]) (S' := [.int (2 : Int32)]) (H' := (own_HD0 x0 x1 x2 x3 x4 x5 o0 o1 o2 y0 y1 y2 y3 y4 y5 v0 v1 v2)) rfl ?_
    refine own_ks.back (mt := own_m59) rfl (ins := .ireturn) (t := 15) (v := some (.int (2 : Int32))) (S2 := [.int (2 : Int32), .int (1 : Int32), .ref 8, .long o1]) rfl rfl rfl ?_
    refine own_ks.into (mt := own_m58) (mj := own_m50) rfl (ins := .invokevirtual 51) (t := 16) (j := 50) (as := [.ref 8, .int (1 : Int32), .int (2 : Int32)]) (r' := [.long o1]) (L' := [.val (.ref 8), .val (.int (1 : Int32)), .val (.int (2 : Int32)), .unset]) rfl rfl rfl rfl rfl rfl rfl rfl ?_
    refine own_ks.go (mt := own_m50) rfl 32 (pc' := 104) (L' := [.val (.ref 8), .val (.int (1 : Int32)), .val (.int (2 : Int32)), .val (.int (4 : Int32))]) (S' := [.int (lcmpW o1 (0 : Int64))]) (H' := (own_HD0 x0 x1 x2 x3 x4 x5 o0 o1 o2 y0 y1 y2 y3 y4 y5 v0 v1 v2)) rfl ?_
    have h2 : ¬ ((lcmpW o1 (0 : Int64)) < (0 : Int32)) := by (have e0 : (0 : Int32).toInt = 0 := rfl; simp only [Int32.lt_iff_toInt_lt, e0] at *; omega)
    refine own_ks.br1 (mt := own_m50) rfl (cd := .ge) (t := 136) (b := true) (pc' := 136) rfl ((if0 _ _).trans (flt h2).2.1) rfl ?_
    refine own_ks.go (mt := own_m50) rfl 1 (pc' := 137) (L' := [.val (.ref 8), .val (.int (1 : Int32)), .val (.int (2 : Int32)), .val (.int (4 : Int32))]) (S' := [.long (0 : Int64)]) (H' := (own_HD0 x0 x1 x2 x3 x4 x5 o0 o1 o2 y0 y1 y2 y3 y4 y5 v0 v1 v2)) rfl ?_
    refine own_ks.back (mt := own_m50) rfl (ins := .lreturn) (t := 138) (v := some (.long (0 : Int64))) (S2 := [.long (0 : Int64), .long o1]) rfl rfl rfl ?_
    refine own_ks.go (mt := own_m58) rfl 1 (pc' := 17) (L' := [.val (.ref 8), .val (.int (1 : Int32)), .val (.int (0 : Int32))]) (S' := [.long (o1 - (0 : Int64))]) (H' := (own_HD0 x0 x1 x2 x3 x4 x5 o0 o1 o2 y0 y1 y2 y3 y4 y5 v0 v1 v2)) rfl ?_
    exact own_ks.ret (mt := own_m58) rfl (ins := .lreturn) (t := 18) (v := some (.long (o1 - (0 : Int64)))) rfl rfl ⟨congrArg (fun z => some (Value.long z)) (own_l0 o1), rfl⟩
  · refine own_ks.br1 (mt := own_m50) rfl (cd := .le) (t := 47) (b := true) (pc' := 47) rfl ((if0 _ _).trans (flt h1).2.2.2) rfl ?_
    refine own_ks.go (mt := own_m50) rfl 1 (pc' := 48) (L' := [.val (.ref 8), .val (.int (5 : Int32)), .val (.int (1 : Int32)), .unset]) (S' := [.long (0 : Int64)]) (H' := (own_HD0 x0 x1 x2 x3 x4 x5 o0 o1 o2 y0 y1 y2 y3 y4 y5 v0 v1 v2)) rfl ?_
    refine own_ks.back (mt := own_m50) rfl (ins := .lreturn) (t := 49) (v := some (.long (0 : Int64))) (S2 := [.long (0 : Int64)]) rfl rfl rfl ?_
    refine own_ks.go (mt := own_m58) rfl 4 (pc' := 10) (L' := [.val (.ref 8), .val (.int (1 : Int32)), .val (.int (0 : Int32))]) (S' := [.int (0 : Int32), .int (1 : Int32), .int (1 : Int32), .ref 8, .long (0 : Int64)]) (H' := (own_HD0 x0 x1 x2 x3 x4 x5 o0 o1 o2 y0 y1 y2 y3 y4 y5 v0 v1 v2)) rfl ?_
    refine own_ks.into (mt := own_m58) (mj := own_m59) rfl (ins := .invokestatic 47) (t := 13) (j := 59) (as := [.int (1 : Int32), .int (0 : Int32)]) (r' := [.int (1 : Int32), .ref 8, .long (0 : Int64)]) (L' := [.val (.int (1 : Int32)), .val (.int (0 : Int32))]) rfl rfl rfl rfl rfl rfl rfl rfl ?_
    refine own_ks.go (mt := own_m59) rfl 7 (pc' := 14) (L' := [.val (.int (1 : Int32)), .val (.int (0 : Int32))]) (S' := [.int (2 : Int32)]) (H' := (own_HD0 x0 x1 x2 x3 x4 x5 o0 o1 o2 y0 y1 y2 y3 y4 y5 v0 v1 v2)) rfl ?_
    refine own_ks.back (mt := own_m59) rfl (ins := .ireturn) (t := 15) (v := some (.int (2 : Int32))) (S2 := [.int (2 : Int32), .int (1 : Int32), .ref 8, .long (0 : Int64)]) rfl rfl rfl ?_
    refine own_ks.into (mt := own_m58) (mj := own_m50) rfl (ins := .invokevirtual 51) (t := 16) (j := 50) (as := [.ref 8, .int (1 : Int32), .int (2 : Int32)]) (r' := [.long (0 : Int64)]) (L' := [.val (.ref 8), .val (.int (1 : Int32)), .val (.int (2 : Int32)), .unset]) rfl rfl rfl rfl rfl rfl rfl rfl ?_
    refine own_ks.go (mt := own_m50) rfl 32 (pc' := 104) (L' := [.val (.ref 8), .val (.int (1 : Int32)), .val (.int (2 : Int32)), .val (.int (4 : Int32))]) (S' := [.int (lcmpW o1 (0 : Int64))]) (H' := (own_HD0 x0 x1 x2 x3 x4 x5 o0 o1 o2 y0 y1 y2 y3 y4 y5 v0 v1 v2)) rfl ?_
    by_cases h3 : (lcmpW o1 (0 : Int64)) < (0 : Int32)
    · refine own_ks.br1 (mt := own_m50) rfl (cd := .ge) (t := 136) (b := false) (pc' := 107) rfl ((if0 _ _).trans (tlt h3).2.1) rfl ?_
      refine own_ks.go (mt := own_m50) rfl 17 (pc' := 137) (L' := [.val (.ref 8), .val (.int (1 : Int32)), .val (.int (2 : Int32)), .val (.int (4 : Int32))]) (S' := [.long (-o1)]) (H' := (own_HD0 x0 x1 x2 x3 x4 x5 o0 o1 o2 y0 y1 y2 y3 y4 y5 v0 v1 v2)) rfl ?_
      refine own_ks.back (mt := own_m50) rfl (ins := .lreturn) (t := 138) (v := some (.long (-o1))) (S2 := [.long (-o1), .long (0 : Int64)]) rfl rfl rfl ?_
      refine own_ks.go (mt := own_m58) rfl 1 (pc' := 17) (L' := [.val (.ref 8), .val (.int (1 : Int32)), .val (.int (0 : Int32))]) (S' := [.long ((0 : Int64) - (-o1))]) (H' := (own_HD0 x0 x1 x2 x3 x4 x5 o0 o1 o2 y0 y1 y2 y3 y4 y5 v0 v1 v2)) rfl ?_
      exact own_ks.ret (mt := own_m58) rfl (ins := .lreturn) (t := 18) (v := some (.long ((0 : Int64) - (-o1)))) rfl rfl ⟨congrArg (fun z => some (Value.long z)) (own_l1 o1), rfl⟩
    · refine own_ks.br1 (mt := own_m50) rfl (cd := .ge) (t := 136) (b := true) (pc' := 136) rfl ((if0 _ _).trans (flt h3).2.1) rfl ?_
      refine own_ks.go (mt := own_m50) rfl 1 (pc' := 137) (L' := [.val (.ref 8), .val (.int (1 : Int32)), .val (.int (2 : Int32)), .val (.int (4 : Int32))]) (S' := [.long (0 : Int64)]) (H' := (own_HD0 x0 x1 x2 x3 x4 x5 o0 o1 o2 y0 y1 y2 y3 y4 y5 v0 v1 v2)) rfl ?_
      refine own_ks.back (mt := own_m50) rfl (ins := .lreturn) (t := 138) (v := some (.long (0 : Int64))) (S2 := [.long (0 : Int64), .long (0 : Int64)]) rfl rfl rfl ?_
      refine own_ks.go (mt := own_m58) rfl 1 (pc' := 17) (L' := [.val (.ref 8), .val (.int (1 : Int32)), .val (.int (0 : Int32))]) (S' := [.long (0 : Int64)]) (H' := (own_HD0 x0 x1 x2 x3 x4 x5 o0 o1 o2 y0 y1 y2 y3 y4 y5 v0 v1 v2)) rfl ?_
      exact own_ks.ret (mt := own_m58) rfl (ins := .lreturn) (t := 18) (v := some (.long (0 : Int64))) rfl rfl ⟨congrArg (fun z => some (Value.long z)) (own_l2 h1 h3), rfl⟩
set_option maxRecDepth 1000000 in
set_option maxHeartbeats 40000000 in
theorem own_os_0_2 (x0 x1 x2 x3 x4 x5 : Int32) (o0 o1 o2 : Int64) (y0 y1 y2 y3 y4 y5 : Int32) (v0 v1 v2 : Int64) : own_run own_P 58 11 290 0 (own_entry [.ref 8, .int (2 : Int32), .int (0 : Int32)] own_m58.ml) [] (own_HD0 x0 x1 x2 x3 x4 x5 o0 o1 o2 y0 y1 y2 y3 y4 y5 v0 v1 v2) (some (.long o2), (own_HD0 x0 x1 x2 x3 x4 x5 o0 o1 o2 y0 y1 y2 y3 y4 y5 v0 v1 v2)) := by
  refine own_ks_run ?_
  refine own_ks.go (mt := own_m58) rfl 3 (pc' := 3) (L' := [.val (.ref 8), .val (.int (2 : Int32)), .val (.int (0 : Int32))]) (S' := [.int (2 : Int32), .int (5 : Int32), .ref 8]) (H' := (own_HD0 x0 x1 x2 x3 x4 x5 o0 o1 o2 y0 y1 y2 y3 y4 y5 v0 v1 v2)) rfl ?_
  refine own_ks.into (mt := own_m58) (mj := own_m50) rfl (ins := .invokevirtual 51) (t := 6) (j := 50) (as := [.ref 8, .int (5 : Int32), .int (2 : Int32)]) (r' := []) (L' := [.val (.ref 8), .val (.int (5 : Int32)), .val (.int (2 : Int32)), .unset]) rfl rfl rfl rfl rfl rfl rfl rfl ?_
  refine own_ks.go (mt := own_m50) rfl 10 (pc' := 16) (L' := [.val (.ref 8), .val (.int (5 : Int32)), .val (.int (2 : Int32)), .unset]) (S' := [.int (lcmpW o2 (0 : Int64))]) (H' := (own_HD0 x0 x1 x2 x3 x4 x5 o0 o1 o2 y0 y1 y2 y3 y4 y5 v0 v1 v2)) rfl ?_
  by_cases h1 : (0 : Int32) < (lcmpW o2 (0 : Int64))
  · refine own_ks.br1 (mt := own_m50) rfl (cd := .le) (t := 47) (b := false) (pc' := 19) rfl ((if0 _ _).trans (tlt h1).2.2.2) rfl ?_
    refine own_ks.go (mt := own_m50) rfl 16 (pc' := 48) (L' := [.val (.ref 8), .val (.int (5 : Int32)), .val (.int (2 : Int32)), .unset]) (S' := [.long o2]) (H' := (own_HD0 x0 x1 x2 x3 x4 x5 o0 o1 o2 y0 y1 y2 y3 y4 y5 v0 v1 v2)) rfl ?_
    refine own_ks.back (mt := own_m50) rfl (ins := .lreturn) (t := 49) (v := some (.long o2)) (S2 := [.long o2]) rfl rfl rfl ?_
    refine own_ks.go (mt := own_m58) rfl 4 (pc' := 10) (L' := [.val (.ref 8), .val (.int (2 : Int32)), .val (.int (0 : Int32))]) (S' := [.int (0 : Int32), .int (2 : Int32), .int (2 : Int32), .ref 8, .long o2]) (H' := (own_HD0 x0 x1 x2 x3 x4 x5 o0 o1 o2 y0 y1 y2 y3 y4 y5 v0 v1 v2)) rfl ?_
    refine own_ks.into (mt := own_m58) (mj := own_m59) rfl (ins := .invokestatic 47) (t := 13) (j := 59) (as := [.int (2 : Int32), .int (0 : Int32)]) (r' := [.int (2 : Int32), .ref 8, .long o2]) (L' := [.val (.int (2 : Int32)), .val (.int (0 : Int32))]) rfl rfl rfl rfl rfl rfl rfl rfl ?_
    refine own_ks.go (mt := own_m59) rfl 6 (pc' := 14) (L' := [.val (.int (2 : Int32)), .val (.int (0 : Int32))]) (S' := [.int (0 : Int32)]) (H' := (own_HD0 x0 x1 x2 x3 x4 x5 o0 o1 o2 y0 y1 y2 y3 y4 y5 v0 v1 v2)) rfl ?_
    refine own_ks.back (mt := own_m59) rfl (ins := .ireturn) (t := 15) (v := some (.int (0 : Int32))) (S2 := [.int (0 : Int32), .int (2 : Int32), .ref 8, .long o2]) rfl rfl rfl ?_
    refine own_ks.into (mt := own_m58) (mj := own_m50) rfl (ins := .invokevirtual 51) (t := 16) (j := 50) (as := [.ref 8, .int (2 : Int32), .int (0 : Int32)]) (r' := [.long o2]) (L' := [.val (.ref 8), .val (.int (2 : Int32)), .val (.int (0 : Int32)), .unset]) rfl rfl rfl rfl rfl rfl rfl rfl ?_
    refine own_ks.go (mt := own_m50) rfl 32 (pc' := 104) (L' := [.val (.ref 8), .val (.int (2 : Int32)), .val (.int (0 : Int32)), .val (.int (4 : Int32))]) (S' := [.int (lcmpW o2 (0 : Int64))]) (H' := (own_HD0 x0 x1 x2 x3 x4 x5 o0 o1 o2 y0 y1 y2 y3 y4 y5 v0 v1 v2)) rfl ?_
    have h2 : ¬ ((lcmpW o2 (0 : Int64)) < (0 : Int32)) := by (have e0 : (0 : Int32).toInt = 0 := rfl; simp only [Int32.lt_iff_toInt_lt, e0] at *; omega)
    refine own_ks.br1 (mt := own_m50) rfl (cd := .ge) (t := 136) (b := true) (pc' := 136) rfl ((if0 _ _).trans (flt h2).2.1) rfl ?_
    refine own_ks.go (mt := own_m50) rfl 1 (pc' := 137) (L' := [.val (.ref 8), .val (.int (2 : Int32)), .val (.int (0 : Int32)), .val (.int (4 : Int32))]) (S' := [.long (0 : Int64)]) (H' := (own_HD0 x0 x1 x2 x3 x4 x5 o0 o1 o2 y0 y1 y2 y3 y4 y5 v0 v1 v2)) rfl ?_
    refine own_ks.back (mt := own_m50) rfl (ins := .lreturn) (t := 138) (v := some (.long (0 : Int64))) (S2 := [.long (0 : Int64), .long o2]) rfl rfl rfl ?_
    refine own_ks.go (mt := own_m58) rfl 1 (pc' := 17) (L' := [.val (.ref 8), .val (.int (2 : Int32)), .val (.int (0 : Int32))]) (S' := [.long (o2 - (0 : Int64))]) (H' := (own_HD0 x0 x1 x2 x3 x4 x5 o0 o1 o2 y0 y1 y2 y3 y4 y5 v0 v1 v2)) rfl ?_
    exact own_ks.ret (mt := own_m58) rfl (ins := .lreturn) (t := 18) (v := some (.long (o2 - (0 : Int64)))) rfl rfl ⟨congrArg (fun z => some (Value.long z)) (own_l0 o2), rfl⟩
  · refine own_ks.br1 (mt := own_m50) rfl (cd := .le) (t := 47) (b := true) (pc' := 47) rfl ((if0 _ _).trans (flt h1).2.2.2) rfl ?_
    refine own_ks.go (mt := own_m50) rfl 1 (pc' := 48) (L' := [.val (.ref 8), .val (.int (5 : Int32)), .val (.int (2 : Int32)), .unset]) (S' := [.long (0 : Int64)]) (H' := (own_HD0 x0 x1 x2 x3 x4 x5 o0 o1 o2 y0 y1 y2 y3 y4 y5 v0 v1 v2)) rfl ?_
    refine own_ks.back (mt := own_m50) rfl (ins := .lreturn) (t := 49) (v := some (.long (0 : Int64))) (S2 := [.long (0 : Int64)]) rfl rfl rfl ?_
    refine own_ks.go (mt := own_m58) rfl 4 (pc' := 10) (L' := [.val (.ref 8), .val (.int (2 : Int32)), .val (.int (0 : Int32))]) (S' := [.int (0 : Int32), .int (2 : Int32), .int (2 : Int32), .ref 8, .long (0 : Int64)]) (H' := (own_HD0 x0 x1 x2 x3 x4 x5 o0 o1 o2 y0 y1 y2 y3 y4 y5 v0 v1 v2)) rfl ?_
    refine own_ks.into (mt := own_m58) (mj := own_m59) rfl (ins := .invokestatic 47) (t := 13) (j := 59) (as := [.int (2 : Int32), .int (0 : Int32)]) (r' := [.int (2 : Int32), .ref 8, .long (0 : Int64)]) (L' := [.val (.int (2 : Int32)), .val (.int (0 : Int32))]) rfl rfl rfl rfl rfl rfl rfl rfl ?_
    refine own_ks.go (mt := own_m59) rfl 6 (pc' := 14) (L' := [.val (.int (2 : Int32)), .val (.int (0 : Int32))]) (S' := [.int (0 : Int32)]) (H' := (own_HD0 x0 x1 x2 x3 x4 x5 o0 o1 o2 y0 y1 y2 y3 y4 y5 v0 v1 v2)) rfl ?_
    refine own_ks.back (mt := own_m59) rfl (ins := .ireturn) (t := 15) (v := some (.int (0 : Int32))) (S2 := [.int (0 : Int32), .int (2 : Int32), .ref 8, .long (0 : Int64)]) rfl rfl rfl ?_
    refine own_ks.into (mt := own_m58) (mj := own_m50) rfl (ins := .invokevirtual 51) (t := 16) (j := 50) (as := [.ref 8, .int (2 : Int32), .int (0 : Int32)]) (r' := [.long (0 : Int64)]) (L' := [.val (.ref 8), .val (.int (2 : Int32)), .val (.int (0 : Int32)), .unset]) rfl rfl rfl rfl rfl rfl rfl rfl ?_
    refine own_ks.go (mt := own_m50) rfl 32 (pc' := 104) (L' := [.val (.ref 8), .val (.int (2 : Int32)), .val (.int (0 : Int32)), .val (.int (4 : Int32))]) (S' := [.int (lcmpW o2 (0 : Int64))]) (H' := (own_HD0 x0 x1 x2 x3 x4 x5 o0 o1 o2 y0 y1 y2 y3 y4 y5 v0 v1 v2)) rfl ?_
    by_cases h3 : (lcmpW o2 (0 : Int64)) < (0 : Int32)
    · refine own_ks.br1 (mt := own_m50) rfl (cd := .ge) (t := 136) (b := false) (pc' := 107) rfl ((if0 _ _).trans (tlt h3).2.1) rfl ?_
      refine own_ks.go (mt := own_m50) rfl 17 (pc' := 137) (L' := [.val (.ref 8), .val (.int (2 : Int32)), .val (.int (0 : Int32)), .val (.int (4 : Int32))]) (S' := [.long (-o2)]) (H' := (own_HD0 x0 x1 x2 x3 x4 x5 o0 o1 o2 y0 y1 y2 y3 y4 y5 v0 v1 v2)) rfl ?_
      refine own_ks.back (mt := own_m50) rfl (ins := .lreturn) (t := 138) (v := some (.long (-o2))) (S2 := [.long (-o2), .long (0 : Int64)]) rfl rfl rfl ?_
      refine own_ks.go (mt := own_m58) rfl 1 (pc' := 17) (L' := [.val (.ref 8), .val (.int (2 : Int32)), .val (.int (0 : Int32))]) (S' := [.long ((0 : Int64) - (-o2))]) (H' := (own_HD0 x0 x1 x2 x3 x4 x5 o0 o1 o2 y0 y1 y2 y3 y4 y5 v0 v1 v2)) rfl ?_
      exact own_ks.ret (mt := own_m58) rfl (ins := .lreturn) (t := 18) (v := some (.long ((0 : Int64) - (-o2)))) rfl rfl ⟨congrArg (fun z => some (Value.long z)) (own_l1 o2), rfl⟩
    · refine own_ks.br1 (mt := own_m50) rfl (cd := .ge) (t := 136) (b := true) (pc' := 136) rfl ((if0 _ _).trans (flt h3).2.1) rfl ?_
      refine own_ks.go (mt := own_m50) rfl 1 (pc' := 137) (L' := [.val (.ref 8), .val (.int (2 : Int32)), .val (.int (0 : Int32)), .val (.int (4 : Int32))]) (S' := [.long (0 : Int64)]) (H' := (own_HD0 x0 x1 x2 x3 x4 x5 o0 o1 o2 y0 y1 y2 y3 y4 y5 v0 v1 v2)) rfl ?_
      refine own_ks.back (mt := own_m50) rfl (ins := .lreturn) (t := 138) (v := some (.long (0 : Int64))) (S2 := [.long (0 : Int64), .long (0 : Int64)]) rfl rfl rfl ?_
      refine own_ks.go (mt := own_m58) rfl 1 (pc' := 17) (L' := [.val (.ref 8), .val (.int (2 : Int32)), .val (.int (0 : Int32))]) (S' := [.long (0 : Int64)]) (H' := (own_HD0 x0 x1 x2 x3 x4 x5 o0 o1 o2 y0 y1 y2 y3 y4 y5 v0 v1 v2)) rfl ?_
      exact own_ks.ret (mt := own_m58) rfl (ins := .lreturn) (t := 18) (v := some (.long (0 : Int64))) rfl rfl ⟨congrArg (fun z => some (Value.long z)) (own_l2 h1 h3), rfl⟩
set_option maxRecDepth 1000000 in
set_option maxHeartbeats 40000000 in
theorem own_hm0 (x0 x1 x2 x3 x4 x5 : Int32) (o0 o1 o2 : Int64) (y0 y1 y2 y3 y4 y5 : Int32) (v0 v1 v2 : Int64) : (own_HD0 x0 x1 x2 x3 x4 x5 o0 o1 o2 y0 y1 y2 y3 y4 y5 v0 v1 v2).map (own_cw own_P.2.1) = [2, 4, 6, 6, 6, 2, 3, 6, 78, 0, 0, 0, 0, 64, 64, 0, 0, 0, 0, 0, 0, 0, 0, 0, 0, 0, 0, 0, 0, 0, 0, 0, 0, 8, 8, 8, 8, 0, 0, 0, 0, 0, 0, 0, 0, 0, 0, 0, 0, 0, 0, 0, 0, 0, 0, 0, 0, 0, 0, 7, 3, 4, 4, 3, 3, 2, 2, 2, 2, 2, 2, 2, 2, 2, 2, 2, 2, 2, 2, 2, 2, 3, 3, 4, 4, 4, 4, 4, 4, 4, 7, 7, 7, 7, 7, 6, 3] := rfl
theorem own_hq0 (x0 x1 x2 x3 x4 x5 : Int32) (o0 o1 o2 : Int64) (y0 y1 y2 y3 y4 y5 : Int32) (v0 v1 v2 : Int64) : (own_HD0 x0 x1 x2 x3 x4 x5 o0 o1 o2 y0 y1 y2 y3 y4 y5 v0 v1 v2).length ≤ 208 ∧ own_w own_P.2.1 (own_HD0 x0 x1 x2 x3 x4 x5 o0 o1 o2 y0 y1 y2 y3 y4 y5 v0 v1 v2) ≤ 896 := by
  have h := own_hm0 x0 x1 x2 x3 x4 x5 o0 o1 o2 y0 y1 y2 y3 y4 y5 v0 v1 v2
  refine ⟨?_, ?_⟩
  · have e := congrArg List.length h
    rw [List.length_map] at e
    rw [e]
    decide
  · show (List.map (own_cw own_P.2.1) _).sum ≤ _
    rw [h]
    decide
set_option maxRecDepth 1000000 in
set_option maxHeartbeats 40000000 in
theorem own_t471_0 (a0 a1 a2 a3 a4 a5 : Int32) (k r c k2 r2 c2 : Int32) (x0 x1 x2 x3 x4 x5 : Int32) (o0 o1 o2 : Int64) : own_ks own_P (own_end own_P.2.1 208 896) [] 0 12 304 471 [.val (.int a0), .val (.int a1), .val (.int a2), .val (.int a3), .val (.int a4), .val (.int a5), .val (.int (0 : Int32)), .val (.int (1 : Int32)), .val (.int (2147483647 : Int32)), .val (.ref 0), .val (.ref 1), .val (.ref 2), .val (.ref 3), .val (.ref 4), .val (.ref 5), .val (.ref 6), .val (.ref 7), .val (.ref 8), .val (.ref 95), .val (.ref 96), .val (.int k), .val (.int r), .val (.int c), .val (.int k2), .val (.int r2), .val (.int c2), .unset] [] (own_HD0 x0 x1 x2 x3 x4 x5 o0 o1 o2 x0 x1 x2 x3 x4 x5 o0 o1 o2) := by
  refine own_ks.go (mt := own_m0) rfl 6 (pc' := 479) (L' := [.val (.int a0), .val (.int a1), .val (.int a2), .val (.int a3), .val (.int a4), .val (.int a5), .val (.int (0 : Int32)), .val (.int (1 : Int32)), .val (.int (2147483647 : Int32)), .val (.ref 0), .val (.ref 1), .val (.ref 2), .val (.ref 3), .val (.ref 4), .val (.ref 5), .val (.ref 6), .val (.ref 7), .val (.ref 8), .val (.ref 95), .val (.ref 96), .val (.int k), .val (.int r), .val (.int c), .val (.int k2), .val (.int r2), .val (.int c2), .unset]) (S' := [.int x0, .int x0]) (H' := (own_HD0 x0 x1 x2 x3 x4 x5 o0 o1 o2 x0 x1 x2 x3 x4 x5 o0 o1 o2)) rfl ?_
  have h1 : x0 = x0 := by first | exact (lw_eq _ _).mpr rfl | rfl
  refine own_ks.br2 (mt := own_m0) rfl (cd := .ne) (t := 541) (b := false) (pc' := 482) rfl (teq h1).2 rfl ?_
  refine own_ks.go (mt := own_m0) rfl 6 (pc' := 490) (L' := [.val (.int a0), .val (.int a1), .val (.int a2), .val (.int a3), .val (.int a4), .val (.int a5), .val (.int (0 : Int32)), .val (.int (1 : Int32)), .val (.int (2147483647 : Int32)), .val (.ref 0), .val (.ref 1), .val (.ref 2), .val (.ref 3), .val (.ref 4), .val (.ref 5), .val (.ref 6), .val (.ref 7), .val (.ref 8), .val (.ref 95), .val (.ref 96), .val (.int k), .val (.int r), .val (.int c), .val (.int k2), .val (.int r2), .val (.int c2), .unset]) (S' := [.int x1, .int x1]) (H' := (own_HD0 x0 x1 x2 x3 x4 x5 o0 o1 o2 x0 x1 x2 x3 x4 x5 o0 o1 o2)) rfl ?_
  have h2 : x1 = x1 := by first | exact (lw_eq _ _).mpr rfl | rfl
  refine own_ks.br2 (mt := own_m0) rfl (cd := .ne) (t := 541) (b := false) (pc' := 493) rfl (teq h2).2 rfl ?_
  refine own_ks.go (mt := own_m0) rfl 6 (pc' := 501) (L' := [.val (.int a0), .val (.int a1), .val (.int a2), .val (.int a3), .val (.int a4), .val (.int a5), .val (.int (0 : Int32)), .val (.int (1 : Int32)), .val (.int (2147483647 : Int32)), .val (.ref 0), .val (.ref 1), .val (.ref 2), .val (.ref 3), .val (.ref 4), .val (.ref 5), .val (.ref 6), .val (.ref 7), .val (.ref 8), .val (.ref 95), .val (.ref 96), .val (.int k), .val (.int r), .val (.int c), .val (.int k2), .val (.int r2), .val (.int c2), .unset]) (S' := [.int x2, .int x2]) (H' := (own_HD0 x0 x1 x2 x3 x4 x5 o0 o1 o2 x0 x1 x2 x3 x4 x5 o0 o1 o2)) rfl ?_
  have h3 : x2 = x2 := by first | exact (lw_eq _ _).mpr rfl | rfl
  refine own_ks.br2 (mt := own_m0) rfl (cd := .ne) (t := 541) (b := false) (pc' := 504) rfl (teq h3).2 rfl ?_
  refine own_ks.go (mt := own_m0) rfl 6 (pc' := 512) (L' := [.val (.int a0), .val (.int a1), .val (.int a2), .val (.int a3), .val (.int a4), .val (.int a5), .val (.int (0 : Int32)), .val (.int (1 : Int32)), .val (.int (2147483647 : Int32)), .val (.ref 0), .val (.ref 1), .val (.ref 2), .val (.ref 3), .val (.ref 4), .val (.ref 5), .val (.ref 6), .val (.ref 7), .val (.ref 8), .val (.ref 95), .val (.ref 96), .val (.int k), .val (.int r), .val (.int c), .val (.int k2), .val (.int r2), .val (.int c2), .unset]) (S' := [.int x3, .int x3]) (H' := (own_HD0 x0 x1 x2 x3 x4 x5 o0 o1 o2 x0 x1 x2 x3 x4 x5 o0 o1 o2)) rfl ?_
  have h4 : x3 = x3 := by first | exact (lw_eq _ _).mpr rfl | rfl
  refine own_ks.br2 (mt := own_m0) rfl (cd := .ne) (t := 541) (b := false) (pc' := 515) rfl (teq h4).2 rfl ?_
  refine own_ks.go (mt := own_m0) rfl 6 (pc' := 523) (L' := [.val (.int a0), .val (.int a1), .val (.int a2), .val (.int a3), .val (.int a4), .val (.int a5), .val (.int (0 : Int32)), .val (.int (1 : Int32)), .val (.int (2147483647 : Int32)), .val (.ref 0), .val (.ref 1), .val (.ref 2), .val (.ref 3), .val (.ref 4), .val (.ref 5), .val (.ref 6), .val (.ref 7), .val (.ref 8), .val (.ref 95), .val (.ref 96), .val (.int k), .val (.int r), .val (.int c), .val (.int k2), .val (.int r2), .val (.int c2), .unset]) (S' := [.int x4, .int x4]) (H' := (own_HD0 x0 x1 x2 x3 x4 x5 o0 o1 o2 x0 x1 x2 x3 x4 x5 o0 o1 o2)) rfl ?_
  have h5 : x4 = x4 := by first | exact (lw_eq _ _).mpr rfl | rfl
  refine own_ks.br2 (mt := own_m0) rfl (cd := .ne) (t := 541) (b := false) (pc' := 526) rfl (teq h5).2 rfl ?_
  refine own_ks.go (mt := own_m0) rfl 6 (pc' := 534) (L' := [.val (.int a0), .val (.int a1), .val (.int a2), .val (.int a3), .val (.int a4), .val (.int a5), .val (.int (0 : Int32)), .val (.int (1 : Int32)), .val (.int (2147483647 : Int32)), .val (.ref 0), .val (.ref 1), .val (.ref 2), .val (.ref 3), .val (.ref 4), .val (.ref 5), .val (.ref 6), .val (.ref 7), .val (.ref 8), .val (.ref 95), .val (.ref 96), .val (.int k), .val (.int r), .val (.int c), .val (.int k2), .val (.int r2), .val (.int c2), .unset]) (S' := [.int x5, .int x5]) (H' := (own_HD0 x0 x1 x2 x3 x4 x5 o0 o1 o2 x0 x1 x2 x3 x4 x5 o0 o1 o2)) rfl ?_
  have h6 : x5 = x5 := by first | exact (lw_eq _ _).mpr rfl | rfl
  refine own_ks.br2 (mt := own_m0) rfl (cd := .ne) (t := 541) (b := false) (pc' := 537) rfl (teq h6).2 rfl ?_
  refine own_ks.go (mt := own_m0) rfl 8 (pc' := 554) (L' := [.val (.int a0), .val (.int a1), .val (.int a2), .val (.int a3), .val (.int a4), .val (.int a5), .val (.int (0 : Int32)), .val (.int (1 : Int32)), .val (.int (2147483647 : Int32)), .val (.ref 0), .val (.ref 1), .val (.ref 2), .val (.ref 3), .val (.ref 4), .val (.ref 5), .val (.ref 6), .val (.ref 7), .val (.ref 8), .val (.ref 95), .val (.ref 96), .val (.int k), .val (.int r), .val (.int c), .val (.int k2), .val (.int r2), .val (.int c2), .val (.int (1 : Int32))]) (S' := [.int (0 : Int32), .int (0 : Int32), .ref 8]) (H' := (own_HD0 x0 x1 x2 x3 x4 x5 o0 o1 o2 x0 x1 x2 x3 x4 x5 o0 o1 o2)) rfl ?_
  refine own_ks.call (mt := own_m0) (mj := own_m58) rfl (ins := .invokestatic 43) (t := 557) (j := 58) (as := [.ref 8, .int (0 : Int32), .int (0 : Int32)]) (r' := []) (v := some (.long o0)) (H' := (own_HD0 x0 x1 x2 x3 x4 x5 o0 o1 o2 x0 x1 x2 x3 x4 x5 o0 o1 o2)) (S' := [.long o0]) rfl rfl rfl rfl rfl (own_os_0_0 x0 x1 x2 x3 x4 x5 o0 o1 o2 x0 x1 x2 x3 x4 x5 o0 o1 o2) rfl ?_
  refine own_ks.go (mt := own_m0) rfl 4 (pc' := 562) (L' := [.val (.int a0), .val (.int a1), .val (.int a2), .val (.int a3), .val (.int a4), .val (.int a5), .val (.int (0 : Int32)), .val (.int (1 : Int32)), .val (.int (2147483647 : Int32)), .val (.ref 0), .val (.ref 1), .val (.ref 2), .val (.ref 3), .val (.ref 4), .val (.ref 5), .val (.ref 6), .val (.ref 7), .val (.ref 8), .val (.ref 95), .val (.ref 96), .val (.int k), .val (.int r), .val (.int c), .val (.int k2), .val (.int r2), .val (.int c2), .val (.int (1 : Int32))]) (S' := [.int (lcmpW o0 o0)]) (H' := (own_HD0 x0 x1 x2 x3 x4 x5 o0 o1 o2 x0 x1 x2 x3 x4 x5 o0 o1 o2)) rfl ?_
  have h7 : (lcmpW o0 o0) = (0 : Int32) := by first | exact (lw_eq _ _).mpr rfl | rfl
  refine own_ks.br1 (mt := own_m0) rfl (cd := .ne) (t := 601) (b := false) (pc' := 565) rfl ((if0 _ _).trans (teq h7).2) rfl ?_
  refine own_ks.go (mt := own_m0) rfl 3 (pc' := 570) (L' := [.val (.int a0), .val (.int a1), .val (.int a2), .val (.int a3), .val (.int a4), .val (.int a5), .val (.int (0 : Int32)), .val (.int (1 : Int32)), .val (.int (2147483647 : Int32)), .val (.ref 0), .val (.ref 1), .val (.ref 2), .val (.ref 3), .val (.ref 4), .val (.ref 5), .val (.ref 6), .val (.ref 7), .val (.ref 8), .val (.ref 95), .val (.ref 96), .val (.int k), .val (.int r), .val (.int c), .val (.int k2), .val (.int r2), .val (.int c2), .val (.int (1 : Int32))]) (S' := [.int (0 : Int32), .int (1 : Int32), .ref 8]) (H' := (own_HD0 x0 x1 x2 x3 x4 x5 o0 o1 o2 x0 x1 x2 x3 x4 x5 o0 o1 o2)) rfl ?_
  refine own_ks.call (mt := own_m0) (mj := own_m58) rfl (ins := .invokestatic 43) (t := 573) (j := 58) (as := [.ref 8, .int (1 : Int32), .int (0 : Int32)]) (r' := []) (v := some (.long o1)) (H' := (own_HD0 x0 x1 x2 x3 x4 x5 o0 o1 o2 x0 x1 x2 x3 x4 x5 o0 o1 o2)) (S' := [.long o1]) rfl rfl rfl rfl rfl (own_os_0_1 x0 x1 x2 x3 x4 x5 o0 o1 o2 x0 x1 x2 x3 x4 x5 o0 o1 o2) rfl ?_
  refine own_ks.go (mt := own_m0) rfl 4 (pc' := 578) (L' := [.val (.int a0), .val (.int a1), .val (.int a2), .val (.int a3), .val (.int a4), .val (.int a5), .val (.int (0 : Int32)), .val (.int (1 : Int32)), .val (.int (2147483647 : Int32)), .val (.ref 0), .val (.ref 1), .val (.ref 2), .val (.ref 3), .val (.ref 4), .val (.ref 5), .val (.ref 6), .val (.ref 7), .val (.ref 8), .val (.ref 95), .val (.ref 96), .val (.int k), .val (.int r), .val (.int c), .val (.int k2), .val (.int r2), .val (.int c2), .val (.int (1 : Int32))]) (S' := [.int (lcmpW o1 o1)]) (H' := (own_HD0 x0 x1 x2 x3 x4 x5 o0 o1 o2 x0 x1 x2 x3 x4 x5 o0 o1 o2)) rfl ?_
  have h8 : (lcmpW o1 o1) = (0 : Int32) := by first | exact (lw_eq _ _).mpr rfl | rfl
  refine own_ks.br1 (mt := own_m0) rfl (cd := .ne) (t := 601) (b := false) (pc' := 581) rfl ((if0 _ _).trans (teq h8).2) rfl ?_
  refine own_ks.go (mt := own_m0) rfl 3 (pc' := 586) (L' := [.val (.int a0), .val (.int a1), .val (.int a2), .val (.int a3), .val (.int a4), .val (.int a5), .val (.int (0 : Int32)), .val (.int (1 : Int32)), .val (.int (2147483647 : Int32)), .val (.ref 0), .val (.ref 1), .val (.ref 2), .val (.ref 3), .val (.ref 4), .val (.ref 5), .val (.ref 6), .val (.ref 7), .val (.ref 8), .val (.ref 95), .val (.ref 96), .val (.int k), .val (.int r), .val (.int c), .val (.int k2), .val (.int r2), .val (.int c2), .val (.int (1 : Int32))]) (S' := [.int (0 : Int32), .int (2 : Int32), .ref 8]) (H' := (own_HD0 x0 x1 x2 x3 x4 x5 o0 o1 o2 x0 x1 x2 x3 x4 x5 o0 o1 o2)) rfl ?_
  refine own_ks.call (mt := own_m0) (mj := own_m58) rfl (ins := .invokestatic 43) (t := 589) (j := 58) (as := [.ref 8, .int (2 : Int32), .int (0 : Int32)]) (r' := []) (v := some (.long o2)) (H' := (own_HD0 x0 x1 x2 x3 x4 x5 o0 o1 o2 x0 x1 x2 x3 x4 x5 o0 o1 o2)) (S' := [.long o2]) rfl rfl rfl rfl rfl (own_os_0_2 x0 x1 x2 x3 x4 x5 o0 o1 o2 x0 x1 x2 x3 x4 x5 o0 o1 o2) rfl ?_
  refine own_ks.go (mt := own_m0) rfl 4 (pc' := 594) (L' := [.val (.int a0), .val (.int a1), .val (.int a2), .val (.int a3), .val (.int a4), .val (.int a5), .val (.int (0 : Int32)), .val (.int (1 : Int32)), .val (.int (2147483647 : Int32)), .val (.ref 0), .val (.ref 1), .val (.ref 2), .val (.ref 3), .val (.ref 4), .val (.ref 5), .val (.ref 6), .val (.ref 7), .val (.ref 8), .val (.ref 95), .val (.ref 96), .val (.int k), .val (.int r), .val (.int c), .val (.int k2), .val (.int r2), .val (.int c2), .val (.int (1 : Int32))]) (S' := [.int (lcmpW o2 o2)]) (H' := (own_HD0 x0 x1 x2 x3 x4 x5 o0 o1 o2 x0 x1 x2 x3 x4 x5 o0 o1 o2)) rfl ?_
  have h9 : (lcmpW o2 o2) = (0 : Int32) := by first | exact (lw_eq _ _).mpr rfl | rfl
  refine own_ks.br1 (mt := own_m0) rfl (cd := .ne) (t := 601) (b := false) (pc' := 597) rfl ((if0 _ _).trans (teq h9).2) rfl ?_
  refine own_ks.go (mt := own_m0) rfl 2 (pc' := 602) (L' := [.val (.int a0), .val (.int a1), .val (.int a2), .val (.int a3), .val (.int a4), .val (.int a5), .val (.int (0 : Int32)), .val (.int (1 : Int32)), .val (.int (2147483647 : Int32)), .val (.ref 0), .val (.ref 1), .val (.ref 2), .val (.ref 3), .val (.ref 4), .val (.ref 5), .val (.ref 6), .val (.ref 7), .val (.ref 8), .val (.ref 95), .val (.ref 96), .val (.int k), .val (.int r), .val (.int c), .val (.int k2), .val (.int r2), .val (.int c2), .val (.int (1 : Int32))]) (S' := [.int (1 : Int32)]) (H' := (own_HD0 x0 x1 x2 x3 x4 x5 o0 o1 o2 x0 x1 x2 x3 x4 x5 o0 o1 o2)) rfl ?_
  exact own_ks.ret (mt := own_m0) rfl (ins := .ireturn) (t := 603) (v := some (.int (1 : Int32))) rfl rfl ⟨rfl, own_hq0 x0 x1 x2 x3 x4 x5 o0 o1 o2 x0 x1 x2 x3 x4 x5 o0 o1 o2⟩
set_option maxRecDepth 1000000 in
set_option maxHeartbeats 40000000 in
theorem own_t407_0 (a0 a1 a2 a3 a4 a5 : Int32) (k r c : Int32) (x0 x1 x2 x3 x4 x5 : Int32) (o0 o1 o2 : Int64) : own_ks own_P (own_end own_P.2.1 208 896) [] 0 12 304 407 [.val (.int a0), .val (.int a1), .val (.int a2), .val (.int a3), .val (.int a4), .val (.int a5), .val (.int (0 : Int32)), .val (.int (1 : Int32)), .val (.int (2147483647 : Int32)), .val (.ref 0), .val (.ref 1), .val (.ref 2), .val (.ref 3), .val (.ref 4), .val (.ref 5), .val (.ref 6), .val (.ref 7), .val (.ref 8), .val (.ref 95), .val (.ref 96), .val (.int k), .val (.int r), .val (.int c), .unset, .unset, .unset, .unset] [] (own_HD0 x0 x1 x2 x3 x4 x5 o0 o1 o2 x0 x1 x2 x3 x4 x5 o0 o1 o2) := by
  have s0 := c_mask a3 3 2 (by decide) (by decide)
  have s1 := c_mask (a3.toUInt32 >>> ((2 : Int32) &&& 31).toUInt32).toInt32 1 1 (by decide) (by decide)
  refine own_ks.go (mt := own_m0) rfl 13 (pc' := 424) (L' := [.val (.int a0), .val (.int a1), .val (.int a2), .val (.int a3), .val (.int a4), .val (.int a5), .val (.int (0 : Int32)), .val (.int (1 : Int32)), .val (.int (2147483647 : Int32)), .val (.ref 0), .val (.ref 1), .val (.ref 2), .val (.ref 3), .val (.ref 4), .val (.ref 5), .val (.ref 6), .val (.ref 7), .val (.ref 8), .val (.ref 95), .val (.ref 96), .val (.int k), .val (.int r), .val (.int c), .val (.int (a3 &&& (3 : Int32))), .val (.int ((a3.toUInt32 >>> ((2 : Int32) &&& 31).toUInt32).toInt32 &&& (1 : Int32))), .unset, .unset]) (S' := [.int (0 : Int32), .int a3, .int (a3 &&& (3 : Int32))]) (H' := (own_HD0 x0 x1 x2 x3 x4 x5 o0 o1 o2 x0 x1 x2 x3 x4 x5 o0 o1 o2)) rfl ?_
  generalize (a3 &&& (3 : Int32)) = k2 at *
  generalize ((a3.toUInt32 >>> ((2 : Int32) &&& 31).toUInt32).toInt32 &&& (1 : Int32)) = r2 at *
  have e0 : (0 : Int32).toInt = 0 := rfl
  have e1 : (1 : Int32).toInt = 1 := rfl
  have e2 : (2 : Int32).toInt = 2 := rfl
  have e3 : (3 : Int32).toInt = 3 := rfl
  have hk : k2 = 0 ∨ k2 = 1 ∨ k2 = 2 ∨ k2 = 3 := by simp only [← Int32.toInt_inj, e0, e1, e2, e3]; omega
  have hr : r2 = 0 ∨ r2 = 1 := by simp only [← Int32.toInt_inj, e0, e1]; omega
  clear s0 s1 e0 e1 e2 e3
  rcases hk with rfl | rfl | rfl | rfl
  · obtain ⟨c2, hc, hcol⟩ := own_col_0_0 a3 (own_HD0 x0 x1 x2 x3 x4 x5 o0 o1 o2 x0 x1 x2 x3 x4 x5 o0 o1 o2)
    refine own_ks.call (mt := own_m0) (mj := own_m53) rfl (ins := .invokestatic 21) (t := 427) (j := 53) (as := [.int (0 : Int32), .int a3, .int (0 : Int32)]) (r' := []) (v := some (.int c2)) (H' := (own_HD0 x0 x1 x2 x3 x4 x5 o0 o1 o2 x0 x1 x2 x3 x4 x5 o0 o1 o2)) (S' := [.int c2]) rfl rfl rfl rfl rfl hcol rfl ?_
    refine own_ks.go (mt := own_m0) rfl 1 (pc' := 429) (L' := [.val (.int a0), .val (.int a1), .val (.int a2), .val (.int a3), .val (.int a4), .val (.int a5), .val (.int (0 : Int32)), .val (.int (1 : Int32)), .val (.int (2147483647 : Int32)), .val (.ref 0), .val (.ref 1), .val (.ref 2), .val (.ref 3), .val (.ref 4), .val (.ref 5), .val (.ref 6), .val (.ref 7), .val (.ref 8), .val (.ref 95), .val (.ref 96), .val (.int k), .val (.int r), .val (.int c), .val (.int (0 : Int32)), .val (.int r2), .val (.int c2), .unset]) (S' := []) (H' := (own_HD0 x0 x1 x2 x3 x4 x5 o0 o1 o2 x0 x1 x2 x3 x4 x5 o0 o1 o2)) rfl ?_
    rcases hc with rfl | rfl | rfl <;> rcases hr with rfl | rfl
    · exact own_mvB_0 a0 a1 a2 a3 a4 a5 k r c 5 0 0 0 0 (own_HD0 x0 x1 x2 x3 x4 x5 o0 o1 o2 x0 x1 x2 x3 x4 x5 o0 o1 o2) (own_HD0 x0 x1 x2 x3 x4 x5 (o0 - a4.toInt64) o1 o2 x0 x1 x2 x3 x4 x5 o0 o1 o2) (own_HD0 x0 x1 x2 x3 x4 x5 (o0 - a4.toInt64) o1 o2 x0 x1 x2 x3 x4 x5 (o0 - a4.toInt64) o1 o2) (own_run.fuel 40 rfl) (own_run.fuel 40 rfl) rfl (own_mv_0_0_0_0 a4 x0 x1 x2 x3 x4 x5 o0 o1 o2 x0 x1 x2 x3 x4 x5 o0 o1 o2) (own_ap_0_0_0_0 a4 x0 x1 x2 x3 x4 x5 (o0 - a4.toInt64) o1 o2 x0 x1 x2 x3 x4 x5 o0 o1 o2) (own_t471_0 a0 a1 a2 a3 a4 a5 k r c 0 0 0 x0 x1 x2 x3 x4 x5 (o0 - a4.toInt64) o1 o2)
    · exact own_mvB_0 a0 a1 a2 a3 a4 a5 k r c 5 0 0 1 0 (own_HD0 x0 x1 x2 x3 x4 x5 o0 o1 o2 x0 x1 x2 x3 x4 x5 o0 o1 o2) (own_HD0 x0 x1 x2 x3 x4 x5 (o0 - a4.toInt64) o1 o2 x0 x1 x2 x3 x4 x5 o0 o1 o2) (own_HD0 x0 x1 x2 x3 x4 x5 (o0 - a4.toInt64) o1 o2 x0 x1 x2 x3 x4 x5 (o0 - a4.toInt64) o1 o2) (own_run.fuel 40 rfl) (own_run.fuel 40 rfl) rfl (own_mv_0_0_0_1 a4 x0 x1 x2 x3 x4 x5 o0 o1 o2 x0 x1 x2 x3 x4 x5 o0 o1 o2) (own_ap_0_0_0_1 a4 x0 x1 x2 x3 x4 x5 (o0 - a4.toInt64) o1 o2 x0 x1 x2 x3 x4 x5 o0 o1 o2) (own_t471_0 a0 a1 a2 a3 a4 a5 k r c 0 1 0 x0 x1 x2 x3 x4 x5 (o0 - a4.toInt64) o1 o2)
    · exact own_mvB_0 a0 a1 a2 a3 a4 a5 k r c 5 1 0 0 1 (own_HD0 x0 x1 x2 x3 x4 x5 o0 o1 o2 x0 x1 x2 x3 x4 x5 o0 o1 o2) (own_HD0 x0 x1 x2 x3 x4 x5 o0 (o1 - a4.toInt64) o2 x0 x1 x2 x3 x4 x5 o0 o1 o2) (own_HD0 x0 x1 x2 x3 x4 x5 o0 (o1 - a4.toInt64) o2 x0 x1 x2 x3 x4 x5 o0 (o1 - a4.toInt64) o2) (own_run.fuel 40 rfl) (own_run.fuel 40 rfl) rfl (own_mv_0_0_1_0 a4 x0 x1 x2 x3 x4 x5 o0 o1 o2 x0 x1 x2 x3 x4 x5 o0 o1 o2) (own_ap_0_0_1_0 a4 x0 x1 x2 x3 x4 x5 o0 (o1 - a4.toInt64) o2 x0 x1 x2 x3 x4 x5 o0 o1 o2) (own_t471_0 a0 a1 a2 a3 a4 a5 k r c 0 0 1 x0 x1 x2 x3 x4 x5 o0 (o1 - a4.toInt64) o2)
    · exact own_mvB_0 a0 a1 a2 a3 a4 a5 k r c 5 1 0 1 1 (own_HD0 x0 x1 x2 x3 x4 x5 o0 o1 o2 x0 x1 x2 x3 x4 x5 o0 o1 o2) (own_HD0 x0 x1 x2 x3 x4 x5 o0 (o1 - a4.toInt64) o2 x0 x1 x2 x3 x4 x5 o0 o1 o2) (own_HD0 x0 x1 x2 x3 x4 x5 o0 (o1 - a4.toInt64) o2 x0 x1 x2 x3 x4 x5 o0 (o1 - a4.toInt64) o2) (own_run.fuel 40 rfl) (own_run.fuel 40 rfl) rfl (own_mv_0_0_1_1 a4 x0 x1 x2 x3 x4 x5 o0 o1 o2 x0 x1 x2 x3 x4 x5 o0 o1 o2) (own_ap_0_0_1_1 a4 x0 x1 x2 x3 x4 x5 o0 (o1 - a4.toInt64) o2 x0 x1 x2 x3 x4 x5 o0 o1 o2) (own_t471_0 a0 a1 a2 a3 a4 a5 k r c 0 1 1 x0 x1 x2 x3 x4 x5 o0 (o1 - a4.toInt64) o2)
    · exact own_mvB_0 a0 a1 a2 a3 a4 a5 k r c 5 2 0 0 2 (own_HD0 x0 x1 x2 x3 x4 x5 o0 o1 o2 x0 x1 x2 x3 x4 x5 o0 o1 o2) (own_HD0 x0 x1 x2 x3 x4 x5 o0 o1 (o2 - a4.toInt64) x0 x1 x2 x3 x4 x5 o0 o1 o2) (own_HD0 x0 x1 x2 x3 x4 x5 o0 o1 (o2 - a4.toInt64) x0 x1 x2 x3 x4 x5 o0 o1 (o2 - a4.toInt64)) (own_run.fuel 40 rfl) (own_run.fuel 40 rfl) rfl (own_mv_0_0_2_0 a4 x0 x1 x2 x3 x4 x5 o0 o1 o2 x0 x1 x2 x3 x4 x5 o0 o1 o2) (own_ap_0_0_2_0 a4 x0 x1 x2 x3 x4 x5 o0 o1 (o2 - a4.toInt64) x0 x1 x2 x3 x4 x5 o0 o1 o2) (own_t471_0 a0 a1 a2 a3 a4 a5 k r c 0 0 2 x0 x1 x2 x3 x4 x5 o0 o1 (o2 - a4.toInt64))
    · exact own_mvB_0 a0 a1 a2 a3 a4 a5 k r c 5 2 0 1 2 (own_HD0 x0 x1 x2 x3 x4 x5 o0 o1 o2 x0 x1 x2 x3 x4 x5 o0 o1 o2) (own_HD0 x0 x1 x2 x3 x4 x5 o0 o1 (o2 - a4.toInt64) x0 x1 x2 x3 x4 x5 o0 o1 o2) (own_HD0 x0 x1 x2 x3 x4 x5 o0 o1 (o2 - a4.toInt64) x0 x1 x2 x3 x4 x5 o0 o1 (o2 - a4.toInt64)) (own_run.fuel 40 rfl) (own_run.fuel 40 rfl) rfl (own_mv_0_0_2_1 a4 x0 x1 x2 x3 x4 x5 o0 o1 o2 x0 x1 x2 x3 x4 x5 o0 o1 o2) (own_ap_0_0_2_1 a4 x0 x1 x2 x3 x4 x5 o0 o1 (o2 - a4.toInt64) x0 x1 x2 x3 x4 x5 o0 o1 o2) (own_t471_0 a0 a1 a2 a3 a4 a5 k r c 0 1 2 x0 x1 x2 x3 x4 x5 o0 o1 (o2 - a4.toInt64))
  · obtain ⟨c2, hc, hcol⟩ := own_col_0_1 a3 (own_HD0 x0 x1 x2 x3 x4 x5 o0 o1 o2 x0 x1 x2 x3 x4 x5 o0 o1 o2)
    refine own_ks.call (mt := own_m0) (mj := own_m53) rfl (ins := .invokestatic 21) (t := 427) (j := 53) (as := [.int (1 : Int32), .int a3, .int (0 : Int32)]) (r' := []) (v := some (.int c2)) (H' := (own_HD0 x0 x1 x2 x3 x4 x5 o0 o1 o2 x0 x1 x2 x3 x4 x5 o0 o1 o2)) (S' := [.int c2]) rfl rfl rfl rfl rfl hcol rfl ?_
    refine own_ks.go (mt := own_m0) rfl 1 (pc' := 429) (L' := [.val (.int a0), .val (.int a1), .val (.int a2), .val (.int a3), .val (.int a4), .val (.int a5), .val (.int (0 : Int32)), .val (.int (1 : Int32)), .val (.int (2147483647 : Int32)), .val (.ref 0), .val (.ref 1), .val (.ref 2), .val (.ref 3), .val (.ref 4), .val (.ref 5), .val (.ref 6), .val (.ref 7), .val (.ref 8), .val (.ref 95), .val (.ref 96), .val (.int k), .val (.int r), .val (.int c), .val (.int (1 : Int32)), .val (.int r2), .val (.int c2), .unset]) (S' := []) (H' := (own_HD0 x0 x1 x2 x3 x4 x5 o0 o1 o2 x0 x1 x2 x3 x4 x5 o0 o1 o2)) rfl ?_
    rcases hc with rfl | rfl <;> rcases hr with rfl | rfl
    · exact own_mvB_0 a0 a1 a2 a3 a4 a5 k r c 0 0 1 0 0 (own_HD0 x0 x1 x2 x3 x4 x5 o0 o1 o2 x0 x1 x2 x3 x4 x5 o0 o1 o2) (own_HD0 (x0 + a4) x1 x2 x3 x4 x5 o0 o1 o2 x0 x1 x2 x3 x4 x5 o0 o1 o2) (own_HD0 (x0 + a4) x1 x2 x3 x4 x5 o0 o1 o2 (x0 + a4) x1 x2 x3 x4 x5 o0 o1 o2) (own_run.fuel 40 rfl) (own_run.fuel 40 rfl) rfl (own_mv_0_1_0_0 a4 x0 x1 x2 x3 x4 x5 o0 o1 o2 x0 x1 x2 x3 x4 x5 o0 o1 o2) (own_ap_0_1_0_0 a4 (x0 + a4) x1 x2 x3 x4 x5 o0 o1 o2 x0 x1 x2 x3 x4 x5 o0 o1 o2) (own_t471_0 a0 a1 a2 a3 a4 a5 k r c 1 0 0 (x0 + a4) x1 x2 x3 x4 x5 o0 o1 o2)
    · exact own_mvB_0 a0 a1 a2 a3 a4 a5 k r c 0 1 1 1 0 (own_HD0 x0 x1 x2 x3 x4 x5 o0 o1 o2 x0 x1 x2 x3 x4 x5 o0 o1 o2) (own_HD0 x0 (x1 + a4) x2 x3 x4 x5 o0 o1 o2 x0 x1 x2 x3 x4 x5 o0 o1 o2) (own_HD0 x0 (x1 + a4) x2 x3 x4 x5 o0 o1 o2 x0 (x1 + a4) x2 x3 x4 x5 o0 o1 o2) (own_run.fuel 40 rfl) (own_run.fuel 40 rfl) rfl (own_mv_0_1_0_1 a4 x0 x1 x2 x3 x4 x5 o0 o1 o2 x0 x1 x2 x3 x4 x5 o0 o1 o2) (own_ap_0_1_0_1 a4 x0 (x1 + a4) x2 x3 x4 x5 o0 o1 o2 x0 x1 x2 x3 x4 x5 o0 o1 o2) (own_t471_0 a0 a1 a2 a3 a4 a5 k r c 1 1 0 x0 (x1 + a4) x2 x3 x4 x5 o0 o1 o2)
    · exact own_mvB_0 a0 a1 a2 a3 a4 a5 k r c 1 0 1 0 1 (own_HD0 x0 x1 x2 x3 x4 x5 o0 o1 o2 x0 x1 x2 x3 x4 x5 o0 o1 o2) (own_HD0 x0 x1 (x2 + a4) x3 x4 x5 o0 o1 o2 x0 x1 x2 x3 x4 x5 o0 o1 o2) (own_HD0 x0 x1 (x2 + a4) x3 x4 x5 o0 o1 o2 x0 x1 (x2 + a4) x3 x4 x5 o0 o1 o2) (own_run.fuel 40 rfl) (own_run.fuel 40 rfl) rfl (own_mv_0_1_1_0 a4 x0 x1 x2 x3 x4 x5 o0 o1 o2 x0 x1 x2 x3 x4 x5 o0 o1 o2) (own_ap_0_1_1_0 a4 x0 x1 (x2 + a4) x3 x4 x5 o0 o1 o2 x0 x1 x2 x3 x4 x5 o0 o1 o2) (own_t471_0 a0 a1 a2 a3 a4 a5 k r c 1 0 1 x0 x1 (x2 + a4) x3 x4 x5 o0 o1 o2)
    · exact own_mvB_0 a0 a1 a2 a3 a4 a5 k r c 1 1 1 1 1 (own_HD0 x0 x1 x2 x3 x4 x5 o0 o1 o2 x0 x1 x2 x3 x4 x5 o0 o1 o2) (own_HD0 x0 x1 x2 (x3 + a4) x4 x5 o0 o1 o2 x0 x1 x2 x3 x4 x5 o0 o1 o2) (own_HD0 x0 x1 x2 (x3 + a4) x4 x5 o0 o1 o2 x0 x1 x2 (x3 + a4) x4 x5 o0 o1 o2) (own_run.fuel 40 rfl) (own_run.fuel 40 rfl) rfl (own_mv_0_1_1_1 a4 x0 x1 x2 x3 x4 x5 o0 o1 o2 x0 x1 x2 x3 x4 x5 o0 o1 o2) (own_ap_0_1_1_1 a4 x0 x1 x2 (x3 + a4) x4 x5 o0 o1 o2 x0 x1 x2 x3 x4 x5 o0 o1 o2) (own_t471_0 a0 a1 a2 a3 a4 a5 k r c 1 1 1 x0 x1 x2 (x3 + a4) x4 x5 o0 o1 o2)
  · obtain ⟨c2, hc, hcol⟩ := own_col_0_2 a3 (own_HD0 x0 x1 x2 x3 x4 x5 o0 o1 o2 x0 x1 x2 x3 x4 x5 o0 o1 o2)
    refine own_ks.call (mt := own_m0) (mj := own_m53) rfl (ins := .invokestatic 21) (t := 427) (j := 53) (as := [.int (2 : Int32), .int a3, .int (0 : Int32)]) (r' := []) (v := some (.int c2)) (H' := (own_HD0 x0 x1 x2 x3 x4 x5 o0 o1 o2 x0 x1 x2 x3 x4 x5 o0 o1 o2)) (S' := [.int c2]) rfl rfl rfl rfl rfl hcol rfl ?_
    refine own_ks.go (mt := own_m0) rfl 1 (pc' := 429) (L' := [.val (.int a0), .val (.int a1), .val (.int a2), .val (.int a3), .val (.int a4), .val (.int a5), .val (.int (0 : Int32)), .val (.int (1 : Int32)), .val (.int (2147483647 : Int32)), .val (.ref 0), .val (.ref 1), .val (.ref 2), .val (.ref 3), .val (.ref 4), .val (.ref 5), .val (.ref 6), .val (.ref 7), .val (.ref 8), .val (.ref 95), .val (.ref 96), .val (.int k), .val (.int r), .val (.int c), .val (.int (2 : Int32)), .val (.int r2), .val (.int c2), .unset]) (S' := []) (H' := (own_HD0 x0 x1 x2 x3 x4 x5 o0 o1 o2 x0 x1 x2 x3 x4 x5 o0 o1 o2)) rfl ?_
    rcases hc with rfl | rfl | rfl <;> rcases hr with rfl | rfl
    · exact own_mvB_0 a0 a1 a2 a3 a4 a5 k r c 0 2 2 0 0 (own_HD0 x0 x1 x2 x3 x4 x5 o0 o1 o2 x0 x1 x2 x3 x4 x5 o0 o1 o2) (own_HD0 x0 x1 x2 x3 x4 x5 (o0 + a4.toInt64) o1 o2 x0 x1 x2 x3 x4 x5 o0 o1 o2) (own_HD0 x0 x1 x2 x3 x4 x5 (o0 + a4.toInt64) o1 o2 x0 x1 x2 x3 x4 x5 (o0 + a4.toInt64) o1 o2) (own_run.fuel 40 rfl) (own_run.fuel 40 rfl) rfl (own_mv_0_2_0_0 a4 x0 x1 x2 x3 x4 x5 o0 o1 o2 x0 x1 x2 x3 x4 x5 o0 o1 o2) (own_ap_0_2_0_0 a4 x0 x1 x2 x3 x4 x5 (o0 + a4.toInt64) o1 o2 x0 x1 x2 x3 x4 x5 o0 o1 o2) (own_t471_0 a0 a1 a2 a3 a4 a5 k r c 2 0 0 x0 x1 x2 x3 x4 x5 (o0 + a4.toInt64) o1 o2)
    · exact own_mvB_0 a0 a1 a2 a3 a4 a5 k r c 0 2 2 1 0 (own_HD0 x0 x1 x2 x3 x4 x5 o0 o1 o2 x0 x1 x2 x3 x4 x5 o0 o1 o2) (own_HD0 x0 x1 x2 x3 x4 x5 (o0 + a4.toInt64) o1 o2 x0 x1 x2 x3 x4 x5 o0 o1 o2) (own_HD0 x0 x1 x2 x3 x4 x5 (o0 + a4.toInt64) o1 o2 x0 x1 x2 x3 x4 x5 (o0 + a4.toInt64) o1 o2) (own_run.fuel 40 rfl) (own_run.fuel 40 rfl) rfl (own_mv_0_2_0_1 a4 x0 x1 x2 x3 x4 x5 o0 o1 o2 x0 x1 x2 x3 x4 x5 o0 o1 o2) (own_ap_0_2_0_1 a4 x0 x1 x2 x3 x4 x5 (o0 + a4.toInt64) o1 o2 x0 x1 x2 x3 x4 x5 o0 o1 o2) (own_t471_0 a0 a1 a2 a3 a4 a5 k r c 2 1 0 x0 x1 x2 x3 x4 x5 (o0 + a4.toInt64) o1 o2)
    · exact own_mvB_0 a0 a1 a2 a3 a4 a5 k r c 1 2 2 0 1 (own_HD0 x0 x1 x2 x3 x4 x5 o0 o1 o2 x0 x1 x2 x3 x4 x5 o0 o1 o2) (own_HD0 x0 x1 x2 x3 x4 x5 o0 (o1 + a4.toInt64) o2 x0 x1 x2 x3 x4 x5 o0 o1 o2) (own_HD0 x0 x1 x2 x3 x4 x5 o0 (o1 + a4.toInt64) o2 x0 x1 x2 x3 x4 x5 o0 (o1 + a4.toInt64) o2) (own_run.fuel 40 rfl) (own_run.fuel 40 rfl) rfl (own_mv_0_2_1_0 a4 x0 x1 x2 x3 x4 x5 o0 o1 o2 x0 x1 x2 x3 x4 x5 o0 o1 o2) (own_ap_0_2_1_0 a4 x0 x1 x2 x3 x4 x5 o0 (o1 + a4.toInt64) o2 x0 x1 x2 x3 x4 x5 o0 o1 o2) (own_t471_0 a0 a1 a2 a3 a4 a5 k r c 2 0 1 x0 x1 x2 x3 x4 x5 o0 (o1 + a4.toInt64) o2)
    · exact own_mvB_0 a0 a1 a2 a3 a4 a5 k r c 1 2 2 1 1 (own_HD0 x0 x1 x2 x3 x4 x5 o0 o1 o2 x0 x1 x2 x3 x4 x5 o0 o1 o2) (own_HD0 x0 x1 x2 x3 x4 x5 o0 (o1 + a4.toInt64) o2 x0 x1 x2 x3 x4 x5 o0 o1 o2) (own_HD0 x0 x1 x2 x3 x4 x5 o0 (o1 + a4.toInt64) o2 x0 x1 x2 x3 x4 x5 o0 (o1 + a4.toInt64) o2) (own_run.fuel 40 rfl) (own_run.fuel 40 rfl) rfl (own_mv_0_2_1_1 a4 x0 x1 x2 x3 x4 x5 o0 o1 o2 x0 x1 x2 x3 x4 x5 o0 o1 o2) (own_ap_0_2_1_1 a4 x0 x1 x2 x3 x4 x5 o0 (o1 + a4.toInt64) o2 x0 x1 x2 x3 x4 x5 o0 o1 o2) (own_t471_0 a0 a1 a2 a3 a4 a5 k r c 2 1 1 x0 x1 x2 x3 x4 x5 o0 (o1 + a4.toInt64) o2)
    · exact own_mvB_0 a0 a1 a2 a3 a4 a5 k r c 2 0 2 0 2 (own_HD0 x0 x1 x2 x3 x4 x5 o0 o1 o2 x0 x1 x2 x3 x4 x5 o0 o1 o2) (own_HD0 x0 x1 x2 x3 x4 x5 o0 o1 (o2 + a4.toInt64) x0 x1 x2 x3 x4 x5 o0 o1 o2) (own_HD0 x0 x1 x2 x3 x4 x5 o0 o1 (o2 + a4.toInt64) x0 x1 x2 x3 x4 x5 o0 o1 (o2 + a4.toInt64)) (own_run.fuel 40 rfl) (own_run.fuel 40 rfl) rfl (own_mv_0_2_2_0 a4 x0 x1 x2 x3 x4 x5 o0 o1 o2 x0 x1 x2 x3 x4 x5 o0 o1 o2) (own_ap_0_2_2_0 a4 x0 x1 x2 x3 x4 x5 o0 o1 (o2 + a4.toInt64) x0 x1 x2 x3 x4 x5 o0 o1 o2) (own_t471_0 a0 a1 a2 a3 a4 a5 k r c 2 0 2 x0 x1 x2 x3 x4 x5 o0 o1 (o2 + a4.toInt64))
    · exact own_mvB_0 a0 a1 a2 a3 a4 a5 k r c 2 0 2 1 2 (own_HD0 x0 x1 x2 x3 x4 x5 o0 o1 o2 x0 x1 x2 x3 x4 x5 o0 o1 o2) (own_HD0 x0 x1 x2 x3 x4 x5 o0 o1 (o2 + a4.toInt64) x0 x1 x2 x3 x4 x5 o0 o1 o2) (own_HD0 x0 x1 x2 x3 x4 x5 o0 o1 (o2 + a4.toInt64) x0 x1 x2 x3 x4 x5 o0 o1 (o2 + a4.toInt64)) (own_run.fuel 40 rfl) (own_run.fuel 40 rfl) rfl (own_mv_0_2_2_1 a4 x0 x1 x2 x3 x4 x5 o0 o1 o2 x0 x1 x2 x3 x4 x5 o0 o1 o2) (own_ap_0_2_2_1 a4 x0 x1 x2 x3 x4 x5 o0 o1 (o2 + a4.toInt64) x0 x1 x2 x3 x4 x5 o0 o1 o2) (own_t471_0 a0 a1 a2 a3 a4 a5 k r c 2 1 2 x0 x1 x2 x3 x4 x5 o0 o1 (o2 + a4.toInt64))
  · obtain ⟨c2, hc, hcol⟩ := own_col_0_3 a3 (own_HD0 x0 x1 x2 x3 x4 x5 o0 o1 o2 x0 x1 x2 x3 x4 x5 o0 o1 o2)
    refine own_ks.call (mt := own_m0) (mj := own_m53) rfl (ins := .invokestatic 21) (t := 427) (j := 53) (as := [.int (3 : Int32), .int a3, .int (0 : Int32)]) (r' := []) (v := some (.int c2)) (H' := (own_HD0 x0 x1 x2 x3 x4 x5 o0 o1 o2 x0 x1 x2 x3 x4 x5 o0 o1 o2)) (S' := [.int c2]) rfl rfl rfl rfl rfl hcol rfl ?_
    refine own_ks.go (mt := own_m0) rfl 1 (pc' := 429) (L' := [.val (.int a0), .val (.int a1), .val (.int a2), .val (.int a3), .val (.int a4), .val (.int a5), .val (.int (0 : Int32)), .val (.int (1 : Int32)), .val (.int (2147483647 : Int32)), .val (.ref 0), .val (.ref 1), .val (.ref 2), .val (.ref 3), .val (.ref 4), .val (.ref 5), .val (.ref 6), .val (.ref 7), .val (.ref 8), .val (.ref 95), .val (.ref 96), .val (.int k), .val (.int r), .val (.int c), .val (.int (3 : Int32)), .val (.int r2), .val (.int c2), .unset]) (S' := []) (H' := (own_HD0 x0 x1 x2 x3 x4 x5 o0 o1 o2 x0 x1 x2 x3 x4 x5 o0 o1 o2)) rfl ?_
    rcases hc with rfl | rfl <;> rcases hr with rfl | rfl
    · exact own_mvB_0 a0 a1 a2 a3 a4 a5 k r c 3 0 3 0 0 (own_HD0 x0 x1 x2 x3 x4 x5 o0 o1 o2 x0 x1 x2 x3 x4 x5 o0 o1 o2) (own_HD0 (x0 - a4) x1 x2 x3 x4 x5 o0 o1 o2 x0 x1 x2 x3 x4 x5 o0 o1 o2) (own_HD0 (x0 - a4) x1 x2 x3 x4 x5 o0 o1 o2 (x0 - a4) x1 x2 x3 x4 x5 o0 o1 o2) (own_run.fuel 40 rfl) (own_run.fuel 40 rfl) rfl (own_mv_0_3_0_0 a4 x0 x1 x2 x3 x4 x5 o0 o1 o2 x0 x1 x2 x3 x4 x5 o0 o1 o2) (own_ap_0_3_0_0 a4 (x0 - a4) x1 x2 x3 x4 x5 o0 o1 o2 x0 x1 x2 x3 x4 x5 o0 o1 o2) (own_t471_0 a0 a1 a2 a3 a4 a5 k r c 3 0 0 (x0 - a4) x1 x2 x3 x4 x5 o0 o1 o2)
    · exact own_mvB_0 a0 a1 a2 a3 a4 a5 k r c 4 0 3 1 0 (own_HD0 x0 x1 x2 x3 x4 x5 o0 o1 o2 x0 x1 x2 x3 x4 x5 o0 o1 o2) (own_HD0 x0 (x1 - a4) x2 x3 x4 x5 o0 o1 o2 x0 x1 x2 x3 x4 x5 o0 o1 o2) (own_HD0 x0 (x1 - a4) x2 x3 x4 x5 o0 o1 o2 x0 (x1 - a4) x2 x3 x4 x5 o0 o1 o2) (own_run.fuel 40 rfl) (own_run.fuel 40 rfl) rfl (own_mv_0_3_0_1 a4 x0 x1 x2 x3 x4 x5 o0 o1 o2 x0 x1 x2 x3 x4 x5 o0 o1 o2) (own_ap_0_3_0_1 a4 x0 (x1 - a4) x2 x3 x4 x5 o0 o1 o2 x0 x1 x2 x3 x4 x5 o0 o1 o2) (own_t471_0 a0 a1 a2 a3 a4 a5 k r c 3 1 0 x0 (x1 - a4) x2 x3 x4 x5 o0 o1 o2)
    · exact own_mvB_0 a0 a1 a2 a3 a4 a5 k r c 3 1 3 0 1 (own_HD0 x0 x1 x2 x3 x4 x5 o0 o1 o2 x0 x1 x2 x3 x4 x5 o0 o1 o2) (own_HD0 x0 x1 (x2 - a4) x3 x4 x5 o0 o1 o2 x0 x1 x2 x3 x4 x5 o0 o1 o2) (own_HD0 x0 x1 (x2 - a4) x3 x4 x5 o0 o1 o2 x0 x1 (x2 - a4) x3 x4 x5 o0 o1 o2) (own_run.fuel 40 rfl) (own_run.fuel 40 rfl) rfl (own_mv_0_3_1_0 a4 x0 x1 x2 x3 x4 x5 o0 o1 o2 x0 x1 x2 x3 x4 x5 o0 o1 o2) (own_ap_0_3_1_0 a4 x0 x1 (x2 - a4) x3 x4 x5 o0 o1 o2 x0 x1 x2 x3 x4 x5 o0 o1 o2) (own_t471_0 a0 a1 a2 a3 a4 a5 k r c 3 0 1 x0 x1 (x2 - a4) x3 x4 x5 o0 o1 o2)
    · exact own_mvB_0 a0 a1 a2 a3 a4 a5 k r c 4 1 3 1 1 (own_HD0 x0 x1 x2 x3 x4 x5 o0 o1 o2 x0 x1 x2 x3 x4 x5 o0 o1 o2) (own_HD0 x0 x1 x2 (x3 - a4) x4 x5 o0 o1 o2 x0 x1 x2 x3 x4 x5 o0 o1 o2) (own_HD0 x0 x1 x2 (x3 - a4) x4 x5 o0 o1 o2 x0 x1 x2 (x3 - a4) x4 x5 o0 o1 o2) (own_run.fuel 40 rfl) (own_run.fuel 40 rfl) rfl (own_mv_0_3_1_1 a4 x0 x1 x2 x3 x4 x5 o0 o1 o2 x0 x1 x2 x3 x4 x5 o0 o1 o2) (own_ap_0_3_1_1 a4 x0 x1 x2 (x3 - a4) x4 x5 o0 o1 o2 x0 x1 x2 x3 x4 x5 o0 o1 o2) (own_t471_0 a0 a1 a2 a3 a4 a5 k r c 3 1 1 x0 x1 x2 (x3 - a4) x4 x5 o0 o1 o2)
set_option maxRecDepth 1000000 in
set_option maxHeartbeats 40000000 in
theorem own_t345_0 (a0 a1 a2 a3 a4 a5 : Int32) (x0 x1 x2 x3 x4 x5 : Int32) (o0 o1 o2 : Int64) : own_ks own_P (own_end own_P.2.1 208 896) [] 0 12 304 345 [.val (.int a0), .val (.int a1), .val (.int a2), .val (.int a3), .val (.int a4), .val (.int a5), .val (.int (0 : Int32)), .val (.int (1 : Int32)), .val (.int (2147483647 : Int32)), .val (.ref 0), .val (.ref 1), .val (.ref 2), .val (.ref 3), .val (.ref 4), .val (.ref 5), .val (.ref 6), .val (.ref 7), .val (.ref 8), .val (.ref 95), .val (.ref 96), .unset, .unset, .unset, .unset, .unset, .unset, .unset] [] (own_HD0 x0 x1 x2 x3 x4 x5 o0 o1 o2 x0 x1 x2 x3 x4 x5 o0 o1 o2) := by
  have s0 := c_mask a1 3 2 (by decide) (by decide)
  have s1 := c_mask (a1.toUInt32 >>> ((2 : Int32) &&& 31).toUInt32).toInt32 1 1 (by decide) (by decide)
  refine own_ks.go (mt := own_m0) rfl 13 (pc' := 362) (L' := [.val (.int a0), .val (.int a1), .val (.int a2), .val (.int a3), .val (.int a4), .val (.int a5), .val (.int (0 : Int32)), .val (.int (1 : Int32)), .val (.int (2147483647 : Int32)), .val (.ref 0), .val (.ref 1), .val (.ref 2), .val (.ref 3), .val (.ref 4), .val (.ref 5), .val (.ref 6), .val (.ref 7), .val (.ref 8), .val (.ref 95), .val (.ref 96), .val (.int (a1 &&& (3 : Int32))), .val (.int ((a1.toUInt32 >>> ((2 : Int32) &&& 31).toUInt32).toInt32 &&& (1 : Int32))), .unset, .unset, .unset, .unset, .unset]) (S' := [.int (0 : Int32), .int a1, .int (a1 &&& (3 : Int32))]) (H' := (own_HD0 x0 x1 x2 x3 x4 x5 o0 o1 o2 x0 x1 x2 x3 x4 x5 o0 o1 o2)) rfl ?_
  generalize (a1 &&& (3 : Int32)) = k at *
  generalize ((a1.toUInt32 >>> ((2 : Int32) &&& 31).toUInt32).toInt32 &&& (1 : Int32)) = r at *
  have e0 : (0 : Int32).toInt = 0 := rfl
  have e1 : (1 : Int32).toInt = 1 := rfl
  have e2 : (2 : Int32).toInt = 2 := rfl
  have e3 : (3 : Int32).toInt = 3 := rfl
  have hk : k = 0 ∨ k = 1 ∨ k = 2 ∨ k = 3 := by simp only [← Int32.toInt_inj, e0, e1, e2, e3]; omega
  have hr : r = 0 ∨ r = 1 := by simp only [← Int32.toInt_inj, e0, e1]; omega
  clear s0 s1 e0 e1 e2 e3
  rcases hk with rfl | rfl | rfl | rfl
  · obtain ⟨c, hc, hcol⟩ := own_col_0_0 a1 (own_HD0 x0 x1 x2 x3 x4 x5 o0 o1 o2 x0 x1 x2 x3 x4 x5 o0 o1 o2)
    refine own_ks.call (mt := own_m0) (mj := own_m53) rfl (ins := .invokestatic 21) (t := 365) (j := 53) (as := [.int (0 : Int32), .int a1, .int (0 : Int32)]) (r' := []) (v := some (.int c)) (H' := (own_HD0 x0 x1 x2 x3 x4 x5 o0 o1 o2 x0 x1 x2 x3 x4 x5 o0 o1 o2)) (S' := [.int c]) rfl rfl rfl rfl rfl hcol rfl ?_
    refine own_ks.go (mt := own_m0) rfl 1 (pc' := 367) (L' := [.val (.int a0), .val (.int a1), .val (.int a2), .val (.int a3), .val (.int a4), .val (.int a5), .val (.int (0 : Int32)), .val (.int (1 : Int32)), .val (.int (2147483647 : Int32)), .val (.ref 0), .val (.ref 1), .val (.ref 2), .val (.ref 3), .val (.ref 4), .val (.ref 5), .val (.ref 6), .val (.ref 7), .val (.ref 8), .val (.ref 95), .val (.ref 96), .val (.int (0 : Int32)), .val (.int r), .val (.int c), .unset, .unset, .unset, .unset]) (S' := []) (H' := (own_HD0 x0 x1 x2 x3 x4 x5 o0 o1 o2 x0 x1 x2 x3 x4 x5 o0 o1 o2)) rfl ?_
    rcases hc with rfl | rfl | rfl <;> rcases hr with rfl | rfl
    · exact own_mvA_0 a0 a1 a2 a3 a4 a5 0 0 0 5 0 (own_HD0 x0 x1 x2 x3 x4 x5 o0 o1 o2 x0 x1 x2 x3 x4 x5 o0 o1 o2) (own_HD0 x0 x1 x2 x3 x4 x5 (o0 - a2.toInt64) o1 o2 x0 x1 x2 x3 x4 x5 o0 o1 o2) (own_HD0 x0 x1 x2 x3 x4 x5 (o0 - a2.toInt64) o1 o2 x0 x1 x2 x3 x4 x5 (o0 - a2.toInt64) o1 o2) (own_run.fuel 40 rfl) (own_run.fuel 40 rfl) rfl (own_mv_0_0_0_0 a2 x0 x1 x2 x3 x4 x5 o0 o1 o2 x0 x1 x2 x3 x4 x5 o0 o1 o2) (own_ap_0_0_0_0 a2 x0 x1 x2 x3 x4 x5 (o0 - a2.toInt64) o1 o2 x0 x1 x2 x3 x4 x5 o0 o1 o2) (own_t407_0 a0 a1 a2 a3 a4 a5 0 0 0 x0 x1 x2 x3 x4 x5 (o0 - a2.toInt64) o1 o2)
    · exact own_mvA_0 a0 a1 a2 a3 a4 a5 0 1 0 5 0 (own_HD0 x0 x1 x2 x3 x4 x5 o0 o1 o2 x0 x1 x2 x3 x4 x5 o0 o1 o2) (own_HD0 x0 x1 x2 x3 x4 x5 (o0 - a2.toInt64) o1 o2 x0 x1 x2 x3 x4 x5 o0 o1 o2) (own_HD0 x0 x1 x2 x3 x4 x5 (o0 - a2.toInt64) o1 o2 x0 x1 x2 x3 x4 x5 (o0 - a2.toInt64) o1 o2) (own_run.fuel 40 rfl) (own_run.fuel 40 rfl) rfl (own_mv_0_0_0_1 a2 x0 x1 x2 x3 x4 x5 o0 o1 o2 x0 x1 x2 x3 x4 x5 o0 o1 o2) (own_ap_0_0_0_1 a2 x0 x1 x2 x3 x4 x5 (o0 - a2.toInt64) o1 o2 x0 x1 x2 x3 x4 x5 o0 o1 o2) (own_t407_0 a0 a1 a2 a3 a4 a5 0 1 0 x0 x1 x2 x3 x4 x5 (o0 - a2.toInt64) o1 o2)
    · exact own_mvA_0 a0 a1 a2 a3 a4 a5 0 0 1 5 1 (own_HD0 x0 x1 x2 x3 x4 x5 o0 o1 o2 x0 x1 x2 x3 x4 x5 o0 o1 o2) (own_HD0 x0 x1 x2 x3 x4 x5 o0 (o1 - a2.toInt64) o2 x0 x1 x2 x3 x4 x5 o0 o1 o2) (own_HD0 x0 x1 x2 x3 x4 x5 o0 (o1 - a2.toInt64) o2 x0 x1 x2 x3 x4 x5 o0 (o1 - a2.toInt64) o2) (own_run.fuel 40 rfl) (own_run.fuel 40 rfl) rfl (own_mv_0_0_1_0 a2 x0 x1 x2 x3 x4 x5 o0 o1 o2 x0 x1 x2 x3 x4 x5 o0 o1 o2) (own_ap_0_0_1_0 a2 x0 x1 x2 x3 x4 x5 o0 (o1 - a2.toInt64) o2 x0 x1 x2 x3 x4 x5 o0 o1 o2) (own_t407_0 a0 a1 a2 a3 a4 a5 0 0 1 x0 x1 x2 x3 x4 x5 o0 (o1 - a2.toInt64) o2)
    · exact own_mvA_0 a0 a1 a2 a3 a4 a5 0 1 1 5 1 (own_HD0 x0 x1 x2 x3 x4 x5 o0 o1 o2 x0 x1 x2 x3 x4 x5 o0 o1 o2) (own_HD0 x0 x1 x2 x3 x4 x5 o0 (o1 - a2.toInt64) o2 x0 x1 x2 x3 x4 x5 o0 o1 o2) (own_HD0 x0 x1 x2 x3 x4 x5 o0 (o1 - a2.toInt64) o2 x0 x1 x2 x3 x4 x5 o0 (o1 - a2.toInt64) o2) (own_run.fuel 40 rfl) (own_run.fuel 40 rfl) rfl (own_mv_0_0_1_1 a2 x0 x1 x2 x3 x4 x5 o0 o1 o2 x0 x1 x2 x3 x4 x5 o0 o1 o2) (own_ap_0_0_1_1 a2 x0 x1 x2 x3 x4 x5 o0 (o1 - a2.toInt64) o2 x0 x1 x2 x3 x4 x5 o0 o1 o2) (own_t407_0 a0 a1 a2 a3 a4 a5 0 1 1 x0 x1 x2 x3 x4 x5 o0 (o1 - a2.toInt64) o2)
    · exact own_mvA_0 a0 a1 a2 a3 a4 a5 0 0 2 5 2 (own_HD0 x0 x1 x2 x3 x4 x5 o0 o1 o2 x0 x1 x2 x3 x4 x5 o0 o1 o2) (own_HD0 x0 x1 x2 x3 x4 x5 o0 o1 (o2 - a2.toInt64) x0 x1 x2 x3 x4 x5 o0 o1 o2) (own_HD0 x0 x1 x2 x3 x4 x5 o0 o1 (o2 - a2.toInt64) x0 x1 x2 x3 x4 x5 o0 o1 (o2 - a2.toInt64)) (own_run.fuel 40 rfl) (own_run.fuel 40 rfl) rfl (own_mv_0_0_2_0 a2 x0 x1 x2 x3 x4 x5 o0 o1 o2 x0 x1 x2 x3 x4 x5 o0 o1 o2) (own_ap_0_0_2_0 a2 x0 x1 x2 x3 x4 x5 o0 o1 (o2 - a2.toInt64) x0 x1 x2 x3 x4 x5 o0 o1 o2) (own_t407_0 a0 a1 a2 a3 a4 a5 0 0 2 x0 x1 x2 x3 x4 x5 o0 o1 (o2 - a2.toInt64))
    · exact own_mvA_0 a0 a1 a2 a3 a4 a5 0 1 2 5 2 (own_HD0 x0 x1 x2 x3 x4 x5 o0 o1 o2 x0 x1 x2 x3 x4 x5 o0 o1 o2) (own_HD0 x0 x1 x2 x3 x4 x5 o0 o1 (o2 - a2.toInt64) x0 x1 x2 x3 x4 x5 o0 o1 o2) (own_HD0 x0 x1 x2 x3 x4 x5 o0 o1 (o2 - a2.toInt64) x0 x1 x2 x3 x4 x5 o0 o1 (o2 - a2.toInt64)) (own_run.fuel 40 rfl) (own_run.fuel 40 rfl) rfl (own_mv_0_0_2_1 a2 x0 x1 x2 x3 x4 x5 o0 o1 o2 x0 x1 x2 x3 x4 x5 o0 o1 o2) (own_ap_0_0_2_1 a2 x0 x1 x2 x3 x4 x5 o0 o1 (o2 - a2.toInt64) x0 x1 x2 x3 x4 x5 o0 o1 o2) (own_t407_0 a0 a1 a2 a3 a4 a5 0 1 2 x0 x1 x2 x3 x4 x5 o0 o1 (o2 - a2.toInt64))
  · obtain ⟨c, hc, hcol⟩ := own_col_0_1 a1 (own_HD0 x0 x1 x2 x3 x4 x5 o0 o1 o2 x0 x1 x2 x3 x4 x5 o0 o1 o2)
    refine own_ks.call (mt := own_m0) (mj := own_m53) rfl (ins := .invokestatic 21) (t := 365) (j := 53) (as := [.int (1 : Int32), .int a1, .int (0 : Int32)]) (r' := []) (v := some (.int c)) (H' := (own_HD0 x0 x1 x2 x3 x4 x5 o0 o1 o2 x0 x1 x2 x3 x4 x5 o0 o1 o2)) (S' := [.int c]) rfl rfl rfl rfl rfl hcol rfl ?_
    refine own_ks.go (mt := own_m0) rfl 1 (pc' := 367) (L' := [.val (.int a0), .val (.int a1), .val (.int a2), .val (.int a3), .val (.int a4), .val (.int a5), .val (.int (0 : Int32)), .val (.int (1 : Int32)), .val (.int (2147483647 : Int32)), .val (.ref 0), .val (.ref 1), .val (.ref 2), .val (.ref 3), .val (.ref 4), .val (.ref 5), .val (.ref 6), .val (.ref 7), .val (.ref 8), .val (.ref 95), .val (.ref 96), .val (.int (1 : Int32)), .val (.int r), .val (.int c), .unset, .unset, .unset, .unset]) (S' := []) (H' := (own_HD0 x0 x1 x2 x3 x4 x5 o0 o1 o2 x0 x1 x2 x3 x4 x5 o0 o1 o2)) rfl ?_
    rcases hc with rfl | rfl <;> rcases hr with rfl | rfl
    · exact own_mvA_0 a0 a1 a2 a3 a4 a5 1 0 0 0 0 (own_HD0 x0 x1 x2 x3 x4 x5 o0 o1 o2 x0 x1 x2 x3 x4 x5 o0 o1 o2) (own_HD0 (x0 + a2) x1 x2 x3 x4 x5 o0 o1 o2 x0 x1 x2 x3 x4 x5 o0 o1 o2) (own_HD0 (x0 + a2) x1 x2 x3 x4 x5 o0 o1 o2 (x0 + a2) x1 x2 x3 x4 x5 o0 o1 o2) (own_run.fuel 40 rfl) (own_run.fuel 40 rfl) rfl (own_mv_0_1_0_0 a2 x0 x1 x2 x3 x4 x5 o0 o1 o2 x0 x1 x2 x3 x4 x5 o0 o1 o2) (own_ap_0_1_0_0 a2 (x0 + a2) x1 x2 x3 x4 x5 o0 o1 o2 x0 x1 x2 x3 x4 x5 o0 o1 o2) (own_t407_0 a0 a1 a2 a3 a4 a5 1 0 0 (x0 + a2) x1 x2 x3 x4 x5 o0 o1 o2)
    · exact own_mvA_0 a0 a1 a2 a3 a4 a5 1 1 0 0 1 (own_HD0 x0 x1 x2 x3 x4 x5 o0 o1 o2 x0 x1 x2 x3 x4 x5 o0 o1 o2) (own_HD0 x0 (x1 + a2) x2 x3 x4 x5 o0 o1 o2 x0 x1 x2 x3 x4 x5 o0 o1 o2) (own_HD0 x0 (x1 + a2) x2 x3 x4 x5 o0 o1 o2 x0 (x1 + a2) x2 x3 x4 x5 o0 o1 o2) (own_run.fuel 40 rfl) (own_run.fuel 40 rfl) rfl (own_mv_0_1_0_1 a2 x0 x1 x2 x3 x4 x5 o0 o1 o2 x0 x1 x2 x3 x4 x5 o0 o1 o2) (own_ap_0_1_0_1 a2 x0 (x1 + a2) x2 x3 x4 x5 o0 o1 o2 x0 x1 x2 x3 x4 x5 o0 o1 o2) (own_t407_0 a0 a1 a2 a3 a4 a5 1 1 0 x0 (x1 + a2) x2 x3 x4 x5 o0 o1 o2)
    · exact own_mvA_0 a0 a1 a2 a3 a4 a5 1 0 1 1 0 (own_HD0 x0 x1 x2 x3 x4 x5 o0 o1 o2 x0 x1 x2 x3 x4 x5 o0 o1 o2) (own_HD0 x0 x1 (x2 + a2) x3 x4 x5 o0 o1 o2 x0 x1 x2 x3 x4 x5 o0 o1 o2) (own_HD0 x0 x1 (x2 + a2) x3 x4 x5 o0 o1 o2 x0 x1 (x2 + a2) x3 x4 x5 o0 o1 o2) (own_run.fuel 40 rfl) (own_run.fuel 40 rfl) rfl (own_mv_0_1_1_0 a2 x0 x1 x2 x3 x4 x5 o0 o1 o2 x0 x1 x2 x3 x4 x5 o0 o1 o2) (own_ap_0_1_1_0 a2 x0 x1 (x2 + a2) x3 x4 x5 o0 o1 o2 x0 x1 x2 x3 x4 x5 o0 o1 o2) (own_t407_0 a0 a1 a2 a3 a4 a5 1 0 1 x0 x1 (x2 + a2) x3 x4 x5 o0 o1 o2)
    · exact own_mvA_0 a0 a1 a2 a3 a4 a5 1 1 1 1 1 (own_HD0 x0 x1 x2 x3 x4 x5 o0 o1 o2 x0 x1 x2 x3 x4 x5 o0 o1 o2) (own_HD0 x0 x1 x2 (x3 + a2) x4 x5 o0 o1 o2 x0 x1 x2 x3 x4 x5 o0 o1 o2) (own_HD0 x0 x1 x2 (x3 + a2) x4 x5 o0 o1 o2 x0 x1 x2 (x3 + a2) x4 x5 o0 o1 o2) (own_run.fuel 40 rfl) (own_run.fuel 40 rfl) rfl (own_mv_0_1_1_1 a2 x0 x1 x2 x3 x4 x5 o0 o1 o2 x0 x1 x2 x3 x4 x5 o0 o1 o2) (own_ap_0_1_1_1 a2 x0 x1 x2 (x3 + a2) x4 x5 o0 o1 o2 x0 x1 x2 x3 x4 x5 o0 o1 o2) (own_t407_0 a0 a1 a2 a3 a4 a5 1 1 1 x0 x1 x2 (x3 + a2) x4 x5 o0 o1 o2)
  · obtain ⟨c, hc, hcol⟩ := own_col_0_2 a1 (own_HD0 x0 x1 x2 x3 x4 x5 o0 o1 o2 x0 x1 x2 x3 x4 x5 o0 o1 o2)
    refine own_ks.call (mt := own_m0) (mj := own_m53) rfl (ins := .invokestatic 21) (t := 365) (j := 53) (as := [.int (2 : Int32), .int a1, .int (0 : Int32)]) (r' := []) (v := some (.int c)) (H' := (own_HD0 x0 x1 x2 x3 x4 x5 o0 o1 o2 x0 x1 x2 x3 x4 x5 o0 o1 o2)) (S' := [.int c]) rfl rfl rfl rfl rfl hcol rfl ?_
    refine own_ks.go (mt := own_m0) rfl 1 (pc' := 367) (L' := [.val (.int a0), .val (.int a1), .val (.int a2), .val (.int a3), .val (.int a4), .val (.int a5), .val (.int (0 : Int32)), .val (.int (1 : Int32)), .val (.int (2147483647 : Int32)), .val (.ref 0), .val (.ref 1), .val (.ref 2), .val (.ref 3), .val (.ref 4), .val (.ref 5), .val (.ref 6), .val (.ref 7), .val (.ref 8), .val (.ref 95), .val (.ref 96), .val (.int (2 : Int32)), .val (.int r), .val (.int c), .unset, .unset, .unset, .unset]) (S' := []) (H' := (own_HD0 x0 x1 x2 x3 x4 x5 o0 o1 o2 x0 x1 x2 x3 x4 x5 o0 o1 o2)) rfl ?_
    rcases hc with rfl | rfl | rfl <;> rcases hr with rfl | rfl
    · exact own_mvA_0 a0 a1 a2 a3 a4 a5 2 0 0 0 2 (own_HD0 x0 x1 x2 x3 x4 x5 o0 o1 o2 x0 x1 x2 x3 x4 x5 o0 o1 o2) (own_HD0 x0 x1 x2 x3 x4 x5 (o0 + a2.toInt64) o1 o2 x0 x1 x2 x3 x4 x5 o0 o1 o2) (own_HD0 x0 x1 x2 x3 x4 x5 (o0 + a2.toInt64) o1 o2 x0 x1 x2 x3 x4 x5 (o0 + a2.toInt64) o1 o2) (own_run.fuel 40 rfl) (own_run.fuel 40 rfl) rfl (own_mv_0_2_0_0 a2 x0 x1 x2 x3 x4 x5 o0 o1 o2 x0 x1 x2 x3 x4 x5 o0 o1 o2) (own_ap_0_2_0_0 a2 x0 x1 x2 x3 x4 x5 (o0 + a2.toInt64) o1 o2 x0 x1 x2 x3 x4 x5 o0 o1 o2) (own_t407_0 a0 a1 a2 a3 a4 a5 2 0 0 x0 x1 x2 x3 x4 x5 (o0 + a2.toInt64) o1 o2)
    · exact own_mvA_0 a0 a1 a2 a3 a4 a5 2 1 0 0 2 (own_HD0 x0 x1 x2 x3 x4 x5 o0 o1 o2 x0 x1 x2 x3 x4 x5 o0 o1 o2) (own_HD0 x0 x1 x2 x3 x4 x5 (o0 + a2.toInt64) o1 o2 x0 x1 x2 x3 x4 x5 o0 o1 o2) (own_HD0 x0 x1 x2 x3 x4 x5 (o0 + a2.toInt64) o1 o2 x0 x1 x2 x3 x4 x5 (o0 + a2.toInt64) o1 o2) (own_run.fuel 40 rfl) (own_run.fuel 40 rfl) rfl (own_mv_0_2_0_1 a2 x0 x1 x2 x3 x4 x5 o0 o1 o2 x0 x1 x2 x3 x4 x5 o0 o1 o2) (own_ap_0_2_0_1 a2 x0 x1 x2 x3 x4 x5 (o0 + a2.toInt64) o1 o2 x0 x1 x2 x3 x4 x5 o0 o1 o2) (own_t407_0 a0 a1 a2 a3 a4 a5 2 1 0 x0 x1 x2 x3 x4 x5 (o0 + a2.toInt64) o1 o2)
    · exact own_mvA_0 a0 a1 a2 a3 a4 a5 2 0 1 1 2 (own_HD0 x0 x1 x2 x3 x4 x5 o0 o1 o2 x0 x1 x2 x3 x4 x5 o0 o1 o2) (own_HD0 x0 x1 x2 x3 x4 x5 o0 (o1 + a2.toInt64) o2 x0 x1 x2 x3 x4 x5 o0 o1 o2) (own_HD0 x0 x1 x2 x3 x4 x5 o0 (o1 + a2.toInt64) o2 x0 x1 x2 x3 x4 x5 o0 (o1 + a2.toInt64) o2) (own_run.fuel 40 rfl) (own_run.fuel 40 rfl) rfl (own_mv_0_2_1_0 a2 x0 x1 x2 x3 x4 x5 o0 o1 o2 x0 x1 x2 x3 x4 x5 o0 o1 o2) (own_ap_0_2_1_0 a2 x0 x1 x2 x3 x4 x5 o0 (o1 + a2.toInt64) o2 x0 x1 x2 x3 x4 x5 o0 o1 o2) (own_t407_0 a0 a1 a2 a3 a4 a5 2 0 1 x0 x1 x2 x3 x4 x5 o0 (o1 + a2.toInt64) o2)
    · exact own_mvA_0 a0 a1 a2 a3 a4 a5 2 1 1 1 2 (own_HD0 x0 x1 x2 x3 x4 x5 o0 o1 o2 x0 x1 x2 x3 x4 x5 o0 o1 o2) (own_HD0 x0 x1 x2 x3 x4 x5 o0 (o1 + a2.toInt64) o2 x0 x1 x2 x3 x4 x5 o0 o1 o2) (own_HD0 x0 x1 x2 x3 x4 x5 o0 (o1 + a2.toInt64) o2 x0 x1 x2 x3 x4 x5 o0 (o1 + a2.toInt64) o2) (own_run.fuel 40 rfl) (own_run.fuel 40 rfl) rfl (own_mv_0_2_1_1 a2 x0 x1 x2 x3 x4 x5 o0 o1 o2 x0 x1 x2 x3 x4 x5 o0 o1 o2) (own_ap_0_2_1_1 a2 x0 x1 x2 x3 x4 x5 o0 (o1 + a2.toInt64) o2 x0 x1 x2 x3 x4 x5 o0 o1 o2) (own_t407_0 a0 a1 a2 a3 a4 a5 2 1 1 x0 x1 x2 x3 x4 x5 o0 (o1 + a2.toInt64) o2)
    · exact own_mvA_0 a0 a1 a2 a3 a4 a5 2 0 2 2 0 (own_HD0 x0 x1 x2 x3 x4 x5 o0 o1 o2 x0 x1 x2 x3 x4 x5 o0 o1 o2) (own_HD0 x0 x1 x2 x3 x4 x5 o0 o1 (o2 + a2.toInt64) x0 x1 x2 x3 x4 x5 o0 o1 o2) (own_HD0 x0 x1 x2 x3 x4 x5 o0 o1 (o2 + a2.toInt64) x0 x1 x2 x3 x4 x5 o0 o1 (o2 + a2.toInt64)) (own_run.fuel 40 rfl) (own_run.fuel 40 rfl) rfl (own_mv_0_2_2_0 a2 x0 x1 x2 x3 x4 x5 o0 o1 o2 x0 x1 x2 x3 x4 x5 o0 o1 o2) (own_ap_0_2_2_0 a2 x0 x1 x2 x3 x4 x5 o0 o1 (o2 + a2.toInt64) x0 x1 x2 x3 x4 x5 o0 o1 o2) (own_t407_0 a0 a1 a2 a3 a4 a5 2 0 2 x0 x1 x2 x3 x4 x5 o0 o1 (o2 + a2.toInt64))
    · exact own_mvA_0 a0 a1 a2 a3 a4 a5 2 1 2 2 0 (own_HD0 x0 x1 x2 x3 x4 x5 o0 o1 o2 x0 x1 x2 x3 x4 x5 o0 o1 o2) (own_HD0 x0 x1 x2 x3 x4 x5 o0 o1 (o2 + a2.toInt64) x0 x1 x2 x3 x4 x5 o0 o1 o2) (own_HD0 x0 x1 x2 x3 x4 x5 o0 o1 (o2 + a2.toInt64) x0 x1 x2 x3 x4 x5 o0 o1 (o2 + a2.toInt64)) (own_run.fuel 40 rfl) (own_run.fuel 40 rfl) rfl (own_mv_0_2_2_1 a2 x0 x1 x2 x3 x4 x5 o0 o1 o2 x0 x1 x2 x3 x4 x5 o0 o1 o2) (own_ap_0_2_2_1 a2 x0 x1 x2 x3 x4 x5 o0 o1 (o2 + a2.toInt64) x0 x1 x2 x3 x4 x5 o0 o1 o2) (own_t407_0 a0 a1 a2 a3 a4 a5 2 1 2 x0 x1 x2 x3 x4 x5 o0 o1 (o2 + a2.toInt64))
  · obtain ⟨c, hc, hcol⟩ := own_col_0_3 a1 (own_HD0 x0 x1 x2 x3 x4 x5 o0 o1 o2 x0 x1 x2 x3 x4 x5 o0 o1 o2)
    refine own_ks.call (mt := own_m0) (mj := own_m53) rfl (ins := .invokestatic 21) (t := 365) (j := 53) (as := [.int (3 : Int32), .int a1, .int (0 : Int32)]) (r' := []) (v := some (.int c)) (H' := (own_HD0 x0 x1 x2 x3 x4 x5 o0 o1 o2 x0 x1 x2 x3 x4 x5 o0 o1 o2)) (S' := [.int c]) rfl rfl rfl rfl rfl hcol rfl ?_
    refine own_ks.go (mt := own_m0) rfl 1 (pc' := 367) (L' := [.val (.int a0), .val (.int a1), .val (.int a2), .val (.int a3), .val (.int a4), .val (.int a5), .val (.int (0 : Int32)), .val (.int (1 : Int32)), .val (.int (2147483647 : Int32)), .val (.ref 0), .val (.ref 1), .val (.ref 2), .val (.ref 3), .val (.ref 4), .val (.ref 5), .val (.ref 6), .val (.ref 7), .val (.ref 8), .val (.ref 95), .val (.ref 96), .val (.int (3 : Int32)), .val (.int r), .val (.int c), .unset, .unset, .unset, .unset]) (S' := []) (H' := (own_HD0 x0 x1 x2 x3 x4 x5 o0 o1 o2 x0 x1 x2 x3 x4 x5 o0 o1 o2)) rfl ?_
    rcases hc with rfl | rfl <;> rcases hr with rfl | rfl
    · exact own_mvA_0 a0 a1 a2 a3 a4 a5 3 0 0 3 0 (own_HD0 x0 x1 x2 x3 x4 x5 o0 o1 o2 x0 x1 x2 x3 x4 x5 o0 o1 o2) (own_HD0 (x0 - a2) x1 x2 x3 x4 x5 o0 o1 o2 x0 x1 x2 x3 x4 x5 o0 o1 o2) (own_HD0 (x0 - a2) x1 x2 x3 x4 x5 o0 o1 o2 (x0 - a2) x1 x2 x3 x4 x5 o0 o1 o2) (own_run.fuel 40 rfl) (own_run.fuel 40 rfl) rfl (own_mv_0_3_0_0 a2 x0 x1 x2 x3 x4 x5 o0 o1 o2 x0 x1 x2 x3 x4 x5 o0 o1 o2) (own_ap_0_3_0_0 a2 (x0 - a2) x1 x2 x3 x4 x5 o0 o1 o2 x0 x1 x2 x3 x4 x5 o0 o1 o2) (own_t407_0 a0 a1 a2 a3 a4 a5 3 0 0 (x0 - a2) x1 x2 x3 x4 x5 o0 o1 o2)
    · exact own_mvA_0 a0 a1 a2 a3 a4 a5 3 1 0 4 0 (own_HD0 x0 x1 x2 x3 x4 x5 o0 o1 o2 x0 x1 x2 x3 x4 x5 o0 o1 o2) (own_HD0 x0 (x1 - a2) x2 x3 x4 x5 o0 o1 o2 x0 x1 x2 x3 x4 x5 o0 o1 o2) (own_HD0 x0 (x1 - a2) x2 x3 x4 x5 o0 o1 o2 x0 (x1 - a2) x2 x3 x4 x5 o0 o1 o2) (own_run.fuel 40 rfl) (own_run.fuel 40 rfl) rfl (own_mv_0_3_0_1 a2 x0 x1 x2 x3 x4 x5 o0 o1 o2 x0 x1 x2 x3 x4 x5 o0 o1 o2) (own_ap_0_3_0_1 a2 x0 (x1 - a2) x2 x3 x4 x5 o0 o1 o2 x0 x1 x2 x3 x4 x5 o0 o1 o2) (own_t407_0 a0 a1 a2 a3 a4 a5 3 1 0 x0 (x1 - a2) x2 x3 x4 x5 o0 o1 o2)
    · exact own_mvA_0 a0 a1 a2 a3 a4 a5 3 0 1 3 1 (own_HD0 x0 x1 x2 x3 x4 x5 o0 o1 o2 x0 x1 x2 x3 x4 x5 o0 o1 o2) (own_HD0 x0 x1 (x2 - a2) x3 x4 x5 o0 o1 o2 x0 x1 x2 x3 x4 x5 o0 o1 o2) (own_HD0 x0 x1 (x2 - a2) x3 x4 x5 o0 o1 o2 x0 x1 (x2 - a2) x3 x4 x5 o0 o1 o2) (own_run.fuel 40 rfl) (own_run.fuel 40 rfl) rfl (own_mv_0_3_1_0 a2 x0 x1 x2 x3 x4 x5 o0 o1 o2 x0 x1 x2 x3 x4 x5 o0 o1 o2) (own_ap_0_3_1_0 a2 x0 x1 (x2 - a2) x3 x4 x5 o0 o1 o2 x0 x1 x2 x3 x4 x5 o0 o1 o2) (own_t407_0 a0 a1 a2 a3 a4 a5 3 0 1 x0 x1 (x2 - a2) x3 x4 x5 o0 o1 o2)
    · exact own_mvA_0 a0 a1 a2 a3 a4 a5 3 1 1 4 1 (own_HD0 x0 x1 x2 x3 x4 x5 o0 o1 o2 x0 x1 x2 x3 x4 x5 o0 o1 o2) (own_HD0 x0 x1 x2 (x3 - a2) x4 x5 o0 o1 o2 x0 x1 x2 x3 x4 x5 o0 o1 o2) (own_HD0 x0 x1 x2 (x3 - a2) x4 x5 o0 o1 o2 x0 x1 x2 (x3 - a2) x4 x5 o0 o1 o2) (own_run.fuel 40 rfl) (own_run.fuel 40 rfl) rfl (own_mv_0_3_1_1 a2 x0 x1 x2 x3 x4 x5 o0 o1 o2 x0 x1 x2 x3 x4 x5 o0 o1 o2) (own_ap_0_3_1_1 a2 x0 x1 x2 (x3 - a2) x4 x5 o0 o1 o2 x0 x1 x2 x3 x4 x5 o0 o1 o2) (own_t407_0 a0 a1 a2 a3 a4 a5 3 1 1 x0 x1 x2 (x3 - a2) x4 x5 o0 o1 o2)
set_option maxRecDepth 1000000 in
set_option maxHeartbeats 40000000 in
theorem own_law0 (a0 a1 a2 a3 a4 a5 : Int32) : own_ks own_P (own_end own_P.2.1 208 896) [] 0 12 304 3 [.val (.int a0), .val (.int a1), .val (.int a2), .val (.int a3), .val (.int a4), .val (.int a5), .unset, .unset, .unset, .unset, .unset, .unset, .unset, .unset, .unset, .unset, .unset, .unset, .unset, .unset, .unset, .unset, .unset, .unset, .unset, .unset, .unset] [.int (0 : Int32)] [] := by
  refine own_ks.go (mt := own_m0) rfl 70 (pc' := 107) (L' := [.val (.int a0), .val (.int a1), .val (.int a2), .val (.int a3), .val (.int a4), .val (.int a5), .val (.int (0 : Int32)), .val (.int (1 : Int32)), .val (.int (2147483647 : Int32)), .val (.ref 0), .val (.ref 1), .val (.ref 2), .unset, .unset, .unset, .unset, .unset, .unset, .unset, .unset, .unset, .unset, .unset, .unset, .unset, .unset, .unset]) (S' := [.ref 3]) (H' := [(.inr .int, [.int (1 : Int32), .int (1 : Int32)]), (.inr .int, [.int (0 : Int32), .int (2 : Int32), .int (4 : Int32), .int (4 : Int32)]), (.inr .int, [.int (0 : Int32), .int (1 : Int32), .int (0 : Int32), .int (1 : Int32), .int (0 : Int32), .int (1 : Int32)]), (.inr .int, [.int (0 : Int32), .int (0 : Int32), .int (0 : Int32), .int (0 : Int32), .int (0 : Int32), .int (0 : Int32)])]) rfl ?_
  refine own_ks.go (mt := own_m0) rfl 64 (pc' := 195) (L' := [.val (.int a0), .val (.int a1), .val (.int a2), .val (.int a3), .val (.int a4), .val (.int a5), .val (.int (0 : Int32)), .val (.int (1 : Int32)), .val (.int (2147483647 : Int32)), .val (.ref 0), .val (.ref 1), .val (.ref 2), .val (.ref 3), .val (.ref 4), .val (.ref 5), .val (.ref 6), .val (.ref 7), .unset, .unset, .unset, .unset, .unset, .unset, .unset, .unset, .unset, .unset]) (S' := [.ref 8, .ref 8]) (H' := own_Ha00) rfl ?_
  refine own_ks.call (mt := own_m0) (mj := own_m1) rfl (ins := .invokespecial 14) (t := 198) (j := 1) (as := [.ref 8]) (r' := [.ref 8]) (v := none) (H' := own_Ha01) (S' := [.ref 8]) rfl rfl rfl rfl rfl (own_run.fuel 207 own_cl00) rfl ?_
  refine own_ks.go (mt := own_m0) rfl 12 (pc' := 220) (L' := [.val (.int a0), .val (.int a1), .val (.int a2), .val (.int a3), .val (.int a4), .val (.int a5), .val (.int (0 : Int32)), .val (.int (1 : Int32)), .val (.int (2147483647 : Int32)), .val (.ref 0), .val (.ref 1), .val (.ref 2), .val (.ref 3), .val (.ref 4), .val (.ref 5), .val (.ref 6), .val (.ref 7), .val (.ref 8), .unset, .unset, .unset, .unset, .unset, .unset, .unset, .unset, .unset]) (S' := [.ref 7, .ref 6, .ref 5, .ref 4, .ref 3, .ref 2, .ref 1, .ref 0, .int (3 : Int32), .int (2 : Int32), .ref 8]) (H' := own_Ha01) rfl ?_
  refine own_ks.call (mt := own_m0) (mj := own_m3) rfl (ins := .invokevirtual 15) (t := 223) (j := 3) (as := [.ref 8, .int (2 : Int32), .int (3 : Int32), .ref 0, .ref 1, .ref 2, .ref 3, .ref 4, .ref 5, .ref 6, .ref 7]) (r' := []) (v := some (.int (1 : Int32))) (H' := own_Hb01) (S' := [.int (1 : Int32)]) rfl rfl rfl rfl rfl (own_run.fuel 5954 own_cl01) rfl ?_
  refine own_ks.go (mt := own_m0) rfl 70 (pc' := 313) (L' := [.val (.int a0), .val (.int a1), .val (.int a2), .val (.int a3), .val (.int a4), .val (.int a5), .val (.int (0 : Int32)), .val (.int (1 : Int32)), .val (.int (2147483647 : Int32)), .val (.ref 0), .val (.ref 1), .val (.ref 2), .val (.ref 3), .val (.ref 4), .val (.ref 5), .val (.ref 6), .val (.ref 7), .val (.ref 8), .unset, .unset, .unset, .unset, .unset, .unset, .unset, .unset, .unset]) (S' := [.int (a5 + (5 : Int32)), .int (5 : Int32), .ref 95, .ref 95]) (H' := [(.inr .int, [.int (1 : Int32), .int (1 : Int32)]), (.inr .int, [.int (0 : Int32), .int (2 : Int32), .int (4 : Int32), .int (4 : Int32)]), (.inr .int, [.int (0 : Int32), .int (1 : Int32), .int (0 : Int32), .int (1 : Int32), .int (0 : Int32), .int (1 : Int32)]), (.inr .int, [.int (0 : Int32), .int (0 : Int32), .int (0 : Int32), .int (0 : Int32), .int (0 : Int32), .int (0 : Int32)]), (.inr .int, [.int (2147483647 : Int32), .int (2147483647 : Int32), .int (2147483647 : Int32), .int (2147483647 : Int32), .int (2147483647 : Int32), .int (2147483647 : Int32)]), (.inr .long, [.long (1 : Int64), .long (1 : Int64)]), (.inr .long, [.long (0 : Int64), .long (0 : Int64), .long (2 : Int64)]), (.inr .int, [.int a5, .int (a5 + (1 : Int32)), .int (a5 + (2 : Int32)), .int (a5 + (3 : Int32)), .int (a5 + (4 : Int32)), .int (a5 + (5 : Int32))]), (.inl 0, [.ref 59, .ref 10, .ref 11, .ref 12, .ref 13, .ref 14, .ref 90, .ref 91, .ref 92, .ref 93, .ref 19, .ref 20, .ref 94, .ref 81, .ref 83, .ref 84, .ref 60, .ref 67, .ref 68, .ref 69, .ref 70, .ref 71, .ref 72, .ref 73, .ref 33, .ref 34, .ref 35, .ref 36, .ref 80, .ref 38, .ref 74, .ref 75, .ref 76, .ref 77, .ref 78, .ref 79, .ref 61, .ref 85, .ref 86, .ref 87, .ref 88, .ref 62, .ref 82, .ref 89, .ref 65, .ref 66, .ref 63, .ref 64, .ref 57, .ref 58, .int (2 : Int32), .int (3 : Int32), .ref 0, .ref 1, .ref 2, .ref 3, .ref 4, .ref 7, .null, .int (4 : Int32), .int (0 : Int32), .int (5 : Int32), .int (6 : Int32), .int (1 : Int32), .int (0 : Int32), .int (0 : Int32), .int (0 : Int32), .long (2 : Int64), .long (2 : Int64), .int (4 : Int32), .int (1 : Int32), .int (0 : Int32)]), (.inr .long, []), (.inr .long, []), (.inr .int, []), (.inr .int, []), (.inr .long, [.long (0 : Int64), .long (0 : Int64), .long (0 : Int64), .long (0 : Int64), .long (0 : Int64), .long (0 : Int64), .long (0 : Int64), .long (0 : Int64), .long (0 : Int64), .long (0 : Int64), .long (0 : Int64), .long (0 : Int64), .long (0 : Int64), .long (0 : Int64), .long (0 : Int64), .long (0 : Int64), .long (0 : Int64), .long (0 : Int64), .long (0 : Int64), .long (0 : Int64), .long (0 : Int64), .long (0 : Int64), .long (0 : Int64), .long (0 : Int64), .long (0 : Int64), .long (0 : Int64), .long (0 : Int64), .long (0 : Int64), .long (0 : Int64), .long (0 : Int64), .long (0 : Int64), .long (0 : Int64), .long (0 : Int64), .long (0 : Int64), .long (0 : Int64), .long (0 : Int64), .long (0 : Int64), .long (0 : Int64), .long (0 : Int64), .long (0 : Int64), .long (0 : Int64), .long (0 : Int64), .long (0 : Int64), .long (0 : Int64), .long (0 : Int64), .long (0 : Int64), .long (0 : Int64), .long (0 : Int64), .long (0 : Int64), .long (0 : Int64), .long (0 : Int64), .long (0 : Int64), .long (0 : Int64), .long (0 : Int64), .long (0 : Int64), .long (0 : Int64), .long (0 : Int64), .long (0 : Int64), .long (0 : Int64), .long (0 : Int64), .long (0 : Int64), .long (0 : Int64), .long (0 : Int64), .long (0 : Int64)]), (.inr .int, [.int (0 : Int32), .int (0 : Int32), .int (0 : Int32), .int (0 : Int32), .int (0 : Int32), .int (0 : Int32), .int (0 : Int32), .int (0 : Int32), .int (0 : Int32), .int (0 : Int32), .int (0 : Int32), .int (0 : Int32), .int (0 : Int32), .int (0 : Int32), .int (0 : Int32), .int (0 : Int32), .int (0 : Int32), .int (0 : Int32), .int (0 : Int32), .int (0 : Int32), .int (0 : Int32), .int (0 : Int32), .int (0 : Int32), .int (0 : Int32), .int (0 : Int32), .int (0 : Int32), .int (0 : Int32), .int (0 : Int32), .int (0 : Int32), .int (0 : Int32), .int (0 : Int32), .int (0 : Int32), .int (0 : Int32), .int (0 : Int32), .int (0 : Int32), .int (0 : Int32), .int (0 : Int32), .int (0 : Int32), .int (0 : Int32), .int (0 : Int32), .int (0 : Int32), .int (0 : Int32), .int (0 : Int32), .int (0 : Int32), .int (0 : Int32), .int (0 : Int32), .int (0 : Int32), .int (0 : Int32), .int (0 : Int32), .int (0 : Int32), .int (0 : Int32), .int (0 : Int32), .int (0 : Int32), .int (0 : Int32), .int (0 : Int32), .int (0 : Int32), .int (0 : Int32), .int (0 : Int32), .int (0 : Int32), .int (0 : Int32), .int (0 : Int32), .int (0 : Int32), .int (0 : Int32), .int (0 : Int32)]), (.inr .int, []), (.inr .int, []), (.inr .int, []), (.inr .int, []), (.inr .int, []), (.inr .int, []), (.inr .int, []), (.inr .int, []), (.inr .int, []), (.inr .int, []), (.inr .long, []), (.inr .long, []), (.inr .long, []), (.inr .long, []), (.inr .long, []), (.inr .long, []), (.inr .long, []), (.inr .int, []), (.inr .int, [.int (0 : Int32), .int (0 : Int32), .int (0 : Int32), .int (0 : Int32), .int (0 : Int32), .int (0 : Int32), .int (0 : Int32), .int (0 : Int32)]), (.inr .long, [.long (0 : Int64), .long (0 : Int64), .long (0 : Int64), .long (0 : Int64), .long (0 : Int64), .long (0 : Int64), .long (0 : Int64), .long (0 : Int64)]), (.inr .int, [.int (0 : Int32), .int (0 : Int32), .int (0 : Int32), .int (0 : Int32), .int (0 : Int32), .int (0 : Int32), .int (0 : Int32), .int (0 : Int32)]), (.inr .long, [.long (0 : Int64), .long (0 : Int64), .long (0 : Int64), .long (0 : Int64), .long (0 : Int64), .long (0 : Int64), .long (0 : Int64), .long (0 : Int64)]), (.inr .int, []), (.inr .int, []), (.inr .int, []), (.inr .long, []), (.inr .long, []), (.inr .long, []), (.inr .int, []), (.inr .int, []), (.inr .int, []), (.inr .int, []), (.inr .int, []), (.inr .int, []), (.inr .int, []), (.inr .int, []), (.inr .int, []), (.inr .int, []), (.inr .int, []), (.inr .int, []), (.inr .int, []), (.inr .int, []), (.inr .int, []), (.inr .long, []), (.inr .long, [.long (0 : Int64), .long (0 : Int64), .long (0 : Int64), .long (1 : Int64), .long (1 : Int64), .long (0 : Int64), .long (0 : Int64)]), (.inr .long, [.long (-2 : Int64), .long (0 : Int64), .long (2 : Int64)]), (.inr .int, [.int (0 : Int32), .int (2 : Int32), .int (4 : Int32), .int (4 : Int32)]), (.inr .int, [.int (0 : Int32), .int (2 : Int32), .int (4 : Int32), .int (4 : Int32)]), (.inr .int, [.int (0 : Int32), .int (0 : Int32), .int (0 : Int32)]), (.inr .int, [.int (0 : Int32), .int (0 : Int32), .int (0 : Int32)]), (.inr .int, [.int (0 : Int32), .int (0 : Int32)]), (.inr .int, [.int (0 : Int32), .int (0 : Int32)]), (.inr .long, [.long (0 : Int64), .long (0 : Int64)]), (.inr .long, [.long (0 : Int64), .long (0 : Int64)]), (.inr .long, [.long (0 : Int64), .long (0 : Int64)]), (.inr .long, [.long (0 : Int64), .long (0 : Int64)]), (.inr .long, [.long (9223372036854775807 : Int64), .long (9223372036854775807 : Int64)]), (.inr .long, [.long (-9223372036854775808 : Int64), .long (-9223372036854775808 : Int64)]), (.inr .int, [.int (2 : Int32), .int (2 : Int32)]), (.inr .int, [.int (0 : Int32), .int (1 : Int32)]), (.inr .long, [.long (0 : Int64), .long (0 : Int64)]), (.inr .long, [.long (0 : Int64), .long (0 : Int64)]), (.inr .long, [.long (0 : Int64), .long (0 : Int64)]), (.inr .int, [.int (2 : Int32), .int (4 : Int32)]), (.inr .int, [.int (0 : Int32), .int (0 : Int32)]), (.inr .int, [.int (0 : Int32), .int (0 : Int32)]), (.inr .int, [.int (0 : Int32), .int (2 : Int32), .int (4 : Int32)]), (.inr .int, [.int (0 : Int32), .int (2 : Int32), .int (4 : Int32)]), (.inr .int, [.int (0 : Int32), .int (2 : Int32), .int (1 : Int32), .int (3 : Int32)]), (.inr .int, [.int (0 : Int32), .int (0 : Int32), .int (1 : Int32), .int (1 : Int32)]), (.inr .int, [.int (0 : Int32), .int (1 : Int32), .int (2 : Int32), .int (3 : Int32)]), (.inr .int, [.int (0 : Int32), .int (1 : Int32), .int (2 : Int32), .int (3 : Int32)]), (.inr .int, [.int (0 : Int32), .int (0 : Int32), .int (0 : Int32), .int (0 : Int32)]), (.inr .int, [.int (1 : Int32), .int (1 : Int32), .int (1 : Int32), .int (1 : Int32)]), (.inr .int, [.int (0 : Int32), .int (2 : Int32), .int (1 : Int32), .int (3 : Int32)]), (.inr .int, [.int (-1 : Int32), .int (-1 : Int32), .int (1 : Int32), .int (-1 : Int32), .int (-1 : Int32), .int (0 : Int32), .int (-1 : Int32)]), (.inr .int, [.int (0 : Int32), .int (0 : Int32), .int (0 : Int32), .int (0 : Int32), .int (0 : Int32), .int (0 : Int32), .int (0 : Int32)]), (.inr .int, [.int (5 : Int32), .int (2 : Int32), .int (0 : Int32), .int (0 : Int32), .int (0 : Int32), .int (0 : Int32), .int (0 : Int32)]), (.inr .int, [.int (0 : Int32), .int (0 : Int32), .int (0 : Int32), .int (0 : Int32), .int (0 : Int32), .int (0 : Int32), .int (0 : Int32)]), (.inr .int, [.int (0 : Int32), .int (0 : Int32), .int (0 : Int32), .int (0 : Int32), .int (0 : Int32), .int (0 : Int32), .int (0 : Int32)]), (.inr .int, [.int a5, .int (a5 + (1 : Int32)), .int (a5 + (2 : Int32)), .int (a5 + (3 : Int32)), .int (a5 + (4 : Int32)), .int (0 : Int32)])]) rfl ?_
  refine own_ks.go (mt := own_m0) rfl 23 (pc' := 345) (L' := [.val (.int a0), .val (.int a1), .val (.int a2), .val (.int a3), .val (.int a4), .val (.int a5), .val (.int (0 : Int32)), .val (.int (1 : Int32)), .val (.int (2147483647 : Int32)), .val (.ref 0), .val (.ref 1), .val (.ref 2), .val (.ref 3), .val (.ref 4), .val (.ref 5), .val (.ref 6), .val (.ref 7), .val (.ref 8), .val (.ref 95), .val (.ref 96), .unset, .unset, .unset, .unset, .unset, .unset, .unset]) (S' := []) (H' := [(.inr .int, [.int (1 : Int32), .int (1 : Int32)]), (.inr .int, [.int (0 : Int32), .int (2 : Int32), .int (4 : Int32), .int (4 : Int32)]), (.inr .int, [.int (0 : Int32), .int (1 : Int32), .int (0 : Int32), .int (1 : Int32), .int (0 : Int32), .int (1 : Int32)]), (.inr .int, [.int (0 : Int32), .int (0 : Int32), .int (0 : Int32), .int (0 : Int32), .int (0 : Int32), .int (0 : Int32)]), (.inr .int, [.int (2147483647 : Int32), .int (2147483647 : Int32), .int (2147483647 : Int32), .int (2147483647 : Int32), .int (2147483647 : Int32), .int (2147483647 : Int32)]), (.inr .long, [.long (1 : Int64), .long (1 : Int64)]), (.inr .long, [.long (0 : Int64), .long (0 : Int64), .long (2 : Int64)]), (.inr .int, [.int a5, .int (a5 + (1 : Int32)), .int (a5 + (2 : Int32)), .int (a5 + (3 : Int32)), .int (a5 + (4 : Int32)), .int (a5 + (5 : Int32))]), (.inl 0, [.ref 59, .ref 10, .ref 11, .ref 12, .ref 13, .ref 14, .ref 90, .ref 91, .ref 92, .ref 93, .ref 19, .ref 20, .ref 94, .ref 81, .ref 83, .ref 84, .ref 60, .ref 67, .ref 68, .ref 69, .ref 70, .ref 71, .ref 72, .ref 73, .ref 33, .ref 34, .ref 35, .ref 36, .ref 80, .ref 38, .ref 74, .ref 75, .ref 76, .ref 77, .ref 78, .ref 79, .ref 61, .ref 85, .ref 86, .ref 87, .ref 88, .ref 62, .ref 82, .ref 89, .ref 65, .ref 66, .ref 63, .ref 64, .ref 57, .ref 58, .int (2 : Int32), .int (3 : Int32), .ref 0, .ref 1, .ref 2, .ref 3, .ref 4, .ref 7, .null, .int (4 : Int32), .int (0 : Int32), .int (5 : Int32), .int (6 : Int32), .int (1 : Int32), .int (0 : Int32), .int (0 : Int32), .int (0 : Int32), .long (2 : Int64), .long (2 : Int64), .int (4 : Int32), .int (1 : Int32), .int (0 : Int32)]), (.inr .long, []), (.inr .long, []), (.inr .int, []), (.inr .int, []), (.inr .long, [.long (0 : Int64), .long (0 : Int64), .long (0 : Int64), .long (0 : Int64), .long (0 : Int64), .long (0 : Int64), .long (0 : Int64), .long (0 : Int64), .long (0 : Int64), .long (0 : Int64), .long (0 : Int64), .long (0 : Int64), .long (0 : Int64), .long (0 : Int64), .long (0 : Int64), .long (0 : Int64), .long (0 : Int64), .long (0 : Int64), .long (0 : Int64), .long (0 : Int64), .long (0 : Int64), .long (0 : Int64), .long (0 : Int64), .long (0 : Int64), .long (0 : Int64), .long (0 : Int64), .long (0 : Int64), .long (0 : Int64), .long (0 : Int64), .long (0 : Int64), .long (0 : Int64), .long (0 : Int64), .long (0 : Int64), .long (0 : Int64), .long (0 : Int64), .long (0 : Int64), .long (0 : Int64), .long (0 : Int64), .long (0 : Int64), .long (0 : Int64), .long (0 : Int64), .long (0 : Int64), .long (0 : Int64), .long (0 : Int64), .long (0 : Int64), .long (0 : Int64), .long (0 : Int64), .long (0 : Int64), .long (0 : Int64), .long (0 : Int64), .long (0 : Int64), .long (0 : Int64), .long (0 : Int64), .long (0 : Int64), .long (0 : Int64), .long (0 : Int64), .long (0 : Int64), .long (0 : Int64), .long (0 : Int64), .long (0 : Int64), .long (0 : Int64), .long (0 : Int64), .long (0 : Int64), .long (0 : Int64)]), (.inr .int, [.int (0 : Int32), .int (0 : Int32), .int (0 : Int32), .int (0 : Int32), .int (0 : Int32), .int (0 : Int32), .int (0 : Int32), .int (0 : Int32), .int (0 : Int32), .int (0 : Int32), .int (0 : Int32), .int (0 : Int32), .int (0 : Int32), .int (0 : Int32), .int (0 : Int32), .int (0 : Int32), .int (0 : Int32), .int (0 : Int32), .int (0 : Int32), .int (0 : Int32), .int (0 : Int32), .int (0 : Int32), .int (0 : Int32), .int (0 : Int32), .int (0 : Int32), .int (0 : Int32), .int (0 : Int32), .int (0 : Int32), .int (0 : Int32), .int (0 : Int32), .int (0 : Int32), .int (0 : Int32), .int (0 : Int32), .int (0 : Int32), .int (0 : Int32), .int (0 : Int32), .int (0 : Int32), .int (0 : Int32), .int (0 : Int32), .int (0 : Int32), .int (0 : Int32), .int (0 : Int32), .int (0 : Int32), .int (0 : Int32), .int (0 : Int32), .int (0 : Int32), .int (0 : Int32), .int (0 : Int32), .int (0 : Int32), .int (0 : Int32), .int (0 : Int32), .int (0 : Int32), .int (0 : Int32), .int (0 : Int32), .int (0 : Int32), .int (0 : Int32), .int (0 : Int32), .int (0 : Int32), .int (0 : Int32), .int (0 : Int32), .int (0 : Int32), .int (0 : Int32), .int (0 : Int32), .int (0 : Int32)]), (.inr .int, []), (.inr .int, []), (.inr .int, []), (.inr .int, []), (.inr .int, []), (.inr .int, []), (.inr .int, []), (.inr .int, []), (.inr .int, []), (.inr .int, []), (.inr .long, []), (.inr .long, []), (.inr .long, []), (.inr .long, []), (.inr .long, []), (.inr .long, []), (.inr .long, []), (.inr .int, []), (.inr .int, [.int (0 : Int32), .int (0 : Int32), .int (0 : Int32), .int (0 : Int32), .int (0 : Int32), .int (0 : Int32), .int (0 : Int32), .int (0 : Int32)]), (.inr .long, [.long (0 : Int64), .long (0 : Int64), .long (0 : Int64), .long (0 : Int64), .long (0 : Int64), .long (0 : Int64), .long (0 : Int64), .long (0 : Int64)]), (.inr .int, [.int (0 : Int32), .int (0 : Int32), .int (0 : Int32), .int (0 : Int32), .int (0 : Int32), .int (0 : Int32), .int (0 : Int32), .int (0 : Int32)]), (.inr .long, [.long (0 : Int64), .long (0 : Int64), .long (0 : Int64), .long (0 : Int64), .long (0 : Int64), .long (0 : Int64), .long (0 : Int64), .long (0 : Int64)]), (.inr .int, []), (.inr .int, []), (.inr .int, []), (.inr .long, []), (.inr .long, []), (.inr .long, []), (.inr .int, []), (.inr .int, []), (.inr .int, []), (.inr .int, []), (.inr .int, []), (.inr .int, []), (.inr .int, []), (.inr .int, []), (.inr .int, []), (.inr .int, []), (.inr .int, []), (.inr .int, []), (.inr .int, []), (.inr .int, []), (.inr .int, []), (.inr .long, []), (.inr .long, [.long (0 : Int64), .long (0 : Int64), .long (0 : Int64), .long (1 : Int64), .long (1 : Int64), .long (0 : Int64), .long (0 : Int64)]), (.inr .long, [.long (-2 : Int64), .long (0 : Int64), .long (2 : Int64)]), (.inr .int, [.int (0 : Int32), .int (2 : Int32), .int (4 : Int32), .int (4 : Int32)]), (.inr .int, [.int (0 : Int32), .int (2 : Int32), .int (4 : Int32), .int (4 : Int32)]), (.inr .int, [.int (0 : Int32), .int (0 : Int32), .int (0 : Int32)]), (.inr .int, [.int (0 : Int32), .int (0 : Int32), .int (0 : Int32)]), (.inr .int, [.int (0 : Int32), .int (0 : Int32)]), (.inr .int, [.int (0 : Int32), .int (0 : Int32)]), (.inr .long, [.long (0 : Int64), .long (0 : Int64)]), (.inr .long, [.long (0 : Int64), .long (0 : Int64)]), (.inr .long, [.long (0 : Int64), .long (0 : Int64)]), (.inr .long, [.long (0 : Int64), .long (0 : Int64)]), (.inr .long, [.long (9223372036854775807 : Int64), .long (9223372036854775807 : Int64)]), (.inr .long, [.long (-9223372036854775808 : Int64), .long (-9223372036854775808 : Int64)]), (.inr .int, [.int (2 : Int32), .int (2 : Int32)]), (.inr .int, [.int (0 : Int32), .int (1 : Int32)]), (.inr .long, [.long (0 : Int64), .long (0 : Int64)]), (.inr .long, [.long (0 : Int64), .long (0 : Int64)]), (.inr .long, [.long (0 : Int64), .long (0 : Int64)]), (.inr .int, [.int (2 : Int32), .int (4 : Int32)]), (.inr .int, [.int (0 : Int32), .int (0 : Int32)]), (.inr .int, [.int (0 : Int32), .int (0 : Int32)]), (.inr .int, [.int (0 : Int32), .int (2 : Int32), .int (4 : Int32)]), (.inr .int, [.int (0 : Int32), .int (2 : Int32), .int (4 : Int32)]), (.inr .int, [.int (0 : Int32), .int (2 : Int32), .int (1 : Int32), .int (3 : Int32)]), (.inr .int, [.int (0 : Int32), .int (0 : Int32), .int (1 : Int32), .int (1 : Int32)]), (.inr .int, [.int (0 : Int32), .int (1 : Int32), .int (2 : Int32), .int (3 : Int32)]), (.inr .int, [.int (0 : Int32), .int (1 : Int32), .int (2 : Int32), .int (3 : Int32)]), (.inr .int, [.int (0 : Int32), .int (0 : Int32), .int (0 : Int32), .int (0 : Int32)]), (.inr .int, [.int (1 : Int32), .int (1 : Int32), .int (1 : Int32), .int (1 : Int32)]), (.inr .int, [.int (0 : Int32), .int (2 : Int32), .int (1 : Int32), .int (3 : Int32)]), (.inr .int, [.int (-1 : Int32), .int (-1 : Int32), .int (1 : Int32), .int (-1 : Int32), .int (-1 : Int32), .int (0 : Int32), .int (-1 : Int32)]), (.inr .int, [.int (0 : Int32), .int (0 : Int32), .int (0 : Int32), .int (0 : Int32), .int (0 : Int32), .int (0 : Int32), .int (0 : Int32)]), (.inr .int, [.int (5 : Int32), .int (2 : Int32), .int (0 : Int32), .int (0 : Int32), .int (0 : Int32), .int (0 : Int32), .int (0 : Int32)]), (.inr .int, [.int (0 : Int32), .int (0 : Int32), .int (0 : Int32), .int (0 : Int32), .int (0 : Int32), .int (0 : Int32), .int (0 : Int32)]), (.inr .int, [.int (0 : Int32), .int (0 : Int32), .int (0 : Int32), .int (0 : Int32), .int (0 : Int32), .int (0 : Int32), .int (0 : Int32)]), (.inr .int, [.int a5, .int (a5 + (1 : Int32)), .int (a5 + (2 : Int32)), .int (a5 + (3 : Int32)), .int (a5 + (4 : Int32)), .int (a5 + (5 : Int32))]), (.inr .long, [.long (-2 : Int64), .long (0 : Int64), .long (2 : Int64)])]) rfl ?_
  exact own_t345_0 a0 a1 a2 a3 a4 a5 a5 (a5 + (1 : Int32)) (a5 + (2 : Int32)) (a5 + (3 : Int32)) (a5 + (4 : Int32)) (a5 + (5 : Int32)) (-2 : Int64) (0 : Int64) (2 : Int64)
def own_Ha10 : OHeap := [(.inr .int, [.int (1 : Int32), .int (1 : Int32)]), (.inr .int, [.int (0 : Int32), .int (2 : Int32), .int (4 : Int32), .int (6 : Int32)]), (.inr .int, [.int (0 : Int32), .int (1 : Int32), .int (0 : Int32), .int (1 : Int32), .int (0 : Int32), .int (1 : Int32)]), (.inr .int, [.int (0 : Int32), .int (0 : Int32), .int (0 : Int32), .int (0 : Int32), .int (0 : Int32), .int (0 : Int32)]), (.inr .int, [.int (2147483647 : Int32), .int (2147483647 : Int32), .int (2147483647 : Int32), .int (2147483647 : Int32), .int (2147483647 : Int32), .int (2147483647 : Int32)]), (.inr .long, [.long (0 : Int64), .long (0 : Int64)]), (.inr .long, [.long (0 : Int64), .long (0 : Int64), .long (0 : Int64)]), (.inr .int, [.int (0 : Int32), .int (0 : Int32), .int (0 : Int32), .int (0 : Int32), .int (0 : Int32), .int (0 : Int32)]), (.inl 0, [.null, .null, .null, .null, .null, .null, .null, .null, .null, .null, .null, .null, .null, .null, .null, .null, .null, .null, .null, .null, .null, .null, .null, .null, .null, .null, .null, .null, .null, .null, .null, .null, .null, .null, .null, .null, .null, .null, .null, .null, .null, .null, .null, .null, .null, .null, .null, .null, .null, .null, .int (0 : Int32), .int (0 : Int32), .null, .null, .null, .null, .null, .null, .null, .int (0 : Int32), .int (0 : Int32), .int (0 : Int32), .int (0 : Int32), .int (0 : Int32), .int (0 : Int32), .int (0 : Int32), .int (0 : Int32), .long (0 : Int64), .long (0 : Int64), .int (0 : Int32), .int (0 : Int32), .int (0 : Int32)])]
def own_Hb10 : OHeap := [(.inr .int, [.int (1 : Int32), .int (1 : Int32)]), (.inr .int, [.int (0 : Int32), .int (2 : Int32), .int (4 : Int32), .int (6 : Int32)]), (.inr .int, [.int (0 : Int32), .int (1 : Int32), .int (0 : Int32), .int (1 : Int32), .int (0 : Int32), .int (1 : Int32)]), (.inr .int, [.int (0 : Int32), .int (0 : Int32), .int (0 : Int32), .int (0 : Int32), .int (0 : Int32), .int (0 : Int32)]), (.inr .int, [.int (2147483647 : Int32), .int (2147483647 : Int32), .int (2147483647 : Int32), .int (2147483647 : Int32), .int (2147483647 : Int32), .int (2147483647 : Int32)]), (.inr .long, [.long (0 : Int64), .long (0 : Int64)]), (.inr .long, [.long (0 : Int64), .long (0 : Int64), .long (0 : Int64)]), (.inr .int, [.int (0 : Int32), .int (0 : Int32), .int (0 : Int32), .int (0 : Int32), .int (0 : Int32), .int (0 : Int32)]), (.inl 0, [.ref 9, .ref 10, .ref 11, .ref 12, .ref 13, .ref 14, .ref 15, .ref 16, .ref 17, .ref 18, .ref 19, .ref 20, .ref 21, .ref 22, .ref 23, .ref 24, .ref 25, .ref 26, .ref 27, .ref 28, .ref 29, .ref 30, .ref 31, .ref 32, .ref 33, .ref 34, .ref 35, .ref 36, .ref 37, .ref 38, .ref 39, .ref 40, .ref 41, .ref 42, .ref 43, .ref 44, .ref 45, .ref 46, .ref 47, .ref 48, .ref 49, .ref 50, .ref 51, .ref 52, .ref 53, .ref 54, .ref 55, .ref 56, .ref 57, .ref 58, .int (0 : Int32), .int (0 : Int32), .null, .null, .null, .null, .null, .null, .null, .int (0 : Int32), .int (0 : Int32), .int (0 : Int32), .int (0 : Int32), .int (0 : Int32), .int (0 : Int32), .int (0 : Int32), .int (0 : Int32), .long (0 : Int64), .long (0 : Int64), .int (0 : Int32), .int (0 : Int32), .int (0 : Int32)]), (.inr .long, []), (.inr .long, []), (.inr .int, []), (.inr .int, []), (.inr .long, [.long (0 : Int64), .long (0 : Int64), .long (0 : Int64), .long (0 : Int64), .long (0 : Int64), .long (0 : Int64), .long (0 : Int64), .long (0 : Int64), .long (0 : Int64), .long (0 : Int64), .long (0 : Int64), .long (0 : Int64), .long (0 : Int64), .long (0 : Int64), .long (0 : Int64), .long (0 : Int64), .long (0 : Int64), .long (0 : Int64), .long (0 : Int64), .long (0 : Int64), .long (0 : Int64), .long (0 : Int64), .long (0 : Int64), .long (0 : Int64), .long (0 : Int64), .long (0 : Int64), .long (0 : Int64), .long (0 : Int64), .long (0 : Int64), .long (0 : Int64), .long (0 : Int64), .long (0 : Int64), .long (0 : Int64), .long (0 : Int64), .long (0 : Int64), .long (0 : Int64), .long (0 : Int64), .long (0 : Int64), .long (0 : Int64), .long (0 : Int64), .long (0 : Int64), .long (0 : Int64), .long (0 : Int64), .long (0 : Int64), .long (0 : Int64), .long (0 : Int64), .long (0 : Int64), .long (0 : Int64), .long (0 : Int64), .long (0 : Int64), .long (0 : Int64), .long (0 : Int64), .long (0 : Int64), .long (0 : Int64), .long (0 : Int64), .long (0 : Int64), .long (0 : Int64), .long (0 : Int64), .long (0 : Int64), .long (0 : Int64), .long (0 : Int64), .long (0 : Int64), .long (0 : Int64), .long (0 : Int64)]), (.inr .int, [.int (0 : Int32), .int (0 : Int32), .int (0 : Int32), .int (0 : Int32), .int (0 : Int32), .int (0 : Int32), .int (0 : Int32), .int (0 : Int32), .int (0 : Int32), .int (0 : Int32), .int (0 : Int32), .int (0 : Int32), .int (0 : Int32), .int (0 : Int32), .int (0 : Int32), .int (0 : Int32), .int (0 : Int32), .int (0 : Int32), .int (0 : Int32), .int (0 : Int32), .int (0 : Int32), .int (0 : Int32), .int (0 : Int32), .int (0 : Int32), .int (0 : Int32), .int (0 : Int32), .int (0 : Int32), .int (0 : Int32), .int (0 : Int32), .int (0 : Int32), .int (0 : Int32), .int (0 : Int32), .int (0 : Int32), .int (0 : Int32), .int (0 : Int32), .int (0 : Int32), .int (0 : Int32), .int (0 : Int32), .int (0 : Int32), .int (0 : Int32), .int (0 : Int32), .int (0 : Int32), .int (0 : Int32), .int (0 : Int32), .int (0 : Int32), .int (0 : Int32), .int (0 : Int32), .int (0 : Int32), .int (0 : Int32), .int (0 : Int32), .int (0 : Int32), .int (0 : Int32), .int (0 : Int32), .int (0 : Int32), .int (0 : Int32), .int (0 : Int32), .int (0 : Int32), .int (0 : Int32), .int (0 : Int32), .int (0 : Int32), .int (0 : Int32), .int (0 : Int32), .int (0 : Int32), .int (0 : Int32)]), (.inr .int, []), (.inr .int, []), (.inr .int, []), (.inr .int, []), (.inr .int, []), (.inr .int, []), (.inr .int, []), (.inr .int, []), (.inr .int, []), (.inr .int, []), (.inr .long, []), (.inr .long, []), (.inr .long, []), (.inr .long, []), (.inr .long, []), (.inr .long, []), (.inr .long, []), (.inr .int, []), (.inr .int, [.int (0 : Int32), .int (0 : Int32), .int (0 : Int32), .int (0 : Int32), .int (0 : Int32), .int (0 : Int32), .int (0 : Int32), .int (0 : Int32)]), (.inr .long, [.long (0 : Int64), .long (0 : Int64), .long (0 : Int64), .long (0 : Int64), .long (0 : Int64), .long (0 : Int64), .long (0 : Int64), .long (0 : Int64)]), (.inr .int, [.int (0 : Int32), .int (0 : Int32), .int (0 : Int32), .int (0 : Int32), .int (0 : Int32), .int (0 : Int32), .int (0 : Int32), .int (0 : Int32)]), (.inr .long, [.long (0 : Int64), .long (0 : Int64), .long (0 : Int64), .long (0 : Int64), .long (0 : Int64), .long (0 : Int64), .long (0 : Int64), .long (0 : Int64)]), (.inr .int, []), (.inr .int, []), (.inr .int, []), (.inr .long, []), (.inr .long, []), (.inr .long, []), (.inr .int, []), (.inr .int, []), (.inr .int, []), (.inr .int, []), (.inr .int, []), (.inr .int, []), (.inr .int, []), (.inr .int, []), (.inr .int, []), (.inr .int, []), (.inr .int, []), (.inr .int, []), (.inr .int, []), (.inr .int, []), (.inr .int, []), (.inr .long, [])]
set_option maxRecDepth 1000000 in
set_option maxHeartbeats 40000000 in
theorem own_cl10 : own_exec own_P 207 1 11 291 0 (own_entry [.ref 8] own_m1.ml) [] own_Ha10 = some (none, own_Hb10) := by decide +kernel
def own_Ha11 : OHeap := [(.inr .int, [.int (1 : Int32), .int (1 : Int32)]), (.inr .int, [.int (0 : Int32), .int (2 : Int32), .int (4 : Int32), .int (6 : Int32)]), (.inr .int, [.int (0 : Int32), .int (1 : Int32), .int (0 : Int32), .int (1 : Int32), .int (0 : Int32), .int (1 : Int32)]), (.inr .int, [.int (0 : Int32), .int (0 : Int32), .int (0 : Int32), .int (0 : Int32), .int (0 : Int32), .int (0 : Int32)]), (.inr .int, [.int (2147483647 : Int32), .int (2147483647 : Int32), .int (2147483647 : Int32), .int (2147483647 : Int32), .int (2147483647 : Int32), .int (2147483647 : Int32)]), (.inr .long, [.long (0 : Int64), .long (0 : Int64)]), (.inr .long, [.long (0 : Int64), .long (0 : Int64), .long (0 : Int64)]), (.inr .int, [.int (0 : Int32), .int (0 : Int32), .int (0 : Int32), .int (0 : Int32), .int (0 : Int32), .int (0 : Int32)]), (.inl 0, [.ref 9, .ref 10, .ref 11, .ref 12, .ref 13, .ref 14, .ref 15, .ref 16, .ref 17, .ref 18, .ref 19, .ref 20, .ref 21, .ref 22, .ref 23, .ref 24, .ref 25, .ref 26, .ref 27, .ref 28, .ref 29, .ref 30, .ref 31, .ref 32, .ref 33, .ref 34, .ref 35, .ref 36, .ref 37, .ref 38, .ref 39, .ref 40, .ref 41, .ref 42, .ref 43, .ref 44, .ref 45, .ref 46, .ref 47, .ref 48, .ref 49, .ref 50, .ref 51, .ref 52, .ref 53, .ref 54, .ref 55, .ref 56, .ref 57, .ref 58, .int (0 : Int32), .int (0 : Int32), .null, .null, .null, .null, .null, .null, .null, .int (0 : Int32), .int (0 : Int32), .int (0 : Int32), .int (0 : Int32), .int (0 : Int32), .int (0 : Int32), .int (0 : Int32), .int (0 : Int32), .long (0 : Int64), .long (0 : Int64), .int (0 : Int32), .int (0 : Int32), .int (0 : Int32)]), (.inr .long, []), (.inr .long, []), (.inr .int, []), (.inr .int, []), (.inr .long, [.long (0 : Int64), .long (0 : Int64), .long (0 : Int64), .long (0 : Int64), .long (0 : Int64), .long (0 : Int64), .long (0 : Int64), .long (0 : Int64), .long (0 : Int64), .long (0 : Int64), .long (0 : Int64), .long (0 : Int64), .long (0 : Int64), .long (0 : Int64), .long (0 : Int64), .long (0 : Int64), .long (0 : Int64), .long (0 : Int64), .long (0 : Int64), .long (0 : Int64), .long (0 : Int64), .long (0 : Int64), .long (0 : Int64), .long (0 : Int64), .long (0 : Int64), .long (0 : Int64), .long (0 : Int64), .long (0 : Int64), .long (0 : Int64), .long (0 : Int64), .long (0 : Int64), .long (0 : Int64), .long (0 : Int64), .long (0 : Int64), .long (0 : Int64), .long (0 : Int64), .long (0 : Int64), .long (0 : Int64), .long (0 : Int64), .long (0 : Int64), .long (0 : Int64), .long (0 : Int64), .long (0 : Int64), .long (0 : Int64), .long (0 : Int64), .long (0 : Int64), .long (0 : Int64), .long (0 : Int64), .long (0 : Int64), .long (0 : Int64), .long (0 : Int64), .long (0 : Int64), .long (0 : Int64), .long (0 : Int64), .long (0 : Int64), .long (0 : Int64), .long (0 : Int64), .long (0 : Int64), .long (0 : Int64), .long (0 : Int64), .long (0 : Int64), .long (0 : Int64), .long (0 : Int64), .long (0 : Int64)]), (.inr .int, [.int (0 : Int32), .int (0 : Int32), .int (0 : Int32), .int (0 : Int32), .int (0 : Int32), .int (0 : Int32), .int (0 : Int32), .int (0 : Int32), .int (0 : Int32), .int (0 : Int32), .int (0 : Int32), .int (0 : Int32), .int (0 : Int32), .int (0 : Int32), .int (0 : Int32), .int (0 : Int32), .int (0 : Int32), .int (0 : Int32), .int (0 : Int32), .int (0 : Int32), .int (0 : Int32), .int (0 : Int32), .int (0 : Int32), .int (0 : Int32), .int (0 : Int32), .int (0 : Int32), .int (0 : Int32), .int (0 : Int32), .int (0 : Int32), .int (0 : Int32), .int (0 : Int32), .int (0 : Int32), .int (0 : Int32), .int (0 : Int32), .int (0 : Int32), .int (0 : Int32), .int (0 : Int32), .int (0 : Int32), .int (0 : Int32), .int (0 : Int32), .int (0 : Int32), .int (0 : Int32), .int (0 : Int32), .int (0 : Int32), .int (0 : Int32), .int (0 : Int32), .int (0 : Int32), .int (0 : Int32), .int (0 : Int32), .int (0 : Int32), .int (0 : Int32), .int (0 : Int32), .int (0 : Int32), .int (0 : Int32), .int (0 : Int32), .int (0 : Int32), .int (0 : Int32), .int (0 : Int32), .int (0 : Int32), .int (0 : Int32), .int (0 : Int32), .int (0 : Int32), .int (0 : Int32), .int (0 : Int32)]), (.inr .int, []), (.inr .int, []), (.inr .int, []), (.inr .int, []), (.inr .int, []), (.inr .int, []), (.inr .int, []), (.inr .int, []), (.inr .int, []), (.inr .int, []), (.inr .long, []), (.inr .long, []), (.inr .long, []), (.inr .long, []), (.inr .long, []), (.inr .long, []), (.inr .long, []), (.inr .int, []), (.inr .int, [.int (0 : Int32), .int (0 : Int32), .int (0 : Int32), .int (0 : Int32), .int (0 : Int32), .int (0 : Int32), .int (0 : Int32), .int (0 : Int32)]), (.inr .long, [.long (0 : Int64), .long (0 : Int64), .long (0 : Int64), .long (0 : Int64), .long (0 : Int64), .long (0 : Int64), .long (0 : Int64), .long (0 : Int64)]), (.inr .int, [.int (0 : Int32), .int (0 : Int32), .int (0 : Int32), .int (0 : Int32), .int (0 : Int32), .int (0 : Int32), .int (0 : Int32), .int (0 : Int32)]), (.inr .long, [.long (0 : Int64), .long (0 : Int64), .long (0 : Int64), .long (0 : Int64), .long (0 : Int64), .long (0 : Int64), .long (0 : Int64), .long (0 : Int64)]), (.inr .int, []), (.inr .int, []), (.inr .int, []), (.inr .long, []), (.inr .long, []), (.inr .long, []), (.inr .int, []), (.inr .int, []), (.inr .int, []), (.inr .int, []), (.inr .int, []), (.inr .int, []), (.inr .int, []), (.inr .int, []), (.inr .int, []), (.inr .int, []), (.inr .int, []), (.inr .int, []), (.inr .int, []), (.inr .int, []), (.inr .int, []), (.inr .long, [])]
def own_Hb11 : OHeap := [(.inr .int, [.int (1 : Int32), .int (1 : Int32)]), (.inr .int, [.int (0 : Int32), .int (2 : Int32), .int (4 : Int32), .int (6 : Int32)]), (.inr .int, [.int (0 : Int32), .int (1 : Int32), .int (0 : Int32), .int (1 : Int32), .int (0 : Int32), .int (1 : Int32)]), (.inr .int, [.int (0 : Int32), .int (0 : Int32), .int (0 : Int32), .int (0 : Int32), .int (0 : Int32), .int (0 : Int32)]), (.inr .int, [.int (2147483647 : Int32), .int (2147483647 : Int32), .int (2147483647 : Int32), .int (2147483647 : Int32), .int (2147483647 : Int32), .int (2147483647 : Int32)]), (.inr .long, [.long (0 : Int64), .long (0 : Int64)]), (.inr .long, [.long (0 : Int64), .long (0 : Int64), .long (0 : Int64)]), (.inr .int, [.int (0 : Int32), .int (0 : Int32), .int (0 : Int32), .int (0 : Int32), .int (0 : Int32), .int (0 : Int32)]), (.inl 0, [.ref 59, .ref 10, .ref 11, .ref 12, .ref 13, .ref 14, .ref 15, .ref 16, .ref 17, .ref 18, .ref 19, .ref 20, .ref 21, .ref 81, .ref 23, .ref 24, .ref 60, .ref 67, .ref 68, .ref 69, .ref 70, .ref 71, .ref 72, .ref 73, .ref 33, .ref 34, .ref 35, .ref 36, .ref 80, .ref 83, .ref 74, .ref 75, .ref 76, .ref 77, .ref 78, .ref 79, .ref 61, .ref 46, .ref 47, .ref 48, .ref 49, .ref 62, .ref 82, .ref 52, .ref 65, .ref 66, .ref 63, .ref 64, .ref 57, .ref 58, .int (2 : Int32), .int (3 : Int32), .ref 0, .ref 1, .ref 2, .ref 3, .ref 4, .ref 7, .null, .int (6 : Int32), .int (1 : Int32), .int (5 : Int32), .int (6 : Int32), .int (1 : Int32), .int (0 : Int32), .int (0 : Int32), .int (0 : Int32), .long (0 : Int64), .long (0 : Int64), .int (0 : Int32), .int (0 : Int32), .int (0 : Int32)]), (.inr .long, []), (.inr .long, []), (.inr .int, []), (.inr .int, []), (.inr .long, [.long (0 : Int64), .long (0 : Int64), .long (0 : Int64), .long (0 : Int64), .long (0 : Int64), .long (0 : Int64), .long (0 : Int64), .long (0 : Int64), .long (0 : Int64), .long (0 : Int64), .long (0 : Int64), .long (0 : Int64), .long (0 : Int64), .long (0 : Int64), .long (0 : Int64), .long (0 : Int64), .long (0 : Int64), .long (0 : Int64), .long (0 : Int64), .long (0 : Int64), .long (0 : Int64), .long (0 : Int64), .long (0 : Int64), .long (0 : Int64), .long (0 : Int64), .long (0 : Int64), .long (0 : Int64), .long (0 : Int64), .long (0 : Int64), .long (0 : Int64), .long (0 : Int64), .long (0 : Int64), .long (0 : Int64), .long (0 : Int64), .long (0 : Int64), .long (0 : Int64), .long (0 : Int64), .long (0 : Int64), .long (0 : Int64), .long (0 : Int64), .long (0 : Int64), .long (0 : Int64), .long (0 : Int64), .long (0 : Int64), .long (0 : Int64), .long (0 : Int64), .long (0 : Int64), .long (0 : Int64), .long (0 : Int64), .long (0 : Int64), .long (0 : Int64), .long (0 : Int64), .long (0 : Int64), .long (0 : Int64), .long (0 : Int64), .long (0 : Int64), .long (0 : Int64), .long (0 : Int64), .long (0 : Int64), .long (0 : Int64), .long (0 : Int64), .long (0 : Int64), .long (0 : Int64), .long (0 : Int64)]), (.inr .int, [.int (0 : Int32), .int (0 : Int32), .int (0 : Int32), .int (0 : Int32), .int (0 : Int32), .int (0 : Int32), .int (0 : Int32), .int (0 : Int32), .int (0 : Int32), .int (0 : Int32), .int (0 : Int32), .int (0 : Int32), .int (0 : Int32), .int (0 : Int32), .int (0 : Int32), .int (0 : Int32), .int (0 : Int32), .int (0 : Int32), .int (0 : Int32), .int (0 : Int32), .int (0 : Int32), .int (0 : Int32), .int (0 : Int32), .int (0 : Int32), .int (0 : Int32), .int (0 : Int32), .int (0 : Int32), .int (0 : Int32), .int (0 : Int32), .int (0 : Int32), .int (0 : Int32), .int (0 : Int32), .int (0 : Int32), .int (0 : Int32), .int (0 : Int32), .int (0 : Int32), .int (0 : Int32), .int (0 : Int32), .int (0 : Int32), .int (0 : Int32), .int (0 : Int32), .int (0 : Int32), .int (0 : Int32), .int (0 : Int32), .int (0 : Int32), .int (0 : Int32), .int (0 : Int32), .int (0 : Int32), .int (0 : Int32), .int (0 : Int32), .int (0 : Int32), .int (0 : Int32), .int (0 : Int32), .int (0 : Int32), .int (0 : Int32), .int (0 : Int32), .int (0 : Int32), .int (0 : Int32), .int (0 : Int32), .int (0 : Int32), .int (0 : Int32), .int (0 : Int32), .int (0 : Int32), .int (0 : Int32)]), (.inr .int, []), (.inr .int, []), (.inr .int, []), (.inr .int, []), (.inr .int, []), (.inr .int, []), (.inr .int, []), (.inr .int, []), (.inr .int, []), (.inr .int, []), (.inr .long, []), (.inr .long, []), (.inr .long, []), (.inr .long, []), (.inr .long, []), (.inr .long, []), (.inr .long, []), (.inr .int, []), (.inr .int, [.int (0 : Int32), .int (0 : Int32), .int (0 : Int32), .int (0 : Int32), .int (0 : Int32), .int (0 : Int32), .int (0 : Int32), .int (0 : Int32)]), (.inr .long, [.long (0 : Int64), .long (0 : Int64), .long (0 : Int64), .long (0 : Int64), .long (0 : Int64), .long (0 : Int64), .long (0 : Int64), .long (0 : Int64)]), (.inr .int, [.int (0 : Int32), .int (0 : Int32), .int (0 : Int32), .int (0 : Int32), .int (0 : Int32), .int (0 : Int32), .int (0 : Int32), .int (0 : Int32)]), (.inr .long, [.long (0 : Int64), .long (0 : Int64), .long (0 : Int64), .long (0 : Int64), .long (0 : Int64), .long (0 : Int64), .long (0 : Int64), .long (0 : Int64)]), (.inr .int, []), (.inr .int, []), (.inr .int, []), (.inr .long, []), (.inr .long, []), (.inr .long, []), (.inr .int, []), (.inr .int, []), (.inr .int, []), (.inr .int, []), (.inr .int, []), (.inr .int, []), (.inr .int, []), (.inr .int, []), (.inr .int, []), (.inr .int, []), (.inr .int, []), (.inr .int, []), (.inr .int, []), (.inr .int, []), (.inr .int, []), (.inr .long, []), (.inr .long, [.long (0 : Int64), .long (0 : Int64), .long (0 : Int64), .long (1 : Int64), .long (1 : Int64), .long (0 : Int64), .long (0 : Int64)]), (.inr .long, [.long (0 : Int64), .long (0 : Int64), .long (0 : Int64)]), (.inr .int, [.int (0 : Int32), .int (0 : Int32), .int (0 : Int32), .int (0 : Int32)]), (.inr .int, [.int (0 : Int32), .int (0 : Int32), .int (0 : Int32), .int (0 : Int32)]), (.inr .int, [.int (0 : Int32), .int (0 : Int32), .int (0 : Int32)]), (.inr .int, [.int (0 : Int32), .int (0 : Int32), .int (0 : Int32)]), (.inr .int, [.int (0 : Int32), .int (0 : Int32)]), (.inr .int, [.int (0 : Int32), .int (0 : Int32)]), (.inr .long, [.long (0 : Int64), .long (0 : Int64)]), (.inr .long, [.long (0 : Int64), .long (0 : Int64)]), (.inr .long, [.long (0 : Int64), .long (0 : Int64)]), (.inr .long, [.long (0 : Int64), .long (0 : Int64)]), (.inr .long, [.long (9223372036854775807 : Int64), .long (9223372036854775807 : Int64)]), (.inr .long, [.long (-9223372036854775808 : Int64), .long (-9223372036854775808 : Int64)]), (.inr .int, [.int (3 : Int32), .int (3 : Int32)]), (.inr .int, [.int (0 : Int32), .int (0 : Int32)]), (.inr .long, [.long (0 : Int64), .long (0 : Int64)]), (.inr .long, [.long (0 : Int64), .long (0 : Int64)]), (.inr .long, [.long (0 : Int64), .long (0 : Int64)]), (.inr .int, [.int (0 : Int32), .int (0 : Int32)]), (.inr .int, [.int (0 : Int32), .int (0 : Int32)]), (.inr .int, [.int (0 : Int32), .int (0 : Int32)]), (.inr .int, [.int (0 : Int32), .int (0 : Int32), .int (0 : Int32)]), (.inr .int, [.int (0 : Int32), .int (0 : Int32), .int (0 : Int32)]), (.inr .int, [.int (0 : Int32), .int (0 : Int32), .int (0 : Int32), .int (0 : Int32), .int (0 : Int32), .int (0 : Int32)])]
set_option maxRecDepth 1000000 in
set_option maxHeartbeats 40000000 in
theorem own_cl11 : own_exec own_P 1863 3 11 282 0 (own_entry [.ref 8, .int (2 : Int32), .int (3 : Int32), .ref 0, .ref 1, .ref 2, .ref 3, .ref 4, .ref 5, .ref 6, .ref 7] own_m3.ml) [] own_Ha11 = some (some (.int (1 : Int32)), own_Hb11) := by decide +kernel
def own_HD1 (x0 x1 x2 x3 x4 x5 : Int32) (o0 o1 o2 : Int64) (y0 y1 y2 y3 y4 y5 : Int32) (v0 v1 v2 : Int64) : OHeap := [(.inr .int, [.int (1 : Int32), .int (1 : Int32)]), (.inr .int, [.int (0 : Int32), .int (2 : Int32), .int (4 : Int32), .int (6 : Int32)]), (.inr .int, [.int (0 : Int32), .int (1 : Int32), .int (0 : Int32), .int (1 : Int32), .int (0 : Int32), .int (1 : Int32)]), (.inr .int, [.int (0 : Int32), .int (0 : Int32), .int (0 : Int32), .int (0 : Int32), .int (0 : Int32), .int (0 : Int32)]), (.inr .int, [.int (2147483647 : Int32), .int (2147483647 : Int32), .int (2147483647 : Int32), .int (2147483647 : Int32), .int (2147483647 : Int32), .int (2147483647 : Int32)]), (.inr .long, [.long (0 : Int64), .long (0 : Int64)]), (.inr .long, [.long (0 : Int64), .long (0 : Int64), .long (0 : Int64)]), (.inr .int, [.int x0, .int x1, .int x2, .int x3, .int x4, .int x5]), (.inl 0, [.ref 59, .ref 10, .ref 11, .ref 12, .ref 13, .ref 14, .ref 15, .ref 16, .ref 17, .ref 18, .ref 19, .ref 20, .ref 21, .ref 81, .ref 23, .ref 24, .ref 60, .ref 67, .ref 68, .ref 69, .ref 70, .ref 71, .ref 72, .ref 73, .ref 33, .ref 34, .ref 35, .ref 36, .ref 80, .ref 83, .ref 74, .ref 75, .ref 76, .ref 77, .ref 78, .ref 79, .ref 61, .ref 46, .ref 47, .ref 48, .ref 49, .ref 62, .ref 82, .ref 52, .ref 65, .ref 66, .ref 63, .ref 64, .ref 57, .ref 58, .int (2 : Int32), .int (3 : Int32), .ref 0, .ref 1, .ref 2, .ref 3, .ref 4, .ref 7, .null, .int (6 : Int32), .int (1 : Int32), .int (5 : Int32), .int (6 : Int32), .int (1 : Int32), .int (0 : Int32), .int (0 : Int32), .int (0 : Int32), .long (0 : Int64), .long (0 : Int64), .int (0 : Int32), .int (0 : Int32), .int (0 : Int32)]), (.inr .long, []), (.inr .long, []), (.inr .int, []), (.inr .int, []), (.inr .long, [.long (0 : Int64), .long (0 : Int64), .long (0 : Int64), .long (0 : Int64), .long (0 : Int64), .long (0 : Int64), .long (0 : Int64), .long (0 : Int64), .long (0 : Int64), .long (0 : Int64), .long (0 : Int64), .long (0 : Int64), .long (0 : Int64), .long (0 : Int64), .long (0 : Int64), .long (0 : Int64), .long (0 : Int64), .long (0 : Int64), .long (0 : Int64), .long (0 : Int64), .long (0 : Int64), .long (0 : Int64), .long (0 : Int64), .long (0 : Int64), .long (0 : Int64), .long (0 : Int64), .long (0 : Int64), .long (0 : Int64), .long (0 : Int64), .long (0 : Int64), .long (0 : Int64), .long (0 : Int64), .long (0 : Int64), .long (0 : Int64), .long (0 : Int64), .long (0 : Int64), .long (0 : Int64), .long (0 : Int64), .long (0 : Int64), .long (0 : Int64), .long (0 : Int64), .long (0 : Int64), .long (0 : Int64), .long (0 : Int64), .long (0 : Int64), .long (0 : Int64), .long (0 : Int64), .long (0 : Int64), .long (0 : Int64), .long (0 : Int64), .long (0 : Int64), .long (0 : Int64), .long (0 : Int64), .long (0 : Int64), .long (0 : Int64), .long (0 : Int64), .long (0 : Int64), .long (0 : Int64), .long (0 : Int64), .long (0 : Int64), .long (0 : Int64), .long (0 : Int64), .long (0 : Int64), .long (0 : Int64)]), (.inr .int, [.int (0 : Int32), .int (0 : Int32), .int (0 : Int32), .int (0 : Int32), .int (0 : Int32), .int (0 : Int32), .int (0 : Int32), .int (0 : Int32), .int (0 : Int32), .int (0 : Int32), .int (0 : Int32), .int (0 : Int32), .int (0 : Int32), .int (0 : Int32), .int (0 : Int32), .int (0 : Int32), .int (0 : Int32), .int (0 : Int32), .int (0 : Int32), .int (0 : Int32), .int (0 : Int32), .int (0 : Int32), .int (0 : Int32), .int (0 : Int32), .int (0 : Int32), .int (0 : Int32), .int (0 : Int32), .int (0 : Int32), .int (0 : Int32), .int (0 : Int32), .int (0 : Int32), .int (0 : Int32), .int (0 : Int32), .int (0 : Int32), .int (0 : Int32), .int (0 : Int32), .int (0 : Int32), .int (0 : Int32), .int (0 : Int32), .int (0 : Int32), .int (0 : Int32), .int (0 : Int32), .int (0 : Int32), .int (0 : Int32), .int (0 : Int32), .int (0 : Int32), .int (0 : Int32), .int (0 : Int32), .int (0 : Int32), .int (0 : Int32), .int (0 : Int32), .int (0 : Int32), .int (0 : Int32), .int (0 : Int32), .int (0 : Int32), .int (0 : Int32), .int (0 : Int32), .int (0 : Int32), .int (0 : Int32), .int (0 : Int32), .int (0 : Int32), .int (0 : Int32), .int (0 : Int32), .int (0 : Int32)]), (.inr .int, []), (.inr .int, []), (.inr .int, []), (.inr .int, []), (.inr .int, []), (.inr .int, []), (.inr .int, []), (.inr .int, []), (.inr .int, []), (.inr .int, []), (.inr .long, []), (.inr .long, []), (.inr .long, []), (.inr .long, []), (.inr .long, []), (.inr .long, []), (.inr .long, []), (.inr .int, []), (.inr .int, [.int (0 : Int32), .int (0 : Int32), .int (0 : Int32), .int (0 : Int32), .int (0 : Int32), .int (0 : Int32), .int (0 : Int32), .int (0 : Int32)]), (.inr .long, [.long (0 : Int64), .long (0 : Int64), .long (0 : Int64), .long (0 : Int64), .long (0 : Int64), .long (0 : Int64), .long (0 : Int64), .long (0 : Int64)]), (.inr .int, [.int (0 : Int32), .int (0 : Int32), .int (0 : Int32), .int (0 : Int32), .int (0 : Int32), .int (0 : Int32), .int (0 : Int32), .int (0 : Int32)]), (.inr .long, [.long (0 : Int64), .long (0 : Int64), .long (0 : Int64), .long (0 : Int64), .long (0 : Int64), .long (0 : Int64), .long (0 : Int64), .long (0 : Int64)]), (.inr .int, []), (.inr .int, []), (.inr .int, []), (.inr .long, []), (.inr .long, []), (.inr .long, []), (.inr .int, []), (.inr .int, []), (.inr .int, []), (.inr .int, []), (.inr .int, []), (.inr .int, []), (.inr .int, []), (.inr .int, []), (.inr .int, []), (.inr .int, []), (.inr .int, []), (.inr .int, []), (.inr .int, []), (.inr .int, []), (.inr .int, []), (.inr .long, []), (.inr .long, [.long (0 : Int64), .long (0 : Int64), .long (0 : Int64), .long (1 : Int64), .long (1 : Int64), .long (0 : Int64), .long (0 : Int64)]), (.inr .long, [.long o0, .long o1, .long o2]), (.inr .int, [.int (0 : Int32), .int (0 : Int32), .int (0 : Int32), .int (0 : Int32)]), (.inr .int, [.int (0 : Int32), .int (0 : Int32), .int (0 : Int32), .int (0 : Int32)]), (.inr .int, [.int (0 : Int32), .int (0 : Int32), .int (0 : Int32)]), (.inr .int, [.int (0 : Int32), .int (0 : Int32), .int (0 : Int32)]), (.inr .int, [.int (0 : Int32), .int (0 : Int32)]), (.inr .int, [.int (0 : Int32), .int (0 : Int32)]), (.inr .long, [.long (0 : Int64), .long (0 : Int64)]), (.inr .long, [.long (0 : Int64), .long (0 : Int64)]), (.inr .long, [.long (0 : Int64), .long (0 : Int64)]), (.inr .long, [.long (0 : Int64), .long (0 : Int64)]), (.inr .long, [.long (9223372036854775807 : Int64), .long (9223372036854775807 : Int64)]), (.inr .long, [.long (-9223372036854775808 : Int64), .long (-9223372036854775808 : Int64)]), (.inr .int, [.int (3 : Int32), .int (3 : Int32)]), (.inr .int, [.int (0 : Int32), .int (0 : Int32)]), (.inr .long, [.long (0 : Int64), .long (0 : Int64)]), (.inr .long, [.long (0 : Int64), .long (0 : Int64)]), (.inr .long, [.long (0 : Int64), .long (0 : Int64)]), (.inr .int, [.int (0 : Int32), .int (0 : Int32)]), (.inr .int, [.int (0 : Int32), .int (0 : Int32)]), (.inr .int, [.int (0 : Int32), .int (0 : Int32)]), (.inr .int, [.int (0 : Int32), .int (0 : Int32), .int (0 : Int32)]), (.inr .int, [.int (0 : Int32), .int (0 : Int32), .int (0 : Int32)]), (.inr .int, [.int (0 : Int32), .int (0 : Int32), .int (0 : Int32), .int (0 : Int32), .int (0 : Int32), .int (0 : Int32)]), (.inr .int, [.int y0, .int y1, .int y2, .int y3, .int y4, .int y5]), (.inr .long, [.long v0, .long v1, .long v2])]
set_option maxRecDepth 1000000 in
set_option maxHeartbeats 40000000 in
theorem own_mv_1_0_0_0 (t : Int32) (x0 x1 x2 x3 x4 x5 : Int32) (o0 o1 o2 : Int64) (y0 y1 y2 y3 y4 y5 : Int32) (v0 v1 v2 : Int64) : own_run own_P 56 11 288 0 (own_entry [.ref 8, .int (5), .int (0), .int t] own_m56.ml) [] (own_HD1 x0 x1 x2 x3 x4 x5 o0 o1 o2 y0 y1 y2 y3 y4 y5 v0 v1 v2) (none, (own_HD1 x0 x1 x2 x3 x4 x5 (o0 - t.toInt64) o1 o2 y0 y1 y2 y3 y4 y5 v0 v1 v2)) := own_run.fuel 80 rfl
set_option maxRecDepth 1000000 in
set_option maxHeartbeats 40000000 in
theorem own_ap_1_0_0_0 (t : Int32) (x0 x1 x2 x3 x4 x5 : Int32) (o0 o1 o2 : Int64) (y0 y1 y2 y3 y4 y5 : Int32) (v0 v1 v2 : Int64) : own_run own_P 57 11 287 0 (own_entry [.ref 85, .ref 84, .int (0), .int (0), .int (0), .int t] own_m57.ml) [] (own_HD1 x0 x1 x2 x3 x4 x5 o0 o1 o2 y0 y1 y2 y3 y4 y5 v0 v1 v2) (none, (own_HD1 x0 x1 x2 x3 x4 x5 o0 o1 o2 y0 y1 y2 y3 y4 y5 (v0 - t.toInt64) v1 v2)) := own_run.fuel 60 rfl
set_option maxRecDepth 1000000 in
set_option maxHeartbeats 40000000 in
theorem own_mv_1_0_0_1 (t : Int32) (x0 x1 x2 x3 x4 x5 : Int32) (o0 o1 o2 : Int64) (y0 y1 y2 y3 y4 y5 : Int32) (v0 v1 v2 : Int64) : own_run own_P 56 11 288 0 (own_entry [.ref 8, .int (5), .int (0), .int t] own_m56.ml) [] (own_HD1 x0 x1 x2 x3 x4 x5 o0 o1 o2 y0 y1 y2 y3 y4 y5 v0 v1 v2) (none, (own_HD1 x0 x1 x2 x3 x4 x5 (o0 - t.toInt64) o1 o2 y0 y1 y2 y3 y4 y5 v0 v1 v2)) := own_run.fuel 80 rfl
set_option maxRecDepth 1000000 in
set_option maxHeartbeats 40000000 in
theorem own_ap_1_0_0_1 (t : Int32) (x0 x1 x2 x3 x4 x5 : Int32) (o0 o1 o2 : Int64) (y0 y1 y2 y3 y4 y5 : Int32) (v0 v1 v2 : Int64) : own_run own_P 57 11 287 0 (own_entry [.ref 85, .ref 84, .int (0), .int (0), .int (1), .int t] own_m57.ml) [] (own_HD1 x0 x1 x2 x3 x4 x5 o0 o1 o2 y0 y1 y2 y3 y4 y5 v0 v1 v2) (none, (own_HD1 x0 x1 x2 x3 x4 x5 o0 o1 o2 y0 y1 y2 y3 y4 y5 (v0 - t.toInt64) v1 v2)) := own_run.fuel 60 rfl
set_option maxRecDepth 1000000 in
set_option maxHeartbeats 40000000 in
theorem own_mv_1_0_1_0 (t : Int32) (x0 x1 x2 x3 x4 x5 : Int32) (o0 o1 o2 : Int64) (y0 y1 y2 y3 y4 y5 : Int32) (v0 v1 v2 : Int64) : own_run own_P 56 11 288 0 (own_entry [.ref 8, .int (5), .int (1), .int t] own_m56.ml) [] (own_HD1 x0 x1 x2 x3 x4 x5 o0 o1 o2 y0 y1 y2 y3 y4 y5 v0 v1 v2) (none, (own_HD1 x0 x1 x2 x3 x4 x5 o0 (o1 - t.toInt64) o2 y0 y1 y2 y3 y4 y5 v0 v1 v2)) := own_run.fuel 80 rfl
set_option maxRecDepth 1000000 in
set_option maxHeartbeats 40000000 in
theorem own_ap_1_0_1_0 (t : Int32) (x0 x1 x2 x3 x4 x5 : Int32) (o0 o1 o2 : Int64) (y0 y1 y2 y3 y4 y5 : Int32) (v0 v1 v2 : Int64) : own_run own_P 57 11 287 0 (own_entry [.ref 85, .ref 84, .int (0), .int (1), .int (0), .int t] own_m57.ml) [] (own_HD1 x0 x1 x2 x3 x4 x5 o0 o1 o2 y0 y1 y2 y3 y4 y5 v0 v1 v2) (none, (own_HD1 x0 x1 x2 x3 x4 x5 o0 o1 o2 y0 y1 y2 y3 y4 y5 v0 (v1 - t.toInt64) v2)) := own_run.fuel 60 rfl
set_option maxRecDepth 1000000 in
set_option maxHeartbeats 40000000 in
theorem own_mv_1_0_1_1 (t : Int32) (x0 x1 x2 x3 x4 x5 : Int32) (o0 o1 o2 : Int64) (y0 y1 y2 y3 y4 y5 : Int32) (v0 v1 v2 : Int64) : own_run own_P 56 11 288 0 (own_entry [.ref 8, .int (5), .int (1), .int t] own_m56.ml) [] (own_HD1 x0 x1 x2 x3 x4 x5 o0 o1 o2 y0 y1 y2 y3 y4 y5 v0 v1 v2) (none, (own_HD1 x0 x1 x2 x3 x4 x5 o0 (o1 - t.toInt64) o2 y0 y1 y2 y3 y4 y5 v0 v1 v2)) := own_run.fuel 80 rfl
set_option maxRecDepth 1000000 in
set_option maxHeartbeats 40000000 in
theorem own_ap_1_0_1_1 (t : Int32) (x0 x1 x2 x3 x4 x5 : Int32) (o0 o1 o2 : Int64) (y0 y1 y2 y3 y4 y5 : Int32) (v0 v1 v2 : Int64) : own_run own_P 57 11 287 0 (own_entry [.ref 85, .ref 84, .int (0), .int (1), .int (1), .int t] own_m57.ml) [] (own_HD1 x0 x1 x2 x3 x4 x5 o0 o1 o2 y0 y1 y2 y3 y4 y5 v0 v1 v2) (none, (own_HD1 x0 x1 x2 x3 x4 x5 o0 o1 o2 y0 y1 y2 y3 y4 y5 v0 (v1 - t.toInt64) v2)) := own_run.fuel 60 rfl
set_option maxRecDepth 1000000 in
set_option maxHeartbeats 40000000 in
theorem own_mv_1_0_2_0 (t : Int32) (x0 x1 x2 x3 x4 x5 : Int32) (o0 o1 o2 : Int64) (y0 y1 y2 y3 y4 y5 : Int32) (v0 v1 v2 : Int64) : own_run own_P 56 11 288 0 (own_entry [.ref 8, .int (5), .int (2), .int t] own_m56.ml) [] (own_HD1 x0 x1 x2 x3 x4 x5 o0 o1 o2 y0 y1 y2 y3 y4 y5 v0 v1 v2) (none, (own_HD1 x0 x1 x2 x3 x4 x5 o0 o1 (o2 - t.toInt64) y0 y1 y2 y3 y4 y5 v0 v1 v2)) := own_run.fuel 80 rfl
set_option maxRecDepth 1000000 in
set_option maxHeartbeats 40000000 in
theorem own_ap_1_0_2_0 (t : Int32) (x0 x1 x2 x3 x4 x5 : Int32) (o0 o1 o2 : Int64) (y0 y1 y2 y3 y4 y5 : Int32) (v0 v1 v2 : Int64) : own_run own_P 57 11 287 0 (own_entry [.ref 85, .ref 84, .int (0), .int (2), .int (0), .int t] own_m57.ml) [] (own_HD1 x0 x1 x2 x3 x4 x5 o0 o1 o2 y0 y1 y2 y3 y4 y5 v0 v1 v2) (none, (own_HD1 x0 x1 x2 x3 x4 x5 o0 o1 o2 y0 y1 y2 y3 y4 y5 v0 v1 (v2 - t.toInt64))) := own_run.fuel 60 rfl
set_option maxRecDepth 1000000 in
set_option maxHeartbeats 40000000 in
theorem own_mv_1_0_2_1 (t : Int32) (x0 x1 x2 x3 x4 x5 : Int32) (o0 o1 o2 : Int64) (y0 y1 y2 y3 y4 y5 : Int32) (v0 v1 v2 : Int64) : own_run own_P 56 11 288 0 (own_entry [.ref 8, .int (5), .int (2), .int t] own_m56.ml) [] (own_HD1 x0 x1 x2 x3 x4 x5 o0 o1 o2 y0 y1 y2 y3 y4 y5 v0 v1 v2) (none, (own_HD1 x0 x1 x2 x3 x4 x5 o0 o1 (o2 - t.toInt64) y0 y1 y2 y3 y4 y5 v0 v1 v2)) := own_run.fuel 80 rfl
set_option maxRecDepth 1000000 in
set_option maxHeartbeats 40000000 in
theorem own_ap_1_0_2_1 (t : Int32) (x0 x1 x2 x3 x4 x5 : Int32) (o0 o1 o2 : Int64) (y0 y1 y2 y3 y4 y5 : Int32) (v0 v1 v2 : Int64) : own_run own_P 57 11 287 0 (own_entry [.ref 85, .ref 84, .int (0), .int (2), .int (1), .int t] own_m57.ml) [] (own_HD1 x0 x1 x2 x3 x4 x5 o0 o1 o2 y0 y1 y2 y3 y4 y5 v0 v1 v2) (none, (own_HD1 x0 x1 x2 x3 x4 x5 o0 o1 o2 y0 y1 y2 y3 y4 y5 v0 v1 (v2 - t.toInt64))) := own_run.fuel 60 rfl
set_option maxRecDepth 1000000 in
set_option maxHeartbeats 40000000 in
theorem own_mv_1_1_0_0 (t : Int32) (x0 x1 x2 x3 x4 x5 : Int32) (o0 o1 o2 : Int64) (y0 y1 y2 y3 y4 y5 : Int32) (v0 v1 v2 : Int64) : own_run own_P 56 11 288 0 (own_entry [.ref 8, .int (0), .int (0), .int t] own_m56.ml) [] (own_HD1 x0 x1 x2 x3 x4 x5 o0 o1 o2 y0 y1 y2 y3 y4 y5 v0 v1 v2) (none, (own_HD1 (x0 + t) x1 x2 x3 x4 x5 o0 o1 o2 y0 y1 y2 y3 y4 y5 v0 v1 v2)) := own_run.fuel 80 rfl
set_option maxRecDepth 1000000 in
set_option maxHeartbeats 40000000 in
theorem own_ap_1_1_0_0 (t : Int32) (x0 x1 x2 x3 x4 x5 : Int32) (o0 o1 o2 : Int64) (y0 y1 y2 y3 y4 y5 : Int32) (v0 v1 v2 : Int64) : own_run own_P 57 11 287 0 (own_entry [.ref 85, .ref 84, .int (1), .int (0), .int (0), .int t] own_m57.ml) [] (own_HD1 x0 x1 x2 x3 x4 x5 o0 o1 o2 y0 y1 y2 y3 y4 y5 v0 v1 v2) (none, (own_HD1 x0 x1 x2 x3 x4 x5 o0 o1 o2 (y0 + t) y1 y2 y3 y4 y5 v0 v1 v2)) := own_run.fuel 60 rfl
set_option maxRecDepth 1000000 in
set_option maxHeartbeats 40000000 in
theorem own_mv_1_1_0_1 (t : Int32) (x0 x1 x2 x3 x4 x5 : Int32) (o0 o1 o2 : Int64) (y0 y1 y2 y3 y4 y5 : Int32) (v0 v1 v2 : Int64) : own_run own_P 56 11 288 0 (own_entry [.ref 8, .int (0), .int (1), .int t] own_m56.ml) [] (own_HD1 x0 x1 x2 x3 x4 x5 o0 o1 o2 y0 y1 y2 y3 y4 y5 v0 v1 v2) (none, (own_HD1 x0 (x1 + t) x2 x3 x4 x5 o0 o1 o2 y0 y1 y2 y3 y4 y5 v0 v1 v2)) := own_run.fuel 80 rfl
set_option maxRecDepth 1000000 in
set_option maxHeartbeats 40000000 in
theorem own_ap_1_1_0_1 (t : Int32) (x0 x1 x2 x3 x4 x5 : Int32) (o0 o1 o2 : Int64) (y0 y1 y2 y3 y4 y5 : Int32) (v0 v1 v2 : Int64) : own_run own_P 57 11 287 0 (own_entry [.ref 85, .ref 84, .int (1), .int (0), .int (1), .int t] own_m57.ml) [] (own_HD1 x0 x1 x2 x3 x4 x5 o0 o1 o2 y0 y1 y2 y3 y4 y5 v0 v1 v2) (none, (own_HD1 x0 x1 x2 x3 x4 x5 o0 o1 o2 y0 (y1 + t) y2 y3 y4 y5 v0 v1 v2)) := own_run.fuel 60 rfl
set_option maxRecDepth 1000000 in
set_option maxHeartbeats 40000000 in
theorem own_mv_1_1_1_0 (t : Int32) (x0 x1 x2 x3 x4 x5 : Int32) (o0 o1 o2 : Int64) (y0 y1 y2 y3 y4 y5 : Int32) (v0 v1 v2 : Int64) : own_run own_P 56 11 288 0 (own_entry [.ref 8, .int (1), .int (0), .int t] own_m56.ml) [] (own_HD1 x0 x1 x2 x3 x4 x5 o0 o1 o2 y0 y1 y2 y3 y4 y5 v0 v1 v2) (none, (own_HD1 x0 x1 (x2 + t) x3 x4 x5 o0 o1 o2 y0 y1 y2 y3 y4 y5 v0 v1 v2)) := own_run.fuel 80 rfl
set_option maxRecDepth 1000000 in
set_option maxHeartbeats 40000000 in
theorem own_ap_1_1_1_0 (t : Int32) (x0 x1 x2 x3 x4 x5 : Int32) (o0 o1 o2 : Int64) (y0 y1 y2 y3 y4 y5 : Int32) (v0 v1 v2 : Int64) : own_run own_P 57 11 287 0 (own_entry [.ref 85, .ref 84, .int (1), .int (1), .int (0), .int t] own_m57.ml) [] (own_HD1 x0 x1 x2 x3 x4 x5 o0 o1 o2 y0 y1 y2 y3 y4 y5 v0 v1 v2) (none, (own_HD1 x0 x1 x2 x3 x4 x5 o0 o1 o2 y0 y1 (y2 + t) y3 y4 y5 v0 v1 v2)) := own_run.fuel 60 rfl
set_option maxRecDepth 1000000 in
set_option maxHeartbeats 40000000 in
theorem own_mv_1_1_1_1 (t : Int32) (x0 x1 x2 x3 x4 x5 : Int32) (o0 o1 o2 : Int64) (y0 y1 y2 y3 y4 y5 : Int32) (v0 v1 v2 : Int64) : own_run own_P 56 11 288 0 (own_entry [.ref 8, .int (1), .int (1), .int t] own_m56.ml) [] (own_HD1 x0 x1 x2 x3 x4 x5 o0 o1 o2 y0 y1 y2 y3 y4 y5 v0 v1 v2) (none, (own_HD1 x0 x1 x2 (x3 + t) x4 x5 o0 o1 o2 y0 y1 y2 y3 y4 y5 v0 v1 v2)) := own_run.fuel 80 rfl
set_option maxRecDepth 1000000 in
set_option maxHeartbeats 40000000 in
theorem own_ap_1_1_1_1 (t : Int32) (x0 x1 x2 x3 x4 x5 : Int32) (o0 o1 o2 : Int64) (y0 y1 y2 y3 y4 y5 : Int32) (v0 v1 v2 : Int64) : own_run own_P 57 11 287 0 (own_entry [.ref 85, .ref 84, .int (1), .int (1), .int (1), .int t] own_m57.ml) [] (own_HD1 x0 x1 x2 x3 x4 x5 o0 o1 o2 y0 y1 y2 y3 y4 y5 v0 v1 v2) (none, (own_HD1 x0 x1 x2 x3 x4 x5 o0 o1 o2 y0 y1 y2 (y3 + t) y4 y5 v0 v1 v2)) := own_run.fuel 60 rfl
set_option maxRecDepth 1000000 in
set_option maxHeartbeats 40000000 in
theorem own_mv_1_1_2_0 (t : Int32) (x0 x1 x2 x3 x4 x5 : Int32) (o0 o1 o2 : Int64) (y0 y1 y2 y3 y4 y5 : Int32) (v0 v1 v2 : Int64) : own_run own_P 56 11 288 0 (own_entry [.ref 8, .int (2), .int (0), .int t] own_m56.ml) [] (own_HD1 x0 x1 x2 x3 x4 x5 o0 o1 o2 y0 y1 y2 y3 y4 y5 v0 v1 v2) (none, (own_HD1 x0 x1 x2 x3 (x4 + t) x5 o0 o1 o2 y0 y1 y2 y3 y4 y5 v0 v1 v2)) := own_run.fuel 80 rfl
set_option maxRecDepth 1000000 in
set_option maxHeartbeats 40000000 in
theorem own_ap_1_1_2_0 (t : Int32) (x0 x1 x2 x3 x4 x5 : Int32) (o0 o1 o2 : Int64) (y0 y1 y2 y3 y4 y5 : Int32) (v0 v1 v2 : Int64) : own_run own_P 57 11 287 0 (own_entry [.ref 85, .ref 84, .int (1), .int (2), .int (0), .int t] own_m57.ml) [] (own_HD1 x0 x1 x2 x3 x4 x5 o0 o1 o2 y0 y1 y2 y3 y4 y5 v0 v1 v2) (none, (own_HD1 x0 x1 x2 x3 x4 x5 o0 o1 o2 y0 y1 y2 y3 (y4 + t) y5 v0 v1 v2)) := own_run.fuel 60 rfl
set_option maxRecDepth 1000000 in
set_option maxHeartbeats 40000000 in
theorem own_mv_1_1_2_1 (t : Int32) (x0 x1 x2 x3 x4 x5 : Int32) (o0 o1 o2 : Int64) (y0 y1 y2 y3 y4 y5 : Int32) (v0 v1 v2 : Int64) : own_run own_P 56 11 288 0 (own_entry [.ref 8, .int (2), .int (1), .int t] own_m56.ml) [] (own_HD1 x0 x1 x2 x3 x4 x5 o0 o1 o2 y0 y1 y2 y3 y4 y5 v0 v1 v2) (none, (own_HD1 x0 x1 x2 x3 x4 (x5 + t) o0 o1 o2 y0 y1 y2 y3 y4 y5 v0 v1 v2)) := own_run.fuel 80 rfl
set_option maxRecDepth 1000000 in
set_option maxHeartbeats 40000000 in
theorem own_ap_1_1_2_1 (t : Int32) (x0 x1 x2 x3 x4 x5 : Int32) (o0 o1 o2 : Int64) (y0 y1 y2 y3 y4 y5 : Int32) (v0 v1 v2 : Int64) : own_run own_P 57 11 287 0 (own_entry [.ref 85, .ref 84, .int (1), .int (2), .int (1), .int t] own_m57.ml) [] (own_HD1 x0 x1 x2 x3 x4 x5 o0 o1 o2 y0 y1 y2 y3 y4 y5 v0 v1 v2) (none, (own_HD1 x0 x1 x2 x3 x4 x5 o0 o1 o2 y0 y1 y2 y3 y4 (y5 + t) v0 v1 v2)) := own_run.fuel 60 rfl
set_option maxRecDepth 1000000 in
set_option maxHeartbeats 40000000 in
theorem own_mv_1_2_0_0 (t : Int32) (x0 x1 x2 x3 x4 x5 : Int32) (o0 o1 o2 : Int64) (y0 y1 y2 y3 y4 y5 : Int32) (v0 v1 v2 : Int64) : own_run own_P 56 11 288 0 (own_entry [.ref 8, .int (0), .int (2), .int t] own_m56.ml) [] (own_HD1 x0 x1 x2 x3 x4 x5 o0 o1 o2 y0 y1 y2 y3 y4 y5 v0 v1 v2) (none, (own_HD1 x0 x1 x2 x3 x4 x5 (o0 + t.toInt64) o1 o2 y0 y1 y2 y3 y4 y5 v0 v1 v2)) := own_run.fuel 80 rfl
set_option maxRecDepth 1000000 in
set_option maxHeartbeats 40000000 in
theorem own_ap_1_2_0_0 (t : Int32) (x0 x1 x2 x3 x4 x5 : Int32) (o0 o1 o2 : Int64) (y0 y1 y2 y3 y4 y5 : Int32) (v0 v1 v2 : Int64) : own_run own_P 57 11 287 0 (own_entry [.ref 85, .ref 84, .int (2), .int (0), .int (0), .int t] own_m57.ml) [] (own_HD1 x0 x1 x2 x3 x4 x5 o0 o1 o2 y0 y1 y2 y3 y4 y5 v0 v1 v2) (none, (own_HD1 x0 x1 x2 x3 x4 x5 o0 o1 o2 y0 y1 y2 y3 y4 y5 (v0 + t.toInt64) v1 v2)) := own_run.fuel 60 rfl
set_option maxRecDepth 1000000 in
set_option maxHeartbeats 40000000 in
theorem own_mv_1_2_0_1 (t : Int32) (x0 x1 x2 x3 x4 x5 : Int32) (o0 o1 o2 : Int64) (y0 y1 y2 y3 y4 y5 : Int32) (v0 v1 v2 : Int64) : own_run own_P 56 11 288 0 (own_entry [.ref 8, .int (0), .int (2), .int t] own_m56.ml) [] (own_HD1 x0 x1 x2 x3 x4 x5 o0 o1 o2 y0 y1 y2 y3 y4 y5 v0 v1 v2) (none, (own_HD1 x0 x1 x2 x3 x4 x5 (o0 + t.toInt64) o1 o2 y0 y1 y2 y3 y4 y5 v0 v1 v2)) := own_run.fuel 80 rfl
set_option maxRecDepth 1000000 in
set_option maxHeartbeats 40000000 in
theorem own_ap_1_2_0_1 (t : Int32) (x0 x1 x2 x3 x4 x5 : Int32) (o0 o1 o2 : Int64) (y0 y1 y2 y3 y4 y5 : Int32) (v0 v1 v2 : Int64) : own_run own_P 57 11 287 0 (own_entry [.ref 85, .ref 84, .int (2), .int (0), .int (1), .int t] own_m57.ml) [] (own_HD1 x0 x1 x2 x3 x4 x5 o0 o1 o2 y0 y1 y2 y3 y4 y5 v0 v1 v2) (none, (own_HD1 x0 x1 x2 x3 x4 x5 o0 o1 o2 y0 y1 y2 y3 y4 y5 (v0 + t.toInt64) v1 v2)) := own_run.fuel 60 rfl
set_option maxRecDepth 1000000 in
set_option maxHeartbeats 40000000 in
theorem own_mv_1_2_1_0 (t : Int32) (x0 x1 x2 x3 x4 x5 : Int32) (o0 o1 o2 : Int64) (y0 y1 y2 y3 y4 y5 : Int32) (v0 v1 v2 : Int64) : own_run own_P 56 11 288 0 (own_entry [.ref 8, .int (1), .int (2), .int t] own_m56.ml) [] (own_HD1 x0 x1 x2 x3 x4 x5 o0 o1 o2 y0 y1 y2 y3 y4 y5 v0 v1 v2) (none, (own_HD1 x0 x1 x2 x3 x4 x5 o0 (o1 + t.toInt64) o2 y0 y1 y2 y3 y4 y5 v0 v1 v2)) := own_run.fuel 80 rfl
set_option maxRecDepth 1000000 in
set_option maxHeartbeats 40000000 in
theorem own_ap_1_2_1_0 (t : Int32) (x0 x1 x2 x3 x4 x5 : Int32) (o0 o1 o2 : Int64) (y0 y1 y2 y3 y4 y5 : Int32) (v0 v1 v2 : Int64) : own_run own_P 57 11 287 0 (own_entry [.ref 85, .ref 84, .int (2), .int (1), .int (0), .int t] own_m57.ml) [] (own_HD1 x0 x1 x2 x3 x4 x5 o0 o1 o2 y0 y1 y2 y3 y4 y5 v0 v1 v2) (none, (own_HD1 x0 x1 x2 x3 x4 x5 o0 o1 o2 y0 y1 y2 y3 y4 y5 v0 (v1 + t.toInt64) v2)) := own_run.fuel 60 rfl
set_option maxRecDepth 1000000 in
set_option maxHeartbeats 40000000 in
theorem own_mv_1_2_1_1 (t : Int32) (x0 x1 x2 x3 x4 x5 : Int32) (o0 o1 o2 : Int64) (y0 y1 y2 y3 y4 y5 : Int32) (v0 v1 v2 : Int64) : own_run own_P 56 11 288 0 (own_entry [.ref 8, .int (1), .int (2), .int t] own_m56.ml) [] (own_HD1 x0 x1 x2 x3 x4 x5 o0 o1 o2 y0 y1 y2 y3 y4 y5 v0 v1 v2) (none, (own_HD1 x0 x1 x2 x3 x4 x5 o0 (o1 + t.toInt64) o2 y0 y1 y2 y3 y4 y5 v0 v1 v2)) := own_run.fuel 80 rfl
set_option maxRecDepth 1000000 in
set_option maxHeartbeats 40000000 in
theorem own_ap_1_2_1_1 (t : Int32) (x0 x1 x2 x3 x4 x5 : Int32) (o0 o1 o2 : Int64) (y0 y1 y2 y3 y4 y5 : Int32) (v0 v1 v2 : Int64) : own_run own_P 57 11 287 0 (own_entry [.ref 85, .ref 84, .int (2), .int (1), .int (1), .int t] own_m57.ml) [] (own_HD1 x0 x1 x2 x3 x4 x5 o0 o1 o2 y0 y1 y2 y3 y4 y5 v0 v1 v2) (none, (own_HD1 x0 x1 x2 x3 x4 x5 o0 o1 o2 y0 y1 y2 y3 y4 y5 v0 (v1 + t.toInt64) v2)) := own_run.fuel 60 rfl
set_option maxRecDepth 1000000 in
set_option maxHeartbeats 40000000 in
theorem own_mv_1_2_2_0 (t : Int32) (x0 x1 x2 x3 x4 x5 : Int32) (o0 o1 o2 : Int64) (y0 y1 y2 y3 y4 y5 : Int32) (v0 v1 v2 : Int64) : own_run own_P 56 11 288 0 (own_entry [.ref 8, .int (2), .int (2), .int t] own_m56.ml) [] (own_HD1 x0 x1 x2 x3 x4 x5 o0 o1 o2 y0 y1 y2 y3 y4 y5 v0 v1 v2) (none, (own_HD1 x0 x1 x2 x3 x4 x5 o0 o1 (o2 + t.toInt64) y0 y1 y2 y3 y4 y5 v0 v1 v2)) := own_run.fuel 80 rfl
set_option maxRecDepth 1000000 in
set_option maxHeartbeats 40000000 in
theorem own_ap_1_2_2_0 (t : Int32) (x0 x1 x2 x3 x4 x5 : Int32) (o0 o1 o2 : Int64) (y0 y1 y2 y3 y4 y5 : Int32) (v0 v1 v2 : Int64) : own_run own_P 57 11 287 0 (own_entry [.ref 85, .ref 84, .int (2), .int (2), .int (0), .int t] own_m57.ml) [] (own_HD1 x0 x1 x2 x3 x4 x5 o0 o1 o2 y0 y1 y2 y3 y4 y5 v0 v1 v2) (none, (own_HD1 x0 x1 x2 x3 x4 x5 o0 o1 o2 y0 y1 y2 y3 y4 y5 v0 v1 (v2 + t.toInt64))) := own_run.fuel 60 rfl
set_option maxRecDepth 1000000 in
set_option maxHeartbeats 40000000 in
theorem own_mv_1_2_2_1 (t : Int32) (x0 x1 x2 x3 x4 x5 : Int32) (o0 o1 o2 : Int64) (y0 y1 y2 y3 y4 y5 : Int32) (v0 v1 v2 : Int64) : own_run own_P 56 11 288 0 (own_entry [.ref 8, .int (2), .int (2), .int t] own_m56.ml) [] (own_HD1 x0 x1 x2 x3 x4 x5 o0 o1 o2 y0 y1 y2 y3 y4 y5 v0 v1 v2) (none, (own_HD1 x0 x1 x2 x3 x4 x5 o0 o1 (o2 + t.toInt64) y0 y1 y2 y3 y4 y5 v0 v1 v2)) := own_run.fuel 80 rfl
set_option maxRecDepth 1000000 in
set_option maxHeartbeats 40000000 in
theorem own_ap_1_2_2_1 (t : Int32) (x0 x1 x2 x3 x4 x5 : Int32) (o0 o1 o2 : Int64) (y0 y1 y2 y3 y4 y5 : Int32) (v0 v1 v2 : Int64) : own_run own_P 57 11 287 0 (own_entry [.ref 85, .ref 84, .int (2), .int (2), .int (1), .int t] own_m57.ml) [] (own_HD1 x0 x1 x2 x3 x4 x5 o0 o1 o2 y0 y1 y2 y3 y4 y5 v0 v1 v2) (none, (own_HD1 x0 x1 x2 x3 x4 x5 o0 o1 o2 y0 y1 y2 y3 y4 y5 v0 v1 (v2 + t.toInt64))) := own_run.fuel 60 rfl
set_option maxRecDepth 1000000 in
set_option maxHeartbeats 40000000 in
theorem own_mv_1_3_0_0 (t : Int32) (x0 x1 x2 x3 x4 x5 : Int32) (o0 o1 o2 : Int64) (y0 y1 y2 y3 y4 y5 : Int32) (v0 v1 v2 : Int64) : own_run own_P 56 11 288 0 (own_entry [.ref 8, .int (3), .int (0), .int t] own_m56.ml) [] (own_HD1 x0 x1 x2 x3 x4 x5 o0 o1 o2 y0 y1 y2 y3 y4 y5 v0 v1 v2) (none, (own_HD1 (x0 - t) x1 x2 x3 x4 x5 o0 o1 o2 y0 y1 y2 y3 y4 y5 v0 v1 v2)) := own_run.fuel 80 rfl
set_option maxRecDepth 1000000 in
set_option maxHeartbeats 40000000 in
theorem own_ap_1_3_0_0 (t : Int32) (x0 x1 x2 x3 x4 x5 : Int32) (o0 o1 o2 : Int64) (y0 y1 y2 y3 y4 y5 : Int32) (v0 v1 v2 : Int64) : own_run own_P 57 11 287 0 (own_entry [.ref 85, .ref 84, .int (3), .int (0), .int (0), .int t] own_m57.ml) [] (own_HD1 x0 x1 x2 x3 x4 x5 o0 o1 o2 y0 y1 y2 y3 y4 y5 v0 v1 v2) (none, (own_HD1 x0 x1 x2 x3 x4 x5 o0 o1 o2 (y0 - t) y1 y2 y3 y4 y5 v0 v1 v2)) := own_run.fuel 60 rfl
set_option maxRecDepth 1000000 in
set_option maxHeartbeats 40000000 in
theorem own_mv_1_3_0_1 (t : Int32) (x0 x1 x2 x3 x4 x5 : Int32) (o0 o1 o2 : Int64) (y0 y1 y2 y3 y4 y5 : Int32) (v0 v1 v2 : Int64) : own_run own_P 56 11 288 0 (own_entry [.ref 8, .int (4), .int (0), .int t] own_m56.ml) [] (own_HD1 x0 x1 x2 x3 x4 x5 o0 o1 o2 y0 y1 y2 y3 y4 y5 v0 v1 v2) (none, (own_HD1 x0 (x1 - t) x2 x3 x4 x5 o0 o1 o2 y0 y1 y2 y3 y4 y5 v0 v1 v2)) := own_run.fuel 80 rfl
set_option maxRecDepth 1000000 in
set_option maxHeartbeats 40000000 in
theorem own_ap_1_3_0_1 (t : Int32) (x0 x1 x2 x3 x4 x5 : Int32) (o0 o1 o2 : Int64) (y0 y1 y2 y3 y4 y5 : Int32) (v0 v1 v2 : Int64) : own_run own_P 57 11 287 0 (own_entry [.ref 85, .ref 84, .int (3), .int (0), .int (1), .int t] own_m57.ml) [] (own_HD1 x0 x1 x2 x3 x4 x5 o0 o1 o2 y0 y1 y2 y3 y4 y5 v0 v1 v2) (none, (own_HD1 x0 x1 x2 x3 x4 x5 o0 o1 o2 y0 (y1 - t) y2 y3 y4 y5 v0 v1 v2)) := own_run.fuel 60 rfl
set_option maxRecDepth 1000000 in
set_option maxHeartbeats 40000000 in
theorem own_mv_1_3_1_0 (t : Int32) (x0 x1 x2 x3 x4 x5 : Int32) (o0 o1 o2 : Int64) (y0 y1 y2 y3 y4 y5 : Int32) (v0 v1 v2 : Int64) : own_run own_P 56 11 288 0 (own_entry [.ref 8, .int (3), .int (1), .int t] own_m56.ml) [] (own_HD1 x0 x1 x2 x3 x4 x5 o0 o1 o2 y0 y1 y2 y3 y4 y5 v0 v1 v2) (none, (own_HD1 x0 x1 (x2 - t) x3 x4 x5 o0 o1 o2 y0 y1 y2 y3 y4 y5 v0 v1 v2)) := own_run.fuel 80 rfl
set_option maxRecDepth 1000000 in
set_option maxHeartbeats 40000000 in
theorem own_ap_1_3_1_0 (t : Int32) (x0 x1 x2 x3 x4 x5 : Int32) (o0 o1 o2 : Int64) (y0 y1 y2 y3 y4 y5 : Int32) (v0 v1 v2 : Int64) : own_run own_P 57 11 287 0 (own_entry [.ref 85, .ref 84, .int (3), .int (1), .int (0), .int t] own_m57.ml) [] (own_HD1 x0 x1 x2 x3 x4 x5 o0 o1 o2 y0 y1 y2 y3 y4 y5 v0 v1 v2) (none, (own_HD1 x0 x1 x2 x3 x4 x5 o0 o1 o2 y0 y1 (y2 - t) y3 y4 y5 v0 v1 v2)) := own_run.fuel 60 rfl
set_option maxRecDepth 1000000 in
set_option maxHeartbeats 40000000 in
theorem own_mv_1_3_1_1 (t : Int32) (x0 x1 x2 x3 x4 x5 : Int32) (o0 o1 o2 : Int64) (y0 y1 y2 y3 y4 y5 : Int32) (v0 v1 v2 : Int64) : own_run own_P 56 11 288 0 (own_entry [.ref 8, .int (4), .int (1), .int t] own_m56.ml) [] (own_HD1 x0 x1 x2 x3 x4 x5 o0 o1 o2 y0 y1 y2 y3 y4 y5 v0 v1 v2) (none, (own_HD1 x0 x1 x2 (x3 - t) x4 x5 o0 o1 o2 y0 y1 y2 y3 y4 y5 v0 v1 v2)) := own_run.fuel 80 rfl
set_option maxRecDepth 1000000 in
set_option maxHeartbeats 40000000 in
theorem own_ap_1_3_1_1 (t : Int32) (x0 x1 x2 x3 x4 x5 : Int32) (o0 o1 o2 : Int64) (y0 y1 y2 y3 y4 y5 : Int32) (v0 v1 v2 : Int64) : own_run own_P 57 11 287 0 (own_entry [.ref 85, .ref 84, .int (3), .int (1), .int (1), .int t] own_m57.ml) [] (own_HD1 x0 x1 x2 x3 x4 x5 o0 o1 o2 y0 y1 y2 y3 y4 y5 v0 v1 v2) (none, (own_HD1 x0 x1 x2 x3 x4 x5 o0 o1 o2 y0 y1 y2 (y3 - t) y4 y5 v0 v1 v2)) := own_run.fuel 60 rfl
set_option maxRecDepth 1000000 in
set_option maxHeartbeats 40000000 in
theorem own_mv_1_3_2_0 (t : Int32) (x0 x1 x2 x3 x4 x5 : Int32) (o0 o1 o2 : Int64) (y0 y1 y2 y3 y4 y5 : Int32) (v0 v1 v2 : Int64) : own_run own_P 56 11 288 0 (own_entry [.ref 8, .int (3), .int (2), .int t] own_m56.ml) [] (own_HD1 x0 x1 x2 x3 x4 x5 o0 o1 o2 y0 y1 y2 y3 y4 y5 v0 v1 v2) (none, (own_HD1 x0 x1 x2 x3 (x4 - t) x5 o0 o1 o2 y0 y1 y2 y3 y4 y5 v0 v1 v2)) := own_run.fuel 80 rfl
set_option maxRecDepth 1000000 in
set_option maxHeartbeats 40000000 in
theorem own_ap_1_3_2_0 (t : Int32) (x0 x1 x2 x3 x4 x5 : Int32) (o0 o1 o2 : Int64) (y0 y1 y2 y3 y4 y5 : Int32) (v0 v1 v2 : Int64) : own_run own_P 57 11 287 0 (own_entry [.ref 85, .ref 84, .int (3), .int (2), .int (0), .int t] own_m57.ml) [] (own_HD1 x0 x1 x2 x3 x4 x5 o0 o1 o2 y0 y1 y2 y3 y4 y5 v0 v1 v2) (none, (own_HD1 x0 x1 x2 x3 x4 x5 o0 o1 o2 y0 y1 y2 y3 (y4 - t) y5 v0 v1 v2)) := own_run.fuel 60 rfl
set_option maxRecDepth 1000000 in
set_option maxHeartbeats 40000000 in
theorem own_mv_1_3_2_1 (t : Int32) (x0 x1 x2 x3 x4 x5 : Int32) (o0 o1 o2 : Int64) (y0 y1 y2 y3 y4 y5 : Int32) (v0 v1 v2 : Int64) : own_run own_P 56 11 288 0 (own_entry [.ref 8, .int (4), .int (2), .int t] own_m56.ml) [] (own_HD1 x0 x1 x2 x3 x4 x5 o0 o1 o2 y0 y1 y2 y3 y4 y5 v0 v1 v2) (none, (own_HD1 x0 x1 x2 x3 x4 (x5 - t) o0 o1 o2 y0 y1 y2 y3 y4 y5 v0 v1 v2)) := own_run.fuel 80 rfl
set_option maxRecDepth 1000000 in
set_option maxHeartbeats 40000000 in
theorem own_ap_1_3_2_1 (t : Int32) (x0 x1 x2 x3 x4 x5 : Int32) (o0 o1 o2 : Int64) (y0 y1 y2 y3 y4 y5 : Int32) (v0 v1 v2 : Int64) : own_run own_P 57 11 287 0 (own_entry [.ref 85, .ref 84, .int (3), .int (2), .int (1), .int t] own_m57.ml) [] (own_HD1 x0 x1 x2 x3 x4 x5 o0 o1 o2 y0 y1 y2 y3 y4 y5 v0 v1 v2) (none, (own_HD1 x0 x1 x2 x3 x4 x5 o0 o1 o2 y0 y1 y2 y3 y4 (y5 - t) v0 v1 v2)) := own_run.fuel 60 rfl
set_option maxRecDepth 1000000 in
set_option maxHeartbeats 40000000 in
theorem own_col_1_0 (a : Int32) (H : OHeap) : ∃ c : Int32, (c = 0 ∨ c = 1 ∨ c = 2) ∧ own_run own_P 53 11 289 0 (own_entry [.int (0), .int a, .int (1)] own_m53.ml) [] H (some (.int c), H) := by
  refine ⟨((a.toUInt32 >>> ((3 : Int32) &&& 31).toUInt32).toInt32 % (3 : Int32)), ?_, own_run.fuel 40 rfl⟩
  have s0 := c_iushr a 3 3 (by decide) (by decide)
  generalize (a.toUInt32 >>> ((3 : Int32) &&& 31).toUInt32).toInt32 = y at *
  have a2 := (c_irem y (3 : Int32) 3 (by decide)).1 (by omega)
  have e0 : (0 : Int32).toInt = 0 := rfl
  have e1 : (1 : Int32).toInt = 1 := rfl
  have e2 : (2 : Int32).toInt = 2 := rfl
  simp only [← Int32.toInt_inj, e0, e1, e2]; omega
set_option maxRecDepth 1000000 in
set_option maxHeartbeats 40000000 in
theorem own_col_1_1 (a : Int32) (H : OHeap) : ∃ c : Int32, (c = 0 ∨ c = 1 ∨ c = 2) ∧ own_run own_P 53 11 289 0 (own_entry [.int (1), .int a, .int (1)] own_m53.ml) [] H (some (.int c), H) := by
  refine ⟨((a.toUInt32 >>> ((3 : Int32) &&& 31).toUInt32).toInt32 % (3 : Int32)), ?_, own_run.fuel 40 rfl⟩
  have s0 := c_iushr a 3 3 (by decide) (by decide)
  generalize (a.toUInt32 >>> ((3 : Int32) &&& 31).toUInt32).toInt32 = y at *
  have a2 := (c_irem y (3 : Int32) 3 (by decide)).1 (by omega)
  have e0 : (0 : Int32).toInt = 0 := rfl
  have e1 : (1 : Int32).toInt = 1 := rfl
  have e2 : (2 : Int32).toInt = 2 := rfl
  simp only [← Int32.toInt_inj, e0, e1, e2]; omega
set_option maxRecDepth 1000000 in
set_option maxHeartbeats 40000000 in
theorem own_col_1_2 (a : Int32) (H : OHeap) : ∃ c : Int32, (c = 0 ∨ c = 1 ∨ c = 2) ∧ own_run own_P 53 11 289 0 (own_entry [.int (2), .int a, .int (1)] own_m53.ml) [] H (some (.int c), H) := by
  refine ⟨((a.toUInt32 >>> ((3 : Int32) &&& 31).toUInt32).toInt32 % (3 : Int32)), ?_, own_run.fuel 40 rfl⟩
  have s0 := c_iushr a 3 3 (by decide) (by decide)
  generalize (a.toUInt32 >>> ((3 : Int32) &&& 31).toUInt32).toInt32 = y at *
  have a2 := (c_irem y (3 : Int32) 3 (by decide)).1 (by omega)
  have e0 : (0 : Int32).toInt = 0 := rfl
  have e1 : (1 : Int32).toInt = 1 := rfl
  have e2 : (2 : Int32).toInt = 2 := rfl
  simp only [← Int32.toInt_inj, e0, e1, e2]; omega
set_option maxRecDepth 1000000 in
set_option maxHeartbeats 40000000 in
theorem own_col_1_3 (a : Int32) (H : OHeap) : ∃ c : Int32, (c = 0 ∨ c = 1 ∨ c = 2) ∧ own_run own_P 53 11 289 0 (own_entry [.int (3), .int a, .int (1)] own_m53.ml) [] H (some (.int c), H) := by
  refine ⟨((a.toUInt32 >>> ((3 : Int32) &&& 31).toUInt32).toInt32 % (3 : Int32)), ?_, own_run.fuel 40 rfl⟩
  have s0 := c_iushr a 3 3 (by decide) (by decide)
  generalize (a.toUInt32 >>> ((3 : Int32) &&& 31).toUInt32).toInt32 = y at *
  have a2 := (c_irem y (3 : Int32) 3 (by decide)).1 (by omega)
  have e0 : (0 : Int32).toInt = 0 := rfl
  have e1 : (1 : Int32).toInt = 1 := rfl
  have e2 : (2 : Int32).toInt = 2 := rfl
  simp only [← Int32.toInt_inj, e0, e1, e2]; omega
set_option maxRecDepth 1000000 in
set_option maxHeartbeats 40000000 in
theorem own_mvA_1 (a0 a1 a2 a3 a4 a5 k r c u i : Int32) (H H1 H2 : OHeap) (hn : own_run own_P 54 11 289 0 (own_entry [.int k, .int c, .int r] own_m54.ml) [] H (some (.int u), H)) (ha : own_run own_P 55 11 287 0 (own_entry [.int k, .int c, .int r, .int (1)] own_m55.ml) [] H (some (.int i), H))
    (hc : own_call own_P own_m0 (.invokevirtual 35) [.int a2, .int i, .int u, .ref 8] H = some (56, [.ref 8, .int u, .int i, .int a2], [])) (hm : own_run own_P 56 11 288 0 (own_entry [.ref 8, .int u, .int i, .int a2] own_m56.ml) [] H (none, H1)) (hp : own_run own_P 57 11 287 0 (own_entry [.ref 85, .ref 84, .int k, .int c, .int r, .int a2] own_m57.ml) [] H1 (none, H2))
    (kk : own_ks own_P (own_end own_P.2.1 208 896) [] 0 12 304 407 [.val (.int a0), .val (.int a1), .val (.int a2), .val (.int a3), .val (.int a4), .val (.int a5), .val (.int (1 : Int32)), .val (.int (0 : Int32)), .val (.int (2147483647 : Int32)), .val (.ref 0), .val (.ref 1), .val (.ref 2), .val (.ref 3), .val (.ref 4), .val (.ref 5), .val (.ref 6), .val (.ref 7), .val (.ref 8), .val (.ref 84), .val (.ref 85), .val (.int k), .val (.int r), .val (.int c), .unset, .unset, .unset, .unset] [] H2) : own_ks own_P (own_end own_P.2.1 208 896) [] 0 12 304 367 [.val (.int a0), .val (.int a1), .val (.int a2), .val (.int a3), .val (.int a4), .val (.int a5), .val (.int (1 : Int32)), .val (.int (0 : Int32)), .val (.int (2147483647 : Int32)), .val (.ref 0), .val (.ref 1), .val (.ref 2), .val (.ref 3), .val (.ref 4), .val (.ref 5), .val (.ref 6), .val (.ref 7), .val (.ref 8), .val (.ref 84), .val (.ref 85), .val (.int k), .val (.int r), .val (.int c), .unset, .unset, .unset, .unset] [] H := by
  refine own_ks.go (mt := own_m0) rfl 4 (pc' := 375) (L' := [.val (.int a0), .val (.int a1), .val (.int a2), .val (.int a3), .val (.int a4), .val (.int a5), .val (.int (1 : Int32)), .val (.int (0 : Int32)), .val (.int (2147483647 : Int32)), .val (.ref 0), .val (.ref 1), .val (.ref 2), .val (.ref 3), .val (.ref 4), .val (.ref 5), .val (.ref 6), .val (.ref 7), .val (.ref 8), .val (.ref 84), .val (.ref 85), .val (.int k), .val (.int r), .val (.int c), .unset, .unset, .unset, .unset]) (S' := [.int r, .int c, .int k, .ref 8]) (H' := H) rfl ?_
  refine own_ks.call (mt := own_m0) (mj := own_m54) rfl (ins := .invokestatic 27) (t := 378) (j := 54) (as := [.int k, .int c, .int r]) (r' := [.ref 8]) (v := some (.int u)) (H' := H) (S' := [.int u, .ref 8]) rfl rfl rfl rfl rfl hn rfl ?_
  refine own_ks.go (mt := own_m0) rfl 4 (pc' := 386) (L' := [.val (.int a0), .val (.int a1), .val (.int a2), .val (.int a3), .val (.int a4), .val (.int a5), .val (.int (1 : Int32)), .val (.int (0 : Int32)), .val (.int (2147483647 : Int32)), .val (.ref 0), .val (.ref 1), .val (.ref 2), .val (.ref 3), .val (.ref 4), .val (.ref 5), .val (.ref 6), .val (.ref 7), .val (.ref 8), .val (.ref 84), .val (.ref 85), .val (.int k), .val (.int r), .val (.int c), .unset, .unset, .unset, .unset]) (S' := [.int (1 : Int32), .int r, .int c, .int k, .int u, .ref 8]) (H' := H) rfl ?_
  refine own_ks.call (mt := own_m0) (mj := own_m55) rfl (ins := .invokestatic 31) (t := 389) (j := 55) (as := [.int k, .int c, .int r, .int (1 : Int32)]) (r' := [.int u, .ref 8]) (v := some (.int i)) (H' := H) (S' := [.int i, .int u, .ref 8]) rfl rfl rfl rfl rfl ha rfl ?_
  refine own_ks.go (mt := own_m0) rfl 1 (pc' := 390) (L' := [.val (.int a0), .val (.int a1), .val (.int a2), .val (.int a3), .val (.int a4), .val (.int a5), .val (.int (1 : Int32)), .val (.int (0 : Int32)), .val (.int (2147483647 : Int32)), .val (.ref 0), .val (.ref 1), .val (.ref 2), .val (.ref 3), .val (.ref 4), .val (.ref 5), .val (.ref 6), .val (.ref 7), .val (.ref 8), .val (.ref 84), .val (.ref 85), .val (.int k), .val (.int r), .val (.int c), .unset, .unset, .unset, .unset]) (S' := [.int a2, .int i, .int u, .ref 8]) (H' := H) rfl ?_
  refine own_ks.call (mt := own_m0) (mj := own_m56) rfl (ins := .invokevirtual 35) (t := 393) (j := 56) (as := [.ref 8, .int u, .int i, .int a2]) (r' := []) (v := none) (H' := H1) (S' := []) rfl rfl hc rfl rfl hm rfl ?_
  refine own_ks.go (mt := own_m0) rfl 6 (pc' := 404) (L' := [.val (.int a0), .val (.int a1), .val (.int a2), .val (.int a3), .val (.int a4), .val (.int a5), .val (.int (1 : Int32)), .val (.int (0 : Int32)), .val (.int (2147483647 : Int32)), .val (.ref 0), .val (.ref 1), .val (.ref 2), .val (.ref 3), .val (.ref 4), .val (.ref 5), .val (.ref 6), .val (.ref 7), .val (.ref 8), .val (.ref 84), .val (.ref 85), .val (.int k), .val (.int r), .val (.int c), .unset, .unset, .unset, .unset]) (S' := [.int a2, .int r, .int c, .int k, .ref 84, .ref 85]) (H' := H1) rfl ?_
  exact own_ks.call (mt := own_m0) (mj := own_m57) rfl (ins := .invokestatic 39) (t := 407) (j := 57) (as := [.ref 85, .ref 84, .int k, .int c, .int r, .int a2]) (r' := []) (v := none) (H' := H2) (S' := []) rfl rfl rfl rfl rfl hp rfl kk
set_option maxRecDepth 1000000 in
set_option maxHeartbeats 40000000 in
theorem own_mvB_1 (a0 a1 a2 a3 a4 a5 k r c u i k2 r2 c2 : Int32) (H H1 H2 : OHeap) (hn : own_run own_P 54 11 289 0 (own_entry [.int k2, .int c2, .int r2] own_m54.ml) [] H (some (.int u), H)) (ha : own_run own_P 55 11 287 0 (own_entry [.int k2, .int c2, .int r2, .int (1)] own_m55.ml) [] H (some (.int i), H))
    (hc : own_call own_P own_m0 (.invokevirtual 35) [.int a4, .int i, .int u, .ref 8] H = some (56, [.ref 8, .int u, .int i, .int a4], [])) (hm : own_run own_P 56 11 288 0 (own_entry [.ref 8, .int u, .int i, .int a4] own_m56.ml) [] H (none, H1)) (hp : own_run own_P 57 11 287 0 (own_entry [.ref 85, .ref 84, .int k2, .int c2, .int r2, .int a4] own_m57.ml) [] H1 (none, H2))
    (kk : own_ks own_P (own_end own_P.2.1 208 896) [] 0 12 304 471 [.val (.int a0), .val (.int a1), .val (.int a2), .val (.int a3), .val (.int a4), .val (.int a5), .val (.int (1 : Int32)), .val (.int (0 : Int32)), .val (.int (2147483647 : Int32)), .val (.ref 0), .val (.ref 1), .val (.ref 2), .val (.ref 3), .val (.ref 4), .val (.ref 5), .val (.ref 6), .val (.ref 7), .val (.ref 8), .val (.ref 84), .val (.ref 85), .val (.int k), .val (.int r), .val (.int c), .val (.int k2), .val (.int r2), .val (.int c2), .unset] [] H2) : own_ks own_P (own_end own_P.2.1 208 896) [] 0 12 304 429 [.val (.int a0), .val (.int a1), .val (.int a2), .val (.int a3), .val (.int a4), .val (.int a5), .val (.int (1 : Int32)), .val (.int (0 : Int32)), .val (.int (2147483647 : Int32)), .val (.ref 0), .val (.ref 1), .val (.ref 2), .val (.ref 3), .val (.ref 4), .val (.ref 5), .val (.ref 6), .val (.ref 7), .val (.ref 8), .val (.ref 84), .val (.ref 85), .val (.int k), .val (.int r), .val (.int c), .val (.int k2), .val (.int r2), .val (.int c2), .unset] [] H := by
  refine own_ks.go (mt := own_m0) rfl 4 (pc' := 437) (L' := [.val (.int a0), .val (.int a1), .val (.int a2), .val (.int a3), .val (.int a4), .val (.int a5), .val (.int (1 : Int32)), .val (.int (0 : Int32)), .val (.int (2147483647 : Int32)), .val (.ref 0), .val (.ref 1), .val (.ref 2), .val (.ref 3), .val (.ref 4), .val (.ref 5), .val (.ref 6), .val (.ref 7), .val (.ref 8), .val (.ref 84), .val (.ref 85), .val (.int k), .val (.int r), .val (.int c), .val (.int k2), .val (.int r2), .val (.int c2), .unset]) (S' := [.int r2, .int c2, .int k2, .ref 8]) (H' := H) rfl ?_
  refine own_ks.call (mt := own_m0) (mj := own_m54) rfl (ins := .invokestatic 27) (t := 440) (j := 54) (as := [.int k2, .int c2, .int r2]) (r' := [.ref 8]) (v := some (.int u)) (H' := H) (S' := [.int u, .ref 8]) rfl rfl rfl rfl rfl hn rfl ?_
  refine own_ks.go (mt := own_m0) rfl 4 (pc' := 448) (L' := [.val (.int a0), .val (.int a1), .val (.int a2), .val (.int a3), .val (.int a4), .val (.int a5), .val (.int (1 : Int32)), .val (.int (0 : Int32)), .val (.int (2147483647 : Int32)), .val (.ref 0), .val (.ref 1), .val (.ref 2), .val (.ref 3), .val (.ref 4), .val (.ref 5), .val (.ref 6), .val (.ref 7), .val (.ref 8), .val (.ref 84), .val (.ref 85), .val (.int k), .val (.int r), .val (.int c), .val (.int k2), .val (.int r2), .val (.int c2), .unset]) (S' := [.int (1 : Int32), .int r2, .int c2, .int k2, .int u, .ref 8]) (H' := H) rfl ?_
  refine own_ks.call (mt := own_m0) (mj := own_m55) rfl (ins := .invokestatic 31) (t := 451) (j := 55) (as := [.int k2, .int c2, .int r2, .int (1 : Int32)]) (r' := [.int u, .ref 8]) (v := some (.int i)) (H' := H) (S' := [.int i, .int u, .ref 8]) rfl rfl rfl rfl rfl ha rfl ?_
  refine own_ks.go (mt := own_m0) rfl 1 (pc' := 453) (L' := [.val (.int a0), .val (.int a1), .val (.int a2), .val (.int a3), .val (.int a4), .val (.int a5), .val (.int (1 : Int32)), .val (.int (0 : Int32)), .val (.int (2147483647 : Int32)), .val (.ref 0), .val (.ref 1), .val (.ref 2), .val (.ref 3), .val (.ref 4), .val (.ref 5), .val (.ref 6), .val (.ref 7), .val (.ref 8), .val (.ref 84), .val (.ref 85), .val (.int k), .val (.int r), .val (.int c), .val (.int k2), .val (.int r2), .val (.int c2), .unset]) (S' := [.int a4, .int i, .int u, .ref 8]) (H' := H) rfl ?_
  refine own_ks.call (mt := own_m0) (mj := own_m56) rfl (ins := .invokevirtual 35) (t := 456) (j := 56) (as := [.ref 8, .int u, .int i, .int a4]) (r' := []) (v := none) (H' := H1) (S' := []) rfl rfl hc rfl rfl hm rfl ?_
  refine own_ks.go (mt := own_m0) rfl 6 (pc' := 468) (L' := [.val (.int a0), .val (.int a1), .val (.int a2), .val (.int a3), .val (.int a4), .val (.int a5), .val (.int (1 : Int32)), .val (.int (0 : Int32)), .val (.int (2147483647 : Int32)), .val (.ref 0), .val (.ref 1), .val (.ref 2), .val (.ref 3), .val (.ref 4), .val (.ref 5), .val (.ref 6), .val (.ref 7), .val (.ref 8), .val (.ref 84), .val (.ref 85), .val (.int k), .val (.int r), .val (.int c), .val (.int k2), .val (.int r2), .val (.int c2), .unset]) (S' := [.int a4, .int r2, .int c2, .int k2, .ref 84, .ref 85]) (H' := H1) rfl ?_
  exact own_ks.call (mt := own_m0) (mj := own_m57) rfl (ins := .invokestatic 39) (t := 471) (j := 57) (as := [.ref 85, .ref 84, .int k2, .int c2, .int r2, .int a4]) (r' := []) (v := none) (H' := H2) (S' := []) rfl rfl rfl rfl rfl hp rfl kk
set_option maxRecDepth 1000000 in
set_option maxHeartbeats 40000000 in
theorem own_os_1_0 (x0 x1 x2 x3 x4 x5 : Int32) (o0 o1 o2 : Int64) (y0 y1 y2 y3 y4 y5 : Int32) (v0 v1 v2 : Int64) : own_run own_P 58 11 290 0 (own_entry [.ref 8, .int (0 : Int32), .int (1 : Int32)] own_m58.ml) [] (own_HD1 x0 x1 x2 x3 x4 x5 o0 o1 o2 y0 y1 y2 y3 y4 y5 v0 v1 v2) (some (.long o0), (own_HD1 x0 x1 x2 x3 x4 x5 o0 o1 o2 y0 y1 y2 y3 y4 y5 v0 v1 v2)) := by
  refine own_ks_run ?_
  refine own_ks.go (mt := own_m58) rfl 3 (pc' := 3) (L' := [.val (.ref 8), .val (.int (0 : Int32)), .val (.int (1 : Int32))]) (S' := [.int (0 : Int32), .int (5 : Int32), .ref 8]) (H' := (own_HD1 x0 x1 x2 x3 x4 x5 o0 o1 o2 y0 y1 y2 y3 y4 y5 v0 v1 v2)) rfl ?_
  refine own_ks.into (mt := own_m58) (mj := own_m50) rfl (ins := .invokevirtual 51) (t := 6) (j := 50) (as := [.ref 8, .int (5 : Int32), .int (0 : Int32)]) (r' := []) (L' := [.val (.ref 8), .val (.int (5 : Int32)), .val (.int (0 : Int32)), .unset]) rfl rfl rfl rfl rfl rfl rfl rfl ?_
  refine own_ks.go (mt := own_m50) rfl 10 (pc' := 16) (L' := [.val (.ref 8), .val (.int (5 : Int32)), .val (.int (0 : Int32)), .unset]) (S' := [.int (lcmpW o0 (0 : Int64))]) (H' := (own_HD1 x0 x1 x2 x3 x4 x5 o0 o1 o2 y0 y1 y2 y3 y4 y5 v0 v1 v2)) rfl ?_
  by_cases h1 : (0 : Int32) < (lcmpW o0 (0 : Int64))
  · refine own_ks.br1 (mt := own_m50) rfl (cd := .le) (t := 47) (b := false) (pc' := 19) rfl ((if0 _ _).trans (tlt h1).2.2.2) rfl ?_
    refine own_ks.go (mt := own_m50) rfl 16 (pc' := 48) (L' := [.val (.ref 8), .val (.int (5 : Int32)), .val (.int (0 : Int32)), .unset]) (S' := [.long o0]) (H' := (own_HD1 x0 x1 x2 x3 x4 x5 o0 o1 o2 y0 y1 y2 y3 y4 y5 v0 v1 v2)) rfl ?_
    refine own_ks.back (mt := own_m50) rfl (ins := .lreturn) (t := 49) (v := some (.long o0)) (S2 := [.long o0]) rfl rfl rfl ?_
    refine own_ks.go (mt := own_m58) rfl 4 (pc' := 10) (L' := [.val (.ref 8), .val (.int (0 : Int32)), .val (.int (1 : Int32))]) (S' := [.int (1 : Int32), .int (0 : Int32), .int (0 : Int32), .ref 8, .long o0]) (H' := (own_HD1 x0 x1 x2 x3 x4 x5 o0 o1 o2 y0 y1 y2 y3 y4 y5 v0 v1 v2)) rfl ?_
    refine own_ks.into (mt := own_m58) (mj := own_m59) rfl (ins := .invokestatic 47) (t := 13) (j := 59) (as := [.int (0 : Int32), .int (1 : Int32)]) (r' := [.int (0 : Int32), .ref 8, .long o0]) (L' := [.val (.int (0 : Int32)), .val (.int (1 : Int32))]) rfl rfl rfl rfl rfl rfl rfl rfl ?_
    refine own_ks.go (mt := own_m59) rfl 4 (pc' := 14) (L' := [.val (.int (0 : Int32)), .val (.int (1 : Int32))]) (S' := [.int (2 : Int32)]) (H' := (own_HD1 x0 x1 x2 x3 x4 x5 o0 o1 o2 y0 y1 y2 y3 y4 y5 v0 v1 v2)) rfl ?_
    refine own_ks.back (mt := own_m59) rfl (ins := .ireturn) (t := 15) (v := some (.int (2 : Int32))) (S2 := [.int (2 : Int32), .int (0 : Int32), .ref 8, .long o0]) rfl rfl rfl ?_
    refine own_ks.into (mt := own_m58) (mj := own_m50) rfl (ins := .invokevirtual 51) (t := 16) (j := 50) (as := [.ref 8, .int (0 : Int32), .int (2 : Int32)]) (r' := [.long o0]) (L' := [.val (.ref 8), .val (.int (0 : Int32)), .val (.int (2 : Int32)), .unset]) rfl rfl rfl rfl rfl rfl rfl rfl ?_
    refine own_ks.go (mt := own_m50) rfl 29 (pc' := 104) (L' := [.val (.ref 8), .val (.int (0 : Int32)), .val (.int (2 : Int32)), .val (.int (2 : Int32))]) (S' := [.int (lcmpW o0 (0 : Int64))]) (H' := (own_HD1 x0 x1 x2 x3 x4 x5 o0 o1 o2 y0 y1 y2 y3 y4 y5 v0 v1 v2)) rfl ?_
    have h2 : ¬ ((lcmpW o0 (0 : Int64)) < (0 : Int32)) := by (have e0 : (0 : Int32).toInt = 0 := rfl; simp only [Int32.lt_iff_toInt_lt, e0] at *; omega)
    refine own_ks.br1 (mt := own_m50) rfl (cd := .ge) (t := 136) (b := true) (pc' := 136) rfl ((if0 _ _).trans (flt h2).2.1) rfl ?_
    refine own_ks.go (mt := own_m50) rfl 1 (pc' := 137) (L' := [.val (.ref 8), .val (.int (0 : Int32)), .val (.int (2 : Int32)), .val (.int (2 : Int32))]) (S' := [.long (0 : Int64)]) (H' := (own_HD1 x0 x1 x2 x3 x4 x5 o0 o1 o2 y0 y1 y2 y3 y4 y5 v0 v1 v2)) rfl ?_
    refine own_ks.back (mt := own_m50) rfl (ins := .lreturn) (t := 138) (v := some (.long (0 : Int64))) (S2 := [.long (0 : Int64), .long o0]) rfl rfl rfl ?_
    refine own_ks.go (mt := own_m58) rfl 1 (pc' := 17) (L' := [.val (.ref 8), .val (.int (0 : Int32)), .val (.int (1 : Int32))]) (S' := [.long (o0 - (0 : Int64))]) (H' := (own_HD1 x0 x1 x2 x3 x4 x5 o0 o1 o2 y0 y1 y2 y3 y4 y5 v0 v1 v2)) rfl ?_
    exact own_ks.ret (mt := own_m58) rfl (ins := .lreturn) (t := 18) (v := some (.long (o0 - (0 : Int64)))) rfl rfl ⟨congrArg (fun z => some (Value.long z)) (own_l0 o0), rfl⟩
  · refine own_ks.br1 (mt := own_m50) rfl (cd := .le) (t := 47) (b := true) (pc' := 47) rfl ((if0 _ _).trans (flt h1).2.2.2) rfl ?_
    refine own_ks.go (mt := own_m50) rfl 1 (pc' := 48) (L' := [.val (.ref 8), .val (.int (5 : Int32)), .val (.int (0 : Int32)), .unset]) (S' := [.long (0 : Int64)]) (H' := (own_HD1 x0 x1 x2 x3 x4 x5 o0 o1 o2 y0 y1 y2 y3 y4 y5 v0 v1 v2)) rfl ?_
    refine own_ks.back (mt := own_m50) rfl (ins := .lreturn) (t := 49) (v := some (.long (0 : Int64))) (S2 := [.long (0 : Int64)]) rfl rfl rfl ?_
    refine own_ks.go (mt := own_m58) rfl 4 (pc' := 10) (L' := [.val (.ref 8), .val (.int (0 : Int32)), .val (.int (1 : Int32))]) (S' := [.int (1 : Int32), .int (0 : Int32), .int (0 : Int32), .ref 8, .long (0 : Int64)]) (H' := (own_HD1 x0 x1 x2 x3 x4 x5 o0 o1 o2 y0 y1 y2 y3 y4 y5 v0 v1 v2)) rfl ?_
    refine own_ks.into (mt := own_m58) (mj := own_m59) rfl (ins := .invokestatic 47) (t := 13) (j := 59) (as := [.int (0 : Int32), .int (1 : Int32)]) (r' := [.int (0 : Int32), .ref 8, .long (0 : Int64)]) (L' := [.val (.int (0 : Int32)), .val (.int (1 : Int32))]) rfl rfl rfl rfl rfl rfl rfl rfl ?_
    refine own_ks.go (mt := own_m59) rfl 4 (pc' := 14) (L' := [.val (.int (0 : Int32)), .val (.int (1 : Int32))]) (S' := [.int (2 : Int32)]) (H' := (own_HD1 x0 x1 x2 x3 x4 x5 o0 o1 o2 y0 y1 y2 y3 y4 y5 v0 v1 v2)) rfl ?_
    refine own_ks.back (mt := own_m59) rfl (ins := .ireturn) (t := 15) (v := some (.int (2 : Int32))) (S2 := [.int (2 : Int32), .int (0 : Int32), .ref 8, .long (0 : Int64)]) rfl rfl rfl ?_
    refine own_ks.into (mt := own_m58) (mj := own_m50) rfl (ins := .invokevirtual 51) (t := 16) (j := 50) (as := [.ref 8, .int (0 : Int32), .int (2 : Int32)]) (r' := [.long (0 : Int64)]) (L' := [.val (.ref 8), .val (.int (0 : Int32)), .val (.int (2 : Int32)), .unset]) rfl rfl rfl rfl rfl rfl rfl rfl ?_
    refine own_ks.go (mt := own_m50) rfl 29 (pc' := 104) (L' := [.val (.ref 8), .val (.int (0 : Int32)), .val (.int (2 : Int32)), .val (.int (2 : Int32))]) (S' := [.int (lcmpW o0 (0 : Int64))]) (H' := (own_HD1 x0 x1 x2 x3 x4 x5 o0 o1 o2 y0 y1 y2 y3 y4 y5 v0 v1 v2)) rfl ?_
    by_cases h3 : (lcmpW o0 (0 : Int64)) < (0 : Int32)
    · refine own_ks.br1 (mt := own_m50) rfl (cd := .ge) (t := 136) (b := false) (pc' := 107) rfl ((if0 _ _).trans (tlt h3).2.1) rfl ?_
      refine own_ks.go (mt := own_m50) rfl 17 (pc' := 137) (L' := [.val (.ref 8), .val (.int (0 : Int32)), .val (.int (2 : Int32)), .val (.int (2 : Int32))]) (S' := [.long (-o0)]) (H' := (own_HD1 x0 x1 x2 x3 x4 x5 o0 o1 o2 y0 y1 y2 y3 y4 y5 v0 v1 v2)) rfl ?_
      refine own_ks.back (mt := own_m50) rfl (ins := .lreturn) (t := 138) (v := some (.long (-o0))) (S2 := [.long (-o0), .long (0 : Int64)]) rfl rfl rfl ?_
      refine own_ks.go (mt := own_m58) rfl 1 (pc' := 17) (L' := [.val (.ref 8), .val (.int (0 : Int32)), .val (.int (1 : Int32))]) (S' := [.long ((0 : Int64) - (-o0))]) (H' := (own_HD1 x0 x1 x2 x3 x4 x5 o0 o1 o2 y0 y1 y2 y3 y4 y5 v0 v1 v2)) rfl ?_
      exact own_ks.ret (mt := own_m58) rfl (ins := .lreturn) (t := 18) (v := some (.long ((0 : Int64) - (-o0)))) rfl rfl ⟨congrArg (fun z => some (Value.long z)) (own_l1 o0), rfl⟩
    · refine own_ks.br1 (mt := own_m50) rfl (cd := .ge) (t := 136) (b := true) (pc' := 136) rfl ((if0 _ _).trans (flt h3).2.1) rfl ?_
      refine own_ks.go (mt := own_m50) rfl 1 (pc' := 137) (L' := [.val (.ref 8), .val (.int (0 : Int32)), .val (.int (2 : Int32)), .val (.int (2 : Int32))]) (S' := [.long (0 : Int64)]) (H' := (own_HD1 x0 x1 x2 x3 x4 x5 o0 o1 o2 y0 y1 y2 y3 y4 y5 v0 v1 v2)) rfl ?_
      refine own_ks.back (mt := own_m50) rfl (ins := .lreturn) (t := 138) (v := some (.long (0 : Int64))) (S2 := [.long (0 : Int64), .long (0 : Int64)]) rfl rfl rfl ?_
      refine own_ks.go (mt := own_m58) rfl 1 (pc' := 17) (L' := [.val (.ref 8), .val (.int (0 : Int32)), .val (.int (1 : Int32))]) (S' := [.long (0 : Int64)]) (H' := (own_HD1 x0 x1 x2 x3 x4 x5 o0 o1 o2 y0 y1 y2 y3 y4 y5 v0 v1 v2)) rfl ?_
      exact own_ks.ret (mt := own_m58) rfl (ins := .lreturn) (t := 18) (v := some (.long (0 : Int64))) rfl rfl ⟨congrArg (fun z => some (Value.long z)) (own_l2 h1 h3), rfl⟩
set_option maxRecDepth 1000000 in
set_option maxHeartbeats 40000000 in
theorem own_os_1_1 (x0 x1 x2 x3 x4 x5 : Int32) (o0 o1 o2 : Int64) (y0 y1 y2 y3 y4 y5 : Int32) (v0 v1 v2 : Int64) : own_run own_P 58 11 290 0 (own_entry [.ref 8, .int (1 : Int32), .int (1 : Int32)] own_m58.ml) [] (own_HD1 x0 x1 x2 x3 x4 x5 o0 o1 o2 y0 y1 y2 y3 y4 y5 v0 v1 v2) (some (.long o1), (own_HD1 x0 x1 x2 x3 x4 x5 o0 o1 o2 y0 y1 y2 y3 y4 y5 v0 v1 v2)) := by
  refine own_ks_run ?_
  refine own_ks.go (mt := own_m58) rfl 3 (pc' := 3) (L' := [.val (.ref 8), .val (.int (1 : Int32)), .val (.int (1 : Int32))]) (S' := [.int (1 : Int32), .int (5 : Int32), .ref 8]) (H' := (own_HD1 x0 x1 x2 x3 x4 x5 o0 o1 o2 y0 y1 y2 y3 y4 y5 v0 v1 v2)) rfl ?_
  refine own_ks.into (mt := own_m58) (mj := own_m50) rfl (ins := .invokevirtual 51) (t := 6) (j := 50) (as := [.ref 8, .int (5 : Int32), .int (1 : Int32)]) (r' := []) (L' := [.val (.ref 8), .val (.int (5 : Int32)), .val (.int (1 : Int32)), .unset]) rfl rfl rfl rfl rfl rfl rfl rfl ?_
  refine own_ks.go (mt := own_m50) rfl 10 (pc' := 16) (L' := [.val (.ref 8), .val (.int (5 : Int32)), .val (.int (1 : Int32)), .unset]) (S' := [.int (lcmpW o1 (0 : Int64))]) (H' := (own_HD1 x0 x1 x2 x3 x4 x5 o0 o1 o2 y0 y1 y2 y3 y4 y5 v0 v1 v2)) rfl ?_
  by_cases h1 : (0 : Int32) < (lcmpW o1 (0 : Int64))
  · refine own_ks.br1 (mt := own_m50) rfl (cd := .le) (t := 47) (b := false) (pc' := 19) rfl ((if0 _ _).trans (tlt h1).2.2.2) rfl ?_
    refine own_ks.go (mt := own_m50) rfl 16 (pc' := 48) (L' := [.val (.ref 8), .val (.int (5 : Int32)), .val (.int (1 : Int32)), .unset]) (S' := [.long o1]) (H' := (own_HD1 x0 x1 x2 x3 x4 x5 o0 o1 o2 y0 y1 y2 y3 y4 y5 v0 v1 v2)) rfl ?_
    refine own_ks.back (mt := own_m50) rfl (ins := .lreturn) (t := 49) (v := some (.long o1)) (S2 := [.long o1]) rfl rfl rfl ?_
    refine own_ks.go (mt := own_m58) rfl 4 (pc' := 10) (L' := [.val (.ref 8), .val (.int (1 : Int32)), .val (.int (1 : Int32))]) (S' := [.int (1 : Int32), .int (1 : Int32), .int (1 : Int32), .ref 8, .long o1]) (H' := (own_HD1 x0 x1 x2 x3 x4 x5 o0 o1 o2 y0 y1 y2 y3 y4 y5 v0 v1 v2)) rfl ?_
    refine own_ks.into (mt := own_m58) (mj := own_m59) rfl (ins := .invokestatic 47) (t := 13) (j := 59) (as := [.int (1 : Int32), .int (1 : Int32)]) (r' := [.int (1 : Int32), .ref 8, .long o1]) (L' := [.val (.int (1 : Int32)), .val (.int (1 : Int32))]) rfl rfl rfl rfl rfl rfl rfl rfl ?_
    refine own_ks.go (mt := own_m59) rfl 4 (pc' := 14) (L' := [.val (.int (1 : Int32)), .val (.int (1 : Int32))]) (S' := [.int (2 : Int32)]) (H' := (own_HD1 x0 x1 x2 x3 x4 x5 o0 o1 o2 y0 y1 y2 y3 y4 y5 v0 v1 v2)) rfl ?_
    refine own_ks.back (mt := own_m59) rfl (ins := .ireturn) (t := 15) (v := some (.int (2 : Int32))) (S2 := [.int (2 : Int32), .int (1 : Int32), .ref 8, .long o1]) rfl rfl rfl ?_
    refine own_ks.into (mt := own_m58) (mj := own_m50) rfl (ins := .invokevirtual 51) (t := 16) (j := 50) (as := [.ref 8, .int (1 : Int32), .int (2 : Int32)]) (r' := [.long o1]) (L' := [.val (.ref 8), .val (.int (1 : Int32)), .val (.int (2 : Int32)), .unset]) rfl rfl rfl rfl rfl rfl rfl rfl ?_
    refine own_ks.go (mt := own_m50) rfl 29 (pc' := 104) (L' := [.val (.ref 8), .val (.int (1 : Int32)), .val (.int (2 : Int32)), .val (.int (2 : Int32))]) (S' := [.int (lcmpW o1 (0 : Int64))]) (H' := (own_HD1 x0 x1 x2 x3 x4 x5 o0 o1 o2 y0 y1 y2 y3 y4 y5 v0 v1 v2)) rfl ?_
    have h2 : ¬ ((lcmpW o1 (0 : Int64)) < (0 : Int32)) := by (have e0 : (0 : Int32).toInt = 0 := rfl; simp only [Int32.lt_iff_toInt_lt, e0] at *; omega)
    refine own_ks.br1 (mt := own_m50) rfl (cd := .ge) (t := 136) (b := true) (pc' := 136) rfl ((if0 _ _).trans (flt h2).2.1) rfl ?_
    refine own_ks.go (mt := own_m50) rfl 1 (pc' := 137) (L' := [.val (.ref 8), .val (.int (1 : Int32)), .val (.int (2 : Int32)), .val (.int (2 : Int32))]) (S' := [.long (0 : Int64)]) (H' := (own_HD1 x0 x1 x2 x3 x4 x5 o0 o1 o2 y0 y1 y2 y3 y4 y5 v0 v1 v2)) rfl ?_
    refine own_ks.back (mt := own_m50) rfl (ins := .lreturn) (t := 138) (v := some (.long (0 : Int64))) (S2 := [.long (0 : Int64), .long o1]) rfl rfl rfl ?_
    refine own_ks.go (mt := own_m58) rfl 1 (pc' := 17) (L' := [.val (.ref 8), .val (.int (1 : Int32)), .val (.int (1 : Int32))]) (S' := [.long (o1 - (0 : Int64))]) (H' := (own_HD1 x0 x1 x2 x3 x4 x5 o0 o1 o2 y0 y1 y2 y3 y4 y5 v0 v1 v2)) rfl ?_
    exact own_ks.ret (mt := own_m58) rfl (ins := .lreturn) (t := 18) (v := some (.long (o1 - (0 : Int64)))) rfl rfl ⟨congrArg (fun z => some (Value.long z)) (own_l0 o1), rfl⟩
  · refine own_ks.br1 (mt := own_m50) rfl (cd := .le) (t := 47) (b := true) (pc' := 47) rfl ((if0 _ _).trans (flt h1).2.2.2) rfl ?_
    refine own_ks.go (mt := own_m50) rfl 1 (pc' := 48) (L' := [.val (.ref 8), .val (.int (5 : Int32)), .val (.int (1 : Int32)), .unset]) (S' := [.long (0 : Int64)]) (H' := (own_HD1 x0 x1 x2 x3 x4 x5 o0 o1 o2 y0 y1 y2 y3 y4 y5 v0 v1 v2)) rfl ?_
    refine own_ks.back (mt := own_m50) rfl (ins := .lreturn) (t := 49) (v := some (.long (0 : Int64))) (S2 := [.long (0 : Int64)]) rfl rfl rfl ?_
    refine own_ks.go (mt := own_m58) rfl 4 (pc' := 10) (L' := [.val (.ref 8), .val (.int (1 : Int32)), .val (.int (1 : Int32))]) (S' := [.int (1 : Int32), .int (1 : Int32), .int (1 : Int32), .ref 8, .long (0 : Int64)]) (H' := (own_HD1 x0 x1 x2 x3 x4 x5 o0 o1 o2 y0 y1 y2 y3 y4 y5 v0 v1 v2)) rfl ?_
    refine own_ks.into (mt := own_m58) (mj := own_m59) rfl (ins := .invokestatic 47) (t := 13) (j := 59) (as := [.int (1 : Int32), .int (1 : Int32)]) (r' := [.int (1 : Int32), .ref 8, .long (0 : Int64)]) (L' := [.val (.int (1 : Int32)), .val (.int (1 : Int32))]) rfl rfl rfl rfl rfl rfl rfl rfl ?_
    refine own_ks.go (mt := own_m59) rfl 4 (pc' := 14) (L' := [.val (.int (1 : Int32)), .val (.int (1 : Int32))]) (S' := [.int (2 : Int32)]) (H' := (own_HD1 x0 x1 x2 x3 x4 x5 o0 o1 o2 y0 y1 y2 y3 y4 y5 v0 v1 v2)) rfl ?_
    refine own_ks.back (mt := own_m59) rfl (ins := .ireturn) (t := 15) (v := some (.int (2 : Int32))) (S2 := [.int (2 : Int32), .int (1 : Int32), .ref 8, .long (0 : Int64)]) rfl rfl rfl ?_
    refine own_ks.into (mt := own_m58) (mj := own_m50) rfl (ins := .invokevirtual 51) (t := 16) (j := 50) (as := [.ref 8, .int (1 : Int32), .int (2 : Int32)]) (r' := [.long (0 : Int64)]) (L' := [.val (.ref 8), .val (.int (1 : Int32)), .val (.int (2 : Int32)), .unset]) rfl rfl rfl rfl rfl rfl rfl rfl ?_
    refine own_ks.go (mt := own_m50) rfl 29 (pc' := 104) (L' := [.val (.ref 8), .val (.int (1 : Int32)), .val (.int (2 : Int32)), .val (.int (2 : Int32))]) (S' := [.int (lcmpW o1 (0 : Int64))]) (H' := (own_HD1 x0 x1 x2 x3 x4 x5 o0 o1 o2 y0 y1 y2 y3 y4 y5 v0 v1 v2)) rfl ?_
    by_cases h3 : (lcmpW o1 (0 : Int64)) < (0 : Int32)
    · refine own_ks.br1 (mt := own_m50) rfl (cd := .ge) (t := 136) (b := false) (pc' := 107) rfl ((if0 _ _).trans (tlt h3).2.1) rfl ?_
      refine own_ks.go (mt := own_m50) rfl 17 (pc' := 137) (L' := [.val (.ref 8), .val (.int (1 : Int32)), .val (.int (2 : Int32)), .val (.int (2 : Int32))]) (S' := [.long (-o1)]) (H' := (own_HD1 x0 x1 x2 x3 x4 x5 o0 o1 o2 y0 y1 y2 y3 y4 y5 v0 v1 v2)) rfl ?_
      refine own_ks.back (mt := own_m50) rfl (ins := .lreturn) (t := 138) (v := some (.long (-o1))) (S2 := [.long (-o1), .long (0 : Int64)]) rfl rfl rfl ?_
      refine own_ks.go (mt := own_m58) rfl 1 (pc' := 17) (L' := [.val (.ref 8), .val (.int (1 : Int32)), .val (.int (1 : Int32))]) (S' := [.long ((0 : Int64) - (-o1))]) (H' := (own_HD1 x0 x1 x2 x3 x4 x5 o0 o1 o2 y0 y1 y2 y3 y4 y5 v0 v1 v2)) rfl ?_
      exact own_ks.ret (mt := own_m58) rfl (ins := .lreturn) (t := 18) (v := some (.long ((0 : Int64) - (-o1)))) rfl rfl ⟨congrArg (fun z => some (Value.long z)) (own_l1 o1), rfl⟩
    · refine own_ks.br1 (mt := own_m50) rfl (cd := .ge) (t := 136) (b := true) (pc' := 136) rfl ((if0 _ _).trans (flt h3).2.1) rfl ?_
      refine own_ks.go (mt := own_m50) rfl 1 (pc' := 137) (L' := [.val (.ref 8), .val (.int (1 : Int32)), .val (.int (2 : Int32)), .val (.int (2 : Int32))]) (S' := [.long (0 : Int64)]) (H' := (own_HD1 x0 x1 x2 x3 x4 x5 o0 o1 o2 y0 y1 y2 y3 y4 y5 v0 v1 v2)) rfl ?_
      refine own_ks.back (mt := own_m50) rfl (ins := .lreturn) (t := 138) (v := some (.long (0 : Int64))) (S2 := [.long (0 : Int64), .long (0 : Int64)]) rfl rfl rfl ?_
      refine own_ks.go (mt := own_m58) rfl 1 (pc' := 17) (L' := [.val (.ref 8), .val (.int (1 : Int32)), .val (.int (1 : Int32))]) (S' := [.long (0 : Int64)]) (H' := (own_HD1 x0 x1 x2 x3 x4 x5 o0 o1 o2 y0 y1 y2 y3 y4 y5 v0 v1 v2)) rfl ?_
      exact own_ks.ret (mt := own_m58) rfl (ins := .lreturn) (t := 18) (v := some (.long (0 : Int64))) rfl rfl ⟨congrArg (fun z => some (Value.long z)) (own_l2 h1 h3), rfl⟩
set_option maxRecDepth 1000000 in
set_option maxHeartbeats 40000000 in
theorem own_os_1_2 (x0 x1 x2 x3 x4 x5 : Int32) (o0 o1 o2 : Int64) (y0 y1 y2 y3 y4 y5 : Int32) (v0 v1 v2 : Int64) : own_run own_P 58 11 290 0 (own_entry [.ref 8, .int (2 : Int32), .int (1 : Int32)] own_m58.ml) [] (own_HD1 x0 x1 x2 x3 x4 x5 o0 o1 o2 y0 y1 y2 y3 y4 y5 v0 v1 v2) (some (.long o2), (own_HD1 x0 x1 x2 x3 x4 x5 o0 o1 o2 y0 y1 y2 y3 y4 y5 v0 v1 v2)) := by
  refine own_ks_run ?_
  refine own_ks.go (mt := own_m58) rfl 3 (pc' := 3) (L' := [.val (.ref 8), .val (.int (2 : Int32)), .val (.int (1 : Int32))]) (S' := [.int (2 : Int32), .int (5 : Int32), .ref 8]) (H' := (own_HD1 x0 x1 x2 x3 x4 x5 o0 o1 o2 y0 y1 y2 y3 y4 y5 v0 v1 v2)) rfl ?_
  refine own_ks.into (mt := own_m58) (mj := own_m50) rfl (ins := .invokevirtual 51) (t := 6) (j := 50) (as := [.ref 8, .int (5 : Int32), .int (2 : Int32)]) (r' := []) (L' := [.val (.ref 8), .val (.int (5 : Int32)), .val (.int (2 : Int32)), .unset]) rfl rfl rfl rfl rfl rfl rfl rfl ?_
  refine own_ks.go (mt := own_m50) rfl 10 (pc' := 16) (L' := [.val (.ref 8), .val (.int (5 : Int32)), .val (.int (2 : Int32)), .unset]) (S' := [.int (lcmpW o2 (0 : Int64))]) (H' := (own_HD1 x0 x1 x2 x3 x4 x5 o0 o1 o2 y0 y1 y2 y3 y4 y5 v0 v1 v2)) rfl ?_
  by_cases h1 : (0 : Int32) < (lcmpW o2 (0 : Int64))
  · refine own_ks.br1 (mt := own_m50) rfl (cd := .le) (t := 47) (b := false) (pc' := 19) rfl ((if0 _ _).trans (tlt h1).2.2.2) rfl ?_
    refine own_ks.go (mt := own_m50) rfl 16 (pc' := 48) (L' := [.val (.ref 8), .val (.int (5 : Int32)), .val (.int (2 : Int32)), .unset]) (S' := [.long o2]) (H' := (own_HD1 x0 x1 x2 x3 x4 x5 o0 o1 o2 y0 y1 y2 y3 y4 y5 v0 v1 v2)) rfl ?_
    refine own_ks.back (mt := own_m50) rfl (ins := .lreturn) (t := 49) (v := some (.long o2)) (S2 := [.long o2]) rfl rfl rfl ?_
    refine own_ks.go (mt := own_m58) rfl 4 (pc' := 10) (L' := [.val (.ref 8), .val (.int (2 : Int32)), .val (.int (1 : Int32))]) (S' := [.int (1 : Int32), .int (2 : Int32), .int (2 : Int32), .ref 8, .long o2]) (H' := (own_HD1 x0 x1 x2 x3 x4 x5 o0 o1 o2 y0 y1 y2 y3 y4 y5 v0 v1 v2)) rfl ?_
    refine own_ks.into (mt := own_m58) (mj := own_m59) rfl (ins := .invokestatic 47) (t := 13) (j := 59) (as := [.int (2 : Int32), .int (1 : Int32)]) (r' := [.int (2 : Int32), .ref 8, .long o2]) (L' := [.val (.int (2 : Int32)), .val (.int (1 : Int32))]) rfl rfl rfl rfl rfl rfl rfl rfl ?_
    refine own_ks.go (mt := own_m59) rfl 4 (pc' := 14) (L' := [.val (.int (2 : Int32)), .val (.int (1 : Int32))]) (S' := [.int (2 : Int32)]) (H' := (own_HD1 x0 x1 x2 x3 x4 x5 o0 o1 o2 y0 y1 y2 y3 y4 y5 v0 v1 v2)) rfl ?_
    refine own_ks.back (mt := own_m59) rfl (ins := .ireturn) (t := 15) (v := some (.int (2 : Int32))) (S2 := [.int (2 : Int32), .int (2 : Int32), .ref 8, .long o2]) rfl rfl rfl ?_
    refine own_ks.into (mt := own_m58) (mj := own_m50) rfl (ins := .invokevirtual 51) (t := 16) (j := 50) (as := [.ref 8, .int (2 : Int32), .int (2 : Int32)]) (r' := [.long o2]) (L' := [.val (.ref 8), .val (.int (2 : Int32)), .val (.int (2 : Int32)), .unset]) rfl rfl rfl rfl rfl rfl rfl rfl ?_
    refine own_ks.go (mt := own_m50) rfl 29 (pc' := 104) (L' := [.val (.ref 8), .val (.int (2 : Int32)), .val (.int (2 : Int32)), .val (.int (2 : Int32))]) (S' := [.int (lcmpW o2 (0 : Int64))]) (H' := (own_HD1 x0 x1 x2 x3 x4 x5 o0 o1 o2 y0 y1 y2 y3 y4 y5 v0 v1 v2)) rfl ?_
    have h2 : ¬ ((lcmpW o2 (0 : Int64)) < (0 : Int32)) := by (have e0 : (0 : Int32).toInt = 0 := rfl; simp only [Int32.lt_iff_toInt_lt, e0] at *; omega)
    refine own_ks.br1 (mt := own_m50) rfl (cd := .ge) (t := 136) (b := true) (pc' := 136) rfl ((if0 _ _).trans (flt h2).2.1) rfl ?_
    refine own_ks.go (mt := own_m50) rfl 1 (pc' := 137) (L' := [.val (.ref 8), .val (.int (2 : Int32)), .val (.int (2 : Int32)), .val (.int (2 : Int32))]) (S' := [.long (0 : Int64)]) (H' := (own_HD1 x0 x1 x2 x3 x4 x5 o0 o1 o2 y0 y1 y2 y3 y4 y5 v0 v1 v2)) rfl ?_
    refine own_ks.back (mt := own_m50) rfl (ins := .lreturn) (t := 138) (v := some (.long (0 : Int64))) (S2 := [.long (0 : Int64), .long o2]) rfl rfl rfl ?_
    refine own_ks.go (mt := own_m58) rfl 1 (pc' := 17) (L' := [.val (.ref 8), .val (.int (2 : Int32)), .val (.int (1 : Int32))]) (S' := [.long (o2 - (0 : Int64))]) (H' := (own_HD1 x0 x1 x2 x3 x4 x5 o0 o1 o2 y0 y1 y2 y3 y4 y5 v0 v1 v2)) rfl ?_
    exact own_ks.ret (mt := own_m58) rfl (ins := .lreturn) (t := 18) (v := some (.long (o2 - (0 : Int64)))) rfl rfl ⟨congrArg (fun z => some (Value.long z)) (own_l0 o2), rfl⟩
  · refine own_ks.br1 (mt := own_m50) rfl (cd := .le) (t := 47) (b := true) (pc' := 47) rfl ((if0 _ _).trans (flt h1).2.2.2) rfl ?_
    refine own_ks.go (mt := own_m50) rfl 1 (pc' := 48) (L' := [.val (.ref 8), .val (.int (5 : Int32)), .val (.int (2 : Int32)), .unset]) (S' := [.long (0 : Int64)]) (H' := (own_HD1 x0 x1 x2 x3 x4 x5 o0 o1 o2 y0 y1 y2 y3 y4 y5 v0 v1 v2)) rfl ?_
    refine own_ks.back (mt := own_m50) rfl (ins := .lreturn) (t := 49) (v := some (.long (0 : Int64))) (S2 := [.long (0 : Int64)]) rfl rfl rfl ?_
    refine own_ks.go (mt := own_m58) rfl 4 (pc' := 10) (L' := [.val (.ref 8), .val (.int (2 : Int32)), .val (.int (1 : Int32))]) (S' := [.int (1 : Int32), .int (2 : Int32), .int (2 : Int32), .ref 8, .long (0 : Int64)]) (H' := (own_HD1 x0 x1 x2 x3 x4 x5 o0 o1 o2 y0 y1 y2 y3 y4 y5 v0 v1 v2)) rfl ?_
    refine own_ks.into (mt := own_m58) (mj := own_m59) rfl (ins := .invokestatic 47) (t := 13) (j := 59) (as := [.int (2 : Int32), .int (1 : Int32)]) (r' := [.int (2 : Int32), .ref 8, .long (0 : Int64)]) (L' := [.val (.int (2 : Int32)), .val (.int (1 : Int32))]) rfl rfl rfl rfl rfl rfl rfl rfl ?_
    refine own_ks.go (mt := own_m59) rfl 4 (pc' := 14) (L' := [.val (.int (2 : Int32)), .val (.int (1 : Int32))]) (S' := [.int (2 : Int32)]) (H' := (own_HD1 x0 x1 x2 x3 x4 x5 o0 o1 o2 y0 y1 y2 y3 y4 y5 v0 v1 v2)) rfl ?_
    refine own_ks.back (mt := own_m59) rfl (ins := .ireturn) (t := 15) (v := some (.int (2 : Int32))) (S2 := [.int (2 : Int32), .int (2 : Int32), .ref 8, .long (0 : Int64)]) rfl rfl rfl ?_
    refine own_ks.into (mt := own_m58) (mj := own_m50) rfl (ins := .invokevirtual 51) (t := 16) (j := 50) (as := [.ref 8, .int (2 : Int32), .int (2 : Int32)]) (r' := [.long (0 : Int64)]) (L' := [.val (.ref 8), .val (.int (2 : Int32)), .val (.int (2 : Int32)), .unset]) rfl rfl rfl rfl rfl rfl rfl rfl ?_
    refine own_ks.go (mt := own_m50) rfl 29 (pc' := 104) (L' := [.val (.ref 8), .val (.int (2 : Int32)), .val (.int (2 : Int32)), .val (.int (2 : Int32))]) (S' := [.int (lcmpW o2 (0 : Int64))]) (H' := (own_HD1 x0 x1 x2 x3 x4 x5 o0 o1 o2 y0 y1 y2 y3 y4 y5 v0 v1 v2)) rfl ?_
    by_cases h3 : (lcmpW o2 (0 : Int64)) < (0 : Int32)
    · refine own_ks.br1 (mt := own_m50) rfl (cd := .ge) (t := 136) (b := false) (pc' := 107) rfl ((if0 _ _).trans (tlt h3).2.1) rfl ?_
      refine own_ks.go (mt := own_m50) rfl 17 (pc' := 137) (L' := [.val (.ref 8), .val (.int (2 : Int32)), .val (.int (2 : Int32)), .val (.int (2 : Int32))]) (S' := [.long (-o2)]) (H' := (own_HD1 x0 x1 x2 x3 x4 x5 o0 o1 o2 y0 y1 y2 y3 y4 y5 v0 v1 v2)) rfl ?_
      refine own_ks.back (mt := own_m50) rfl (ins := .lreturn) (t := 138) (v := some (.long (-o2))) (S2 := [.long (-o2), .long (0 : Int64)]) rfl rfl rfl ?_
      refine own_ks.go (mt := own_m58) rfl 1 (pc' := 17) (L' := [.val (.ref 8), .val (.int (2 : Int32)), .val (.int (1 : Int32))]) (S' := [.long ((0 : Int64) - (-o2))]) (H' := (own_HD1 x0 x1 x2 x3 x4 x5 o0 o1 o2 y0 y1 y2 y3 y4 y5 v0 v1 v2)) rfl ?_
      exact own_ks.ret (mt := own_m58) rfl (ins := .lreturn) (t := 18) (v := some (.long ((0 : Int64) - (-o2)))) rfl rfl ⟨congrArg (fun z => some (Value.long z)) (own_l1 o2), rfl⟩
    · refine own_ks.br1 (mt := own_m50) rfl (cd := .ge) (t := 136) (b := true) (pc' := 136) rfl ((if0 _ _).trans (flt h3).2.1) rfl ?_
      refine own_ks.go (mt := own_m50) rfl 1 (pc' := 137) (L' := [.val (.ref 8), .val (.int (2 : Int32)), .val (.int (2 : Int32)), .val (.int (2 : Int32))]) (S' := [.long (0 : Int64)]) (H' := (own_HD1 x0 x1 x2 x3 x4 x5 o0 o1 o2 y0 y1 y2 y3 y4 y5 v0 v1 v2)) rfl ?_
      refine own_ks.back (mt := own_m50) rfl (ins := .lreturn) (t := 138) (v := some (.long (0 : Int64))) (S2 := [.long (0 : Int64), .long (0 : Int64)]) rfl rfl rfl ?_
      refine own_ks.go (mt := own_m58) rfl 1 (pc' := 17) (L' := [.val (.ref 8), .val (.int (2 : Int32)), .val (.int (1 : Int32))]) (S' := [.long (0 : Int64)]) (H' := (own_HD1 x0 x1 x2 x3 x4 x5 o0 o1 o2 y0 y1 y2 y3 y4 y5 v0 v1 v2)) rfl ?_
      exact own_ks.ret (mt := own_m58) rfl (ins := .lreturn) (t := 18) (v := some (.long (0 : Int64))) rfl rfl ⟨congrArg (fun z => some (Value.long z)) (own_l2 h1 h3), rfl⟩
set_option maxRecDepth 1000000 in
set_option maxHeartbeats 40000000 in
theorem own_hm1 (x0 x1 x2 x3 x4 x5 : Int32) (o0 o1 o2 : Int64) (y0 y1 y2 y3 y4 y5 : Int32) (v0 v1 v2 : Int64) : (own_HD1 x0 x1 x2 x3 x4 x5 o0 o1 o2 y0 y1 y2 y3 y4 y5 v0 v1 v2).map (own_cw own_P.2.1) = [2, 4, 6, 6, 6, 2, 3, 6, 78, 0, 0, 0, 0, 64, 64, 0, 0, 0, 0, 0, 0, 0, 0, 0, 0, 0, 0, 0, 0, 0, 0, 0, 0, 8, 8, 8, 8, 0, 0, 0, 0, 0, 0, 0, 0, 0, 0, 0, 0, 0, 0, 0, 0, 0, 0, 0, 0, 0, 0, 7, 3, 4, 4, 3, 3, 2, 2, 2, 2, 2, 2, 2, 2, 2, 2, 2, 2, 2, 2, 2, 2, 3, 3, 6, 6, 3] := rfl
theorem own_hq1 (x0 x1 x2 x3 x4 x5 : Int32) (o0 o1 o2 : Int64) (y0 y1 y2 y3 y4 y5 : Int32) (v0 v1 v2 : Int64) : (own_HD1 x0 x1 x2 x3 x4 x5 o0 o1 o2 y0 y1 y2 y3 y4 y5 v0 v1 v2).length ≤ 208 ∧ own_w own_P.2.1 (own_HD1 x0 x1 x2 x3 x4 x5 o0 o1 o2 y0 y1 y2 y3 y4 y5 v0 v1 v2) ≤ 896 := by
  have h := own_hm1 x0 x1 x2 x3 x4 x5 o0 o1 o2 y0 y1 y2 y3 y4 y5 v0 v1 v2
  refine ⟨?_, ?_⟩
  · have e := congrArg List.length h
    rw [List.length_map] at e
    rw [e]
    decide
  · show (List.map (own_cw own_P.2.1) _).sum ≤ _
    rw [h]
    decide
set_option maxRecDepth 1000000 in
set_option maxHeartbeats 40000000 in
theorem own_t471_1 (a0 a1 a2 a3 a4 a5 : Int32) (k r c k2 r2 c2 : Int32) (x0 x1 x2 x3 x4 x5 : Int32) (o0 o1 o2 : Int64) : own_ks own_P (own_end own_P.2.1 208 896) [] 0 12 304 471 [.val (.int a0), .val (.int a1), .val (.int a2), .val (.int a3), .val (.int a4), .val (.int a5), .val (.int (1 : Int32)), .val (.int (0 : Int32)), .val (.int (2147483647 : Int32)), .val (.ref 0), .val (.ref 1), .val (.ref 2), .val (.ref 3), .val (.ref 4), .val (.ref 5), .val (.ref 6), .val (.ref 7), .val (.ref 8), .val (.ref 84), .val (.ref 85), .val (.int k), .val (.int r), .val (.int c), .val (.int k2), .val (.int r2), .val (.int c2), .unset] [] (own_HD1 x0 x1 x2 x3 x4 x5 o0 o1 o2 x0 x1 x2 x3 x4 x5 o0 o1 o2) := by
  refine own_ks.go (mt := own_m0) rfl 6 (pc' := 479) (L' := [.val (.int a0), .val (.int a1), .val (.int a2), .val (.int a3), .val (.int a4), .val (.int a5), .val (.int (1 : Int32)), .val (.int (0 : Int32)), .val (.int (2147483647 : Int32)), .val (.ref 0), .val (.ref 1), .val (.ref 2), .val (.ref 3), .val (.ref 4), .val (.ref 5), .val (.ref 6), .val (.ref 7), .val (.ref 8), .val (.ref 84), .val (.ref 85), .val (.int k), .val (.int r), .val (.int c), .val (.int k2), .val (.int r2), .val (.int c2), .unset]) (S' := [.int x0, .int x0]) (H' := (own_HD1 x0 x1 x2 x3 x4 x5 o0 o1 o2 x0 x1 x2 x3 x4 x5 o0 o1 o2)) rfl ?_
  have h1 : x0 = x0 := by first | exact (lw_eq _ _).mpr rfl | rfl
  refine own_ks.br2 (mt := own_m0) rfl (cd := .ne) (t := 541) (b := false) (pc' := 482) rfl (teq h1).2 rfl ?_
  refine own_ks.go (mt := own_m0) rfl 6 (pc' := 490) (L' := [.val (.int a0), .val (.int a1), .val (.int a2), .val (.int a3), .val (.int a4), .val (.int a5), .val (.int (1 : Int32)), .val (.int (0 : Int32)), .val (.int (2147483647 : Int32)), .val (.ref 0), .val (.ref 1), .val (.ref 2), .val (.ref 3), .val (.ref 4), .val (.ref 5), .val (.ref 6), .val (.ref 7), .val (.ref 8), .val (.ref 84), .val (.ref 85), .val (.int k), .val (.int r), .val (.int c), .val (.int k2), .val (.int r2), .val (.int c2), .unset]) (S' := [.int x1, .int x1]) (H' := (own_HD1 x0 x1 x2 x3 x4 x5 o0 o1 o2 x0 x1 x2 x3 x4 x5 o0 o1 o2)) rfl ?_
  have h2 : x1 = x1 := by first | exact (lw_eq _ _).mpr rfl | rfl
  refine own_ks.br2 (mt := own_m0) rfl (cd := .ne) (t := 541) (b := false) (pc' := 493) rfl (teq h2).2 rfl ?_
  refine own_ks.go (mt := own_m0) rfl 6 (pc' := 501) (L' := [.val (.int a0), .val (.int a1), .val (.int a2), .val (.int a3), .val (.int a4), .val (.int a5), .val (.int (1 : Int32)), .val (.int (0 : Int32)), .val (.int (2147483647 : Int32)), .val (.ref 0), .val (.ref 1), .val (.ref 2), .val (.ref 3), .val (.ref 4), .val (.ref 5), .val (.ref 6), .val (.ref 7), .val (.ref 8), .val (.ref 84), .val (.ref 85), .val (.int k), .val (.int r), .val (.int c), .val (.int k2), .val (.int r2), .val (.int c2), .unset]) (S' := [.int x2, .int x2]) (H' := (own_HD1 x0 x1 x2 x3 x4 x5 o0 o1 o2 x0 x1 x2 x3 x4 x5 o0 o1 o2)) rfl ?_
  have h3 : x2 = x2 := by first | exact (lw_eq _ _).mpr rfl | rfl
  refine own_ks.br2 (mt := own_m0) rfl (cd := .ne) (t := 541) (b := false) (pc' := 504) rfl (teq h3).2 rfl ?_
  refine own_ks.go (mt := own_m0) rfl 6 (pc' := 512) (L' := [.val (.int a0), .val (.int a1), .val (.int a2), .val (.int a3), .val (.int a4), .val (.int a5), .val (.int (1 : Int32)), .val (.int (0 : Int32)), .val (.int (2147483647 : Int32)), .val (.ref 0), .val (.ref 1), .val (.ref 2), .val (.ref 3), .val (.ref 4), .val (.ref 5), .val (.ref 6), .val (.ref 7), .val (.ref 8), .val (.ref 84), .val (.ref 85), .val (.int k), .val (.int r), .val (.int c), .val (.int k2), .val (.int r2), .val (.int c2), .unset]) (S' := [.int x3, .int x3]) (H' := (own_HD1 x0 x1 x2 x3 x4 x5 o0 o1 o2 x0 x1 x2 x3 x4 x5 o0 o1 o2)) rfl ?_
  have h4 : x3 = x3 := by first | exact (lw_eq _ _).mpr rfl | rfl
  refine own_ks.br2 (mt := own_m0) rfl (cd := .ne) (t := 541) (b := false) (pc' := 515) rfl (teq h4).2 rfl ?_
  refine own_ks.go (mt := own_m0) rfl 6 (pc' := 523) (L' := [.val (.int a0), .val (.int a1), .val (.int a2), .val (.int a3), .val (.int a4), .val (.int a5), .val (.int (1 : Int32)), .val (.int (0 : Int32)), .val (.int (2147483647 : Int32)), .val (.ref 0), .val (.ref 1), .val (.ref 2), .val (.ref 3), .val (.ref 4), .val (.ref 5), .val (.ref 6), .val (.ref 7), .val (.ref 8), .val (.ref 84), .val (.ref 85), .val (.int k), .val (.int r), .val (.int c), .val (.int k2), .val (.int r2), .val (.int c2), .unset]) (S' := [.int x4, .int x4]) (H' := (own_HD1 x0 x1 x2 x3 x4 x5 o0 o1 o2 x0 x1 x2 x3 x4 x5 o0 o1 o2)) rfl ?_
  have h5 : x4 = x4 := by first | exact (lw_eq _ _).mpr rfl | rfl
  refine own_ks.br2 (mt := own_m0) rfl (cd := .ne) (t := 541) (b := false) (pc' := 526) rfl (teq h5).2 rfl ?_
  refine own_ks.go (mt := own_m0) rfl 6 (pc' := 534) (L' := [.val (.int a0), .val (.int a1), .val (.int a2), .val (.int a3), .val (.int a4), .val (.int a5), .val (.int (1 : Int32)), .val (.int (0 : Int32)), .val (.int (2147483647 : Int32)), .val (.ref 0), .val (.ref 1), .val (.ref 2), .val (.ref 3), .val (.ref 4), .val (.ref 5), .val (.ref 6), .val (.ref 7), .val (.ref 8), .val (.ref 84), .val (.ref 85), .val (.int k), .val (.int r), .val (.int c), .val (.int k2), .val (.int r2), .val (.int c2), .unset]) (S' := [.int x5, .int x5]) (H' := (own_HD1 x0 x1 x2 x3 x4 x5 o0 o1 o2 x0 x1 x2 x3 x4 x5 o0 o1 o2)) rfl ?_
  have h6 : x5 = x5 := by first | exact (lw_eq _ _).mpr rfl | rfl
  refine own_ks.br2 (mt := own_m0) rfl (cd := .ne) (t := 541) (b := false) (pc' := 537) rfl (teq h6).2 rfl ?_
  refine own_ks.go (mt := own_m0) rfl 8 (pc' := 554) (L' := [.val (.int a0), .val (.int a1), .val (.int a2), .val (.int a3), .val (.int a4), .val (.int a5), .val (.int (1 : Int32)), .val (.int (0 : Int32)), .val (.int (2147483647 : Int32)), .val (.ref 0), .val (.ref 1), .val (.ref 2), .val (.ref 3), .val (.ref 4), .val (.ref 5), .val (.ref 6), .val (.ref 7), .val (.ref 8), .val (.ref 84), .val (.ref 85), .val (.int k), .val (.int r), .val (.int c), .val (.int k2), .val (.int r2), .val (.int c2), .val (.int (1 : Int32))]) (S' := [.int (1 : Int32), .int (0 : Int32), .ref 8]) (H' := (own_HD1 x0 x1 x2 x3 x4 x5 o0 o1 o2 x0 x1 x2 x3 x4 x5 o0 o1 o2)) rfl ?_
  refine own_ks.call (mt := own_m0) (mj := own_m58) rfl (ins := .invokestatic 43) (t := 557) (j := 58) (as := [.ref 8, .int (0 : Int32), .int (1 : Int32)]) (r' := []) (v := some (.long o0)) (H' := (own_HD1 x0 x1 x2 x3 x4 x5 o0 o1 o2 x0 x1 x2 x3 x4 x5 o0 o1 o2)) (S' := [.long o0]) rfl rfl rfl rfl rfl (own_os_1_0 x0 x1 x2 x3 x4 x5 o0 o1 o2 x0 x1 x2 x3 x4 x5 o0 o1 o2) rfl ?_
  refine own_ks.go (mt := own_m0) rfl 4 (pc' := 562) (L' := [.val (.int a0), .val (.int a1), .val (.int a2), .val (.int a3), .val (.int a4), .val (.int a5), .val (.int (1 : Int32)), .val (.int (0 : Int32)), .val (.int (2147483647 : Int32)), .val (.ref 0), .val (.ref 1), .val (.ref 2), .val (.ref 3), .val (.ref 4), .val (.ref 5), .val (.ref 6), .val (.ref 7), .val (.ref 8), .val (.ref 84), .val (.ref 85), .val (.int k), .val (.int r), .val (.int c), .val (.int k2), .val (.int r2), .val (.int c2), .val (.int (1 : Int32))]) (S' := [.int (lcmpW o0 o0)]) (H' := (own_HD1 x0 x1 x2 x3 x4 x5 o0 o1 o2 x0 x1 x2 x3 x4 x5 o0 o1 o2)) rfl ?_
  have h7 : (lcmpW o0 o0) = (0 : Int32) := by first | exact (lw_eq _ _).mpr rfl | rfl
  refine own_ks.br1 (mt := own_m0) rfl (cd := .ne) (t := 601) (b := false) (pc' := 565) rfl ((if0 _ _).trans (teq h7).2) rfl ?_
  refine own_ks.go (mt := own_m0) rfl 3 (pc' := 570) (L' := [.val (.int a0), .val (.int a1), .val (.int a2), .val (.int a3), .val (.int a4), .val (.int a5), .val (.int (1 : Int32)), .val (.int (0 : Int32)), .val (.int (2147483647 : Int32)), .val (.ref 0), .val (.ref 1), .val (.ref 2), .val (.ref 3), .val (.ref 4), .val (.ref 5), .val (.ref 6), .val (.ref 7), .val (.ref 8), .val (.ref 84), .val (.ref 85), .val (.int k), .val (.int r), .val (.int c), .val (.int k2), .val (.int r2), .val (.int c2), .val (.int (1 : Int32))]) (S' := [.int (1 : Int32), .int (1 : Int32), .ref 8]) (H' := (own_HD1 x0 x1 x2 x3 x4 x5 o0 o1 o2 x0 x1 x2 x3 x4 x5 o0 o1 o2)) rfl ?_
  refine own_ks.call (mt := own_m0) (mj := own_m58) rfl (ins := .invokestatic 43) (t := 573) (j := 58) (as := [.ref 8, .int (1 : Int32), .int (1 : Int32)]) (r' := []) (v := some (.long o1)) (H' := (own_HD1 x0 x1 x2 x3 x4 x5 o0 o1 o2 x0 x1 x2 x3 x4 x5 o0 o1 o2)) (S' := [.long o1]) rfl rfl rfl rfl rfl (own_os_1_1 x0 x1 x2 x3 x4 x5 o0 o1 o2 x0 x1 x2 x3 x4 x5 o0 o1 o2) rfl ?_
  refine own_ks.go (mt := own_m0) rfl 4 (pc' := 578) (L' := [.val (.int a0), .val (.int a1), .val (.int a2), .val (.int a3), .val (.int a4), .val (.int a5), .val (.int (1 : Int32)), .val (.int (0 : Int32)), .val (.int (2147483647 : Int32)), .val (.ref 0), .val (.ref 1), .val (.ref 2), .val (.ref 3), .val (.ref 4), .val (.ref 5), .val (.ref 6), .val (.ref 7), .val (.ref 8), .val (.ref 84), .val (.ref 85), .val (.int k), .val (.int r), .val (.int c), .val (.int k2), .val (.int r2), .val (.int c2), .val (.int (1 : Int32))]) (S' := [.int (lcmpW o1 o1)]) (H' := (own_HD1 x0 x1 x2 x3 x4 x5 o0 o1 o2 x0 x1 x2 x3 x4 x5 o0 o1 o2)) rfl ?_
  have h8 : (lcmpW o1 o1) = (0 : Int32) := by first | exact (lw_eq _ _).mpr rfl | rfl
  refine own_ks.br1 (mt := own_m0) rfl (cd := .ne) (t := 601) (b := false) (pc' := 581) rfl ((if0 _ _).trans (teq h8).2) rfl ?_
  refine own_ks.go (mt := own_m0) rfl 3 (pc' := 586) (L' := [.val (.int a0), .val (.int a1), .val (.int a2), .val (.int a3), .val (.int a4), .val (.int a5), .val (.int (1 : Int32)), .val (.int (0 : Int32)), .val (.int (2147483647 : Int32)), .val (.ref 0), .val (.ref 1), .val (.ref 2), .val (.ref 3), .val (.ref 4), .val (.ref 5), .val (.ref 6), .val (.ref 7), .val (.ref 8), .val (.ref 84), .val (.ref 85), .val (.int k), .val (.int r), .val (.int c), .val (.int k2), .val (.int r2), .val (.int c2), .val (.int (1 : Int32))]) (S' := [.int (1 : Int32), .int (2 : Int32), .ref 8]) (H' := (own_HD1 x0 x1 x2 x3 x4 x5 o0 o1 o2 x0 x1 x2 x3 x4 x5 o0 o1 o2)) rfl ?_
  refine own_ks.call (mt := own_m0) (mj := own_m58) rfl (ins := .invokestatic 43) (t := 589) (j := 58) (as := [.ref 8, .int (2 : Int32), .int (1 : Int32)]) (r' := []) (v := some (.long o2)) (H' := (own_HD1 x0 x1 x2 x3 x4 x5 o0 o1 o2 x0 x1 x2 x3 x4 x5 o0 o1 o2)) (S' := [.long o2]) rfl rfl rfl rfl rfl (own_os_1_2 x0 x1 x2 x3 x4 x5 o0 o1 o2 x0 x1 x2 x3 x4 x5 o0 o1 o2) rfl ?_
  refine own_ks.go (mt := own_m0) rfl 4 (pc' := 594) (L' := [.val (.int a0), .val (.int a1), .val (.int a2), .val (.int a3), .val (.int a4), .val (.int a5), .val (.int (1 : Int32)), .val (.int (0 : Int32)), .val (.int (2147483647 : Int32)), .val (.ref 0), .val (.ref 1), .val (.ref 2), .val (.ref 3), .val (.ref 4), .val (.ref 5), .val (.ref 6), .val (.ref 7), .val (.ref 8), .val (.ref 84), .val (.ref 85), .val (.int k), .val (.int r), .val (.int c), .val (.int k2), .val (.int r2), .val (.int c2), .val (.int (1 : Int32))]) (S' := [.int (lcmpW o2 o2)]) (H' := (own_HD1 x0 x1 x2 x3 x4 x5 o0 o1 o2 x0 x1 x2 x3 x4 x5 o0 o1 o2)) rfl ?_
  have h9 : (lcmpW o2 o2) = (0 : Int32) := by first | exact (lw_eq _ _).mpr rfl | rfl
  refine own_ks.br1 (mt := own_m0) rfl (cd := .ne) (t := 601) (b := false) (pc' := 597) rfl ((if0 _ _).trans (teq h9).2) rfl ?_
  refine own_ks.go (mt := own_m0) rfl 2 (pc' := 602) (L' := [.val (.int a0), .val (.int a1), .val (.int a2), .val (.int a3), .val (.int a4), .val (.int a5), .val (.int (1 : Int32)), .val (.int (0 : Int32)), .val (.int (2147483647 : Int32)), .val (.ref 0), .val (.ref 1), .val (.ref 2), .val (.ref 3), .val (.ref 4), .val (.ref 5), .val (.ref 6), .val (.ref 7), .val (.ref 8), .val (.ref 84), .val (.ref 85), .val (.int k), .val (.int r), .val (.int c), .val (.int k2), .val (.int r2), .val (.int c2), .val (.int (1 : Int32))]) (S' := [.int (1 : Int32)]) (H' := (own_HD1 x0 x1 x2 x3 x4 x5 o0 o1 o2 x0 x1 x2 x3 x4 x5 o0 o1 o2)) rfl ?_
  exact own_ks.ret (mt := own_m0) rfl (ins := .ireturn) (t := 603) (v := some (.int (1 : Int32))) rfl rfl ⟨rfl, own_hq1 x0 x1 x2 x3 x4 x5 o0 o1 o2 x0 x1 x2 x3 x4 x5 o0 o1 o2⟩
set_option maxRecDepth 1000000 in
set_option maxHeartbeats 40000000 in
theorem own_t407_1 (a0 a1 a2 a3 a4 a5 : Int32) (k r c : Int32) (x0 x1 x2 x3 x4 x5 : Int32) (o0 o1 o2 : Int64) : own_ks own_P (own_end own_P.2.1 208 896) [] 0 12 304 407 [.val (.int a0), .val (.int a1), .val (.int a2), .val (.int a3), .val (.int a4), .val (.int a5), .val (.int (1 : Int32)), .val (.int (0 : Int32)), .val (.int (2147483647 : Int32)), .val (.ref 0), .val (.ref 1), .val (.ref 2), .val (.ref 3), .val (.ref 4), .val (.ref 5), .val (.ref 6), .val (.ref 7), .val (.ref 8), .val (.ref 84), .val (.ref 85), .val (.int k), .val (.int r), .val (.int c), .unset, .unset, .unset, .unset] [] (own_HD1 x0 x1 x2 x3 x4 x5 o0 o1 o2 x0 x1 x2 x3 x4 x5 o0 o1 o2) := by
  have s0 := c_mask a3 3 2 (by decide) (by decide)
  have s1 := c_mask (a3.toUInt32 >>> ((2 : Int32) &&& 31).toUInt32).toInt32 1 1 (by decide) (by decide)
  refine own_ks.go (mt := own_m0) rfl 13 (pc' := 424) (L' := [.val (.int a0), .val (.int a1), .val (.int a2), .val (.int a3), .val (.int a4), .val (.int a5), .val (.int (1 : Int32)), .val (.int (0 : Int32)), .val (.int (2147483647 : Int32)), .val (.ref 0), .val (.ref 1), .val (.ref 2), .val (.ref 3), .val (.ref 4), .val (.ref 5), .val (.ref 6), .val (.ref 7), .val (.ref 8), .val (.ref 84), .val (.ref 85), .val (.int k), .val (.int r), .val (.int c), .val (.int (a3 &&& (3 : Int32))), .val (.int ((a3.toUInt32 >>> ((2 : Int32) &&& 31).toUInt32).toInt32 &&& (1 : Int32))), .unset, .unset]) (S' := [.int (1 : Int32), .int a3, .int (a3 &&& (3 : Int32))]) (H' := (own_HD1 x0 x1 x2 x3 x4 x5 o0 o1 o2 x0 x1 x2 x3 x4 x5 o0 o1 o2)) rfl ?_
  generalize (a3 &&& (3 : Int32)) = k2 at *
  generalize ((a3.toUInt32 >>> ((2 : Int32) &&& 31).toUInt32).toInt32 &&& (1 : Int32)) = r2 at *
  have e0 : (0 : Int32).toInt = 0 := rfl
  have e1 : (1 : Int32).toInt = 1 := rfl
  have e2 : (2 : Int32).toInt = 2 := rfl
  have e3 : (3 : Int32).toInt = 3 := rfl
  have hk : k2 = 0 ∨ k2 = 1 ∨ k2 = 2 ∨ k2 = 3 := by simp only [← Int32.toInt_inj, e0, e1, e2, e3]; omega
  have hr : r2 = 0 ∨ r2 = 1 := by simp only [← Int32.toInt_inj, e0, e1]; omega
  clear s0 s1 e0 e1 e2 e3
  rcases hk with rfl | rfl | rfl | rfl
  · obtain ⟨c2, hc, hcol⟩ := own_col_1_0 a3 (own_HD1 x0 x1 x2 x3 x4 x5 o0 o1 o2 x0 x1 x2 x3 x4 x5 o0 o1 o2)
    refine own_ks.call (mt := own_m0) (mj := own_m53) rfl (ins := .invokestatic 21) (t := 427) (j := 53) (as := [.int (0 : Int32), .int a3, .int (1 : Int32)]) (r' := []) (v := some (.int c2)) (H' := (own_HD1 x0 x1 x2 x3 x4 x5 o0 o1 o2 x0 x1 x2 x3 x4 x5 o0 o1 o2)) (S' := [.int c2]) rfl rfl rfl rfl rfl hcol rfl ?_
    refine own_ks.go (mt := own_m0) rfl 1 (pc' := 429) (L' := [.val (.int a0), .val (.int a1), .val (.int a2), .val (.int a3), .val (.int a4), .val (.int a5), .val (.int (1 : Int32)), .val (.int (0 : Int32)), .val (.int (2147483647 : Int32)), .val (.ref 0), .val (.ref 1), .val (.ref 2), .val (.ref 3), .val (.ref 4), .val (.ref 5), .val (.ref 6), .val (.ref 7), .val (.ref 8), .val (.ref 84), .val (.ref 85), .val (.int k), .val (.int r), .val (.int c), .val (.int (0 : Int32)), .val (.int r2), .val (.int c2), .unset]) (S' := []) (H' := (own_HD1 x0 x1 x2 x3 x4 x5 o0 o1 o2 x0 x1 x2 x3 x4 x5 o0 o1 o2)) rfl ?_
    rcases hc with rfl | rfl | rfl <;> rcases hr with rfl | rfl
    · exact own_mvB_1 a0 a1 a2 a3 a4 a5 k r c 5 0 0 0 0 (own_HD1 x0 x1 x2 x3 x4 x5 o0 o1 o2 x0 x1 x2 x3 x4 x5 o0 o1 o2) (own_HD1 x0 x1 x2 x3 x4 x5 (o0 - a4.toInt64) o1 o2 x0 x1 x2 x3 x4 x5 o0 o1 o2) (own_HD1 x0 x1 x2 x3 x4 x5 (o0 - a4.toInt64) o1 o2 x0 x1 x2 x3 x4 x5 (o0 - a4.toInt64) o1 o2) (own_run.fuel 40 rfl) (own_run.fuel 40 rfl) rfl (own_mv_1_0_0_0 a4 x0 x1 x2 x3 x4 x5 o0 o1 o2 x0 x1 x2 x3 x4 x5 o0 o1 o2) (own_ap_1_0_0_0 a4 x0 x1 x2 x3 x4 x5 (o0 - a4.toInt64) o1 o2 x0 x1 x2 x3 x4 x5 o0 o1 o2) (own_t471_1 a0 a1 a2 a3 a4 a5 k r c 0 0 0 x0 x1 x2 x3 x4 x5 (o0 - a4.toInt64) o1 o2)
    · exact own_mvB_1 a0 a1 a2 a3 a4 a5 k r c 5 0 0 1 0 (own_HD1 x0 x1 x2 x3 x4 x5 o0 o1 o2 x0 x1 x2 x3 x4 x5 o0 o1 o2) (own_HD1 x0 x1 x2 x3 x4 x5 (o0 - a4.toInt64) o1 o2 x0 x1 x2 x3 x4 x5 o0 o1 o2) (own_HD1 x0 x1 x2 x3 x4 x5 (o0 - a4.toInt64) o1 o2 x0 x1 x2 x3 x4 x5 (o0 - a4.toInt64) o1 o2) (own_run.fuel 40 rfl) (own_run.fuel 40 rfl) rfl (own_mv_1_0_0_1 a4 x0 x1 x2 x3 x4 x5 o0 o1 o2 x0 x1 x2 x3 x4 x5 o0 o1 o2) (own_ap_1_0_0_1 a4 x0 x1 x2 x3 x4 x5 (o0 - a4.toInt64) o1 o2 x0 x1 x2 x3 x4 x5 o0 o1 o2) (own_t471_1 a0 a1 a2 a3 a4 a5 k r c 0 1 0 x0 x1 x2 x3 x4 x5 (o0 - a4.toInt64) o1 o2)
    · exact own_mvB_1 a0 a1 a2 a3 a4 a5 k r c 5 1 0 0 1 (own_HD1 x0 x1 x2 x3 x4 x5 o0 o1 o2 x0 x1 x2 x3 x4 x5 o0 o1 o2) (own_HD1 x0 x1 x2 x3 x4 x5 o0 (o1 - a4.toInt64) o2 x0 x1 x2 x3 x4 x5 o0 o1 o2) (own_HD1 x0 x1 x2 x3 x4 x5 o0 (o1 - a4.toInt64) o2 x0 x1 x2 x3 x4 x5 o0 (o1 - a4.toInt64) o2) (own_run.fuel 40 rfl) (own_run.fuel 40 rfl) rfl (own_mv_1_0_1_0 a4 x0 x1 x2 x3 x4 x5 o0 o1 o2 x0 x1 x2 x3 x4 x5 o0 o1 o2) (own_ap_1_0_1_0 a4 x0 x1 x2 x3 x4 x5 o0 (o1 - a4.toInt64) o2 x0 x1 x2 x3 x4 x5 o0 o1 o2) (own_t471_1 a0 a1 a2 a3 a4 a5 k r c 0 0 1 x0 x1 x2 x3 x4 x5 o0 (o1 - a4.toInt64) o2)
    · exact own_mvB_1 a0 a1 a2 a3 a4 a5 k r c 5 1 0 1 1 (own_HD1 x0 x1 x2 x3 x4 x5 o0 o1 o2 x0 x1 x2 x3 x4 x5 o0 o1 o2) (own_HD1 x0 x1 x2 x3 x4 x5 o0 (o1 - a4.toInt64) o2 x0 x1 x2 x3 x4 x5 o0 o1 o2) (own_HD1 x0 x1 x2 x3 x4 x5 o0 (o1 - a4.toInt64) o2 x0 x1 x2 x3 x4 x5 o0 (o1 - a4.toInt64) o2) (own_run.fuel 40 rfl) (own_run.fuel 40 rfl) rfl (own_mv_1_0_1_1 a4 x0 x1 x2 x3 x4 x5 o0 o1 o2 x0 x1 x2 x3 x4 x5 o0 o1 o2) (own_ap_1_0_1_1 a4 x0 x1 x2 x3 x4 x5 o0 (o1 - a4.toInt64) o2 x0 x1 x2 x3 x4 x5 o0 o1 o2) (own_t471_1 a0 a1 a2 a3 a4 a5 k r c 0 1 1 x0 x1 x2 x3 x4 x5 o0 (o1 - a4.toInt64) o2)
    · exact own_mvB_1 a0 a1 a2 a3 a4 a5 k r c 5 2 0 0 2 (own_HD1 x0 x1 x2 x3 x4 x5 o0 o1 o2 x0 x1 x2 x3 x4 x5 o0 o1 o2) (own_HD1 x0 x1 x2 x3 x4 x5 o0 o1 (o2 - a4.toInt64) x0 x1 x2 x3 x4 x5 o0 o1 o2) (own_HD1 x0 x1 x2 x3 x4 x5 o0 o1 (o2 - a4.toInt64) x0 x1 x2 x3 x4 x5 o0 o1 (o2 - a4.toInt64)) (own_run.fuel 40 rfl) (own_run.fuel 40 rfl) rfl (own_mv_1_0_2_0 a4 x0 x1 x2 x3 x4 x5 o0 o1 o2 x0 x1 x2 x3 x4 x5 o0 o1 o2) (own_ap_1_0_2_0 a4 x0 x1 x2 x3 x4 x5 o0 o1 (o2 - a4.toInt64) x0 x1 x2 x3 x4 x5 o0 o1 o2) (own_t471_1 a0 a1 a2 a3 a4 a5 k r c 0 0 2 x0 x1 x2 x3 x4 x5 o0 o1 (o2 - a4.toInt64))
    · exact own_mvB_1 a0 a1 a2 a3 a4 a5 k r c 5 2 0 1 2 (own_HD1 x0 x1 x2 x3 x4 x5 o0 o1 o2 x0 x1 x2 x3 x4 x5 o0 o1 o2) (own_HD1 x0 x1 x2 x3 x4 x5 o0 o1 (o2 - a4.toInt64) x0 x1 x2 x3 x4 x5 o0 o1 o2) (own_HD1 x0 x1 x2 x3 x4 x5 o0 o1 (o2 - a4.toInt64) x0 x1 x2 x3 x4 x5 o0 o1 (o2 - a4.toInt64)) (own_run.fuel 40 rfl) (own_run.fuel 40 rfl) rfl (own_mv_1_0_2_1 a4 x0 x1 x2 x3 x4 x5 o0 o1 o2 x0 x1 x2 x3 x4 x5 o0 o1 o2) (own_ap_1_0_2_1 a4 x0 x1 x2 x3 x4 x5 o0 o1 (o2 - a4.toInt64) x0 x1 x2 x3 x4 x5 o0 o1 o2) (own_t471_1 a0 a1 a2 a3 a4 a5 k r c 0 1 2 x0 x1 x2 x3 x4 x5 o0 o1 (o2 - a4.toInt64))
  · obtain ⟨c2, hc, hcol⟩ := own_col_1_1 a3 (own_HD1 x0 x1 x2 x3 x4 x5 o0 o1 o2 x0 x1 x2 x3 x4 x5 o0 o1 o2)
    refine own_ks.call (mt := own_m0) (mj := own_m53) rfl (ins := .invokestatic 21) (t := 427) (j := 53) (as := [.int (1 : Int32), .int a3, .int (1 : Int32)]) (r' := []) (v := some (.int c2)) (H' := (own_HD1 x0 x1 x2 x3 x4 x5 o0 o1 o2 x0 x1 x2 x3 x4 x5 o0 o1 o2)) (S' := [.int c2]) rfl rfl rfl rfl rfl hcol rfl ?_
    refine own_ks.go (mt := own_m0) rfl 1 (pc' := 429) (L' := [.val (.int a0), .val (.int a1), .val (.int a2), .val (.int a3), .val (.int a4), .val (.int a5), .val (.int (1 : Int32)), .val (.int (0 : Int32)), .val (.int (2147483647 : Int32)), .val (.ref 0), .val (.ref 1), .val (.ref 2), .val (.ref 3), .val (.ref 4), .val (.ref 5), .val (.ref 6), .val (.ref 7), .val (.ref 8), .val (.ref 84), .val (.ref 85), .val (.int k), .val (.int r), .val (.int c), .val (.int (1 : Int32)), .val (.int r2), .val (.int c2), .unset]) (S' := []) (H' := (own_HD1 x0 x1 x2 x3 x4 x5 o0 o1 o2 x0 x1 x2 x3 x4 x5 o0 o1 o2)) rfl ?_
    rcases hc with rfl | rfl | rfl <;> rcases hr with rfl | rfl
    · exact own_mvB_1 a0 a1 a2 a3 a4 a5 k r c 0 0 1 0 0 (own_HD1 x0 x1 x2 x3 x4 x5 o0 o1 o2 x0 x1 x2 x3 x4 x5 o0 o1 o2) (own_HD1 (x0 + a4) x1 x2 x3 x4 x5 o0 o1 o2 x0 x1 x2 x3 x4 x5 o0 o1 o2) (own_HD1 (x0 + a4) x1 x2 x3 x4 x5 o0 o1 o2 (x0 + a4) x1 x2 x3 x4 x5 o0 o1 o2) (own_run.fuel 40 rfl) (own_run.fuel 40 rfl) rfl (own_mv_1_1_0_0 a4 x0 x1 x2 x3 x4 x5 o0 o1 o2 x0 x1 x2 x3 x4 x5 o0 o1 o2) (own_ap_1_1_0_0 a4 (x0 + a4) x1 x2 x3 x4 x5 o0 o1 o2 x0 x1 x2 x3 x4 x5 o0 o1 o2) (own_t471_1 a0 a1 a2 a3 a4 a5 k r c 1 0 0 (x0 + a4) x1 x2 x3 x4 x5 o0 o1 o2)
    · exact own_mvB_1 a0 a1 a2 a3 a4 a5 k r c 0 1 1 1 0 (own_HD1 x0 x1 x2 x3 x4 x5 o0 o1 o2 x0 x1 x2 x3 x4 x5 o0 o1 o2) (own_HD1 x0 (x1 + a4) x2 x3 x4 x5 o0 o1 o2 x0 x1 x2 x3 x4 x5 o0 o1 o2) (own_HD1 x0 (x1 + a4) x2 x3 x4 x5 o0 o1 o2 x0 (x1 + a4) x2 x3 x4 x5 o0 o1 o2) (own_run.fuel 40 rfl) (own_run.fuel 40 rfl) rfl (own_mv_1_1_0_1 a4 x0 x1 x2 x3 x4 x5 o0 o1 o2 x0 x1 x2 x3 x4 x5 o0 o1 o2) (own_ap_1_1_0_1 a4 x0 (x1 + a4) x2 x3 x4 x5 o0 o1 o2 x0 x1 x2 x3 x4 x5 o0 o1 o2) (own_t471_1 a0 a1 a2 a3 a4 a5 k r c 1 1 0 x0 (x1 + a4) x2 x3 x4 x5 o0 o1 o2)
    · exact own_mvB_1 a0 a1 a2 a3 a4 a5 k r c 1 0 1 0 1 (own_HD1 x0 x1 x2 x3 x4 x5 o0 o1 o2 x0 x1 x2 x3 x4 x5 o0 o1 o2) (own_HD1 x0 x1 (x2 + a4) x3 x4 x5 o0 o1 o2 x0 x1 x2 x3 x4 x5 o0 o1 o2) (own_HD1 x0 x1 (x2 + a4) x3 x4 x5 o0 o1 o2 x0 x1 (x2 + a4) x3 x4 x5 o0 o1 o2) (own_run.fuel 40 rfl) (own_run.fuel 40 rfl) rfl (own_mv_1_1_1_0 a4 x0 x1 x2 x3 x4 x5 o0 o1 o2 x0 x1 x2 x3 x4 x5 o0 o1 o2) (own_ap_1_1_1_0 a4 x0 x1 (x2 + a4) x3 x4 x5 o0 o1 o2 x0 x1 x2 x3 x4 x5 o0 o1 o2) (own_t471_1 a0 a1 a2 a3 a4 a5 k r c 1 0 1 x0 x1 (x2 + a4) x3 x4 x5 o0 o1 o2)
    · exact own_mvB_1 a0 a1 a2 a3 a4 a5 k r c 1 1 1 1 1 (own_HD1 x0 x1 x2 x3 x4 x5 o0 o1 o2 x0 x1 x2 x3 x4 x5 o0 o1 o2) (own_HD1 x0 x1 x2 (x3 + a4) x4 x5 o0 o1 o2 x0 x1 x2 x3 x4 x5 o0 o1 o2) (own_HD1 x0 x1 x2 (x3 + a4) x4 x5 o0 o1 o2 x0 x1 x2 (x3 + a4) x4 x5 o0 o1 o2) (own_run.fuel 40 rfl) (own_run.fuel 40 rfl) rfl (own_mv_1_1_1_1 a4 x0 x1 x2 x3 x4 x5 o0 o1 o2 x0 x1 x2 x3 x4 x5 o0 o1 o2) (own_ap_1_1_1_1 a4 x0 x1 x2 (x3 + a4) x4 x5 o0 o1 o2 x0 x1 x2 x3 x4 x5 o0 o1 o2) (own_t471_1 a0 a1 a2 a3 a4 a5 k r c 1 1 1 x0 x1 x2 (x3 + a4) x4 x5 o0 o1 o2)
    · exact own_mvB_1 a0 a1 a2 a3 a4 a5 k r c 2 0 1 0 2 (own_HD1 x0 x1 x2 x3 x4 x5 o0 o1 o2 x0 x1 x2 x3 x4 x5 o0 o1 o2) (own_HD1 x0 x1 x2 x3 (x4 + a4) x5 o0 o1 o2 x0 x1 x2 x3 x4 x5 o0 o1 o2) (own_HD1 x0 x1 x2 x3 (x4 + a4) x5 o0 o1 o2 x0 x1 x2 x3 (x4 + a4) x5 o0 o1 o2) (own_run.fuel 40 rfl) (own_run.fuel 40 rfl) rfl (own_mv_1_1_2_0 a4 x0 x1 x2 x3 x4 x5 o0 o1 o2 x0 x1 x2 x3 x4 x5 o0 o1 o2) (own_ap_1_1_2_0 a4 x0 x1 x2 x3 (x4 + a4) x5 o0 o1 o2 x0 x1 x2 x3 x4 x5 o0 o1 o2) (own_t471_1 a0 a1 a2 a3 a4 a5 k r c 1 0 2 x0 x1 x2 x3 (x4 + a4) x5 o0 o1 o2)
    · exact own_mvB_1 a0 a1 a2 a3 a4 a5 k r c 2 1 1 1 2 (own_HD1 x0 x1 x2 x3 x4 x5 o0 o1 o2 x0 x1 x2 x3 x4 x5 o0 o1 o2) (own_HD1 x0 x1 x2 x3 x4 (x5 + a4) o0 o1 o2 x0 x1 x2 x3 x4 x5 o0 o1 o2) (own_HD1 x0 x1 x2 x3 x4 (x5 + a4) o0 o1 o2 x0 x1 x2 x3 x4 (x5 + a4) o0 o1 o2) (own_run.fuel 40 rfl) (own_run.fuel 40 rfl) rfl (own_mv_1_1_2_1 a4 x0 x1 x2 x3 x4 x5 o0 o1 o2 x0 x1 x2 x3 x4 x5 o0 o1 o2) (own_ap_1_1_2_1 a4 x0 x1 x2 x3 x4 (x5 + a4) o0 o1 o2 x0 x1 x2 x3 x4 x5 o0 o1 o2) (own_t471_1 a0 a1 a2 a3 a4 a5 k r c 1 1 2 x0 x1 x2 x3 x4 (x5 + a4) o0 o1 o2)
  · obtain ⟨c2, hc, hcol⟩ := own_col_1_2 a3 (own_HD1 x0 x1 x2 x3 x4 x5 o0 o1 o2 x0 x1 x2 x3 x4 x5 o0 o1 o2)
    refine own_ks.call (mt := own_m0) (mj := own_m53) rfl (ins := .invokestatic 21) (t := 427) (j := 53) (as := [.int (2 : Int32), .int a3, .int (1 : Int32)]) (r' := []) (v := some (.int c2)) (H' := (own_HD1 x0 x1 x2 x3 x4 x5 o0 o1 o2 x0 x1 x2 x3 x4 x5 o0 o1 o2)) (S' := [.int c2]) rfl rfl rfl rfl rfl hcol rfl ?_
    refine own_ks.go (mt := own_m0) rfl 1 (pc' := 429) (L' := [.val (.int a0), .val (.int a1), .val (.int a2), .val (.int a3), .val (.int a4), .val (.int a5), .val (.int (1 : Int32)), .val (.int (0 : Int32)), .val (.int (2147483647 : Int32)), .val (.ref 0), .val (.ref 1), .val (.ref 2), .val (.ref 3), .val (.ref 4), .val (.ref 5), .val (.ref 6), .val (.ref 7), .val (.ref 8), .val (.ref 84), .val (.ref 85), .val (.int k), .val (.int r), .val (.int c), .val (.int (2 : Int32)), .val (.int r2), .val (.int c2), .unset]) (S' := []) (H' := (own_HD1 x0 x1 x2 x3 x4 x5 o0 o1 o2 x0 x1 x2 x3 x4 x5 o0 o1 o2)) rfl ?_
    rcases hc with rfl | rfl | rfl <;> rcases hr with rfl | rfl
    · exact own_mvB_1 a0 a1 a2 a3 a4 a5 k r c 0 2 2 0 0 (own_HD1 x0 x1 x2 x3 x4 x5 o0 o1 o2 x0 x1 x2 x3 x4 x5 o0 o1 o2) (own_HD1 x0 x1 x2 x3 x4 x5 (o0 + a4.toInt64) o1 o2 x0 x1 x2 x3 x4 x5 o0 o1 o2) (own_HD1 x0 x1 x2 x3 x4 x5 (o0 + a4.toInt64) o1 o2 x0 x1 x2 x3 x4 x5 (o0 + a4.toInt64) o1 o2) (own_run.fuel 40 rfl) (own_run.fuel 40 rfl) rfl (own_mv_1_2_0_0 a4 x0 x1 x2 x3 x4 x5 o0 o1 o2 x0 x1 x2 x3 x4 x5 o0 o1 o2) (own_ap_1_2_0_0 a4 x0 x1 x2 x3 x4 x5 (o0 + a4.toInt64) o1 o2 x0 x1 x2 x3 x4 x5 o0 o1 o2) (own_t471_1 a0 a1 a2 a3 a4 a5 k r c 2 0 0 x0 x1 x2 x3 x4 x5 (o0 + a4.toInt64) o1 o2)
    · exact own_mvB_1 a0 a1 a2 a3 a4 a5 k r c 0 2 2 1 0 (own_HD1 x0 x1 x2 x3 x4 x5 o0 o1 o2 x0 x1 x2 x3 x4 x5 o0 o1 o2) (own_HD1 x0 x1 x2 x3 x4 x5 (o0 + a4.toInt64) o1 o2 x0 x1 x2 x3 x4 x5 o0 o1 o2) (own_HD1 x0 x1 x2 x3 x4 x5 (o0 + a4.toInt64) o1 o2 x0 x1 x2 x3 x4 x5 (o0 + a4.toInt64) o1 o2) (own_run.fuel 40 rfl) (own_run.fuel 40 rfl) rfl (own_mv_1_2_0_1 a4 x0 x1 x2 x3 x4 x5 o0 o1 o2 x0 x1 x2 x3 x4 x5 o0 o1 o2) (own_ap_1_2_0_1 a4 x0 x1 x2 x3 x4 x5 (o0 + a4.toInt64) o1 o2 x0 x1 x2 x3 x4 x5 o0 o1 o2) (own_t471_1 a0 a1 a2 a3 a4 a5 k r c 2 1 0 x0 x1 x2 x3 x4 x5 (o0 + a4.toInt64) o1 o2)
    · exact own_mvB_1 a0 a1 a2 a3 a4 a5 k r c 1 2 2 0 1 (own_HD1 x0 x1 x2 x3 x4 x5 o0 o1 o2 x0 x1 x2 x3 x4 x5 o0 o1 o2) (own_HD1 x0 x1 x2 x3 x4 x5 o0 (o1 + a4.toInt64) o2 x0 x1 x2 x3 x4 x5 o0 o1 o2) (own_HD1 x0 x1 x2 x3 x4 x5 o0 (o1 + a4.toInt64) o2 x0 x1 x2 x3 x4 x5 o0 (o1 + a4.toInt64) o2) (own_run.fuel 40 rfl) (own_run.fuel 40 rfl) rfl (own_mv_1_2_1_0 a4 x0 x1 x2 x3 x4 x5 o0 o1 o2 x0 x1 x2 x3 x4 x5 o0 o1 o2) (own_ap_1_2_1_0 a4 x0 x1 x2 x3 x4 x5 o0 (o1 + a4.toInt64) o2 x0 x1 x2 x3 x4 x5 o0 o1 o2) (own_t471_1 a0 a1 a2 a3 a4 a5 k r c 2 0 1 x0 x1 x2 x3 x4 x5 o0 (o1 + a4.toInt64) o2)
    · exact own_mvB_1 a0 a1 a2 a3 a4 a5 k r c 1 2 2 1 1 (own_HD1 x0 x1 x2 x3 x4 x5 o0 o1 o2 x0 x1 x2 x3 x4 x5 o0 o1 o2) (own_HD1 x0 x1 x2 x3 x4 x5 o0 (o1 + a4.toInt64) o2 x0 x1 x2 x3 x4 x5 o0 o1 o2) (own_HD1 x0 x1 x2 x3 x4 x5 o0 (o1 + a4.toInt64) o2 x0 x1 x2 x3 x4 x5 o0 (o1 + a4.toInt64) o2) (own_run.fuel 40 rfl) (own_run.fuel 40 rfl) rfl (own_mv_1_2_1_1 a4 x0 x1 x2 x3 x4 x5 o0 o1 o2 x0 x1 x2 x3 x4 x5 o0 o1 o2) (own_ap_1_2_1_1 a4 x0 x1 x2 x3 x4 x5 o0 (o1 + a4.toInt64) o2 x0 x1 x2 x3 x4 x5 o0 o1 o2) (own_t471_1 a0 a1 a2 a3 a4 a5 k r c 2 1 1 x0 x1 x2 x3 x4 x5 o0 (o1 + a4.toInt64) o2)
    · exact own_mvB_1 a0 a1 a2 a3 a4 a5 k r c 2 2 2 0 2 (own_HD1 x0 x1 x2 x3 x4 x5 o0 o1 o2 x0 x1 x2 x3 x4 x5 o0 o1 o2) (own_HD1 x0 x1 x2 x3 x4 x5 o0 o1 (o2 + a4.toInt64) x0 x1 x2 x3 x4 x5 o0 o1 o2) (own_HD1 x0 x1 x2 x3 x4 x5 o0 o1 (o2 + a4.toInt64) x0 x1 x2 x3 x4 x5 o0 o1 (o2 + a4.toInt64)) (own_run.fuel 40 rfl) (own_run.fuel 40 rfl) rfl (own_mv_1_2_2_0 a4 x0 x1 x2 x3 x4 x5 o0 o1 o2 x0 x1 x2 x3 x4 x5 o0 o1 o2) (own_ap_1_2_2_0 a4 x0 x1 x2 x3 x4 x5 o0 o1 (o2 + a4.toInt64) x0 x1 x2 x3 x4 x5 o0 o1 o2) (own_t471_1 a0 a1 a2 a3 a4 a5 k r c 2 0 2 x0 x1 x2 x3 x4 x5 o0 o1 (o2 + a4.toInt64))
    · exact own_mvB_1 a0 a1 a2 a3 a4 a5 k r c 2 2 2 1 2 (own_HD1 x0 x1 x2 x3 x4 x5 o0 o1 o2 x0 x1 x2 x3 x4 x5 o0 o1 o2) (own_HD1 x0 x1 x2 x3 x4 x5 o0 o1 (o2 + a4.toInt64) x0 x1 x2 x3 x4 x5 o0 o1 o2) (own_HD1 x0 x1 x2 x3 x4 x5 o0 o1 (o2 + a4.toInt64) x0 x1 x2 x3 x4 x5 o0 o1 (o2 + a4.toInt64)) (own_run.fuel 40 rfl) (own_run.fuel 40 rfl) rfl (own_mv_1_2_2_1 a4 x0 x1 x2 x3 x4 x5 o0 o1 o2 x0 x1 x2 x3 x4 x5 o0 o1 o2) (own_ap_1_2_2_1 a4 x0 x1 x2 x3 x4 x5 o0 o1 (o2 + a4.toInt64) x0 x1 x2 x3 x4 x5 o0 o1 o2) (own_t471_1 a0 a1 a2 a3 a4 a5 k r c 2 1 2 x0 x1 x2 x3 x4 x5 o0 o1 (o2 + a4.toInt64))
  · obtain ⟨c2, hc, hcol⟩ := own_col_1_3 a3 (own_HD1 x0 x1 x2 x3 x4 x5 o0 o1 o2 x0 x1 x2 x3 x4 x5 o0 o1 o2)
    refine own_ks.call (mt := own_m0) (mj := own_m53) rfl (ins := .invokestatic 21) (t := 427) (j := 53) (as := [.int (3 : Int32), .int a3, .int (1 : Int32)]) (r' := []) (v := some (.int c2)) (H' := (own_HD1 x0 x1 x2 x3 x4 x5 o0 o1 o2 x0 x1 x2 x3 x4 x5 o0 o1 o2)) (S' := [.int c2]) rfl rfl rfl rfl rfl hcol rfl ?_
    refine own_ks.go (mt := own_m0) rfl 1 (pc' := 429) (L' := [.val (.int a0), .val (.int a1), .val (.int a2), .val (.int a3), .val (.int a4), .val (.int a5), .val (.int (1 : Int32)), .val (.int (0 : Int32)), .val (.int (2147483647 : Int32)), .val (.ref 0), .val (.ref 1), .val (.ref 2), .val (.ref 3), .val (.ref 4), .val (.ref 5), .val (.ref 6), .val (.ref 7), .val (.ref 8), .val (.ref 84), .val (.ref 85), .val (.int k), .val (.int r), .val (.int c), .val (.int (3 : Int32)), .val (.int r2), .val (.int c2), .unset]) (S' := []) (H' := (own_HD1 x0 x1 x2 x3 x4 x5 o0 o1 o2 x0 x1 x2 x3 x4 x5 o0 o1 o2)) rfl ?_
    rcases hc with rfl | rfl | rfl <;> rcases hr with rfl | rfl
    · exact own_mvB_1 a0 a1 a2 a3 a4 a5 k r c 3 0 3 0 0 (own_HD1 x0 x1 x2 x3 x4 x5 o0 o1 o2 x0 x1 x2 x3 x4 x5 o0 o1 o2) (own_HD1 (x0 - a4) x1 x2 x3 x4 x5 o0 o1 o2 x0 x1 x2 x3 x4 x5 o0 o1 o2) (own_HD1 (x0 - a4) x1 x2 x3 x4 x5 o0 o1 o2 (x0 - a4) x1 x2 x3 x4 x5 o0 o1 o2) (own_run.fuel 40 rfl) (own_run.fuel 40 rfl) rfl (own_mv_1_3_0_0 a4 x0 x1 x2 x3 x4 x5 o0 o1 o2 x0 x1 x2 x3 x4 x5 o0 o1 o2) (own_ap_1_3_0_0 a4 (x0 - a4) x1 x2 x3 x4 x5 o0 o1 o2 x0 x1 x2 x3 x4 x5 o0 o1 o2) (own_t471_1 a0 a1 a2 a3 a4 a5 k r c 3 0 0 (x0 - a4) x1 x2 x3 x4 x5 o0 o1 o2)
    · exact own_mvB_1 a0 a1 a2 a3 a4 a5 k r c 4 0 3 1 0 (own_HD1 x0 x1 x2 x3 x4 x5 o0 o1 o2 x0 x1 x2 x3 x4 x5 o0 o1 o2) (own_HD1 x0 (x1 - a4) x2 x3 x4 x5 o0 o1 o2 x0 x1 x2 x3 x4 x5 o0 o1 o2) (own_HD1 x0 (x1 - a4) x2 x3 x4 x5 o0 o1 o2 x0 (x1 - a4) x2 x3 x4 x5 o0 o1 o2) (own_run.fuel 40 rfl) (own_run.fuel 40 rfl) rfl (own_mv_1_3_0_1 a4 x0 x1 x2 x3 x4 x5 o0 o1 o2 x0 x1 x2 x3 x4 x5 o0 o1 o2) (own_ap_1_3_0_1 a4 x0 (x1 - a4) x2 x3 x4 x5 o0 o1 o2 x0 x1 x2 x3 x4 x5 o0 o1 o2) (own_t471_1 a0 a1 a2 a3 a4 a5 k r c 3 1 0 x0 (x1 - a4) x2 x3 x4 x5 o0 o1 o2)
    · exact own_mvB_1 a0 a1 a2 a3 a4 a5 k r c 3 1 3 0 1 (own_HD1 x0 x1 x2 x3 x4 x5 o0 o1 o2 x0 x1 x2 x3 x4 x5 o0 o1 o2) (own_HD1 x0 x1 (x2 - a4) x3 x4 x5 o0 o1 o2 x0 x1 x2 x3 x4 x5 o0 o1 o2) (own_HD1 x0 x1 (x2 - a4) x3 x4 x5 o0 o1 o2 x0 x1 (x2 - a4) x3 x4 x5 o0 o1 o2) (own_run.fuel 40 rfl) (own_run.fuel 40 rfl) rfl (own_mv_1_3_1_0 a4 x0 x1 x2 x3 x4 x5 o0 o1 o2 x0 x1 x2 x3 x4 x5 o0 o1 o2) (own_ap_1_3_1_0 a4 x0 x1 (x2 - a4) x3 x4 x5 o0 o1 o2 x0 x1 x2 x3 x4 x5 o0 o1 o2) (own_t471_1 a0 a1 a2 a3 a4 a5 k r c 3 0 1 x0 x1 (x2 - a4) x3 x4 x5 o0 o1 o2)
    · exact own_mvB_1 a0 a1 a2 a3 a4 a5 k r c 4 1 3 1 1 (own_HD1 x0 x1 x2 x3 x4 x5 o0 o1 o2 x0 x1 x2 x3 x4 x5 o0 o1 o2) (own_HD1 x0 x1 x2 (x3 - a4) x4 x5 o0 o1 o2 x0 x1 x2 x3 x4 x5 o0 o1 o2) (own_HD1 x0 x1 x2 (x3 - a4) x4 x5 o0 o1 o2 x0 x1 x2 (x3 - a4) x4 x5 o0 o1 o2) (own_run.fuel 40 rfl) (own_run.fuel 40 rfl) rfl (own_mv_1_3_1_1 a4 x0 x1 x2 x3 x4 x5 o0 o1 o2 x0 x1 x2 x3 x4 x5 o0 o1 o2) (own_ap_1_3_1_1 a4 x0 x1 x2 (x3 - a4) x4 x5 o0 o1 o2 x0 x1 x2 x3 x4 x5 o0 o1 o2) (own_t471_1 a0 a1 a2 a3 a4 a5 k r c 3 1 1 x0 x1 x2 (x3 - a4) x4 x5 o0 o1 o2)
    · exact own_mvB_1 a0 a1 a2 a3 a4 a5 k r c 3 2 3 0 2 (own_HD1 x0 x1 x2 x3 x4 x5 o0 o1 o2 x0 x1 x2 x3 x4 x5 o0 o1 o2) (own_HD1 x0 x1 x2 x3 (x4 - a4) x5 o0 o1 o2 x0 x1 x2 x3 x4 x5 o0 o1 o2) (own_HD1 x0 x1 x2 x3 (x4 - a4) x5 o0 o1 o2 x0 x1 x2 x3 (x4 - a4) x5 o0 o1 o2) (own_run.fuel 40 rfl) (own_run.fuel 40 rfl) rfl (own_mv_1_3_2_0 a4 x0 x1 x2 x3 x4 x5 o0 o1 o2 x0 x1 x2 x3 x4 x5 o0 o1 o2) (own_ap_1_3_2_0 a4 x0 x1 x2 x3 (x4 - a4) x5 o0 o1 o2 x0 x1 x2 x3 x4 x5 o0 o1 o2) (own_t471_1 a0 a1 a2 a3 a4 a5 k r c 3 0 2 x0 x1 x2 x3 (x4 - a4) x5 o0 o1 o2)
    · exact own_mvB_1 a0 a1 a2 a3 a4 a5 k r c 4 2 3 1 2 (own_HD1 x0 x1 x2 x3 x4 x5 o0 o1 o2 x0 x1 x2 x3 x4 x5 o0 o1 o2) (own_HD1 x0 x1 x2 x3 x4 (x5 - a4) o0 o1 o2 x0 x1 x2 x3 x4 x5 o0 o1 o2) (own_HD1 x0 x1 x2 x3 x4 (x5 - a4) o0 o1 o2 x0 x1 x2 x3 x4 (x5 - a4) o0 o1 o2) (own_run.fuel 40 rfl) (own_run.fuel 40 rfl) rfl (own_mv_1_3_2_1 a4 x0 x1 x2 x3 x4 x5 o0 o1 o2 x0 x1 x2 x3 x4 x5 o0 o1 o2) (own_ap_1_3_2_1 a4 x0 x1 x2 x3 x4 (x5 - a4) o0 o1 o2 x0 x1 x2 x3 x4 x5 o0 o1 o2) (own_t471_1 a0 a1 a2 a3 a4 a5 k r c 3 1 2 x0 x1 x2 x3 x4 (x5 - a4) o0 o1 o2)
set_option maxRecDepth 1000000 in
set_option maxHeartbeats 40000000 in
theorem own_t345_1 (a0 a1 a2 a3 a4 a5 : Int32) (x0 x1 x2 x3 x4 x5 : Int32) (o0 o1 o2 : Int64) : own_ks own_P (own_end own_P.2.1 208 896) [] 0 12 304 345 [.val (.int a0), .val (.int a1), .val (.int a2), .val (.int a3), .val (.int a4), .val (.int a5), .val (.int (1 : Int32)), .val (.int (0 : Int32)), .val (.int (2147483647 : Int32)), .val (.ref 0), .val (.ref 1), .val (.ref 2), .val (.ref 3), .val (.ref 4), .val (.ref 5), .val (.ref 6), .val (.ref 7), .val (.ref 8), .val (.ref 84), .val (.ref 85), .unset, .unset, .unset, .unset, .unset, .unset, .unset] [] (own_HD1 x0 x1 x2 x3 x4 x5 o0 o1 o2 x0 x1 x2 x3 x4 x5 o0 o1 o2) := by
  have s0 := c_mask a1 3 2 (by decide) (by decide)
  have s1 := c_mask (a1.toUInt32 >>> ((2 : Int32) &&& 31).toUInt32).toInt32 1 1 (by decide) (by decide)
  refine own_ks.go (mt := own_m0) rfl 13 (pc' := 362) (L' := [.val (.int a0), .val (.int a1), .val (.int a2), .val (.int a3), .val (.int a4), .val (.int a5), .val (.int (1 : Int32)), .val (.int (0 : Int32)), .val (.int (2147483647 : Int32)), .val (.ref 0), .val (.ref 1), .val (.ref 2), .val (.ref 3), .val (.ref 4), .val (.ref 5), .val (.ref 6), .val (.ref 7), .val (.ref 8), .val (.ref 84), .val (.ref 85), .val (.int (a1 &&& (3 : Int32))), .val (.int ((a1.toUInt32 >>> ((2 : Int32) &&& 31).toUInt32).toInt32 &&& (1 : Int32))), .unset, .unset, .unset, .unset, .unset]) (S' := [.int (1 : Int32), .int a1, .int (a1 &&& (3 : Int32))]) (H' := (own_HD1 x0 x1 x2 x3 x4 x5 o0 o1 o2 x0 x1 x2 x3 x4 x5 o0 o1 o2)) rfl ?_
  generalize (a1 &&& (3 : Int32)) = k at *
  generalize ((a1.toUInt32 >>> ((2 : Int32) &&& 31).toUInt32).toInt32 &&& (1 : Int32)) = r at *
  have e0 : (0 : Int32).toInt = 0 := rfl
  have e1 : (1 : Int32).toInt = 1 := rfl
  have e2 : (2 : Int32).toInt = 2 := rfl
  have e3 : (3 : Int32).toInt = 3 := rfl
  have hk : k = 0 ∨ k = 1 ∨ k = 2 ∨ k = 3 := by simp only [← Int32.toInt_inj, e0, e1, e2, e3]; omega
  have hr : r = 0 ∨ r = 1 := by simp only [← Int32.toInt_inj, e0, e1]; omega
  clear s0 s1 e0 e1 e2 e3
  rcases hk with rfl | rfl | rfl | rfl
  · obtain ⟨c, hc, hcol⟩ := own_col_1_0 a1 (own_HD1 x0 x1 x2 x3 x4 x5 o0 o1 o2 x0 x1 x2 x3 x4 x5 o0 o1 o2)
    refine own_ks.call (mt := own_m0) (mj := own_m53) rfl (ins := .invokestatic 21) (t := 365) (j := 53) (as := [.int (0 : Int32), .int a1, .int (1 : Int32)]) (r' := []) (v := some (.int c)) (H' := (own_HD1 x0 x1 x2 x3 x4 x5 o0 o1 o2 x0 x1 x2 x3 x4 x5 o0 o1 o2)) (S' := [.int c]) rfl rfl rfl rfl rfl hcol rfl ?_
    refine own_ks.go (mt := own_m0) rfl 1 (pc' := 367) (L' := [.val (.int a0), .val (.int a1), .val (.int a2), .val (.int a3), .val (.int a4), .val (.int a5), .val (.int (1 : Int32)), .val (.int (0 : Int32)), .val (.int (2147483647 : Int32)), .val (.ref 0), .val (.ref 1), .val (.ref 2), .val (.ref 3), .val (.ref 4), .val (.ref 5), .val (.ref 6), .val (.ref 7), .val (.ref 8), .val (.ref 84), .val (.ref 85), .val (.int (0 : Int32)), .val (.int r), .val (.int c), .unset, .unset, .unset, .unset]) (S' := []) (H' := (own_HD1 x0 x1 x2 x3 x4 x5 o0 o1 o2 x0 x1 x2 x3 x4 x5 o0 o1 o2)) rfl ?_
    rcases hc with rfl | rfl | rfl <;> rcases hr with rfl | rfl
    · exact own_mvA_1 a0 a1 a2 a3 a4 a5 0 0 0 5 0 (own_HD1 x0 x1 x2 x3 x4 x5 o0 o1 o2 x0 x1 x2 x3 x4 x5 o0 o1 o2) (own_HD1 x0 x1 x2 x3 x4 x5 (o0 - a2.toInt64) o1 o2 x0 x1 x2 x3 x4 x5 o0 o1 o2) (own_HD1 x0 x1 x2 x3 x4 x5 (o0 - a2.toInt64) o1 o2 x0 x1 x2 x3 x4 x5 (o0 - a2.toInt64) o1 o2) (own_run.fuel 40 rfl) (own_run.fuel 40 rfl) rfl (own_mv_1_0_0_0 a2 x0 x1 x2 x3 x4 x5 o0 o1 o2 x0 x1 x2 x3 x4 x5 o0 o1 o2) (own_ap_1_0_0_0 a2 x0 x1 x2 x3 x4 x5 (o0 - a2.toInt64) o1 o2 x0 x1 x2 x3 x4 x5 o0 o1 o2) (own_t407_1 a0 a1 a2 a3 a4 a5 0 0 0 x0 x1 x2 x3 x4 x5 (o0 - a2.toInt64) o1 o2)
    · exact own_mvA_1 a0 a1 a2 a3 a4 a5 0 1 0 5 0 (own_HD1 x0 x1 x2 x3 x4 x5 o0 o1 o2 x0 x1 x2 x3 x4 x5 o0 o1 o2) (own_HD1 x0 x1 x2 x3 x4 x5 (o0 - a2.toInt64) o1 o2 x0 x1 x2 x3 x4 x5 o0 o1 o2) (own_HD1 x0 x1 x2 x3 x4 x5 (o0 - a2.toInt64) o1 o2 x0 x1 x2 x3 x4 x5 (o0 - a2.toInt64) o1 o2) (own_run.fuel 40 rfl) (own_run.fuel 40 rfl) rfl (own_mv_1_0_0_1 a2 x0 x1 x2 x3 x4 x5 o0 o1 o2 x0 x1 x2 x3 x4 x5 o0 o1 o2) (own_ap_1_0_0_1 a2 x0 x1 x2 x3 x4 x5 (o0 - a2.toInt64) o1 o2 x0 x1 x2 x3 x4 x5 o0 o1 o2) (own_t407_1 a0 a1 a2 a3 a4 a5 0 1 0 x0 x1 x2 x3 x4 x5 (o0 - a2.toInt64) o1 o2)
    · exact own_mvA_1 a0 a1 a2 a3 a4 a5 0 0 1 5 1 (own_HD1 x0 x1 x2 x3 x4 x5 o0 o1 o2 x0 x1 x2 x3 x4 x5 o0 o1 o2) (own_HD1 x0 x1 x2 x3 x4 x5 o0 (o1 - a2.toInt64) o2 x0 x1 x2 x3 x4 x5 o0 o1 o2) (own_HD1 x0 x1 x2 x3 x4 x5 o0 (o1 - a2.toInt64) o2 x0 x1 x2 x3 x4 x5 o0 (o1 - a2.toInt64) o2) (own_run.fuel 40 rfl) (own_run.fuel 40 rfl) rfl (own_mv_1_0_1_0 a2 x0 x1 x2 x3 x4 x5 o0 o1 o2 x0 x1 x2 x3 x4 x5 o0 o1 o2) (own_ap_1_0_1_0 a2 x0 x1 x2 x3 x4 x5 o0 (o1 - a2.toInt64) o2 x0 x1 x2 x3 x4 x5 o0 o1 o2) (own_t407_1 a0 a1 a2 a3 a4 a5 0 0 1 x0 x1 x2 x3 x4 x5 o0 (o1 - a2.toInt64) o2)
    · exact own_mvA_1 a0 a1 a2 a3 a4 a5 0 1 1 5 1 (own_HD1 x0 x1 x2 x3 x4 x5 o0 o1 o2 x0 x1 x2 x3 x4 x5 o0 o1 o2) (own_HD1 x0 x1 x2 x3 x4 x5 o0 (o1 - a2.toInt64) o2 x0 x1 x2 x3 x4 x5 o0 o1 o2) (own_HD1 x0 x1 x2 x3 x4 x5 o0 (o1 - a2.toInt64) o2 x0 x1 x2 x3 x4 x5 o0 (o1 - a2.toInt64) o2) (own_run.fuel 40 rfl) (own_run.fuel 40 rfl) rfl (own_mv_1_0_1_1 a2 x0 x1 x2 x3 x4 x5 o0 o1 o2 x0 x1 x2 x3 x4 x5 o0 o1 o2) (own_ap_1_0_1_1 a2 x0 x1 x2 x3 x4 x5 o0 (o1 - a2.toInt64) o2 x0 x1 x2 x3 x4 x5 o0 o1 o2) (own_t407_1 a0 a1 a2 a3 a4 a5 0 1 1 x0 x1 x2 x3 x4 x5 o0 (o1 - a2.toInt64) o2)
    · exact own_mvA_1 a0 a1 a2 a3 a4 a5 0 0 2 5 2 (own_HD1 x0 x1 x2 x3 x4 x5 o0 o1 o2 x0 x1 x2 x3 x4 x5 o0 o1 o2) (own_HD1 x0 x1 x2 x3 x4 x5 o0 o1 (o2 - a2.toInt64) x0 x1 x2 x3 x4 x5 o0 o1 o2) (own_HD1 x0 x1 x2 x3 x4 x5 o0 o1 (o2 - a2.toInt64) x0 x1 x2 x3 x4 x5 o0 o1 (o2 - a2.toInt64)) (own_run.fuel 40 rfl) (own_run.fuel 40 rfl) rfl (own_mv_1_0_2_0 a2 x0 x1 x2 x3 x4 x5 o0 o1 o2 x0 x1 x2 x3 x4 x5 o0 o1 o2) (own_ap_1_0_2_0 a2 x0 x1 x2 x3 x4 x5 o0 o1 (o2 - a2.toInt64) x0 x1 x2 x3 x4 x5 o0 o1 o2) (own_t407_1 a0 a1 a2 a3 a4 a5 0 0 2 x0 x1 x2 x3 x4 x5 o0 o1 (o2 - a2.toInt64))
    · exact own_mvA_1 a0 a1 a2 a3 a4 a5 0 1 2 5 2 (own_HD1 x0 x1 x2 x3 x4 x5 o0 o1 o2 x0 x1 x2 x3 x4 x5 o0 o1 o2) (own_HD1 x0 x1 x2 x3 x4 x5 o0 o1 (o2 - a2.toInt64) x0 x1 x2 x3 x4 x5 o0 o1 o2) (own_HD1 x0 x1 x2 x3 x4 x5 o0 o1 (o2 - a2.toInt64) x0 x1 x2 x3 x4 x5 o0 o1 (o2 - a2.toInt64)) (own_run.fuel 40 rfl) (own_run.fuel 40 rfl) rfl (own_mv_1_0_2_1 a2 x0 x1 x2 x3 x4 x5 o0 o1 o2 x0 x1 x2 x3 x4 x5 o0 o1 o2) (own_ap_1_0_2_1 a2 x0 x1 x2 x3 x4 x5 o0 o1 (o2 - a2.toInt64) x0 x1 x2 x3 x4 x5 o0 o1 o2) (own_t407_1 a0 a1 a2 a3 a4 a5 0 1 2 x0 x1 x2 x3 x4 x5 o0 o1 (o2 - a2.toInt64))
  · obtain ⟨c, hc, hcol⟩ := own_col_1_1 a1 (own_HD1 x0 x1 x2 x3 x4 x5 o0 o1 o2 x0 x1 x2 x3 x4 x5 o0 o1 o2)
    refine own_ks.call (mt := own_m0) (mj := own_m53) rfl (ins := .invokestatic 21) (t := 365) (j := 53) (as := [.int (1 : Int32), .int a1, .int (1 : Int32)]) (r' := []) (v := some (.int c)) (H' := (own_HD1 x0 x1 x2 x3 x4 x5 o0 o1 o2 x0 x1 x2 x3 x4 x5 o0 o1 o2)) (S' := [.int c]) rfl rfl rfl rfl rfl hcol rfl ?_
    refine own_ks.go (mt := own_m0) rfl 1 (pc' := 367) (L' := [.val (.int a0), .val (.int a1), .val (.int a2), .val (.int a3), .val (.int a4), .val (.int a5), .val (.int (1 : Int32)), .val (.int (0 : Int32)), .val (.int (2147483647 : Int32)), .val (.ref 0), .val (.ref 1), .val (.ref 2), .val (.ref 3), .val (.ref 4), .val (.ref 5), .val (.ref 6), .val (.ref 7), .val (.ref 8), .val (.ref 84), .val (.ref 85), .val (.int (1 : Int32)), .val (.int r), .val (.int c), .unset, .unset, .unset, .unset]) (S' := []) (H' := (own_HD1 x0 x1 x2 x3 x4 x5 o0 o1 o2 x0 x1 x2 x3 x4 x5 o0 o1 o2)) rfl ?_
    rcases hc with rfl | rfl | rfl <;> rcases hr with rfl | rfl
    · exact own_mvA_1 a0 a1 a2 a3 a4 a5 1 0 0 0 0 (own_HD1 x0 x1 x2 x3 x4 x5 o0 o1 o2 x0 x1 x2 x3 x4 x5 o0 o1 o2) (own_HD1 (x0 + a2) x1 x2 x3 x4 x5 o0 o1 o2 x0 x1 x2 x3 x4 x5 o0 o1 o2) (own_HD1 (x0 + a2) x1 x2 x3 x4 x5 o0 o1 o2 (x0 + a2) x1 x2 x3 x4 x5 o0 o1 o2) (own_run.fuel 40 rfl) (own_run.fuel 40 rfl) rfl (own_mv_1_1_0_0 a2 x0 x1 x2 x3 x4 x5 o0 o1 o2 x0 x1 x2 x3 x4 x5 o0 o1 o2) (own_ap_1_1_0_0 a2 (x0 + a2) x1 x2 x3 x4 x5 o0 o1 o2 x0 x1 x2 x3 x4 x5 o0 o1 o2) (own_t407_1 a0 a1 a2 a3 a4 a5 1 0 0 (x0 + a2) x1 x2 x3 x4 x5 o0 o1 o2)
    · exact own_mvA_1 a0 a1 a2 a3 a4 a5 1 1 0 0 1 (own_HD1 x0 x1 x2 x3 x4 x5 o0 o1 o2 x0 x1 x2 x3 x4 x5 o0 o1 o2) (own_HD1 x0 (x1 + a2) x2 x3 x4 x5 o0 o1 o2 x0 x1 x2 x3 x4 x5 o0 o1 o2) (own_HD1 x0 (x1 + a2) x2 x3 x4 x5 o0 o1 o2 x0 (x1 + a2) x2 x3 x4 x5 o0 o1 o2) (own_run.fuel 40 rfl) (own_run.fuel 40 rfl) rfl (own_mv_1_1_0_1 a2 x0 x1 x2 x3 x4 x5 o0 o1 o2 x0 x1 x2 x3 x4 x5 o0 o1 o2) (own_ap_1_1_0_1 a2 x0 (x1 + a2) x2 x3 x4 x5 o0 o1 o2 x0 x1 x2 x3 x4 x5 o0 o1 o2) (own_t407_1 a0 a1 a2 a3 a4 a5 1 1 0 x0 (x1 + a2) x2 x3 x4 x5 o0 o1 o2)
    · exact own_mvA_1 a0 a1 a2 a3 a4 a5 1 0 1 1 0 (own_HD1 x0 x1 x2 x3 x4 x5 o0 o1 o2 x0 x1 x2 x3 x4 x5 o0 o1 o2) (own_HD1 x0 x1 (x2 + a2) x3 x4 x5 o0 o1 o2 x0 x1 x2 x3 x4 x5 o0 o1 o2) (own_HD1 x0 x1 (x2 + a2) x3 x4 x5 o0 o1 o2 x0 x1 (x2 + a2) x3 x4 x5 o0 o1 o2) (own_run.fuel 40 rfl) (own_run.fuel 40 rfl) rfl (own_mv_1_1_1_0 a2 x0 x1 x2 x3 x4 x5 o0 o1 o2 x0 x1 x2 x3 x4 x5 o0 o1 o2) (own_ap_1_1_1_0 a2 x0 x1 (x2 + a2) x3 x4 x5 o0 o1 o2 x0 x1 x2 x3 x4 x5 o0 o1 o2) (own_t407_1 a0 a1 a2 a3 a4 a5 1 0 1 x0 x1 (x2 + a2) x3 x4 x5 o0 o1 o2)
    · exact own_mvA_1 a0 a1 a2 a3 a4 a5 1 1 1 1 1 (own_HD1 x0 x1 x2 x3 x4 x5 o0 o1 o2 x0 x1 x2 x3 x4 x5 o0 o1 o2) (own_HD1 x0 x1 x2 (x3 + a2) x4 x5 o0 o1 o2 x0 x1 x2 x3 x4 x5 o0 o1 o2) (own_HD1 x0 x1 x2 (x3 + a2) x4 x5 o0 o1 o2 x0 x1 x2 (x3 + a2) x4 x5 o0 o1 o2) (own_run.fuel 40 rfl) (own_run.fuel 40 rfl) rfl (own_mv_1_1_1_1 a2 x0 x1 x2 x3 x4 x5 o0 o1 o2 x0 x1 x2 x3 x4 x5 o0 o1 o2) (own_ap_1_1_1_1 a2 x0 x1 x2 (x3 + a2) x4 x5 o0 o1 o2 x0 x1 x2 x3 x4 x5 o0 o1 o2) (own_t407_1 a0 a1 a2 a3 a4 a5 1 1 1 x0 x1 x2 (x3 + a2) x4 x5 o0 o1 o2)
    · exact own_mvA_1 a0 a1 a2 a3 a4 a5 1 0 2 2 0 (own_HD1 x0 x1 x2 x3 x4 x5 o0 o1 o2 x0 x1 x2 x3 x4 x5 o0 o1 o2) (own_HD1 x0 x1 x2 x3 (x4 + a2) x5 o0 o1 o2 x0 x1 x2 x3 x4 x5 o0 o1 o2) (own_HD1 x0 x1 x2 x3 (x4 + a2) x5 o0 o1 o2 x0 x1 x2 x3 (x4 + a2) x5 o0 o1 o2) (own_run.fuel 40 rfl) (own_run.fuel 40 rfl) rfl (own_mv_1_1_2_0 a2 x0 x1 x2 x3 x4 x5 o0 o1 o2 x0 x1 x2 x3 x4 x5 o0 o1 o2) (own_ap_1_1_2_0 a2 x0 x1 x2 x3 (x4 + a2) x5 o0 o1 o2 x0 x1 x2 x3 x4 x5 o0 o1 o2) (own_t407_1 a0 a1 a2 a3 a4 a5 1 0 2 x0 x1 x2 x3 (x4 + a2) x5 o0 o1 o2)
    · exact own_mvA_1 a0 a1 a2 a3 a4 a5 1 1 2 2 1 (own_HD1 x0 x1 x2 x3 x4 x5 o0 o1 o2 x0 x1 x2 x3 x4 x5 o0 o1 o2) (own_HD1 x0 x1 x2 x3 x4 (x5 + a2) o0 o1 o2 x0 x1 x2 x3 x4 x5 o0 o1 o2) (own_HD1 x0 x1 x2 x3 x4 (x5 + a2) o0 o1 o2 x0 x1 x2 x3 x4 (x5 + a2) o0 o1 o2) (own_run.fuel 40 rfl) (own_run.fuel 40 rfl) rfl (own_mv_1_1_2_1 a2 x0 x1 x2 x3 x4 x5 o0 o1 o2 x0 x1 x2 x3 x4 x5 o0 o1 o2) (own_ap_1_1_2_1 a2 x0 x1 x2 x3 x4 (x5 + a2) o0 o1 o2 x0 x1 x2 x3 x4 x5 o0 o1 o2) (own_t407_1 a0 a1 a2 a3 a4 a5 1 1 2 x0 x1 x2 x3 x4 (x5 + a2) o0 o1 o2)
  · obtain ⟨c, hc, hcol⟩ := own_col_1_2 a1 (own_HD1 x0 x1 x2 x3 x4 x5 o0 o1 o2 x0 x1 x2 x3 x4 x5 o0 o1 o2)
    refine own_ks.call (mt := own_m0) (mj := own_m53) rfl (ins := .invokestatic 21) (t := 365) (j := 53) (as := [.int (2 : Int32), .int a1, .int (1 : Int32)]) (r' := []) (v := some (.int c)) (H' := (own_HD1 x0 x1 x2 x3 x4 x5 o0 o1 o2 x0 x1 x2 x3 x4 x5 o0 o1 o2)) (S' := [.int c]) rfl rfl rfl rfl rfl hcol rfl ?_
    refine own_ks.go (mt := own_m0) rfl 1 (pc' := 367) (L' := [.val (.int a0), .val (.int a1), .val (.int a2), .val (.int a3), .val (.int a4), .val (.int a5), .val (.int (1 : Int32)), .val (.int (0 : Int32)), .val (.int (2147483647 : Int32)), .val (.ref 0), .val (.ref 1), .val (.ref 2), .val (.ref 3), .val (.ref 4), .val (.ref 5), .val (.ref 6), .val (.ref 7), .val (.ref 8), .val (.ref 84), .val (.ref 85), .val (.int (2 : Int32)), .val (.int r), .val (.int c), .unset, .unset, .unset, .unset]) (S' := []) (H' := (own_HD1 x0 x1 x2 x3 x4 x5 o0 o1 o2 x0 x1 x2 x3 x4 x5 o0 o1 o2)) rfl ?_
    rcases hc with rfl | rfl | rfl <;> rcases hr with rfl | rfl
    · exact own_mvA_1 a0 a1 a2 a3 a4 a5 2 0 0 0 2 (own_HD1 x0 x1 x2 x3 x4 x5 o0 o1 o2 x0 x1 x2 x3 x4 x5 o0 o1 o2) (own_HD1 x0 x1 x2 x3 x4 x5 (o0 + a2.toInt64) o1 o2 x0 x1 x2 x3 x4 x5 o0 o1 o2) (own_HD1 x0 x1 x2 x3 x4 x5 (o0 + a2.toInt64) o1 o2 x0 x1 x2 x3 x4 x5 (o0 + a2.toInt64) o1 o2) (own_run.fuel 40 rfl) (own_run.fuel 40 rfl) rfl (own_mv_1_2_0_0 a2 x0 x1 x2 x3 x4 x5 o0 o1 o2 x0 x1 x2 x3 x4 x5 o0 o1 o2) (own_ap_1_2_0_0 a2 x0 x1 x2 x3 x4 x5 (o0 + a2.toInt64) o1 o2 x0 x1 x2 x3 x4 x5 o0 o1 o2) (own_t407_1 a0 a1 a2 a3 a4 a5 2 0 0 x0 x1 x2 x3 x4 x5 (o0 + a2.toInt64) o1 o2)
    · exact own_mvA_1 a0 a1 a2 a3 a4 a5 2 1 0 0 2 (own_HD1 x0 x1 x2 x3 x4 x5 o0 o1 o2 x0 x1 x2 x3 x4 x5 o0 o1 o2) (own_HD1 x0 x1 x2 x3 x4 x5 (o0 + a2.toInt64) o1 o2 x0 x1 x2 x3 x4 x5 o0 o1 o2) (own_HD1 x0 x1 x2 x3 x4 x5 (o0 + a2.toInt64) o1 o2 x0 x1 x2 x3 x4 x5 (o0 + a2.toInt64) o1 o2) (own_run.fuel 40 rfl) (own_run.fuel 40 rfl) rfl (own_mv_1_2_0_1 a2 x0 x1 x2 x3 x4 x5 o0 o1 o2 x0 x1 x2 x3 x4 x5 o0 o1 o2) (own_ap_1_2_0_1 a2 x0 x1 x2 x3 x4 x5 (o0 + a2.toInt64) o1 o2 x0 x1 x2 x3 x4 x5 o0 o1 o2) (own_t407_1 a0 a1 a2 a3 a4 a5 2 1 0 x0 x1 x2 x3 x4 x5 (o0 + a2.toInt64) o1 o2)
    · exact own_mvA_1 a0 a1 a2 a3 a4 a5 2 0 1 1 2 (own_HD1 x0 x1 x2 x3 x4 x5 o0 o1 o2 x0 x1 x2 x3 x4 x5 o0 o1 o2) (own_HD1 x0 x1 x2 x3 x4 x5 o0 (o1 + a2.toInt64) o2 x0 x1 x2 x3 x4 x5 o0 o1 o2) (own_HD1 x0 x1 x2 x3 x4 x5 o0 (o1 + a2.toInt64) o2 x0 x1 x2 x3 x4 x5 o0 (o1 + a2.toInt64) o2) (own_run.fuel 40 rfl) (own_run.fuel 40 rfl) rfl (own_mv_1_2_1_0 a2 x0 x1 x2 x3 x4 x5 o0 o1 o2 x0 x1 x2 x3 x4 x5 o0 o1 o2) (own_ap_1_2_1_0 a2 x0 x1 x2 x3 x4 x5 o0 (o1 + a2.toInt64) o2 x0 x1 x2 x3 x4 x5 o0 o1 o2) (own_t407_1 a0 a1 a2 a3 a4 a5 2 0 1 x0 x1 x2 x3 x4 x5 o0 (o1 + a2.toInt64) o2)
    · exact own_mvA_1 a0 a1 a2 a3 a4 a5 2 1 1 1 2 (own_HD1 x0 x1 x2 x3 x4 x5 o0 o1 o2 x0 x1 x2 x3 x4 x5 o0 o1 o2) (own_HD1 x0 x1 x2 x3 x4 x5 o0 (o1 + a2.toInt64) o2 x0 x1 x2 x3 x4 x5 o0 o1 o2) (own_HD1 x0 x1 x2 x3 x4 x5 o0 (o1 + a2.toInt64) o2 x0 x1 x2 x3 x4 x5 o0 (o1 + a2.toInt64) o2) (own_run.fuel 40 rfl) (own_run.fuel 40 rfl) rfl (own_mv_1_2_1_1 a2 x0 x1 x2 x3 x4 x5 o0 o1 o2 x0 x1 x2 x3 x4 x5 o0 o1 o2) (own_ap_1_2_1_1 a2 x0 x1 x2 x3 x4 x5 o0 (o1 + a2.toInt64) o2 x0 x1 x2 x3 x4 x5 o0 o1 o2) (own_t407_1 a0 a1 a2 a3 a4 a5 2 1 1 x0 x1 x2 x3 x4 x5 o0 (o1 + a2.toInt64) o2)
    · exact own_mvA_1 a0 a1 a2 a3 a4 a5 2 0 2 2 2 (own_HD1 x0 x1 x2 x3 x4 x5 o0 o1 o2 x0 x1 x2 x3 x4 x5 o0 o1 o2) (own_HD1 x0 x1 x2 x3 x4 x5 o0 o1 (o2 + a2.toInt64) x0 x1 x2 x3 x4 x5 o0 o1 o2) (own_HD1 x0 x1 x2 x3 x4 x5 o0 o1 (o2 + a2.toInt64) x0 x1 x2 x3 x4 x5 o0 o1 (o2 + a2.toInt64)) (own_run.fuel 40 rfl) (own_run.fuel 40 rfl) rfl (own_mv_1_2_2_0 a2 x0 x1 x2 x3 x4 x5 o0 o1 o2 x0 x1 x2 x3 x4 x5 o0 o1 o2) (own_ap_1_2_2_0 a2 x0 x1 x2 x3 x4 x5 o0 o1 (o2 + a2.toInt64) x0 x1 x2 x3 x4 x5 o0 o1 o2) (own_t407_1 a0 a1 a2 a3 a4 a5 2 0 2 x0 x1 x2 x3 x4 x5 o0 o1 (o2 + a2.toInt64))
    · exact own_mvA_1 a0 a1 a2 a3 a4 a5 2 1 2 2 2 (own_HD1 x0 x1 x2 x3 x4 x5 o0 o1 o2 x0 x1 x2 x3 x4 x5 o0 o1 o2) (own_HD1 x0 x1 x2 x3 x4 x5 o0 o1 (o2 + a2.toInt64) x0 x1 x2 x3 x4 x5 o0 o1 o2) (own_HD1 x0 x1 x2 x3 x4 x5 o0 o1 (o2 + a2.toInt64) x0 x1 x2 x3 x4 x5 o0 o1 (o2 + a2.toInt64)) (own_run.fuel 40 rfl) (own_run.fuel 40 rfl) rfl (own_mv_1_2_2_1 a2 x0 x1 x2 x3 x4 x5 o0 o1 o2 x0 x1 x2 x3 x4 x5 o0 o1 o2) (own_ap_1_2_2_1 a2 x0 x1 x2 x3 x4 x5 o0 o1 (o2 + a2.toInt64) x0 x1 x2 x3 x4 x5 o0 o1 o2) (own_t407_1 a0 a1 a2 a3 a4 a5 2 1 2 x0 x1 x2 x3 x4 x5 o0 o1 (o2 + a2.toInt64))
  · obtain ⟨c, hc, hcol⟩ := own_col_1_3 a1 (own_HD1 x0 x1 x2 x3 x4 x5 o0 o1 o2 x0 x1 x2 x3 x4 x5 o0 o1 o2)
    refine own_ks.call (mt := own_m0) (mj := own_m53) rfl (ins := .invokestatic 21) (t := 365) (j := 53) (as := [.int (3 : Int32), .int a1, .int (1 : Int32)]) (r' := []) (v := some (.int c)) (H' := (own_HD1 x0 x1 x2 x3 x4 x5 o0 o1 o2 x0 x1 x2 x3 x4 x5 o0 o1 o2)) (S' := [.int c]) rfl rfl rfl rfl rfl hcol rfl ?_
    refine own_ks.go (mt := own_m0) rfl 1 (pc' := 367) (L' := [.val (.int a0), .val (.int a1), .val (.int a2), .val (.int a3), .val (.int a4), .val (.int a5), .val (.int (1 : Int32)), .val (.int (0 : Int32)), .val (.int (2147483647 : Int32)), .val (.ref 0), .val (.ref 1), .val (.ref 2), .val (.ref 3), .val (.ref 4), .val (.ref 5), .val (.ref 6), .val (.ref 7), .val (.ref 8), .val (.ref 84), .val (.ref 85), .val (.int (3 : Int32)), .val (.int r), .val (.int c), .unset, .unset, .unset, .unset]) (S' := []) (H' := (own_HD1 x0 x1 x2 x3 x4 x5 o0 o1 o2 x0 x1 x2 x3 x4 x5 o0 o1 o2)) rfl ?_
    rcases hc with rfl | rfl | rfl <;> rcases hr with rfl | rfl
    · exact own_mvA_1 a0 a1 a2 a3 a4 a5 3 0 0 3 0 (own_HD1 x0 x1 x2 x3 x4 x5 o0 o1 o2 x0 x1 x2 x3 x4 x5 o0 o1 o2) (own_HD1 (x0 - a2) x1 x2 x3 x4 x5 o0 o1 o2 x0 x1 x2 x3 x4 x5 o0 o1 o2) (own_HD1 (x0 - a2) x1 x2 x3 x4 x5 o0 o1 o2 (x0 - a2) x1 x2 x3 x4 x5 o0 o1 o2) (own_run.fuel 40 rfl) (own_run.fuel 40 rfl) rfl (own_mv_1_3_0_0 a2 x0 x1 x2 x3 x4 x5 o0 o1 o2 x0 x1 x2 x3 x4 x5 o0 o1 o2) (own_ap_1_3_0_0 a2 (x0 - a2) x1 x2 x3 x4 x5 o0 o1 o2 x0 x1 x2 x3 x4 x5 o0 o1 o2) (own_t407_1 a0 a1 a2 a3 a4 a5 3 0 0 (x0 - a2) x1 x2 x3 x4 x5 o0 o1 o2)
    · exact own_mvA_1 a0 a1 a2 a3 a4 a5 3 1 0 4 0 (own_HD1 x0 x1 x2 x3 x4 x5 o0 o1 o2 x0 x1 x2 x3 x4 x5 o0 o1 o2) (own_HD1 x0 (x1 - a2) x2 x3 x4 x5 o0 o1 o2 x0 x1 x2 x3 x4 x5 o0 o1 o2) (own_HD1 x0 (x1 - a2) x2 x3 x4 x5 o0 o1 o2 x0 (x1 - a2) x2 x3 x4 x5 o0 o1 o2) (own_run.fuel 40 rfl) (own_run.fuel 40 rfl) rfl (own_mv_1_3_0_1 a2 x0 x1 x2 x3 x4 x5 o0 o1 o2 x0 x1 x2 x3 x4 x5 o0 o1 o2) (own_ap_1_3_0_1 a2 x0 (x1 - a2) x2 x3 x4 x5 o0 o1 o2 x0 x1 x2 x3 x4 x5 o0 o1 o2) (own_t407_1 a0 a1 a2 a3 a4 a5 3 1 0 x0 (x1 - a2) x2 x3 x4 x5 o0 o1 o2)
    · exact own_mvA_1 a0 a1 a2 a3 a4 a5 3 0 1 3 1 (own_HD1 x0 x1 x2 x3 x4 x5 o0 o1 o2 x0 x1 x2 x3 x4 x5 o0 o1 o2) (own_HD1 x0 x1 (x2 - a2) x3 x4 x5 o0 o1 o2 x0 x1 x2 x3 x4 x5 o0 o1 o2) (own_HD1 x0 x1 (x2 - a2) x3 x4 x5 o0 o1 o2 x0 x1 (x2 - a2) x3 x4 x5 o0 o1 o2) (own_run.fuel 40 rfl) (own_run.fuel 40 rfl) rfl (own_mv_1_3_1_0 a2 x0 x1 x2 x3 x4 x5 o0 o1 o2 x0 x1 x2 x3 x4 x5 o0 o1 o2) (own_ap_1_3_1_0 a2 x0 x1 (x2 - a2) x3 x4 x5 o0 o1 o2 x0 x1 x2 x3 x4 x5 o0 o1 o2) (own_t407_1 a0 a1 a2 a3 a4 a5 3 0 1 x0 x1 (x2 - a2) x3 x4 x5 o0 o1 o2)
    · exact own_mvA_1 a0 a1 a2 a3 a4 a5 3 1 1 4 1 (own_HD1 x0 x1 x2 x3 x4 x5 o0 o1 o2 x0 x1 x2 x3 x4 x5 o0 o1 o2) (own_HD1 x0 x1 x2 (x3 - a2) x4 x5 o0 o1 o2 x0 x1 x2 x3 x4 x5 o0 o1 o2) (own_HD1 x0 x1 x2 (x3 - a2) x4 x5 o0 o1 o2 x0 x1 x2 (x3 - a2) x4 x5 o0 o1 o2) (own_run.fuel 40 rfl) (own_run.fuel 40 rfl) rfl (own_mv_1_3_1_1 a2 x0 x1 x2 x3 x4 x5 o0 o1 o2 x0 x1 x2 x3 x4 x5 o0 o1 o2) (own_ap_1_3_1_1 a2 x0 x1 x2 (x3 - a2) x4 x5 o0 o1 o2 x0 x1 x2 x3 x4 x5 o0 o1 o2) (own_t407_1 a0 a1 a2 a3 a4 a5 3 1 1 x0 x1 x2 (x3 - a2) x4 x5 o0 o1 o2)
    · exact own_mvA_1 a0 a1 a2 a3 a4 a5 3 0 2 3 2 (own_HD1 x0 x1 x2 x3 x4 x5 o0 o1 o2 x0 x1 x2 x3 x4 x5 o0 o1 o2) (own_HD1 x0 x1 x2 x3 (x4 - a2) x5 o0 o1 o2 x0 x1 x2 x3 x4 x5 o0 o1 o2) (own_HD1 x0 x1 x2 x3 (x4 - a2) x5 o0 o1 o2 x0 x1 x2 x3 (x4 - a2) x5 o0 o1 o2) (own_run.fuel 40 rfl) (own_run.fuel 40 rfl) rfl (own_mv_1_3_2_0 a2 x0 x1 x2 x3 x4 x5 o0 o1 o2 x0 x1 x2 x3 x4 x5 o0 o1 o2) (own_ap_1_3_2_0 a2 x0 x1 x2 x3 (x4 - a2) x5 o0 o1 o2 x0 x1 x2 x3 x4 x5 o0 o1 o2) (own_t407_1 a0 a1 a2 a3 a4 a5 3 0 2 x0 x1 x2 x3 (x4 - a2) x5 o0 o1 o2)
    · exact own_mvA_1 a0 a1 a2 a3 a4 a5 3 1 2 4 2 (own_HD1 x0 x1 x2 x3 x4 x5 o0 o1 o2 x0 x1 x2 x3 x4 x5 o0 o1 o2) (own_HD1 x0 x1 x2 x3 x4 (x5 - a2) o0 o1 o2 x0 x1 x2 x3 x4 x5 o0 o1 o2) (own_HD1 x0 x1 x2 x3 x4 (x5 - a2) o0 o1 o2 x0 x1 x2 x3 x4 (x5 - a2) o0 o1 o2) (own_run.fuel 40 rfl) (own_run.fuel 40 rfl) rfl (own_mv_1_3_2_1 a2 x0 x1 x2 x3 x4 x5 o0 o1 o2 x0 x1 x2 x3 x4 x5 o0 o1 o2) (own_ap_1_3_2_1 a2 x0 x1 x2 x3 x4 (x5 - a2) o0 o1 o2 x0 x1 x2 x3 x4 x5 o0 o1 o2) (own_t407_1 a0 a1 a2 a3 a4 a5 3 1 2 x0 x1 x2 x3 x4 (x5 - a2) o0 o1 o2)
set_option maxRecDepth 1000000 in
set_option maxHeartbeats 40000000 in
theorem own_law1 (a0 a1 a2 a3 a4 a5 : Int32) : own_ks own_P (own_end own_P.2.1 208 896) [] 0 12 304 3 [.val (.int a0), .val (.int a1), .val (.int a2), .val (.int a3), .val (.int a4), .val (.int a5), .unset, .unset, .unset, .unset, .unset, .unset, .unset, .unset, .unset, .unset, .unset, .unset, .unset, .unset, .unset, .unset, .unset, .unset, .unset, .unset, .unset] [.int (1 : Int32)] [] := by
  refine own_ks.go (mt := own_m0) rfl 70 (pc' := 101) (L' := [.val (.int a0), .val (.int a1), .val (.int a2), .val (.int a3), .val (.int a4), .val (.int a5), .val (.int (1 : Int32)), .val (.int (0 : Int32)), .val (.int (2147483647 : Int32)), .val (.ref 0), .val (.ref 1), .unset, .unset, .unset, .unset, .unset, .unset, .unset, .unset, .unset, .unset, .unset, .unset, .unset, .unset, .unset, .unset]) (S' := [.ref 2]) (H' := [(.inr .int, [.int (1 : Int32), .int (1 : Int32)]), (.inr .int, [.int (0 : Int32), .int (2 : Int32), .int (4 : Int32), .int (6 : Int32)]), (.inr .int, [.int (0 : Int32), .int (1 : Int32), .int (0 : Int32), .int (1 : Int32), .int (0 : Int32), .int (1 : Int32)])]) rfl ?_
  refine own_ks.go (mt := own_m0) rfl 67 (pc' := 195) (L' := [.val (.int a0), .val (.int a1), .val (.int a2), .val (.int a3), .val (.int a4), .val (.int a5), .val (.int (1 : Int32)), .val (.int (0 : Int32)), .val (.int (2147483647 : Int32)), .val (.ref 0), .val (.ref 1), .val (.ref 2), .val (.ref 3), .val (.ref 4), .val (.ref 5), .val (.ref 6), .val (.ref 7), .unset, .unset, .unset, .unset, .unset, .unset, .unset, .unset, .unset, .unset]) (S' := [.ref 8, .ref 8]) (H' := own_Ha10) rfl ?_
  refine own_ks.call (mt := own_m0) (mj := own_m1) rfl (ins := .invokespecial 14) (t := 198) (j := 1) (as := [.ref 8]) (r' := [.ref 8]) (v := none) (H' := own_Ha11) (S' := [.ref 8]) rfl rfl rfl rfl rfl (own_run.fuel 207 own_cl10) rfl ?_
  refine own_ks.go (mt := own_m0) rfl 12 (pc' := 220) (L' := [.val (.int a0), .val (.int a1), .val (.int a2), .val (.int a3), .val (.int a4), .val (.int a5), .val (.int (1 : Int32)), .val (.int (0 : Int32)), .val (.int (2147483647 : Int32)), .val (.ref 0), .val (.ref 1), .val (.ref 2), .val (.ref 3), .val (.ref 4), .val (.ref 5), .val (.ref 6), .val (.ref 7), .val (.ref 8), .unset, .unset, .unset, .unset, .unset, .unset, .unset, .unset, .unset]) (S' := [.ref 7, .ref 6, .ref 5, .ref 4, .ref 3, .ref 2, .ref 1, .ref 0, .int (3 : Int32), .int (2 : Int32), .ref 8]) (H' := own_Ha11) rfl ?_
  refine own_ks.call (mt := own_m0) (mj := own_m3) rfl (ins := .invokevirtual 15) (t := 223) (j := 3) (as := [.ref 8, .int (2 : Int32), .int (3 : Int32), .ref 0, .ref 1, .ref 2, .ref 3, .ref 4, .ref 5, .ref 6, .ref 7]) (r' := []) (v := some (.int (1 : Int32))) (H' := own_Hb11) (S' := [.int (1 : Int32)]) rfl rfl rfl rfl rfl (own_run.fuel 1863 own_cl11) rfl ?_
  refine own_ks.go (mt := own_m0) rfl 70 (pc' := 313) (L' := [.val (.int a0), .val (.int a1), .val (.int a2), .val (.int a3), .val (.int a4), .val (.int a5), .val (.int (1 : Int32)), .val (.int (0 : Int32)), .val (.int (2147483647 : Int32)), .val (.ref 0), .val (.ref 1), .val (.ref 2), .val (.ref 3), .val (.ref 4), .val (.ref 5), .val (.ref 6), .val (.ref 7), .val (.ref 8), .unset, .unset, .unset, .unset, .unset, .unset, .unset, .unset, .unset]) (S' := [.int (a5 + (5 : Int32)), .int (5 : Int32), .ref 84, .ref 84]) (H' := [(.inr .int, [.int (1 : Int32), .int (1 : Int32)]), (.inr .int, [.int (0 : Int32), .int (2 : Int32), .int (4 : Int32), .int (6 : Int32)]), (.inr .int, [.int (0 : Int32), .int (1 : Int32), .int (0 : Int32), .int (1 : Int32), .int (0 : Int32), .int (1 : Int32)]), (.inr .int, [.int (0 : Int32), .int (0 : Int32), .int (0 : Int32), .int (0 : Int32), .int (0 : Int32), .int (0 : Int32)]), (.inr .int, [.int (2147483647 : Int32), .int (2147483647 : Int32), .int (2147483647 : Int32), .int (2147483647 : Int32), .int (2147483647 : Int32), .int (2147483647 : Int32)]), (.inr .long, [.long (0 : Int64), .long (0 : Int64)]), (.inr .long, [.long (0 : Int64), .long (0 : Int64), .long (0 : Int64)]), (.inr .int, [.int a5, .int (a5 + (1 : Int32)), .int (a5 + (2 : Int32)), .int (a5 + (3 : Int32)), .int (a5 + (4 : Int32)), .int (a5 + (5 : Int32))]), (.inl 0, [.ref 59, .ref 10, .ref 11, .ref 12, .ref 13, .ref 14, .ref 15, .ref 16, .ref 17, .ref 18, .ref 19, .ref 20, .ref 21, .ref 81, .ref 23, .ref 24, .ref 60, .ref 67, .ref 68, .ref 69, .ref 70, .ref 71, .ref 72, .ref 73, .ref 33, .ref 34, .ref 35, .ref 36, .ref 80, .ref 83, .ref 74, .ref 75, .ref 76, .ref 77, .ref 78, .ref 79, .ref 61, .ref 46, .ref 47, .ref 48, .ref 49, .ref 62, .ref 82, .ref 52, .ref 65, .ref 66, .ref 63, .ref 64, .ref 57, .ref 58, .int (2 : Int32), .int (3 : Int32), .ref 0, .ref 1, .ref 2, .ref 3, .ref 4, .ref 7, .null, .int (6 : Int32), .int (1 : Int32), .int (5 : Int32), .int (6 : Int32), .int (1 : Int32), .int (0 : Int32), .int (0 : Int32), .int (0 : Int32), .long (0 : Int64), .long (0 : Int64), .int (0 : Int32), .int (0 : Int32), .int (0 : Int32)]), (.inr .long, []), (.inr .long, []), (.inr .int, []), (.inr .int, []), (.inr .long, [.long (0 : Int64), .long (0 : Int64), .long (0 : Int64), .long (0 : Int64), .long (0 : Int64), .long (0 : Int64), .long (0 : Int64), .long (0 : Int64), .long (0 : Int64), .long (0 : Int64), .long (0 : Int64), .long (0 : Int64), .long (0 : Int64), .long (0 : Int64), .long (0 : Int64), .long (0 : Int64), .long (0 : Int64), .long (0 : Int64), .long (0 : Int64), .long (0 : Int64), .long (0 : Int64), .long (0 : Int64), .long (0 : Int64), .long (0 : Int64), .long (0 : Int64), .long (0 : Int64), .long (0 : Int64), .long (0 : Int64), .long (0 : Int64), .long (0 : Int64), .long (0 : Int64), .long (0 : Int64), .long (0 : Int64), .long (0 : Int64), .long (0 : Int64), .long (0 : Int64), .long (0 : Int64), .long (0 : Int64), .long (0 : Int64), .long (0 : Int64), .long (0 : Int64), .long (0 : Int64), .long (0 : Int64), .long (0 : Int64), .long (0 : Int64), .long (0 : Int64), .long (0 : Int64), .long (0 : Int64), .long (0 : Int64), .long (0 : Int64), .long (0 : Int64), .long (0 : Int64), .long (0 : Int64), .long (0 : Int64), .long (0 : Int64), .long (0 : Int64), .long (0 : Int64), .long (0 : Int64), .long (0 : Int64), .long (0 : Int64), .long (0 : Int64), .long (0 : Int64), .long (0 : Int64), .long (0 : Int64)]), (.inr .int, [.int (0 : Int32), .int (0 : Int32), .int (0 : Int32), .int (0 : Int32), .int (0 : Int32), .int (0 : Int32), .int (0 : Int32), .int (0 : Int32), .int (0 : Int32), .int (0 : Int32), .int (0 : Int32), .int (0 : Int32), .int (0 : Int32), .int (0 : Int32), .int (0 : Int32), .int (0 : Int32), .int (0 : Int32), .int (0 : Int32), .int (0 : Int32), .int (0 : Int32), .int (0 : Int32), .int (0 : Int32), .int (0 : Int32), .int (0 : Int32), .int (0 : Int32), .int (0 : Int32), .int (0 : Int32), .int (0 : Int32), .int (0 : Int32), .int (0 : Int32), .int (0 : Int32), .int (0 : Int32), .int (0 : Int32), .int (0 : Int32), .int (0 : Int32), .int (0 : Int32), .int (0 : Int32), .int (0 : Int32), .int (0 : Int32), .int (0 : Int32), .int (0 : Int32), .int (0 : Int32), .int (0 : Int32), .int (0 : Int32), .int (0 : Int32), .int (0 : Int32), .int (0 : Int32), .int (0 : Int32), .int (0 : Int32), .int (0 : Int32), .int (0 : Int32), .int (0 : Int32), .int (0 : Int32), .int (0 : Int32), .int (0 : Int32), .int (0 : Int32), .int (0 : Int32), .int (0 : Int32), .int (0 : Int32), .int (0 : Int32), .int (0 : Int32), .int (0 : Int32), .int (0 : Int32), .int (0 : Int32)]), (.inr .int, []), (.inr .int, []), (.inr .int, []), (.inr .int, []), (.inr .int, []), (.inr .int, []), (.inr .int, []), (.inr .int, []), (.inr .int, []), (.inr .int, []), (.inr .long, []), (.inr .long, []), (.inr .long, []), (.inr .long, []), (.inr .long, []), (.inr .long, []), (.inr .long, []), (.inr .int, []), (.inr .int, [.int (0 : Int32), .int (0 : Int32), .int (0 : Int32), .int (0 : Int32), .int (0 : Int32), .int (0 : Int32), .int (0 : Int32), .int (0 : Int32)]), (.inr .long, [.long (0 : Int64), .long (0 : Int64), .long (0 : Int64), .long (0 : Int64), .long (0 : Int64), .long (0 : Int64), .long (0 : Int64), .long (0 : Int64)]), (.inr .int, [.int (0 : Int32), .int (0 : Int32), .int (0 : Int32), .int (0 : Int32), .int (0 : Int32), .int (0 : Int32), .int (0 : Int32), .int (0 : Int32)]), (.inr .long, [.long (0 : Int64), .long (0 : Int64), .long (0 : Int64), .long (0 : Int64), .long (0 : Int64), .long (0 : Int64), .long (0 : Int64), .long (0 : Int64)]), (.inr .int, []), (.inr .int, []), (.inr .int, []), (.inr .long, []), (.inr .long, []), (.inr .long, []), (.inr .int, []), (.inr .int, []), (.inr .int, []), (.inr .int, []), (.inr .int, []), (.inr .int, []), (.inr .int, []), (.inr .int, []), (.inr .int, []), (.inr .int, []), (.inr .int, []), (.inr .int, []), (.inr .int, []), (.inr .int, []), (.inr .int, []), (.inr .long, []), (.inr .long, [.long (0 : Int64), .long (0 : Int64), .long (0 : Int64), .long (1 : Int64), .long (1 : Int64), .long (0 : Int64), .long (0 : Int64)]), (.inr .long, [.long (0 : Int64), .long (0 : Int64), .long (0 : Int64)]), (.inr .int, [.int (0 : Int32), .int (0 : Int32), .int (0 : Int32), .int (0 : Int32)]), (.inr .int, [.int (0 : Int32), .int (0 : Int32), .int (0 : Int32), .int (0 : Int32)]), (.inr .int, [.int (0 : Int32), .int (0 : Int32), .int (0 : Int32)]), (.inr .int, [.int (0 : Int32), .int (0 : Int32), .int (0 : Int32)]), (.inr .int, [.int (0 : Int32), .int (0 : Int32)]), (.inr .int, [.int (0 : Int32), .int (0 : Int32)]), (.inr .long, [.long (0 : Int64), .long (0 : Int64)]), (.inr .long, [.long (0 : Int64), .long (0 : Int64)]), (.inr .long, [.long (0 : Int64), .long (0 : Int64)]), (.inr .long, [.long (0 : Int64), .long (0 : Int64)]), (.inr .long, [.long (9223372036854775807 : Int64), .long (9223372036854775807 : Int64)]), (.inr .long, [.long (-9223372036854775808 : Int64), .long (-9223372036854775808 : Int64)]), (.inr .int, [.int (3 : Int32), .int (3 : Int32)]), (.inr .int, [.int (0 : Int32), .int (0 : Int32)]), (.inr .long, [.long (0 : Int64), .long (0 : Int64)]), (.inr .long, [.long (0 : Int64), .long (0 : Int64)]), (.inr .long, [.long (0 : Int64), .long (0 : Int64)]), (.inr .int, [.int (0 : Int32), .int (0 : Int32)]), (.inr .int, [.int (0 : Int32), .int (0 : Int32)]), (.inr .int, [.int (0 : Int32), .int (0 : Int32)]), (.inr .int, [.int (0 : Int32), .int (0 : Int32), .int (0 : Int32)]), (.inr .int, [.int (0 : Int32), .int (0 : Int32), .int (0 : Int32)]), (.inr .int, [.int (0 : Int32), .int (0 : Int32), .int (0 : Int32), .int (0 : Int32), .int (0 : Int32), .int (0 : Int32)]), (.inr .int, [.int a5, .int (a5 + (1 : Int32)), .int (a5 + (2 : Int32)), .int (a5 + (3 : Int32)), .int (a5 + (4 : Int32)), .int (0 : Int32)])]) rfl ?_
  refine own_ks.go (mt := own_m0) rfl 23 (pc' := 345) (L' := [.val (.int a0), .val (.int a1), .val (.int a2), .val (.int a3), .val (.int a4), .val (.int a5), .val (.int (1 : Int32)), .val (.int (0 : Int32)), .val (.int (2147483647 : Int32)), .val (.ref 0), .val (.ref 1), .val (.ref 2), .val (.ref 3), .val (.ref 4), .val (.ref 5), .val (.ref 6), .val (.ref 7), .val (.ref 8), .val (.ref 84), .val (.ref 85), .unset, .unset, .unset, .unset, .unset, .unset, .unset]) (S' := []) (H' := [(.inr .int, [.int (1 : Int32), .int (1 : Int32)]), (.inr .int, [.int (0 : Int32), .int (2 : Int32), .int (4 : Int32), .int (6 : Int32)]), (.inr .int, [.int (0 : Int32), .int (1 : Int32), .int (0 : Int32), .int (1 : Int32), .int (0 : Int32), .int (1 : Int32)]), (.inr .int, [.int (0 : Int32), .int (0 : Int32), .int (0 : Int32), .int (0 : Int32), .int (0 : Int32), .int (0 : Int32)]), (.inr .int, [.int (2147483647 : Int32), .int (2147483647 : Int32), .int (2147483647 : Int32), .int (2147483647 : Int32), .int (2147483647 : Int32), .int (2147483647 : Int32)]), (.inr .long, [.long (0 : Int64), .long (0 : Int64)]), (.inr .long, [.long (0 : Int64), .long (0 : Int64), .long (0 : Int64)]), (.inr .int, [.int a5, .int (a5 + (1 : Int32)), .int (a5 + (2 : Int32)), .int (a5 + (3 : Int32)), .int (a5 + (4 : Int32)), .int (a5 + (5 : Int32))]), (.inl 0, [.ref 59, .ref 10, .ref 11, .ref 12, .ref 13, .ref 14, .ref 15, .ref 16, .ref 17, .ref 18, .ref 19, .ref 20, .ref 21, .ref 81, .ref 23, .ref 24, .ref 60, .ref 67, .ref 68, .ref 69, .ref 70, .ref 71, .ref 72, .ref 73, .ref 33, .ref 34, .ref 35, .ref 36, .ref 80, .ref 83, .ref 74, .ref 75, .ref 76, .ref 77, .ref 78, .ref 79, .ref 61, .ref 46, .ref 47, .ref 48, .ref 49, .ref 62, .ref 82, .ref 52, .ref 65, .ref 66, .ref 63, .ref 64, .ref 57, .ref 58, .int (2 : Int32), .int (3 : Int32), .ref 0, .ref 1, .ref 2, .ref 3, .ref 4, .ref 7, .null, .int (6 : Int32), .int (1 : Int32), .int (5 : Int32), .int (6 : Int32), .int (1 : Int32), .int (0 : Int32), .int (0 : Int32), .int (0 : Int32), .long (0 : Int64), .long (0 : Int64), .int (0 : Int32), .int (0 : Int32), .int (0 : Int32)]), (.inr .long, []), (.inr .long, []), (.inr .int, []), (.inr .int, []), (.inr .long, [.long (0 : Int64), .long (0 : Int64), .long (0 : Int64), .long (0 : Int64), .long (0 : Int64), .long (0 : Int64), .long (0 : Int64), .long (0 : Int64), .long (0 : Int64), .long (0 : Int64), .long (0 : Int64), .long (0 : Int64), .long (0 : Int64), .long (0 : Int64), .long (0 : Int64), .long (0 : Int64), .long (0 : Int64), .long (0 : Int64), .long (0 : Int64), .long (0 : Int64), .long (0 : Int64), .long (0 : Int64), .long (0 : Int64), .long (0 : Int64), .long (0 : Int64), .long (0 : Int64), .long (0 : Int64), .long (0 : Int64), .long (0 : Int64), .long (0 : Int64), .long (0 : Int64), .long (0 : Int64), .long (0 : Int64), .long (0 : Int64), .long (0 : Int64), .long (0 : Int64), .long (0 : Int64), .long (0 : Int64), .long (0 : Int64), .long (0 : Int64), .long (0 : Int64), .long (0 : Int64), .long (0 : Int64), .long (0 : Int64), .long (0 : Int64), .long (0 : Int64), .long (0 : Int64), .long (0 : Int64), .long (0 : Int64), .long (0 : Int64), .long (0 : Int64), .long (0 : Int64), .long (0 : Int64), .long (0 : Int64), .long (0 : Int64), .long (0 : Int64), .long (0 : Int64), .long (0 : Int64), .long (0 : Int64), .long (0 : Int64), .long (0 : Int64), .long (0 : Int64), .long (0 : Int64), .long (0 : Int64)]), (.inr .int, [.int (0 : Int32), .int (0 : Int32), .int (0 : Int32), .int (0 : Int32), .int (0 : Int32), .int (0 : Int32), .int (0 : Int32), .int (0 : Int32), .int (0 : Int32), .int (0 : Int32), .int (0 : Int32), .int (0 : Int32), .int (0 : Int32), .int (0 : Int32), .int (0 : Int32), .int (0 : Int32), .int (0 : Int32), .int (0 : Int32), .int (0 : Int32), .int (0 : Int32), .int (0 : Int32), .int (0 : Int32), .int (0 : Int32), .int (0 : Int32), .int (0 : Int32), .int (0 : Int32), .int (0 : Int32), .int (0 : Int32), .int (0 : Int32), .int (0 : Int32), .int (0 : Int32), .int (0 : Int32), .int (0 : Int32), .int (0 : Int32), .int (0 : Int32), .int (0 : Int32), .int (0 : Int32), .int (0 : Int32), .int (0 : Int32), .int (0 : Int32), .int (0 : Int32), .int (0 : Int32), .int (0 : Int32), .int (0 : Int32), .int (0 : Int32), .int (0 : Int32), .int (0 : Int32), .int (0 : Int32), .int (0 : Int32), .int (0 : Int32), .int (0 : Int32), .int (0 : Int32), .int (0 : Int32), .int (0 : Int32), .int (0 : Int32), .int (0 : Int32), .int (0 : Int32), .int (0 : Int32), .int (0 : Int32), .int (0 : Int32), .int (0 : Int32), .int (0 : Int32), .int (0 : Int32), .int (0 : Int32)]), (.inr .int, []), (.inr .int, []), (.inr .int, []), (.inr .int, []), (.inr .int, []), (.inr .int, []), (.inr .int, []), (.inr .int, []), (.inr .int, []), (.inr .int, []), (.inr .long, []), (.inr .long, []), (.inr .long, []), (.inr .long, []), (.inr .long, []), (.inr .long, []), (.inr .long, []), (.inr .int, []), (.inr .int, [.int (0 : Int32), .int (0 : Int32), .int (0 : Int32), .int (0 : Int32), .int (0 : Int32), .int (0 : Int32), .int (0 : Int32), .int (0 : Int32)]), (.inr .long, [.long (0 : Int64), .long (0 : Int64), .long (0 : Int64), .long (0 : Int64), .long (0 : Int64), .long (0 : Int64), .long (0 : Int64), .long (0 : Int64)]), (.inr .int, [.int (0 : Int32), .int (0 : Int32), .int (0 : Int32), .int (0 : Int32), .int (0 : Int32), .int (0 : Int32), .int (0 : Int32), .int (0 : Int32)]), (.inr .long, [.long (0 : Int64), .long (0 : Int64), .long (0 : Int64), .long (0 : Int64), .long (0 : Int64), .long (0 : Int64), .long (0 : Int64), .long (0 : Int64)]), (.inr .int, []), (.inr .int, []), (.inr .int, []), (.inr .long, []), (.inr .long, []), (.inr .long, []), (.inr .int, []), (.inr .int, []), (.inr .int, []), (.inr .int, []), (.inr .int, []), (.inr .int, []), (.inr .int, []), (.inr .int, []), (.inr .int, []), (.inr .int, []), (.inr .int, []), (.inr .int, []), (.inr .int, []), (.inr .int, []), (.inr .int, []), (.inr .long, []), (.inr .long, [.long (0 : Int64), .long (0 : Int64), .long (0 : Int64), .long (1 : Int64), .long (1 : Int64), .long (0 : Int64), .long (0 : Int64)]), (.inr .long, [.long (0 : Int64), .long (0 : Int64), .long (0 : Int64)]), (.inr .int, [.int (0 : Int32), .int (0 : Int32), .int (0 : Int32), .int (0 : Int32)]), (.inr .int, [.int (0 : Int32), .int (0 : Int32), .int (0 : Int32), .int (0 : Int32)]), (.inr .int, [.int (0 : Int32), .int (0 : Int32), .int (0 : Int32)]), (.inr .int, [.int (0 : Int32), .int (0 : Int32), .int (0 : Int32)]), (.inr .int, [.int (0 : Int32), .int (0 : Int32)]), (.inr .int, [.int (0 : Int32), .int (0 : Int32)]), (.inr .long, [.long (0 : Int64), .long (0 : Int64)]), (.inr .long, [.long (0 : Int64), .long (0 : Int64)]), (.inr .long, [.long (0 : Int64), .long (0 : Int64)]), (.inr .long, [.long (0 : Int64), .long (0 : Int64)]), (.inr .long, [.long (9223372036854775807 : Int64), .long (9223372036854775807 : Int64)]), (.inr .long, [.long (-9223372036854775808 : Int64), .long (-9223372036854775808 : Int64)]), (.inr .int, [.int (3 : Int32), .int (3 : Int32)]), (.inr .int, [.int (0 : Int32), .int (0 : Int32)]), (.inr .long, [.long (0 : Int64), .long (0 : Int64)]), (.inr .long, [.long (0 : Int64), .long (0 : Int64)]), (.inr .long, [.long (0 : Int64), .long (0 : Int64)]), (.inr .int, [.int (0 : Int32), .int (0 : Int32)]), (.inr .int, [.int (0 : Int32), .int (0 : Int32)]), (.inr .int, [.int (0 : Int32), .int (0 : Int32)]), (.inr .int, [.int (0 : Int32), .int (0 : Int32), .int (0 : Int32)]), (.inr .int, [.int (0 : Int32), .int (0 : Int32), .int (0 : Int32)]), (.inr .int, [.int (0 : Int32), .int (0 : Int32), .int (0 : Int32), .int (0 : Int32), .int (0 : Int32), .int (0 : Int32)]), (.inr .int, [.int a5, .int (a5 + (1 : Int32)), .int (a5 + (2 : Int32)), .int (a5 + (3 : Int32)), .int (a5 + (4 : Int32)), .int (a5 + (5 : Int32))]), (.inr .long, [.long (0 : Int64), .long (0 : Int64), .long (0 : Int64)])]) rfl ?_
  exact own_t345_1 a0 a1 a2 a3 a4 a5 a5 (a5 + (1 : Int32)) (a5 + (2 : Int32)) (a5 + (3 : Int32)) (a5 + (4 : Int32)) (a5 + (5 : Int32)) (0 : Int64) (0 : Int64) (0 : Int64)
theorem own_runs (a0 a1 a2 a3 a4 a5 : Int32) : own_goal [.int a0, .int a1, .int a2, .int a3, .int a4, .int a5] := by
  have s0 := c_mask a0 1 1 (by decide) (by decide)
  refine own_ks.go (mt := own_m0) rfl 3 (pc' := 3) (L' := [.val (.int a0), .val (.int a1), .val (.int a2), .val (.int a3), .val (.int a4), .val (.int a5), .unset, .unset, .unset, .unset, .unset, .unset, .unset, .unset, .unset, .unset, .unset, .unset, .unset, .unset, .unset, .unset, .unset, .unset, .unset, .unset, .unset]) (S' := [.int (a0 &&& (1 : Int32))]) (H' := []) rfl ?_
  generalize (a0 &&& (1 : Int32)) = k at *
  have e0 : (0 : Int32).toInt = 0 := rfl
  have e1 : (1 : Int32).toInt = 1 := rfl
  have hk : k = 0 ∨ k = 1 := by simp only [← Int32.toInt_inj, e0, e1]; omega
  rcases hk with rfl | rfl
  · exact own_law0 a0 a1 a2 a3 a4 a5
  · exact own_law1 a0 a1 a2 a3 a4 a5
/-! ## from the case's words to the run, and the owed theorems -/
set_option maxRecDepth 65536 in
set_option maxHeartbeats 4000000 in
theorem own_comes {Post : Tables → Env → Array Value → State → Outcome → State → Prop} (hpost : ∀ tb e args s v u, (limb_1_1.after args s (.returned v) u = true ∧ limb_1_2.after args s (.returned v) u = true ∧ True) → FrameEnd s (.returned v) u (Jvm.fieldLocs frame_1_writes args s ++ Jvm.arrayLocs frame_1_arrays args s ++ Jvm.staticLocs frame_1_statics s) 208 896 → Post tb e args s (.returned v) u) :
    ArmFor flags0 classFile x code maxLocals ret World_1 tables_1 room_1 Calls_1 rest_1 Pre_1 Post := by
  intro l hfl _ _ p e ha hc hk s m args below hf hA hF happ hP
  obtain ⟨hcalls, hrest, hpre⟩ := hP
  obtain ⟨-, -, -, hnamed, -, -, -, hat⟩ := (Spec.applies_iff hf).mp happ
  obtain ⟨hg, hn⟩ := and_e (Cond.before_iff.mp (show (Jvm.Cond.and given_1 narrow_1).before args s = true from hpre))
  obtain ⟨h0, g0⟩ := and_e hg
  obtain ⟨w0, w1, w2, w3, w4, w5, rfl⟩ : ∃ w0 w1 w2 w3 w4 w5 : Value, args = #[w0, w1, w2, w3, w4, w5] := by
    have hs : args.size = 6 := by simpa [Cond.value, given_1] using h0
    obtain ⟨L⟩ := args
    match L, hs with
    | [w0, w1, w2, w3, w4, w5], _ => exact ⟨w0, w1, w2, w3, w4, w5, rfl⟩
  have hw : own_hw s #[w0, w1, w2, w3, w4, w5] := fun d hd => atoms_spec (ws := Jvm.Cond.code x code maxLocals ret :: tables_1) hat d hd
  obtain ⟨q0, g1⟩ := and_e g0
  obtain ⟨i0, e0⟩ := is_v q0
  obtain rfl : w0 = (.int i0) := Option.some.inj e0
  obtain ⟨q1, g2⟩ := and_e g1
  obtain ⟨i1, e1⟩ := is_v q1
  obtain rfl : w1 = (.int i1) := Option.some.inj e1
  obtain ⟨q2, g3⟩ := and_e g2
  obtain ⟨i2, e2⟩ := is_v q2
  obtain rfl : w2 = (.int i2) := Option.some.inj e2
  obtain ⟨q3, g4⟩ := and_e g3
  obtain ⟨i3, e3⟩ := is_v q3
  obtain rfl : w3 = (.int i3) := Option.some.inj e3
  obtain ⟨q4, g5⟩ := and_e g4
  obtain ⟨i4, e4⟩ := is_v q4
  obtain rfl : w4 = (.int i4) := Option.some.inj e4
  obtain ⟨i5, e5⟩ := is_v g5
  obtain rfl : w5 = (.int i5) := Option.some.inj e5
  obtain ⟨v, H', hrun, rfl, hc1, hs1⟩ := own_runs i0 i1 i2 i3 i4 i5
  obtain ⟨n, o, h1, h2, h3, _, L, rfl, ⟨rfl, N⟩, hq⟩ := own_law l (own_G hw) (mt := own_m0) rfl (as := [.int i0, .int i1, .int i2, .int i3, .int i4, .int i5]) rfl hrun tables_1 room_1 (Nat.le_refl _) (Nat.le_refl _) hc1 hs1 p e ha hc hk s m _ below hf ((Spec.applies_iff_loose hf).mp happ).1 ⟨rfl, State.Warmed39.refl s, rfl⟩ trivial
  refine ⟨n, _, h1, h2, h3, hpost _ _ _ _ _ _ ⟨Cond.after_iff.mpr rfl, Cond.after_iff.mpr (eq_i res_at (Term.int_eval (1)) rfl), trivial⟩ ⟨hq.1, hq.2.1, (hq.2.2.sift fun y hy => Or.inr (N y hy)).mono (Nat.le_trans hc1 (by decide)) (Nat.le_trans hs1 (by decide))⟩⟩
theorem main_1_1 : Claimed_1_1 := own_comes fun _ _ _ _ _ _ h hF => ⟨h.1, hF⟩
theorem main_1_2 : Claimed_1_2 := own_comes fun _ _ _ _ _ _ h hF => ⟨h.2.1, hF⟩
end Jvm.Pilot.@@N@@
namespace Jvm.Pilot.@@N@@
open Jvm Jvm.ClassFile Sem Op Lib Jvm.Free Jvm.Stand Jvm.Pilot.@@N@@.Jvm.D
/-! MADE BY PROGRAM (witnessworld.py) out of the Statement's table words and the real class files: 16 classes; the members and pool entries that the words name. The judged class is class 1, her method 1. -/
namespace start1
open Jvm.ClassFile
def u (s : String) : CpInfo := .utf8 (stringToUtf16 s)
/-- a pool by its gaps: so many unusable entries, then the entry; so many at the end -/
def gap : Nat → List CpInfo → List CpInfo
  | 0, r => r
  | n + 1, r => .unusable :: gap n r
def poolList (es : List (Nat × CpInfo)) (last : Nat) : List CpInfo := es.foldr (fun e r => gap e.1 (e.2 :: r)) (gap last [])
def pool (es : List (Nat × CpInfo)) (last : Nat) : Array CpInfo := ⟨poolList es last⟩
def fileOf (pool : Array CpInfo) (this : Nat) (attrs : Array Attribute := #[]) (ms : Array MethodInfo := #[]) (fl : Nat := 33) (sup : Nat := 0) (ifs : Array Nat := #[]) (fds : Array FieldInfo := #[]) : ClassFile where
  minorVersion := 0
  majorVersion := 65
  constantPool := pool
  accessFlags := fl
  thisClass := this
  superClass := sup
  interfaces := ifs
  fields := fds
  methods := ms
  attributes := attrs
def plain (name : String) (sup : Option ClassId) : Class where
  name := name
  kind := .ordinary
  loader := none
  accessFlags := 33
  super := sup
  interfaces := #[]
  cf := none
  fields := #[]
  methods := #[]
  instanceTypes := #[]
  staticTypes := #[]
  resolved := #[]
  callSites := []
  init := .initialized
  statics := none
  mirror := none

def pool0 : Array CpInfo := pool [(5, u "<init>"), (0, u "()V"), (1, .class_ 10), (1, u "java/lang/Object")] 113

def k0c0 : Code := { maxStack := 0, maxLocals := 1, code := object_method_1_code, exceptionTable := #[], attributes := #[] }
def k0m0 : Method := { name := "<init>", desc := "()V", sig := { parameters := [], returnType := none }, accessFlags := 1, code := some k0c0 }
/-- java/lang/Object -/
def k0 : Class := { plain "java/lang/Object" none with
  accessFlags := 33
  interfaces := #[]
  cf := some (fileOf pool0 8 #[] #[{ accessFlags := 1, nameIndex := 5, descriptorIndex := 6, attributes := #[] }] 33 0 #[] #[])
  fields := #[]
  methods := #[k0m0]
  instanceTypes := #[]
  staticTypes := #[]
  resolved := Array.replicate 124 none
  statics := none }

def pool1 : Array CpInfo := pool [(2, .class_ 4), (0, .nameAndType 5 6), (0, u "java/lang/Object"), (0, u "<init>"), (0, u "()V"), (2, .integer 2147483647), (0, .long 2), (1, .class_ 13), (0, u "evenkeel/group/SpreadSearch"), (0, .methodref 12 3), (0, .methodref 12 16), (0, .nameAndType 17 18), (0, u "spreadAtLevels"), (0, u "(II[I[I[I[I[I[J[J[I)Z"), (0, .long 18446744073709551614), (1, .methodref 22 23), (0, .class_ 24), (0, .nameAndType 25 26), (0, u "evenkeel/group/SpreadSearchMovePinLaw"), (0, u "column"), (0, u "(IIZ)I"), (0, .methodref 22 28), (0, .nameAndType 29 30), (0, u "node"), (0, u "(III)I"), (0, .methodref 22 32), (0, .nameAndType 33 34), (0, u "arcIndex"), (0, u "(IIIZ)I"), (0, .methodref 12 36), (0, .nameAndType 37 38), (0, u "move"), (0, u "(III)V"), (0, .methodref 22 40), (0, .nameAndType 41 42), (0, u "apply"), (0, u "([J[IIIII)V"), (0, .methodref 22 44), (0, .nameAndType 45 46), (0, u "overSeen"), (0, u "(Levenkeel/group/SpreadSearch;IZ)J"), (0, .methodref 22 48), (0, .nameAndType 49 50), (0, u "sinkArc"), (0, u "(IZ)I"), (0, .methodref 12 52), (0, .nameAndType 53 54), (0, u "room"), (0, u "(II)J"), (2, u "law"), (0, u "(IIIIII)Z")] 7

def k1m0 : Method := { name := "<init>", desc := "()V", sig := { parameters := [], returnType := none }, accessFlags := 1, code := none }
def k1c1 : Code := { maxStack := 11, maxLocals := 27, code := code, exceptionTable := #[], attributes := #[] }
def k1m1 : Method := { name := "law", desc := "(IIIIII)Z", sig := { parameters := [.int, .int, .int, .int, .int, .int], returnType := some .boolean }, accessFlags := 9, code := some k1c1 }
def k1c2 : Code := { maxStack := 2, maxLocals := 4, code := method_3_code, exceptionTable := #[], attributes := #[] }
def k1m2 : Method := { name := "column", desc := "(IIZ)I", sig := { parameters := [.int, .int, .boolean], returnType := some .int }, accessFlags := 10, code := some k1c2 }
def k1c3 : Code := { maxStack := 2, maxLocals := 2, code := method_4_code, exceptionTable := #[], attributes := #[] }
def k1m3 : Method := { name := "sinkArc", desc := "(IZ)I", sig := { parameters := [.int, .boolean], returnType := some .int }, accessFlags := 10, code := some k1c3 }
def k1c4 : Code := { maxStack := 2, maxLocals := 3, code := method_5_code, exceptionTable := #[], attributes := #[] }
def k1m4 : Method := { name := "node", desc := "(III)I", sig := { parameters := [.int, .int, .int], returnType := some .int }, accessFlags := 10, code := some k1c4 }
def k1c5 : Code := { maxStack := 2, maxLocals := 4, code := method_6_code, exceptionTable := #[], attributes := #[] }
def k1m5 : Method := { name := "arcIndex", desc := "(IIIZ)I", sig := { parameters := [.int, .int, .int, .boolean], returnType := some .int }, accessFlags := 10, code := some k1c5 }
def k1c6 : Code := { maxStack := 6, maxLocals := 6, code := method_7_code, exceptionTable := #[], attributes := #[] }
def k1m6 : Method := { name := "apply", desc := "([J[IIIII)V", sig := { parameters := [(.array .long), (.array .int), .int, .int, .int, .int], returnType := none }, accessFlags := 10, code := some k1c6 }
def k1c7 : Code := { maxStack := 6, maxLocals := 3, code := method_8_code, exceptionTable := #[], attributes := #[] }
def k1m7 : Method := { name := "overSeen", desc := "(Levenkeel/group/SpreadSearch;IZ)J", sig := { parameters := [(.object "evenkeel/group/SpreadSearch"), .int, .boolean], returnType := some .long }, accessFlags := 10, code := some k1c7 }
/-- evenkeel/group/SpreadSearchMovePinLaw -/
def k1 : Class := { plain "evenkeel/group/SpreadSearchMovePinLaw" (some 0) with
  accessFlags := 49
  interfaces := #[]
  cf := some (fileOf pool1 22 #[] #[{ accessFlags := 1, nameIndex := 5, descriptorIndex := 6, attributes := #[] }, { accessFlags := 9, nameIndex := 57, descriptorIndex := 58, attributes := #[] }, { accessFlags := 10, nameIndex := 25, descriptorIndex := 26, attributes := #[] }, { accessFlags := 10, nameIndex := 49, descriptorIndex := 50, attributes := #[] }, { accessFlags := 10, nameIndex := 29, descriptorIndex := 30, attributes := #[] }, { accessFlags := 10, nameIndex := 33, descriptorIndex := 34, attributes := #[] }, { accessFlags := 10, nameIndex := 41, descriptorIndex := 42, attributes := #[] }, { accessFlags := 10, nameIndex := 45, descriptorIndex := 46, attributes := #[] }] 49 2 #[] #[])
  fields := #[]
  methods := #[k1m0, k1m1, k1m2, k1m3, k1m4, k1m5, k1m6, k1m7]
  instanceTypes := #[]
  staticTypes := #[]
  resolved := Array.replicate 66 none
  statics := none }

def pool2 : Array CpInfo := pool [(3, .methodref 4 5), (0, .class_ 6), (0, .nameAndType 7 8), (0, u "java/lang/Object"), (0, u "<init>"), (0, u "()V"), (0, .fieldref 10 11), (0, .class_ 12), (0, .nameAndType 13 14), (0, u "evenkeel/group/MinCostFlow"), (0, u "potential"), (0, u "[J"), (0, .fieldref 10 16), (0, .nameAndType 17 14), (0, u "distance"), (0, .fieldref 10 19), (0, .nameAndType 20 21), (0, u "reached"), (0, u "[I"), (0, .fieldref 10 23), (0, .nameAndType 24 21), (0, u "settled"), (0, .fieldref 10 26), (0, .nameAndType 27 14), (0, u "heapKeys"), (0, .fieldref 10 29), (0, .nameAndType 30 21), (0, u "heapNodes"), (0, .fieldref 10 32), (0, .nameAndType 33 21), (0, u "level"), (0, .fieldref 10 35), (0, .nameAndType 36 21), (0, u "nextArc"), (0, .fieldref 10 38), (0, .nameAndType 39 21), (0, u "path"), (0, .fieldref 10 41), (0, .nameAndType 42 21), (0, u "via"), (0, .fieldref 10 44), (0, .nameAndType 45 21), (0, u "numberStart"), (0, .fieldref 10 47), (0, .nameAndType 48 21), (0, u "numbered"), (0, .fieldref 10 50), (0, .nameAndType 51 21), (0, u "nextHead"), (0, .fieldref 10 53), (0, .nameAndType 54 55), (0, u "source"), (0, u "I"), (0, .fieldref 10 57), (0, .nameAndType 58 55), (0, u "sink"), (0, .methodref 60 61), (0, .class_ 62), (0, .nameAndType 63 64), (0, u "evenkeel/group/Scratch"), (0, u "atLeast"), (0, u "([JI)[J"), (0, .methodref 66 67), (0, .class_ 68), (0, .nameAndType 69 70), (0, u "java/util/Arrays"), (0, u "fill"), (0, u "([JIIJ)V"), (0, .fieldref 10 72), (0, .nameAndType 73 55), (0, u "shifts"), (2, u "search"), (9, u "heapSize"), (6, u "nearest"), (0, u "J"), (18, .fieldref 10 114), (0, .nameAndType 115 94), (0, u "unmoved"), (0, .fieldref 10 117), (0, .nameAndType 118 94), (0, u "untaken"), (0, .methodref 10 120), (0, .nameAndType 121 122), (0, u "sweep"), (0, u "()Z"), (0, .methodref 10 124), (0, .nameAndType 125 122), (0, u "arcsByHead"), (0, .methodref 10 127), (0, .nameAndType 128 129), (0, u "readySweep"), (0, u "(Z)V"), (0, .methodref 10 131), (0, .nameAndType 132 122), (0, u "levelGraph"), (0, .methodref 66 134), (0, .nameAndType 69 135), (0, u "([IIII)V"), (14, u "(I)I"), (3, u "(II)I"), (0, .methodref 10 156), (0, .nameAndType 157 150), (0, u "arcs"), (0, .methodref 10 159), (0, .nameAndType 160 154), (0, u "head"), (0, .methodref 10 162), (0, .nameAndType 163 164), (0, u "room"), (0, u "(II)J"), (10, .methodref 10 176), (0, .nameAndType 177 122), (0, u "anyRoomToSink"), (0, .fieldref 10 179), (0, .nameAndType 180 55), (0, u "numberings"), (0, .fieldref 10 182), (0, .nameAndType 183 184), (0, u "stoppedShort"), (0, u "Z"), (0, .methodref 10 186), (0, .nameAndType 187 188), (0, u "levelArcsOf"), (0, u "(I[II)I"), (0, .methodref 10 190), (0, .nameAndType 191 192), (0, u "number"), (0, u "(II[II)I"), (0, .methodref 10 194), (0, .nameAndType 195 196), (0, u "leadsToSink"), (0, u "(I)Z"), (32, u "UNREACHABLE"), (1, u "UNNUMBERED"), (1, u "LEADS_NOWHERE"), (3, u "layOut"), (0, u "(I)V"), (8, u "moveAlongShortestPaths")] 5

def k2c0 : Code := { maxStack := 2, maxLocals := 1, code := prog_76_method_1_code, exceptionTable := #[], attributes := #[] }
def k2m0 : Method := { name := "<init>", desc := "()V", sig := { parameters := [], returnType := none }, accessFlags := 0, code := some k2c0 }
def k2c1 : Code := { maxStack := 5, maxLocals := 2, code := prog_76_method_2_code, exceptionTable := #[], attributes := #[] }
def k2m1 : Method := { name := "layOut", desc := "(I)V", sig := { parameters := [.int], returnType := none }, accessFlags := 16, code := some k2c1 }
def k2c2 : Code := { maxStack := 3, maxLocals := 3, code := prog_76_method_4_code, exceptionTable := #[], attributes := #[] }
def k2m2 : Method := { name := "readySweep", desc := "(Z)V", sig := { parameters := [.boolean], returnType := none }, accessFlags := 2, code := some k2c2 }
def k2c3 : Code := { maxStack := 4, maxLocals := 2, code := prog_76_method_12_code, exceptionTable := #[], attributes := #[] }
def k2m3 : Method := { name := "moveAlongShortestPaths", desc := "()V", sig := { parameters := [], returnType := none }, accessFlags := 16, code := some k2c3 }
def k2c4 : Code := { maxStack := 5, maxLocals := 5, code := prog_76_method_13_code, exceptionTable := #[], attributes := #[] }
def k2m4 : Method := { name := "sweep", desc := "()Z", sig := { parameters := [], returnType := some .boolean }, accessFlags := 16, code := some k2c4 }
def k2c5 : Code := { maxStack := 4, maxLocals := 4, code := prog_76_method_16_code, exceptionTable := #[], attributes := #[] }
def k2m5 : Method := { name := "levelGraph", desc := "()Z", sig := { parameters := [], returnType := some .boolean }, accessFlags := 2, code := some k2c5 }
def k2c6 : Code := { maxStack := 1, maxLocals := 1, code := prog_76_method_17_code, exceptionTable := #[], attributes := #[] }
def k2m6 : Method := { name := "anyRoomToSink", desc := "()Z", sig := { parameters := [], returnType := some .boolean }, accessFlags := 0, code := some k2c6 }
def k2c7 : Code := { maxStack := 5, maxLocals := 8, code := prog_76_method_18_code, exceptionTable := #[], attributes := #[] }
def k2m7 : Method := { name := "levelArcsOf", desc := "(I[II)I", sig := { parameters := [.int, (.array .int), .int], returnType := some .int }, accessFlags := 0, code := some k2c7 }
def k2c8 : Code := { maxStack := 4, maxLocals := 5, code := prog_76_method_20_code, exceptionTable := #[], attributes := #[] }
def k2m8 : Method := { name := "number", desc := "(II[II)I", sig := { parameters := [.int, .int, (.array .int), .int], returnType := some .int }, accessFlags := 16, code := some k2c8 }
def k2c9 : Code := { maxStack := 1, maxLocals := 2, code := prog_76_method_21_code, exceptionTable := #[], attributes := #[] }
def k2m9 : Method := { name := "leadsToSink", desc := "(I)Z", sig := { parameters := [.int], returnType := some .boolean }, accessFlags := 0, code := some k2c9 }
def k2c10 : Code := { maxStack := 1, maxLocals := 1, code := ⟨#[0x03, 0xac]⟩, exceptionTable := #[], attributes := #[] }
def k2m10 : Method := { name := "arcsByHead", desc := "()Z", sig := { parameters := [], returnType := some .boolean }, accessFlags := 0, code := some k2c10 }
def k2m11 : Method := { name := "arcs", desc := "(I)I", sig := { parameters := [.int], returnType := some .int }, accessFlags := 1024, code := none }
def k2m12 : Method := { name := "head", desc := "(II)I", sig := { parameters := [.int, .int], returnType := some .int }, accessFlags := 1024, code := none }
def k2m13 : Method := { name := "room", desc := "(II)J", sig := { parameters := [.int, .int], returnType := some .long }, accessFlags := 1024, code := none }
/-- evenkeel/group/MinCostFlow -/
def k2 : Class := { plain "evenkeel/group/MinCostFlow" (some 0) with
  accessFlags := 1056
  interfaces := #[]
  cf := some (fileOf pool2 10 #[] #[{ accessFlags := 0, nameIndex := 7, descriptorIndex := 8, attributes := #[] }, { accessFlags := 16, nameIndex := 237, descriptorIndex := 238, attributes := #[] }, { accessFlags := 2, nameIndex := 128, descriptorIndex := 129, attributes := #[] }, { accessFlags := 16, nameIndex := 247, descriptorIndex := 8, attributes := #[] }, { accessFlags := 16, nameIndex := 121, descriptorIndex := 122, attributes := #[] }, { accessFlags := 2, nameIndex := 132, descriptorIndex := 122, attributes := #[] }, { accessFlags := 0, nameIndex := 177, descriptorIndex := 122, attributes := #[] }, { accessFlags := 0, nameIndex := 187, descriptorIndex := 188, attributes := #[] }, { accessFlags := 16, nameIndex := 191, descriptorIndex := 192, attributes := #[] }, { accessFlags := 0, nameIndex := 195, descriptorIndex := 196, attributes := #[] }, { accessFlags := 0, nameIndex := 125, descriptorIndex := 122, attributes := #[] }, { accessFlags := 1024, nameIndex := 157, descriptorIndex := 150, attributes := #[] }, { accessFlags := 1024, nameIndex := 160, descriptorIndex := 154, attributes := #[] }, { accessFlags := 1024, nameIndex := 163, descriptorIndex := 164, attributes := #[] }] 1056 4 #[] #[{ accessFlags := 24, nameIndex := 229, descriptorIndex := 94, attributes := #[] }, { accessFlags := 26, nameIndex := 231, descriptorIndex := 55, attributes := #[] }, { accessFlags := 26, nameIndex := 233, descriptorIndex := 55, attributes := #[] }, { accessFlags := 0, nameIndex := 54, descriptorIndex := 55, attributes := #[] }, { accessFlags := 0, nameIndex := 58, descriptorIndex := 55, attributes := #[] }, { accessFlags := 0, nameIndex := 13, descriptorIndex := 14, attributes := #[] }, { accessFlags := 0, nameIndex := 115, descriptorIndex := 94, attributes := #[] }, { accessFlags := 0, nameIndex := 118, descriptorIndex := 94, attributes := #[] }, { accessFlags := 2, nameIndex := 17, descriptorIndex := 14, attributes := #[] }, { accessFlags := 2, nameIndex := 20, descriptorIndex := 21, attributes := #[] }, { accessFlags := 2, nameIndex := 24, descriptorIndex := 21, attributes := #[] }, { accessFlags := 2, nameIndex := 76, descriptorIndex := 55, attributes := #[] }, { accessFlags := 2, nameIndex := 93, descriptorIndex := 94, attributes := #[] }, { accessFlags := 2, nameIndex := 27, descriptorIndex := 14, attributes := #[] }, { accessFlags := 2, nameIndex := 30, descriptorIndex := 21, attributes := #[] }, { accessFlags := 2, nameIndex := 86, descriptorIndex := 55, attributes := #[] }, { accessFlags := 2, nameIndex := 33, descriptorIndex := 21, attributes := #[] }, { accessFlags := 2, nameIndex := 183, descriptorIndex := 184, attributes := #[] }, { accessFlags := 2, nameIndex := 180, descriptorIndex := 55, attributes := #[] }, { accessFlags := 2, nameIndex := 73, descriptorIndex := 55, attributes := #[] }, { accessFlags := 2, nameIndex := 36, descriptorIndex := 21, attributes := #[] }, { accessFlags := 2, nameIndex := 39, descriptorIndex := 21, attributes := #[] }, { accessFlags := 2, nameIndex := 42, descriptorIndex := 21, attributes := #[] }, { accessFlags := 2, nameIndex := 45, descriptorIndex := 21, attributes := #[] }, { accessFlags := 2, nameIndex := 48, descriptorIndex := 21, attributes := #[] }, { accessFlags := 2, nameIndex := 51, descriptorIndex := 21, attributes := #[] }])
  fields := #[{ name := "UNREACHABLE", type := .long, accessFlags := 24, slot := 0, constantValue := 0 }, { name := "UNNUMBERED", type := .int, accessFlags := 26, slot := 1, constantValue := 0 }, { name := "LEADS_NOWHERE", type := .int, accessFlags := 26, slot := 2, constantValue := 0 }, { name := "source", type := .int, accessFlags := 0, slot := 0, constantValue := 0 }, { name := "sink", type := .int, accessFlags := 0, slot := 1, constantValue := 0 }, { name := "potential", type := (.array .long), accessFlags := 0, slot := 2, constantValue := 0 }, { name := "unmoved", type := .long, accessFlags := 0, slot := 3, constantValue := 0 }, { name := "untaken", type := .long, accessFlags := 0, slot := 4, constantValue := 0 }, { name := "distance", type := (.array .long), accessFlags := 2, slot := 5, constantValue := 0 }, { name := "reached", type := (.array .int), accessFlags := 2, slot := 6, constantValue := 0 }, { name := "settled", type := (.array .int), accessFlags := 2, slot := 7, constantValue := 0 }, { name := "search", type := .int, accessFlags := 2, slot := 8, constantValue := 0 }, { name := "nearest", type := .long, accessFlags := 2, slot := 9, constantValue := 0 }, { name := "heapKeys", type := (.array .long), accessFlags := 2, slot := 10, constantValue := 0 }, { name := "heapNodes", type := (.array .int), accessFlags := 2, slot := 11, constantValue := 0 }, { name := "heapSize", type := .int, accessFlags := 2, slot := 12, constantValue := 0 }, { name := "level", type := (.array .int), accessFlags := 2, slot := 13, constantValue := 0 }, { name := "stoppedShort", type := .boolean, accessFlags := 2, slot := 14, constantValue := 0 }, { name := "numberings", type := .int, accessFlags := 2, slot := 15, constantValue := 0 }, { name := "shifts", type := .int, accessFlags := 2, slot := 16, constantValue := 0 }, { name := "nextArc", type := (.array .int), accessFlags := 2, slot := 17, constantValue := 0 }, { name := "path", type := (.array .int), accessFlags := 2, slot := 18, constantValue := 0 }, { name := "via", type := (.array .int), accessFlags := 2, slot := 19, constantValue := 0 }, { name := "numberStart", type := (.array .int), accessFlags := 2, slot := 20, constantValue := 0 }, { name := "numbered", type := (.array .int), accessFlags := 2, slot := 21, constantValue := 0 }, { name := "nextHead", type := (.array .int), accessFlags := 2, slot := 22, constantValue := 0 }]
  methods := #[k2m0, k2m1, k2m2, k2m3, k2m4, k2m5, k2m6, k2m7, k2m8, k2m9, k2m10, k2m11, k2m12, k2m13]
  instanceTypes := #[.int, .int, (.array .long), .long, .long, (.array .long), (.array .int), (.array .int), .int, .long, (.array .long), (.array .int), .int, (.array .int), .boolean, .int, .int, (.array .int), (.array .int), (.array .int), (.array .int), (.array .int), (.array .int)]
  staticTypes := #[.long, .int, .int]
  resolved := Array.replicate 253 none
  statics := none }

def pool3 : Array CpInfo := pool [(1, .methodref 2 3), (0, .class_ 4), (0, .nameAndType 5 6), (0, u "evenkeel/group/MinCostFlow"), (0, u "<init>"), (0, u "()V"), (0, .fieldref 8 9), (0, .class_ 10), (0, .nameAndType 11 12), (0, u "evenkeel/group/SpreadSearch"), (0, u "rowStart"), (0, u "[I"), (0, .fieldref 8 14), (0, .nameAndType 15 12), (0, u "rowCell"), (0, .fieldref 8 17), (0, .nameAndType 18 12), (0, u "cellColumn"), (0, .fieldref 8 20), (0, .nameAndType 21 22), (0, u "over"), (0, u "[J"), (0, .fieldref 8 24), (0, .nameAndType 25 22), (0, u "low"), (0, .fieldref 8 27), (0, .nameAndType 28 22), (0, u "high"), (0, .fieldref 8 30), (0, .nameAndType 31 22), (0, u "held"), (0, .fieldref 8 33), (0, .nameAndType 34 22), (0, u "left"), (0, .fieldref 8 36), (0, .nameAndType 37 22), (0, u "closedTake"), (0, .fieldref 8 39), (0, .nameAndType 40 22), (0, u "filledGive"), (0, .fieldref 8 42), (0, .nameAndType 43 12), (0, u "openCount"), (0, .fieldref 8 45), (0, .nameAndType 46 12), (0, u "loCount"), (0, .fieldref 8 48), (0, .nameAndType 49 22), (0, u "loSum"), (0, .fieldref 8 51), (0, .nameAndType 52 12), (0, u "hiCount"), (0, .fieldref 8 54), (0, .nameAndType 55 22), (0, u "hiSum"), (0, .fieldref 8 57), (0, .nameAndType 58 12), (0, u "filling"), (0, .fieldref 8 60), (0, .nameAndType 61 12), (0, u "nothing"), (0, .fieldref 8 63), (0, .nameAndType 64 12), (0, u "placing"), (0, .fieldref 8 66), (0, .nameAndType 67 22), (0, u "placeLevel"), (0, .fieldref 8 69), (0, .nameAndType 70 22), (0, u "placeEach"), (0, .fieldref 8 72), (0, .nameAndType 73 22), (0, u "placeExtra"), (0, .fieldref 8 75), (0, .nameAndType 76 12), (0, u "placeCursor"), (0, .fieldref 8 78), (0, .nameAndType 79 12), (0, u "filledRows"), (0, .fieldref 8 81), (0, .nameAndType 82 12), (0, u "openStart"), (0, .fieldref 8 84), (0, .nameAndType 85 12), (0, u "openCell"), (0, .fieldref 8 87), (0, .nameAndType 88 12), (0, u "tightCell"), (0, .fieldref 8 90), (0, .nameAndType 91 12), (0, u "tightLower"), (0, .fieldref 8 93), (0, .nameAndType 94 12), (0, u "tightUpper"), (0, .fieldref 8 96), (0, .nameAndType 97 12), (0, u "takeStart"), (0, .fieldref 8 99), (0, .nameAndType 100 12), (0, u "giveStart"), (0, .fieldref 8 102), (0, .nameAndType 103 12), (0, u "giveArc"), (0, .fieldref 8 105), (0, .nameAndType 106 12), (0, u "rowsLeft"), (0, .fieldref 8 108), (0, .nameAndType 109 12), (0, u "rowPlace"), (0, .fieldref 8 111), (0, .nameAndType 112 12), (0, u "columnsLeft"), (0, .fieldref 8 114), (0, .nameAndType 115 12), (0, u "columnPlace"), (0, .fieldref 8 117), (0, .nameAndType 118 12), (0, u "markedSpread"), (0, .fieldref 8 120), (0, .nameAndType 121 22), (0, u "markedPotential"), (0, .long 2), (4, u "(II[I[I[I[I[I[J[J[I[Z)Z"), (0, .methodref 8 129), (0, .nameAndType 130 127), (0, u "spreadAtLevels"), (3, u "()Z"), (0, .methodref 8 136), (0, .nameAndType 137 138), (0, u "setUp"), (0, u "(II[I[I[I[I[I[I[ZZ)V"), (0, .methodref 8 140), (0, .nameAndType 141 142), (0, u "balances"), (0, u "([J[J)Z"), (0, .methodref 8 144), (0, .nameAndType 145 146), (0, u "findLevels"), (0, u "([J)Z"), (0, .methodref 8 148), (0, .nameAndType 149 146), (0, u "placeLeft"), (0, .fieldref 8 151), (0, .nameAndType 152 153), (0, u "unmoved"), (0, u "J"), (0, .methodref 155 156), (0, .class_ 157), (0, .nameAndType 158 159), (0, u "java/lang/Math"), (0, u "max"), (0, u "(JJ)J"), (0, .fieldref 8 161), (0, .nameAndType 162 153), (0, u "untaken"), (0, .fieldref 8 164), (0, .nameAndType 165 166), (0, u "dense"), (0, u "Z"), (0, .methodref 8 168), (0, .nameAndType 169 6), (0, u "listOpenCells"), (0, .methodref 8 171), (0, .nameAndType 172 6), (0, u "moveAlongShortestPaths"), (0, .fieldref 8 174), (0, .nameAndType 175 176), (0, u "rows"), (0, u "I"), (0, .fieldref 8 178), (0, .nameAndType 179 176), (0, u "columns"), (0, .fieldref 8 181), (0, .nameAndType 182 12), (0, u "size"), (3, u "([J)V"), (6, u "costMoved"), (7, .fieldref 8 202), (0, .nameAndType 203 176), (0, u "cellCount"), (0, .methodref 205 206), (0, .class_ 207), (0, .nameAndType 208 209), (0, u "evenkeel/group/Scratch"), (0, u "atLeast"), (0, u "([II)[I"), (3, .fieldref 8 214), (0, .nameAndType 215 12), (0, u "x"), (0, .methodref 217 218), (0, .class_ 219), (0, .nameAndType 220 221), (0, u "java/lang/System"), (0, u "arraycopy"), (0, u "(Ljava/lang/Object;ILjava/lang/Object;II)V"), (0, .fieldref 8 223), (0, .nameAndType 224 22), (0, u "potential"), (9, u "(I)V"), (2, .long 9223372036854775808), (1, .long 9223372036854775807), (1, .methodref 155 242), (0, .nameAndType 243 159), (0, u "min"), (0, .fieldref 8 245), (0, .nameAndType 246 176), (0, u "source"), (0, .fieldref 8 248), (0, .nameAndType 249 176), (0, u "sink"), (0, .methodref 8 251), (0, .nameAndType 252 6), (0, u "listPlacing"), (0, .fieldref 8 254), (0, .nameAndType 255 176), (0, u "placingCount"), (0, .methodref 8 257), (0, .nameAndType 258 6), (0, u "startPlacing"), (9, .methodref 8 269), (0, .nameAndType 270 271), (0, u "placedCell"), (0, u "(II)I"), (4, .fieldref 8 277), (0, .nameAndType 278 12), (0, u "hi"), (0, .fieldref 8 280), (0, .nameAndType 281 12), (0, u "columnStart"), (0, .fieldref 8 283), (0, .nameAndType 284 12), (0, u "cellRow"), (0, .fieldref 8 286), (0, .nameAndType 287 12), (0, u "lo"), (0, .fieldref 8 289), (0, .nameAndType 290 291), (0, u "unbounded"), (0, u "[Z"), (0, .methodref 8 293), (0, .nameAndType 294 234), (0, u "layOut"), (0, .methodref 8 296), (0, .nameAndType 297 6), (0, u "makeRoom"), (0, .methodref 8 299), (0, .nameAndType 300 6), (0, u "indexRows"), (8, .class_ 311), (1, u "java/util/Arrays"), (0, u "fill"), (5, .methodref 155 319), (0, .nameAndType 243 271), (3, .methodref 8 324), (0, .nameAndType 325 326), (0, u "unitCost"), (0, u "(JI)J"), (3, u "(I)I"), (6, .methodref 309 338), (0, .nameAndType 312 339), (0, u "([IIII)V"), (0, .methodref 8 341), (0, .nameAndType 342 343), (0, u "indexColumn"), (0, u "(I[I)V"), (0, .fieldref 8 345), (0, .nameAndType 346 176), (0, u "fillingCount"), (0, .methodref 8 348), (0, .nameAndType 349 350), (0, u "findLevel"), (0, u "(IJ)Z"), (0, .methodref 8 352), (0, .nameAndType 353 186), (0, u "searchLevels"), (14, .long 18446744073709551615), (1, .methodref 8 371), (0, .nameAndType 372 373), (0, u "fillColumn"), (0, u "(I[JI)I"), (0, .fieldref 8 375), (0, .nameAndType 376 176), (0, u "fewLeft"), (0, .methodref 8 378), (0, .nameAndType 379 6), (0, u "placeInColumns"), (0, .methodref 8 381), (0, .nameAndType 382 134), (0, u "spreadWhatIsLeft"), (0, .methodref 8 384), (0, .nameAndType 385 386), (0, u "fillCells"), (0, u "(III[JI)I"), (0, .methodref 8 388), (0, .nameAndType 389 271), (0, u "placeInColumn"), (0, .methodref 8 391), (0, .nameAndType 392 271), (0, u "placeInDenseColumn"), (3, .methodref 8 397), (0, .nameAndType 398 399), (0, u "placeIn"), (0, u "(IIIJ)V"), (4, .methodref 8 405), (0, .nameAndType 406 234), (0, u "countOpenIn"), (0, .methodref 8 408), (0, .nameAndType 409 234), (0, u "spreadIn"), (0, .fieldref 8 411), (0, .nameAndType 412 176), (0, u "tightCount"), (0, .methodref 8 414), (0, .nameAndType 415 234), (0, u "makeTightRoom"), (0, .methodref 8 417), (0, .nameAndType 418 234), (0, u "listOpenIn"), (0, .methodref 8 420), (0, .nameAndType 421 6), (0, u "indexTightCells"), (0, .methodref 8 423), (0, .nameAndType 424 425), (0, u "addTight"), (0, u "(IJ)V"), (30, u "rowsLeftCount"), (2, u "columnsLeftCount"), (0, .methodref 2 461), (0, .nameAndType 462 463), (0, u "levelArcsOf"), (0, u "(I[II)I"), (0, .methodref 8 465), (0, .nameAndType 466 467), (0, u "room"), (0, u "(II)J"), (0, .methodref 8 469), (0, .nameAndType 470 471), (0, u "number"), (0, u "(II[II)I"), (18, u "FEW"), (2, u "COUNTED"), (0, u "RUN"), (5, u "(II[I[I[I[I[I[J[J[I)Z"), (13, u "arcs"), (0, u "head"), (0, u "arcsByHead"), (1, u "move"), (0, u "(III)V")] 2

def k3c0 : Code := { maxStack := 2, maxLocals := 1, code := prog_98_method_1_code, exceptionTable := #[], attributes := #[] }
def k3m0 : Method := { name := "<init>", desc := "()V", sig := { parameters := [], returnType := none }, accessFlags := 0, code := some k3c0 }
def k3c1 : Code := { maxStack := 6, maxLocals := 3, code := prog_98_method_2_code, exceptionTable := #[], attributes := #[] }
def k3m1 : Method := { name := "unitCost", desc := "(JI)J", sig := { parameters := [.long, .int], returnType := some .long }, accessFlags := 8, code := some k3c1 }
def k3c2 : Code := { maxStack := 12, maxLocals := 11, code := prog_98_method_6_code, exceptionTable := #[], attributes := #[] }
def k3m2 : Method := { name := "spreadAtLevels", desc := "(II[I[I[I[I[I[J[J[I)Z", sig := { parameters := [.int, .int, (.array .int), (.array .int), (.array .int), (.array .int), (.array .int), (.array .long), (.array .long), (.array .int)], returnType := some .boolean }, accessFlags := 0, code := some k3c2 }
def k3c3 : Code := { maxStack := 11, maxLocals := 13, code := prog_98_method_7_code, exceptionTable := #[], attributes := #[] }
def k3m3 : Method := { name := "spreadAtLevels", desc := "(II[I[I[I[I[I[J[J[I[Z)Z", sig := { parameters := [.int, .int, (.array .int), (.array .int), (.array .int), (.array .int), (.array .int), (.array .long), (.array .long), (.array .int), (.array .boolean)], returnType := some .boolean }, accessFlags := 2, code := some k3c3 }
def k3c4 : Code := { maxStack := 4, maxLocals := 6, code := prog_98_method_15_code, exceptionTable := #[], attributes := #[] }
def k3m4 : Method := { name := "balances", desc := "([J[J)Z", sig := { parameters := [(.array .long), (.array .long)], returnType := some .boolean }, accessFlags := 2, code := some k3c4 }
def k3c5 : Code := { maxStack := 7, maxLocals := 11, code := prog_98_method_20_code, exceptionTable := #[], attributes := #[] }
def k3m5 : Method := { name := "setUp", desc := "(II[I[I[I[I[I[I[ZZ)V", sig := { parameters := [.int, .int, (.array .int), (.array .int), (.array .int), (.array .int), (.array .int), (.array .int), (.array .boolean), .boolean], returnType := none }, accessFlags := 2, code := some k3c5 }
def k3c6 : Code := { maxStack := 3, maxLocals := 1, code := prog_98_method_29_code, exceptionTable := #[], attributes := #[] }
def k3m6 : Method := { name := "makeRoom", desc := "()V", sig := { parameters := [], returnType := none }, accessFlags := 2, code := some k3c6 }
def k3c7 : Code := { maxStack := 5, maxLocals := 3, code := prog_98_method_30_code, exceptionTable := #[], attributes := #[] }
def k3m7 : Method := { name := "indexRows", desc := "()V", sig := { parameters := [], returnType := none }, accessFlags := 2, code := some k3c7 }
def k3c8 : Code := { maxStack := 6, maxLocals := 4, code := prog_98_method_31_code, exceptionTable := #[], attributes := #[] }
def k3m8 : Method := { name := "indexColumn", desc := "(I[I)V", sig := { parameters := [.int, (.array .int)], returnType := none }, accessFlags := 2, code := some k3c8 }
def k3c9 : Code := { maxStack := 4, maxLocals := 3, code := prog_98_method_37_code, exceptionTable := #[], attributes := #[] }
def k3m9 : Method := { name := "findLevels", desc := "([J)Z", sig := { parameters := [(.array .long)], returnType := some .boolean }, accessFlags := 2, code := some k3c9 }
def k3c10 : Code := { maxStack := 6, maxLocals := 25, code := prog_98_method_38_code, exceptionTable := #[], attributes := #[] }
def k3m10 : Method := { name := "findLevel", desc := "(IJ)Z", sig := { parameters := [.int, .long], returnType := some .boolean }, accessFlags := 2, code := some k3c10 }
def k3c11 : Code := { maxStack := 8, maxLocals := 9, code := prog_98_method_41_code, exceptionTable := #[], attributes := #[] }
def k3m11 : Method := { name := "searchLevels", desc := "([J)V", sig := { parameters := [(.array .long)], returnType := none }, accessFlags := 2, code := some k3c11 }
def k3c12 : Code := { maxStack := 6, maxLocals := 5, code := prog_98_method_42_code, exceptionTable := #[], attributes := #[] }
def k3m12 : Method := { name := "placeLeft", desc := "([J)Z", sig := { parameters := [(.array .long)], returnType := some .boolean }, accessFlags := 2, code := some k3c12 }
def k3c13 : Code := { maxStack := 6, maxLocals := 8, code := prog_98_method_43_code, exceptionTable := #[], attributes := #[] }
def k3m13 : Method := { name := "fillColumn", desc := "(I[JI)I", sig := { parameters := [.int, (.array .long), .int], returnType := some .int }, accessFlags := 2, code := some k3c13 }
def k3c14 : Code := { maxStack := 6, maxLocals := 33, code := prog_98_method_44_code, exceptionTable := #[], attributes := #[] }
def k3m14 : Method := { name := "fillCells", desc := "(III[JI)I", sig := { parameters := [.int, .int, .int, (.array .long), .int], returnType := some .int }, accessFlags := 2, code := some k3c14 }
def k3c15 : Code := { maxStack := 3, maxLocals := 3, code := prog_98_method_45_code, exceptionTable := #[], attributes := #[] }
def k3m15 : Method := { name := "placeInColumns", desc := "()V", sig := { parameters := [], returnType := none }, accessFlags := 2, code := some k3c15 }
def k3c16 : Code := { maxStack := 6, maxLocals := 11, code := prog_98_method_46_code, exceptionTable := #[], attributes := #[] }
def k3m16 : Method := { name := "placeInColumn", desc := "(II)I", sig := { parameters := [.int, .int], returnType := some .int }, accessFlags := 2, code := some k3c16 }
def k3c17 : Code := { maxStack := 6, maxLocals := 7, code := prog_98_method_47_code, exceptionTable := #[], attributes := #[] }
def k3m17 : Method := { name := "placeInDenseColumn", desc := "(II)I", sig := { parameters := [.int, .int], returnType := some .int }, accessFlags := 2, code := some k3c17 }
def k3c18 : Code := { maxStack := 6, maxLocals := 12, code := prog_98_method_49_code, exceptionTable := #[], attributes := #[] }
def k3m18 : Method := { name := "placeIn", desc := "(IIIJ)V", sig := { parameters := [.int, .int, .int, .long], returnType := none }, accessFlags := 2, code := some k3c18 }
def k3c19 : Code := { maxStack := 6, maxLocals := 5, code := prog_98_method_50_code, exceptionTable := #[], attributes := #[] }
def k3m19 : Method := { name := "spreadWhatIsLeft", desc := "()Z", sig := { parameters := [], returnType := some .boolean }, accessFlags := 2, code := some k3c19 }
def k3c20 : Code := { maxStack := 5, maxLocals := 2, code := prog_98_method_51_code, exceptionTable := #[], attributes := #[] }
def k3m20 : Method := { name := "listPlacing", desc := "()V", sig := { parameters := [], returnType := none }, accessFlags := 2, code := some k3c20 }
def k3c21 : Code := { maxStack := 6, maxLocals := 7, code := prog_98_method_52_code, exceptionTable := #[], attributes := #[] }
def k3m21 : Method := { name := "countOpenIn", desc := "(I)V", sig := { parameters := [.int], returnType := none }, accessFlags := 2, code := some k3c21 }
def k3c22 : Code := { maxStack := 8, maxLocals := 7, code := prog_98_method_53_code, exceptionTable := #[], attributes := #[] }
def k3m22 : Method := { name := "spreadIn", desc := "(I)V", sig := { parameters := [.int], returnType := none }, accessFlags := 2, code := some k3c22 }
def k3c23 : Code := { maxStack := 4, maxLocals := 4, code := prog_98_method_54_code, exceptionTable := #[], attributes := #[] }
def k3m23 : Method := { name := "placedCell", desc := "(II)I", sig := { parameters := [.int, .int], returnType := some .int }, accessFlags := 2, code := some k3c23 }
def k3c24 : Code := { maxStack := 5, maxLocals := 2, code := prog_98_method_55_code, exceptionTable := #[], attributes := #[] }
def k3m24 : Method := { name := "startPlacing", desc := "()V", sig := { parameters := [], returnType := none }, accessFlags := 2, code := some k3c24 }
def k3c25 : Code := { maxStack := 3, maxLocals := 2, code := prog_98_method_56_code, exceptionTable := #[], attributes := #[] }
def k3m25 : Method := { name := "listOpenCells", desc := "()V", sig := { parameters := [], returnType := none }, accessFlags := 2, code := some k3c25 }
def k3c26 : Code := { maxStack := 5, maxLocals := 4, code := prog_98_method_57_code, exceptionTable := #[], attributes := #[] }
def k3m26 : Method := { name := "listOpenIn", desc := "(I)V", sig := { parameters := [.int], returnType := none }, accessFlags := 2, code := some k3c26 }
def k3c27 : Code := { maxStack := 8, maxLocals := 5, code := prog_98_method_58_code, exceptionTable := #[], attributes := #[] }
def k3m27 : Method := { name := "addTight", desc := "(IJ)V", sig := { parameters := [.int, .long], returnType := none }, accessFlags := 2, code := some k3c27 }
def k3c28 : Code := { maxStack := 2, maxLocals := 2, code := prog_98_method_59_code, exceptionTable := #[], attributes := #[] }
def k3m28 : Method := { name := "makeTightRoom", desc := "(I)V", sig := { parameters := [.int], returnType := none }, accessFlags := 2, code := some k3c28 }
def k3c29 : Code := { maxStack := 6, maxLocals := 2, code := prog_98_method_60_code, exceptionTable := #[], attributes := #[] }
def k3m29 : Method := { name := "indexTightCells", desc := "()V", sig := { parameters := [], returnType := none }, accessFlags := 2, code := some k3c29 }
def k3c30 : Code := { maxStack := 5, maxLocals := 6, code := prog_98_method_69_code, exceptionTable := #[], attributes := #[] }
def k3m30 : Method := { name := "levelArcsOf", desc := "(I[II)I", sig := { parameters := [.int, (.array .int), .int], returnType := some .int }, accessFlags := 0, code := some k3c30 }
def k3c31 : Code := { maxStack := 4, maxLocals := 2, code := prog_98_method_76_code, exceptionTable := #[], attributes := #[] }
def k3m31 : Method := { name := "arcs", desc := "(I)I", sig := { parameters := [.int], returnType := some .int }, accessFlags := 0, code := some k3c31 }
def k3c32 : Code := { maxStack := 6, maxLocals := 4, code := prog_98_method_77_code, exceptionTable := #[], attributes := #[] }
def k3m32 : Method := { name := "head", desc := "(II)I", sig := { parameters := [.int, .int], returnType := some .int }, accessFlags := 0, code := some k3c32 }
def k3c33 : Code := { maxStack := 1, maxLocals := 1, code := prog_98_method_78_code, exceptionTable := #[], attributes := #[] }
def k3m33 : Method := { name := "arcsByHead", desc := "()Z", sig := { parameters := [], returnType := some .boolean }, accessFlags := 0, code := some k3c33 }
def k3c34 : Code := { maxStack := 5, maxLocals := 4, code := prog_98_method_81_code, exceptionTable := #[], attributes := #[] }
def k3m34 : Method := { name := "room", desc := "(II)J", sig := { parameters := [.int, .int], returnType := some .long }, accessFlags := 0, code := some k3c34 }
def k3c35 : Code := { maxStack := 6, maxLocals := 5, code := prog_98_method_82_code, exceptionTable := #[], attributes := #[] }
def k3m35 : Method := { name := "move", desc := "(III)V", sig := { parameters := [.int, .int, .int], returnType := none }, accessFlags := 0, code := some k3c35 }
/-- evenkeel/group/SpreadSearch -/
def k3 : Class := { plain "evenkeel/group/SpreadSearch" (some 2) with
  accessFlags := 48
  interfaces := #[]
  cf := some (fileOf pool3 8 #[] #[{ accessFlags := 0, nameIndex := 5, descriptorIndex := 6, attributes := #[] }, { accessFlags := 8, nameIndex := 325, descriptorIndex := 326, attributes := #[] }, { accessFlags := 0, nameIndex := 130, descriptorIndex := 500, attributes := #[] }, { accessFlags := 2, nameIndex := 130, descriptorIndex := 127, attributes := #[] }, { accessFlags := 2, nameIndex := 141, descriptorIndex := 142, attributes := #[] }, { accessFlags := 2, nameIndex := 137, descriptorIndex := 138, attributes := #[] }, { accessFlags := 2, nameIndex := 297, descriptorIndex := 6, attributes := #[] }, { accessFlags := 2, nameIndex := 300, descriptorIndex := 6, attributes := #[] }, { accessFlags := 2, nameIndex := 342, descriptorIndex := 343, attributes := #[] }, { accessFlags := 2, nameIndex := 145, descriptorIndex := 146, attributes := #[] }, { accessFlags := 2, nameIndex := 349, descriptorIndex := 350, attributes := #[] }, { accessFlags := 2, nameIndex := 353, descriptorIndex := 186, attributes := #[] }, { accessFlags := 2, nameIndex := 149, descriptorIndex := 146, attributes := #[] }, { accessFlags := 2, nameIndex := 372, descriptorIndex := 373, attributes := #[] }, { accessFlags := 2, nameIndex := 385, descriptorIndex := 386, attributes := #[] }, { accessFlags := 2, nameIndex := 379, descriptorIndex := 6, attributes := #[] }, { accessFlags := 2, nameIndex := 389, descriptorIndex := 271, attributes := #[] }, { accessFlags := 2, nameIndex := 392, descriptorIndex := 271, attributes := #[] }, { accessFlags := 2, nameIndex := 398, descriptorIndex := 399, attributes := #[] }, { accessFlags := 2, nameIndex := 382, descriptorIndex := 134, attributes := #[] }, { accessFlags := 2, nameIndex := 252, descriptorIndex := 6, attributes := #[] }, { accessFlags := 2, nameIndex := 406, descriptorIndex := 234, attributes := #[] }, { accessFlags := 2, nameIndex := 409, descriptorIndex := 234, attributes := #[] }, { accessFlags := 2, nameIndex := 270, descriptorIndex := 271, attributes := #[] }, { accessFlags := 2, nameIndex := 258, descriptorIndex := 6, attributes := #[] }, { accessFlags := 2, nameIndex := 169, descriptorIndex := 6, attributes := #[] }, { accessFlags := 2, nameIndex := 418, descriptorIndex := 234, attributes := #[] }, { accessFlags := 2, nameIndex := 424, descriptorIndex := 425, attributes := #[] }, { accessFlags := 2, nameIndex := 415, descriptorIndex := 234, attributes := #[] }, { accessFlags := 2, nameIndex := 421, descriptorIndex := 6, attributes := #[] }, { accessFlags := 0, nameIndex := 462, descriptorIndex := 463, attributes := #[] }, { accessFlags := 0, nameIndex := 514, descriptorIndex := 330, attributes := #[] }, { accessFlags := 0, nameIndex := 515, descriptorIndex := 271, attributes := #[] }, { accessFlags := 0, nameIndex := 516, descriptorIndex := 134, attributes := #[] }, { accessFlags := 0, nameIndex := 466, descriptorIndex := 467, attributes := #[] }, { accessFlags := 0, nameIndex := 518, descriptorIndex := 519, attributes := #[] }] 48 2 #[] #[{ accessFlags := 26, nameIndex := 490, descriptorIndex := 176, attributes := #[] }, { accessFlags := 26, nameIndex := 493, descriptorIndex := 176, attributes := #[] }, { accessFlags := 24, nameIndex := 494, descriptorIndex := 176, attributes := #[] }, { accessFlags := 2, nameIndex := 175, descriptorIndex := 176, attributes := #[] }, { accessFlags := 2, nameIndex := 179, descriptorIndex := 176, attributes := #[] }, { accessFlags := 2, nameIndex := 182, descriptorIndex := 12, attributes := #[] }, { accessFlags := 2, nameIndex := 203, descriptorIndex := 176, attributes := #[] }, { accessFlags := 2, nameIndex := 281, descriptorIndex := 12, attributes := #[] }, { accessFlags := 2, nameIndex := 284, descriptorIndex := 12, attributes := #[] }, { accessFlags := 2, nameIndex := 287, descriptorIndex := 12, attributes := #[] }, { accessFlags := 2, nameIndex := 278, descriptorIndex := 12, attributes := #[] }, { accessFlags := 2, nameIndex := 215, descriptorIndex := 12, attributes := #[] }, { accessFlags := 2, nameIndex := 11, descriptorIndex := 12, attributes := #[] }, { accessFlags := 2, nameIndex := 15, descriptorIndex := 12, attributes := #[] }, { accessFlags := 2, nameIndex := 18, descriptorIndex := 12, attributes := #[] }, { accessFlags := 2, nameIndex := 290, descriptorIndex := 291, attributes := #[] }, { accessFlags := 2, nameIndex := 21, descriptorIndex := 22, attributes := #[] }, { accessFlags := 2, nameIndex := 25, descriptorIndex := 22, attributes := #[] }, { accessFlags := 2, nameIndex := 28, descriptorIndex := 22, attributes := #[] }, { accessFlags := 2, nameIndex := 31, descriptorIndex := 22, attributes := #[] }, { accessFlags := 2, nameIndex := 34, descriptorIndex := 22, attributes := #[] }, { accessFlags := 2, nameIndex := 37, descriptorIndex := 22, attributes := #[] }, { accessFlags := 2, nameIndex := 40, descriptorIndex := 22, attributes := #[] }, { accessFlags := 2, nameIndex := 43, descriptorIndex := 12, attributes := #[] }, { accessFlags := 18, nameIndex := 46, descriptorIndex := 12, attributes := #[] }, { accessFlags := 18, nameIndex := 49, descriptorIndex := 22, attributes := #[] }, { accessFlags := 18, nameIndex := 52, descriptorIndex := 12, attributes := #[] }, { accessFlags := 18, nameIndex := 55, descriptorIndex := 22, attributes := #[] }, { accessFlags := 2, nameIndex := 58, descriptorIndex := 12, attributes := #[] }, { accessFlags := 2, nameIndex := 346, descriptorIndex := 176, attributes := #[] }, { accessFlags := 2, nameIndex := 61, descriptorIndex := 12, attributes := #[] }, { accessFlags := 2, nameIndex := 64, descriptorIndex := 12, attributes := #[] }, { accessFlags := 2, nameIndex := 255, descriptorIndex := 176, attributes := #[] }, { accessFlags := 2, nameIndex := 67, descriptorIndex := 22, attributes := #[] }, { accessFlags := 2, nameIndex := 70, descriptorIndex := 22, attributes := #[] }, { accessFlags := 2, nameIndex := 73, descriptorIndex := 22, attributes := #[] }, { accessFlags := 2, nameIndex := 76, descriptorIndex := 12, attributes := #[] }, { accessFlags := 2, nameIndex := 79, descriptorIndex := 12, attributes := #[] }, { accessFlags := 2, nameIndex := 82, descriptorIndex := 12, attributes := #[] }, { accessFlags := 2, nameIndex := 85, descriptorIndex := 12, attributes := #[] }, { accessFlags := 2, nameIndex := 376, descriptorIndex := 176, attributes := #[] }, { accessFlags := 2, nameIndex := 412, descriptorIndex := 176, attributes := #[] }, { accessFlags := 2, nameIndex := 88, descriptorIndex := 12, attributes := #[] }, { accessFlags := 2, nameIndex := 91, descriptorIndex := 12, attributes := #[] }, { accessFlags := 2, nameIndex := 94, descriptorIndex := 12, attributes := #[] }, { accessFlags := 2, nameIndex := 97, descriptorIndex := 12, attributes := #[] }, { accessFlags := 2, nameIndex := 100, descriptorIndex := 12, attributes := #[] }, { accessFlags := 2, nameIndex := 103, descriptorIndex := 12, attributes := #[] }, { accessFlags := 2, nameIndex := 165, descriptorIndex := 166, attributes := #[] }, { accessFlags := 2, nameIndex := 106, descriptorIndex := 12, attributes := #[] }, { accessFlags := 2, nameIndex := 109, descriptorIndex := 12, attributes := #[] }, { accessFlags := 2, nameIndex := 456, descriptorIndex := 176, attributes := #[] }, { accessFlags := 2, nameIndex := 112, descriptorIndex := 12, attributes := #[] }, { accessFlags := 2, nameIndex := 115, descriptorIndex := 12, attributes := #[] }, { accessFlags := 2, nameIndex := 459, descriptorIndex := 176, attributes := #[] }, { accessFlags := 2, nameIndex := 193, descriptorIndex := 153, attributes := #[] }, { accessFlags := 2, nameIndex := 118, descriptorIndex := 12, attributes := #[] }, { accessFlags := 2, nameIndex := 121, descriptorIndex := 22, attributes := #[] }])
  fields := #[{ name := "FEW", type := .int, accessFlags := 26, slot := 0, constantValue := 0 }, { name := "COUNTED", type := .int, accessFlags := 26, slot := 1, constantValue := 0 }, { name := "RUN", type := .int, accessFlags := 24, slot := 2, constantValue := 0 }, { name := "rows", type := .int, accessFlags := 2, slot := 23, constantValue := 0 }, { name := "columns", type := .int, accessFlags := 2, slot := 24, constantValue := 0 }, { name := "size", type := (.array .int), accessFlags := 2, slot := 25, constantValue := 0 }, { name := "cellCount", type := .int, accessFlags := 2, slot := 26, constantValue := 0 }, { name := "columnStart", type := (.array .int), accessFlags := 2, slot := 27, constantValue := 0 }, { name := "cellRow", type := (.array .int), accessFlags := 2, slot := 28, constantValue := 0 }, { name := "lo", type := (.array .int), accessFlags := 2, slot := 29, constantValue := 0 }, { name := "hi", type := (.array .int), accessFlags := 2, slot := 30, constantValue := 0 }, { name := "x", type := (.array .int), accessFlags := 2, slot := 31, constantValue := 0 }, { name := "rowStart", type := (.array .int), accessFlags := 2, slot := 32, constantValue := 0 }, { name := "rowCell", type := (.array .int), accessFlags := 2, slot := 33, constantValue := 0 }, { name := "cellColumn", type := (.array .int), accessFlags := 2, slot := 34, constantValue := 0 }, { name := "unbounded", type := (.array .boolean), accessFlags := 2, slot := 35, constantValue := 0 }, { name := "over", type := (.array .long), accessFlags := 2, slot := 36, constantValue := 0 }, { name := "low", type := (.array .long), accessFlags := 2, slot := 37, constantValue := 0 }, { name := "high", type := (.array .long), accessFlags := 2, slot := 38, constantValue := 0 }, { name := "held", type := (.array .long), accessFlags := 2, slot := 39, constantValue := 0 }, { name := "left", type := (.array .long), accessFlags := 2, slot := 40, constantValue := 0 }, { name := "closedTake", type := (.array .long), accessFlags := 2, slot := 41, constantValue := 0 }, { name := "filledGive", type := (.array .long), accessFlags := 2, slot := 42, constantValue := 0 }, { name := "openCount", type := (.array .int), accessFlags := 2, slot := 43, constantValue := 0 }, { name := "loCount", type := (.array .int), accessFlags := 18, slot := 44, constantValue := 0 }, { name := "loSum", type := (.array .long), accessFlags := 18, slot := 45, constantValue := 0 }, { name := "hiCount", type := (.array .int), accessFlags := 18, slot := 46, constantValue := 0 }, { name := "hiSum", type := (.array .long), accessFlags := 18, slot := 47, constantValue := 0 }, { name := "filling", type := (.array .int), accessFlags := 2, slot := 48, constantValue := 0 }, { name := "fillingCount", type := .int, accessFlags := 2, slot := 49, constantValue := 0 }, { name := "nothing", type := (.array .int), accessFlags := 2, slot := 50, constantValue := 0 }, { name := "placing", type := (.array .int), accessFlags := 2, slot := 51, constantValue := 0 }, { name := "placingCount", type := .int, accessFlags := 2, slot := 52, constantValue := 0 }, { name := "placeLevel", type := (.array .long), accessFlags := 2, slot := 53, constantValue := 0 }, { name := "placeEach", type := (.array .long), accessFlags := 2, slot := 54, constantValue := 0 }, { name := "placeExtra", type := (.array .long), accessFlags := 2, slot := 55, constantValue := 0 }, { name := "placeCursor", type := (.array .int), accessFlags := 2, slot := 56, constantValue := 0 }, { name := "filledRows", type := (.array .int), accessFlags := 2, slot := 57, constantValue := 0 }, { name := "openStart", type := (.array .int), accessFlags := 2, slot := 58, constantValue := 0 }, { name := "openCell", type := (.array .int), accessFlags := 2, slot := 59, constantValue := 0 }, { name := "fewLeft", type := .int, accessFlags := 2, slot := 60, constantValue := 0 }, { name := "tightCount", type := .int, accessFlags := 2, slot := 61, constantValue := 0 }, { name := "tightCell", type := (.array .int), accessFlags := 2, slot := 62, constantValue := 0 }, { name := "tightLower", type := (.array .int), accessFlags := 2, slot := 63, constantValue := 0 }, { name := "tightUpper", type := (.array .int), accessFlags := 2, slot := 64, constantValue := 0 }, { name := "takeStart", type := (.array .int), accessFlags := 2, slot := 65, constantValue := 0 }, { name := "giveStart", type := (.array .int), accessFlags := 2, slot := 66, constantValue := 0 }, { name := "giveArc", type := (.array .int), accessFlags := 2, slot := 67, constantValue := 0 }, { name := "dense", type := .boolean, accessFlags := 2, slot := 68, constantValue := 0 }, { name := "rowsLeft", type := (.array .int), accessFlags := 2, slot := 69, constantValue := 0 }, { name := "rowPlace", type := (.array .int), accessFlags := 2, slot := 70, constantValue := 0 }, { name := "rowsLeftCount", type := .int, accessFlags := 2, slot := 71, constantValue := 0 }, { name := "columnsLeft", type := (.array .int), accessFlags := 2, slot := 72, constantValue := 0 }, { name := "columnPlace", type := (.array .int), accessFlags := 2, slot := 73, constantValue := 0 }, { name := "columnsLeftCount", type := .int, accessFlags := 2, slot := 74, constantValue := 0 }, { name := "costMoved", type := .long, accessFlags := 2, slot := 75, constantValue := 0 }, { name := "markedSpread", type := (.array .int), accessFlags := 2, slot := 76, constantValue := 0 }, { name := "markedPotential", type := (.array .long), accessFlags := 2, slot := 77, constantValue := 0 }]
  methods := #[k3m0, k3m1, k3m2, k3m3, k3m4, k3m5, k3m6, k3m7, k3m8, k3m9, k3m10, k3m11, k3m12, k3m13, k3m14, k3m15, k3m16, k3m17, k3m18, k3m19, k3m20, k3m21, k3m22, k3m23, k3m24, k3m25, k3m26, k3m27, k3m28, k3m29, k3m30, k3m31, k3m32, k3m33, k3m34, k3m35]
  instanceTypes := #[.int, .int, (.array .long), .long, .long, (.array .long), (.array .int), (.array .int), .int, .long, (.array .long), (.array .int), .int, (.array .int), .boolean, .int, .int, (.array .int), (.array .int), (.array .int), (.array .int), (.array .int), (.array .int), .int, .int, (.array .int), .int, (.array .int), (.array .int), (.array .int), (.array .int), (.array .int), (.array .int), (.array .int), (.array .int), (.array .boolean), (.array .long), (.array .long), (.array .long), (.array .long), (.array .long), (.array .long), (.array .long), (.array .int), (.array .int), (.array .long), (.array .int), (.array .long), (.array .int), .int, (.array .int), (.array .int), .int, (.array .long), (.array .long), (.array .long), (.array .int), (.array .int), (.array .int), (.array .int), .int, .int, (.array .int), (.array .int), (.array .int), (.array .int), (.array .int), (.array .int), .boolean, (.array .int), (.array .int), .int, (.array .int), (.array .int), .int, .long, (.array .int), (.array .long)]
  staticTypes := #[.int, .int, .int]
  resolved := Array.replicate 522 none
  statics := none }

def pool4 : Array CpInfo := pool [(2, .class_ 4), (1, u "java/lang/Object"), (0, u "<init>"), (0, u "()V"), (6, .class_ 14), (0, u "evenkeel/group/Scratch"), (2, u "atLeast"), (0, u "([II)[I"), (3, u "([JI)[J")] 11

def k4m0 : Method := { name := "<init>", desc := "()V", sig := { parameters := [], returnType := none }, accessFlags := 2, code := none }
def k4c1 : Code := { maxStack := 2, maxLocals := 2, code := prog_95_method_2_code, exceptionTable := #[], attributes := #[] }
def k4m1 : Method := { name := "atLeast", desc := "([II)[I", sig := { parameters := [(.array .int), .int], returnType := some (.array .int) }, accessFlags := 8, code := some k4c1 }
def k4c2 : Code := { maxStack := 2, maxLocals := 2, code := prog_95_method_3_code, exceptionTable := #[], attributes := #[] }
def k4m2 : Method := { name := "atLeast", desc := "([JI)[J", sig := { parameters := [(.array .long), .int], returnType := some (.array .long) }, accessFlags := 8, code := some k4c2 }
/-- evenkeel/group/Scratch -/
def k4 : Class := { plain "evenkeel/group/Scratch" (some 0) with
  accessFlags := 48
  interfaces := #[]
  cf := some (fileOf pool4 13 #[] #[{ accessFlags := 2, nameIndex := 5, descriptorIndex := 6, attributes := #[] }, { accessFlags := 8, nameIndex := 17, descriptorIndex := 18, attributes := #[] }, { accessFlags := 8, nameIndex := 17, descriptorIndex := 22, attributes := #[] }] 48 2 #[] #[])
  fields := #[]
  methods := #[k4m0, k4m1, k4m2]
  instanceTypes := #[]
  staticTypes := #[]
  resolved := Array.replicate 34 none
  statics := none }

def pool5 : Array CpInfo := pool [(2, .class_ 4), (1, u "java/lang/Object"), (0, u "<init>"), (0, u "()V"), (5, u "([IIII)V"), (0, .methodref 14 15), (0, .class_ 16), (0, .nameAndType 17 18), (0, u "java/util/Arrays"), (0, u "rangeCheck"), (0, u "(III)V"), (55, .class_ 76), (1, u "java/util/Arrays$NaturalOrder"), (36, .class_ 115), (1, u "java/util/Arrays$LegacyMergeSort"), (1, u "Z"), (257, .class_ 376), (0, u "java/util/Arrays$ArrayList"), (68, u "$assertionsDisabled"), (269, u "MIN_ARRAY_SORT_GRAN"), (0, u "I"), (2, u "INSERTIONSORT_THRESHOLD"), (120, u "fill"), (3, u "([JIIJ)V"), (130, .class_ 976), (0, u "java/util/Arrays$ArrayItr")] 52

def k5m0 : Method := { name := "<init>", desc := "()V", sig := { parameters := [], returnType := none }, accessFlags := 2, code := none }
def k5c1 : Code := { maxStack := 4, maxLocals := 3, code := jdk_65_method_30_code, exceptionTable := #[], attributes := #[] }
def k5m1 : Method := { name := "rangeCheck", desc := "(III)V", sig := { parameters := [.int, .int, .int], returnType := none }, accessFlags := 8, code := some k5c1 }
def k5c2 : Code := { maxStack := 4, maxLocals := 6, code := jdk_65_method_102_code, exceptionTable := #[], attributes := #[] }
def k5m2 : Method := { name := "fill", desc := "([JIIJ)V", sig := { parameters := [(.array .long), .int, .int, .long], returnType := none }, accessFlags := 9, code := some k5c2 }
def k5c3 : Code := { maxStack := 3, maxLocals := 5, code := jdk_65_method_104_code, exceptionTable := #[], attributes := #[] }
def k5m3 : Method := { name := "fill", desc := "([IIII)V", sig := { parameters := [(.array .int), .int, .int, .int], returnType := none }, accessFlags := 9, code := some k5c3 }
/-- java/util/Arrays -/
def k5 : Class := { plain "java/util/Arrays" (some 0) with
  accessFlags := 49
  interfaces := #[]
  cf := some (fileOf pool5 14 #[.nestMembers #[975, 375, 113, 74]] #[{ accessFlags := 2, nameIndex := 5, descriptorIndex := 6, attributes := #[] }, { accessFlags := 8, nameIndex := 17, descriptorIndex := 18, attributes := #[] }, { accessFlags := 9, nameIndex := 840, descriptorIndex := 844, attributes := #[] }, { accessFlags := 9, nameIndex := 840, descriptorIndex := 12, attributes := #[] }] 49 2 #[] #[{ accessFlags := 26, nameIndex := 715, descriptorIndex := 716, attributes := #[] }, { accessFlags := 26, nameIndex := 719, descriptorIndex := 716, attributes := #[] }, { accessFlags := 4120, nameIndex := 445, descriptorIndex := 117, attributes := #[] }])
  fields := #[{ name := "MIN_ARRAY_SORT_GRAN", type := .int, accessFlags := 26, slot := 0, constantValue := 0 }, { name := "INSERTIONSORT_THRESHOLD", type := .int, accessFlags := 26, slot := 1, constantValue := 0 }, { name := "$assertionsDisabled", type := .boolean, accessFlags := 4120, slot := 2, constantValue := 0 }]
  methods := #[k5m0, k5m1, k5m2, k5m3]
  instanceTypes := #[]
  staticTypes := #[.int, .int, .boolean]
  resolved := Array.replicate 1029 none
  statics := none }

def pool6 : Array CpInfo := pool [(2, .class_ 4), (1, u "java/lang/Object"), (0, u "<init>"), (0, u "()V"), (1, .class_ 10), (1, u "java/lang/System"), (0, u "allowSecurityManager"), (0, u "I"), (16, u "cons"), (0, u "Ljava/io/Console;"), (77, .class_ 110), (1, u "java/lang/System$CallersHolder"), (43, u "initialErrStream"), (0, u "Ljava/io/PrintStream;"), (19, u "security"), (0, u "Ljava/lang/SecurityManager;"), (31, .class_ 209), (0, u "java/lang/System$1"), (7, u "props"), (0, u "Ljava/util/Properties;"), (2, u "lineSeparator"), (0, u "Ljava/lang/String;"), (96, .class_ 321), (1, u "java/lang/System$LoggerFinder"), (5, .class_ 328), (0, u "java/lang/System$Logger"), (67, u "err"), (2, u "out"), (91, u "notSupportedJnuEncoding"), (15, u "in"), (17, u "initialIn"), (0, u "Ljava/io/InputStream;"), (35, u "bootLayer"), (0, u "Ljava/lang/ModuleLayer;"), (99, .class_ 664), (0, u "java/lang/System$2"), (9, u "NEVER"), (2, u "MAYBE"), (49, u "arraycopy"), (0, u "(Ljava/lang/Object;ILjava/lang/Object;II)V"), (72, .class_ 802), (0, u "java/lang/System$Logger$Level")] 31

def k6m0 : Method := { name := "<init>", desc := "()V", sig := { parameters := [], returnType := none }, accessFlags := 2, code := none }
def k6m1 : Method := { name := "arraycopy", desc := "(Ljava/lang/Object;ILjava/lang/Object;II)V", sig := { parameters := [(.object "java/lang/Object"), .int, (.object "java/lang/Object"), .int, .int], returnType := none }, accessFlags := 265, code := none }
/-- java/lang/System -/
def k6 : Class := { plain "java/lang/System" (some 0) with
  accessFlags := 49
  interfaces := #[]
  cf := some (fileOf pool6 8 #[.nestMembers #[319, 327, 801, 108, 663, 208]] #[{ accessFlags := 2, nameIndex := 5, descriptorIndex := 6, attributes := #[] }, { accessFlags := 265, nameIndex := 727, descriptorIndex := 728, attributes := #[] }] 49 2 #[] #[{ accessFlags := 25, nameIndex := 507, descriptorIndex := 526, attributes := #[] }, { accessFlags := 25, nameIndex := 399, descriptorIndex := 155, attributes := #[] }, { accessFlags := 25, nameIndex := 396, descriptorIndex := 155, attributes := #[] }, { accessFlags := 10, nameIndex := 525, descriptorIndex := 526, attributes := #[] }, { accessFlags := 26, nameIndex := 674, descriptorIndex := 12, attributes := #[] }, { accessFlags := 26, nameIndex := 677, descriptorIndex := 12, attributes := #[] }, { accessFlags := 10, nameIndex := 11, descriptorIndex := 12, attributes := #[] }, { accessFlags := 74, nameIndex := 175, descriptorIndex := 176, attributes := #[] }, { accessFlags := 10, nameIndex := 491, descriptorIndex := 222, attributes := #[] }, { accessFlags := 74, nameIndex := 29, descriptorIndex := 30, attributes := #[] }, { accessFlags := 74, nameIndex := 154, descriptorIndex := 155, attributes := #[] }, { accessFlags := 10, nameIndex := 217, descriptorIndex := 218, attributes := #[] }, { accessFlags := 10, nameIndex := 221, descriptorIndex := 222, attributes := #[] }, { accessFlags := 8, nameIndex := 562, descriptorIndex := 563, attributes := #[] }])
  fields := #[{ name := "in", type := (.object "java/io/InputStream"), accessFlags := 25, slot := 0, constantValue := 0 }, { name := "out", type := (.object "java/io/PrintStream"), accessFlags := 25, slot := 1, constantValue := 0 }, { name := "err", type := (.object "java/io/PrintStream"), accessFlags := 25, slot := 2, constantValue := 0 }, { name := "initialIn", type := (.object "java/io/InputStream"), accessFlags := 10, slot := 3, constantValue := 0 }, { name := "NEVER", type := .int, accessFlags := 26, slot := 4, constantValue := 0 }, { name := "MAYBE", type := .int, accessFlags := 26, slot := 5, constantValue := 0 }, { name := "allowSecurityManager", type := .int, accessFlags := 10, slot := 6, constantValue := 0 }, { name := "security", type := (.object "java/lang/SecurityManager"), accessFlags := 74, slot := 7, constantValue := 0 }, { name := "notSupportedJnuEncoding", type := (.object "java/lang/String"), accessFlags := 10, slot := 8, constantValue := 0 }, { name := "cons", type := (.object "java/io/Console"), accessFlags := 74, slot := 9, constantValue := 0 }, { name := "initialErrStream", type := (.object "java/io/PrintStream"), accessFlags := 74, slot := 10, constantValue := 0 }, { name := "props", type := (.object "java/util/Properties"), accessFlags := 10, slot := 11, constantValue := 0 }, { name := "lineSeparator", type := (.object "java/lang/String"), accessFlags := 10, slot := 12, constantValue := 0 }, { name := "bootLayer", type := (.object "java/lang/ModuleLayer"), accessFlags := 8, slot := 13, constantValue := 0 }]
  methods := #[k6m0, k6m1]
  instanceTypes := #[]
  staticTypes := #[(.object "java/io/InputStream"), (.object "java/io/PrintStream"), (.object "java/io/PrintStream"), (.object "java/io/InputStream"), .int, .int, .int, (.object "java/lang/SecurityManager"), (.object "java/lang/String"), (.object "java/io/Console"), (.object "java/io/PrintStream"), (.object "java/util/Properties"), (.object "java/lang/String"), (.object "java/lang/ModuleLayer")]
  resolved := Array.replicate 834 none
  statics := none }

def pool7 : Array CpInfo := pool [(1, .class_ 2), (0, u "java/lang/Math"), (1, .class_ 6), (1, u "java/lang/Object"), (0, u "<init>"), (0, u "()V"), (89, .class_ 100), (1, u "java/lang/Math$RandomNumberGeneratorHolder"), (20, u "(JJ)J"), (50, u "negativeZeroFloatBits"), (0, u "J"), (2, u "negativeZeroDoubleBits"), (21, u "max"), (2, u "min"), (43, u "$assertionsDisabled"), (0, u "Z"), (88, u "(II)I"), (2, u "twoToTheDoubleScaleDown"), (0, u "D"), (4, u "twoToTheDoubleScaleUp"), (9, u "E"), (3, u "PI"), (2, u "TAU"), (2, u "DEGREES_TO_RADIANS"), (0, u "RADIANS_TO_DEGREES")] 94

def k7m0 : Method := { name := "<init>", desc := "()V", sig := { parameters := [], returnType := none }, accessFlags := 2, code := none }
def k7c1 : Code := { maxStack := 4, maxLocals := 4, code := jdk_29_method_66_code, exceptionTable := #[], attributes := #[] }
def k7m1 : Method := { name := "max", desc := "(JJ)J", sig := { parameters := [.long, .long], returnType := some .long }, accessFlags := 9, code := some k7c1 }
def k7c2 : Code := { maxStack := 2, maxLocals := 2, code := jdk_29_method_69_code, exceptionTable := #[], attributes := #[] }
def k7m2 : Method := { name := "min", desc := "(II)I", sig := { parameters := [.int, .int], returnType := some .int }, accessFlags := 9, code := some k7c2 }
def k7c3 : Code := { maxStack := 4, maxLocals := 4, code := jdk_29_method_70_code, exceptionTable := #[], attributes := #[] }
def k7m3 : Method := { name := "min", desc := "(JJ)J", sig := { parameters := [.long, .long], returnType := some .long }, accessFlags := 9, code := some k7c3 }
/-- java/lang/Math -/
def k7 : Class := { plain "java/lang/Math" (some 0) with
  accessFlags := 49
  interfaces := #[]
  cf := some (fileOf pool7 1 #[.nestMembers #[98]] #[{ accessFlags := 2, nameIndex := 7, descriptorIndex := 8, attributes := #[] }, { accessFlags := 9, nameIndex := 198, descriptorIndex := 121, attributes := #[] }, { accessFlags := 9, nameIndex := 201, descriptorIndex := 335, attributes := #[] }, { accessFlags := 9, nameIndex := 201, descriptorIndex := 121, attributes := #[] }] 49 4 #[] #[{ accessFlags := 25, nameIndex := 354, descriptorIndex := 339, attributes := #[] }, { accessFlags := 25, nameIndex := 358, descriptorIndex := 339, attributes := #[] }, { accessFlags := 25, nameIndex := 361, descriptorIndex := 339, attributes := #[] }, { accessFlags := 26, nameIndex := 364, descriptorIndex := 339, attributes := #[] }, { accessFlags := 26, nameIndex := 365, descriptorIndex := 339, attributes := #[] }, { accessFlags := 26, nameIndex := 172, descriptorIndex := 173, attributes := #[] }, { accessFlags := 26, nameIndex := 176, descriptorIndex := 173, attributes := #[] }, { accessFlags := 8, nameIndex := 344, descriptorIndex := 339, attributes := #[] }, { accessFlags := 8, nameIndex := 338, descriptorIndex := 339, attributes := #[] }, { accessFlags := 4120, nameIndex := 245, descriptorIndex := 246, attributes := #[] }])
  fields := #[{ name := "E", type := .double, accessFlags := 25, slot := 0, constantValue := 0 }, { name := "PI", type := .double, accessFlags := 25, slot := 1, constantValue := 0 }, { name := "TAU", type := .double, accessFlags := 25, slot := 2, constantValue := 0 }, { name := "DEGREES_TO_RADIANS", type := .double, accessFlags := 26, slot := 3, constantValue := 0 }, { name := "RADIANS_TO_DEGREES", type := .double, accessFlags := 26, slot := 4, constantValue := 0 }, { name := "negativeZeroFloatBits", type := .long, accessFlags := 26, slot := 5, constantValue := 0 }, { name := "negativeZeroDoubleBits", type := .long, accessFlags := 26, slot := 6, constantValue := 0 }, { name := "twoToTheDoubleScaleUp", type := .double, accessFlags := 8, slot := 7, constantValue := 0 }, { name := "twoToTheDoubleScaleDown", type := .double, accessFlags := 8, slot := 8, constantValue := 0 }, { name := "$assertionsDisabled", type := .boolean, accessFlags := 4120, slot := 9, constantValue := 0 }]
  methods := #[k7m0, k7m1, k7m2, k7m3]
  instanceTypes := #[]
  staticTypes := #[.double, .double, .double, .double, .double, .long, .long, .double, .double, .boolean]
  resolved := Array.replicate 460 none
  statics := none }

def pool8 : Array CpInfo := pool [(1, u "java/lang/Cloneable"), (0, .class_ 1), (0, u "java/lang/Object"), (0, .class_ 3)] 3

/-- java/lang/Cloneable -/
def k8 : Class := { plain "java/lang/Cloneable" (some 0) with
  accessFlags := 1537
  interfaces := #[]
  cf := some (fileOf pool8 2 #[] #[] 1537 4 #[] #[])
  fields := #[]
  methods := #[]
  instanceTypes := #[]
  staticTypes := #[]
  resolved := Array.replicate 8 none
  statics := none }

def pool9 : Array CpInfo := pool [(1, u "java/io/Serializable"), (0, .class_ 1), (0, u "java/lang/Object"), (0, .class_ 3)] 3

/-- java/io/Serializable -/
def k9 : Class := { plain "java/io/Serializable" (some 0) with
  accessFlags := 1537
  interfaces := #[]
  cf := some (fileOf pool9 2 #[] #[] 1537 4 #[] #[])
  fields := #[]
  methods := #[]
  instanceTypes := #[]
  staticTypes := #[]
  resolved := Array.replicate 8 none
  statics := none }

/-- the primitive byte -/
def k10 : Class := { plain "byte" none with kind := .primitive 'B', accessFlags := 0x411 }
/-- [B -/
def k11 : Class := { plain "[B" (some 0) with kind := .array 10 .byte, interfaces := #[8, 9], accessFlags := 1041 }

/-- the primitive int -/
def k12 : Class := { plain "int" none with kind := .primitive 'I', accessFlags := 0x411 }
/-- [I -/
def k13 : Class := { plain "[I" (some 0) with kind := .array 12 .int, interfaces := #[8, 9], accessFlags := 1041 }

/-- the primitive long -/
def k14 : Class := { plain "long" none with kind := .primitive 'J', accessFlags := 0x411 }
/-- [J -/
def k15 : Class := { plain "[J" (some 0) with kind := .array 14 .long, interfaces := #[8, 9], accessFlags := 1041 }

def heap : Heap := #[]
def classes : Array Class := #[k0, k1, k2, k3, k4, k5, k6, k7, k8, k9, k10, k11, k12, k13, k14, k15]
def interned : List (Array UInt16 × Addr) := []
def slotsUsed : Nat := 0
def theMethod : MethodId := ⟨1, 1⟩
def args0 : Array Value := #[.int 5, .int 5, .int 5, .int 5, .int 5, .int 5]
def aboutOver (below : List Frame) : State where
  vm := { classes := classes, interned := interned.toArray }
  heap := heap
  slotsUsed := slotsUsed
  threads := #[{ frames := .invoking theMethod args0 :: below }]
def below0 : List Frame := [.native { method := ⟨0, 0⟩, args := #[] }]
def about1 : State := aboutOver below0
def p0 : Program := .bare "" "" ""
def e0 : Env := launch0.env 0 0 0
theorem w_frames : about1.frames = Frame.invoking theMethod args0 :: below0 := rfl
set_option maxRecDepth 65536 in
theorem w_args : argsFit about1.vm theMethod args0 = true := by decide +kernel
set_option maxRecDepth 65536 in
theorem w_heap : heapFits about1 = true := by decide +kernel
set_option maxRecDepth 65536 in
theorem w_runnable : about1.curStatus? = some .runnable := by decide +kernel
set_option maxRecDepth 65536 in
theorem w_alone : about1.alone = true := by decide +kernel
set_option maxRecDepth 65536 in
theorem w_named : about1.methodNamed? x = some theMethod := by decide +kernel
set_option maxRecDepth 65536 in
theorem w_hears : about1.hears theMethod below0 = true := by decide +kernel
set_option maxRecDepth 65536 in
theorem w_ripe : about1.ripe theMethod args0 below0 = true := by decide +kernel
theorem w_running : about1.status = .running := rfl
set_option maxRecDepth 65536 in
theorem w_room : about1.hasRoom e0.platform room_1 = true :=
  launch0.hasRoom_least _ room_1 (by decide +kernel) (by decide +kernel) (by decide +kernel) (by decide +kernel) (by decide +kernel) (by decide +kernel)
theorem allAtoms_all (ts : List Jvm.Cond) (a : Array Jvm.Value) (st : Jvm.State) : (allAtoms ts).before a st = ts.all (fun c => c.before a st) := by
  induction ts with
  | nil => rfl
  | cons c t ih =>
    show (Jvm.Cond.and c (allAtoms t)).before a st = _
    rw [Jvm.Cond.before_and, ih, List.all_cons]
def words1 : List Jvm.Cond := Jvm.Cond.code x code maxLocals ret :: tables_1
/-- a 'code' word, met by the world's own term for the bytes: nothing is compared byte by byte -/
theorem code_word {y : MethodName} {bytes : ByteArray} {mx : Nat} {rt : Option FieldType} {a : Array Value} {s : State} {m : MethodId} {meth : Method} {c : Code} (h1 : s.methodNamed? y = some m) (h2 : s.vm.method? m = some meth) (h3 : meth.code = some c) (h4 : c.code = bytes)
    (h5 : (c.maxLocals == mx && c.exceptionTable.isEmpty && decide (c.maxStack ≤ mostOperands) && decide (meth.sig.returnType = rt) && !meth.locks && decide (parseMethodDescriptor y.desc = some meth.sig)) = true) : (Jvm.Cond.code y bytes mx rt).before a s = true := by
  simp only [Bool.and_eq_true, beq_iff_eq, Bool.not_eq_true', decide_eq_true_eq] at h5
  obtain ⟨⟨⟨⟨⟨g1, g2⟩, g3⟩, g4⟩, g5⟩, g6⟩ := h5
  simp [Cond.before, Cond.holds, Cond.value, h1, h2, h3, h4, g1, g2, g3, g4, g5, g6]
def isCode : Jvm.Cond → Bool
  | .code _ _ _ _ => true
  | _ => false
theorem all_split {L : List Jvm.Cond} {P : Jvm.Cond → Bool} (h1 : L.all (fun c => isCode c || P c) = true) (h2 : ∀ c ∈ L.filter isCode, P c = true) : L.all P = true := by
  refine List.all_eq_true.mpr fun c hc => ?_
  have h := List.all_eq_true.mp h1 c hc
  rcases Bool.eq_false_or_eq_true (isCode c) with hi | hi
  · exact h2 c (List.mem_filter.mpr ⟨hc, hi⟩)
  · simpa [hi] using h
set_option maxRecDepth 65536 in
theorem w_c0 : (Jvm.Cond.code x code maxLocals ret).before args0 about1 = true := code_word (m := ⟨1, 1⟩) (meth := k1m1) (c := k1c1) (by decide +kernel) rfl rfl rfl (by decide +kernel)
set_option maxRecDepth 65536 in
theorem w_c1 : (Jvm.Cond.code ({ cls := "evenkeel/group/SpreadSearch", name := "<init>", desc := "()V" } : Jvm.MethodName) prog_98_method_1_code (1 : Nat) (Option.none : Option Jvm.ClassFile.FieldType)).before args0 about1 = true := code_word (m := ⟨3, 0⟩) (meth := k3m0) (c := k3c0) (by decide +kernel) rfl rfl rfl (by decide +kernel)
set_option maxRecDepth 65536 in
theorem w_c2 : (Jvm.Cond.code ({ cls := "evenkeel/group/MinCostFlow", name := "<init>", desc := "()V" } : Jvm.MethodName) prog_76_method_1_code (1 : Nat) (Option.none : Option Jvm.ClassFile.FieldType)).before args0 about1 = true := code_word (m := ⟨2, 0⟩) (meth := k2m0) (c := k2c0) (by decide +kernel) rfl rfl rfl (by decide +kernel)
set_option maxRecDepth 65536 in
theorem w_c3 : (Jvm.Cond.code ({ cls := "java/lang/Object", name := "<init>", desc := "()V" } : Jvm.MethodName) object_method_1_code (1 : Nat) (Option.none : Option Jvm.ClassFile.FieldType)).before args0 about1 = true := code_word (m := ⟨0, 0⟩) (meth := k0m0) (c := k0c0) (by decide +kernel) rfl rfl rfl (by decide +kernel)
set_option maxRecDepth 65536 in
theorem w_c4 : (Jvm.Cond.code ({ cls := "evenkeel/group/SpreadSearch", name := "spreadAtLevels", desc := "(II[I[I[I[I[I[J[J[I)Z" } : Jvm.MethodName) prog_98_method_6_code (11 : Nat) (Option.some Jvm.ClassFile.FieldType.boolean)).before args0 about1 = true := code_word (m := ⟨3, 2⟩) (meth := k3m2) (c := k3c2) (by decide +kernel) rfl rfl rfl (by decide +kernel)
set_option maxRecDepth 65536 in
theorem w_c5 : (Jvm.Cond.code ({ cls := "evenkeel/group/SpreadSearch", name := "spreadAtLevels", desc := "(II[I[I[I[I[I[J[J[I[Z)Z" } : Jvm.MethodName) prog_98_method_7_code (13 : Nat) (Option.some Jvm.ClassFile.FieldType.boolean)).before args0 about1 = true := code_word (m := ⟨3, 3⟩) (meth := k3m3) (c := k3c3) (by decide +kernel) rfl rfl rfl (by decide +kernel)
set_option maxRecDepth 65536 in
theorem w_c6 : (Jvm.Cond.code ({ cls := "evenkeel/group/SpreadSearch", name := "setUp", desc := "(II[I[I[I[I[I[I[ZZ)V" } : Jvm.MethodName) prog_98_method_20_code (11 : Nat) (Option.none : Option Jvm.ClassFile.FieldType)).before args0 about1 = true := code_word (m := ⟨3, 5⟩) (meth := k3m5) (c := k3c5) (by decide +kernel) rfl rfl rfl (by decide +kernel)
set_option maxRecDepth 65536 in
theorem w_c7 : (Jvm.Cond.code ({ cls := "evenkeel/group/MinCostFlow", name := "layOut", desc := "(I)V" } : Jvm.MethodName) prog_76_method_2_code (2 : Nat) (Option.none : Option Jvm.ClassFile.FieldType)).before args0 about1 = true := code_word (m := ⟨2, 1⟩) (meth := k2m1) (c := k2c1) (by decide +kernel) rfl rfl rfl (by decide +kernel)
set_option maxRecDepth 65536 in
theorem w_c8 : (Jvm.Cond.code ({ cls := "evenkeel/group/Scratch", name := "atLeast", desc := "([JI)[J" } : Jvm.MethodName) prog_95_method_3_code (2 : Nat) (Option.some (Jvm.ClassFile.FieldType.array Jvm.ClassFile.FieldType.long))).before args0 about1 = true := code_word (m := ⟨4, 2⟩) (meth := k4m2) (c := k4c2) (by decide +kernel) rfl rfl rfl (by decide +kernel)
set_option maxRecDepth 65536 in
theorem w_c9 : (Jvm.Cond.code ({ cls := "java/util/Arrays", name := "fill", desc := "([JIIJ)V" } : Jvm.MethodName) jdk_65_method_102_code (6 : Nat) (Option.none : Option Jvm.ClassFile.FieldType)).before args0 about1 = true := code_word (m := ⟨5, 2⟩) (meth := k5m2) (c := k5c2) (by decide +kernel) rfl rfl rfl (by decide +kernel)
set_option maxRecDepth 65536 in
theorem w_c10 : (Jvm.Cond.code ({ cls := "java/util/Arrays", name := "rangeCheck", desc := "(III)V" } : Jvm.MethodName) jdk_65_method_30_code (3 : Nat) (Option.none : Option Jvm.ClassFile.FieldType)).before args0 about1 = true := code_word (m := ⟨5, 1⟩) (meth := k5m1) (c := k5c1) (by decide +kernel) rfl rfl rfl (by decide +kernel)
set_option maxRecDepth 65536 in
theorem w_c11 : (Jvm.Cond.code ({ cls := "evenkeel/group/SpreadSearch", name := "makeRoom", desc := "()V" } : Jvm.MethodName) prog_98_method_29_code (1 : Nat) (Option.none : Option Jvm.ClassFile.FieldType)).before args0 about1 = true := code_word (m := ⟨3, 6⟩) (meth := k3m6) (c := k3c6) (by decide +kernel) rfl rfl rfl (by decide +kernel)
set_option maxRecDepth 65536 in
theorem w_c12 : (Jvm.Cond.code ({ cls := "evenkeel/group/SpreadSearch", name := "indexRows", desc := "()V" } : Jvm.MethodName) prog_98_method_30_code (3 : Nat) (Option.none : Option Jvm.ClassFile.FieldType)).before args0 about1 = true := code_word (m := ⟨3, 7⟩) (meth := k3m7) (c := k3c7) (by decide +kernel) rfl rfl rfl (by decide +kernel)
set_option maxRecDepth 65536 in
theorem w_c13 : (Jvm.Cond.code ({ cls := "java/util/Arrays", name := "fill", desc := "([IIII)V" } : Jvm.MethodName) jdk_65_method_104_code (5 : Nat) (Option.none : Option Jvm.ClassFile.FieldType)).before args0 about1 = true := code_word (m := ⟨5, 3⟩) (meth := k5m3) (c := k5c3) (by decide +kernel) rfl rfl rfl (by decide +kernel)
set_option maxRecDepth 65536 in
theorem w_c14 : (Jvm.Cond.code ({ cls := "evenkeel/group/SpreadSearch", name := "indexColumn", desc := "(I[I)V" } : Jvm.MethodName) prog_98_method_31_code (4 : Nat) (Option.none : Option Jvm.ClassFile.FieldType)).before args0 about1 = true := code_word (m := ⟨3, 8⟩) (meth := k3m8) (c := k3c8) (by decide +kernel) rfl rfl rfl (by decide +kernel)
set_option maxRecDepth 65536 in
theorem w_c15 : (Jvm.Cond.code ({ cls := "evenkeel/group/SpreadSearch", name := "balances", desc := "([J[J)Z" } : Jvm.MethodName) prog_98_method_15_code (6 : Nat) (Option.some Jvm.ClassFile.FieldType.boolean)).before args0 about1 = true := code_word (m := ⟨3, 4⟩) (meth := k3m4) (c := k3c4) (by decide +kernel) rfl rfl rfl (by decide +kernel)
set_option maxRecDepth 65536 in
theorem w_c16 : (Jvm.Cond.code ({ cls := "evenkeel/group/SpreadSearch", name := "findLevels", desc := "([J)Z" } : Jvm.MethodName) prog_98_method_37_code (3 : Nat) (Option.some Jvm.ClassFile.FieldType.boolean)).before args0 about1 = true := code_word (m := ⟨3, 9⟩) (meth := k3m9) (c := k3c9) (by decide +kernel) rfl rfl rfl (by decide +kernel)
set_option maxRecDepth 65536 in
theorem w_c17 : (Jvm.Cond.code ({ cls := "evenkeel/group/SpreadSearch", name := "findLevel", desc := "(IJ)Z" } : Jvm.MethodName) prog_98_method_38_code (25 : Nat) (Option.some Jvm.ClassFile.FieldType.boolean)).before args0 about1 = true := code_word (m := ⟨3, 10⟩) (meth := k3m10) (c := k3c10) (by decide +kernel) rfl rfl rfl (by decide +kernel)
set_option maxRecDepth 65536 in
theorem w_c18 : (Jvm.Cond.code ({ cls := "evenkeel/group/SpreadSearch", name := "searchLevels", desc := "([J)V" } : Jvm.MethodName) prog_98_method_41_code (9 : Nat) (Option.none : Option Jvm.ClassFile.FieldType)).before args0 about1 = true := code_word (m := ⟨3, 11⟩) (meth := k3m11) (c := k3c11) (by decide +kernel) rfl rfl rfl (by decide +kernel)
set_option maxRecDepth 65536 in
theorem w_c19 : (Jvm.Cond.code ({ cls := "evenkeel/group/SpreadSearch", name := "placeLeft", desc := "([J)Z" } : Jvm.MethodName) prog_98_method_42_code (5 : Nat) (Option.some Jvm.ClassFile.FieldType.boolean)).before args0 about1 = true := code_word (m := ⟨3, 12⟩) (meth := k3m12) (c := k3c12) (by decide +kernel) rfl rfl rfl (by decide +kernel)
set_option maxRecDepth 65536 in
theorem w_c20 : (Jvm.Cond.code ({ cls := "evenkeel/group/Scratch", name := "atLeast", desc := "([II)[I" } : Jvm.MethodName) prog_95_method_2_code (2 : Nat) (Option.some (Jvm.ClassFile.FieldType.array Jvm.ClassFile.FieldType.int))).before args0 about1 = true := code_word (m := ⟨4, 1⟩) (meth := k4m1) (c := k4c1) (by decide +kernel) rfl rfl rfl (by decide +kernel)
set_option maxRecDepth 65536 in
theorem w_c21 : (Jvm.Cond.code ({ cls := "evenkeel/group/SpreadSearch", name := "fillColumn", desc := "(I[JI)I" } : Jvm.MethodName) prog_98_method_43_code (8 : Nat) (Option.some Jvm.ClassFile.FieldType.int)).before args0 about1 = true := code_word (m := ⟨3, 13⟩) (meth := k3m13) (c := k3c13) (by decide +kernel) rfl rfl rfl (by decide +kernel)
set_option maxRecDepth 65536 in
theorem w_c22 : (Jvm.Cond.code ({ cls := "java/lang/Math", name := "min", desc := "(II)I" } : Jvm.MethodName) jdk_29_method_69_code (2 : Nat) (Option.some Jvm.ClassFile.FieldType.int)).before args0 about1 = true := code_word (m := ⟨7, 2⟩) (meth := k7m2) (c := k7c2) (by decide +kernel) rfl rfl rfl (by decide +kernel)
set_option maxRecDepth 65536 in
theorem w_c23 : (Jvm.Cond.code ({ cls := "evenkeel/group/SpreadSearch", name := "fillCells", desc := "(III[JI)I" } : Jvm.MethodName) prog_98_method_44_code (33 : Nat) (Option.some Jvm.ClassFile.FieldType.int)).before args0 about1 = true := code_word (m := ⟨3, 14⟩) (meth := k3m14) (c := k3c14) (by decide +kernel) rfl rfl rfl (by decide +kernel)
set_option maxRecDepth 65536 in
theorem w_c24 : (Jvm.Cond.code ({ cls := "evenkeel/group/SpreadSearch", name := "placeInColumns", desc := "()V" } : Jvm.MethodName) prog_98_method_45_code (3 : Nat) (Option.none : Option Jvm.ClassFile.FieldType)).before args0 about1 = true := code_word (m := ⟨3, 15⟩) (meth := k3m15) (c := k3c15) (by decide +kernel) rfl rfl rfl (by decide +kernel)
set_option maxRecDepth 65536 in
theorem w_c25 : (Jvm.Cond.code ({ cls := "evenkeel/group/SpreadSearch", name := "placeInColumn", desc := "(II)I" } : Jvm.MethodName) prog_98_method_46_code (11 : Nat) (Option.some Jvm.ClassFile.FieldType.int)).before args0 about1 = true := code_word (m := ⟨3, 16⟩) (meth := k3m16) (c := k3c16) (by decide +kernel) rfl rfl rfl (by decide +kernel)
set_option maxRecDepth 65536 in
theorem w_c26 : (Jvm.Cond.code ({ cls := "evenkeel/group/SpreadSearch", name := "unitCost", desc := "(JI)J" } : Jvm.MethodName) prog_98_method_2_code (3 : Nat) (Option.some Jvm.ClassFile.FieldType.long)).before args0 about1 = true := code_word (m := ⟨3, 1⟩) (meth := k3m1) (c := k3c1) (by decide +kernel) rfl rfl rfl (by decide +kernel)
set_option maxRecDepth 65536 in
theorem w_c27 : (Jvm.Cond.code ({ cls := "evenkeel/group/SpreadSearch", name := "spreadWhatIsLeft", desc := "()Z" } : Jvm.MethodName) prog_98_method_50_code (5 : Nat) (Option.some Jvm.ClassFile.FieldType.boolean)).before args0 about1 = true := code_word (m := ⟨3, 19⟩) (meth := k3m19) (c := k3c19) (by decide +kernel) rfl rfl rfl (by decide +kernel)
set_option maxRecDepth 65536 in
theorem w_c28 : (Jvm.Cond.code ({ cls := "evenkeel/group/SpreadSearch", name := "listPlacing", desc := "()V" } : Jvm.MethodName) prog_98_method_51_code (2 : Nat) (Option.none : Option Jvm.ClassFile.FieldType)).before args0 about1 = true := code_word (m := ⟨3, 20⟩) (meth := k3m20) (c := k3c20) (by decide +kernel) rfl rfl rfl (by decide +kernel)
set_option maxRecDepth 65536 in
theorem w_c29 : (Jvm.Cond.code ({ cls := "evenkeel/group/SpreadSearch", name := "startPlacing", desc := "()V" } : Jvm.MethodName) prog_98_method_55_code (2 : Nat) (Option.none : Option Jvm.ClassFile.FieldType)).before args0 about1 = true := code_word (m := ⟨3, 24⟩) (meth := k3m24) (c := k3c24) (by decide +kernel) rfl rfl rfl (by decide +kernel)
set_option maxRecDepth 65536 in
theorem w_c30 : (Jvm.Cond.code ({ cls := "evenkeel/group/SpreadSearch", name := "countOpenIn", desc := "(I)V" } : Jvm.MethodName) prog_98_method_52_code (7 : Nat) (Option.none : Option Jvm.ClassFile.FieldType)).before args0 about1 = true := code_word (m := ⟨3, 21⟩) (meth := k3m21) (c := k3c21) (by decide +kernel) rfl rfl rfl (by decide +kernel)
set_option maxRecDepth 65536 in
theorem w_c31 : (Jvm.Cond.code ({ cls := "evenkeel/group/SpreadSearch", name := "placedCell", desc := "(II)I" } : Jvm.MethodName) prog_98_method_54_code (4 : Nat) (Option.some Jvm.ClassFile.FieldType.int)).before args0 about1 = true := code_word (m := ⟨3, 23⟩) (meth := k3m23) (c := k3c23) (by decide +kernel) rfl rfl rfl (by decide +kernel)
set_option maxRecDepth 65536 in
theorem w_c32 : (Jvm.Cond.code ({ cls := "evenkeel/group/SpreadSearch", name := "spreadIn", desc := "(I)V" } : Jvm.MethodName) prog_98_method_53_code (7 : Nat) (Option.none : Option Jvm.ClassFile.FieldType)).before args0 about1 = true := code_word (m := ⟨3, 22⟩) (meth := k3m22) (c := k3c22) (by decide +kernel) rfl rfl rfl (by decide +kernel)
set_option maxRecDepth 65536 in
theorem w_c33 : (Jvm.Cond.code ({ cls := "evenkeel/group/SpreadSearch", name := "placeIn", desc := "(IIIJ)V" } : Jvm.MethodName) prog_98_method_49_code (12 : Nat) (Option.none : Option Jvm.ClassFile.FieldType)).before args0 about1 = true := code_word (m := ⟨3, 18⟩) (meth := k3m18) (c := k3c18) (by decide +kernel) rfl rfl rfl (by decide +kernel)
set_option maxRecDepth 65536 in
theorem w_c34 : (Jvm.Cond.code ({ cls := "java/lang/Math", name := "max", desc := "(JJ)J" } : Jvm.MethodName) jdk_29_method_66_code (4 : Nat) (Option.some Jvm.ClassFile.FieldType.long)).before args0 about1 = true := code_word (m := ⟨7, 1⟩) (meth := k7m1) (c := k7c1) (by decide +kernel) rfl rfl rfl (by decide +kernel)
set_option maxRecDepth 65536 in
theorem w_c35 : (Jvm.Cond.code ({ cls := "evenkeel/group/SpreadSearch", name := "listOpenCells", desc := "()V" } : Jvm.MethodName) prog_98_method_56_code (2 : Nat) (Option.none : Option Jvm.ClassFile.FieldType)).before args0 about1 = true := code_word (m := ⟨3, 25⟩) (meth := k3m25) (c := k3c25) (by decide +kernel) rfl rfl rfl (by decide +kernel)
set_option maxRecDepth 65536 in
theorem w_c36 : (Jvm.Cond.code ({ cls := "evenkeel/group/SpreadSearch", name := "makeTightRoom", desc := "(I)V" } : Jvm.MethodName) prog_98_method_59_code (2 : Nat) (Option.none : Option Jvm.ClassFile.FieldType)).before args0 about1 = true := code_word (m := ⟨3, 28⟩) (meth := k3m28) (c := k3c28) (by decide +kernel) rfl rfl rfl (by decide +kernel)
set_option maxRecDepth 65536 in
theorem w_c37 : (Jvm.Cond.code ({ cls := "evenkeel/group/SpreadSearch", name := "listOpenIn", desc := "(I)V" } : Jvm.MethodName) prog_98_method_57_code (4 : Nat) (Option.none : Option Jvm.ClassFile.FieldType)).before args0 about1 = true := code_word (m := ⟨3, 26⟩) (meth := k3m26) (c := k3c26) (by decide +kernel) rfl rfl rfl (by decide +kernel)
set_option maxRecDepth 65536 in
theorem w_c38 : (Jvm.Cond.code ({ cls := "evenkeel/group/SpreadSearch", name := "addTight", desc := "(IJ)V" } : Jvm.MethodName) prog_98_method_58_code (5 : Nat) (Option.none : Option Jvm.ClassFile.FieldType)).before args0 about1 = true := code_word (m := ⟨3, 27⟩) (meth := k3m27) (c := k3c27) (by decide +kernel) rfl rfl rfl (by decide +kernel)
set_option maxRecDepth 65536 in
theorem w_c39 : (Jvm.Cond.code ({ cls := "java/lang/Math", name := "min", desc := "(JJ)J" } : Jvm.MethodName) jdk_29_method_70_code (4 : Nat) (Option.some Jvm.ClassFile.FieldType.long)).before args0 about1 = true := code_word (m := ⟨7, 3⟩) (meth := k7m3) (c := k7c3) (by decide +kernel) rfl rfl rfl (by decide +kernel)
set_option maxRecDepth 65536 in
theorem w_c40 : (Jvm.Cond.code ({ cls := "evenkeel/group/SpreadSearch", name := "indexTightCells", desc := "()V" } : Jvm.MethodName) prog_98_method_60_code (2 : Nat) (Option.none : Option Jvm.ClassFile.FieldType)).before args0 about1 = true := code_word (m := ⟨3, 29⟩) (meth := k3m29) (c := k3c29) (by decide +kernel) rfl rfl rfl (by decide +kernel)
set_option maxRecDepth 65536 in
theorem w_c41 : (Jvm.Cond.code ({ cls := "evenkeel/group/MinCostFlow", name := "moveAlongShortestPaths", desc := "()V" } : Jvm.MethodName) prog_76_method_12_code (2 : Nat) (Option.none : Option Jvm.ClassFile.FieldType)).before args0 about1 = true := code_word (m := ⟨2, 3⟩) (meth := k2m3) (c := k2c3) (by decide +kernel) rfl rfl rfl (by decide +kernel)
set_option maxRecDepth 65536 in
theorem w_c42 : (Jvm.Cond.code ({ cls := "evenkeel/group/MinCostFlow", name := "sweep", desc := "()Z" } : Jvm.MethodName) prog_76_method_13_code (5 : Nat) (Option.some Jvm.ClassFile.FieldType.boolean)).before args0 about1 = true := code_word (m := ⟨2, 4⟩) (meth := k2m4) (c := k2c4) (by decide +kernel) rfl rfl rfl (by decide +kernel)
set_option maxRecDepth 65536 in
theorem w_c43 : (Jvm.Cond.code ({ cls := "evenkeel/group/SpreadSearch", name := "arcsByHead", desc := "()Z" } : Jvm.MethodName) prog_98_method_78_code (1 : Nat) (Option.some Jvm.ClassFile.FieldType.boolean)).before args0 about1 = true := code_word (m := ⟨3, 33⟩) (meth := k3m33) (c := k3c33) (by decide +kernel) rfl rfl rfl (by decide +kernel)
set_option maxRecDepth 65536 in
theorem w_c44 : (Jvm.Cond.code ({ cls := "evenkeel/group/MinCostFlow", name := "readySweep", desc := "(Z)V" } : Jvm.MethodName) prog_76_method_4_code (3 : Nat) (Option.none : Option Jvm.ClassFile.FieldType)).before args0 about1 = true := code_word (m := ⟨2, 2⟩) (meth := k2m2) (c := k2c2) (by decide +kernel) rfl rfl rfl (by decide +kernel)
set_option maxRecDepth 65536 in
theorem w_c45 : (Jvm.Cond.code ({ cls := "evenkeel/group/MinCostFlow", name := "levelGraph", desc := "()Z" } : Jvm.MethodName) prog_76_method_16_code (4 : Nat) (Option.some Jvm.ClassFile.FieldType.boolean)).before args0 about1 = true := code_word (m := ⟨2, 5⟩) (meth := k2m5) (c := k2c5) (by decide +kernel) rfl rfl rfl (by decide +kernel)
set_option maxRecDepth 65536 in
theorem w_c46 : (Jvm.Cond.code ({ cls := "evenkeel/group/MinCostFlow", name := "anyRoomToSink", desc := "()Z" } : Jvm.MethodName) prog_76_method_17_code (1 : Nat) (Option.some Jvm.ClassFile.FieldType.boolean)).before args0 about1 = true := code_word (m := ⟨2, 6⟩) (meth := k2m6) (c := k2c6) (by decide +kernel) rfl rfl rfl (by decide +kernel)
set_option maxRecDepth 65536 in
theorem w_c47 : (Jvm.Cond.code ({ cls := "evenkeel/group/SpreadSearch", name := "levelArcsOf", desc := "(I[II)I" } : Jvm.MethodName) prog_98_method_69_code (6 : Nat) (Option.some Jvm.ClassFile.FieldType.int)).before args0 about1 = true := code_word (m := ⟨3, 30⟩) (meth := k3m30) (c := k3c30) (by decide +kernel) rfl rfl rfl (by decide +kernel)
set_option maxRecDepth 65536 in
theorem w_c48 : (Jvm.Cond.code ({ cls := "evenkeel/group/MinCostFlow", name := "levelArcsOf", desc := "(I[II)I" } : Jvm.MethodName) prog_76_method_18_code (8 : Nat) (Option.some Jvm.ClassFile.FieldType.int)).before args0 about1 = true := code_word (m := ⟨2, 7⟩) (meth := k2m7) (c := k2c7) (by decide +kernel) rfl rfl rfl (by decide +kernel)
set_option maxRecDepth 65536 in
theorem w_c49 : (Jvm.Cond.code ({ cls := "evenkeel/group/SpreadSearch", name := "arcs", desc := "(I)I" } : Jvm.MethodName) prog_98_method_76_code (2 : Nat) (Option.some Jvm.ClassFile.FieldType.int)).before args0 about1 = true := code_word (m := ⟨3, 31⟩) (meth := k3m31) (c := k3c31) (by decide +kernel) rfl rfl rfl (by decide +kernel)
set_option maxRecDepth 65536 in
theorem w_c50 : (Jvm.Cond.code ({ cls := "evenkeel/group/SpreadSearch", name := "head", desc := "(II)I" } : Jvm.MethodName) prog_98_method_77_code (4 : Nat) (Option.some Jvm.ClassFile.FieldType.int)).before args0 about1 = true := code_word (m := ⟨3, 32⟩) (meth := k3m32) (c := k3c32) (by decide +kernel) rfl rfl rfl (by decide +kernel)
set_option maxRecDepth 65536 in
theorem w_c51 : (Jvm.Cond.code ({ cls := "evenkeel/group/SpreadSearch", name := "room", desc := "(II)J" } : Jvm.MethodName) prog_98_method_81_code (4 : Nat) (Option.some Jvm.ClassFile.FieldType.long)).before args0 about1 = true := code_word (m := ⟨3, 34⟩) (meth := k3m34) (c := k3c34) (by decide +kernel) rfl rfl rfl (by decide +kernel)
set_option maxRecDepth 65536 in
theorem w_c52 : (Jvm.Cond.code ({ cls := "evenkeel/group/MinCostFlow", name := "number", desc := "(II[II)I" } : Jvm.MethodName) prog_76_method_20_code (5 : Nat) (Option.some Jvm.ClassFile.FieldType.int)).before args0 about1 = true := code_word (m := ⟨2, 8⟩) (meth := k2m8) (c := k2c8) (by decide +kernel) rfl rfl rfl (by decide +kernel)
set_option maxRecDepth 65536 in
theorem w_c53 : (Jvm.Cond.code ({ cls := "evenkeel/group/MinCostFlow", name := "leadsToSink", desc := "(I)Z" } : Jvm.MethodName) prog_76_method_21_code (2 : Nat) (Option.some Jvm.ClassFile.FieldType.boolean)).before args0 about1 = true := code_word (m := ⟨2, 9⟩) (meth := k2m9) (c := k2c9) (by decide +kernel) rfl rfl rfl (by decide +kernel)
set_option maxRecDepth 65536 in
theorem w_c54 : (Jvm.Cond.code ({ cls := "evenkeel/group/SpreadSearchMovePinLaw", name := "column", desc := "(IIZ)I" } : Jvm.MethodName) method_3_code (4 : Nat) (Option.some Jvm.ClassFile.FieldType.int)).before args0 about1 = true := code_word (m := ⟨1, 2⟩) (meth := k1m2) (c := k1c2) (by decide +kernel) rfl rfl rfl (by decide +kernel)
set_option maxRecDepth 65536 in
theorem w_c55 : (Jvm.Cond.code ({ cls := "evenkeel/group/SpreadSearchMovePinLaw", name := "node", desc := "(III)I" } : Jvm.MethodName) method_5_code (3 : Nat) (Option.some Jvm.ClassFile.FieldType.int)).before args0 about1 = true := code_word (m := ⟨1, 4⟩) (meth := k1m4) (c := k1c4) (by decide +kernel) rfl rfl rfl (by decide +kernel)
set_option maxRecDepth 65536 in
theorem w_c56 : (Jvm.Cond.code ({ cls := "evenkeel/group/SpreadSearchMovePinLaw", name := "arcIndex", desc := "(IIIZ)I" } : Jvm.MethodName) method_6_code (4 : Nat) (Option.some Jvm.ClassFile.FieldType.int)).before args0 about1 = true := code_word (m := ⟨1, 5⟩) (meth := k1m5) (c := k1c5) (by decide +kernel) rfl rfl rfl (by decide +kernel)
set_option maxRecDepth 65536 in
theorem w_c57 : (Jvm.Cond.code ({ cls := "evenkeel/group/SpreadSearch", name := "move", desc := "(III)V" } : Jvm.MethodName) prog_98_method_82_code (5 : Nat) (Option.none : Option Jvm.ClassFile.FieldType)).before args0 about1 = true := code_word (m := ⟨3, 35⟩) (meth := k3m35) (c := k3c35) (by decide +kernel) rfl rfl rfl (by decide +kernel)
set_option maxRecDepth 65536 in
theorem w_c58 : (Jvm.Cond.code ({ cls := "evenkeel/group/SpreadSearchMovePinLaw", name := "apply", desc := "([J[IIIII)V" } : Jvm.MethodName) method_7_code (6 : Nat) (Option.none : Option Jvm.ClassFile.FieldType)).before args0 about1 = true := code_word (m := ⟨1, 6⟩) (meth := k1m6) (c := k1c6) (by decide +kernel) rfl rfl rfl (by decide +kernel)
set_option maxRecDepth 65536 in
theorem w_c59 : (Jvm.Cond.code ({ cls := "evenkeel/group/SpreadSearchMovePinLaw", name := "overSeen", desc := "(Levenkeel/group/SpreadSearch;IZ)J" } : Jvm.MethodName) method_8_code (3 : Nat) (Option.some Jvm.ClassFile.FieldType.long)).before args0 about1 = true := code_word (m := ⟨1, 7⟩) (meth := k1m7) (c := k1c7) (by decide +kernel) rfl rfl rfl (by decide +kernel)
set_option maxRecDepth 65536 in
theorem w_c60 : (Jvm.Cond.code ({ cls := "evenkeel/group/SpreadSearchMovePinLaw", name := "sinkArc", desc := "(IZ)I" } : Jvm.MethodName) method_4_code (2 : Nat) (Option.some Jvm.ClassFile.FieldType.int)).before args0 about1 = true := code_word (m := ⟨1, 3⟩) (meth := k1m3) (c := k1c3) (by decide +kernel) rfl rfl rfl (by decide +kernel)
set_option maxRecDepth 65536 in
theorem w_c61 : (Jvm.Cond.code ({ cls := "evenkeel/group/SpreadSearch", name := "placeInDenseColumn", desc := "(II)I" } : Jvm.MethodName) prog_98_method_47_code (7 : Nat) (Option.some Jvm.ClassFile.FieldType.int)).before args0 about1 = true := code_word (m := ⟨3, 17⟩) (meth := k3m17) (c := k3c17) (by decide +kernel) rfl rfl rfl (by decide +kernel)
def codes1 : List Jvm.Cond := [Jvm.Cond.code x code maxLocals ret, Jvm.Cond.code ({ cls := "evenkeel/group/SpreadSearch", name := "<init>", desc := "()V" } : Jvm.MethodName) prog_98_method_1_code (1 : Nat) (Option.none : Option Jvm.ClassFile.FieldType), Jvm.Cond.code ({ cls := "evenkeel/group/MinCostFlow", name := "<init>", desc := "()V" } : Jvm.MethodName) prog_76_method_1_code (1 : Nat) (Option.none : Option Jvm.ClassFile.FieldType), Jvm.Cond.code ({ cls := "java/lang/Object", name := "<init>", desc := "()V" } : Jvm.MethodName) object_method_1_code (1 : Nat) (Option.none : Option Jvm.ClassFile.FieldType), Jvm.Cond.code ({ cls := "evenkeel/group/SpreadSearch", name := "spreadAtLevels", desc := "(II[I[I[I[I[I[J[J[I)Z" } : Jvm.MethodName) prog_98_method_6_code (11 : Nat) (Option.some Jvm.ClassFile.FieldType.boolean), Jvm.Cond.code ({ cls := "evenkeel/group/SpreadSearch", name := "spreadAtLevels", desc := "(II[I[I[I[I[I[J[J[I[Z)Z" } : Jvm.MethodName) prog_98_method_7_code (13 : Nat) (Option.some Jvm.ClassFile.FieldType.boolean), Jvm.Cond.code ({ cls := "evenkeel/group/SpreadSearch", name := "setUp", desc := "(II[I[I[I[I[I[I[ZZ)V" } : Jvm.MethodName) prog_98_method_20_code (11 : Nat) (Option.none : Option Jvm.ClassFile.FieldType), Jvm.Cond.code ({ cls := "evenkeel/group/MinCostFlow", name := "layOut", desc := "(I)V" } : Jvm.MethodName) prog_76_method_2_code (2 : Nat) (Option.none : Option Jvm.ClassFile.FieldType), Jvm.Cond.code ({ cls := "evenkeel/group/Scratch", name := "atLeast", desc := "([JI)[J" } : Jvm.MethodName) prog_95_method_3_code (2 : Nat) (Option.some (Jvm.ClassFile.FieldType.array Jvm.ClassFile.FieldType.long)), Jvm.Cond.code ({ cls := "java/util/Arrays", name := "fill", desc := "([JIIJ)V" } : Jvm.MethodName) jdk_65_method_102_code (6 : Nat) (Option.none : Option Jvm.ClassFile.FieldType), Jvm.Cond.code ({ cls := "java/util/Arrays", name := "rangeCheck", desc := "(III)V" } : Jvm.MethodName) jdk_65_method_30_code (3 : Nat) (Option.none : Option Jvm.ClassFile.FieldType), Jvm.Cond.code ({ cls := "evenkeel/group/SpreadSearch", name := "makeRoom", desc := "()V" } : Jvm.MethodName) prog_98_method_29_code (1 : Nat) (Option.none : Option Jvm.ClassFile.FieldType), Jvm.Cond.code ({ cls := "evenkeel/group/SpreadSearch", name := "indexRows", desc := "()V" } : Jvm.MethodName) prog_98_method_30_code (3 : Nat) (Option.none : Option Jvm.ClassFile.FieldType), Jvm.Cond.code ({ cls := "java/util/Arrays", name := "fill", desc := "([IIII)V" } : Jvm.MethodName) jdk_65_method_104_code (5 : Nat) (Option.none : Option Jvm.ClassFile.FieldType), Jvm.Cond.code ({ cls := "evenkeel/group/SpreadSearch", name := "indexColumn", desc := "(I[I)V" } : Jvm.MethodName) prog_98_method_31_code (4 : Nat) (Option.none : Option Jvm.ClassFile.FieldType), Jvm.Cond.code ({ cls := "evenkeel/group/SpreadSearch", name := "balances", desc := "([J[J)Z" } : Jvm.MethodName) prog_98_method_15_code (6 : Nat) (Option.some Jvm.ClassFile.FieldType.boolean), Jvm.Cond.code ({ cls := "evenkeel/group/SpreadSearch", name := "findLevels", desc := "([J)Z" } : Jvm.MethodName) prog_98_method_37_code (3 : Nat) (Option.some Jvm.ClassFile.FieldType.boolean), Jvm.Cond.code ({ cls := "evenkeel/group/SpreadSearch", name := "findLevel", desc := "(IJ)Z" } : Jvm.MethodName) prog_98_method_38_code (25 : Nat) (Option.some Jvm.ClassFile.FieldType.boolean), Jvm.Cond.code ({ cls := "evenkeel/group/SpreadSearch", name := "searchLevels", desc := "([J)V" } : Jvm.MethodName) prog_98_method_41_code (9 : Nat) (Option.none : Option Jvm.ClassFile.FieldType), Jvm.Cond.code ({ cls := "evenkeel/group/SpreadSearch", name := "placeLeft", desc := "([J)Z" } : Jvm.MethodName) prog_98_method_42_code (5 : Nat) (Option.some Jvm.ClassFile.FieldType.boolean), Jvm.Cond.code ({ cls := "evenkeel/group/Scratch", name := "atLeast", desc := "([II)[I" } : Jvm.MethodName) prog_95_method_2_code (2 : Nat) (Option.some (Jvm.ClassFile.FieldType.array Jvm.ClassFile.FieldType.int)), Jvm.Cond.code ({ cls := "evenkeel/group/SpreadSearch", name := "fillColumn", desc := "(I[JI)I" } : Jvm.MethodName) prog_98_method_43_code (8 : Nat) (Option.some Jvm.ClassFile.FieldType.int), Jvm.Cond.code ({ cls := "java/lang/Math", name := "min", desc := "(II)I" } : Jvm.MethodName) jdk_29_method_69_code (2 : Nat) (Option.some Jvm.ClassFile.FieldType.int), Jvm.Cond.code ({ cls := "evenkeel/group/SpreadSearch", name := "fillCells", desc := "(III[JI)I" } : Jvm.MethodName) prog_98_method_44_code (33 : Nat) (Option.some Jvm.ClassFile.FieldType.int), Jvm.Cond.code ({ cls := "evenkeel/group/SpreadSearch", name := "placeInColumns", desc := "()V" } : Jvm.MethodName) prog_98_method_45_code (3 : Nat) (Option.none : Option Jvm.ClassFile.FieldType), Jvm.Cond.code ({ cls := "evenkeel/group/SpreadSearch", name := "placeInColumn", desc := "(II)I" } : Jvm.MethodName) prog_98_method_46_code (11 : Nat) (Option.some Jvm.ClassFile.FieldType.int), Jvm.Cond.code ({ cls := "evenkeel/group/SpreadSearch", name := "unitCost", desc := "(JI)J" } : Jvm.MethodName) prog_98_method_2_code (3 : Nat) (Option.some Jvm.ClassFile.FieldType.long), Jvm.Cond.code ({ cls := "evenkeel/group/SpreadSearch", name := "spreadWhatIsLeft", desc := "()Z" } : Jvm.MethodName) prog_98_method_50_code (5 : Nat) (Option.some Jvm.ClassFile.FieldType.boolean), Jvm.Cond.code ({ cls := "evenkeel/group/SpreadSearch", name := "listPlacing", desc := "()V" } : Jvm.MethodName) prog_98_method_51_code (2 : Nat) (Option.none : Option Jvm.ClassFile.FieldType), Jvm.Cond.code ({ cls := "evenkeel/group/SpreadSearch", name := "startPlacing", desc := "()V" } : Jvm.MethodName) prog_98_method_55_code (2 : Nat) (Option.none : Option Jvm.ClassFile.FieldType), Jvm.Cond.code ({ cls := "evenkeel/group/SpreadSearch", name := "countOpenIn", desc := "(I)V" } : Jvm.MethodName) prog_98_method_52_code (7 : Nat) (Option.none : Option Jvm.ClassFile.FieldType), Jvm.Cond.code ({ cls := "evenkeel/group/SpreadSearch", name := "placedCell", desc := "(II)I" } : Jvm.MethodName) prog_98_method_54_code (4 : Nat) (Option.some Jvm.ClassFile.FieldType.int), Jvm.Cond.code ({ cls := "evenkeel/group/SpreadSearch", name := "spreadIn", desc := "(I)V" } : Jvm.MethodName) prog_98_method_53_code (7 : Nat) (Option.none : Option Jvm.ClassFile.FieldType), Jvm.Cond.code ({ cls := "evenkeel/group/SpreadSearch", name := "placeIn", desc := "(IIIJ)V" } : Jvm.MethodName) prog_98_method_49_code (12 : Nat) (Option.none : Option Jvm.ClassFile.FieldType), Jvm.Cond.code ({ cls := "java/lang/Math", name := "max", desc := "(JJ)J" } : Jvm.MethodName) jdk_29_method_66_code (4 : Nat) (Option.some Jvm.ClassFile.FieldType.long), Jvm.Cond.code ({ cls := "evenkeel/group/SpreadSearch", name := "listOpenCells", desc := "()V" } : Jvm.MethodName) prog_98_method_56_code (2 : Nat) (Option.none : Option Jvm.ClassFile.FieldType), Jvm.Cond.code ({ cls := "evenkeel/group/SpreadSearch", name := "makeTightRoom", desc := "(I)V" } : Jvm.MethodName) prog_98_method_59_code (2 : Nat) (Option.none : Option Jvm.ClassFile.FieldType), Jvm.Cond.code ({ cls := "evenkeel/group/SpreadSearch", name := "listOpenIn", desc := "(I)V" } : Jvm.MethodName) prog_98_method_57_code (4 : Nat) (Option.none : Option Jvm.ClassFile.FieldType), Jvm.Cond.code ({ cls := "evenkeel/group/SpreadSearch", name := "addTight", desc := "(IJ)V" } : Jvm.MethodName) prog_98_method_58_code (5 : Nat) (Option.none : Option Jvm.ClassFile.FieldType), Jvm.Cond.code ({ cls := "java/lang/Math", name := "min", desc := "(JJ)J" } : Jvm.MethodName) jdk_29_method_70_code (4 : Nat) (Option.some Jvm.ClassFile.FieldType.long), Jvm.Cond.code ({ cls := "evenkeel/group/SpreadSearch", name := "indexTightCells", desc := "()V" } : Jvm.MethodName) prog_98_method_60_code (2 : Nat) (Option.none : Option Jvm.ClassFile.FieldType), Jvm.Cond.code ({ cls := "evenkeel/group/MinCostFlow", name := "moveAlongShortestPaths", desc := "()V" } : Jvm.MethodName) prog_76_method_12_code (2 : Nat) (Option.none : Option Jvm.ClassFile.FieldType), Jvm.Cond.code ({ cls := "evenkeel/group/MinCostFlow", name := "sweep", desc := "()Z" } : Jvm.MethodName) prog_76_method_13_code (5 : Nat) (Option.some Jvm.ClassFile.FieldType.boolean), Jvm.Cond.code ({ cls := "evenkeel/group/SpreadSearch", name := "arcsByHead", desc := "()Z" } : Jvm.MethodName) prog_98_method_78_code (1 : Nat) (Option.some Jvm.ClassFile.FieldType.boolean), Jvm.Cond.code ({ cls := "evenkeel/group/MinCostFlow", name := "readySweep", desc := "(Z)V" } : Jvm.MethodName) prog_76_method_4_code (3 : Nat) (Option.none : Option Jvm.ClassFile.FieldType), Jvm.Cond.code ({ cls := "evenkeel/group/MinCostFlow", name := "levelGraph", desc := "()Z" } : Jvm.MethodName) prog_76_method_16_code (4 : Nat) (Option.some Jvm.ClassFile.FieldType.boolean), Jvm.Cond.code ({ cls := "evenkeel/group/MinCostFlow", name := "anyRoomToSink", desc := "()Z" } : Jvm.MethodName) prog_76_method_17_code (1 : Nat) (Option.some Jvm.ClassFile.FieldType.boolean), Jvm.Cond.code ({ cls := "evenkeel/group/SpreadSearch", name := "levelArcsOf", desc := "(I[II)I" } : Jvm.MethodName) prog_98_method_69_code (6 : Nat) (Option.some Jvm.ClassFile.FieldType.int), Jvm.Cond.code ({ cls := "evenkeel/group/MinCostFlow", name := "levelArcsOf", desc := "(I[II)I" } : Jvm.MethodName) prog_76_method_18_code (8 : Nat) (Option.some Jvm.ClassFile.FieldType.int), Jvm.Cond.code ({ cls := "evenkeel/group/SpreadSearch", name := "arcs", desc := "(I)I" } : Jvm.MethodName) prog_98_method_76_code (2 : Nat) (Option.some Jvm.ClassFile.FieldType.int), Jvm.Cond.code ({ cls := "evenkeel/group/SpreadSearch", name := "head", desc := "(II)I" } : Jvm.MethodName) prog_98_method_77_code (4 : Nat) (Option.some Jvm.ClassFile.FieldType.int), Jvm.Cond.code ({ cls := "evenkeel/group/SpreadSearch", name := "room", desc := "(II)J" } : Jvm.MethodName) prog_98_method_81_code (4 : Nat) (Option.some Jvm.ClassFile.FieldType.long), Jvm.Cond.code ({ cls := "evenkeel/group/MinCostFlow", name := "number", desc := "(II[II)I" } : Jvm.MethodName) prog_76_method_20_code (5 : Nat) (Option.some Jvm.ClassFile.FieldType.int), Jvm.Cond.code ({ cls := "evenkeel/group/MinCostFlow", name := "leadsToSink", desc := "(I)Z" } : Jvm.MethodName) prog_76_method_21_code (2 : Nat) (Option.some Jvm.ClassFile.FieldType.boolean), Jvm.Cond.code ({ cls := "evenkeel/group/SpreadSearchMovePinLaw", name := "column", desc := "(IIZ)I" } : Jvm.MethodName) method_3_code (4 : Nat) (Option.some Jvm.ClassFile.FieldType.int), Jvm.Cond.code ({ cls := "evenkeel/group/SpreadSearchMovePinLaw", name := "node", desc := "(III)I" } : Jvm.MethodName) method_5_code (3 : Nat) (Option.some Jvm.ClassFile.FieldType.int), Jvm.Cond.code ({ cls := "evenkeel/group/SpreadSearchMovePinLaw", name := "arcIndex", desc := "(IIIZ)I" } : Jvm.MethodName) method_6_code (4 : Nat) (Option.some Jvm.ClassFile.FieldType.int), Jvm.Cond.code ({ cls := "evenkeel/group/SpreadSearch", name := "move", desc := "(III)V" } : Jvm.MethodName) prog_98_method_82_code (5 : Nat) (Option.none : Option Jvm.ClassFile.FieldType), Jvm.Cond.code ({ cls := "evenkeel/group/SpreadSearchMovePinLaw", name := "apply", desc := "([J[IIIII)V" } : Jvm.MethodName) method_7_code (6 : Nat) (Option.none : Option Jvm.ClassFile.FieldType), Jvm.Cond.code ({ cls := "evenkeel/group/SpreadSearchMovePinLaw", name := "overSeen", desc := "(Levenkeel/group/SpreadSearch;IZ)J" } : Jvm.MethodName) method_8_code (3 : Nat) (Option.some Jvm.ClassFile.FieldType.long), Jvm.Cond.code ({ cls := "evenkeel/group/SpreadSearchMovePinLaw", name := "sinkArc", desc := "(IZ)I" } : Jvm.MethodName) method_4_code (2 : Nat) (Option.some Jvm.ClassFile.FieldType.int), Jvm.Cond.code ({ cls := "evenkeel/group/SpreadSearch", name := "placeInDenseColumn", desc := "(II)I" } : Jvm.MethodName) prog_98_method_47_code (7 : Nat) (Option.some Jvm.ClassFile.FieldType.int)]
set_option maxRecDepth 65536 in
theorem codes_eq : words1.filter isCode = codes1 := rfl
theorem w_codes : ∀ c ∈ words1.filter isCode, c.before args0 about1 = true := by
  rw [codes_eq]
  intro c hc
  simp only [codes1, List.mem_cons, List.not_mem_nil, or_false] at hc
  rcases hc with rfl | rfl | rfl | rfl | rfl | rfl | rfl | rfl | rfl | rfl | rfl | rfl | rfl | rfl | rfl | rfl | rfl | rfl | rfl | rfl | rfl | rfl | rfl | rfl | rfl | rfl | rfl | rfl | rfl | rfl | rfl | rfl | rfl | rfl | rfl | rfl | rfl | rfl | rfl | rfl | rfl | rfl | rfl | rfl | rfl | rfl | rfl | rfl | rfl | rfl | rfl | rfl | rfl | rfl | rfl | rfl | rfl | rfl | rfl | rfl | rfl | rfl
  · exact w_c0
  · exact w_c1
  · exact w_c2
  · exact w_c3
  · exact w_c4
  · exact w_c5
  · exact w_c6
  · exact w_c7
  · exact w_c8
  · exact w_c9
  · exact w_c10
  · exact w_c11
  · exact w_c12
  · exact w_c13
  · exact w_c14
  · exact w_c15
  · exact w_c16
  · exact w_c17
  · exact w_c18
  · exact w_c19
  · exact w_c20
  · exact w_c21
  · exact w_c22
  · exact w_c23
  · exact w_c24
  · exact w_c25
  · exact w_c26
  · exact w_c27
  · exact w_c28
  · exact w_c29
  · exact w_c30
  · exact w_c31
  · exact w_c32
  · exact w_c33
  · exact w_c34
  · exact w_c35
  · exact w_c36
  · exact w_c37
  · exact w_c38
  · exact w_c39
  · exact w_c40
  · exact w_c41
  · exact w_c42
  · exact w_c43
  · exact w_c44
  · exact w_c45
  · exact w_c46
  · exact w_c47
  · exact w_c48
  · exact w_c49
  · exact w_c50
  · exact w_c51
  · exact w_c52
  · exact w_c53
  · exact w_c54
  · exact w_c55
  · exact w_c56
  · exact w_c57
  · exact w_c58
  · exact w_c59
  · exact w_c60
  · exact w_c61
set_option maxRecDepth 65536 in
theorem w_t1 : (words1.take 24).all (fun c => isCode c || c.before args0 about1) = true := by decide +kernel
set_option maxRecDepth 65536 in
theorem w_t2 : ((words1.drop 24).take 24).all (fun c => isCode c || c.before args0 about1) = true := by decide +kernel
set_option maxRecDepth 65536 in
theorem w_t3 : (((words1.drop 24).drop 24).take 24).all (fun c => isCode c || c.before args0 about1) = true := by decide +kernel
set_option maxRecDepth 65536 in
theorem w_t4 : ((((words1.drop 24).drop 24).drop 24).take 24).all (fun c => isCode c || c.before args0 about1) = true := by decide +kernel
set_option maxRecDepth 65536 in
theorem w_t5 : (((((words1.drop 24).drop 24).drop 24).drop 24).take 24).all (fun c => isCode c || c.before args0 about1) = true := by decide +kernel
set_option maxRecDepth 65536 in
theorem w_t6 : ((((((words1.drop 24).drop 24).drop 24).drop 24).drop 24).take 24).all (fun c => isCode c || c.before args0 about1) = true := by decide +kernel
set_option maxRecDepth 65536 in
theorem w_t7 : (((((((words1.drop 24).drop 24).drop 24).drop 24).drop 24).drop 24).take 24).all (fun c => isCode c || c.before args0 about1) = true := by decide +kernel
set_option maxRecDepth 65536 in
theorem w_t8 : ((((((((words1.drop 24).drop 24).drop 24).drop 24).drop 24).drop 24).drop 24).take 24).all (fun c => isCode c || c.before args0 about1) = true := by decide +kernel
set_option maxRecDepth 65536 in
theorem w_t9 : (((((((((words1.drop 24).drop 24).drop 24).drop 24).drop 24).drop 24).drop 24).drop 24).take 24).all (fun c => isCode c || c.before args0 about1) = true := by decide +kernel
set_option maxRecDepth 65536 in
theorem w_t10 : ((((((((((words1.drop 24).drop 24).drop 24).drop 24).drop 24).drop 24).drop 24).drop 24).drop 24).take 24).all (fun c => isCode c || c.before args0 about1) = true := by decide +kernel
set_option maxRecDepth 65536 in
theorem w_t11 : (((((((((((words1.drop 24).drop 24).drop 24).drop 24).drop 24).drop 24).drop 24).drop 24).drop 24).drop 24).take 24).all (fun c => isCode c || c.before args0 about1) = true := by decide +kernel
set_option maxRecDepth 65536 in
theorem w_t12 : ((((((((((((words1.drop 24).drop 24).drop 24).drop 24).drop 24).drop 24).drop 24).drop 24).drop 24).drop 24).drop 24).take 24).all (fun c => isCode c || c.before args0 about1) = true := by decide +kernel
set_option maxRecDepth 65536 in
theorem w_t13 : (((((((((((((words1.drop 24).drop 24).drop 24).drop 24).drop 24).drop 24).drop 24).drop 24).drop 24).drop 24).drop 24).drop 24).take 24).all (fun c => isCode c || c.before args0 about1) = true := by decide +kernel
set_option maxRecDepth 65536 in
theorem w_t14 : ((((((((((((((words1.drop 24).drop 24).drop 24).drop 24).drop 24).drop 24).drop 24).drop 24).drop 24).drop 24).drop 24).drop 24).drop 24).take 24).all (fun c => isCode c || c.before args0 about1) = true := by decide +kernel
set_option maxRecDepth 65536 in
theorem w_t15 : (((((((((((((((words1.drop 24).drop 24).drop 24).drop 24).drop 24).drop 24).drop 24).drop 24).drop 24).drop 24).drop 24).drop 24).drop 24).drop 24).take 24).all (fun c => isCode c || c.before args0 about1) = true := by decide +kernel
set_option maxRecDepth 65536 in
theorem w_t16 : ((((((((((((((((words1.drop 24).drop 24).drop 24).drop 24).drop 24).drop 24).drop 24).drop 24).drop 24).drop 24).drop 24).drop 24).drop 24).drop 24).drop 24).take 24).all (fun c => isCode c || c.before args0 about1) = true := by decide +kernel
set_option maxRecDepth 65536 in
theorem w_t17 : (((((((((((((((((words1.drop 24).drop 24).drop 24).drop 24).drop 24).drop 24).drop 24).drop 24).drop 24).drop 24).drop 24).drop 24).drop 24).drop 24).drop 24).drop 24).take 24).all (fun c => isCode c || c.before args0 about1) = true := by decide +kernel
set_option maxRecDepth 65536 in
theorem w_t18 : (((((((((((((((((words1.drop 24).drop 24).drop 24).drop 24).drop 24).drop 24).drop 24).drop 24).drop 24).drop 24).drop 24).drop 24).drop 24).drop 24).drop 24).drop 24).drop 24).all (fun c => isCode c || c.before args0 about1) = true := by decide +kernel
theorem w_tables : (allAtoms (Jvm.Cond.code x code maxLocals ret :: tables_1)).before args0 about1 = true := by
  rw [allAtoms_all]
  show words1.all (fun c => c.before args0 about1) = true
  refine all_split ?_ w_codes
  rw [← List.take_append_drop 24 words1, List.all_append, w_t1, ← List.take_append_drop 24 (words1.drop 24), List.all_append, w_t2, ← List.take_append_drop 24 ((words1.drop 24).drop 24), List.all_append, w_t3, ← List.take_append_drop 24 (((words1.drop 24).drop 24).drop 24), List.all_append, w_t4, ← List.take_append_drop 24 ((((words1.drop 24).drop 24).drop 24).drop 24), List.all_append, w_t5, ← List.take_append_drop 24 (((((words1.drop 24).drop 24).drop 24).drop 24).drop 24), List.all_append, w_t6, ← List.take_append_drop 24 ((((((words1.drop 24).drop 24).drop 24).drop 24).drop 24).drop 24), List.all_append, w_t7, ← List.take_append_drop 24 (((((((words1.drop 24).drop 24).drop 24).drop 24).drop 24).drop 24).drop 24), List.all_append, w_t8, ← List.take_append_drop 24 ((((((((words1.drop 24).drop 24).drop 24).drop 24).drop 24).drop 24).drop 24).drop 24), List.all_append, w_t9, ← List.take_append_drop 24 (((((((((words1.drop 24).drop 24).drop 24).drop 24).drop 24).drop 24).drop 24).drop 24).drop 24), List.all_append, w_t10, ← List.take_append_drop 24 ((((((((((words1.drop 24).drop 24).drop 24).drop 24).drop 24).drop 24).drop 24).drop 24).drop 24).drop 24), List.all_append, w_t11, ← List.take_append_drop 24 (((((((((((words1.drop 24).drop 24).drop 24).drop 24).drop 24).drop 24).drop 24).drop 24).drop 24).drop 24).drop 24), List.all_append, w_t12, ← List.take_append_drop 24 ((((((((((((words1.drop 24).drop 24).drop 24).drop 24).drop 24).drop 24).drop 24).drop 24).drop 24).drop 24).drop 24).drop 24), List.all_append, w_t13, ← List.take_append_drop 24 (((((((((((((words1.drop 24).drop 24).drop 24).drop 24).drop 24).drop 24).drop 24).drop 24).drop 24).drop 24).drop 24).drop 24).drop 24), List.all_append, w_t14, ← List.take_append_drop 24 ((((((((((((((words1.drop 24).drop 24).drop 24).drop 24).drop 24).drop 24).drop 24).drop 24).drop 24).drop 24).drop 24).drop 24).drop 24).drop 24), List.all_append, w_t15, ← List.take_append_drop 24 (((((((((((((((words1.drop 24).drop 24).drop 24).drop 24).drop 24).drop 24).drop 24).drop 24).drop 24).drop 24).drop 24).drop 24).drop 24).drop 24).drop 24), List.all_append, w_t16, ← List.take_append_drop 24 ((((((((((((((((words1.drop 24).drop 24).drop 24).drop 24).drop 24).drop 24).drop 24).drop 24).drop 24).drop 24).drop 24).drop 24).drop 24).drop 24).drop 24).drop 24), List.all_append, w_t17, w_t18]
  rfl
set_option maxRecDepth 65536 in
theorem w_case : (Jvm.Cond.and given_1 narrow_1).before args0 about1 = true := by decide +kernel
theorem w_applies : (headSpec (Jvm.Cond.code x code maxLocals ret :: tables_1) room_1).applies x e0.platform about1 = true :=
  (Spec.applies_iff w_frames).mpr ⟨w_running, w_runnable, w_alone, w_named, w_hears, w_ripe, w_room, w_tables⟩
theorem atStart : AtStart classFile x code maxLocals ret World_1 tables_1 room_1 Calls_1 rest_1 Pre_1 launch0 p0 e0 about1 theMethod args0 below0 :=
  ⟨lists_1, trivial, launch0.admits_env _ _ _, launch0.least_env, fairChoices_fair.cas, fairChoices_fair.clock, w_frames, w_args, w_heap, w_applies, trivial, trivial, w_case⟩
end start1
theorem witness_1 : WitnessClaimed_1 := ⟨start1.p0, start1.e0, start1.about1, start1.theMethod, start1.args0, start1.below0, start1.atStart⟩
end Jvm.Pilot.@@N@@
