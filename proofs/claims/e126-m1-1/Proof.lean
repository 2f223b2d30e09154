import JvmDerived
import JvmDerived.Pilot.@@N@@Statement
import JvmDerived.Pilot.@@N@@Code
set_option linter.unusedVariables false
set_option linter.unusedSimpArgs false
namespace Jvm.Pilot.@@N@@
open Jvm Jvm.ClassFile Sem Op Lib Jvm.Free Jvm.Stand Jvm.LawKit Jvm.RoadKit Bundle Jvm.Pilot.@@N@@.Jvm.D
/-! ## A LITTLE MACHINE: the walk of a law as a function. Its cells are the new ones alone; a reference is a cell's place among them. -/
abbrev OCell := (Nat ⊕ FieldType) × List Value
abbrev OHeap := List OCell
abbrev OFld := String × String × String × FieldType
abbrev OKls := String × Nat × List OFld
abbrev OEnt := Nat × Nat × Nat × Int
abbrev ORow := Nat × Instr × Nat
abbrev OMth := MethodName × ByteArray × Nat × Option FieldType × Nat × List (List ORow) × List (Nat × OEnt)
abbrev OPrg := List OMth × List OKls × List FieldType
abbrev OMth.nm (q : OMth) : MethodName := q.1
abbrev OMth.bs (q : OMth) : ByteArray := q.2.1
abbrev OMth.ml (q : OMth) : Nat := q.2.2.1
abbrev OMth.rt (q : OMth) : Option FieldType := q.2.2.2.1
abbrev OMth.na (q : OMth) : Nat := q.2.2.2.2.1
abbrev OMth.cd (q : OMth) : List (List ORow) := q.2.2.2.2.2.1
abbrev OMth.en (q : OMth) : List (Nat × OEnt) := q.2.2.2.2.2.2
def own_sh (n : Nat) : Value → Value
  | .ref a => .ref (n + a)
  | v => v
def own_shS (n : Nat) : Slot → Slot
  | .val v => .val (own_sh n v)
  | s => s
abbrev own_fr (n : Nat) (m : MethodId) (pc : Nat) (L : List Slot) (S : List Value) : JFrame := mkF m pc (L.map (own_shS n)).toArray (S.map (own_sh n))
def own_wt (S : List Value) : Nat := (S.map fun v => v.category).sum
/-! ### the locals -/
def own_set (L : List Slot) (i : Nat) (x : Slot) : Option (List Slot) := if i < L.length then some (L.set i x) else none
def own_self (L : List Slot) (i : Nat) (v : Value) : Option (List Slot) :=
  match own_set L i (.val v) with
  | none => none
  | some M => if v.category = 2 then (match M[i + 1]? with
      | none => none
      | some (.val o) => if o.category = 2 then (match own_set M (i + 2) .unset with
          | none => none
          | some N => own_set N (i + 1) .second) else own_set M (i + 1) .second
      | some _ => own_set M (i + 1) .second) else some M
def own_sto (L : List Slot) (i : Nat) (v : Value) : Option (List Slot) :=
  match L[i]? with
  | none => none
  | some .second => (match own_set L (i - 1) .unset with
      | none => none
      | some M => own_self M i v)
  | some (.val o) => if o.category = 2 then (match own_set L (i + 1) .unset with
      | none => none
      | some M => own_self M i v) else own_self L i v
  | some .unset => own_self L i v
def own_entry (as : List Value) (ml : Nat) : List Slot :=
  let f := as.flatMap fun v => if v.category = 2 then [Slot.val v, .second] else [Slot.val v]
  f ++ List.replicate (ml - f.length) .unset
/-! ### steps that read and write the frame alone -/
def own_ilen : Instr → Nat
  | .aload _ | .astore _ | .iload _ | .istore _ | .lload _ | .lstore _ | .bipush _ | .ldc _ | .newarray _ => 2
  | .sipush _ | .goto _ | .ifCond _ _ | .if_icmp _ _ | .if_acmp _ _ | .ifnull _ | .ifnonnull _ | .iinc _ _ | .getfield _ | .putfield _ | .getstatic _ | .new _ | .invokestatic _ | .invokespecial _ | .invokevirtual _ | .ldc_w _ | .ldc2_w _ | .checkcast _ => 3
  | _ => 1
abbrev OFr := Nat × List Slot × List Value
def own_ldI (k t : Nat) (L : List Slot) (S : List Value) : Option OFr := match L[k]? with | some (.val (.int v)) => some (t, L, .int v :: S) | _ => none
def own_ldJ (k t : Nat) (L : List Slot) (S : List Value) : Option OFr := match L[k]? with | some (.val (.long v)) => some (t, L, .long v :: S) | _ => none
def own_ldA (k t : Nat) (L : List Slot) (S : List Value) : Option OFr := match L[k]? with | some (.val (.ref v)) => some (t, L, .ref v :: S) | some (.val .null) => some (t, L, .null :: S) | _ => none
def own_stI (k t : Nat) (L : List Slot) (S : List Value) : Option OFr := match S with | .int x :: r => (match own_sto L k (.int x) with | some M => some (t, M, r) | none => none) | _ => none
def own_stJ (k t : Nat) (L : List Slot) (S : List Value) : Option OFr := match S with | .long x :: r => (match own_sto L k (.long x) with | some M => some (t, M, r) | none => none) | _ => none
def own_stA (k t : Nat) (L : List Slot) (S : List Value) : Option OFr := match S with | .ref x :: r => (match own_sto L k (.ref x) with | some M => some (t, M, r) | none => none) | .null :: r => (match own_sto L k .null with | some M => some (t, M, r) | none => none) | _ => none
def own_b32 (f : Int32 → Int32 → Int32) (t : Nat) (L : List Slot) (S : List Value) : Option OFr := match S with | .int y :: .int x :: r => some (t, L, .int (f x y) :: r) | _ => none
def own_d32 (f : Int32 → Int32 → Int32) (t : Nat) (L : List Slot) (S : List Value) : Option OFr := match S with | .int y :: .int x :: r => (if y = 0 then none else some (t, L, .int (f x y) :: r)) | _ => none
def own_u32 (f : Int32 → Value) (t : Nat) (L : List Slot) (S : List Value) : Option OFr := match S with | .int x :: r => some (t, L, f x :: r) | _ => none
def own_b64 (f : Int64 → Int64 → Value) (t : Nat) (L : List Slot) (S : List Value) : Option OFr := match S with | .long y :: .long x :: r => some (t, L, f x y :: r) | _ => none
def own_d64 (f : Int64 → Int64 → Int64) (t : Nat) (L : List Slot) (S : List Value) : Option OFr := match S with | .long y :: .long x :: r => (if y = 0 then none else some (t, L, .long (f x y) :: r)) | _ => none
def own_s64 (f : Int64 → Int32 → Int64) (t : Nat) (L : List Slot) (S : List Value) : Option OFr := match S with | .int y :: .long x :: r => some (t, L, .long (f x y) :: r) | _ => none
def own_u64 (f : Int64 → Value) (t : Nat) (L : List Slot) (S : List Value) : Option OFr := match S with | .long x :: r => some (t, L, f x :: r) | _ => none
def own_br (b : Bool) (t pc : Nat) (L : List Slot) (S : List Value) : Option OFr := match b with | true => some (t, L, S) | false => some (pc + 3, L, S)
def own_jmp (pc : Nat) (o : Int) : Option Nat := if 0 ≤ (pc : Int) + o then some ((pc : Int) + o).toNat else none
def own_pure (i : Instr) (t pc : Nat) (L : List Slot) (S : List Value) : Option OFr :=
  match i with
  | .iload k => own_ldI k t L S
  | .iload_n k => own_ldI k.val t L S
  | .lload k => own_ldJ k t L S
  | .lload_n k => own_ldJ k.val t L S
  | .aload k => own_ldA k t L S
  | .aload_n k => own_ldA k.val t L S
  | .istore k => own_stI k t L S
  | .istore_n k => own_stI k.val t L S
  | .lstore k => own_stJ k t L S
  | .lstore_n k => own_stJ k.val t L S
  | .astore k => own_stA k t L S
  | .astore_n k => own_stA k.val t L S
  | .iconst z => some (t, L, .int (Int32.ofInt z) :: S)
  | .bipush z => some (t, L, .int (Int8.ofInt z).toInt32 :: S)
  | .sipush z => some (t, L, .int (Int16.ofInt z).toInt32 :: S)
  | .lconst k => some (t, L, .long (Int64.ofNat k) :: S)
  | .aconst_null => some (t, L, .null :: S)
  | .iadd => own_b32 (fun x y => x + y) t L S
  | .isub => own_b32 (fun x y => x - y) t L S
  | .imul => own_b32 (fun x y => x * y) t L S
  | .iand => own_b32 (fun x y => x &&& y) t L S
  | .ior => own_b32 (fun x y => x ||| y) t L S
  | .ixor => own_b32 (fun x y => x ^^^ y) t L S
  | .ishl => own_b32 (fun x y => x <<< (y &&& 31)) t L S
  | .ishr => own_b32 (fun x y => x >>> (y &&& 31)) t L S
  | .iushr => own_b32 (fun x y => (x.toUInt32 >>> (y &&& 31).toUInt32).toInt32) t L S
  | .idiv => own_d32 (fun x y => x / y) t L S
  | .irem => own_d32 (fun x y => x % y) t L S
  | .ineg => own_u32 (fun x => .int (-x)) t L S
  | .i2l => own_u32 (fun x => .long x.toInt64) t L S
  | .i2b => own_u32 (fun x => .int x.toInt8.toInt32) t L S
  | .i2c => own_u32 (fun x => .int x.toUInt32.toUInt16.toUInt32.toInt32) t L S
  | .i2s => own_u32 (fun x => .int x.toInt16.toInt32) t L S
  | .ladd => own_b64 (fun x y => .long (x + y)) t L S
  | .lsub => own_b64 (fun x y => .long (x - y)) t L S
  | .lmul => own_b64 (fun x y => .long (x * y)) t L S
  | .land => own_b64 (fun x y => .long (x &&& y)) t L S
  | .lor => own_b64 (fun x y => .long (x ||| y)) t L S
  | .lxor => own_b64 (fun x y => .long (x ^^^ y)) t L S
  | .lcmp => own_b64 (fun x y => .int (lcmpW x y)) t L S
  | .ldiv => own_d64 (fun x y => x / y) t L S
  | .lrem => own_d64 (fun x y => x - (x / y) * y) t L S
  | .lshl => own_s64 (fun x y => x <<< (y &&& 0x3f).toInt64) t L S
  | .lshr => own_s64 (fun x y => x >>> (y &&& 0x3f).toInt64) t L S
  | .lushr => own_s64 (fun x y => (x.toUInt64 >>> (y &&& 0x3f).toInt64.toUInt64).toInt64) t L S
  | .lneg => own_u64 (fun x => .long (-x)) t L S
  | .l2i => own_u64 (fun x => .int x.toInt32) t L S
  | .iinc k c => (match L[k]? with | some (.val (.int x)) => (match own_sto L k (.int (x + Int32.ofInt c)) with | some M => some (t, M, S) | none => none) | _ => none)
  | .dup => (match S with | v :: r => (if v.category = 1 then some (t, L, v :: v :: r) else none) | _ => none)
  | .pop => (match S with | v :: r => (if v.category = 1 then some (t, L, r) else none) | _ => none)
  | .dup_x1 => (match S with | v :: w :: r => (if v.category = 1 ∧ w.category = 1 then some (t, L, v :: w :: v :: r) else none) | _ => none)
  | .dup_x2 => (match S with | v :: w :: u :: r => (if v.category = 1 ∧ w.category = 1 ∧ u.category = 1 then some (t, L, v :: w :: u :: v :: r) else none) | _ => none)
  | .dup2 => (match S with | .long v :: r => some (t, L, .long v :: .long v :: r) | v :: w :: r => (if v.category = 1 ∧ w.category = 1 then some (t, L, v :: w :: v :: w :: r) else none) | _ => none)
  | .goto _ => some (t, L, S)
  | .ifCond cd _ => (match S with | .int x :: r => own_br (ifCond.holds cd x) t pc L r | _ => none)
  | .if_icmp cd _ => (match S with | .int y :: .int x :: r => own_br (if_icmp.holds cd x y) t pc L r | _ => none)
  | .ifnull _ => (match S with | .null :: r => some (t, L, r) | .ref _ :: r => some (pc + 3, L, r) | _ => none)
  | .ifnonnull _ => (match S with | .null :: r => some (pc + 3, L, r) | .ref _ :: r => some (t, L, r) | _ => none)
  | .lookupswitch df ps => (match S with | .int x :: r => (match own_jmp pc (lookupswitch.offset ps.toList df x.toInt) with | some q => some (q, L, r) | none => none) | _ => none)
  | _ => none
/-! ### rows and entries -/
def own_row : List ORow → Nat → Option (Instr × Nat)
  | [], _ => none
  | (k, i, t) :: r, pc => if k = pc then some (i, t) else own_row r pc
def own_at (q : OMth) (pc : Nat) : Option (Instr × Nat) := match q.cd[pc / 16]? with | some r => own_row r pc | none => none
def own_ent : List (Nat × OEnt) → Nat → Option OEnt
  | [], _ => none
  | (k, e) :: r, i => if k = i then some e else own_ent r i
/-! ### steps that read or write the heap -/
abbrev OSt := Nat × List Slot × List Value × OHeap
def own_nar (ty : FieldType) (v : Value) : Option Value :=
  match ty, v with
  | .int, .int x => some (.int x)
  | .long, .long x => some (.long x)
  | .boolean, .int x => some (.int (x &&& 1))
  | .byte, .int x => some (.int x.toInt8.toInt32)
  | .char, .int x => some (.int x.toUInt32.toUInt16.toUInt32.toInt32)
  | .short, .int x => some (.int x.toInt16.toInt32)
  | .object _, .ref a => some (.ref a)
  | .object _, .null => some .null
  | .array _, .ref a => some (.ref a)
  | .array _, .null => some .null
  | _, _ => none
def own_prim : FieldType → Bool
  | .object _ | .array _ | .float | .double => false
  | _ => true
def own_ix (j : Int32) : Option Nat := if j < 0 then none else some j.toNatClampNeg
def own_arr (H : OHeap) (a : Nat) (ty : FieldType) : Option (List Value) := match H[a]? with | some (.inr ty', vs) => (if ty' = ty then some vs else none) | _ => none
def own_obj (H : OHeap) (a k : Nat) : Option (List Value) := match H[a]? with | some (.inl k', vs) => (if k' = k then some vs else none) | _ => none
def own_ald (ty : FieldType) (t : Nat) (L : List Slot) (S : List Value) (H : OHeap) : Option OSt :=
  match S with
  | .int j :: .ref a :: r => (match own_arr H a ty with
    | some vs => (match own_ix j with
      | some q => (match vs[q]? with
        | some v => some (t, L, v :: r, H)
        | none => none)
      | none => none)
    | none => none)
  | _ => none
def own_ast (ty : FieldType) (t : Nat) (L : List Slot) (S : List Value) (H : OHeap) : Option OSt :=
  match S with
  | v :: .int j :: .ref a :: r => (match own_arr H a ty with
    | some vs => (match own_ix j with
      | some q => (if q < vs.length then (match own_nar ty v with
        | some w => some (t, L, r, H.set a (.inr ty, vs.set q w))
        | none => none) else none)
      | none => none)
    | none => none)
  | _ => none
def own_heap (P : OPrg) (mt : OMth) (d lo : Nat) (i : Instr) (t : Nat) (L : List Slot) (S : List Value) (H : OHeap) : Option OSt :=
  match i with
  | .getfield x => (match own_ent mt.en x with
    | some (6, k, j, _) => (match S with
      | .ref a :: r => (match own_obj H a k with
        | some vs => (match vs[j]? with
          | some v => some (t, L, v :: r, H)
          | none => none)
        | none => none)
      | _ => none)
    | _ => none)
  | .putfield x => (match own_ent mt.en x with
    | some (6, k, j, 1) => (match S with
      | v :: .ref a :: r => (match own_obj H a k with
        | some vs => (match P.2.1[k]? with
          | some c => (match c.2.2[j]? with
            | some f => (match own_nar f.2.2.2 v with
              | some w => some (t, L, r, H.set a (.inl k, vs.set j w))
              | none => none)
            | none => none)
          | none => none)
        | none => none)
      | _ => none)
    | _ => none)
  | .new x => (match own_ent mt.en x with
    | some (7, k, _, _) => (match P.2.1[k]? with
      | some c => some (t, L, .ref H.length :: S, H ++ [(.inl k, c.2.2.map fun f => defaultValue f.2.2.2)])
      | none => none)
    | _ => none)
  | .newarray ty => (match S with
    | .int n :: r => (match own_ix n with
      | some q => (if newarray.typeOf ty ∈ P.2.2 ∧ q * 8 ≤ 536870912 then some (t, L, .ref H.length :: r, H ++ [(.inr (newarray.typeOf ty), List.replicate q (defaultValue (newarray.typeOf ty)))]) else none)
      | none => none)
    | _ => none)
  | .arraylength => (match S with
    | .ref a :: r => (match H[a]? with
      | some (.inr _, vs) => some (t, L, .int vs.length.toInt32 :: r, H)
      | _ => none)
    | _ => none)
  | .iaload => own_ald .int t L S H
  | .laload => own_ald .long t L S H
  | .caload => own_ald .char t L S H
  | .baload => own_ald .byte t L S H
  | .iastore => own_ast .int t L S H
  | .lastore => own_ast .long t L S H
  | .castore => own_ast .char t L S H
  | .bastore => own_ast .byte t L S H
  | .ldc x => (match own_ent mt.en x with
    | some (8, _, _, v) => some (t, L, .int (Int32.ofInt v) :: S, H)
    | _ => none)
  | .ldc_w x => (match own_ent mt.en x with
    | some (8, _, _, v) => some (t, L, .int (Int32.ofInt v) :: S, H)
    | _ => none)
  | .ldc2_w x => (match own_ent mt.en x with
    | some (9, _, _, v) => some (t, L, .long (Int64.ofInt v) :: S, H)
    | _ => none)
  | .checkcast x => (match own_ent mt.en x with
    | some (12, _, _, _) => (match S with
      | .ref a :: r => (match own_arr H a .int with
        | some _ => some (t, L, .ref a :: r, H)
        | none => none)
      | _ => none)
    | _ => none)
  | .invokespecial x => (match own_ent mt.en x with
    | some (2, _, _, _) => (match S with
      | .ref _ :: r => (if 1 ≤ d ∧ own_wt r + 12 ≤ lo then some (t, L, r, H) else none)
      | _ => none)
    | _ => none)
  | .invokestatic x => (match own_ent mt.en x with
    | some (10, _, _, _) => (match S with
      | .int nn :: .int dp :: .ref b :: .int sp :: .ref a :: r => (match own_arr H a .int with
        | some vs => (match own_arr H b .int with
          | some vd => (match own_ix nn with
            | some n => (match own_ix dp with
              | some q => (match own_ix sp with
                | some p => (if (1 ≤ d ∧ own_wt r + (nativeFrameWords "java/lang/System" "arraycopy" 5 + 11) ≤ lo) ∧ p + n ≤ vs.length ∧ q + n ≤ vd.length then
                    some (t, L, r, H.set b (.inr .int, vd.take q ++ (vs.drop p).take n ++ vd.drop (q + n))) else none)
                | none => none)
              | none => none)
            | none => none)
          | none => none)
        | none => none)
      | _ => none)
    | _ => none)
  | .invokevirtual x => (match own_ent mt.en x with
    | some (11, _, _, _) => (match S with
      | .ref a :: r => (match own_arr H a .int with
        | some vs => (if 1 ≤ d ∧ own_wt r + 14 ≤ lo then some (t, L, .ref H.length :: r, H ++ [(.inr .int, vs)]) else none)
        | none => none)
      | _ => none)
    | _ => none)
  | _ => none
def own_step (P : OPrg) (mt : OMth) (d lo : Nat) (i : Instr) (t pc : Nat) (L : List Slot) (S : List Value) (H : OHeap) : Option OSt :=
  match own_pure i t pc L S with
  | some (pc', L', S') => some (pc', L', S', H)
  | none => own_heap P mt d lo i t L S H
/-! ### returns, calls, the run -/
def own_ret (mt : OMth) (i : Instr) (S : List Value) : Option (Option Value) :=
  match i with
  | .return_ => (match mt.rt, S with
    | none, [] => some none
    | _, _ => none)
  | .ireturn => (match mt.rt, S with
    | some .int, .int z :: _ => some (some (.int z))
    | some .boolean, .int z :: _ => some (some (.int (z &&& 1)))
    | some .byte, .int z :: _ => some (some (.int z.toInt8.toInt32))
    | some .char, .int z :: _ => some (some (.int z.toUInt32.toUInt16.toUInt32.toInt32))
    | some .short, .int z :: _ => some (some (.int z.toInt16.toInt32))
    | _, _ => none)
  | .lreturn => (match mt.rt, S with
    | some .long, .long z :: _ => some (some (.long z))
    | _, _ => none)
  | .areturn => (match mt.rt, S with
    | some (.array _), .ref a :: _ => some (some (.ref a))
    | some (.array _), .null :: _ => some (some .null)
    | some (.object _), .ref a :: _ => some (some (.ref a))
    | some (.object _), .null :: _ => some (some .null)
    | _, _ => none)
  | _ => none
def own_split : Nat → List Value → List Value → Option (List Value × List Value)
  | 0, S, acc => some (acc, S)
  | n + 1, v :: S, acc => own_split n S (v :: acc)
  | _ + 1, [], _ => none
/-- the callee's number, its arguments in order, what lies under them -/
def own_call (P : OPrg) (mt : OMth) (i : Instr) (S : List Value) (H : OHeap) : Option (Nat × List Value × List Value) :=
  match i with
  | .invokestatic x => (match own_ent mt.en x with
    | some (0, j, _, _) => (match P.1[j]? with
      | some mj => (match own_split mj.na S [] with
        | some (as, r) => some (j, as, r)
        | none => none)
      | none => none)
    | _ => none)
  | .invokespecial x => (match own_ent mt.en x with
    | some (1, j, _, _) => (match P.1[j]? with
      | some mj => (match own_split mj.na S [] with
        | some (.ref a :: as, r) => some (j, .ref a :: as, r)
        | _ => none)
      | none => none)
    | some (5, j, k, _) => (match P.1[j]? with
      | some mj => (match own_split mj.na S [] with
        | some (.ref a :: as, r) => (match own_obj H a k with
          | some _ => some (j, .ref a :: as, r)
          | none => none)
        | _ => none)
      | none => none)
    | _ => none)
  | .invokevirtual x => (match own_ent mt.en x with
    | some (3, j, k, _) => (match P.1[j]? with
      | some mj => (match own_split mj.na S [] with
        | some (.ref a :: as, r) => (match own_obj H a k with
          | some _ => some (j, .ref a :: as, r)
          | none => none)
        | _ => none)
      | none => none)
    | some (4, j, k, _) => (match P.1[j]? with
      | some mj => (match own_split mj.na S [] with
        | some (.ref a :: as, r) => (match own_obj H a k with
          | some _ => some (j, .ref a :: as, r)
          | none => none)
        | _ => none)
      | none => none)
    | some (13, j, k, _) => (match P.1[j]? with
      | some mj => (match own_split mj.na S [] with
        | some (.ref a :: as, r) => (match own_obj H a k with
          | some _ => some (j, .ref a :: as, r)
          | none => none)
        | _ => none)
      | none => none)
    | _ => none)
  | _ => none
def own_exec (P : OPrg) : Nat → Nat → Nat → Nat → Nat → List Slot → List Value → OHeap → Option (Option Value × OHeap)
  | 0, _, _, _, _, _, _, _ => none
  | q + 1, i, d, lo, pc, L, S, H =>
    match P.1[i]? with
    | none => none
    | some mt =>
      match own_at mt pc with
      | none => none
      | some (ins, t) =>
        match own_ret mt ins S with
        | some v => some (v, H)
        | none =>
          match own_call P mt ins S H with
          | some (j, as, r) =>
            (match P.1[j]? with
            | none => none
            | some mj =>
              if 1 ≤ d ∧ own_wt r + (mj.ml + 11) ≤ lo ∧ (own_entry as mj.ml).length = mj.ml then
                (match own_exec P q j (d - 1) (lo - (own_wt r + (mj.ml + 11))) 0 (own_entry as mj.ml) [] H with
                | some (v, H') => own_exec P q i d lo t L (v.toList ++ r) H'
                | none => none)
              else none)
          | none =>
            match own_step P mt d lo ins t pc L S H with
            | some (pc', L', S', H') => own_exec P q i d lo pc' L' S' H'
            | none => none
/-! ## WHAT THE LITTLE MACHINE's RUN SAYS OF THE MODEL's -/
theorem own_cat {n : Nat} (v : Value) : (own_sh n v).category = v.category := by cases v <;> rfl
theorem own_get {n : Nat} {L : List Slot} {k : Nat} {x : Slot} (h : L[k]? = some x) : ((L.map (own_shS n)).toArray)[k]? = some (own_shS n x) := by simp [h]
theorem own_set_ok {n : Nat} {L M : List Slot} {i : Nat} {x : Slot} (h : own_set L i x = some M) : setAt (L.map (own_shS n)).toArray i (own_shS n x) = some (M.map (own_shS n)).toArray := by
  unfold own_set at h
  split at h
  · cases h; simp [setAt, List.map_set, *]
  · cases h
theorem own_set_len {L M : List Slot} {i : Nat} {x : Slot} (h : own_set L i x = some M) : M.length = L.length := by
  unfold own_set at h
  split at h
  · cases h; simp
  · cases h
theorem own_self_ok {n : Nat} {L M : List Slot} {i : Nat} {v : Value} (h : own_self L i v = some M) : storeSelf (L.map (own_shS n)).toArray i (own_sh n v) = some (M.map (own_shS n)).toArray ∧ M.length = L.length := by
  unfold own_self at h
  split at h
  · cases h
  · rename_i A hA
    have e1 := own_set_ok (n := n) hA
    have l1 := own_set_len hA
    simp only [own_shS] at e1
    simp only [storeSelf, Option.bind_eq_bind, e1, Option.bind_some, own_cat]
    split at h
    · rename_i hc
      simp only [hc, if_true]
      split at h
      · cases h
      · rename_i o ho
        have g1 := own_get (n := n) ho
        simp only [own_shS] at g1
        simp only [g1, Option.bind_some, own_cat]
        split at h
        · rename_i hc2
          simp only [hc2, if_true]
          split at h
          · cases h
          · rename_i B hB
            have e2 := own_set_ok (n := n) hB
            have e3 := own_set_ok (n := n) h
            simp only [own_shS] at e2 e3
            simp only [e2, Option.bind_some, e3]
            exact ⟨trivial, by rw [own_set_len h, own_set_len hB, l1]⟩
        · rename_i hc2
          have e3 := own_set_ok (n := n) h
          simp only [own_shS] at e3
          simp only [hc2, if_false, e3]
          exact ⟨trivial, by rw [own_set_len h, l1]⟩
      · rename_i o hno ho
        have g1 := own_get (n := n) ho
        have e3 := own_set_ok (n := n) h
        cases o with
        | val w => exact absurd rfl (hno w)
        | unset => simp only [own_shS] at g1 e3; simp only [g1, Option.bind_some, e3]; exact ⟨trivial, by rw [own_set_len h, l1]⟩
        | second => simp only [own_shS] at g1 e3; simp only [g1, Option.bind_some, e3]; exact ⟨trivial, by rw [own_set_len h, l1]⟩
    · rename_i hc
      cases h
      simp only [hc, if_false]
      exact ⟨trivial, l1⟩
theorem own_sto_ok {n : Nat} {L M : List Slot} {i : Nat} {v : Value} (h : own_sto L i v = some M) : storeLocals (L.map (own_shS n)).toArray i (own_sh n v) = some (M.map (own_shS n)).toArray ∧ M.length = L.length := by
  unfold own_sto at h
  split at h
  · cases h
  · rename_i ho
    have g1 := own_get (n := n) ho
    simp only [own_shS] at g1
    split at h
    · cases h
    · rename_i A hA
      have e1 := own_set_ok (n := n) hA
      simp only [own_shS] at e1
      have e2 := own_self_ok (n := n) h
      simp only [storeLocals, Option.bind_eq_bind, g1, Option.bind_some, e1, e2.1]
      exact ⟨trivial, by rw [e2.2, own_set_len hA]⟩
  · rename_i o ho
    have g1 := own_get (n := n) ho
    simp only [own_shS] at g1
    split at h
    · rename_i hc
      split at h
      · cases h
      · rename_i A hA
        have e1 := own_set_ok (n := n) hA
        simp only [own_shS] at e1
        have e2 := own_self_ok (n := n) h
        simp only [storeLocals, Option.bind_eq_bind, g1, Option.bind_some, own_cat, hc, if_true, e1, e2.1]
        exact ⟨trivial, by rw [e2.2, own_set_len hA]⟩
    · rename_i hc
      have e2 := own_self_ok (n := n) h
      simp only [storeLocals, Option.bind_eq_bind, g1, Option.bind_some, own_cat, hc, if_false, e2.1]
      exact ⟨trivial, e2.2⟩
  · rename_i ho
    have g1 := own_get (n := n) ho
    simp only [own_shS] at g1
    have e2 := own_self_ok (n := n) h
    simp only [storeLocals, Option.bind_eq_bind, g1, Option.bind_some, e2.1]
    exact ⟨trivial, e2.2⟩
/-! ### decoded rows -/
def own_tgt (pc len t : Nat) (i : Instr) : Bool :=
  match i with
  | .goto o | .ifCond _ o | .if_icmp _ o | .ifnull o | .ifnonnull o => len == 3 && (decide (0 ≤ (pc : Int) + o) && ((pc : Int) + o).toNat == t)
  | .lookupswitch _ ps => (ps.toList.zip ps.toList.tail).all fun q => decide (q.1.1 < q.2.1)
  | j => len == own_ilen j && t == pc + own_ilen j
def own_okI (b : ByteArray) (x : ORow) : Bool :=
  match decode b x.1 with
  | .ok (i, len) => decide (i = x.2.1) && own_tgt x.1 len x.2.2 i
  | _ => false
theorem own_okI_spec {b : ByteArray} {pc t : Nat} {i : Instr} (h : own_okI b (pc, i, t) = true) : ∃ len, decode b pc = .ok (i, len) ∧ own_tgt pc len t i = true := by
  unfold own_okI at h
  split at h
  · rename_i j len hd
    simp only [Bool.and_eq_true, decide_eq_true_eq] at h
    obtain ⟨rfl, h2⟩ := h
    exact ⟨len, hd, h2⟩
  · cases h
theorem own_row_mem : ∀ {r : List ORow} {pc : Nat} {i : Instr} {t : Nat}, own_row r pc = some (i, t) → (pc, i, t) ∈ r
  | [], _, _, _, h => by cases h
  | (k, i', t') :: r, pc, i, t, h => by
    simp only [own_row] at h
    split at h
    · rename_i e; subst e; cases h; exact List.mem_cons_self ..
    · exact List.mem_cons_of_mem _ (own_row_mem h)
theorem own_at_ok {mt : OMth} (hc : ∀ r ∈ mt.cd, ∀ x ∈ r, own_okI mt.bs x = true) {pc t : Nat} {i : Instr} (h : own_at mt pc = some (i, t)) : ∃ len, decode mt.bs pc = .ok (i, len) ∧ own_tgt pc len t i = true := by
  unfold own_at at h
  split at h
  · rename_i r hr
    exact own_okI_spec (hc r (List.mem_of_getElem? hr) _ (own_row_mem h))
  · cases h
theorem own_t {a b len t : Nat} (h : (len == a && t == b) = true) : len = a ∧ t = b := by simpa using h
theorem own_tj {len t pc : Nat} {o : Int} (h : (len == 3 && (decide (0 ≤ (pc : Int) + o) && ((pc : Int) + o).toNat == t)) = true) : len = 3 ∧ 0 ≤ (pc : Int) + o ∧ ((pc : Int) + o).toNat = t := by simpa using h
/-! ### the frame's steps -/
section OwnPure
variable {p : Program} {e : Env} {m : MethodId} {below : List Frame} {c : Code} {T target : State} {n pc t : Nat} {L L' : List Slot} {S S' : List Value} {pc' len : Nat}
theorem own_dupx2 {g : JFrame} (h : At T m c below) (hx : p.tables.exec = Jvm.exec) (hg : g.method = m) {x y z : Value} {rest : List Value} (hd : decode c.code g.pc = .ok (.dup_x2, 1)) (hs : g.stack = x :: y :: z :: rest) (hc : x.category = 1) (hc' : y.category = 1) (hc2 : z.category = 1)
    (hr : Steps p.tables e below (T.setTop { g with pc := g.pc + 1, stack := x :: y :: z :: x :: rest }) target) : Steps p.tables e below (T.setTop g) target := by
  subst hg
  jvm_step h [h.top, hx, hd, hs, hc, hc', hc2]
  exact hr
theorem own_lsw {g : JFrame} (h : At T m c below) (hx : p.tables.exec = Jvm.exec) (hg : g.method = m) {df : Int} {ps : Array (Int × Int)} {pc0 pc1 : Nat} (hinc : ∀ a b a' b' : Int, ((a, b), a', b') ∈ ps.toList.zip ps.toList.tail → a < a') (hpc : g.pc = pc0) (hd : decode c.code g.pc = .ok (.lookupswitch df ps, len)) {i : Int32} {rest : List Value} (hs : g.stack = .int i :: rest)
    (ho : 0 ≤ (pc0 : Int) + lookupswitch.offset ps.toList df i.toInt) (hp : ((pc0 : Int) + lookupswitch.offset ps.toList df i.toInt).toNat = pc1)
    (hr : Steps p.tables e below (T.setTop { g with pc := pc1, stack := rest }) target) : Steps p.tables e below (T.setTop g) target := by
  subst hg hpc hp
  jvm_step h [h.top, hx, hd, hs, ho, lookupswitch.wp_chain]
  exact ⟨hinc, hr⟩
set_option maxHeartbeats 4000000 in
theorem own_pure_ok {i : Instr} (h : At T m c below) (hx : p.tables.exec = Jvm.exec) (hd : decode c.code pc = .ok (i, len)) (ht : own_tgt pc len t i = true) (e1 : own_pure i t pc L S = some (pc', L', S'))
    (hr : Steps p.tables e below (T.setTop (own_fr n m pc' L' S')) target) : Steps p.tables e below (T.setTop (own_fr n m pc L S)) target ∧ L'.length = L.length := by
  cases i with
  | iload k =>
    obtain ⟨rfl, rfl⟩ := own_t ht
    simp only [own_pure, own_ldI] at e1
    split at e1 <;> cases e1
    rename_i v hv
    exact ⟨XS.iload h hx rfl hd (own_get hv) hr, rfl⟩
  | iload_n k =>
    obtain ⟨rfl, rfl⟩ := own_t ht
    simp only [own_pure, own_ldI] at e1
    split at e1 <;> cases e1
    rename_i v hv
    exact ⟨XS.iloadN h hx rfl hd (own_get hv) hr, rfl⟩
  | lload k =>
    obtain ⟨rfl, rfl⟩ := own_t ht
    simp only [own_pure, own_ldJ] at e1
    split at e1 <;> cases e1
    rename_i v hv
    exact ⟨XS.lload h hx rfl hd (own_get hv) hr, rfl⟩
  | lload_n k =>
    obtain ⟨rfl, rfl⟩ := own_t ht
    simp only [own_pure, own_ldJ] at e1
    split at e1 <;> cases e1
    rename_i v hv
    exact ⟨XS.lloadN h hx rfl hd (own_get hv) hr, rfl⟩
  | aload k =>
    obtain ⟨rfl, rfl⟩ := own_t ht
    simp only [own_pure, own_ldA] at e1
    split at e1 <;> cases e1
    · rename_i v hv
      exact ⟨XS.aload h hx rfl hd (own_get hv) rfl hr, rfl⟩
    · rename_i hv
      exact ⟨XS.aload h hx rfl hd (own_get hv) rfl hr, rfl⟩
  | aload_n k =>
    obtain ⟨rfl, rfl⟩ := own_t ht
    simp only [own_pure, own_ldA] at e1
    split at e1 <;> cases e1
    · rename_i v hv
      exact ⟨XS.aloadN h hx rfl hd (own_get hv) rfl hr, rfl⟩
    · rename_i hv
      exact ⟨XS.aloadN h hx rfl hd (own_get hv) rfl hr, rfl⟩
  | istore k =>
    obtain ⟨rfl, rfl⟩ := own_t ht
    simp only [own_pure, own_stI] at e1
    split at e1 <;> try cases e1
    split at e1 <;> cases e1
    rename_i hv
    exact ⟨XS.istore h hx rfl hd rfl (own_sto_ok (n := n) hv).1 hr, (own_sto_ok (n := n) hv).2⟩
  | istore_n k =>
    obtain ⟨rfl, rfl⟩ := own_t ht
    simp only [own_pure, own_stI] at e1
    split at e1 <;> try cases e1
    split at e1 <;> cases e1
    rename_i hv
    exact ⟨XS.istoreN h hx rfl hd rfl (own_sto_ok (n := n) hv).1 hr, (own_sto_ok (n := n) hv).2⟩
  | lstore k =>
    obtain ⟨rfl, rfl⟩ := own_t ht
    simp only [own_pure, own_stJ] at e1
    split at e1 <;> try cases e1
    split at e1 <;> cases e1
    rename_i hv
    exact ⟨XS.lstore h hx rfl hd rfl (own_sto_ok (n := n) hv).1 hr, (own_sto_ok (n := n) hv).2⟩
  | lstore_n k =>
    obtain ⟨rfl, rfl⟩ := own_t ht
    simp only [own_pure, own_stJ] at e1
    split at e1 <;> try cases e1
    split at e1 <;> cases e1
    rename_i hv
    exact ⟨XS.lstoreN h hx rfl hd rfl (own_sto_ok (n := n) hv).1 hr, (own_sto_ok (n := n) hv).2⟩
  | astore k =>
    obtain ⟨rfl, rfl⟩ := own_t ht
    simp only [own_pure, own_stA] at e1
    split at e1 <;> try cases e1
    · split at e1 <;> cases e1
      rename_i hv
      exact ⟨XS.astore h hx rfl hd rfl rfl (own_sto_ok (n := n) hv).1 hr, (own_sto_ok (n := n) hv).2⟩
    · split at e1 <;> cases e1
      rename_i hv
      exact ⟨XS.astore h hx rfl hd rfl rfl (own_sto_ok (n := n) hv).1 hr, (own_sto_ok (n := n) hv).2⟩
  | astore_n k =>
    obtain ⟨rfl, rfl⟩ := own_t ht
    simp only [own_pure, own_stA] at e1
    split at e1 <;> try cases e1
    · split at e1 <;> cases e1
      rename_i hv
      exact ⟨XS.astoreN h hx rfl hd rfl rfl (own_sto_ok (n := n) hv).1 hr, (own_sto_ok (n := n) hv).2⟩
    · split at e1 <;> cases e1
      rename_i hv
      exact ⟨XS.astoreN h hx rfl hd rfl rfl (own_sto_ok (n := n) hv).1 hr, (own_sto_ok (n := n) hv).2⟩
  | iconst z => obtain ⟨rfl, rfl⟩ := own_t ht; cases e1; exact ⟨XS.iconst h hx rfl hd hr, rfl⟩
  | bipush z => obtain ⟨rfl, rfl⟩ := own_t ht; cases e1; exact ⟨XS.bipush h hx rfl hd hr, rfl⟩
  | sipush z => obtain ⟨rfl, rfl⟩ := own_t ht; cases e1; exact ⟨XS.sipush h hx rfl hd hr, rfl⟩
  | lconst z => obtain ⟨rfl, rfl⟩ := own_t ht; cases e1; exact ⟨XS.lconst h hx rfl hd hr, rfl⟩
  | aconst_null => obtain ⟨rfl, rfl⟩ := own_t ht; cases e1; exact ⟨XS.aconstNull h hx rfl hd hr, rfl⟩
  | iadd =>
    obtain ⟨rfl, rfl⟩ := own_t ht
    simp only [own_pure, own_b32] at e1
    split at e1 <;> cases e1
    exact ⟨XS.iadd h hx rfl hd rfl hr, rfl⟩
  | isub =>
    obtain ⟨rfl, rfl⟩ := own_t ht
    simp only [own_pure, own_b32] at e1
    split at e1 <;> cases e1
    exact ⟨XS.isub h hx rfl hd rfl hr, rfl⟩
  | imul =>
    obtain ⟨rfl, rfl⟩ := own_t ht
    simp only [own_pure, own_b32] at e1
    split at e1 <;> cases e1
    exact ⟨XS.imul h hx rfl hd rfl hr, rfl⟩
  | iand =>
    obtain ⟨rfl, rfl⟩ := own_t ht
    simp only [own_pure, own_b32] at e1
    split at e1 <;> cases e1
    exact ⟨XS.iand h hx rfl hd rfl hr, rfl⟩
  | ior =>
    obtain ⟨rfl, rfl⟩ := own_t ht
    simp only [own_pure, own_b32] at e1
    split at e1 <;> cases e1
    exact ⟨XS.ior h hx rfl hd rfl hr, rfl⟩
  | ixor =>
    obtain ⟨rfl, rfl⟩ := own_t ht
    simp only [own_pure, own_b32] at e1
    split at e1 <;> cases e1
    exact ⟨XS.ixor h hx rfl hd rfl hr, rfl⟩
  | ishl =>
    obtain ⟨rfl, rfl⟩ := own_t ht
    simp only [own_pure, own_b32] at e1
    split at e1 <;> cases e1
    exact ⟨XS.ishl h hx rfl hd rfl hr, rfl⟩
  | ishr =>
    obtain ⟨rfl, rfl⟩ := own_t ht
    simp only [own_pure, own_b32] at e1
    split at e1 <;> cases e1
    exact ⟨XS.ishr h hx rfl hd rfl hr, rfl⟩
  | iushr =>
    obtain ⟨rfl, rfl⟩ := own_t ht
    simp only [own_pure, own_b32] at e1
    split at e1 <;> cases e1
    exact ⟨XS.iushr h hx rfl hd rfl hr, rfl⟩
  | idiv =>
    obtain ⟨rfl, rfl⟩ := own_t ht
    simp only [own_pure, own_d32] at e1
    split at e1 <;> try cases e1
    split at e1 <;> cases e1
    rename_i hy
    exact ⟨XS.idiv h hx rfl hd rfl hy hr, rfl⟩
  | irem =>
    obtain ⟨rfl, rfl⟩ := own_t ht
    simp only [own_pure, own_d32] at e1
    split at e1 <;> try cases e1
    split at e1 <;> cases e1
    rename_i hy
    exact ⟨XS.irem h hx rfl hd rfl hy (by rw [irem_eq_mod]; exact hr), rfl⟩
  | ineg =>
    obtain ⟨rfl, rfl⟩ := own_t ht
    simp only [own_pure, own_u32] at e1
    split at e1 <;> cases e1
    exact ⟨XS.ineg h hx rfl hd rfl hr, rfl⟩
  | i2l =>
    obtain ⟨rfl, rfl⟩ := own_t ht
    simp only [own_pure, own_u32] at e1
    split at e1 <;> cases e1
    exact ⟨XS.i2l h hx rfl hd rfl hr, rfl⟩
  | i2b =>
    obtain ⟨rfl, rfl⟩ := own_t ht
    simp only [own_pure, own_u32] at e1
    split at e1 <;> cases e1
    exact ⟨XS.i2b h hx rfl hd rfl hr, rfl⟩
  | i2c =>
    obtain ⟨rfl, rfl⟩ := own_t ht
    simp only [own_pure, own_u32] at e1
    split at e1 <;> cases e1
    exact ⟨XS.i2c h hx rfl hd rfl hr, rfl⟩
  | i2s =>
    obtain ⟨rfl, rfl⟩ := own_t ht
    simp only [own_pure, own_u32] at e1
    split at e1 <;> cases e1
    exact ⟨XS.i2s h hx rfl hd rfl hr, rfl⟩
  | ladd =>
    obtain ⟨rfl, rfl⟩ := own_t ht
    simp only [own_pure, own_b64] at e1
    split at e1 <;> cases e1
    exact ⟨XS.ladd h hx rfl hd rfl hr, rfl⟩
  | lsub =>
    obtain ⟨rfl, rfl⟩ := own_t ht
    simp only [own_pure, own_b64] at e1
    split at e1 <;> cases e1
    exact ⟨XS.lsub h hx rfl hd rfl hr, rfl⟩
  | lmul =>
    obtain ⟨rfl, rfl⟩ := own_t ht
    simp only [own_pure, own_b64] at e1
    split at e1 <;> cases e1
    exact ⟨XS.lmul h hx rfl hd rfl hr, rfl⟩
  | land =>
    obtain ⟨rfl, rfl⟩ := own_t ht
    simp only [own_pure, own_b64] at e1
    split at e1 <;> cases e1
    exact ⟨XS.land h hx rfl hd rfl hr, rfl⟩
  | lor =>
    obtain ⟨rfl, rfl⟩ := own_t ht
    simp only [own_pure, own_b64] at e1
    split at e1 <;> cases e1
    exact ⟨XS.lor h hx rfl hd rfl hr, rfl⟩
  | lxor =>
    obtain ⟨rfl, rfl⟩ := own_t ht
    simp only [own_pure, own_b64] at e1
    split at e1 <;> cases e1
    exact ⟨XS.lxor h hx rfl hd rfl hr, rfl⟩
  | lcmp =>
    obtain ⟨rfl, rfl⟩ := own_t ht
    simp only [own_pure, own_b64] at e1
    split at e1 <;> cases e1
    exact ⟨XS.lcmp h hx rfl hd rfl hr, rfl⟩
  | ldiv =>
    obtain ⟨rfl, rfl⟩ := own_t ht
    simp only [own_pure, own_d64] at e1
    split at e1 <;> try cases e1
    split at e1 <;> cases e1
    rename_i hy
    exact ⟨XS.ldiv h hx rfl hd rfl hy hr, rfl⟩
  | lrem =>
    obtain ⟨rfl, rfl⟩ := own_t ht
    simp only [own_pure, own_d64] at e1
    split at e1 <;> try cases e1
    split at e1 <;> cases e1
    rename_i hy
    exact ⟨XS.lrem h hx rfl hd rfl hy hr, rfl⟩
  | lshl =>
    obtain ⟨rfl, rfl⟩ := own_t ht
    simp only [own_pure, own_s64] at e1
    split at e1 <;> cases e1
    exact ⟨XS.lshl h hx rfl hd rfl hr, rfl⟩
  | lshr =>
    obtain ⟨rfl, rfl⟩ := own_t ht
    simp only [own_pure, own_s64] at e1
    split at e1 <;> cases e1
    exact ⟨XS.lshr h hx rfl hd rfl hr, rfl⟩
  | lushr =>
    obtain ⟨rfl, rfl⟩ := own_t ht
    simp only [own_pure, own_s64] at e1
    split at e1 <;> cases e1
    exact ⟨XS.lushr h hx rfl hd rfl hr, rfl⟩
  | lneg =>
    obtain ⟨rfl, rfl⟩ := own_t ht
    simp only [own_pure, own_u64] at e1
    split at e1 <;> cases e1
    exact ⟨XS.lneg h hx rfl hd rfl hr, rfl⟩
  | l2i =>
    obtain ⟨rfl, rfl⟩ := own_t ht
    simp only [own_pure, own_u64] at e1
    split at e1 <;> cases e1
    exact ⟨XS.l2i h hx rfl hd rfl hr, rfl⟩
  | iinc k z =>
    obtain ⟨rfl, rfl⟩ := own_t ht
    simp only [own_pure] at e1
    split at e1 <;> try cases e1
    rename_i v hv
    split at e1 <;> cases e1
    rename_i hw
    exact ⟨XS.iinc h hx rfl hd (own_get hv) (own_sto_ok (n := n) hw).1 hr, (own_sto_ok (n := n) hw).2⟩
  | dup =>
    obtain ⟨rfl, rfl⟩ := own_t ht
    simp only [own_pure] at e1
    split at e1 <;> try cases e1
    split at e1 <;> cases e1
    rename_i hv
    exact ⟨XS.dup h hx rfl hd rfl (by rw [own_cat]; exact hv) hr, rfl⟩
  | pop =>
    obtain ⟨rfl, rfl⟩ := own_t ht
    simp only [own_pure] at e1
    split at e1 <;> try cases e1
    split at e1 <;> cases e1
    rename_i hv
    exact ⟨XS.pop h hx rfl hd rfl (by rw [own_cat]; exact hv) hr, rfl⟩
  | dup_x1 =>
    obtain ⟨rfl, rfl⟩ := own_t ht
    simp only [own_pure] at e1
    split at e1 <;> try cases e1
    split at e1 <;> cases e1
    rename_i hv
    exact ⟨XS.dupX1 h hx rfl hd rfl (by rw [own_cat]; exact hv.1) (by rw [own_cat]; exact hv.2) hr, rfl⟩
  | dup_x2 =>
    obtain ⟨rfl, rfl⟩ := own_t ht
    simp only [own_pure] at e1
    split at e1 <;> try cases e1
    split at e1 <;> cases e1
    rename_i hv
    exact ⟨own_dupx2 h hx rfl hd rfl (by rw [own_cat]; exact hv.1) (by rw [own_cat]; exact hv.2.1) (by rw [own_cat]; exact hv.2.2) hr, rfl⟩
  | dup2 =>
    obtain ⟨rfl, rfl⟩ := own_t ht
    simp only [own_pure] at e1
    split at e1 <;> try cases e1
    · exact ⟨Jvm.Free.XT.dup2L h hx rfl hd rfl hr, rfl⟩
    · split at e1 <;> cases e1
      rename_i hv
      exact ⟨Jvm.Free.XT.dup2 h hx rfl hd rfl (by rw [own_cat]; exact hv.1) (by rw [own_cat]; exact hv.2) hr, rfl⟩
  | goto o =>
    obtain ⟨rfl, h1, h2⟩ := own_tj ht
    cases e1
    exact ⟨XS.goto h hx rfl (pc0 := pc) rfl hd h1 h2 hr, rfl⟩
  | ifCond cd o =>
    obtain ⟨rfl, h1, h2⟩ := own_tj ht
    simp only [own_pure] at e1
    split at e1 <;> try cases e1
    unfold own_br at e1
    split at e1 <;> cases e1
    · rename_i hb
      exact ⟨XS.ifYes h hx rfl (pc0 := pc) rfl hd rfl hb h1 h2 hr, rfl⟩
    · rename_i hb
      exact ⟨XS.ifNo h hx rfl hd rfl hb hr, rfl⟩
  | if_icmp cd o =>
    obtain ⟨rfl, h1, h2⟩ := own_tj ht
    simp only [own_pure] at e1
    split at e1 <;> try cases e1
    unfold own_br at e1
    split at e1 <;> cases e1
    · rename_i hb
      exact ⟨XS.icmpYes h hx rfl (pc0 := pc) rfl hd rfl hb h1 h2 hr, rfl⟩
    · rename_i hb
      exact ⟨XS.icmpNo h hx rfl hd rfl hb hr, rfl⟩
  | ifnull o =>
    obtain ⟨rfl, h1, h2⟩ := own_tj ht
    simp only [own_pure] at e1
    split at e1 <;> cases e1
    · exact ⟨XS.ifnullYes h hx rfl (pc0 := pc) rfl hd rfl h1 h2 hr, rfl⟩
    · exact ⟨XS.ifnullNo h hx rfl hd rfl hr, rfl⟩
  | ifnonnull o =>
    obtain ⟨rfl, h1, h2⟩ := own_tj ht
    simp only [own_pure] at e1
    split at e1 <;> cases e1
    · exact ⟨XS.ifnonnullNo h hx rfl hd rfl hr, rfl⟩
    · exact ⟨XS.ifnonnullYes h hx rfl (pc0 := pc) rfl hd rfl h1 h2 hr, rfl⟩
  | lookupswitch df ps =>
    simp only [own_pure] at e1
    split at e1 <;> try cases e1
    split at e1 <;> cases e1
    rename_i hj
    unfold own_jmp at hj
    split at hj <;> cases hj
    rename_i h1
    have ht' : ((ps.toList.zip ps.toList.tail).all fun q => decide (q.1.1 < q.2.1)) = true := ht
    exact ⟨own_lsw h hx rfl (pc0 := pc) (fun a b a' b' hm => by simpa using List.all_eq_true.mp ht' _ hm) rfl hd rfl h1 rfl hr, rfl⟩
  | _ => exact nomatch (show (none : Option OFr) = some _ from e1)
end OwnPure
/-! ### the heap -/
def own_cw (K : List OKls) : OCell → Nat
  | (.inl k, _) => (match K[k]? with | some c => c.2.1 | none => 0)
  | (.inr _, vs) => vs.length
def own_w (K : List OKls) (H : OHeap) : Nat := (H.map (own_cw K)).sum
def own_repC (Z : State) (n : Nat) (K : List OKls) (h : Heap) (a : Addr) : OCell → Prop
  | (.inl k, vs) => ∃ c : OKls, K[k]? = some c ∧ Exa Z h a c.1 ∧ vs.length = c.2.2.length ∧ ∀ (j : Nat) (f : OFld) (v : Value), c.2.2[j]? = some f → vs[j]? = some v → Fld Z h a f.1 f.2.1 f.2.2.1 (own_sh n v)
  | (.inr ty, vs) => ∃ cl : Cell, Arr Z h a cl ty ∧ cl.slots = (vs.map (own_sh n)).toArray ∧ vs.length < 2 ^ 31 ∧ Exa Z h a ("[" ++ ty.toString) ∧ own_prim ty = true ∧ ∀ v ∈ vs, fits ty v = true
def own_rep (Z : State) (n : Nat) (K : List OKls) (H : OHeap) (h : Heap) : Prop := h.size = n + H.length ∧ ∀ (i : Nat) (c : OCell), H[i]? = some c → own_repC Z n K h (n + i) c
/-- what the class table says is so -/
def own_okK (Z : State) (a0 : Array Value) (K : List OKls) : Prop := ∀ (k : Nat) (c : OKls), K[k]? = some c → (Jvm.Cond.instantiable c.1 c.2.1).before a0 Z = true ∧ (Jvm.Cond.initialized c.1).before a0 Z = true ∧
  (∀ f ∈ c.2.2, Laid Z a0 c.1 f.1 f.2.1 f.2.2.1 ∧ parseFieldDescriptor f.2.2.1 = some f.2.2.2) ∧ (c.2.2.map fun f => f.2.1).Nodup
theorem own_default (n : Nat) (ty : FieldType) : own_sh n (defaultValue ty) = defaultValue ty := by cases ty <;> rfl
theorem own_fit_default {ty : FieldType} (h : own_prim ty = true) : fits ty (defaultValue ty) = true := by cases ty <;> first | rfl | decide | cases h
theorem own_nar_ok {n : Nat} {ty : FieldType} {v w : Value} (h : own_nar ty v = some w) : narrow ty (own_sh n v) = own_sh n w ∧ fits ty (own_sh n w) = true ∧ fits ty w = true := by
  unfold own_nar at h
  split at h <;> cases h
  · exact ⟨rfl, rfl, rfl⟩
  · exact ⟨rfl, rfl, rfl⟩
  · exact ⟨rfl, fits_nar_bool _, fits_nar_bool _⟩
  · exact ⟨rfl, fits_nar_byte _, fits_nar_byte _⟩
  · exact ⟨rfl, fits_nar_char _, fits_nar_char _⟩
  · exact ⟨rfl, fits_nar_short _, fits_nar_short _⟩
  · exact ⟨rfl, rfl, rfl⟩
  · exact ⟨rfl, rfl, rfl⟩
  · exact ⟨rfl, rfl, rfl⟩
  · exact ⟨rfl, rfl, rfl⟩
theorem own_prim_sh {n : Nat} {ty : FieldType} (h : own_prim ty = true) {v : Value} (hf : fits ty v = true) : own_sh n v = v := by
  cases v <;> first | rfl | (cases ty <;> first | (simp [own_prim] at h; done) | (simp [fits] at hf; done))
section OwnHeap
variable {Z : State} {n : Nat} {K : List OKls} {H : OHeap} {h h' : Heap}
theorem own_repC_ext {a : Addr} {c : OCell} (E : Ext h h') (q : own_repC Z n K h a c) : own_repC Z n K h' a c := by
  obtain ⟨k | ty, vs⟩ := c
  · obtain ⟨c, h1, h2, h3, h4⟩ := q
    exact ⟨c, h1, h2.ext E, h3, fun j f v e1 e2 => (h4 j f v e1 e2).ext E⟩
  · obtain ⟨cl, h1, h2, h3, h4, h5⟩ := q
    exact ⟨cl, h1.ext E, h2, h3, h4.ext E, h5⟩
theorem own_repC_other {a b : Addr} {c : OCell} {sl : Nat} {v : Value} (W : Wr h h' a sl v) (hne : b ≠ a) (q : own_repC Z n K h b c) : own_repC Z n K h' b c := by
  obtain ⟨k | ty, vs⟩ := c
  · obtain ⟨c, h1, h2, h3, h4⟩ := q
    exact ⟨c, h1, h2.wr W, h3, fun j f v e1 e2 => (h4 j f v e1 e2).other W (Or.inl hne)⟩
  · obtain ⟨cl, h1, h2, h3, h4, h5⟩ := q
    exact ⟨cl, h1.other W hne, h2, h3, h4.wr W, h5⟩
theorem own_repC_keep {a b : Addr} {c : OCell} (W : Keep h h' [a]) (hne : b ≠ a) (q : own_repC Z n K h b c) : own_repC Z n K h' b c := by
  have hn : b ∉ [a] := by simpa using hne
  obtain ⟨k | ty, vs⟩ := c
  · obtain ⟨c, h1, h2, h3, h4⟩ := q
    exact ⟨c, h1, h2.keep W, h3, fun j f v e1 e2 => (h4 j f v e1 e2).keep W hn⟩
  · obtain ⟨cl, h1, h2, h3, h4, h5⟩ := q
    exact ⟨cl, ⟨W.2.1 _ _ h1.1 hn, h1.2⟩, h2, h3, h4.keep W, h5⟩
theorem own_rep_push {c : OCell} (q : own_rep Z n K H h) (E : Ext h h') (hs : h'.size = h.size + 1) (hc : own_repC Z n K h' (n + H.length) c) : own_rep Z n K (H ++ [c]) h' := by
  refine ⟨by rw [hs, q.1, List.length_append]; simp only [List.length_cons, List.length_nil]; omega, fun i d hd => ?_⟩
  rcases Nat.lt_trichotomy i H.length with hi | hi | hi
  · rw [List.getElem?_append_left hi] at hd
    exact own_repC_ext E (q.2 i d hd)
  · subst hi
    rw [List.getElem?_append_right (Nat.le_refl _)] at hd
    simp only [Nat.sub_self, List.getElem?_cons_zero, Option.some.injEq] at hd
    subst hd; exact hc
  · rw [List.getElem?_append_right (by omega), List.getElem?_eq_none (by simp only [List.length_cons, List.length_nil]; omega)] at hd
    cases hd
theorem own_rep_set {a : Nat} {c c' : OCell} (q : own_rep Z n K H h) (ha : H[a]? = some c) (hs : h'.size = h.size) (ho : ∀ (b : Nat) (d : OCell), b ≠ a → H[b]? = some d → own_repC Z n K h' (n + b) d) (hc : own_repC Z n K h' (n + a) c') : own_rep Z n K (H.set a c') h' := by
  refine ⟨by rw [hs, q.1, List.length_set], fun i d hd => ?_⟩
  by_cases e : i = a
  · subst e
    rw [List.getElem?_set_self (List.getElem?_eq_some_iff.mp ha).1] at hd
    cases hd; exact hc
  · rw [List.getElem?_set_ne (Ne.symm e)] at hd
    exact ho i d e hd
theorem own_obj_at {a k : Nat} {vs : List Value} (h1 : own_obj H a k = some vs) : H[a]? = some (.inl k, vs) := by
  unfold own_obj at h1
  split at h1 <;> try cases h1
  rename_i k' ws hk
  split at h1 <;> cases h1
  rename_i e; subst e; exact hk
theorem own_arr_at {a : Nat} {ty : FieldType} {vs : List Value} (h1 : own_arr H a ty = some vs) : H[a]? = some (.inr ty, vs) := by
  unfold own_arr at h1
  split at h1 <;> try cases h1
  rename_i k' ws hk
  split at h1 <;> cases h1
  rename_i e; subst e; exact hk
theorem own_ix_ok {j : Int32} {q : Nat} (h1 : own_ix j = some q) : ¬ j < 0 ∧ j.toNatClampNeg = q := by
  unfold own_ix at h1
  split at h1 <;> cases h1
  rename_i e; exact ⟨e, rfl⟩
theorem own_rep_fld {a0 : Array Value} {a k j : Nat} {vs : List Value} {c : OKls} {f : OFld} {w : Value} (hK : own_okK Z a0 K) (q : own_rep Z n K H h) (ha : H[a]? = some (.inl k, vs)) (hk : K[k]? = some c) (hf : c.2.2[j]? = some f) (W : Wr h h' (n + a) (Jvm.RoadKit.slotOf Z f.1 f.2.1 f.2.2.1) (own_sh n w)) :
    own_rep Z n K (H.set a (.inl k, vs.set j w)) h' := by
  refine own_rep_set q ha W.size (fun b d hb hd => own_repC_other W (fun e => hb (Nat.add_left_cancel e)) (q.2 b d hd)) ?_
  obtain ⟨c', h1, h2, h3, h4⟩ := q.2 a _ ha
  cases hk.symm.trans h1
  refine ⟨c, hk, h2.wr W, by rw [List.length_set]; exact h3, fun j' f' v e1 e2 => ?_⟩
  obtain ⟨-, -, hL, hN⟩ := hK k c hk
  by_cases e : j' = j
  · subst e
    cases hf.symm.trans e1
    have hlt : j' < vs.length := by rw [h3]; exact (List.getElem?_eq_some_iff.mp hf).1
    rw [List.getElem?_set_self hlt] at e2
    cases e2
    exact (h4 j' f _ hf (List.getElem?_eq_getElem hlt)).same W
  · rw [List.getElem?_set_ne (Ne.symm e)] at e2
    refine (h4 j' f' v e1 e2).other W (Or.inr ?_)
    obtain ⟨l1, t1⟩ := hL f' (List.mem_of_getElem? e1)
    obtain ⟨l2, t2⟩ := hL f (List.mem_of_getElem? hf)
    refine Jvm.RoadKit.slot_ne l1 l2 (fun en => e ?_) t1 t2
    obtain ⟨i1, g1⟩ := List.getElem?_eq_some_iff.mp e1
    obtain ⟨i2, g2⟩ := List.getElem?_eq_some_iff.mp hf
    have := (List.getElem_inj (i := j') (j := j) (h₀ := by rw [List.length_map]; exact i1) (h₁ := by rw [List.length_map]; exact i2) hN).mp (by rw [List.getElem_map, List.getElem_map, g1, g2]; exact en)
    exact this
theorem own_rep_elem {a q : Nat} {ty : FieldType} {vs : List Value} {w : Value} {cl : Cell} (r : own_rep Z n K H h) (ha : H[a]? = some (.inr ty, vs)) (A : Arr Z h (n + a) cl ty) (hs : cl.slots = (vs.map (own_sh n)).toArray) (hf : fits ty w = true) (W : Wr h h' (n + a) q (own_sh n w)) :
    own_rep Z n K (H.set a (.inr ty, vs.set q w)) h' := by
  refine own_rep_set r ha W.size (fun b d hb hd => own_repC_other W (fun e => hb (Nat.add_left_cancel e)) (r.2 b d hd)) ?_
  obtain ⟨cl', h1, h2, h3, h4, h5, h6⟩ := r.2 a _ ha
  refine ⟨cl.setSlot q (own_sh n w), A.same W, ?_, by rw [List.length_set]; exact h3, h4.wr W, h5, fun v hv => ?_⟩
  · show cl.slots.setIfInBounds q (own_sh n w) = _
    rw [hs]; simp [List.map_set]
  · rcases List.mem_or_eq_of_mem_set hv with h7 | rfl
    · exact h6 v h7
    · exact hf
theorem own_w_app (c : OCell) : own_w K (H ++ [c]) = own_w K H + own_cw K c := by simp [own_w]
theorem own_w_set {a : Nat} {c c' : OCell} (ha : H[a]? = some c) (hw : own_cw K c' = own_cw K c) : own_w K (H.set a c') = own_w K H := by
  unfold own_w
  rw [List.map_set, hw]
  have : (H.map (own_cw K))[a]? = some (own_cw K c) := by simp [ha]
  congr 1
  obtain ⟨i, e⟩ := List.getElem?_eq_some_iff.mp this
  rw [← e]; exact List.set_getElem_self i
end OwnHeap
/-! ### the words of the sheet -/
def own_okD (k : Nat) (mj : OMth) : Prop := ∃ ps r, parseMethodDescriptor mj.nm.desc = some ⟨ps, r⟩ ∧ ps.length + k = mj.na
def own_okY (y : MethodName) : Prop := y.cls ≠ "java/lang/invoke/MethodHandle" ∧ y.cls ≠ "java/lang/invoke/VarHandle"
def own_okE (Z : State) (a0 : Array Value) (P : OPrg) (y : MethodName) (x : Nat) (t : OEnt) : Prop :=
  match t with
  | (0, j, _, _) => ∃ mj : OMth, P.1[j]? = some mj ∧ (Jvm.Cond.methodLink y.cls x mj.nm).before a0 Z = true ∧ (Jvm.Cond.static mj.nm).before a0 Z = true ∧ (Jvm.Cond.initialized mj.nm.cls).before a0 Z = true ∧ own_okY mj.nm ∧ own_okD 0 mj
  | (1, j, _, _) => ∃ mj : OMth, P.1[j]? = some mj ∧ mj.nm.name = "<init>" ∧ mj.rt = none ∧ (Jvm.Cond.methodLink y.cls x mj.nm).before a0 Z = true ∧ (Jvm.Cond.instanceMethod mj.nm).before a0 Z = true ∧ (Jvm.Cond.initialized mj.nm.cls).before a0 Z = true ∧ own_okY mj.nm ∧ own_okD 1 mj
  | (2, _, _, _) => (Jvm.Cond.methodLink y.cls x Lib.objectInit).before a0 Z = true ∧ (Jvm.Cond.instanceMethod Lib.objectInit).before a0 Z = true ∧ (Jvm.Cond.code Lib.objectInit ⟨#[0xb1]⟩ 1 none).before a0 Z = true
  | (3, j, k, _) => ∃ (mj : OMth) (c : OKls) (v : MethodName), P.1[j]? = some mj ∧ P.2.1[k]? = some c ∧ v.desc = mj.nm.desc ∧ (Jvm.Cond.methodLink y.cls x v).before a0 Z = true ∧ (Jvm.Cond.declares v).before a0 Z = true ∧ (Jvm.Cond.selects c.1 v mj.nm).before a0 Z = true ∧ (Jvm.Cond.instanceMethod mj.nm).before a0 Z = true ∧ (Jvm.Cond.initialized mj.nm.cls).before a0 Z = true ∧ (∀ s : State, Z.Warmed39 s.vm → NotFace s v) ∧ own_okY v ∧ own_okD 1 mj
  | (4, j, _, _) => ∃ mj : OMth, P.1[j]? = some mj ∧ (Jvm.Cond.methodLink y.cls x mj.nm).before a0 Z = true ∧ (Jvm.Cond.instanceMethod mj.nm).before a0 Z = true ∧ (Jvm.Cond.privateMethod mj.nm).before a0 Z = true ∧ (∀ s : State, Z.Warmed39 s.vm → NotFace s mj.nm) ∧ (Jvm.Cond.initialized mj.nm.cls).before a0 Z = true ∧ own_okY mj.nm ∧ own_okD 1 mj
  | (5, j, k, _) => ∃ (mj : OMth) (c : OKls), P.1[j]? = some mj ∧ P.2.1[k]? = some c ∧ mj.nm.name ≠ "<init>" ∧ (Jvm.Cond.methodLink y.cls x mj.nm).before a0 Z = true ∧ (Jvm.Cond.instanceMethod mj.nm).before a0 Z = true ∧ (Jvm.Cond.superclass y.cls mj.nm.cls).before a0 Z = true ∧ NotFace Z mj.nm ∧ (Jvm.Cond.initialized mj.nm.cls).before a0 Z = true ∧ own_okY mj.nm ∧ own_okD 1 mj
  | (13, j, k, _) => ∃ (mj : OMth) (c : OKls) (v : MethodName) (ow : String), P.1[j]? = some mj ∧ P.2.1[k]? = some c ∧ v.desc = mj.nm.desc ∧ (Jvm.Cond.methodLink y.cls x v).before a0 Z = true ∧ (Jvm.Cond.sameMethod v.cls ow v.name v.desc).before a0 Z = true ∧ (Jvm.Cond.declares ⟨ow, v.name, v.desc⟩).before a0 Z = true ∧ (Jvm.Cond.selects c.1 v mj.nm).before a0 Z = true ∧ (Jvm.Cond.instanceMethod mj.nm).before a0 Z = true ∧ (Jvm.Cond.initialized mj.nm.cls).before a0 Z = true ∧ (ow ≠ "java/lang/invoke/MethodHandle" ∧ ow ≠ "java/lang/invoke/VarHandle") ∧ own_okD 1 mj
  | (6, k, j, u) => ∃ (c : OKls) (f : OFld) (R0 : String), P.2.1[k]? = some c ∧ c.2.2[j]? = some f ∧ (Jvm.Cond.fieldLink y.cls x R0 f.2.1 f.2.2.1).before a0 Z = true ∧ Via Z R0 f.1 f.2.1 f.2.2.1 ∧
      (u = 1 → (Jvm.Cond.lays c.1 f.1 f.2.1 f.2.2.1).before a0 Z = true ∨ ((Jvm.Cond.laysFinal c.1 f.1 f.2.1 f.2.2.1).before a0 Z = true ∧ y.cls = f.1 ∧ y.name = "<init>"))
  | (7, k, _, _) => ∃ c : OKls, P.2.1[k]? = some c ∧ (Jvm.Cond.classLink y.cls x c.1).before a0 Z = true
  | (8, _, _, v) => (Jvm.Cond.constant y.cls x (Int32.ofInt v)).before a0 Z = true
  | (9, _, _, v) => (Jvm.Cond.constantLong y.cls x (Int64.ofInt v)).before a0 Z = true
  | (10, _, _, _) => (Jvm.Cond.methodLink y.cls x Jvm.Stand.acN).before a0 Z = true ∧ (Jvm.Cond.native Jvm.Stand.acN).before a0 Z = true ∧ (Jvm.Cond.static Jvm.Stand.acN).before a0 Z = true ∧ (Jvm.Cond.initialized "java/lang/System").before a0 Z = true
  | (11, _, _, _) => (Jvm.Cond.methodLink y.cls x ⟨"[I", "clone", "()Ljava/lang/Object;"⟩).before a0 Z = true ∧ (Jvm.Cond.sameMethod "[I" "java/lang/Object" "clone" "()Ljava/lang/Object;").before a0 Z = true ∧ (Jvm.Cond.native ⟨"java/lang/Object", "clone", "()Ljava/lang/Object;"⟩).before a0 Z = true ∧ (Jvm.Cond.instanceMethod ⟨"java/lang/Object", "clone", "()Ljava/lang/Object;"⟩).before a0 Z = true ∧ (Jvm.Cond.selects "[I" ⟨"[I", "clone", "()Ljava/lang/Object;"⟩ ⟨"java/lang/Object", "clone", "()Ljava/lang/Object;"⟩).before a0 Z = true ∧ (Jvm.Cond.castable "[I" "java/lang/Cloneable").before a0 Z = true
  | (12, _, _, _) => (Jvm.Cond.classLink y.cls x "[I").before a0 Z = true
  | _ => False
def own_okM (Z : State) (a0 : Array Value) (P : OPrg) (mt : OMth) : Prop :=
  plainName mt.nm.cls = true ∧ (Jvm.Cond.code mt.nm mt.bs mt.ml mt.rt).before a0 Z = true ∧ (∀ r ∈ mt.cd, ∀ x ∈ r, own_okI mt.bs x = true) ∧ ∀ x ∈ mt.en, own_okE Z a0 P mt.nm x.1 x.2
/-- all that the tables of a claim owe -/
def own_good (Z : State) (a0 : Array Value) (P : OPrg) : Prop := (∀ mt ∈ P.1, own_okM Z a0 P mt) ∧ own_okK Z a0 P.2.1 ∧ ∀ ty ∈ P.2.2, (Jvm.Cond.arrayClass ty).before a0 Z = true ∧ own_prim ty = true
theorem own_ent_mem : ∀ {r : List (Nat × OEnt)} {x : Nat} {t : OEnt}, own_ent r x = some t → (x, t) ∈ r
  | [], _, _, h => by cases h
  | (k, i) :: r, x, t, h => by
    simp only [own_ent] at h
    split at h
    · rename_i e; subst e; cases h; exact List.mem_cons_self ..
    · exact List.mem_cons_of_mem _ (own_ent_mem h)
theorem own_wt_sh {n : Nat} (S : List Value) : ((S.map (own_sh n)).map fun v => v.category).sum = own_wt S := by
  unfold own_wt
  rw [List.map_map]
  congr 1
  exact List.map_congr_left fun v _ => own_cat v
theorem own_split_ok : ∀ {k : Nat} {S acc as r : List Value}, own_split k S acc = some (as, r) → as.reverse ++ r = acc.reverse ++ S ∧ as.length = acc.length + k
  | 0, S, acc, as, r, h => by cases h; exact ⟨rfl, rfl⟩
  | k + 1, v :: S, acc, as, r, h => by
    obtain ⟨h1, h2⟩ := own_split_ok (k := k) h
    exact ⟨by rw [h1]; simp, by rw [h2]; simp only [List.length_cons]; omega⟩
  | _ + 1, [], _, _, _, h => by cases h
theorem own_args_ok {n : Nat} (as : List Value) (ml : Nat) : argsToLocals (as.map (own_sh n)).toArray ml = ((own_entry as ml).map (own_shS n)).toArray := by
  have key : ∀ (as : List Value) (acc : Array Slot), (as.map (own_sh n)).foldl (fun acc v => if v.category = 2 then (acc.push (.val v)).push .second else acc.push (.val v)) acc = acc ++ ((as.flatMap fun v => if v.category = 2 then [Slot.val v, .second] else [Slot.val v]).map (own_shS n)).toArray := by
    intro as
    induction as with
    | nil => intro acc; simp
    | cons v r ih =>
      intro acc
      simp only [List.map_cons, List.foldl_cons, own_cat, List.flatMap_cons, List.map_append]
      split
      · rw [ih]
        apply Array.ext'
        simp [own_shS, own_sh]
      · rw [ih]
        apply Array.ext'
        simp [own_shS, own_sh]
  have k0 := key as #[]
  simp only [Array.empty_append] at k0
  unfold argsToLocals own_entry
  simp only [List.foldl_toArray', List.size_toArray]
  rw [k0]
  apply Array.ext'
  simp [own_shS]
section OwnArr
variable {Z : State} {n : Nat} {K : List OKls} {H H' : OHeap} {h : Heap} {ty : FieldType} {t pc' : Nat} {L L' : List Slot} {S S' : List Value}
theorem own_in {j : Int32} {q k : Nat} (hq : own_ix j = some q) (hk : q < k) : ¬ (j < 0 ∨ k ≤ j.toNatClampNeg) := by
  obtain ⟨h1, h2⟩ := own_ix_ok hq
  rintro (h3 | h3)
  · exact h1 h3
  · omega
theorem own_ald_ok (hr : own_rep Z n K H h) (hs : own_ald ty t L S H = some (pc', L', S', H')) : ∃ (j : Int32) (a : Nat) (r : List Value) (v : Value) (cl : Cell), S = .int j :: .ref a :: r ∧ pc' = t ∧ L' = L ∧ S' = v :: r ∧ H' = H ∧ Arr Z h (n + a) cl ty ∧ ¬ (j < 0 ∨ cl.slots.size ≤ j.toNatClampNeg) ∧ cl.slots[j.toNatClampNeg]? = some (own_sh n v) := by
  unfold own_ald at hs
  split at hs <;> try cases hs
  rename_i j a r
  split at hs <;> try cases hs
  rename_i vs ha
  split at hs <;> try cases hs
  rename_i q hq
  split at hs <;> cases hs
  rename_i v hv
  obtain ⟨cl, A, h2, -⟩ := hr.2 a _ (own_arr_at ha)
  have hsz : cl.slots.size = vs.length := by rw [h2]; simp
  refine ⟨j, a, r, v, cl, rfl, rfl, rfl, rfl, rfl, A, by rw [hsz]; exact own_in hq (List.getElem?_eq_some_iff.mp hv).1, ?_⟩
  rw [(own_ix_ok hq).2, h2]
  simp [hv]
theorem own_ast_ok (hr : own_rep Z n K H h) (hs : own_ast ty t L S H = some (pc', L', S', H')) : ∃ (v w : Value) (j : Int32) (a q : Nat) (r vs : List Value) (cl : Cell), S = v :: .int j :: .ref a :: r ∧ pc' = t ∧ L' = L ∧ S' = r ∧ H' = H.set a (.inr ty, vs.set q w) ∧ H[a]? = some (.inr ty, vs) ∧ Arr Z h (n + a) cl ty ∧ cl.slots = (vs.map (own_sh n)).toArray ∧ ¬ (j < 0 ∨ cl.slots.size ≤ j.toNatClampNeg) ∧ j.toNatClampNeg = q ∧ own_nar ty v = some w := by
  unfold own_ast at hs
  split at hs <;> try cases hs
  rename_i v j a r
  split at hs <;> try cases hs
  rename_i vs ha
  split at hs <;> try cases hs
  rename_i q hq
  split at hs <;> try cases hs
  rename_i hlt
  split at hs <;> cases hs
  rename_i w hw
  obtain ⟨cl, A, h2, -⟩ := hr.2 a _ (own_arr_at ha)
  have hsz : cl.slots.size = vs.length := by rw [h2]; simp
  exact ⟨v, w, j, a, q, _, vs, cl, rfl, rfl, rfl, rfl, rfl, own_arr_at ha, A, h2, by rw [hsz]; exact own_in hq hlt, (own_ix_ok hq).2, hw⟩
theorem own_len {k : Nat} (hk : k < 2 ^ 31) : k.toInt32.toNatClampNeg = k ∧ ¬ k.toInt32 < 0 := by
  have e := len_toInt hk
  constructor
  · simp only [Int32.toNatClampNeg, e]; omega
  · rw [Int32.lt_iff_toInt_lt, e]; have : (0 : Int32).toInt = 0 := rfl
    omega
theorem own_map_prim (hp : own_prim ty = true) {vs : List Value} (hf : ∀ v ∈ vs, fits ty v = true) : vs.map (own_sh n) = vs := by
  conv => rhs; rw [← List.map_id vs]
  exact List.map_congr_left fun v hv => own_prim_sh hp (hf v hv)
theorem own_arv {a : Addr} {vs : List Value} {dv : Value} (q : own_repC Z n K h a (.inr ty, vs)) : ∃ k, Arv Z h a k ty vs.length.toInt32 vs dv := by
  obtain ⟨cl, A, h2, h3, h4, h5, h6⟩ := q
  rw [own_map_prim h5 h6] at h2
  obtain ⟨e1, e2⟩ := own_len h3
  have hsz : cl.slots.size = vs.length := by rw [h2]; simp
  have hg : ∀ i, i < vs.length → vs[i]? = some (vs.getD i dv) := fun i hi => by simp [List.getD_eq_getElem?_getD, hi]
  refine ⟨cl.cls, cl, A, rfl, by rw [hsz, e1], e2, fun i hi => ?_, fun i hi => ?_⟩
  · rw [hsz] at hi; rw [h2]; simpa using hg i hi
  · rw [hsz] at hi
    exact h6 _ (List.mem_of_getElem? (hg i hi))
theorem own_arv_inv {a : Addr} {k : ClassId} {z : Int32} {vs : List Value} {dv : Value} (hz : z.toNatClampNeg = vs.length) (hl : vs.length < 2 ^ 31) (hp : own_prim ty = true) (F : Arv Z h a k ty z vs dv) (E : Exa Z h a ("[" ++ ty.toString)) : own_repC Z n K h a (.inr ty, vs) := by
  obtain ⟨cl, A, -, h2, -, h4, h5⟩ := F
  rw [hz] at h2
  have hg : ∀ i, i < vs.length → vs[i]? = some (vs.getD i dv) := fun i hi => by simp [List.getD_eq_getElem?_getD, hi]
  have hf : ∀ v ∈ vs, fits ty v = true := fun v hv => by
    obtain ⟨i, hi, e⟩ := List.mem_iff_getElem.mp hv
    have := h5 i (by omega)
    rw [List.getD_eq_getElem?_getD, List.getElem?_eq_getElem hi] at this
    rw [← e]; exact this
  refine ⟨cl, A, ?_, hl, E, hp, hf⟩
  rw [own_map_prim hp hf]
  apply Array.ext
  · simp [h2]
  · intro i hi1 hi2
    have h7 := h4 i hi1
    rw [Array.getElem?_eq_getElem hi1] at h7
    have h8 := hg i (by omega)
    rw [List.getElem?_eq_getElem (by omega)] at h8
    simp only [List.getElem_toArray]
    exact (Option.some.inj h7).trans (Option.some.inj h8).symm
theorem own_us {vs : List Value} {p k : Nat} {dv : Value} (h : p + k ≤ vs.length) : (vs.drop p).take k = (List.range k).map fun i => vs.getD (p + i) dv := by
  apply List.ext_getElem
  · simp; omega
  · intro i h1 h2
    simp only [List.length_map, List.length_range] at h2
    simp [List.getD_eq_getElem?_getD, show p + i < vs.length by omega]
end OwnArr
section OwnMain
variable {l : Launch} {Z : State} {a0 : Array Value} {n : Nat} {P : OPrg}
set_option maxHeartbeats 4000000 in
theorem own_heap_ok (G : own_good Z a0 P) {mt : OMth} (hM : mt ∈ P.1) {d lo : Nat} {i : Instr} {t pc pc' len : Nat} {L L' : List Slot} {S S' : List Value} {H H' : OHeap} (hs : own_heap P mt d lo i t L S H = some (pc', L', S', H'))
    {p : Program} {e : Env} {R : Room} {s : State} {m : MethodId} {args : Array Value} {below : List Frame} {meth : Method} {c : Code} {T : State} {locs : List Loc} {cells slots : Nat}
    (X : Stand p l e R s m args below meth c T locs cells slots) (hx : p.tables.exec = Jvm.exec) (hZ : Z.Warmed39 s.vm) (hml : c.maxLocals = mt.ml) (hown : s.vm.findClass mt.nm.cls = some m.cls) (hnm : meth.name = mt.nm.name)
    (hd : decode c.code pc = .ok (i, len)) (ht : own_tgt pc len t i = true) (hL : L.length = mt.ml) (hbd : s.heap.size + cells = n + H.length ∨ (H = [] ∧ P.2.1 = [] ∧ P.2.2 = []))
    (hr : own_rep Z n P.2.1 H T.heap) (hf : Fr n locs) (hdf : d ≤ R.frames) (hlo : lo ≤ R.locals) (hce : cells + (H'.length - H.length) ≤ R.cells) (hsl : slots + (own_w P.2.1 H' - own_w P.2.1 H) ≤ R.slots) :
    L' = L ∧ H.length ≤ H'.length ∧ own_w P.2.1 H ≤ own_w P.2.1 H' ∧ ∃ (T' : State) (locs' : List Loc), Stand p l e R s m args below meth c T' locs' (cells + (H'.length - H.length)) (slots + (own_w P.2.1 H' - own_w P.2.1 H)) ∧ own_rep Z n P.2.1 H' T'.heap ∧ Fr n locs' ∧
      ∀ target, Steps p.tables e below (T'.setTop (own_fr n m pc' L' S')) target → Steps p.tables e below (T.setTop (own_fr n m pc L S)) target := by
  obtain ⟨GM, GK, GA⟩ := G
  obtain ⟨-, -, -, GE⟩ := GM mt hM
  have hz : (L.map (own_shS n)).toArray.size = c.maxLocals := by rw [hml, ← hL]; simp
  have ent : ∀ {x t}, own_ent mt.en x = some t → own_okE Z a0 P mt.nm x t := fun h => GE _ (own_ent_mem h)
  have same : ∀ {T' : State} {S' : List Value} {pc' : Nat}, Stand p l e R s m args below meth c T' locs cells slots → T'.heap = T.heap → (∀ target, Steps p.tables e below (T'.setTop (own_fr n m pc' L S')) target → Steps p.tables e below (T.setTop (own_fr n m pc L S)) target) →
      L = L ∧ H.length ≤ H.length ∧ own_w P.2.1 H ≤ own_w P.2.1 H ∧ ∃ (T' : State) (locs' : List Loc), Stand p l e R s m args below meth c T' locs' (cells + (H.length - H.length)) (slots + (own_w P.2.1 H - own_w P.2.1 H)) ∧ own_rep Z n P.2.1 H T'.heap ∧ Fr n locs' ∧
      ∀ target, Steps p.tables e below (T'.setTop (own_fr n m pc' L S')) target → Steps p.tables e below (T.setTop (own_fr n m pc L S)) target := by
    intro T' S' pc' X' eT st
    refine ⟨rfl, Nat.le_refl _, Nat.le_refl _, T', locs, ?_, by rw [eT]; exact hr, hf, st⟩
    rw [Nat.sub_self, Nat.sub_self]; exact X'
  have wrote : ∀ {T' : State} {S' : List Value} {pc' : Nat} {a sl : Nat} {c0 c1 : OCell}, H[a]? = some c0 → own_cw P.2.1 c1 = own_cw P.2.1 c0 → Stand p l e R s m args below meth c T' (locs ++ [⟨n + a, sl⟩]) cells slots → own_rep Z n P.2.1 (H.set a c1) T'.heap → (∀ target, Steps p.tables e below (T'.setTop (own_fr n m pc' L S')) target → Steps p.tables e below (T.setTop (own_fr n m pc L S)) target) →
      L = L ∧ H.length ≤ (H.set a c1).length ∧ own_w P.2.1 H ≤ own_w P.2.1 (H.set a c1) ∧ ∃ (T' : State) (locs' : List Loc), Stand p l e R s m args below meth c T' locs' (cells + ((H.set a c1).length - H.length)) (slots + (own_w P.2.1 (H.set a c1) - own_w P.2.1 H)) ∧ own_rep Z n P.2.1 (H.set a c1) T'.heap ∧ Fr n locs' ∧
      ∀ target, Steps p.tables e below (T'.setTop (own_fr n m pc' L S')) target → Steps p.tables e below (T.setTop (own_fr n m pc L S)) target := by
    intro T' S' pc' a sl c0 c1 h0 hw X' hr' st
    have e1 : (H.set a c1).length = H.length := List.length_set ..
    have e2 : own_w P.2.1 (H.set a c1) = own_w P.2.1 H := own_w_set h0 hw
    refine ⟨rfl, by omega, by omega, T', _, ?_, hr', Fr.snoc X' hf (Nat.le_add_right _ _), st⟩
    rw [e1, e2, Nat.sub_self, Nat.sub_self]; exact X'
  have made : ∀ {T' : State} {h' : Heap} {S' : List Value} {pc' w : Nat} {c1 : OCell}, s.heap.size + cells = n + H.length → own_cw P.2.1 c1 = w → Stand p l e R s m args below meth c T' locs (cells + 1) (slots + w) → T'.heap = h' → Ext T.heap h' → T.heap.size < h'.size → own_repC Z n P.2.1 h' T.heap.size c1 → (∀ target, Steps p.tables e below (T'.setTop (own_fr n m pc' L (.ref H.length :: S'))) target → Steps p.tables e below (T.setTop (own_fr n m pc L S)) target) →
      L = L ∧ H.length ≤ (H ++ [c1]).length ∧ own_w P.2.1 H ≤ own_w P.2.1 (H ++ [c1]) ∧ ∃ (T' : State) (locs' : List Loc), Stand p l e R s m args below meth c T' locs' (cells + ((H ++ [c1]).length - H.length)) (slots + (own_w P.2.1 (H ++ [c1]) - own_w P.2.1 H)) ∧ own_rep Z n P.2.1 (H ++ [c1]) T'.heap ∧ Fr n locs' ∧
      ∀ target, Steps p.tables e below (T'.setTop (own_fr n m pc' L (.ref H.length :: S'))) target → Steps p.tables e below (T.setTop (own_fr n m pc L S)) target := by
    intro T' h' S' pc' w c1 hb hw X' eT E hlt hc st
    have e1 : (H ++ [c1]).length = H.length + 1 := by simp
    have e2 := own_w_app (K := P.2.1) (H := H) c1
    have hsz := X'.heapSize
    have h0 := hr.1
    refine ⟨rfl, by omega, by omega, T', locs, ?_, ?_, hf, st⟩
    · rw [e1, e2, hw, Nat.add_sub_cancel_left, Nat.add_sub_cancel_left]; exact X'
    · rw [eT]
      refine own_rep_push hr E (by rw [eT] at hsz; omega) ?_
      rw [← h0]; exact hc
  have cap : ∀ {c1 : OCell}, H' = H ++ [c1] → cells + 1 ≤ R.cells ∧ slots + own_cw P.2.1 c1 ≤ R.slots := by
    rintro c1 rfl
    rw [own_w_app] at hsl
    rw [List.length_append] at hce
    simp only [List.length_cons, List.length_nil] at hce
    omega
  cases i with
  | getfield x =>
    obtain ⟨rfl, rfl⟩ := own_t ht
    simp only [own_heap] at hs
    split at hs <;> try cases hs
    rename_i k j u he
    split at hs <;> try cases hs
    rename_i a r
    split at hs <;> try cases hs
    rename_i vs ho
    split at hs <;> cases hs
    rename_i v hv
    obtain ⟨kc, f, R0, h1, h2, h3, h4, -⟩ := ent he
    obtain ⟨kc', g1, -, -, g4⟩ := hr.2 a _ (own_obj_at ho)
    cases h1.symm.trans g1
    obtain ⟨T', X', eT, st⟩ := getF X hx hZ hown (host := "") (Or.inl h3) h4 rfl (g4 j f v h2 hv) (g := own_fr n m pc L (.ref a :: r)) rfl rfl hd
    exact same X' eT st
  | putfield x =>
    obtain ⟨rfl, rfl⟩ := own_t ht
    simp only [own_heap] at hs
    split at hs <;> try cases hs
    rename_i k j he
    split at hs <;> try cases hs
    rename_i v a r
    split at hs <;> try cases hs
    rename_i vs ho
    split at hs <;> try cases hs
    rename_i kc hk
    split at hs <;> try cases hs
    rename_i f hf'
    split at hs <;> cases hs
    rename_i w hw
    obtain ⟨kc', f', R0, h1, h2, h3, h4, h5⟩ := ent he
    cases hk.symm.trans h1
    cases hf'.symm.trans h2
    obtain ⟨kc', g1, g2, g3, g4⟩ := hr.2 a _ (own_obj_at ho)
    cases hk.symm.trans g1
    obtain ⟨w1, w2, w3, -⟩ := GK k kc hk
    have hj : j < vs.length := by rw [g3]; exact (List.getElem?_eq_some_iff.mp hf').1
    obtain ⟨n1, n2, -⟩ := own_nar_ok (n := n) hw
    obtain ⟨T', h', X', eT, W, st⟩ := putFN X hx hZ hown h3 h4 rfl (g4 j f _ hf' (List.getElem?_eq_getElem hj)) g2 ((h5 rfl).imp id fun q => ⟨q.1, q.2.1, hnm.trans q.2.2⟩) w1 (w3 f (List.mem_of_getElem? hf')).2 n1 n2 (g := own_fr n m pc L (v :: .ref a :: _)) rfl rfl hd
    exact wrote (own_obj_at ho) rfl X' (by rw [eT]; exact own_rep_fld GK hr (own_obj_at ho) hk hf' W) st
  | new x =>
    obtain ⟨rfl, rfl⟩ := own_t ht
    simp only [own_heap] at hs
    split at hs <;> try cases hs
    rename_i k j u he
    split at hs <;> cases hs
    rename_i kc hk
    obtain ⟨kc', h1, h2⟩ := ent he
    cases hk.symm.trans h1
    obtain ⟨w1, w2, w3, -⟩ := GK k kc hk
    have hw : own_cw P.2.1 ((.inl k, kc.2.2.map fun f => defaultValue f.2.2.2) : OCell) = kc.2.1 := by simp [own_cw, hk]
    obtain ⟨hc1, hc2⟩ := cap rfl
    rw [hw] at hc2
    obtain ⟨T', h', X', eT, E, A, D, -, st⟩ := newO X hx hZ hown h2 w1 w2 rfl (g := own_fr n m pc L S) rfl hd hc1 hc2
    refine made (hbd.resolve_right fun q => by rw [q.2.1] at hk; simp at hk) hw X' eT E A.lt ⟨kc, hk, A, by simp, fun j f v e1 e2 => ?_⟩ ?_
    · obtain ⟨l1, t1⟩ := w3 f (List.mem_of_getElem? e1)
      rw [List.getElem?_map, e1] at e2
      cases e2
      rw [own_default]
      exact D l1 t1
    · rw [hr.1] at st; exact st
  | newarray ty =>
    obtain ⟨rfl, rfl⟩ := own_t ht
    simp only [own_heap] at hs
    split at hs <;> try cases hs
    rename_i z r
    split at hs <;> try cases hs
    rename_i q hq
    split at hs <;> cases hs
    rename_i hA
    obtain ⟨hq1, hq2⟩ := own_ix_ok hq
    obtain ⟨a1, a2⟩ := GA _ hA.1
    have hw : own_cw P.2.1 ((.inr (newarray.typeOf ty), List.replicate q (defaultValue (newarray.typeOf ty))) : OCell) = q := by simp [own_cw]
    obtain ⟨hc1, hc2⟩ := cap rfl
    rw [hw] at hc2
    obtain ⟨T', h', cA, X', eT, E, A, Ex, st⟩ := newPE X hx hZ a1 rfl (g := own_fr n m pc L (.int z :: r)) rfl hd rfl hq1 (cap := q) (Nat.le_of_eq hq2) hA.2 hc1 hc2 rfl
    refine made (hbd.resolve_right fun q => by have := hA.1; rw [q.2.2] at this; simp at this) hw X' eT E Ex.lt ⟨_, A, ?_, ?_, Ex, a2, fun v hv => ?_⟩ ?_
    · simp [newA, hq2, own_default]
    · rw [List.length_replicate]; omega
    · rw [List.eq_of_mem_replicate hv]; exact own_fit_default a2
    · rw [hr.1] at st; exact st
  | arraylength =>
    obtain ⟨rfl, rfl⟩ := own_t ht
    simp only [own_heap] at hs
    split at hs <;> try cases hs
    rename_i a r
    split at hs <;> cases hs
    rename_i ty vs ha
    obtain ⟨cl, A, h2, -⟩ := hr.2 a _ ha
    have hsz : cl.slots.size = vs.length := by rw [h2]; simp
    exact same X rfl fun target k => X.arraylength hx A.1 (State.isArrayOf_alike hZ.alike A.2.1) (g := own_fr n m pc L (.ref a :: r)) rfl rfl hd target (by rw [hsz]; exact k)
  | iaload =>
    obtain ⟨rfl, rfl⟩ := own_t ht
    obtain ⟨j, a, r, v, cl, rfl, rfl, rfl, rfl, rfl, A, h1, h2⟩ := own_ald_ok hr hs
    exact same X rfl fun target k => X.iaload hx A.1 (State.isArrayOf_alike hZ.alike A.2.1) A.2.2 h1 h2 (g := own_fr n m pc L' (.int j :: .ref a :: r)) rfl rfl hd target k
  | laload =>
    obtain ⟨rfl, rfl⟩ := own_t ht
    obtain ⟨j, a, r, v, cl, rfl, rfl, rfl, rfl, rfl, A, h1, h2⟩ := own_ald_ok hr hs
    exact same X rfl fun target k => X.laload hx A.1 (State.isArrayOf_alike hZ.alike A.2.1) A.2.2 h1 h2 (g := own_fr n m pc L' (.int j :: .ref a :: r)) rfl rfl hd target k
  | caload =>
    obtain ⟨rfl, rfl⟩ := own_t ht
    obtain ⟨j, a, r, v, cl, rfl, rfl, rfl, rfl, rfl, A, h1, h2⟩ := own_ald_ok hr hs
    exact same X rfl fun target k => X.caload hx A.1 (State.isArrayOf_alike hZ.alike A.2.1) A.2.2 h1 h2 (g := own_fr n m pc L' (.int j :: .ref a :: r)) rfl rfl hd target k
  | baload =>
    obtain ⟨rfl, rfl⟩ := own_t ht
    obtain ⟨j, a, r, v, cl, rfl, rfl, rfl, rfl, rfl, A, h1, h2⟩ := own_ald_ok hr hs
    exact same X rfl fun target k => X.baloadBytes hx A.1 (State.isArrayOf_alike hZ.alike A.2.1) A.2.2 h1 h2 (g := own_fr n m pc L' (.int j :: .ref a :: r)) rfl rfl hd target k
  | iastore =>
    obtain ⟨rfl, rfl⟩ := own_t ht
    obtain ⟨v, w, j, a, q, r, vs, cl, rfl, rfl, rfl, rfl, rfl, ha, A, h0, h1, rfl, h2⟩ := own_ast_ok hr hs
    cases v <;> cases h2
    rename_i z
    obtain ⟨T', h', X', eT, W, st⟩ := stI X hx hZ rfl A h1 (g := own_fr n m pc L' (.int z :: .int j :: .ref a :: S')) rfl rfl hd
    exact wrote ha (by simp [own_cw]) X' (by rw [eT]; exact own_rep_elem hr ha A h0 (own_nar_ok (n := n) (v := .int z) rfl).2.2 W) st
  | lastore =>
    obtain ⟨rfl, rfl⟩ := own_t ht
    obtain ⟨v, w, j, a, q, r, vs, cl, rfl, rfl, rfl, rfl, rfl, ha, A, h0, h1, rfl, h2⟩ := own_ast_ok hr hs
    cases v <;> cases h2
    rename_i z
    obtain ⟨T', h', X', eT, W, st⟩ := stJ X hx hZ rfl A h1 (g := own_fr n m pc L' (.long z :: .int j :: .ref a :: S')) rfl rfl hd
    exact wrote ha (by simp [own_cw]) X' (by rw [eT]; exact own_rep_elem hr ha A h0 (own_nar_ok (n := n) (v := .long z) rfl).2.2 W) st
  | castore =>
    obtain ⟨rfl, rfl⟩ := own_t ht
    obtain ⟨v, w, j, a, q, r, vs, cl, rfl, rfl, rfl, rfl, rfl, ha, A, h0, h1, rfl, h2⟩ := own_ast_ok hr hs
    cases v <;> cases h2
    rename_i z
    obtain ⟨T', h', X', eT, W, st⟩ := stC X hx hZ rfl A h1 (g := own_fr n m pc L' (.int z :: .int j :: .ref a :: S')) rfl rfl hd
    exact wrote ha (by simp [own_cw]) X' (by rw [eT]; exact own_rep_elem hr ha A h0 (own_nar_ok (n := n) (v := .int z) rfl).2.2 W) st
  | bastore =>
    obtain ⟨rfl, rfl⟩ := own_t ht
    obtain ⟨v, w, j, a, q, r, vs, cl, rfl, rfl, rfl, rfl, rfl, ha, A, h0, h1, rfl, h2⟩ := own_ast_ok hr hs
    cases v <;> cases h2
    rename_i z
    obtain ⟨T', h', X', eT, W, st⟩ := stB X hx hZ rfl A h1 (g := own_fr n m pc L' (.int z :: .int j :: .ref a :: S')) rfl rfl hd
    exact wrote ha (by simp [own_cw]) X' (by rw [eT]; exact own_rep_elem hr ha A h0 (own_nar_ok (n := n) (v := .int z) rfl).2.2 W) st
  | ldc x =>
    obtain ⟨rfl, rfl⟩ := own_t ht
    simp only [own_heap] at hs
    split at hs <;> cases hs
    rename_i he
    exact same X rfl fun target k => X.ldcInt hx hown (mvT hZ (ent he)) (g := own_fr n m pc L S) rfl hd target k
  | ldc_w x =>
    obtain ⟨rfl, rfl⟩ := own_t ht
    simp only [own_heap] at hs
    split at hs <;> cases hs
    rename_i he
    exact same X rfl fun target k => X.ldcwInt hx hown (mvT hZ (ent he)) (g := own_fr n m pc L S) rfl hd target k
  | ldc2_w x =>
    obtain ⟨rfl, rfl⟩ := own_t ht
    simp only [own_heap] at hs
    split at hs <;> cases hs
    rename_i he
    exact same X rfl fun target k => X.ldc2Long hx hown (mvT hZ (ent he)) (g := own_fr n m pc L S) rfl hd target k
  | checkcast x =>
    obtain ⟨rfl, rfl⟩ := own_t ht
    simp only [own_heap] at hs
    split at hs <;> try cases hs
    rename_i he
    split at hs <;> try cases hs
    rename_i a r
    split at hs <;> cases hs
    rename_i vs ha
    obtain ⟨cl, A, h2, -, Ex, -⟩ := hr.2 a _ (own_arr_at ha)
    obtain ⟨T', X', eT, st⟩ := castY X hx hZ hown (ent he) rfl (Ins.self (show Exa Z T.heap (n + a) "[I" from Ex)) (g := own_fr n m pc L (.ref a :: r)) rfl rfl hd
    exact same X' eT st
  | invokespecial x =>
    obtain ⟨rfl, rfl⟩ := own_t ht
    simp only [own_heap] at hs
    split at hs <;> try cases hs
    rename_i he
    split at hs <;> try cases hs
    rename_i a r
    split at hs <;> cases hs
    rename_i hq
    obtain ⟨w1, w2, w3⟩ := ent he
    obtain ⟨T', X', eT, st⟩ := initO X hx hZ hown w1 w2 w3 rfl (g := own_fr n m pc L (.ref a :: S')) rfl hz rfl hd (by omega) (W := own_wt S') (by show 2 * 0 + _ ≤ _; rw [own_wt_sh]; omega) (by omega)
    exact same X' eT st
  | invokestatic x =>
    obtain ⟨rfl, rfl⟩ := own_t ht
    simp only [own_heap] at hs
    split at hs <;> try cases hs
    rename_i he
    split at hs <;> try cases hs
    rename_i nn dp b sp a r
    split at hs <;> try cases hs
    rename_i vs ha
    split at hs <;> try cases hs
    rename_i vd hb'
    split at hs <;> try cases hs
    rename_i k hn
    split at hs <;> try cases hs
    rename_i q hq
    split at hs <;> try cases hs
    rename_i p' hp
    split at hs <;> cases hs
    rename_i hh
    obtain ⟨⟨r1, r2⟩, r3, r4⟩ := hh
    obtain ⟨w1, w2, w3, w4⟩ := ent he
    obtain ⟨n1, n2⟩ := own_ix_ok hn
    obtain ⟨q1, q2⟩ := own_ix_ok hq
    obtain ⟨p1, p2⟩ := own_ix_ok hp
    have ca := hr.2 a _ (own_arr_at ha)
    have cb := hr.2 b _ (own_arr_at hb')
    obtain ⟨ka, Fa⟩ := own_arv (dv := .int 0) ca
    obtain ⟨kb, Fb⟩ := own_arv (dv := .int 0) cb
    obtain ⟨-, -, -, la, -⟩ := ca
    obtain ⟨-, -, -, lb, Eb, pb, fb⟩ := cb
    obtain ⟨sa, -⟩ := own_len la
    obtain ⟨sb, -⟩ := own_len lb
    obtain ⟨T', h', L2, X', eT, N', Kp, F', st⟩ := cpA X hx hZ hown w1 w2 w3 w4 rfl Fa Fb (Or.inl ⟨rfl, rfl⟩) p1 q1 n1 (by rw [sa, p2, n2]; exact r3) (by rw [sb, q2, n2]; exact r4) rfl (by rw [q2, n2]; exact r4) hf (Nat.le_add_right n b) (g := own_fr n m pc L (.int nn :: .int dp :: .ref b :: .int sp :: .ref a :: S')) rfl hz rfl hd (by omega) (W := own_wt S') (by show 2 * 0 + _ ≤ _; rw [own_wt_sh]; omega) (by omega)
    have ha0 := own_arr_at hb'
    have hb := hbd.resolve_right fun q => by rw [q.1] at ha0; simp at ha0
    rw [p2, n2, q2, ← own_us r3] at F'
    have hlen : (vd.take q ++ (vs.drop p').take k ++ vd.drop (q + k)).length = vd.length := by
      simp only [List.length_append, List.length_take, List.length_drop]; omega
    have e1 : (H.set b ((.inr .int, vd.take q ++ (vs.drop p').take k ++ vd.drop (q + k)) : OCell)).length = H.length := List.length_set ..
    have e2 : own_w P.2.1 (H.set b ((.inr .int, vd.take q ++ (vs.drop p').take k ++ vd.drop (q + k)) : OCell)) = own_w P.2.1 H := own_w_set ha0 (by simp only [own_cw]; exact hlen)
    refine ⟨rfl, by omega, by omega, T', L2, ?_, ?_, N', st⟩
    · rw [e1, e2, Nat.sub_self, Nat.sub_self]; exact X'
    · rw [eT]
      have hsz : h'.size = T.heap.size := by
        have u1 := X'.heapSize
        have u2 := Kp.1
        have u3 := hr.1
        rw [eT] at u1; omega
      refine own_rep_set hr ha0 hsz (fun b' d' hb2 hd2 => own_repC_keep Kp (fun e => hb2 (Nat.add_left_cancel e)) (hr.2 b' d' hd2)) (own_arv_inv (by rw [hlen]; exact sb) (by rw [hlen]; exact lb) pb F' (Eb.keep Kp))
  | invokevirtual x =>
    obtain ⟨rfl, rfl⟩ := own_t ht
    simp only [own_heap] at hs
    split at hs <;> try cases hs
    rename_i he
    split at hs <;> try cases hs
    rename_i a r
    split at hs <;> try cases hs
    rename_i vs ha
    split at hs <;> cases hs
    rename_i hq
    obtain ⟨w1, w2, w3, w4, w5, w6⟩ := ent he
    have ca := hr.2 a _ (own_arr_at ha)
    obtain ⟨ka, Fa⟩ := own_arv (dv := .int 0) ca
    obtain ⟨-, -, -, la, Ea, pa, fa⟩ := ca
    obtain ⟨sa, -⟩ := own_len la
    have hw : own_cw P.2.1 ((.inr .int, vs) : OCell) = vs.length := rfl
    obtain ⟨hc1, hc2⟩ := cap rfl
    rw [hw] at hc2
    obtain ⟨T', h', X', eT, E, F', E', st⟩ := cloneH X hx hZ hown w1 w2 w3 w4 w5 w6 rfl Fa.arh (show Exa Z T.heap (n + a) "[I" from Ea) (g := own_fr n m pc L (.ref a :: r)) rfl hz rfl hd (by omega) (W := own_wt r) (cap := vs.length) (by show 2 * 0 + _ ≤ _; rw [own_wt_sh]; omega) (by omega) (Nat.le_of_eq sa) hc1 hc2
    refine made (hbd.resolve_right fun q => by have := own_arr_at ha; rw [q.1] at this; simp at this) hw X' eT E E'.lt (own_arv_inv sa la pa F' E') ?_
    rw [hr.1] at st; exact st
  | _ => exact nomatch (show (none : Option OSt) = some _ from hs)
/-! ### how a run grows -/
theorem own_sto_len {L M : List Slot} {i : Nat} {v : Value} (h : own_sto L i v = some M) : M.length = L.length := (own_sto_ok (n := 0) h).2
theorem own_pure_len {i : Instr} {t pc pc' : Nat} {L L' : List Slot} {S S' : List Value} (e1 : own_pure i t pc L S = some (pc', L', S')) : L'.length = L.length := by
  have st : ∀ {k t : Nat} {v : Value} {r : List Value}, (match own_sto L k v with | some M => some (t, M, r) | none => none : Option OFr) = some (pc', L', S') → L'.length = L.length := by
    intro k t v r h
    split at h <;> cases h
    rename_i hv; exact own_sto_len hv
  have ldI : ∀ {k}, own_ldI k t L S = some (pc', L', S') → L'.length = L.length := by intro k h; unfold own_ldI at h; split at h <;> cases h; rfl
  have ldJ : ∀ {k}, own_ldJ k t L S = some (pc', L', S') → L'.length = L.length := by intro k h; unfold own_ldJ at h; split at h <;> cases h; rfl
  have ldA : ∀ {k}, own_ldA k t L S = some (pc', L', S') → L'.length = L.length := by intro k h; unfold own_ldA at h; split at h <;> cases h <;> rfl
  have stI : ∀ {k}, own_stI k t L S = some (pc', L', S') → L'.length = L.length := by intro k h; unfold own_stI at h; split at h <;> first | exact st h | cases h
  have stJ : ∀ {k}, own_stJ k t L S = some (pc', L', S') → L'.length = L.length := by intro k h; unfold own_stJ at h; split at h <;> first | exact st h | cases h
  have stA : ∀ {k}, own_stA k t L S = some (pc', L', S') → L'.length = L.length := by intro k h; unfold own_stA at h; split at h <;> first | exact st h | cases h
  have b32 : ∀ {f}, own_b32 f t L S = some (pc', L', S') → L'.length = L.length := by intro k h; unfold own_b32 at h; split at h <;> cases h; rfl
  have d32 : ∀ {f}, own_d32 f t L S = some (pc', L', S') → L'.length = L.length := by intro k h; unfold own_d32 at h; split at h <;> try cases h
                                                                                      split at h <;> cases h; rfl
  have u32 : ∀ {f}, own_u32 f t L S = some (pc', L', S') → L'.length = L.length := by intro k h; unfold own_u32 at h; split at h <;> cases h; rfl
  have b64 : ∀ {f}, own_b64 f t L S = some (pc', L', S') → L'.length = L.length := by intro k h; unfold own_b64 at h; split at h <;> cases h; rfl
  have d64 : ∀ {f}, own_d64 f t L S = some (pc', L', S') → L'.length = L.length := by intro k h; unfold own_d64 at h; split at h <;> try cases h
                                                                                      split at h <;> cases h; rfl
  have s64 : ∀ {f}, own_s64 f t L S = some (pc', L', S') → L'.length = L.length := by intro k h; unfold own_s64 at h; split at h <;> cases h; rfl
  have u64 : ∀ {f}, own_u64 f t L S = some (pc', L', S') → L'.length = L.length := by intro k h; unfold own_u64 at h; split at h <;> cases h; rfl
  have br : ∀ {b : Bool} {r : List Value}, own_br b t pc L r = some (pc', L', S') → L'.length = L.length := by intro b r h; unfold own_br at h; split at h <;> cases h <;> rfl
  unfold own_pure at e1
  split at e1 <;> first
    | exact ldI e1 | exact ldJ e1 | exact ldA e1 | exact stI e1 | exact stJ e1 | exact stA e1 | exact b32 e1 | exact d32 e1 | exact u32 e1 | exact b64 e1 | exact d64 e1 | exact s64 e1 | exact u64 e1
    | (cases e1; rfl)
    | (cases e1; done)
    | (split at e1 <;> first
        | exact st e1 | exact br e1 | (cases e1; rfl) | (cases e1; done)
        | (split at e1 <;> first | (cases e1; rfl) | cases e1 | exact st e1))
theorem own_heap_mono {mt : OMth} {d lo : Nat} {i : Instr} {t pc' : Nat} {L L' : List Slot} {S S' : List Value} {H H' : OHeap} (hs : own_heap P mt d lo i t L S H = some (pc', L', S', H')) : L' = L ∧ H.length ≤ H'.length ∧ own_w P.2.1 H ≤ own_w P.2.1 H' := by
  have app : ∀ c : OCell, H.length ≤ (H ++ [c]).length ∧ own_w P.2.1 H ≤ own_w P.2.1 (H ++ [c]) := fun c => ⟨by simp, by rw [own_w_app]; exact Nat.le_add_right _ _⟩
  have set : ∀ {a : Nat} {c c' : OCell}, H[a]? = some c → own_cw P.2.1 c' = own_cw P.2.1 c → H.length ≤ (H.set a c').length ∧ own_w P.2.1 H ≤ own_w P.2.1 (H.set a c') := fun h1 h2 => ⟨by simp, by rw [own_w_set h1 h2]; exact Nat.le_refl _⟩
  have ald : ∀ {ty}, own_ald ty t L S H = some (pc', L', S', H') → L' = L ∧ H.length ≤ H'.length ∧ own_w P.2.1 H ≤ own_w P.2.1 H' := by
    intro ty h
    unfold own_ald at h
    split at h <;> try cases h
    split at h <;> try cases h
    split at h <;> try cases h
    split at h <;> cases h
    exact ⟨rfl, Nat.le_refl _, Nat.le_refl _⟩
  have ast : ∀ {ty}, own_ast ty t L S H = some (pc', L', S', H') → L' = L ∧ H.length ≤ H'.length ∧ own_w P.2.1 H ≤ own_w P.2.1 H' := by
    intro ty h
    unfold own_ast at h
    split at h <;> try cases h
    split at h <;> try cases h
    rename_i vs ha
    split at h <;> try cases h
    split at h <;> try cases h
    split at h <;> cases h
    exact ⟨rfl, set (own_arr_at ha) (by simp [own_cw])⟩
  cases i with
  | getfield x =>
    simp only [own_heap] at hs
    split at hs <;> try cases hs
    split at hs <;> try cases hs
    split at hs <;> try cases hs
    split at hs <;> cases hs
    exact ⟨rfl, Nat.le_refl _, Nat.le_refl _⟩
  | putfield x =>
    simp only [own_heap] at hs
    split at hs <;> try cases hs
    split at hs <;> try cases hs
    split at hs <;> try cases hs
    rename_i vs ho
    split at hs <;> try cases hs
    split at hs <;> try cases hs
    split at hs <;> cases hs
    exact ⟨rfl, set (own_obj_at ho) rfl⟩
  | new x =>
    simp only [own_heap] at hs
    split at hs <;> try cases hs
    split at hs <;> cases hs
    exact ⟨rfl, app _⟩
  | newarray x =>
    simp only [own_heap] at hs
    split at hs <;> try cases hs
    split at hs <;> try cases hs
    split at hs <;> cases hs
    exact ⟨rfl, app _⟩
  | arraylength =>
    simp only [own_heap] at hs
    split at hs <;> try cases hs
    split at hs <;> cases hs
    exact ⟨rfl, Nat.le_refl _, Nat.le_refl _⟩
  | iaload => exact ald hs
  | laload => exact ald hs
  | caload => exact ald hs
  | baload => exact ald hs
  | iastore => exact ast hs
  | lastore => exact ast hs
  | castore => exact ast hs
  | bastore => exact ast hs
  | ldc x => simp only [own_heap] at hs; split at hs <;> cases hs; exact ⟨rfl, Nat.le_refl _, Nat.le_refl _⟩
  | ldc_w x => simp only [own_heap] at hs; split at hs <;> cases hs; exact ⟨rfl, Nat.le_refl _, Nat.le_refl _⟩
  | ldc2_w x => simp only [own_heap] at hs; split at hs <;> cases hs; exact ⟨rfl, Nat.le_refl _, Nat.le_refl _⟩
  | checkcast x =>
    simp only [own_heap] at hs
    split at hs <;> try cases hs
    split at hs <;> try cases hs
    split at hs <;> cases hs
    exact ⟨rfl, Nat.le_refl _, Nat.le_refl _⟩
  | invokespecial x =>
    simp only [own_heap] at hs
    split at hs <;> try cases hs
    split at hs <;> try cases hs
    split at hs <;> cases hs
    exact ⟨rfl, Nat.le_refl _, Nat.le_refl _⟩
  | invokestatic x =>
    simp only [own_heap] at hs
    split at hs <;> try cases hs
    split at hs <;> try cases hs
    split at hs <;> try cases hs
    split at hs <;> try cases hs
    rename_i vd hb'
    split at hs <;> try cases hs
    split at hs <;> try cases hs
    split at hs <;> try cases hs
    split at hs <;> cases hs
    rename_i hh
    refine ⟨rfl, set (own_arr_at hb') ?_⟩
    simp only [own_cw, List.length_append, List.length_take, List.length_drop]; omega
  | invokevirtual x =>
    simp only [own_heap] at hs
    split at hs <;> try cases hs
    split at hs <;> try cases hs
    split at hs <;> try cases hs
    split at hs <;> cases hs
    exact ⟨rfl, app _⟩
  | _ => exact nomatch (show (none : Option OSt) = some _ from hs)
theorem own_step_mono {mt : OMth} {d lo : Nat} {i : Instr} {t pc pc' : Nat} {L L' : List Slot} {S S' : List Value} {H H' : OHeap} (hs : own_step P mt d lo i t pc L S H = some (pc', L', S', H')) : L'.length = L.length ∧ H.length ≤ H'.length ∧ own_w P.2.1 H ≤ own_w P.2.1 H' := by
  unfold own_step at hs
  split at hs
  · rename_i e1
    cases hs
    exact ⟨own_pure_len e1, Nat.le_refl _, Nat.le_refl _⟩
  · obtain ⟨rfl, h1, h2⟩ := own_heap_mono hs
    exact ⟨rfl, h1, h2⟩
theorem own_ret_none {mt : OMth} {i : Instr} {S : List Value} {v : Option Value} (h : own_ret mt i S = some v) (hr : mt.rt = none) : v = none := by
  unfold own_ret at h
  rw [hr] at h
  split at h <;> try cases h
  all_goals (split at h <;> first | (cases h; rfl) | (cases h; done))
theorem own_exec_mono : ∀ (q i d lo pc : Nat) (mt : OMth) (L : List Slot) (S : List Value) (H : OHeap) (v : Option Value) (H' : OHeap), P.1[i]? = some mt → own_exec P q i d lo pc L S H = some (v, H') → H.length ≤ H'.length ∧ own_w P.2.1 H ≤ own_w P.2.1 H' ∧ (mt.rt = none → v = none) := by
  intro q
  induction q with
  | zero => intro i d lo pc mt L S H v H' _ h; cases h
  | succ q ih =>
    intro i d lo pc mt L S H v H' hi h
    simp only [own_exec, hi] at h
    split at h
    · cases h
    · rename_i ins t hat
      split at h
      · rename_i w hw
        cases h
        exact ⟨Nat.le_refl _, Nat.le_refl _, own_ret_none hw⟩
      · split at h
        · rename_i j as r hc
          split at h
          · cases h
          · rename_i mj hj
            split at h
            · split at h
              · rename_i v1 H1 he
                obtain ⟨a1, a2, -⟩ := ih j _ _ _ mj _ _ _ _ _ hj he
                obtain ⟨b1, b2, b3⟩ := ih i _ _ _ mt _ _ _ _ _ hi h
                exact ⟨Nat.le_trans a1 b1, Nat.le_trans a2 b2, b3⟩
              · cases h
            · cases h
        · split at h
          · rename_i pc' L' S' H1 hs
            obtain ⟨-, a1, a2⟩ := own_step_mono hs
            obtain ⟨b1, b2, b3⟩ := ih i _ _ _ mt _ _ _ _ _ hi h
            exact ⟨Nat.le_trans a1 b1, Nat.le_trans a2 b2, b3⟩
          · cases h
/-! ### a program that makes nothing -/
theorem own_heap_nil (hK : P.2.1 = []) (hA : P.2.2 = []) {mt : OMth} {d lo : Nat} {i : Instr} {t pc' : Nat} {L L' : List Slot} {S S' : List Value} {H' : OHeap} (hs : own_heap P mt d lo i t L S [] = some (pc', L', S', H')) : H' = [] := by
  have arr : ∀ {a ty vs}, own_arr [] a ty = some vs → False := fun h => by simpa using own_arr_at h
  have obj : ∀ {a k vs}, own_obj [] a k = some vs → False := fun h => by simpa using own_obj_at h
  have ald : ∀ {ty}, own_ald ty t L S [] = some (pc', L', S', H') → H' = [] := by
    intro ty h
    unfold own_ald at h
    split at h <;> try cases h
  have ast : ∀ {ty}, own_ast ty t L S [] = some (pc', L', S', H') → H' = [] := by
    intro ty h
    unfold own_ast at h
    split at h <;> try cases h
  cases i with
  | getfield x =>
    simp only [own_heap] at hs
    split at hs <;> try cases hs
    split at hs <;> try cases hs
  | putfield x =>
    simp only [own_heap] at hs
    split at hs <;> try cases hs
    split at hs <;> try cases hs
  | new x =>
    simp only [own_heap, hK] at hs
    split at hs <;> try cases hs
  | newarray x =>
    simp only [own_heap, hA] at hs
    split at hs <;> try cases hs
    split at hs <;> try cases hs
  | arraylength =>
    simp only [own_heap] at hs
    split at hs <;> try cases hs
  | iaload => exact ald (ty := .int) hs
  | laload => exact ald (ty := .long) hs
  | caload => exact ald (ty := .char) hs
  | baload => exact ald (ty := .byte) hs
  | iastore => exact ast (ty := .int) hs
  | lastore => exact ast (ty := .long) hs
  | castore => exact ast (ty := .char) hs
  | bastore => exact ast (ty := .byte) hs
  | ldc x => simp only [own_heap] at hs; split at hs <;> cases hs; rfl
  | ldc_w x => simp only [own_heap] at hs; split at hs <;> cases hs; rfl
  | ldc2_w x => simp only [own_heap] at hs; split at hs <;> cases hs; rfl
  | checkcast x =>
    simp only [own_heap] at hs
    split at hs <;> try cases hs
    split at hs <;> try cases hs
  | invokespecial x =>
    simp only [own_heap] at hs
    split at hs <;> try cases hs
    split at hs <;> try cases hs
    split at hs <;> cases hs
    rfl
  | invokestatic x =>
    simp only [own_heap] at hs
    split at hs <;> try cases hs
    split at hs <;> try cases hs
  | invokevirtual x =>
    simp only [own_heap] at hs
    split at hs <;> try cases hs
    split at hs <;> try cases hs
  | _ => exact nomatch (show (none : Option OSt) = some _ from hs)
theorem own_exec_nil (hK : P.2.1 = []) (hA : P.2.2 = []) : ∀ (q i d lo pc : Nat) (L : List Slot) (S : List Value) {v : Option Value} (H' : OHeap), own_exec P q i d lo pc L S [] = some (v, H') → H' = [] := by
  intro q
  induction q with
  | zero => intro i d lo pc L S v H' h; cases h
  | succ q ih =>
    intro i d lo pc L S v H' h
    simp only [own_exec] at h
    split at h
    · cases h
    · split at h
      · cases h
      · split at h
        · cases h; rfl
        · split at h
          · split at h
            · cases h
            · split at h
              · split at h
                · rename_i he
                  cases ih _ _ _ _ _ _ _ he
                  exact ih _ _ _ _ _ _ _ h
                · cases h
              · cases h
          · split at h
            · rename_i hs
              unfold own_step at hs
              split at hs
              · cases hs; exact ih _ _ _ _ _ _ _ h
              · cases own_heap_nil hK hA hs
                exact ih _ _ _ _ _ _ _ h
            · cases h
/-! ### the run is the model's -/
def own_Snd (l : Launch) (Z : State) (n : Nat) (P : OPrg) (q : Nat) : Prop :=
  ∀ (i d lo pc : Nat) (mt : OMth) (L : List Slot) (S : List Value) (H : OHeap) (v : Option Value) (H' : OHeap), P.1[i]? = some mt → own_exec P q i d lo pc L S H = some (v, H') → L.length = mt.ml →
  ∀ (p : Program) (e : Env) (R : Room) (s : State) (m : MethodId) (args : Array Value) (below : List Frame) (meth : Method) (c : Code) (T : State) (locs : List Loc) (cells slots : Nat),
    Stand p l e R s m args below meth c T locs cells slots → p.tables.exec = Jvm.exec → Z.Warmed39 s.vm → c.code = mt.bs → c.maxLocals = mt.ml → s.vm.findClass mt.nm.cls = some m.cls → meth.sig.returnType = mt.rt → meth.name = mt.nm.name → (s.heap.size + cells = n + H.length ∨ (H = [] ∧ P.2.1 = [] ∧ P.2.2 = [])) →
    own_rep Z n P.2.1 H T.heap → Fr n locs → d ≤ R.frames → lo ≤ R.locals → cells + (H'.length - H.length) ≤ R.cells → slots + (own_w P.2.1 H' - own_w P.2.1 H) ≤ R.slots →
    ∃ (T' : State) (locs' : List Loc), Stand p l e R s m args below meth c T' locs' (cells + (H'.length - H.length)) (slots + (own_w P.2.1 H' - own_w P.2.1 H)) ∧ own_rep Z n P.2.1 H' T'.heap ∧ Fr n locs' ∧
      ∀ fs : List Frame, (∀ (f : JFrame) (acts : List Action), f.method = m → f.locked = none → f.entered = [] → (doReturn e (T'.setTop f) acts (v.map (own_sh n))).1 = T'.setFrames fs) → Steps p.tables e below (T.setTop (own_fr n m pc L S)) (T'.setFrames fs)
theorem own_met (G : own_good Z a0 P) {q : Nat} (hS : own_Snd l Z n P q) {j d lo : Nat} {mj : OMth} {as : List Value} {H H' : OHeap} {v : Option Value} (hj : P.1[j]? = some mj) (he : own_exec P q j d lo 0 (own_entry as mj.ml) [] H = some (v, H')) (hlen : (own_entry as mj.ml).length = mj.ml) (ws : List Jvm.Cond) (R : Room)
    (hdf : d ≤ R.frames) (hlo : lo ≤ R.locals) (hc : H'.length - H.length ≤ R.cells) (hs : own_w P.2.1 H' - own_w P.2.1 H ≤ R.slots) (h : Heap) (hr : own_rep Z n P.2.1 H h) :
    MetFree l mj.nm (head1 (Jvm.Cond.code mj.nm mj.bs mj.ml mj.rt :: ws) R) (fun a U => a = (as.map (own_sh n)).toArray ∧ Z.Warmed39 U.vm ∧ U.heap = h) (fun _ _ _ _ _ => True)
      (fun _ U o U' => ∃ w L, o = .returned w ∧ (w = v.map (own_sh n) ∧ own_rep Z n P.2.1 H' U'.heap ∧ Fr n L) ∧ FrameEnd U o U' L (H'.length - H.length) (own_w P.2.1 H' - own_w P.2.1 H)) := by
  obtain ⟨GM, -, -⟩ := G
  obtain ⟨hpl, -, -, -⟩ := GM mj (List.mem_of_getElem? hj)
  refine MetFree.of_bodySF (plainFor_of_name hpl) hisR ?_
  intro p e s m args below meth c s₁ Bd hml0 hP hK
  obtain ⟨rfl, hZ, hh⟩ := hP
  have hown := findClass_of_methodNamed Bd.named
  have hnm := (name_of_methodNamed Bd.named Bd.method).1
  have X0 : Stand p l e R s m _ below meth c s₁ [] 0 0 := Stand.of_body Bd
  have e0 : s₁.heap = h := by rw [← hh, Bd.state]; rfl
  obtain ⟨-, -, hvn⟩ := own_exec_mono q j d lo 0 mj _ _ _ _ _ hj he
  obtain ⟨T', locs', X', hr', N', st⟩ := hS j d lo 0 mj _ [] H v H' hj he hlen p e R s m _ below meth c s₁ [] 0 0 X0 Bd.exec hZ Bd.bytes hml0 hown Bd.returns hnm (Or.inl (by rw [hh, hr.1]; rfl)) (by rw [e0]; exact hr) (Fr.nil n) hdf hlo (by omega) (by omega)
  obtain ⟨fs, hl, hrun, hended, hW, hsame⟩ := X'.leave (v := v.map (own_sh n)) (fun h => by rw [Bd.returns] at h; rw [hvn h]; rfl)
  have ef : entryFrame m (as.map (own_sh n)).toArray mj.ml = own_fr n m 0 (own_entry as mj.ml) [] := by
    unfold entryFrame; rw [own_args_ok]; rfl
  refine ⟨_, _, castTop ef (st fs hl), hrun, hended, _, _, rfl, ⟨rfl, hr', N'⟩, ⟨_, rfl⟩, hW, hsame.mono (by omega) (by omega)⟩
theorem own_private {s : State} {args : Array Value} {y : MethodName} (hnf : NotFace s y) (hp : (Jvm.Cond.privateMethod y).before args s = true) (hi : (Jvm.Cond.instanceMethod y).before args s = true) (hy : own_okY y) : (Jvm.Cond.selects y.cls y y).before args s = true := by
  obtain ⟨mk, methM, hnamed, -, -, -⟩ := Cond.instanceMethod_spec hi
  obtain ⟨k, h1, h2⟩ := hnf mk hnamed
  exact selects_self_of_private (findClass_of_methodNamed hnamed) h1 h2 (Cond.privateMethod_at hp) hi hy
theorem own_same {s : State} {args : Array Value} {y : MethodName} (hnf : NotFace s y) (hi : (Jvm.Cond.instanceMethod y).before args s = true) (hy : own_okY y) : (Jvm.Cond.sameMethod y.cls y.cls y.name y.desc).before args s = true := by
  obtain ⟨mk, methM, hnamed, -, -, -⟩ := Cond.instanceMethod_spec hi
  obtain ⟨k, h1, h2⟩ := hnf mk hnamed
  have h3 := findClass_of_methodNamed hnamed
  have h4 := State.methodFound?_of_named hnamed hy
  have h5 : s.methodNamed? ⟨y.cls, y.name, y.desc⟩ = some mk := hnamed
  simp only [Cond.before, Cond.holds, Cond.value, h3, h4, h5, h1]
  simp [h2]
set_option maxHeartbeats 4000000 in
theorem own_call_ok (G : own_good Z a0 P) {q : Nat} (hS : own_Snd l Z n P q) {mt : OMth} (hM : mt ∈ P.1) {ins : Instr} {t pc len j d lo : Nat} {L : List Slot} {S as r : List Value} {H H1 : OHeap} {mj : OMth} {v : Option Value} (hc : own_call P mt ins S H = some (j, as, r)) (hj : P.1[j]? = some mj)
    (hq : 1 ≤ d ∧ own_wt r + (mj.ml + 11) ≤ lo ∧ (own_entry as mj.ml).length = mj.ml) (he : own_exec P q j (d - 1) (lo - (own_wt r + (mj.ml + 11))) 0 (own_entry as mj.ml) [] H = some (v, H1))
    {p : Program} {e : Env} {R : Room} {s : State} {m : MethodId} {args : Array Value} {below : List Frame} {meth : Method} {c : Code} {T : State} {locs : List Loc} {cells slots : Nat}
    (X : Stand p l e R s m args below meth c T locs cells slots) (hx : p.tables.exec = Jvm.exec) (hZ : Z.Warmed39 s.vm) (hml : c.maxLocals = mt.ml) (hown : s.vm.findClass mt.nm.cls = some m.cls)
    (hd : decode c.code pc = .ok (ins, len)) (ht : own_tgt pc len t ins = true) (hL : L.length = mt.ml)
    (hr : own_rep Z n P.2.1 H T.heap) (hf : Fr n locs) (hdf : d ≤ R.frames) (hlo : lo ≤ R.locals) (hce : cells + (H1.length - H.length) ≤ R.cells) (hsl : slots + (own_w P.2.1 H1 - own_w P.2.1 H) ≤ R.slots) :
    ∃ (T' : State) (locs' : List Loc), Stand p l e R s m args below meth c T' locs' (cells + (H1.length - H.length)) (slots + (own_w P.2.1 H1 - own_w P.2.1 H)) ∧ own_rep Z n P.2.1 H1 T'.heap ∧ Fr n locs' ∧
      ∀ target, Steps p.tables e below (T'.setTop (own_fr n m t L (v.toList ++ r))) target → Steps p.tables e below (T.setTop (own_fr n m pc L S)) target := by
  have G' := G
  obtain ⟨GM, GK, GA⟩ := G
  obtain ⟨-, -, -, GE⟩ := GM mt hM
  obtain ⟨-, wc, -, -⟩ := GM mj (List.mem_of_getElem? hj)
  have hz : (L.map (own_shS n)).toArray.size = c.maxLocals := by rw [hml, ← hL]; simp
  have ent : ∀ {x t}, own_ent mt.en x = some t → own_okE Z a0 P mt.nm x t := fun h => GE _ (own_ent_mem h)
  have ev : (v.toList ++ r).map (own_sh n) = (v.map (own_sh n)).toList ++ r.map (own_sh n) := by cases v <;> simp
  have hK := fun (wz : (Jvm.Cond.initialized mj.nm.cls).before a0 Z = true) => backOf (rm := ({ frames := d - 1, cells := H1.length - H.length, slots := own_w P.2.1 H1 - own_w P.2.1 H, locals := lo - (own_wt r + (mj.ml + 11)) } : Room)) (Q := fun w h' L => w = v.map (own_sh n) ∧ own_rep Z n P.2.1 H1 h' ∧ Fr n L) (l := l) (h := T.heap) (R := R) (below := below) (e := e) (args := args) (p := p) (W := own_wt r) (len := 3) (own_met G' hS hj he hq.2.2 [] ({ frames := d - 1, cells := H1.length - H.length, slots := own_w P.2.1 H1 - own_w P.2.1 H, locals := lo - (own_wt r + (mj.ml + 11)) } : Room) (Nat.le_refl _) (Nat.le_refl _) (Nat.le_refl _) (Nat.le_refl _) T.heap hr) hZ wc wz (by show d - 1 + 1 ≤ _; omega) (by show own_wt r + (mj.ml + 11) + (lo - (own_wt r + (mj.ml + 11))) ≤ _; omega)
  have hW : 2 * (own_fr n m pc L S).monitorRoom + ((r.map (own_sh n)).map fun v => v.category).sum ≤ own_wt r := by show 2 * 0 + _ ≤ _; rw [own_wt_sh]; omega
  have hpre : ∀ (a : Array Value), a = (as.map (own_sh n)).toArray → ∀ vm₁ : Vm, s.WarmedH vm₁ → (a = (as.map (own_sh n)).toArray ∧ (T.setVm vm₁).heap = T.heap ∧ cells + (H1.length - H.length) ≤ R.cells ∧ slots + (own_w P.2.1 H1 - own_w P.2.1 H) ≤ R.slots) := fun a ha vm₁ _ => ⟨ha, rfl, hce, hsl⟩
  cases ins with
  | invokestatic x =>
    obtain ⟨rfl, rfl⟩ := own_t ht
    simp only [own_call] at hc
    split at hc <;> try cases hc
    rename_i j' u1 u2 hen
    split at hc <;> try cases hc
    rename_i mj' hj'
    split at hc <;> cases hc
    rename_i hsp
    cases hj.symm.trans hj'
    obtain ⟨mj', g1, g2, g3, g4, g5, ps, rr, g6, g7⟩ := ent hen
    cases hj.symm.trans g1
    obtain ⟨s1, s2⟩ := own_split_ok hsp
    obtain ⟨w, vm₁, ⟨T1, L1, k1, n1⟩, -, X1, ⟨Lc, hQ, l1, y1, z1⟩, st⟩ := Jvm.LawKit.callS X hx (y := mj.nm) hown (mvT hZ g2) (mvT hZ g3) (mvT hZ g4) (mvT hZ wc) g5 (hK g4) (g := own_fr n m pc L S) rfl hz (argsL := as.map (own_sh n)) (rest := r.map (own_sh n)) (lenOf g6 (by rw [List.length_map, s2, ← g7]; simp)) (by show S.map (own_sh n) = _; rw [← List.map_reverse, ← List.map_append, s1]; rfl) hW hd (hpre _ rfl)
    dsimp only [Pt.U, Pt.locs, Pt.cells, Pt.slots] at X1 l1 y1 z1 st hQ
    subst l1 y1 z1
    obtain ⟨rfl, q2, q3⟩ := hQ
    refine ⟨T1, _, X1, q2, Fr.app hf q3, fun target k => st target ?_⟩
    rw [← ev]; exact k
  | invokespecial x =>
    obtain ⟨rfl, rfl⟩ := own_t ht
    simp only [own_call] at hc
    split at hc
    · rename_i j' u1 u2 hen
      split at hc <;> try cases hc
      rename_i mj' hj'
      split at hc <;> cases hc
      rename_i a as' hsp
      cases hj.symm.trans hj'
      obtain ⟨mj', g1, g2, g3, g4, g5, g6, g7, ps, rr, g8, g9⟩ := ent hen
      cases hj.symm.trans g1
      obtain ⟨s1, s2⟩ := own_split_ok hsp
      simp only [List.length_cons, List.length_nil] at s2
      obtain ⟨w, vm₁, ⟨T1, L1, k1, n1⟩, -, X1, ⟨Lc, hQ, l1, y1, z1⟩, st⟩ := X.specialBack hx (y := mj.nm) g2 hown (mvT hZ g4) (mvT hZ g5) (mvT hZ (show (Jvm.Cond.code mj.nm mj.bs mj.ml none).before a0 Z = true from g3 ▸ wc)) g7 (hK g6) (g := own_fr n m pc L S) rfl hz (Steps.refl _) (a := n + a) (argsL := as'.map (own_sh n)) (rest := r.map (own_sh n)) (lenOf g8 (by rw [List.length_map]; omega)) (by
        show S.map (own_sh n) = _
        rw [show S = as'.reverse ++ .ref a :: r by simpa using s1.symm]
        simp [own_sh]) hW hd (hpre _ (by simp [own_sh]))
      dsimp only [Pt.U, Pt.locs, Pt.cells, Pt.slots] at X1 l1 y1 z1 st hQ
      subst l1 y1 z1
      obtain ⟨rfl, q2, q3⟩ := hQ
      refine ⟨T1, _, X1, q2, Fr.app hf q3, fun target k => st.trans ?_⟩
      rw [← ev]; exact k
    · rename_i j' k0 u2 hen
      split at hc <;> try cases hc
      rename_i mj' hj'
      split at hc <;> try cases hc
      rename_i a as' r' hsp
      split at hc <;> cases hc
      rename_i vs ho
      cases hj.symm.trans hj'
      obtain ⟨mj', kc, g1, g2, g3, g4, g5, g6, g7, g8, g9, ps, rr, g11, g12⟩ := ent hen
      cases hj.symm.trans g1
      obtain ⟨s1, s2⟩ := own_split_ok hsp
      simp only [List.length_cons, List.length_nil] at s2
      obtain ⟨kc', f1, f2, -, -⟩ := hr.2 a _ (own_obj_at ho)
      obtain ⟨w, vm₁, ⟨T1, L1, k1, n1⟩, -, X1, ⟨Lc, hQ, l1, y1, z1⟩, st⟩ := superBack X hx hZ (y := mj.nm) hown g4 (own_same g7 g5 g9) g5 g6 g3 (hK g8) rfl (Ins.self f2) (g := own_fr n m pc L S) rfl hz wc (argsL := as'.map (own_sh n)) (rest := r.map (own_sh n)) (lenOf g11 (by rw [List.length_map]; omega)) (by
        show S.map (own_sh n) = _
        rw [show S = as'.reverse ++ .ref a :: r by simpa using s1.symm]
        simp [own_sh]) hW hd (hpre _ (by simp [own_sh]))
      dsimp only [Pt.U, Pt.locs, Pt.cells, Pt.slots] at X1 l1 y1 z1 st hQ
      subst l1 y1 z1
      obtain ⟨rfl, q2, q3⟩ := hQ
      refine ⟨T1, _, X1, q2, Fr.app hf q3, fun target k => st.trans ?_⟩
      rw [← ev]; exact k
    · cases hc
  | invokevirtual x =>
    obtain ⟨rfl, rfl⟩ := own_t ht
    simp only [own_call] at hc
    split at hc
    · rename_i j' k0 u2 hen
      split at hc <;> try cases hc
      rename_i mj' hj'
      split at hc <;> try cases hc
      rename_i a as' r' hsp
      split at hc <;> cases hc
      rename_i vs ho
      cases hj.symm.trans hj'
      obtain ⟨mj', kc, yv, g1, g2, g3, g4, g5, g6, g7, g8, g9, g10, ps, rr, g11, g12⟩ := ent hen
      cases hj.symm.trans g1
      obtain ⟨s1, s2⟩ := own_split_ok hsp
      simp only [List.length_cons, List.length_nil] at s2
      obtain ⟨kc', f1, f2, -, -⟩ := hr.2 a _ (own_obj_at ho)
      cases g2.symm.trans f1
      obtain ⟨cq, kq, qa, qb, qc⟩ := isOf hZ rfl f2
      obtain ⟨w, vm₁, ⟨T1, L1, k1, n1⟩, -, X1, ⟨Lc, hQ, l1, y1, z1⟩, st⟩ := X.virtualBack hx (y := yv) (z := mj.nm) hown (mvT hZ g4) (mvT hZ g5) (g9 s hZ) (mvT hZ g6) (mvT hZ g7) g10 (hK g8) qa qc (g := own_fr n m pc L S) rfl hz (Steps.refl _) (argsL := as'.map (own_sh n)) (rest := r.map (own_sh n)) (by rw [g3]; exact lenOf g11 (by rw [List.length_map]; omega)) (by
        show S.map (own_sh n) = _
        rw [show S = as'.reverse ++ .ref a :: r by simpa using s1.symm]
        simp [own_sh]) hW hd (hpre _ (by simp [own_sh]))
      dsimp only [Pt.U, Pt.locs, Pt.cells, Pt.slots] at X1 l1 y1 z1 st hQ
      subst l1 y1 z1
      obtain ⟨rfl, q2, q3⟩ := hQ
      refine ⟨T1, _, X1, q2, Fr.app hf q3, fun target k => st.trans ?_⟩
      rw [← ev]; exact k
    · rename_i j' k0 u2 hen
      split at hc <;> try cases hc
      rename_i mj' hj'
      split at hc <;> try cases hc
      rename_i a as' r' hsp
      split at hc <;> cases hc
      rename_i vs ho
      cases hj.symm.trans hj'
      obtain ⟨mj', g1, g4, g5, g6, g7, g8, g9, ps, rr, g11, g12⟩ := ent hen
      cases hj.symm.trans g1
      obtain ⟨s1, s2⟩ := own_split_ok hsp
      simp only [List.length_cons, List.length_nil] at s2
      obtain ⟨kc', f1, f2, -, -⟩ := hr.2 a _ (own_obj_at ho)
      obtain ⟨cq, qa, qb⟩ := f2.cell
      have wp := mvP (args := args) hZ g6
      have wi := mvT (args := args) hZ g5
      obtain ⟨w, vm₁, ⟨T1, L1, k1, n1⟩, -, X1, ⟨Lc, hQ, l1, y1, z1⟩, st⟩ := X.privateBack hx (y := mj.nm) hown (mvT hZ g4) wi (own_private (g7 s hZ) wp wi g9) (Cond.privateMethod_at wp) (mvT hZ wc) g9 (hK g8) (g := own_fr n m pc L S) rfl hz (Steps.refl _) (a := n + a) qa qb (argsL := as'.map (own_sh n)) (rest := r.map (own_sh n)) (lenOf g11 (by rw [List.length_map]; omega)) (by
        show S.map (own_sh n) = _
        rw [show S = as'.reverse ++ .ref a :: r by simpa using s1.symm]
        simp [own_sh]) hW hd (hpre _ (by simp [own_sh]))
      dsimp only [Pt.U, Pt.locs, Pt.cells, Pt.slots] at X1 l1 y1 z1 st hQ
      subst l1 y1 z1
      obtain ⟨rfl, q2, q3⟩ := hQ
      refine ⟨T1, _, X1, q2, Fr.app hf q3, fun target k => st.trans ?_⟩
      rw [← ev]; exact k
    · rename_i j' k0 u2 hen
      split at hc <;> try cases hc
      rename_i mj' hj'
      split at hc <;> try cases hc
      rename_i a as' r' hsp
      split at hc <;> cases hc
      rename_i vs ho
      cases hj.symm.trans hj'
      obtain ⟨mj', kc, yv, ow, g1, g2, g3, g4, g5, g6, g7, g8, g9, g10, ps, rr, g11, g12⟩ := ent hen
      cases hj.symm.trans g1
      obtain ⟨s1, s2⟩ := own_split_ok hsp
      simp only [List.length_cons, List.length_nil] at s2
      obtain ⟨kc', f1, f2, -, -⟩ := hr.2 a _ (own_obj_at ho)
      cases g2.symm.trans f1
      obtain ⟨cq, kq, qa, qb, qc⟩ := isOf hZ rfl f2
      obtain ⟨w, vm₁, ⟨T1, L1, k1, n1⟩, -, X1, ⟨Lc, hQ, l1, y1, z1⟩, st⟩ := X.virtualBackUp hx (x := yv) (y := mj.nm) (owner := ow) hown (mvT hZ g4) (mvT hZ g5) (mvT hZ g6) g10 (mvT hZ g7) (mvT hZ g8) (hK g9) qa qc (g := own_fr n m pc L S) rfl hz (Steps.refl _) (argsL := as'.map (own_sh n)) (rest := r.map (own_sh n)) (by rw [g3]; exact lenOf g11 (by rw [List.length_map]; omega)) (by
        show S.map (own_sh n) = _
        rw [show S = as'.reverse ++ .ref a :: r by simpa using s1.symm]
        simp [own_sh]) hW hd (hpre _ (by simp [own_sh]))
      dsimp only [Pt.U, Pt.locs, Pt.cells, Pt.slots] at X1 l1 y1 z1 st hQ
      subst l1 y1 z1
      obtain ⟨rfl, q2, q3⟩ := hQ
      refine ⟨T1, _, X1, q2, Fr.app hf q3, fun target k => st.trans ?_⟩
      rw [← ev]; exact k
    · cases hc
  | _ => exact nomatch (show (none : Option (Nat × List Value × List Value)) = some _ from hc)
theorem own_ret_ok {mt : OMth} {i : Instr} {S : List Value} {v : Option Value} (h : own_ret mt i S = some v) {pc len t : Nat} {L : List Slot}
    {p : Program} {e : Env} {R : Room} {s : State} {m : MethodId} {args : Array Value} {below : List Frame} {meth : Method} {c : Code} {T : State} {locs : List Loc} {cells slots : Nat}
    (X : Stand p l e R s m args below meth c T locs cells slots) (hx : p.tables.exec = Jvm.exec) (hret : meth.sig.returnType = mt.rt) (hd : decode c.code pc = .ok (i, len)) (ht : own_tgt pc len t i = true) {fs : List Frame}
    (hl : ∀ (f : JFrame) (acts : List Action), f.method = m → f.locked = none → f.entered = [] → (doReturn e (T.setTop f) acts (v.map (own_sh n))).1 = T.setFrames fs) : Steps p.tables e below (T.setTop (own_fr n m pc L S)) (T.setFrames fs) := by
  cases i with
  | return_ =>
    obtain ⟨rfl, rfl⟩ := own_t ht
    simp only [own_ret] at h
    split at h <;> cases h
    rename_i h1
    exact X.returnOut hx (hret.trans h1) hd hl
  | ireturn =>
    obtain ⟨rfl, rfl⟩ := own_t ht
    simp only [own_ret] at h
    split at h <;> cases h
    · rename_i h1
      exact retOut X hx (hret.trans h1) rfl (Or.inl ⟨rfl, Or.inl rfl, _, rfl⟩) hd hl
    · rename_i h1
      exact retN X hx (t := .boolean) (hret.trans h1) (by simp) hd hl
    · rename_i h1
      exact retN X hx (t := .byte) (hret.trans h1) (by simp) hd hl
    · rename_i h1
      exact retN X hx (t := .char) (hret.trans h1) (by simp) hd hl
    · rename_i h1
      exact retN X hx (t := .short) (hret.trans h1) (by simp) hd hl
  | lreturn =>
    obtain ⟨rfl, rfl⟩ := own_t ht
    simp only [own_ret] at h
    split at h <;> cases h
    rename_i h1
    exact retOut X hx (hret.trans h1) rfl (Or.inr (Or.inl ⟨rfl, rfl, _, rfl⟩)) hd hl
  | areturn =>
    obtain ⟨rfl, rfl⟩ := own_t ht
    simp only [own_ret] at h
    split at h <;> cases h
    all_goals
      rename_i h1
      exact retOut X hx (hret.trans h1) rfl (Or.inr (Or.inr (Or.inr (Or.inr ⟨rfl, rfl, rfl⟩)))) hd hl
  | _ => exact nomatch (show (none : Option (Option Value)) = some _ from h)
theorem own_sound (l : Launch) {n : Nat} (G : own_good Z a0 P) : ∀ q, own_Snd l Z n P q := by
  intro q
  induction q with
  | zero => intro i d lo pc mt L S H v H' _ h; cases h
  | succ q ih =>
    intro i d lo pc mt L S H v H' hi h hL p e R s m args below meth c T locs cells slots X hx hZ hby hml hown hret hnm hb hr hf hdf hlo hce hsl
    have hM : mt ∈ P.1 := List.mem_of_getElem? hi
    obtain ⟨-, -, hcd, -⟩ := G.1 mt hM
    simp only [own_exec, hi] at h
    split at h
    · cases h
    · rename_i ins t hat
      obtain ⟨len, hd0, ht⟩ := own_at_ok hcd hat
      have hd : decode c.code pc = .ok (ins, len) := by rw [hby]; exact hd0
      split at h
      · rename_i w hw
        cases h
        refine ⟨T, locs, ?_, hr, hf, fun fs hl => own_ret_ok hw X hx hret hd ht hl⟩
        rw [Nat.sub_self, Nat.sub_self]; exact X
      · split at h
        · rename_i j as r hc
          split at h
          · cases h
          · rename_i mj hj
            split at h
            · rename_i hq
              split at h
              · rename_i v1 H1 he
                obtain ⟨a1, a2, -⟩ := own_exec_mono q j _ _ _ mj _ _ _ _ _ hj he
                obtain ⟨b1, b2, -⟩ := own_exec_mono q i _ _ _ mt _ _ _ _ _ hi h
                obtain ⟨T1, locs1, X1, hr1, hf1, st1⟩ := own_call_ok G ih hM hc hj hq he X hx hZ hml hown hd ht hL hr hf hdf hlo (by omega) (by omega)
                obtain ⟨T2, locs2, X2, hr2, hf2, st2⟩ := ih i d lo t mt L _ H1 v H' hi h hL p e R s m args below meth c T1 locs1 _ _ X1 hx hZ hby hml hown hret hnm (hb.elim (fun q => Or.inl (by omega)) fun q => Or.inr ⟨own_exec_nil q.2.1 q.2.2 _ _ _ _ _ _ _ _ (by have := he; rw [q.1] at this; exact this), q.2⟩) hr1 hf1 hdf hlo (by omega) (by omega)
                exact ⟨T2, locs2, X2.more (by omega) (by omega), hr2, hf2, fun fs hl => st1 _ (st2 fs hl)⟩
              · cases h
            · cases h
        · split at h
          · rename_i pc' L' S' H1 hs
            obtain ⟨a0, a1, a2⟩ := own_step_mono hs
            obtain ⟨b1, b2, -⟩ := own_exec_mono q i _ _ _ mt _ _ _ _ _ hi h
            unfold own_step at hs
            split at hs
            · rename_i e1
              cases hs
              obtain ⟨T2, locs2, X2, hr2, hf2, st2⟩ := ih i d lo pc' mt L' S' H v H' hi h (by omega) p e R s m args below meth c T locs cells slots X hx hZ hby hml hown hret hnm hb hr hf hdf hlo hce hsl
              exact ⟨T2, locs2, X2, hr2, hf2, fun fs hl => (own_pure_ok X.here hx hd ht e1 (st2 fs hl)).1⟩
            · obtain ⟨rfl, -, -, T1, locs1, X1, hr1, hf1, st1⟩ := own_heap_ok G hM hs X hx hZ hml hown hnm hd ht hL hb hr hf hdf hlo (by omega) (by omega)
              obtain ⟨T2, locs2, X2, hr2, hf2, st2⟩ := ih i d lo pc' mt L' S' H1 v H' hi h hL p e R s m args below meth c T1 locs1 _ _ X1 hx hZ hby hml hown hret hnm (hb.elim (fun q => Or.inl (by omega)) fun q => Or.inr ⟨own_heap_nil q.2.1 q.2.2 (by have := hs; rw [q.1] at this; exact this), q.2⟩) hr1 hf1 hdf hlo (by omega) (by omega)
              exact ⟨T2, locs2, X2.more (by omega) (by omega), hr2, hf2, fun fs hl => st1 _ (st2 fs hl)⟩
          · cases h
end OwnMain
/-! ## RUNS: with fuel enough -/
def own_run (P : OPrg) (i d lo pc : Nat) (L : List Slot) (S : List Value) (H : OHeap) (r : Option Value × OHeap) : Prop := ∃ q, own_exec P q i d lo pc L S H = some r
section OwnRun
variable {P : OPrg} {mt : OMth} {d d' lo lo' : Nat} {ins : Instr} {t pc : Nat} {L : List Slot} {S : List Value} {H : OHeap}
theorem own_heap_more {z : OSt} (hd : d ≤ d') (hl : lo ≤ lo') (h : own_heap P mt d lo ins t L S H = some z) : own_heap P mt d' lo' ins t L S H = some z := by
  cases ins with
  | invokespecial x =>
    simp only [own_heap] at h ⊢
    split at h <;> try cases h
    split at h <;> try cases h
    split at h <;> cases h
    rename_i hq
    rw [if_pos ⟨Nat.le_trans hq.1 hd, Nat.le_trans hq.2 hl⟩]
  | invokestatic x =>
    simp only [own_heap] at h ⊢
    split at h <;> try cases h
    split at h <;> try cases h
    split at h <;> try cases h
    rename_i e1
    split at h <;> try cases h
    rename_i e2
    split at h <;> try cases h
    rename_i e3
    split at h <;> try cases h
    rename_i e4
    split at h <;> try cases h
    rename_i e5
    split at h <;> cases h
    rename_i hq
    rw [if_pos ⟨⟨Nat.le_trans hq.1.1 hd, Nat.le_trans hq.1.2 hl⟩, hq.2⟩]
  | invokevirtual x =>
    simp only [own_heap] at h ⊢
    split at h <;> try cases h
    split at h <;> try cases h
    split at h <;> try cases h
    rename_i e1
    split at h <;> cases h
    rename_i hq
    rw [if_pos ⟨Nat.le_trans hq.1 hd, Nat.le_trans hq.2 hl⟩]
  | _ => exact h
theorem own_step_more {z : OSt} (hd : d ≤ d') (hl : lo ≤ lo') (h : own_step P mt d lo ins t pc L S H = some z) : own_step P mt d' lo' ins t pc L S H = some z := by
  unfold own_step at h ⊢
  split
  · rename_i e; simp only [e] at h; exact h
  · rename_i e; simp only [e] at h; exact own_heap_more hd hl h
end OwnRun
theorem own_exec_more {P : OPrg} : ∀ (q : Nat) {q' i d d' lo lo' pc : Nat} {L : List Slot} {S : List Value} {H : OHeap} {r : Option Value × OHeap}, q ≤ q' → d ≤ d' → lo ≤ lo' → own_exec P q i d lo pc L S H = some r → own_exec P q' i d' lo' pc L S H = some r := by
  intro q
  induction q with
  | zero => intro q' i d d' lo lo' pc L S H r _ _ _ h; cases h
  | succ q ih =>
    intro q' i d d' lo lo' pc L S H r hq hd hl h
    obtain ⟨q', rfl⟩ : ∃ k, q' = k + 1 := ⟨q' - 1, by omega⟩
    have hq' : q ≤ q' := by omega
    simp only [own_exec] at h ⊢
    split
    · rename_i e; simp only [e] at h; cases h
    · rename_i mt e; simp only [e] at h
      split
      · rename_i e1; simp only [e1] at h; cases h
      · rename_i ins t e1; simp only [e1] at h
        split
        · rename_i v e2; simp only [e2] at h; exact h
        · rename_i e2; simp only [e2] at h
          split
          · rename_i j as r' e3; simp only [e3] at h
            split
            · rename_i e4; simp only [e4] at h; cases h
            · rename_i mj e4; simp only [e4] at h
              split at h
              · rename_i hc
                rw [if_pos ⟨Nat.le_trans hc.1 hd, Nat.le_trans hc.2.1 hl, hc.2.2⟩]
                split at h
                · rename_i v H' e5
                  have e6 := ih hq' (show d - 1 ≤ d' - 1 by omega) (show lo - (own_wt r' + (mj.ml + 11)) ≤ lo' - (own_wt r' + (mj.ml + 11)) by omega) e5
                  simp only [e6]
                  exact ih hq' hd hl h
                · cases h
              · cases h
          · rename_i e3; simp only [e3] at h
            split at h
            · rename_i e4
              simp only [own_step_more hd hl e4]
              exact ih hq' hd hl h
            · cases h
section OwnRun
variable {P : OPrg} {i d d' lo lo' pc : Nat} {L : List Slot} {S : List Value} {H : OHeap} {r : Option Value × OHeap}
theorem own_run.more (hd : d ≤ d') (hl : lo ≤ lo') (h : own_run P i d lo pc L S H r) : own_run P i d' lo' pc L S H r := h.imp fun q hq => own_exec_more q (Nat.le_refl _) hd hl hq
theorem own_run.fuel (q : Nat) (h : own_exec P q i d lo pc L S H = some r) : own_run P i d lo pc L S H r := ⟨q, h⟩
/-- so many steps of the frame and the heap, no call among them -/
def own_go (P : OPrg) (mt : OMth) (d lo : Nat) : Nat → Nat → List Slot → List Value → OHeap → Option OSt
  | 0, pc, L, S, H => some (pc, L, S, H)
  | q + 1, pc, L, S, H =>
    match own_at mt pc with
    | none => none
    | some (ins, t) =>
      match own_ret mt ins S with
      | some _ => none
      | none =>
        match own_call P mt ins S H with
        | some _ => none
        | none =>
          match own_step P mt d lo ins t pc L S H with
          | some (pc', L', S', H') => own_go P mt d lo q pc' L' S' H'
          | none => none
theorem own_run.go {mt : OMth} (hi : P.1[i]? = some mt) (q : Nat) : ∀ {pc pc' : Nat} {L L' : List Slot} {S S' : List Value} {H H' : OHeap}, own_go P mt d lo q pc L S H = some (pc', L', S', H') → own_run P i d lo pc' L' S' H' r → own_run P i d lo pc L S H r := by
  induction q with
  | zero => intro pc pc' L L' S S' H H' h k; cases h; exact k
  | succ q ih =>
    intro pc pc' L L' S S' H H' h k
    simp only [own_go] at h
    split at h
    · cases h
    · rename_i ins t e1
      split at h
      · cases h
      · rename_i e2
        split at h
        · cases h
        · rename_i e3
          split at h
          · rename_i e4
            obtain ⟨f, hf⟩ := ih h k
            exact ⟨f + 1, by simp only [own_exec, hi, e1, e2, e3, e4]; exact hf⟩
          · cases h
theorem own_run.ret {mt : OMth} (hi : P.1[i]? = some mt) {ins : Instr} {t : Nat} {v : Option Value} (h1 : own_at mt pc = some (ins, t)) (h2 : own_ret mt ins S = some v) : own_run P i d lo pc L S H (v, H) := ⟨1, by simp only [own_exec, hi, h1, h2]⟩
theorem own_run.call {mt mj : OMth} (hi : P.1[i]? = some mt) {ins : Instr} {t j : Nat} {as r' : List Value} {v : Option Value} {H' : OHeap} (h1 : own_at mt pc = some (ins, t)) (h2 : own_ret mt ins S = none) (h3 : own_call P mt ins S H = some (j, as, r')) (hj : P.1[j]? = some mj)
    (h4 : 1 ≤ d ∧ own_wt r' + (mj.ml + 11) ≤ lo ∧ (own_entry as mj.ml).length = mj.ml) (k1 : own_run P j (d - 1) (lo - (own_wt r' + (mj.ml + 11))) 0 (own_entry as mj.ml) [] H (v, H')) (k2 : own_run P i d lo t L (v.toList ++ r') H' r) : own_run P i d lo pc L S H r := by
  obtain ⟨q1, e1⟩ := k1
  obtain ⟨q2, e2⟩ := k2
  refine ⟨max q1 q2 + 1, ?_⟩
  simp only [own_exec, hi, h1, h2, h3, hj, if_pos h4, own_exec_more q1 (Nat.le_max_left q1 q2) (Nat.le_refl _) (Nat.le_refl _) e1]
  exact own_exec_more q2 (Nat.le_max_right q1 q2) (Nat.le_refl _) (Nat.le_refl _) e2
end OwnRun
/-- a run of the law that ends: the model's -/
theorem own_law (l : Launch) {Z : State} {a0 : Array Value} {P : OPrg} (G : own_good Z a0 P) {mt : OMth} (hi : P.1[0]? = some mt) {as : List Value} {v : Option Value} {H' : OHeap} {d lo : Nat} (hlen : (own_entry as mt.ml).length = mt.ml) (h : own_run P 0 d lo 0 (own_entry as mt.ml) [] [] (v, H')) (ws : List Jvm.Cond) (R : Room)
    (hdf : d ≤ R.frames) (hlo : lo ≤ R.locals) (hc : H'.length ≤ R.cells) (hs : own_w P.2.1 H' ≤ R.slots) :
    MetFree l mt.nm (head1 (Jvm.Cond.code mt.nm mt.bs mt.ml mt.rt :: ws) R) (fun a U => a = (as.map (own_sh Z.heap.size)).toArray ∧ Z.Warmed39 U.vm ∧ U.heap = Z.heap) (fun _ _ _ _ _ => True)
      (fun _ U o U' => ∃ w L, o = .returned w ∧ (w = v.map (own_sh Z.heap.size) ∧ Fr Z.heap.size L) ∧ FrameEnd U o U' L H'.length (own_w P.2.1 H')) := by
  obtain ⟨q, h⟩ := h
  have h0 : own_w P.2.1 [] = 0 := rfl
  have hr : own_rep Z Z.heap.size P.2.1 [] Z.heap := ⟨rfl, fun i c hc => by simp at hc⟩
  have M := own_met G (own_sound l G q) hi h hlen ws R hdf hlo (by simpa using hc) (by rw [h0]; simpa using hs) Z.heap hr
  refine M.mono (fun _ _ h => h) (fun _ _ _ _ _ h => h) (fun _ _ o U' _ h => ?_)
  obtain ⟨w, L, e1, ⟨e2, -, e3⟩, e4⟩ := h
  refine ⟨w, L, e1, ⟨e2, e3⟩, ?_⟩
  rw [h0] at e4
  exact e4
/-! ### one law an entry -/
section OwnEnts
variable {Z : State} {a0 : Array Value} {P : OPrg} {y : MethodName} {x : Nat}
theorem own_e0 {j a : Nat} {b : Int} {mj : OMth} (h1 : P.1[j]? = some mj) (h2 : (Jvm.Cond.methodLink y.cls x mj.nm).before a0 Z = true) (h3 : (Jvm.Cond.static mj.nm).before a0 Z = true) (h4 : (Jvm.Cond.initialized mj.nm.cls).before a0 Z = true) (h5 : own_okY mj.nm) (h6 : own_okD 0 mj) : own_okE Z a0 P y x (0, j, a, b) := ⟨mj, h1, h2, h3, h4, h5, h6⟩
theorem own_e1 {j a : Nat} {b : Int} {mj : OMth} (h1 : P.1[j]? = some mj) (g1 : mj.nm.name = "<init>") (g2 : mj.rt = none) (h2 : (Jvm.Cond.methodLink y.cls x mj.nm).before a0 Z = true) (h3 : (Jvm.Cond.instanceMethod mj.nm).before a0 Z = true) (h4 : (Jvm.Cond.initialized mj.nm.cls).before a0 Z = true) (h5 : own_okY mj.nm) (h6 : own_okD 1 mj) : own_okE Z a0 P y x (1, j, a, b) := ⟨mj, h1, g1, g2, h2, h3, h4, h5, h6⟩
theorem own_e2 {j a : Nat} {b : Int} (h1 : (Jvm.Cond.methodLink y.cls x Lib.objectInit).before a0 Z = true) (h2 : (Jvm.Cond.instanceMethod Lib.objectInit).before a0 Z = true) (h3 : (Jvm.Cond.code Lib.objectInit ⟨#[0xb1]⟩ 1 none).before a0 Z = true) : own_okE Z a0 P y x (2, j, a, b) := ⟨h1, h2, h3⟩
theorem own_e3 {j k : Nat} {b : Int} {mj : OMth} {c : OKls} {v : MethodName} (h1 : P.1[j]? = some mj) (h2 : P.2.1[k]? = some c) (h3 : v.desc = mj.nm.desc) (h4 : (Jvm.Cond.methodLink y.cls x v).before a0 Z = true) (h5 : (Jvm.Cond.declares v).before a0 Z = true) (h6 : (Jvm.Cond.selects c.1 v mj.nm).before a0 Z = true) (h7 : (Jvm.Cond.instanceMethod mj.nm).before a0 Z = true) (h8 : (Jvm.Cond.initialized mj.nm.cls).before a0 Z = true) (h9 : ∀ s : State, Z.Warmed39 s.vm → NotFace s v) (h10 : own_okY v) (h11 : own_okD 1 mj) : own_okE Z a0 P y x (3, j, k, b) := ⟨mj, c, v, h1, h2, h3, h4, h5, h6, h7, h8, h9, h10, h11⟩
theorem own_e4 {j k : Nat} {b : Int} {mj : OMth} (h1 : P.1[j]? = some mj) (h2 : (Jvm.Cond.methodLink y.cls x mj.nm).before a0 Z = true) (h3 : (Jvm.Cond.instanceMethod mj.nm).before a0 Z = true) (h4 : (Jvm.Cond.privateMethod mj.nm).before a0 Z = true) (h5 : ∀ s : State, Z.Warmed39 s.vm → NotFace s mj.nm) (h6 : (Jvm.Cond.initialized mj.nm.cls).before a0 Z = true) (h7 : own_okY mj.nm) (h8 : own_okD 1 mj) : own_okE Z a0 P y x (4, j, k, b) := ⟨mj, h1, h2, h3, h4, h5, h6, h7, h8⟩
theorem own_e6 {k j : Nat} {u : Int} {c : OKls} {f : OFld} {R0 : String} (h1 : P.2.1[k]? = some c) (h2 : c.2.2[j]? = some f) (h3 : (Jvm.Cond.fieldLink y.cls x R0 f.2.1 f.2.2.1).before a0 Z = true) (h4 : Via Z R0 f.1 f.2.1 f.2.2.1) (h5 : u = 1 → (Jvm.Cond.lays c.1 f.1 f.2.1 f.2.2.1).before a0 Z = true ∨ ((Jvm.Cond.laysFinal c.1 f.1 f.2.1 f.2.2.1).before a0 Z = true ∧ y.cls = f.1 ∧ y.name = "<init>")) : own_okE Z a0 P y x (6, k, j, u) := ⟨c, f, R0, h1, h2, h3, h4, h5⟩
theorem own_e7 {k j : Nat} {u : Int} {c : OKls} (h1 : P.2.1[k]? = some c) (h2 : (Jvm.Cond.classLink y.cls x c.1).before a0 Z = true) : own_okE Z a0 P y x (7, k, j, u) := ⟨c, h1, h2⟩
theorem own_e8 {k j : Nat} {u : Int} {w : Int32} (h1 : Int32.ofInt u = w) (h2 : (Jvm.Cond.constant y.cls x w).before a0 Z = true) : own_okE Z a0 P y x (8, k, j, u) := by subst h1; exact h2
theorem own_e9 {k j : Nat} {u : Int} {w : Int64} (h1 : Int64.ofInt u = w) (h2 : (Jvm.Cond.constantLong y.cls x w).before a0 Z = true) : own_okE Z a0 P y x (9, k, j, u) := by subst h1; exact h2
theorem own_e10 {k j : Nat} {u : Int} (h1 : (Jvm.Cond.methodLink y.cls x Jvm.Stand.acN).before a0 Z = true) (h2 : (Jvm.Cond.native Jvm.Stand.acN).before a0 Z = true) (h3 : (Jvm.Cond.static Jvm.Stand.acN).before a0 Z = true) (h4 : (Jvm.Cond.initialized "java/lang/System").before a0 Z = true) : own_okE Z a0 P y x (10, k, j, u) := ⟨h1, h2, h3, h4⟩
theorem own_e11 {k j : Nat} {u : Int} (h1 : (Jvm.Cond.methodLink y.cls x ⟨"[I", "clone", "()Ljava/lang/Object;"⟩).before a0 Z = true) (h2 : (Jvm.Cond.sameMethod "[I" "java/lang/Object" "clone" "()Ljava/lang/Object;").before a0 Z = true) (h3 : (Jvm.Cond.native ⟨"java/lang/Object", "clone", "()Ljava/lang/Object;"⟩).before a0 Z = true) (h4 : (Jvm.Cond.instanceMethod ⟨"java/lang/Object", "clone", "()Ljava/lang/Object;"⟩).before a0 Z = true) (h5 : (Jvm.Cond.selects "[I" ⟨"[I", "clone", "()Ljava/lang/Object;"⟩ ⟨"java/lang/Object", "clone", "()Ljava/lang/Object;"⟩).before a0 Z = true) (h6 : (Jvm.Cond.castable "[I" "java/lang/Cloneable").before a0 Z = true) : own_okE Z a0 P y x (11, k, j, u) := ⟨h1, h2, h3, h4, h5, h6⟩
theorem own_e12 {k j : Nat} {u : Int} (h1 : (Jvm.Cond.classLink y.cls x "[I").before a0 Z = true) : own_okE Z a0 P y x (12, k, j, u) := h1
theorem own_e5 {j k : Nat} {b : Int} {mj : OMth} {c : OKls} (h1 : P.1[j]? = some mj) (h2 : P.2.1[k]? = some c) (h3 : mj.nm.name ≠ "<init>") (h4 : (Jvm.Cond.methodLink y.cls x mj.nm).before a0 Z = true) (h5 : (Jvm.Cond.instanceMethod mj.nm).before a0 Z = true) (h6 : (Jvm.Cond.superclass y.cls mj.nm.cls).before a0 Z = true) (h7 : NotFace Z mj.nm) (h8 : (Jvm.Cond.initialized mj.nm.cls).before a0 Z = true) (h9 : own_okY mj.nm) (h10 : own_okD 1 mj) : own_okE Z a0 P y x (5, j, k, b) := ⟨mj, c, h1, h2, h3, h4, h5, h6, h7, h8, h9, h10⟩
theorem own_e13 {j k : Nat} {b : Int} {mj : OMth} {c : OKls} {v : MethodName} {ow : String} (h1 : P.1[j]? = some mj) (h2 : P.2.1[k]? = some c) (h3 : v.desc = mj.nm.desc) (h4 : (Jvm.Cond.methodLink y.cls x v).before a0 Z = true) (h5 : (Jvm.Cond.sameMethod v.cls ow v.name v.desc).before a0 Z = true) (h6 : (Jvm.Cond.declares ⟨ow, v.name, v.desc⟩).before a0 Z = true) (h7 : (Jvm.Cond.selects c.1 v mj.nm).before a0 Z = true) (h8 : (Jvm.Cond.instanceMethod mj.nm).before a0 Z = true) (h9 : (Jvm.Cond.initialized mj.nm.cls).before a0 Z = true) (h10 : ow ≠ "java/lang/invoke/MethodHandle" ∧ ow ≠ "java/lang/invoke/VarHandle") (h11 : own_okD 1 mj) : own_okE Z a0 P y x (13, j, k, b) := ⟨mj, c, v, ow, h1, h2, h3, h4, h5, h6, h7, h8, h9, h10, h11⟩
theorem own_nf {s : State} {args : Array Value} {C : String} {y y' : MethodName} (hc : y.cls = y'.cls) (w : (Jvm.Cond.selects C y' y').before args s = true) : NotFace s y := fun r0 h0 => by
  obtain ⟨c2, r2, m2, q1, q2, q3, q4, kP, hkP, hkPi⟩ := Cond.selects_spec w
  have e1 := findClass_of_methodNamed h0
  have e2 := findClass_of_methodNamed q3
  rw [hc] at e1
  have e3 : r0.cls = m2.cls := Option.some.inj (e1.symm.trans e2)
  exact ⟨kP, by rw [e3]; exact hkP, hkPi⟩
end OwnEnts
/-! ## RUNS WITH THE FRAMES BENEATH: what a walk is printed in -/
abbrev OFm := Nat × Nat × Nat × Nat × List Slot × List Value
def own_ks (P : OPrg) (Q : Option Value → OHeap → Prop) : List OFm → Nat → Nat → Nat → Nat → List Slot → List Value → OHeap → Prop
  | [], i, d, lo, pc, L, S, H => ∃ v H', own_run P i d lo pc L S H (v, H') ∧ Q v H'
  | (i', d', lo', t', L', S') :: st, i, d, lo, pc, L, S, H => ∃ v H', own_run P i d lo pc L S H (v, H') ∧ own_ks P Q st i' d' lo' t' L' (v.toList ++ S') H'
section OwnKs
variable {P : OPrg} {Q : Option Value → OHeap → Prop} {st : List OFm} {i d lo pc : Nat} {L : List Slot} {S : List Value} {H : OHeap} {mt mj : OMth}
theorem own_ks.of {i' d' lo' pc' : Nat} {L' : List Slot} {S' : List Value} {H' : OHeap} (h : ∀ r, own_run P i' d' lo' pc' L' S' H' r → own_run P i d lo pc L S H r) (k : own_ks P Q st i' d' lo' pc' L' S' H') : own_ks P Q st i d lo pc L S H := by
  cases st with
  | nil => obtain ⟨v, H2, k, q⟩ := k; exact ⟨v, H2, h _ k, q⟩
  | cons f st => obtain ⟨v, H2, k, q⟩ := k; exact ⟨v, H2, h _ k, q⟩
theorem own_ks.go (hi : P.1[i]? = some mt) (n : Nat) {pc' : Nat} {L' : List Slot} {S' : List Value} {H' : OHeap} (h : own_go P mt d lo n pc L S H = some (pc', L', S', H')) (k : own_ks P Q st i d lo pc' L' S' H') : own_ks P Q st i d lo pc L S H :=
  own_ks.of (fun _ => own_run.go hi n h) k
theorem own_go1 {ins : Instr} {t : Nat} {z : OSt} (h1 : own_at mt pc = some (ins, t)) (h2 : own_ret mt ins S = none) (h3 : own_call P mt ins S H = none) (h4 : own_step P mt d lo ins t pc L S H = some z) : own_go P mt d lo 1 pc L S H = some z := by
  obtain ⟨a, b, c, e⟩ := z
  simp only [own_go, h1, h2, h3, h4]
theorem own_ks.br2 (hi : P.1[i]? = some mt) {cd : ClassFile.Cond} {o : Int} {t pc' : Nat} {x y : Int32} {b : Bool} (h1 : own_at mt pc = some (.if_icmp cd o, t)) (hb : if_icmp.holds cd x y = b) (hp : (match b with | true => t | false => pc + 3) = pc') (k : own_ks P Q st i d lo pc' L S H) : own_ks P Q st i d lo pc L (.int y :: .int x :: S) H := by
  refine own_ks.go hi 1 (own_go1 h1 rfl rfl ?_) k
  subst hp
  simp only [own_step, own_pure, hb, own_br]
  cases b <;> rfl
theorem own_ks.br1 (hi : P.1[i]? = some mt) {cd : ClassFile.Cond} {o : Int} {t pc' : Nat} {x : Int32} {b : Bool} (h1 : own_at mt pc = some (.ifCond cd o, t)) (hb : ifCond.holds cd x = b) (hp : (match b with | true => t | false => pc + 3) = pc') (k : own_ks P Q st i d lo pc' L S H) : own_ks P Q st i d lo pc L (.int x :: S) H := by
  refine own_ks.go hi 1 (own_go1 h1 rfl rfl ?_) k
  subst hp
  simp only [own_step, own_pure, hb, own_br]
  cases b <;> rfl
theorem own_ks.sw (hi : P.1[i]? = some mt) {df : Int} {ps : Array (Int × Int)} {t pc' : Nat} {x : Int32} (h1 : own_at mt pc = some (.lookupswitch df ps, t)) (hj : own_jmp pc (lookupswitch.offset ps.toList df x.toInt) = some pc') (k : own_ks P Q st i d lo pc' L S H) : own_ks P Q st i d lo pc L (.int x :: S) H := by
  refine own_ks.go hi 1 (own_go1 h1 rfl rfl ?_) k
  simp only [own_step, own_pure, hj]
/-- the room that a call takes -/
def own_fitc (d lo ml : Nat) (as r : List Value) : Bool := Nat.ble 1 d && (Nat.ble (own_wt r + (ml + 11)) lo && (own_entry as ml).length == ml)
theorem own_fitc_ok {d lo ml : Nat} {as r : List Value} (h : own_fitc d lo ml as r = true) : 1 ≤ d ∧ own_wt r + (ml + 11) ≤ lo ∧ (own_entry as ml).length = ml := by
  simp only [own_fitc, Bool.and_eq_true, Nat.ble_eq, beq_iff_eq] at h
  exact h
theorem own_ks.into (hi : P.1[i]? = some mt) {ins : Instr} {t j d' lo' : Nat} {as r' : List Value} (h1 : own_at mt pc = some (ins, t)) (h2 : own_ret mt ins S = none) (h3 : own_call P mt ins S H = some (j, as, r')) (hj : P.1[j]? = some mj) (h4 : own_fitc d lo mj.ml as r' = true) (hd : d - 1 = d') (hl : lo - (own_wt r' + (mj.ml + 11)) = lo') {L' : List Slot} (hL : own_entry as mj.ml = L')
    (k : own_ks P Q ((i, d, lo, t, L, r') :: st) j d' lo' 0 L' [] H) : own_ks P Q st i d lo pc L S H := by
  subst hd hl hL
  obtain ⟨v, H', k1, k2⟩ := k
  cases st with
  | nil => obtain ⟨v2, H2, k3, q⟩ := k2; exact ⟨v2, H2, own_run.call hi h1 h2 h3 hj (own_fitc_ok h4) k1 k3, q⟩
  | cons f st => obtain ⟨v2, H2, k3, q⟩ := k2; exact ⟨v2, H2, own_run.call hi h1 h2 h3 hj (own_fitc_ok h4) k1 k3, q⟩
theorem own_ks.call (hi : P.1[i]? = some mt) {ins : Instr} {t j : Nat} {as r' : List Value} {v : Option Value} {H' : OHeap} {S' : List Value} (h1 : own_at mt pc = some (ins, t)) (h2 : own_ret mt ins S = none) (h3 : own_call P mt ins S H = some (j, as, r')) (hj : P.1[j]? = some mj) (h4 : own_fitc d lo mj.ml as r' = true)
    (k1 : own_run P j (d - 1) (lo - (own_wt r' + (mj.ml + 11))) 0 (own_entry as mj.ml) [] H (v, H')) (hS : v.toList ++ r' = S') (k : own_ks P Q st i d lo t L S' H') : own_ks P Q st i d lo pc L S H := by
  subst hS
  exact own_ks.of (fun _ k2 => own_run.call hi h1 h2 h3 hj (own_fitc_ok h4) k1 k2) k
theorem own_ks.back (hi : P.1[i]? = some mt) {ins : Instr} {t : Nat} {v : Option Value} {i' d' lo' t' : Nat} {L' : List Slot} {S' S2 : List Value} (h1 : own_at mt pc = some (ins, t)) (h2 : own_ret mt ins S = some v) (hS : v.toList ++ S' = S2) (k : own_ks P Q st i' d' lo' t' L' S2 H) : own_ks P Q ((i', d', lo', t', L', S') :: st) i d lo pc L S H := by
  subst hS
  exact ⟨v, H, own_run.ret hi h1 h2, k⟩
theorem own_ks.ret (hi : P.1[i]? = some mt) {ins : Instr} {t : Nat} {v : Option Value} (h1 : own_at mt pc = some (ins, t)) (h2 : own_ret mt ins S = some v) (q : Q v H) : own_ks P Q [] i d lo pc L S H := ⟨v, H, own_run.ret hi h1 h2, q⟩
theorem own_nt {x c : Int32} {k : Int} (h : ¬ x = c) (e : c.toInt = k) : ¬ (k = x.toInt) := fun q => h (Int32.toInt_inj.mp (q.symm.trans e.symm))
theorem own_yt {x c : Int32} {k : Int} (h : x = c) (e : c.toInt = k) : k = x.toInt := by subst h; exact e.symm
end OwnKs
/-- what a law owes at its end -/
def own_end (K : List OKls) (cells slots : Nat) (v : Option Value) (H : OHeap) : Prop := v = some (.int 1) ∧ H.length ≤ cells ∧ own_w K H ≤ slots
theorem own_endOk {K : List OKls} {cells slots : Nat} {v : Option Value} {H : OHeap} (h1 : v = some (.int 1)) (h2 : Nat.ble H.length cells = true) (h3 : Nat.ble (own_w K H) slots = true) : own_end K cells slots v H := ⟨h1, Nat.le_of_ble_eq_true h2, Nat.le_of_ble_eq_true h3⟩
theorem own_ks_run {P : OPrg} {i d lo pc : Nat} {L : List Slot} {S : List Value} {H : OHeap} {v : Option Value} {H' : OHeap} (k : own_ks P (fun w G => w = v ∧ G = H') [] i d lo pc L S H) : own_run P i d lo pc L S H (v, H') := by
  obtain ⟨w, G, h, rfl, rfl⟩ := k
  exact h
section OwnKs2
variable {P : OPrg} {Q : Option Value → OHeap → Prop} {st : List OFm} {i d lo pc t a q : Nat} {L : List Slot} {S vs : List Value} {H : OHeap} {mt : OMth} {j : Int32} {v : Value}
theorem own_ks.iaload (hi : P.1[i]? = some mt) (h1 : own_at mt pc = some (.iaload, t)) (ha : own_arr H a .int = some vs) (hq : own_ix j = some q) (hv : vs[q]? = some v) (k : own_ks P Q st i d lo t L (v :: S) H) : own_ks P Q st i d lo pc L (.int j :: .ref a :: S) H :=
  own_ks.go hi 1 (own_go1 h1 rfl rfl (by simp only [own_step, own_pure, own_heap, own_ald, ha, hq, hv])) k
theorem own_ks.laload (hi : P.1[i]? = some mt) (h1 : own_at mt pc = some (.laload, t)) (ha : own_arr H a .long = some vs) (hq : own_ix j = some q) (hv : vs[q]? = some v) (k : own_ks P Q st i d lo t L (v :: S) H) : own_ks P Q st i d lo pc L (.int j :: .ref a :: S) H :=
  own_ks.go hi 1 (own_go1 h1 rfl rfl (by simp only [own_step, own_pure, own_heap, own_ald, ha, hq, hv])) k
theorem own_ks.iastore {x : Int32} {H' : OHeap} (hi : P.1[i]? = some mt) (h1 : own_at mt pc = some (.iastore, t)) (ha : own_arr H a .int = some vs) (hq : own_ix j = some q) (hl : q < vs.length) (hH : H.set a (.inr .int, vs.set q (.int x)) = H') (k : own_ks P Q st i d lo t L S H') : own_ks P Q st i d lo pc L (.int x :: .int j :: .ref a :: S) H := by
  subst hH
  exact own_ks.go hi 1 (own_go1 h1 rfl rfl (by simp only [own_step, own_pure, own_heap, own_ast, ha, hq, if_pos hl, own_nar])) k
theorem own_ks.lastore {x : Int64} {H' : OHeap} (hi : P.1[i]? = some mt) (h1 : own_at mt pc = some (.lastore, t)) (ha : own_arr H a .long = some vs) (hq : own_ix j = some q) (hl : q < vs.length) (hH : H.set a (.inr .long, vs.set q (.long x)) = H') (k : own_ks P Q st i d lo t L S H') : own_ks P Q st i d lo pc L (.long x :: .int j :: .ref a :: S) H := by
  subst hH
  exact own_ks.go hi 1 (own_go1 h1 rfl rfl (by simp only [own_step, own_pure, own_heap, own_ast, ha, hq, if_pos hl, own_nar])) k
theorem own_ks.alen {ty : FieldType} {z : Int32} (hi : P.1[i]? = some mt) (h1 : own_at mt pc = some (.arraylength, t)) (ha : H[a]? = some (.inr ty, vs)) (hz : vs.length.toInt32 = z) (k : own_ks P Q st i d lo t L (.int z :: S) H) : own_ks P Q st i d lo pc L (.ref a :: S) H := by
  subst hz
  exact own_ks.go hi 1 (own_go1 h1 rfl rfl (by simp only [own_step, own_pure, own_heap, ha])) k
end OwnKs2
/-! ## the program: printed by wip/tools/gen.py out of the sheet -/
def own_k0 : OKls := ("com/example/castellan/castellan/core/ReachedPairs", 7, [("com/example/castellan/castellan/core/ReachedPairs", "firsts", "[I", (.array .int)), ("com/example/castellan/castellan/core/ReachedPairs", "seconds", "[I", (.array .int)), ("com/example/castellan/castellan/core/ReachedPairs", "parents", "[I", (.array .int)), ("com/example/castellan/castellan/core/ReachedPairs", "inputs", "[I", (.array .int)), ("com/example/castellan/castellan/core/ReachedPairs", "slots", "[I", (.array .int)), ("com/example/castellan/castellan/core/ReachedPairs", "mostPairs", "I", .int), ("com/example/castellan/castellan/core/ReachedPairs", "size", "I", .int)])
def own_r0 : List (List ORow) := [[(0, .iload_n 0, 1), (1, .iconst 1, 2), (2, .iand, 3), (3, .istore 6, 5), (5, .iload_n 0, 6), (6, .iconst 1, 7), (7, .iushr, 8), (8, .iconst 3, 9), (9, .iand, 10), (10, .iconst 3, 11), (11, .irem, 12), (12, .istore 7, 14), (14, .iload_n 0, 15), (15, .iconst 3, 16)],
  [(16, .iushr, 17), (17, .iconst 3, 18), (18, .iand, 19), (19, .istore 8, 21), (21, .new 7, 24), (24, .dup, 25), (25, .ldc 9, 27), (27, .invokespecial 10, 30), (30, .astore 9, 32)],
  [(32, .aload 9, 34), (34, .iload 5, 36), (36, .iload 5, 38), (38, .iconst (-1), 39), (39, .iconst (-1), 40), (40, .invokevirtual 15, 43), (43, .aload 9, 45), (45, .iload 5, 47), (47, .iconst 1, 48)],
  [(48, .iadd, 49), (49, .iload 5, 51), (51, .iconst 0, 52), (52, .iload_n 1, 53), (53, .invokevirtual 15, 56), (56, .aload 9, 58), (58, .iload 5, 60), (60, .iconst 2, 61), (61, .iadd, 62), (62, .iload 5, 64)],
  [(64, .iload 6, 66), (66, .iload_n 2, 67), (67, .invokevirtual 15, 70), (70, .aload 9, 72), (72, .iload 5, 74), (74, .iconst 3, 75), (75, .iadd, 76), (76, .iload 5, 78), (78, .iload 7, 80)],
  [(80, .iload_n 3, 81), (81, .invokevirtual 15, 84), (84, .aload 9, 86), (86, .iload 8, 88), (88, .iload 4, 90), (90, .invokevirtual 19, 93), (93, .astore 10, 95), (95, .iconst 4, 96)],
  [(96, .newarray .int, 98), (98, .astore 11, 100), (100, .iload 8, 102), (102, .ifCond .ne 9, 111), (105, .iconst 0, 106), (106, .istore 12, 108), (108, .goto 135, 243), (111, .iload 8, 113)],
  [(113, .iconst 1, 114), (114, .if_icmp .ne 14, 128), (117, .iconst 1, 118), (118, .istore 12, 120), (120, .aload 11, 122), (122, .iconst 0, 123), (123, .iload_n 1, 124), (124, .iastore, 125), (125, .goto 118, 243)],
  [(128, .iload 8, 130), (130, .iconst 2, 131), (131, .if_icmp .ne 35, 166), (134, .iload 6, 136), (136, .ifCond .ne 14, 150), (139, .iconst 1, 140), (140, .istore 12, 142), (142, .aload 11, 144)],
  [(144, .iconst 0, 145), (145, .iload_n 2, 146), (146, .iastore, 147), (147, .goto 96, 243), (150, .iconst 2, 151), (151, .istore 12, 153), (153, .aload 11, 155), (155, .iconst 0, 156), (156, .iload_n 1, 157), (157, .iastore, 158), (158, .aload 11, 160)],
  [(160, .iconst 1, 161), (161, .iload_n 2, 162), (162, .iastore, 163), (163, .goto 80, 243), (166, .iload 7, 168), (168, .ifCond .ne 14, 182), (171, .iconst 1, 172), (172, .istore 12, 174), (174, .aload 11, 176)],
  [(176, .iconst 0, 177), (177, .iload_n 3, 178), (178, .iastore, 179), (179, .goto 64, 243), (182, .iload 7, 184), (184, .iconst 1, 185), (185, .if_icmp .ne 19, 204), (188, .iconst 2, 189), (189, .istore 12, 191), (191, .aload 11, 193)],
  [(193, .iconst 0, 194), (194, .iload_n 1, 195), (195, .iastore, 196), (196, .aload 11, 198), (198, .iconst 1, 199), (199, .iload_n 3, 200), (200, .iastore, 201), (201, .goto 42, 243), (204, .iload 6, 206), (206, .ifCond .ne 19, 225)],
  [(209, .iconst 2, 210), (210, .istore 12, 212), (212, .aload 11, 214), (214, .iconst 0, 215), (215, .iload_n 2, 216), (216, .iastore, 217), (217, .aload 11, 219), (219, .iconst 1, 220), (220, .iload_n 3, 221), (221, .iastore, 222), (222, .goto 21, 243)],
  [(225, .iconst 3, 226), (226, .istore 12, 228), (228, .aload 11, 230), (230, .iconst 0, 231), (231, .iload_n 1, 232), (232, .iastore, 233), (233, .aload 11, 235), (235, .iconst 1, 236), (236, .iload_n 2, 237), (237, .iastore, 238), (238, .aload 11, 240)],
  [(240, .iconst 2, 241), (241, .iload_n 3, 242), (242, .iastore, 243), (243, .aload 11, 245), (245, .iload 12, 247), (247, .iload 4, 249), (249, .iastore, 250), (250, .aload 10, 252), (252, .ifnull 13, 265), (255, .aload 10, 257)],
  [(257, .arraylength, 258), (258, .iload 12, 260), (260, .iconst 1, 261), (261, .iadd, 262), (262, .if_icmp .eq 5, 267), (265, .iconst 0, 266), (266, .ireturn, 267), (267, .aload 10, 269), (269, .aload 11, 271), (271, .iconst 0, 272)],
  [(272, .invokestatic 23, 275), (275, .ifCond .eq 40, 315), (278, .aload 10, 280), (280, .aload 11, 282), (282, .iconst 1, 283), (283, .invokestatic 23, 286), (286, .ifCond .eq 29, 315)],
  [(289, .aload 10, 291), (291, .aload 11, 293), (293, .iconst 2, 294), (294, .invokestatic 23, 297), (297, .ifCond .eq 18, 315), (300, .aload 10, 302), (302, .aload 11, 304)],
  [(304, .iconst 3, 305), (305, .invokestatic 23, 308), (308, .ifCond .eq 7, 315), (311, .iconst 1, 312), (312, .goto 4, 316), (315, .iconst 0, 316), (316, .ireturn, 317)]]
def own_m0 : OMth := (x, code, maxLocals, ret, 6, own_r0, [(7, (7, 0, 0, 0)), (9, (8, 0, 0, 536870912)), (10, (1, 1, 0, 0)), (15, (3, 2, 0, 0)), (19, (3, 5, 0, 0)), (23, (0, 6, 0, 0))])
def own_r1 : List (List ORow) := [[(0, .aload_n 0, 1), (1, .invokespecial 1, 4), (4, .aload_n 0, 5), (5, .bipush 16, 7), (7, .newarray .int, 9), (9, .putfield 7, 12), (12, .aload_n 0, 13), (13, .aload_n 0, 14), (14, .getfield 7, 17)],
  [(17, .arraylength, 18), (18, .newarray .int, 20), (20, .putfield 13, 23), (23, .aload_n 0, 24), (24, .aload_n 0, 25), (25, .getfield 7, 28), (28, .arraylength, 29), (29, .newarray .int, 31), (31, .putfield 16, 34)],
  [(34, .aload_n 0, 35), (35, .aload_n 0, 36), (36, .getfield 7, 39), (39, .arraylength, 40), (40, .newarray .int, 42), (42, .putfield 19, 45), (45, .aload_n 0, 46), (46, .iconst 2, 47), (47, .aload_n 0, 48)],
  [(48, .getfield 7, 51), (51, .arraylength, 52), (52, .imul, 53), (53, .newarray .int, 55), (55, .putfield 22, 58), (58, .aload_n 0, 59), (59, .iload_n 1, 60), (60, .putfield 25, 63), (63, .return_, 64)]]
def own_m1 : OMth := (⟨"com/example/castellan/castellan/core/ReachedPairs", "<init>", "(I)V"⟩, prog_140_method_1_code, 2, none, 2, own_r1, [(1, (2, 0, 0, 0)), (7, (6, 0, 0, 1)), (13, (6, 0, 1, 1)), (16, (6, 0, 2, 1)), (19, (6, 0, 3, 1)), (22, (6, 0, 4, 1)), (25, (6, 0, 5, 1))])
def own_r2 : List (List ORow) := [[(0, .aload_n 0, 1), (1, .getfield 22, 4), (4, .arraylength, 5), (5, .iconst 1, 6), (6, .isub, 7), (7, .istore 5, 9), (9, .aload_n 0, 10), (10, .iload_n 1, 11), (11, .iload_n 2, 12), (12, .invokevirtual 32, 15), (15, .istore 6, 17)],
  [(17, .aload_n 0, 18), (18, .getfield 22, 21), (21, .iload 6, 23), (23, .iaload, 24), (24, .ifCond .eq 49, 73), (27, .aload_n 0, 28), (28, .getfield 22, 31), (31, .iload 6, 33)],
  [(33, .iaload, 34), (34, .iconst 1, 35), (35, .isub, 36), (36, .istore 7, 38), (38, .aload_n 0, 39), (39, .getfield 7, 42), (42, .iload 7, 44), (44, .iaload, 45), (45, .iload_n 1, 46), (46, .if_icmp .ne 15, 61)],
  [(49, .aload_n 0, 50), (50, .getfield 13, 53), (53, .iload 7, 55), (55, .iaload, 56), (56, .iload_n 2, 57), (57, .if_icmp .ne 4, 61), (60, .return_, 61), (61, .iload 6, 63), (63, .iconst 1, 64)],
  [(64, .iadd, 65), (65, .iload 5, 67), (67, .iand, 68), (68, .istore 6, 70), (70, .goto (-53), 17), (73, .aload_n 0, 74), (74, .getfield 29, 77), (77, .aload_n 0, 78), (78, .getfield 25, 81)],
  [(81, .if_icmp .ne 24, 105), (84, .new 36, 87), (87, .dup, 88), (88, .aload_n 0, 89), (89, .getfield 25, 92), (92, .aload_n 0, 93), (93, .getfield 25, 96)],
  [(101, .invokespecial 42, 104), (105, .aload_n 0, 106), (106, .getfield 29, 109), (109, .aload_n 0, 110), (110, .getfield 7, 113)],
  [(113, .arraylength, 114), (114, .if_icmp .ne 70, 184), (117, .iconst 2, 118), (118, .aload_n 0, 119), (119, .getfield 29, 122), (122, .imul, 123), (123, .aload_n 0, 124), (124, .getfield 25, 127), (127, .invokestatic 45, 130)],
  [(130, .istore 7, 132), (132, .aload_n 0, 133), (133, .aload_n 0, 134), (134, .getfield 7, 137), (137, .iload 7, 139), (139, .invokestatic 50, 142), (142, .putfield 7, 145)],
  [(145, .aload_n 0, 146), (146, .aload_n 0, 147), (147, .getfield 13, 150), (150, .iload 7, 152), (152, .invokestatic 50, 155), (155, .putfield 13, 158), (158, .aload_n 0, 159), (159, .aload_n 0, 160)],
  [(160, .getfield 16, 163), (163, .iload 7, 165), (165, .invokestatic 50, 168), (168, .putfield 16, 171), (171, .aload_n 0, 172), (172, .aload_n 0, 173), (173, .getfield 19, 176)],
  [(176, .iload 7, 178), (178, .invokestatic 50, 181), (181, .putfield 19, 184), (184, .aload_n 0, 185), (185, .getfield 7, 188), (188, .aload_n 0, 189), (189, .getfield 29, 192)],
  [(192, .iload_n 1, 193), (193, .iastore, 194), (194, .aload_n 0, 195), (195, .getfield 13, 198), (198, .aload_n 0, 199), (199, .getfield 29, 202), (202, .iload_n 2, 203), (203, .iastore, 204), (204, .aload_n 0, 205), (205, .getfield 16, 208)],
  [(208, .aload_n 0, 209), (209, .getfield 29, 212), (212, .iload_n 3, 213), (213, .iastore, 214), (214, .aload_n 0, 215), (215, .getfield 19, 218), (218, .aload_n 0, 219), (219, .getfield 29, 222), (222, .iload 4, 224)],
  [(224, .iastore, 225), (225, .aload_n 0, 226), (226, .getfield 22, 229), (229, .iload 6, 231), (231, .aload_n 0, 232), (232, .getfield 29, 235), (235, .iconst 1, 236), (236, .iadd, 237), (237, .iastore, 238), (238, .aload_n 0, 239), (239, .dup, 240)],
  [(240, .getfield 29, 243), (243, .iconst 1, 244), (244, .iadd, 245), (245, .putfield 29, 248), (248, .iconst 2, 249), (249, .aload_n 0, 250), (250, .getfield 29, 253), (253, .imul, 254), (254, .aload_n 0, 255), (255, .getfield 22, 258)],
  [(258, .arraylength, 259), (259, .if_icmp .le 14, 273), (262, .aload_n 0, 263), (263, .iconst 2, 264), (264, .aload_n 0, 265), (265, .getfield 22, 268), (268, .arraylength, 269), (269, .imul, 270), (270, .invokevirtual 56, 273)],
  [(273, .return_, 274)]]
def own_m2 : OMth := (⟨"com/example/castellan/castellan/core/ReachedPairs", "meet", "(IIII)V"⟩, prog_140_method_5_code, 8, none, 5, own_r2, [(7, (6, 0, 0, 1)), (13, (6, 0, 1, 1)), (16, (6, 0, 2, 1)), (19, (6, 0, 3, 1)), (22, (6, 0, 4, 1)), (25, (6, 0, 5, 0)), (29, (6, 0, 6, 1)), (32, (4, 3, 0, 0))])
def own_r3 : List (List ORow) := [[(0, .iload_n 1, 1), (1, .i2l, 2), (2, .bipush 32, 4), (4, .lshl, 5), (5, .iload_n 2, 6), (6, .i2l, 7), (7, .lor, 8), (8, .lstore_n 3, 9), (9, .lload_n 3, 10), (10, .ldc2_w 62, 13), (13, .lmul, 14), (14, .bipush 32, 16)],
  [(16, .aload_n 0, 17), (17, .getfield 22, 20), (20, .arraylength, 21), (21, .iconst 1, 22), (22, .isub, 23), (23, .invokestatic 64, 26), (26, .iadd, 27), (27, .lushr, 28), (28, .l2i, 29), (29, .ireturn, 30)]]
def own_m3 : OMth := (⟨"com/example/castellan/castellan/core/ReachedPairs", "slot", "(II)I"⟩, prog_140_method_8_code, 5, (some .int), 3, own_r3, [(22, (6, 0, 4, 1)), (62, (9, 0, 0, -7046029254386353131)), (64, (0, 4, 0, 0))])
def own_r4 : List (List ORow) := [[(0, .iload_n 0, 1), (1, .ifCond .gt 14, 15), (4, .iload_n 0, 5), (5, .ifCond .ne 8, 13), (8, .bipush 32, 10), (10, .goto 4, 14), (13, .iconst 0, 14), (14, .ireturn, 15), (15, .bipush 31, 17)],
  [(17, .istore_n 1, 18), (18, .iload_n 0, 19), (19, .ldc_w 264, 22), (22, .if_icmp .lt 11, 33), (25, .iinc 1 (-16), 28), (28, .iload_n 0, 29), (29, .bipush 16, 31), (31, .iushr, 32)],
  [(32, .istore_n 0, 33), (33, .iload_n 0, 34), (34, .sipush 256, 37), (37, .if_icmp .lt 11, 48), (40, .iinc 1 (-8), 43), (43, .iload_n 0, 44), (44, .bipush 8, 46), (46, .iushr, 47), (47, .istore_n 0, 48)],
  [(48, .iload_n 0, 49), (49, .bipush 16, 51), (51, .if_icmp .lt 10, 61), (54, .iinc 1 (-4), 57), (57, .iload_n 0, 58), (58, .iconst 4, 59), (59, .iushr, 60), (60, .istore_n 0, 61), (61, .iload_n 0, 62), (62, .iconst 4, 63), (63, .if_icmp .lt 10, 73)],
  [(66, .iinc 1 (-2), 69), (69, .iload_n 0, 70), (70, .iconst 2, 71), (71, .iushr, 72), (72, .istore_n 0, 73), (73, .iload_n 1, 74), (74, .iload_n 0, 75), (75, .iconst 1, 76), (76, .iushr, 77), (77, .isub, 78), (78, .ireturn, 79)]]
def own_m4 : OMth := (⟨"java/lang/Integer", "numberOfLeadingZeros", "(I)I"⟩, jdk_33_method_47_code, 2, (some .int), 1, own_r4, [(264, (8, 0, 0, 65536))])
def own_r5 : List (List ORow) := [[(0, .iconst 1, 1), (1, .istore_n 3, 2), (2, .iload_n 1, 3), (3, .istore 4, 5), (5, .aload_n 0, 6), (6, .getfield 16, 9), (9, .iload 4, 11), (11, .iaload, 12), (12, .iconst (-1), 13), (13, .if_icmp .eq 18, 31)],
  [(16, .iinc 3 1, 19), (19, .aload_n 0, 20), (20, .getfield 16, 23), (23, .iload 4, 25), (25, .iaload, 26), (26, .istore 4, 28), (28, .goto (-23), 5), (31, .iload_n 3, 32)],
  [(32, .newarray .int, 34), (34, .astore 4, 36), (36, .aload 4, 38), (38, .iload_n 3, 39), (39, .iconst 1, 40), (40, .isub, 41), (41, .iload_n 2, 42), (42, .iastore, 43), (43, .iload_n 1, 44), (44, .istore 5, 46), (46, .iload_n 3, 47), (47, .iconst 2, 48)],
  [(48, .isub, 49), (49, .istore 6, 51), (51, .iload 6, 53), (53, .ifCond .lt 30, 83), (56, .aload 4, 58), (58, .iload 6, 60), (60, .aload_n 0, 61), (61, .getfield 19, 64)],
  [(64, .iload 5, 66), (66, .iaload, 67), (67, .iastore, 68), (68, .aload_n 0, 69), (69, .getfield 16, 72), (72, .iload 5, 74), (74, .iaload, 75), (75, .istore 5, 77), (77, .iinc 6 (-1), 80)],
  [(80, .goto (-29), 51), (83, .aload 4, 85), (85, .areturn, 86)]]
def own_m5 : OMth := (⟨"com/example/castellan/castellan/core/ReachedPairs", "path", "(II)[I"⟩, prog_140_method_6_code, 7, (some (.array .int)), 3, own_r5, [(16, (6, 0, 2, 1)), (19, (6, 0, 3, 1))])
def own_r6 : List (List ORow) := [[(0, .iload_n 2, 1), (1, .aload_n 0, 2), (2, .arraylength, 3), (3, .if_icmp .ge 12, 15), (6, .aload_n 0, 7), (7, .iload_n 2, 8), (8, .iaload, 9), (9, .aload_n 1, 10), (10, .iload_n 2, 11), (11, .iaload, 12), (12, .if_icmp .ne 7, 19), (15, .iconst 1, 16)],
  [(16, .goto 4, 20), (19, .iconst 0, 20), (20, .ireturn, 21)]]
def own_m6 : OMth := (⟨"com/example/castellan/castellan/core/ReachedPairsPathPinLaw", "at", "([I[II)Z"⟩, method_3_code, 3, (some .boolean), 3, own_r6, [])
def own_P : OPrg := ([own_m0, own_m1, own_m2, own_m3, own_m4, own_m5, own_m6], [own_k0], [.int])
theorem own_pd0 : parseMethodDescriptor "(I)V" = some ⟨[.int], none⟩ := by decide +kernel
theorem own_pd1 : parseMethodDescriptor "(IIII)V" = some ⟨[.int, .int, .int, .int], none⟩ := by decide +kernel
theorem own_pd2 : parseMethodDescriptor "(II)[I" = some ⟨[.int, .int], some (.array .int)⟩ := by decide +kernel
theorem own_pd3 : parseMethodDescriptor "([I[II)Z" = some ⟨[(.array .int), (.array .int), .int], some .boolean⟩ := by decide +kernel
theorem own_pd4 : parseMethodDescriptor "(II)I" = some ⟨[.int, .int], some .int⟩ := by decide +kernel
theorem own_pd5 : parseMethodDescriptor "(I)I" = some ⟨[.int], some .int⟩ := by decide +kernel
theorem own_pn0 : plainName "com/example/castellan/castellan/core/ReachedPairsPathPinLaw" = true := by first | (simp [plainName, overriddenIn]; done) | decide +kernel
theorem own_pn1 : plainName "com/example/castellan/castellan/core/ReachedPairs" = true := by first | (simp [plainName, overriddenIn]; done) | decide +kernel
theorem own_pn2 : plainName "java/lang/Integer" = true := by first | (simp [plainName, overriddenIn]; done) | decide +kernel
theorem own_rk0 : ∀ r ∈ own_r0, ∀ x ∈ r, own_okI code x = true := by decide +kernel
theorem own_rk1 : ∀ r ∈ own_r1, ∀ x ∈ r, own_okI prog_140_method_1_code x = true := by decide +kernel
theorem own_rk2 : ∀ r ∈ own_r2, ∀ x ∈ r, own_okI prog_140_method_5_code x = true := by decide +kernel
theorem own_rk3 : ∀ r ∈ own_r3, ∀ x ∈ r, own_okI prog_140_method_8_code x = true := by decide +kernel
theorem own_rk4 : ∀ r ∈ own_r4, ∀ x ∈ r, own_okI jdk_33_method_47_code x = true := by decide +kernel
theorem own_rk5 : ∀ r ∈ own_r5, ∀ x ∈ r, own_okI prog_140_method_6_code x = true := by decide +kernel
theorem own_rk6 : ∀ r ∈ own_r6, ∀ x ∈ r, own_okI method_3_code x = true := by decide +kernel
abbrev own_hw (Z : State) (a0 : Array Value) : Prop := ∀ d ∈ Jvm.Cond.code x code maxLocals ret :: tables_1, d.before a0 Z = true
set_option maxRecDepth 65536 in
theorem own_g0 {Z : State} {a0 : Array Value} (hw : own_hw Z a0) : own_okM Z a0 own_P own_m0 := ⟨own_pn0, (hw _ (List.mem_of_getElem? (i := 0) rfl)), own_rk0, List.forall_mem_cons.mpr ⟨own_e7 (c := own_k0) rfl (hw _ (List.mem_of_getElem? (i := 1) rfl)),
    List.forall_mem_cons.mpr ⟨own_e8 (by decide) (hw _ (List.mem_of_getElem? (i := 4) rfl)),
    List.forall_mem_cons.mpr ⟨own_e1 (mj := own_m1) rfl rfl rfl (hw _ (List.mem_of_getElem? (i := 5) rfl)) (hw _ (List.mem_of_getElem? (i := 6) rfl)) (hw _ (List.mem_of_getElem? (i := 3) rfl)) ⟨by decide, by decide⟩ ⟨_, _, own_pd0, rfl⟩,
    List.forall_mem_cons.mpr ⟨own_e3 (mj := own_m2) (c := own_k0) (v := ⟨"com/example/castellan/castellan/core/ReachedPairs", "meet", "(IIII)V"⟩) rfl rfl rfl (hw _ (List.mem_of_getElem? (i := 24) rfl)) (hw _ (List.mem_of_getElem? (i := 25) rfl)) (hw _ (List.mem_of_getElem? (i := 27) rfl)) (hw _ (List.mem_of_getElem? (i := 26) rfl)) (hw _ (List.mem_of_getElem? (i := 3) rfl)) (fun s hZ => notFace_of_selects (args := #[]) (mvT hZ (hw _ (List.mem_of_getElem? (i := 27) rfl)))) ⟨by decide, by decide⟩ ⟨_, _, own_pd1, rfl⟩,
    List.forall_mem_cons.mpr ⟨own_e3 (mj := own_m5) (c := own_k0) (v := ⟨"com/example/castellan/castellan/core/ReachedPairs", "path", "(II)[I"⟩) rfl rfl rfl (hw _ (List.mem_of_getElem? (i := 41) rfl)) (hw _ (List.mem_of_getElem? (i := 42) rfl)) (hw _ (List.mem_of_getElem? (i := 44) rfl)) (hw _ (List.mem_of_getElem? (i := 43) rfl)) (hw _ (List.mem_of_getElem? (i := 3) rfl)) (fun s hZ => own_nf (y' := ⟨"com/example/castellan/castellan/core/ReachedPairs", "meet", "(IIII)V"⟩) rfl (mvT (args := #[]) hZ (hw _ (List.mem_of_getElem? (i := 27) rfl)))) ⟨by decide, by decide⟩ ⟨_, _, own_pd2, rfl⟩,
    List.forall_mem_cons.mpr ⟨own_e0 (mj := own_m6) rfl (hw _ (List.mem_of_getElem? (i := 46) rfl)) (hw _ (List.mem_of_getElem? (i := 47) rfl)) (hw _ (List.mem_of_getElem? (i := 48) rfl)) ⟨by decide, by decide⟩ ⟨_, _, own_pd3, rfl⟩,
    List.forall_mem_nil _⟩⟩⟩⟩⟩⟩⟩
set_option maxRecDepth 65536 in
theorem own_g1 {Z : State} {a0 : Array Value} (hw : own_hw Z a0) : own_okM Z a0 own_P own_m1 := ⟨own_pn1, (hw _ (List.mem_of_getElem? (i := 7) rfl)), own_rk1, List.forall_mem_cons.mpr ⟨own_e2 (hw _ (List.mem_of_getElem? (i := 8) rfl)) (hw _ (List.mem_of_getElem? (i := 9) rfl)) (hw _ (List.mem_of_getElem? (i := 10) rfl)),
    List.forall_mem_cons.mpr ⟨own_e6 (c := own_k0) (R0 := "com/example/castellan/castellan/core/ReachedPairs") rfl rfl (hw _ (List.mem_of_getElem? (i := 12) rfl)) Via.refl (fun _ => Or.inl (hw _ (List.mem_of_getElem? (i := 13) rfl))),
    List.forall_mem_cons.mpr ⟨own_e6 (c := own_k0) (R0 := "com/example/castellan/castellan/core/ReachedPairs") rfl rfl (hw _ (List.mem_of_getElem? (i := 14) rfl)) Via.refl (fun _ => Or.inl (hw _ (List.mem_of_getElem? (i := 15) rfl))),
    List.forall_mem_cons.mpr ⟨own_e6 (c := own_k0) (R0 := "com/example/castellan/castellan/core/ReachedPairs") rfl rfl (hw _ (List.mem_of_getElem? (i := 16) rfl)) Via.refl (fun _ => Or.inl (hw _ (List.mem_of_getElem? (i := 17) rfl))),
    List.forall_mem_cons.mpr ⟨own_e6 (c := own_k0) (R0 := "com/example/castellan/castellan/core/ReachedPairs") rfl rfl (hw _ (List.mem_of_getElem? (i := 18) rfl)) Via.refl (fun _ => Or.inl (hw _ (List.mem_of_getElem? (i := 19) rfl))),
    List.forall_mem_cons.mpr ⟨own_e6 (c := own_k0) (R0 := "com/example/castellan/castellan/core/ReachedPairs") rfl rfl (hw _ (List.mem_of_getElem? (i := 20) rfl)) Via.refl (fun _ => Or.inl (hw _ (List.mem_of_getElem? (i := 21) rfl))),
    List.forall_mem_cons.mpr ⟨own_e6 (c := own_k0) (R0 := "com/example/castellan/castellan/core/ReachedPairs") rfl rfl (hw _ (List.mem_of_getElem? (i := 22) rfl)) Via.refl (fun _ => Or.inr ⟨(hw _ (List.mem_of_getElem? (i := 23) rfl)), rfl, rfl⟩),
    List.forall_mem_nil _⟩⟩⟩⟩⟩⟩⟩⟩
set_option maxRecDepth 65536 in
theorem own_g2 {Z : State} {a0 : Array Value} (hw : own_hw Z a0) : own_okM Z a0 own_P own_m2 := ⟨own_pn1, (hw _ (List.mem_of_getElem? (i := 28) rfl)), own_rk2, List.forall_mem_cons.mpr ⟨own_e6 (c := own_k0) (R0 := "com/example/castellan/castellan/core/ReachedPairs") rfl rfl (hw _ (List.mem_of_getElem? (i := 12) rfl)) Via.refl (fun _ => Or.inl (hw _ (List.mem_of_getElem? (i := 13) rfl))),
    List.forall_mem_cons.mpr ⟨own_e6 (c := own_k0) (R0 := "com/example/castellan/castellan/core/ReachedPairs") rfl rfl (hw _ (List.mem_of_getElem? (i := 14) rfl)) Via.refl (fun _ => Or.inl (hw _ (List.mem_of_getElem? (i := 15) rfl))),
    List.forall_mem_cons.mpr ⟨own_e6 (c := own_k0) (R0 := "com/example/castellan/castellan/core/ReachedPairs") rfl rfl (hw _ (List.mem_of_getElem? (i := 16) rfl)) Via.refl (fun _ => Or.inl (hw _ (List.mem_of_getElem? (i := 17) rfl))),
    List.forall_mem_cons.mpr ⟨own_e6 (c := own_k0) (R0 := "com/example/castellan/castellan/core/ReachedPairs") rfl rfl (hw _ (List.mem_of_getElem? (i := 18) rfl)) Via.refl (fun _ => Or.inl (hw _ (List.mem_of_getElem? (i := 19) rfl))),
    List.forall_mem_cons.mpr ⟨own_e6 (c := own_k0) (R0 := "com/example/castellan/castellan/core/ReachedPairs") rfl rfl (hw _ (List.mem_of_getElem? (i := 20) rfl)) Via.refl (fun _ => Or.inl (hw _ (List.mem_of_getElem? (i := 21) rfl))),
    List.forall_mem_cons.mpr ⟨own_e6 (c := own_k0) (R0 := "com/example/castellan/castellan/core/ReachedPairs") rfl rfl (hw _ (List.mem_of_getElem? (i := 22) rfl)) Via.refl (fun q => absurd q (by decide)),
    List.forall_mem_cons.mpr ⟨own_e6 (c := own_k0) (R0 := "com/example/castellan/castellan/core/ReachedPairs") rfl rfl (hw _ (List.mem_of_getElem? (i := 39) rfl)) Via.refl (fun _ => Or.inl (hw _ (List.mem_of_getElem? (i := 40) rfl))),
    List.forall_mem_cons.mpr ⟨own_e4 (mj := own_m3) rfl (hw _ (List.mem_of_getElem? (i := 29) rfl)) (hw _ (List.mem_of_getElem? (i := 30) rfl)) (hw _ (List.mem_of_getElem? (i := 31) rfl)) (fun s hZ => own_nf (y' := ⟨"com/example/castellan/castellan/core/ReachedPairs", "meet", "(IIII)V"⟩) rfl (mvT (args := #[]) hZ (hw _ (List.mem_of_getElem? (i := 27) rfl)))) (hw _ (List.mem_of_getElem? (i := 3) rfl)) ⟨by decide, by decide⟩ ⟨_, _, own_pd4, rfl⟩,
    List.forall_mem_nil _⟩⟩⟩⟩⟩⟩⟩⟩⟩
set_option maxRecDepth 65536 in
theorem own_g3 {Z : State} {a0 : Array Value} (hw : own_hw Z a0) : own_okM Z a0 own_P own_m3 := ⟨own_pn1, (hw _ (List.mem_of_getElem? (i := 32) rfl)), own_rk3, List.forall_mem_cons.mpr ⟨own_e6 (c := own_k0) (R0 := "com/example/castellan/castellan/core/ReachedPairs") rfl rfl (hw _ (List.mem_of_getElem? (i := 20) rfl)) Via.refl (fun _ => Or.inl (hw _ (List.mem_of_getElem? (i := 21) rfl))),
    List.forall_mem_cons.mpr ⟨own_e9 (by decide) (hw _ (List.mem_of_getElem? (i := 33) rfl)),
    List.forall_mem_cons.mpr ⟨own_e0 (mj := own_m4) rfl (hw _ (List.mem_of_getElem? (i := 34) rfl)) (hw _ (List.mem_of_getElem? (i := 35) rfl)) (hw _ (List.mem_of_getElem? (i := 36) rfl)) ⟨by decide, by decide⟩ ⟨_, _, own_pd5, rfl⟩,
    List.forall_mem_nil _⟩⟩⟩⟩
set_option maxRecDepth 65536 in
theorem own_g4 {Z : State} {a0 : Array Value} (hw : own_hw Z a0) : own_okM Z a0 own_P own_m4 := ⟨own_pn2, (hw _ (List.mem_of_getElem? (i := 37) rfl)), own_rk4, List.forall_mem_cons.mpr ⟨own_e8 (by decide) (hw _ (List.mem_of_getElem? (i := 38) rfl)),
    List.forall_mem_nil _⟩⟩
set_option maxRecDepth 65536 in
theorem own_g5 {Z : State} {a0 : Array Value} (hw : own_hw Z a0) : own_okM Z a0 own_P own_m5 := ⟨own_pn1, (hw _ (List.mem_of_getElem? (i := 45) rfl)), own_rk5, List.forall_mem_cons.mpr ⟨own_e6 (c := own_k0) (R0 := "com/example/castellan/castellan/core/ReachedPairs") rfl rfl (hw _ (List.mem_of_getElem? (i := 16) rfl)) Via.refl (fun _ => Or.inl (hw _ (List.mem_of_getElem? (i := 17) rfl))),
    List.forall_mem_cons.mpr ⟨own_e6 (c := own_k0) (R0 := "com/example/castellan/castellan/core/ReachedPairs") rfl rfl (hw _ (List.mem_of_getElem? (i := 18) rfl)) Via.refl (fun _ => Or.inl (hw _ (List.mem_of_getElem? (i := 19) rfl))),
    List.forall_mem_nil _⟩⟩⟩
set_option maxRecDepth 65536 in
theorem own_g6 {Z : State} {a0 : Array Value} (hw : own_hw Z a0) : own_okM Z a0 own_P own_m6 := ⟨own_pn0, (hw _ (List.mem_of_getElem? (i := 49) rfl)), own_rk6, List.forall_mem_nil _⟩
theorem own_G {Z : State} {a0 : Array Value} (hw : own_hw Z a0) : own_good Z a0 own_P := by
  refine ⟨List.forall_mem_cons.mpr ⟨own_g0 hw, List.forall_mem_cons.mpr ⟨own_g1 hw, List.forall_mem_cons.mpr ⟨own_g2 hw, List.forall_mem_cons.mpr ⟨own_g3 hw, List.forall_mem_cons.mpr ⟨own_g4 hw, List.forall_mem_cons.mpr ⟨own_g5 hw, List.forall_mem_cons.mpr ⟨own_g6 hw, List.forall_mem_nil _⟩⟩⟩⟩⟩⟩⟩, ?_, ?_⟩
  · intro k c hk
    have hk2 := List.mem_of_getElem? hk
    simp only [own_P, List.mem_cons, List.not_mem_nil, or_false] at hk2
    rcases hk2 with rfl
    · exact ⟨(hw _ (List.mem_of_getElem? (i := 2) rfl)), (hw _ (List.mem_of_getElem? (i := 3) rfl)), List.forall_mem_cons.mpr ⟨⟨Or.inl (hw _ (List.mem_of_getElem? (i := 13) rfl)), by decide +kernel⟩,
      List.forall_mem_cons.mpr ⟨⟨Or.inl (hw _ (List.mem_of_getElem? (i := 15) rfl)), by decide +kernel⟩,
      List.forall_mem_cons.mpr ⟨⟨Or.inl (hw _ (List.mem_of_getElem? (i := 17) rfl)), by decide +kernel⟩,
      List.forall_mem_cons.mpr ⟨⟨Or.inl (hw _ (List.mem_of_getElem? (i := 19) rfl)), by decide +kernel⟩,
      List.forall_mem_cons.mpr ⟨⟨Or.inl (hw _ (List.mem_of_getElem? (i := 21) rfl)), by decide +kernel⟩,
      List.forall_mem_cons.mpr ⟨⟨Or.inr (hw _ (List.mem_of_getElem? (i := 23) rfl)), by decide +kernel⟩,
      List.forall_mem_cons.mpr ⟨⟨Or.inl (hw _ (List.mem_of_getElem? (i := 40) rfl)), by decide +kernel⟩,
      List.forall_mem_nil _⟩⟩⟩⟩⟩⟩⟩, by decide +kernel⟩
  · exact List.forall_mem_cons.mpr ⟨⟨(hw _ (List.mem_of_getElem? (i := 11) rfl)), rfl⟩, List.forall_mem_nil _⟩
abbrev own_goal (as : List Value) : Prop := own_ks own_P (own_end own_P.2.1 24 320) [] 0 6 160 0 (own_entry as own_m0.ml) [] []
/-! ## the law -/
def own_sl : List Nat → List Value
  | [] => List.replicate 32 (.int (0 : Int32))
  | p :: ps => (own_sl ps).set p (.int (Int32.ofNat (ps.length + 1)))
def own_rd : List Nat → Nat → Nat
  | [], _ => 0
  | p :: ps, q => if q = p then ps.length + 1 else own_rd ps q
theorem own_sl_len : ∀ ps : List Nat, (own_sl ps).length = 32
  | [] => by simp [own_sl]
  | p :: ps => by simp only [own_sl, List.length_set]; exact own_sl_len ps
theorem own_sl_get : ∀ (ps : List Nat) (q : Nat), q < 32 → (own_sl ps)[q]? = some (.int (Int32.ofNat (own_rd ps q)))
  | [], q, h => by rw [own_sl, List.getElem?_replicate, if_pos h]; rfl
  | p :: ps, q, h => by
    simp only [own_sl, own_rd]
    by_cases e : q = p
    · subst e
      rw [List.getElem?_set_self (by rw [own_sl_len]; exact h), if_pos rfl]
    · rw [List.getElem?_set_ne (Ne.symm e), if_neg e]
      exact own_sl_get ps q h
theorem own_rd_mem : ∀ (ps : List Nat) (q : Nat), own_rd ps q ≠ 0 → q ∈ ps
  | [], q, h => absurd rfl h
  | p :: ps, q, h => by
    simp only [own_rd] at h
    split at h
    · rename_i e; subst e; exact List.mem_cons_self ..
    · exact List.mem_cons_of_mem _ (own_rd_mem ps q h)
theorem own_rd_le : ∀ (ps : List Nat) (q : Nat), own_rd ps q ≤ ps.length
  | [], q => Nat.le_refl _
  | p :: ps, q => by
    simp only [own_rd, List.length_cons]
    split
    · exact Nat.le_refl _
    · exact Nat.le_succ_of_le (own_rd_le ps q)
def own_h (f s : Int32) : Int32 := ((((f.toInt64 <<< ((32 : Int32) &&& 0x3f).toInt64) ||| s.toInt64) * (-7046029254386353131 : Int64)).toUInt64 >>> ((59 : Int32) &&& 0x3f).toInt64.toUInt64).toInt64.toInt32
theorem own_ix_of {c : Int32} {q : Nat} (h : c.toInt = q) : own_ix c = some q := by
  unfold own_ix
  have e0 : (0 : Int32).toInt = 0 := rfl
  rw [if_neg (by rw [Int32.lt_iff_toInt_lt, e0]; omega)]
  simp only [Int32.toNatClampNeg, h]; rfl
theorem own_h_ix (f s : Int32) : ∃ q, own_ix (own_h f s) = some q ∧ q < 32 := by
  unfold own_h
  generalize ((f.toInt64 <<< ((32 : Int32) &&& 0x3f).toInt64) ||| s.toInt64) * (-7046029254386353131 : Int64) = x
  have h1 := c_lushr x (59 : Int32) 59 (by decide) (by decide)
  generalize (x.toUInt64 >>> ((59 : Int32) &&& 0x3f).toInt64.toUInt64).toInt64 = y at *
  have h2 := c_l2i y
  have h3 := rng32 y.toInt32
  refine ⟨y.toInt32.toInt.toNat, own_ix_of (by omega), by omega⟩
theorem own_next {c : Int32} {q : Nat} (h : own_ix c = some q) (hq : q < 32) : own_ix ((c + (1 : Int32)) &&& (31 : Int32)) = some ((q + 1) % 32) := by
  obtain ⟨h1, h2⟩ := own_ix_ok h
  have e0 : (0 : Int32).toInt = 0 := rfl
  have e1 : (1 : Int32).toInt = 1 := rfl
  rw [Int32.lt_iff_toInt_lt, e0] at h1
  simp only [Int32.toNatClampNeg] at h2
  have a1 := c_iadd c 1
  have a2 := c_mask (c + 1) 31 5 (by decide) (by decide)
  have a3 := rng32 (c + 1)
  rw [e1] at a1
  exact own_ix_of (by omega)
theorem own_addne {s a b : Int32} (h : ¬ a = b) : ¬ (s + a = s + b) := fun e => h (by
  have := congrArg (fun z => z - s) e
  simpa [Int32.add_comm s] using this)
theorem own_add0 {s b : Int32} (h : ¬ (0 : Int32) = b) : ¬ (s = s + b) := fun e => own_addne (s := s) h (by rw [← e]; simp)
def own_H0 (ps : List Nat) : OHeap := [(.inl 0, [.ref 1, .ref 2, .ref 3, .ref 4, .ref 5, .int (536870912 : Int32), .int (0 : Int32)]), (.inr .int, [.int (0 : Int32), .int (0 : Int32), .int (0 : Int32), .int (0 : Int32), .int (0 : Int32), .int (0 : Int32), .int (0 : Int32), .int (0 : Int32), .int (0 : Int32), .int (0 : Int32), .int (0 : Int32), .int (0 : Int32), .int (0 : Int32), .int (0 : Int32), .int (0 : Int32), .int (0 : Int32)]), (.inr .int, [.int (0 : Int32), .int (0 : Int32), .int (0 : Int32), .int (0 : Int32), .int (0 : Int32), .int (0 : Int32), .int (0 : Int32), .int (0 : Int32), .int (0 : Int32), .int (0 : Int32), .int (0 : Int32), .int (0 : Int32), .int (0 : Int32), .int (0 : Int32), .int (0 : Int32), .int (0 : Int32)]), (.inr .int, [.int (0 : Int32), .int (0 : Int32), .int (0 : Int32), .int (0 : Int32), .int (0 : Int32), .int (0 : Int32), .int (0 : Int32), .int (0 : Int32), .int (0 : Int32), .int (0 : Int32), .int (0 : Int32), .int (0 : Int32), .int (0 : Int32), .int (0 : Int32), .int (0 : Int32), .int (0 : Int32)]), (.inr .int, [.int (0 : Int32), .int (0 : Int32), .int (0 : Int32), .int (0 : Int32), .int (0 : Int32), .int (0 : Int32), .int (0 : Int32), .int (0 : Int32), .int (0 : Int32), .int (0 : Int32), .int (0 : Int32), .int (0 : Int32), .int (0 : Int32), .int (0 : Int32), .int (0 : Int32), .int (0 : Int32)]), (.inr .int, own_sl ps)]
def own_H1 (s : Int32) (ps : List Nat) : OHeap := [(.inl 0, [.ref 1, .ref 2, .ref 3, .ref 4, .ref 5, .int (536870912 : Int32), .int (1 : Int32)]), (.inr .int, [.int s, .int (0 : Int32), .int (0 : Int32), .int (0 : Int32), .int (0 : Int32), .int (0 : Int32), .int (0 : Int32), .int (0 : Int32), .int (0 : Int32), .int (0 : Int32), .int (0 : Int32), .int (0 : Int32), .int (0 : Int32), .int (0 : Int32), .int (0 : Int32), .int (0 : Int32)]), (.inr .int, [.int s, .int (0 : Int32), .int (0 : Int32), .int (0 : Int32), .int (0 : Int32), .int (0 : Int32), .int (0 : Int32), .int (0 : Int32), .int (0 : Int32), .int (0 : Int32), .int (0 : Int32), .int (0 : Int32), .int (0 : Int32), .int (0 : Int32), .int (0 : Int32), .int (0 : Int32)]), (.inr .int, [.int (-1 : Int32), .int (0 : Int32), .int (0 : Int32), .int (0 : Int32), .int (0 : Int32), .int (0 : Int32), .int (0 : Int32), .int (0 : Int32), .int (0 : Int32), .int (0 : Int32), .int (0 : Int32), .int (0 : Int32), .int (0 : Int32), .int (0 : Int32), .int (0 : Int32), .int (0 : Int32)]), (.inr .int, [.int (-1 : Int32), .int (0 : Int32), .int (0 : Int32), .int (0 : Int32), .int (0 : Int32), .int (0 : Int32), .int (0 : Int32), .int (0 : Int32), .int (0 : Int32), .int (0 : Int32), .int (0 : Int32), .int (0 : Int32), .int (0 : Int32), .int (0 : Int32), .int (0 : Int32), .int (0 : Int32)]), (.inr .int, own_sl ps)]
def own_H2 (s in1 : Int32) (ps : List Nat) : OHeap := [(.inl 0, [.ref 1, .ref 2, .ref 3, .ref 4, .ref 5, .int (536870912 : Int32), .int (2 : Int32)]), (.inr .int, [.int s, .int (s + (1 : Int32)), .int (0 : Int32), .int (0 : Int32), .int (0 : Int32), .int (0 : Int32), .int (0 : Int32), .int (0 : Int32), .int (0 : Int32), .int (0 : Int32), .int (0 : Int32), .int (0 : Int32), .int (0 : Int32), .int (0 : Int32), .int (0 : Int32), .int (0 : Int32)]), (.inr .int, [.int s, .int s, .int (0 : Int32), .int (0 : Int32), .int (0 : Int32), .int (0 : Int32), .int (0 : Int32), .int (0 : Int32), .int (0 : Int32), .int (0 : Int32), .int (0 : Int32), .int (0 : Int32), .int (0 : Int32), .int (0 : Int32), .int (0 : Int32), .int (0 : Int32)]), (.inr .int, [.int (-1 : Int32), .int (0 : Int32), .int (0 : Int32), .int (0 : Int32), .int (0 : Int32), .int (0 : Int32), .int (0 : Int32), .int (0 : Int32), .int (0 : Int32), .int (0 : Int32), .int (0 : Int32), .int (0 : Int32), .int (0 : Int32), .int (0 : Int32), .int (0 : Int32), .int (0 : Int32)]), (.inr .int, [.int (-1 : Int32), .int in1, .int (0 : Int32), .int (0 : Int32), .int (0 : Int32), .int (0 : Int32), .int (0 : Int32), .int (0 : Int32), .int (0 : Int32), .int (0 : Int32), .int (0 : Int32), .int (0 : Int32), .int (0 : Int32), .int (0 : Int32), .int (0 : Int32), .int (0 : Int32)]), (.inr .int, own_sl ps)]
def own_H3 (s in1 g2 in2 : Int32) (ps : List Nat) : OHeap := [(.inl 0, [.ref 1, .ref 2, .ref 3, .ref 4, .ref 5, .int (536870912 : Int32), .int (3 : Int32)]), (.inr .int, [.int s, .int (s + (1 : Int32)), .int (s + (2 : Int32)), .int (0 : Int32), .int (0 : Int32), .int (0 : Int32), .int (0 : Int32), .int (0 : Int32), .int (0 : Int32), .int (0 : Int32), .int (0 : Int32), .int (0 : Int32), .int (0 : Int32), .int (0 : Int32), .int (0 : Int32), .int (0 : Int32)]), (.inr .int, [.int s, .int s, .int s, .int (0 : Int32), .int (0 : Int32), .int (0 : Int32), .int (0 : Int32), .int (0 : Int32), .int (0 : Int32), .int (0 : Int32), .int (0 : Int32), .int (0 : Int32), .int (0 : Int32), .int (0 : Int32), .int (0 : Int32), .int (0 : Int32)]), (.inr .int, [.int (-1 : Int32), .int (0 : Int32), .int g2, .int (0 : Int32), .int (0 : Int32), .int (0 : Int32), .int (0 : Int32), .int (0 : Int32), .int (0 : Int32), .int (0 : Int32), .int (0 : Int32), .int (0 : Int32), .int (0 : Int32), .int (0 : Int32), .int (0 : Int32), .int (0 : Int32)]), (.inr .int, [.int (-1 : Int32), .int in1, .int in2, .int (0 : Int32), .int (0 : Int32), .int (0 : Int32), .int (0 : Int32), .int (0 : Int32), .int (0 : Int32), .int (0 : Int32), .int (0 : Int32), .int (0 : Int32), .int (0 : Int32), .int (0 : Int32), .int (0 : Int32), .int (0 : Int32)]), (.inr .int, own_sl ps)]
def own_H4 (s in1 g2 in2 g3 in3 : Int32) (ps : List Nat) : OHeap := [(.inl 0, [.ref 1, .ref 2, .ref 3, .ref 4, .ref 5, .int (536870912 : Int32), .int (4 : Int32)]), (.inr .int, [.int s, .int (s + (1 : Int32)), .int (s + (2 : Int32)), .int (s + (3 : Int32)), .int (0 : Int32), .int (0 : Int32), .int (0 : Int32), .int (0 : Int32), .int (0 : Int32), .int (0 : Int32), .int (0 : Int32), .int (0 : Int32), .int (0 : Int32), .int (0 : Int32), .int (0 : Int32), .int (0 : Int32)]), (.inr .int, [.int s, .int s, .int s, .int s, .int (0 : Int32), .int (0 : Int32), .int (0 : Int32), .int (0 : Int32), .int (0 : Int32), .int (0 : Int32), .int (0 : Int32), .int (0 : Int32), .int (0 : Int32), .int (0 : Int32), .int (0 : Int32), .int (0 : Int32)]), (.inr .int, [.int (-1 : Int32), .int (0 : Int32), .int g2, .int g3, .int (0 : Int32), .int (0 : Int32), .int (0 : Int32), .int (0 : Int32), .int (0 : Int32), .int (0 : Int32), .int (0 : Int32), .int (0 : Int32), .int (0 : Int32), .int (0 : Int32), .int (0 : Int32), .int (0 : Int32)]), (.inr .int, [.int (-1 : Int32), .int in1, .int in2, .int in3, .int (0 : Int32), .int (0 : Int32), .int (0 : Int32), .int (0 : Int32), .int (0 : Int32), .int (0 : Int32), .int (0 : Int32), .int (0 : Int32), .int (0 : Int32), .int (0 : Int32), .int (0 : Int32), .int (0 : Int32)]), (.inr .int, own_sl ps)]
set_option maxHeartbeats 4000000 in
theorem own_exit_0 (s : Int32)  (c : Int32) (q : Nat) (u7 : Slot) (hq : own_ix c = some q) (h32 : q < 32) (h0 : own_rd [] q = 0) : own_run own_P 2 5 141 17 [.val (.ref 0), .val (.int s), .val (.int s), .val (.int (-1 : Int32)), .val (.int (-1 : Int32)), .val (.int (31 : Int32)), .val (.int c), u7] [] (own_H0  []) (none, (own_H1 s (q :: []))) := by
  apply own_ks_run
  refine own_ks.go (mt := own_m2) rfl 3 (pc' := 23) (L' := [.val (.ref 0), .val (.int s), .val (.int s), .val (.int (-1 : Int32)), .val (.int (-1 : Int32)), .val (.int (31 : Int32)), .val (.int c), u7]) (S' := [.int c, .ref 5]) (H' := (own_H0  [])) rfl ?_
  refine own_ks.iaload (mt := own_m2) rfl (t := 24) (a := 5) (v := .int (0 : Int32)) rfl rfl hq ((own_sl_get [] q h32).trans (by rw [h0]; rfl)) ?_
  refine own_ks.go (mt := own_m2) rfl 43 (pc' := 237) (L' := [.val (.ref 0), .val (.int s), .val (.int s), .val (.int (-1 : Int32)), .val (.int (-1 : Int32)), .val (.int (31 : Int32)), .val (.int c), u7]) (S' := [.int (1 : Int32), .int c, .ref 5]) (H' := [(.inl 0, [.ref 1, .ref 2, .ref 3, .ref 4, .ref 5, .int (536870912 : Int32), .int (0 : Int32)]), (.inr .int, [.int s, .int (0 : Int32), .int (0 : Int32), .int (0 : Int32), .int (0 : Int32), .int (0 : Int32), .int (0 : Int32), .int (0 : Int32), .int (0 : Int32), .int (0 : Int32), .int (0 : Int32), .int (0 : Int32), .int (0 : Int32), .int (0 : Int32), .int (0 : Int32), .int (0 : Int32)]), (.inr .int, [.int s, .int (0 : Int32), .int (0 : Int32), .int (0 : Int32), .int (0 : Int32), .int (0 : Int32), .int (0 : Int32), .int (0 : Int32), .int (0 : Int32), .int (0 : Int32), .int (0 : Int32), .int (0 : Int32), .int (0 : Int32), .int (0 : Int32), .int (0 : Int32), .int (0 : Int32)]), (.inr .int, [.int (-1 : Int32), .int (0 : Int32), .int (0 : Int32), .int (0 : Int32), .int (0 : Int32), .int (0 : Int32), .int (0 : Int32), .int (0 : Int32), .int (0 : Int32), .int (0 : Int32), .int (0 : Int32), .int (0 : Int32), .int (0 : Int32), .int (0 : Int32), .int (0 : Int32), .int (0 : Int32)]), (.inr .int, [.int (-1 : Int32), .int (0 : Int32), .int (0 : Int32), .int (0 : Int32), .int (0 : Int32), .int (0 : Int32), .int (0 : Int32), .int (0 : Int32), .int (0 : Int32), .int (0 : Int32), .int (0 : Int32), .int (0 : Int32), .int (0 : Int32), .int (0 : Int32), .int (0 : Int32), .int (0 : Int32)]), (.inr .int, (own_sl []))]) rfl ?_
  refine own_ks.iastore (mt := own_m2) rfl (t := 238) (a := 5) (H' := [(.inl 0, [.ref 1, .ref 2, .ref 3, .ref 4, .ref 5, .int (536870912 : Int32), .int (0 : Int32)]), (.inr .int, [.int s, .int (0 : Int32), .int (0 : Int32), .int (0 : Int32), .int (0 : Int32), .int (0 : Int32), .int (0 : Int32), .int (0 : Int32), .int (0 : Int32), .int (0 : Int32), .int (0 : Int32), .int (0 : Int32), .int (0 : Int32), .int (0 : Int32), .int (0 : Int32), .int (0 : Int32)]), (.inr .int, [.int s, .int (0 : Int32), .int (0 : Int32), .int (0 : Int32), .int (0 : Int32), .int (0 : Int32), .int (0 : Int32), .int (0 : Int32), .int (0 : Int32), .int (0 : Int32), .int (0 : Int32), .int (0 : Int32), .int (0 : Int32), .int (0 : Int32), .int (0 : Int32), .int (0 : Int32)]), (.inr .int, [.int (-1 : Int32), .int (0 : Int32), .int (0 : Int32), .int (0 : Int32), .int (0 : Int32), .int (0 : Int32), .int (0 : Int32), .int (0 : Int32), .int (0 : Int32), .int (0 : Int32), .int (0 : Int32), .int (0 : Int32), .int (0 : Int32), .int (0 : Int32), .int (0 : Int32), .int (0 : Int32)]), (.inr .int, [.int (-1 : Int32), .int (0 : Int32), .int (0 : Int32), .int (0 : Int32), .int (0 : Int32), .int (0 : Int32), .int (0 : Int32), .int (0 : Int32), .int (0 : Int32), .int (0 : Int32), .int (0 : Int32), .int (0 : Int32), .int (0 : Int32), .int (0 : Int32), .int (0 : Int32), .int (0 : Int32)]), (.inr .int, (own_sl (q :: [])))]) rfl rfl hq (by rw [own_sl_len]; exact h32) rfl ?_
  refine own_ks.go (mt := own_m2) rfl 12 (pc' := 258) (L' := [.val (.ref 0), .val (.int s), .val (.int s), .val (.int (-1 : Int32)), .val (.int (-1 : Int32)), .val (.int (31 : Int32)), .val (.int c), u7]) (S' := [.ref 5, .int (2 : Int32)]) (H' := [(.inl 0, [.ref 1, .ref 2, .ref 3, .ref 4, .ref 5, .int (536870912 : Int32), .int (1 : Int32)]), (.inr .int, [.int s, .int (0 : Int32), .int (0 : Int32), .int (0 : Int32), .int (0 : Int32), .int (0 : Int32), .int (0 : Int32), .int (0 : Int32), .int (0 : Int32), .int (0 : Int32), .int (0 : Int32), .int (0 : Int32), .int (0 : Int32), .int (0 : Int32), .int (0 : Int32), .int (0 : Int32)]), (.inr .int, [.int s, .int (0 : Int32), .int (0 : Int32), .int (0 : Int32), .int (0 : Int32), .int (0 : Int32), .int (0 : Int32), .int (0 : Int32), .int (0 : Int32), .int (0 : Int32), .int (0 : Int32), .int (0 : Int32), .int (0 : Int32), .int (0 : Int32), .int (0 : Int32), .int (0 : Int32)]), (.inr .int, [.int (-1 : Int32), .int (0 : Int32), .int (0 : Int32), .int (0 : Int32), .int (0 : Int32), .int (0 : Int32), .int (0 : Int32), .int (0 : Int32), .int (0 : Int32), .int (0 : Int32), .int (0 : Int32), .int (0 : Int32), .int (0 : Int32), .int (0 : Int32), .int (0 : Int32), .int (0 : Int32)]), (.inr .int, [.int (-1 : Int32), .int (0 : Int32), .int (0 : Int32), .int (0 : Int32), .int (0 : Int32), .int (0 : Int32), .int (0 : Int32), .int (0 : Int32), .int (0 : Int32), .int (0 : Int32), .int (0 : Int32), .int (0 : Int32), .int (0 : Int32), .int (0 : Int32), .int (0 : Int32), .int (0 : Int32)]), (.inr .int, (own_sl (q :: [])))]) rfl ?_
  refine own_ks.alen (mt := own_m2) rfl (t := 259) (a := 5) (z := (32 : Int32)) rfl rfl (congrArg Nat.toInt32 (own_sl_len _)) ?_
  refine own_ks.go (mt := own_m2) rfl 1 (pc' := 273) (L' := [.val (.ref 0), .val (.int s), .val (.int s), .val (.int (-1 : Int32)), .val (.int (-1 : Int32)), .val (.int (31 : Int32)), .val (.int c), u7]) (S' := []) (H' := [(.inl 0, [.ref 1, .ref 2, .ref 3, .ref 4, .ref 5, .int (536870912 : Int32), .int (1 : Int32)]), (.inr .int, [.int s, .int (0 : Int32), .int (0 : Int32), .int (0 : Int32), .int (0 : Int32), .int (0 : Int32), .int (0 : Int32), .int (0 : Int32), .int (0 : Int32), .int (0 : Int32), .int (0 : Int32), .int (0 : Int32), .int (0 : Int32), .int (0 : Int32), .int (0 : Int32), .int (0 : Int32)]), (.inr .int, [.int s, .int (0 : Int32), .int (0 : Int32), .int (0 : Int32), .int (0 : Int32), .int (0 : Int32), .int (0 : Int32), .int (0 : Int32), .int (0 : Int32), .int (0 : Int32), .int (0 : Int32), .int (0 : Int32), .int (0 : Int32), .int (0 : Int32), .int (0 : Int32), .int (0 : Int32)]), (.inr .int, [.int (-1 : Int32), .int (0 : Int32), .int (0 : Int32), .int (0 : Int32), .int (0 : Int32), .int (0 : Int32), .int (0 : Int32), .int (0 : Int32), .int (0 : Int32), .int (0 : Int32), .int (0 : Int32), .int (0 : Int32), .int (0 : Int32), .int (0 : Int32), .int (0 : Int32), .int (0 : Int32)]), (.inr .int, [.int (-1 : Int32), .int (0 : Int32), .int (0 : Int32), .int (0 : Int32), .int (0 : Int32), .int (0 : Int32), .int (0 : Int32), .int (0 : Int32), .int (0 : Int32), .int (0 : Int32), .int (0 : Int32), .int (0 : Int32), .int (0 : Int32), .int (0 : Int32), .int (0 : Int32), .int (0 : Int32)]), (.inr .int, (own_sl (q :: [])))]) rfl ?_
  exact own_ks.ret (mt := own_m2) rfl (ins := .return_) (t := 274) (v := none) rfl rfl ⟨rfl, rfl⟩
theorem own_loop_0 (s : Int32)  : ∀ (n : Nat) (c : Int32) (q : Nat) (u7 : Slot), own_ix c = some q → q < 32 → (u7 = .unset ∨ ∃ z : Int32, u7 = .val (.int z)) → (∃ t, t ≤ n ∧ own_rd [] ((q + t) % 32) = 0) → ∃ p, p < 32 ∧ own_run own_P 2 5 141 17 [.val (.ref 0), .val (.int s), .val (.int s), .val (.int (-1 : Int32)), .val (.int (-1 : Int32)), .val (.int (31 : Int32)), .val (.int c), u7] [] (own_H0  []) (none, (own_H1 s (p :: []))) := by
  intro n
  induction n with
  | zero =>
    intro c q u7 hc hq hu ⟨t, ht, h0⟩
    obtain rfl : t = 0 := by omega
    rw [Nat.add_zero, Nat.mod_eq_of_lt hq] at h0
    exact ⟨q, hq, own_exit_0 s  c q u7 hc hq h0⟩
  | succ n ih =>
    intro c q u7 hc hq hu ⟨t, ht, h0⟩
    by_cases hz : own_rd [] q = 0
    · exact ⟨q, hq, own_exit_0 s  c q u7 hc hq hz⟩
    · have hn := own_next hc hq
      have ht0 : t ≠ 0 := by
        rintro rfl
        rw [Nat.add_zero, Nat.mod_eq_of_lt hq] at h0
        exact hz h0
      have ex : ∃ t', t' ≤ n ∧ own_rd [] (((q + 1) % 32 + t') % 32) = 0 := ⟨t - 1, by omega, by rw [show ((q + 1) % 32 + (t - 1)) % 32 = (q + t) % 32 by omega]; exact h0⟩
      exact absurd rfl hz
theorem own_zero_0  (q : Nat) (hq : q < 32) : ∃ t, t ≤ 0 ∧ own_rd [] ((q + t) % 32) = 0 := by
  exact ⟨0, Nat.le_refl _, rfl⟩
set_option maxHeartbeats 4000000 in
theorem own_meet_0 (s : Int32)  : ∃ p, p < 32 ∧ own_run own_P 2 5 141 0 [.val (.ref 0), .val (.int s), .val (.int s), .val (.int (-1 : Int32)), .val (.int (-1 : Int32)), .unset, .unset, .unset] [] (own_H0  []) (none, (own_H1 s (p :: []))) := by
  obtain ⟨q, hq, h32⟩ := own_h_ix s s
  obtain ⟨p, hp, hr⟩ := own_loop_0 s  0 (own_h s s) q .unset hq h32 (Or.inl rfl) (own_zero_0  q h32)
  refine ⟨p, hp, own_ks_run ?_⟩
  refine own_ks.go (mt := own_m2) rfl 2 (pc' := 4) (L' := [.val (.ref 0), .val (.int s), .val (.int s), .val (.int (-1 : Int32)), .val (.int (-1 : Int32)), .unset, .unset, .unset]) (S' := [.ref 5]) (H' := (own_H0  [])) rfl ?_
  refine own_ks.alen (mt := own_m2) rfl (t := 5) (a := 5) (z := (32 : Int32)) rfl rfl (congrArg Nat.toInt32 (own_sl_len _)) ?_
  refine own_ks.go (mt := own_m2) rfl 6 (pc' := 12) (L' := [.val (.ref 0), .val (.int s), .val (.int s), .val (.int (-1 : Int32)), .val (.int (-1 : Int32)), .val (.int (31 : Int32)), .unset, .unset]) (S' := [.int s, .int s, .ref 0]) (H' := (own_H0  [])) rfl ?_
  refine own_ks.into (mt := own_m2) (mj := own_m3) rfl (ins := .invokevirtual 32) (t := 15) (j := 3) (as := [.ref 0, .int s, .int s]) (r' := []) (L' := [.val (.ref 0), .val (.int s), .val (.int s), .unset, .unset]) rfl rfl rfl rfl rfl rfl rfl rfl ?_
  refine own_ks.go (mt := own_m3) rfl 14 (pc' := 20) (L' := [.val (.ref 0), .val (.int s), .val (.int s), .val (.long ((s.toInt64 <<< ((32 : Int32) &&& 0x3f).toInt64) ||| s.toInt64)), .second]) (S' := [.ref 5, .int (32 : Int32), .long (((s.toInt64 <<< ((32 : Int32) &&& 0x3f).toInt64) ||| s.toInt64) * (-7046029254386353131 : Int64))]) (H' := (own_H0  [])) rfl ?_
  refine own_ks.alen (mt := own_m3) rfl (t := 21) (a := 5) (z := (32 : Int32)) rfl rfl (congrArg Nat.toInt32 (own_sl_len _)) ?_
  refine own_ks.go (mt := own_m3) rfl 2 (pc' := 23) (L' := [.val (.ref 0), .val (.int s), .val (.int s), .val (.long ((s.toInt64 <<< ((32 : Int32) &&& 0x3f).toInt64) ||| s.toInt64)), .second]) (S' := [.int (31 : Int32), .int (32 : Int32), .long (((s.toInt64 <<< ((32 : Int32) &&& 0x3f).toInt64) ||| s.toInt64) * (-7046029254386353131 : Int64))]) (H' := (own_H0  [])) rfl ?_
  refine own_ks.into (mt := own_m3) (mj := own_m4) rfl (ins := .invokestatic 64) (t := 26) (j := 4) (as := [.int (31 : Int32)]) (r' := [.int (32 : Int32), .long (((s.toInt64 <<< ((32 : Int32) &&& 0x3f).toInt64) ||| s.toInt64) * (-7046029254386353131 : Int64))]) (L' := [.val (.int (31 : Int32)), .unset]) rfl rfl rfl rfl rfl rfl rfl rfl ?_
  refine own_ks.go (mt := own_m4) rfl 26 (pc' := 78) (L' := [.val (.int (1 : Int32)), .val (.int (27 : Int32))]) (S' := [.int (27 : Int32)]) (H' := (own_H0  [])) rfl ?_
  refine own_ks.back (mt := own_m4) rfl (ins := .ireturn) (t := 79) (v := some (.int (27 : Int32))) (S2 := [.int (27 : Int32), .int (32 : Int32), .long (((s.toInt64 <<< ((32 : Int32) &&& 0x3f).toInt64) ||| s.toInt64) * (-7046029254386353131 : Int64))]) rfl rfl rfl ?_
  refine own_ks.go (mt := own_m3) rfl 3 (pc' := 29) (L' := [.val (.ref 0), .val (.int s), .val (.int s), .val (.long ((s.toInt64 <<< ((32 : Int32) &&& 0x3f).toInt64) ||| s.toInt64)), .second]) (S' := [.int ((((s.toInt64 <<< ((32 : Int32) &&& 0x3f).toInt64) ||| s.toInt64) * (-7046029254386353131 : Int64)).toUInt64 >>> ((59 : Int32) &&& 0x3f).toInt64.toUInt64).toInt64.toInt32]) (H' := (own_H0  [])) rfl ?_
  refine own_ks.back (mt := own_m3) rfl (ins := .ireturn) (t := 30) (v := some (.int ((((s.toInt64 <<< ((32 : Int32) &&& 0x3f).toInt64) ||| s.toInt64) * (-7046029254386353131 : Int64)).toUInt64 >>> ((59 : Int32) &&& 0x3f).toInt64.toUInt64).toInt64.toInt32)) (S2 := [.int ((((s.toInt64 <<< ((32 : Int32) &&& 0x3f).toInt64) ||| s.toInt64) * (-7046029254386353131 : Int64)).toUInt64 >>> ((59 : Int32) &&& 0x3f).toInt64.toUInt64).toInt64.toInt32]) rfl rfl rfl ?_
  refine own_ks.go (mt := own_m2) rfl 1 (pc' := 17) (L' := [.val (.ref 0), .val (.int s), .val (.int s), .val (.int (-1 : Int32)), .val (.int (-1 : Int32)), .val (.int (31 : Int32)), .val (.int (own_h s s)), .unset]) (S' := []) (H' := (own_H0  [])) rfl ?_
  exact ⟨_, _, hr, rfl, rfl⟩
set_option maxHeartbeats 4000000 in
theorem own_exit_1 (s in1 : Int32) (p1 : Nat) (c : Int32) (q : Nat) (u7 : Slot) (hq : own_ix c = some q) (h32 : q < 32) (h0 : own_rd [p1] q = 0) : own_run own_P 2 5 141 17 [.val (.ref 0), .val (.int (s + (1 : Int32))), .val (.int s), .val (.int (0 : Int32)), .val (.int in1), .val (.int (31 : Int32)), .val (.int c), u7] [] (own_H1 s [p1]) (none, (own_H2 s in1 (q :: [p1]))) := by
  apply own_ks_run
  refine own_ks.go (mt := own_m2) rfl 3 (pc' := 23) (L' := [.val (.ref 0), .val (.int (s + (1 : Int32))), .val (.int s), .val (.int (0 : Int32)), .val (.int in1), .val (.int (31 : Int32)), .val (.int c), u7]) (S' := [.int c, .ref 5]) (H' := (own_H1 s [p1])) rfl ?_
  refine own_ks.iaload (mt := own_m2) rfl (t := 24) (a := 5) (v := .int (0 : Int32)) rfl rfl hq ((own_sl_get [p1] q h32).trans (by rw [h0]; rfl)) ?_
  refine own_ks.go (mt := own_m2) rfl 43 (pc' := 237) (L' := [.val (.ref 0), .val (.int (s + (1 : Int32))), .val (.int s), .val (.int (0 : Int32)), .val (.int in1), .val (.int (31 : Int32)), .val (.int c), u7]) (S' := [.int (2 : Int32), .int c, .ref 5]) (H' := [(.inl 0, [.ref 1, .ref 2, .ref 3, .ref 4, .ref 5, .int (536870912 : Int32), .int (1 : Int32)]), (.inr .int, [.int s, .int (s + (1 : Int32)), .int (0 : Int32), .int (0 : Int32), .int (0 : Int32), .int (0 : Int32), .int (0 : Int32), .int (0 : Int32), .int (0 : Int32), .int (0 : Int32), .int (0 : Int32), .int (0 : Int32), .int (0 : Int32), .int (0 : Int32), .int (0 : Int32), .int (0 : Int32)]), (.inr .int, [.int s, .int s, .int (0 : Int32), .int (0 : Int32), .int (0 : Int32), .int (0 : Int32), .int (0 : Int32), .int (0 : Int32), .int (0 : Int32), .int (0 : Int32), .int (0 : Int32), .int (0 : Int32), .int (0 : Int32), .int (0 : Int32), .int (0 : Int32), .int (0 : Int32)]), (.inr .int, [.int (-1 : Int32), .int (0 : Int32), .int (0 : Int32), .int (0 : Int32), .int (0 : Int32), .int (0 : Int32), .int (0 : Int32), .int (0 : Int32), .int (0 : Int32), .int (0 : Int32), .int (0 : Int32), .int (0 : Int32), .int (0 : Int32), .int (0 : Int32), .int (0 : Int32), .int (0 : Int32)]), (.inr .int, [.int (-1 : Int32), .int in1, .int (0 : Int32), .int (0 : Int32), .int (0 : Int32), .int (0 : Int32), .int (0 : Int32), .int (0 : Int32), .int (0 : Int32), .int (0 : Int32), .int (0 : Int32), .int (0 : Int32), .int (0 : Int32), .int (0 : Int32), .int (0 : Int32), .int (0 : Int32)]), (.inr .int, (own_sl [p1]))]) rfl ?_
  refine own_ks.iastore (mt := own_m2) rfl (t := 238) (a := 5) (H' := [(.inl 0, [.ref 1, .ref 2, .ref 3, .ref 4, .ref 5, .int (536870912 : Int32), .int (1 : Int32)]), (.inr .int, [.int s, .int (s + (1 : Int32)), .int (0 : Int32), .int (0 : Int32), .int (0 : Int32), .int (0 : Int32), .int (0 : Int32), .int (0 : Int32), .int (0 : Int32), .int (0 : Int32), .int (0 : Int32), .int (0 : Int32), .int (0 : Int32), .int (0 : Int32), .int (0 : Int32), .int (0 : Int32)]), (.inr .int, [.int s, .int s, .int (0 : Int32), .int (0 : Int32), .int (0 : Int32), .int (0 : Int32), .int (0 : Int32), .int (0 : Int32), .int (0 : Int32), .int (0 : Int32), .int (0 : Int32), .int (0 : Int32), .int (0 : Int32), .int (0 : Int32), .int (0 : Int32), .int (0 : Int32)]), (.inr .int, [.int (-1 : Int32), .int (0 : Int32), .int (0 : Int32), .int (0 : Int32), .int (0 : Int32), .int (0 : Int32), .int (0 : Int32), .int (0 : Int32), .int (0 : Int32), .int (0 : Int32), .int (0 : Int32), .int (0 : Int32), .int (0 : Int32), .int (0 : Int32), .int (0 : Int32), .int (0 : Int32)]), (.inr .int, [.int (-1 : Int32), .int in1, .int (0 : Int32), .int (0 : Int32), .int (0 : Int32), .int (0 : Int32), .int (0 : Int32), .int (0 : Int32), .int (0 : Int32), .int (0 : Int32), .int (0 : Int32), .int (0 : Int32), .int (0 : Int32), .int (0 : Int32), .int (0 : Int32), .int (0 : Int32)]), (.inr .int, (own_sl (q :: [p1])))]) rfl rfl hq (by rw [own_sl_len]; exact h32) rfl ?_
  refine own_ks.go (mt := own_m2) rfl 12 (pc' := 258) (L' := [.val (.ref 0), .val (.int (s + (1 : Int32))), .val (.int s), .val (.int (0 : Int32)), .val (.int in1), .val (.int (31 : Int32)), .val (.int c), u7]) (S' := [.ref 5, .int (4 : Int32)]) (H' := [(.inl 0, [.ref 1, .ref 2, .ref 3, .ref 4, .ref 5, .int (536870912 : Int32), .int (2 : Int32)]), (.inr .int, [.int s, .int (s + (1 : Int32)), .int (0 : Int32), .int (0 : Int32), .int (0 : Int32), .int (0 : Int32), .int (0 : Int32), .int (0 : Int32), .int (0 : Int32), .int (0 : Int32), .int (0 : Int32), .int (0 : Int32), .int (0 : Int32), .int (0 : Int32), .int (0 : Int32), .int (0 : Int32)]), (.inr .int, [.int s, .int s, .int (0 : Int32), .int (0 : Int32), .int (0 : Int32), .int (0 : Int32), .int (0 : Int32), .int (0 : Int32), .int (0 : Int32), .int (0 : Int32), .int (0 : Int32), .int (0 : Int32), .int (0 : Int32), .int (0 : Int32), .int (0 : Int32), .int (0 : Int32)]), (.inr .int, [.int (-1 : Int32), .int (0 : Int32), .int (0 : Int32), .int (0 : Int32), .int (0 : Int32), .int (0 : Int32), .int (0 : Int32), .int (0 : Int32), .int (0 : Int32), .int (0 : Int32), .int (0 : Int32), .int (0 : Int32), .int (0 : Int32), .int (0 : Int32), .int (0 : Int32), .int (0 : Int32)]), (.inr .int, [.int (-1 : Int32), .int in1, .int (0 : Int32), .int (0 : Int32), .int (0 : Int32), .int (0 : Int32), .int (0 : Int32), .int (0 : Int32), .int (0 : Int32), .int (0 : Int32), .int (0 : Int32), .int (0 : Int32), .int (0 : Int32), .int (0 : Int32), .int (0 : Int32), .int (0 : Int32)]), (.inr .int, (own_sl (q :: [p1])))]) rfl ?_
  refine own_ks.alen (mt := own_m2) rfl (t := 259) (a := 5) (z := (32 : Int32)) rfl rfl (congrArg Nat.toInt32 (own_sl_len _)) ?_
  refine own_ks.go (mt := own_m2) rfl 1 (pc' := 273) (L' := [.val (.ref 0), .val (.int (s + (1 : Int32))), .val (.int s), .val (.int (0 : Int32)), .val (.int in1), .val (.int (31 : Int32)), .val (.int c), u7]) (S' := []) (H' := [(.inl 0, [.ref 1, .ref 2, .ref 3, .ref 4, .ref 5, .int (536870912 : Int32), .int (2 : Int32)]), (.inr .int, [.int s, .int (s + (1 : Int32)), .int (0 : Int32), .int (0 : Int32), .int (0 : Int32), .int (0 : Int32), .int (0 : Int32), .int (0 : Int32), .int (0 : Int32), .int (0 : Int32), .int (0 : Int32), .int (0 : Int32), .int (0 : Int32), .int (0 : Int32), .int (0 : Int32), .int (0 : Int32)]), (.inr .int, [.int s, .int s, .int (0 : Int32), .int (0 : Int32), .int (0 : Int32), .int (0 : Int32), .int (0 : Int32), .int (0 : Int32), .int (0 : Int32), .int (0 : Int32), .int (0 : Int32), .int (0 : Int32), .int (0 : Int32), .int (0 : Int32), .int (0 : Int32), .int (0 : Int32)]), (.inr .int, [.int (-1 : Int32), .int (0 : Int32), .int (0 : Int32), .int (0 : Int32), .int (0 : Int32), .int (0 : Int32), .int (0 : Int32), .int (0 : Int32), .int (0 : Int32), .int (0 : Int32), .int (0 : Int32), .int (0 : Int32), .int (0 : Int32), .int (0 : Int32), .int (0 : Int32), .int (0 : Int32)]), (.inr .int, [.int (-1 : Int32), .int in1, .int (0 : Int32), .int (0 : Int32), .int (0 : Int32), .int (0 : Int32), .int (0 : Int32), .int (0 : Int32), .int (0 : Int32), .int (0 : Int32), .int (0 : Int32), .int (0 : Int32), .int (0 : Int32), .int (0 : Int32), .int (0 : Int32), .int (0 : Int32)]), (.inr .int, (own_sl (q :: [p1])))]) rfl ?_
  exact own_ks.ret (mt := own_m2) rfl (ins := .return_) (t := 274) (v := none) rfl rfl ⟨rfl, rfl⟩
set_option maxHeartbeats 4000000 in
theorem own_it_1_1_0 (s in1 : Int32) (p1 : Nat) (c z : Int32) (q : Nat) (r : Option Value × OHeap) (hq : own_ix c = some q) (h32 : q < 32) (h0 : own_rd [p1] q = 1) (kr : own_run own_P 2 5 141 17 [.val (.ref 0), .val (.int (s + (1 : Int32))), .val (.int s), .val (.int (0 : Int32)), .val (.int in1), .val (.int (31 : Int32)), .val (.int ((c + (1 : Int32)) &&& (31 : Int32))), .val (.int (0 : Int32))] [] (own_H1 s [p1]) r) : own_run own_P 2 5 141 17 [.val (.ref 0), .val (.int (s + (1 : Int32))), .val (.int s), .val (.int (0 : Int32)), .val (.int in1), .val (.int (31 : Int32)), .val (.int c), .unset] [] (own_H1 s [p1]) r := by
  have hne : ¬ (s = (s + (1 : Int32))) := (own_add0 (by decide))
  apply own_ks_run (v := r.1) (H' := r.2)
  refine own_ks.go (mt := own_m2) rfl 3 (pc' := 23) (L' := [.val (.ref 0), .val (.int (s + (1 : Int32))), .val (.int s), .val (.int (0 : Int32)), .val (.int in1), .val (.int (31 : Int32)), .val (.int c), .unset]) (S' := [.int c, .ref 5]) (H' := (own_H1 s [p1])) rfl ?_
  refine own_ks.iaload (mt := own_m2) rfl (t := 24) (a := 5) (v := .int (1 : Int32)) rfl rfl hq ((own_sl_get [p1] q h32).trans (by rw [h0]; rfl)) ?_
  refine own_ks.go (mt := own_m2) rfl 4 (pc' := 33) (L' := [.val (.ref 0), .val (.int (s + (1 : Int32))), .val (.int s), .val (.int (0 : Int32)), .val (.int in1), .val (.int (31 : Int32)), .val (.int c), .unset]) (S' := [.int c, .ref 5]) (H' := (own_H1 s [p1])) rfl ?_
  refine own_ks.iaload (mt := own_m2) rfl (t := 34) (a := 5) (v := .int (1 : Int32)) rfl rfl hq ((own_sl_get [p1] q h32).trans (by rw [h0]; rfl)) ?_
  refine own_ks.go (mt := own_m2) rfl 8 (pc' := 46) (L' := [.val (.ref 0), .val (.int (s + (1 : Int32))), .val (.int s), .val (.int (0 : Int32)), .val (.int in1), .val (.int (31 : Int32)), .val (.int c), .val (.int (0 : Int32))]) (S' := [.int (s + (1 : Int32)), .int s]) (H' := (own_H1 s [p1])) rfl ?_
  refine own_ks.br2 (mt := own_m2) rfl (cd := .ne) (t := 61) (b := true) (pc' := 61) rfl (feq hne).2 rfl ?_
  refine own_ks.go (mt := own_m2) rfl 7 (pc' := 17) (L' := [.val (.ref 0), .val (.int (s + (1 : Int32))), .val (.int s), .val (.int (0 : Int32)), .val (.int in1), .val (.int (31 : Int32)), .val (.int ((c + (1 : Int32)) &&& (31 : Int32))), .val (.int (0 : Int32))]) (S' := []) (H' := (own_H1 s [p1])) rfl ?_
  exact ⟨_, _, kr, rfl, rfl⟩
set_option maxHeartbeats 4000000 in
theorem own_it_1_1_1 (s in1 : Int32) (p1 : Nat) (c z : Int32) (q : Nat) (r : Option Value × OHeap) (hq : own_ix c = some q) (h32 : q < 32) (h0 : own_rd [p1] q = 1) (kr : own_run own_P 2 5 141 17 [.val (.ref 0), .val (.int (s + (1 : Int32))), .val (.int s), .val (.int (0 : Int32)), .val (.int in1), .val (.int (31 : Int32)), .val (.int ((c + (1 : Int32)) &&& (31 : Int32))), .val (.int (0 : Int32))] [] (own_H1 s [p1]) r) : own_run own_P 2 5 141 17 [.val (.ref 0), .val (.int (s + (1 : Int32))), .val (.int s), .val (.int (0 : Int32)), .val (.int in1), .val (.int (31 : Int32)), .val (.int c), .val (.int z)] [] (own_H1 s [p1]) r := by
  have hne : ¬ (s = (s + (1 : Int32))) := (own_add0 (by decide))
  apply own_ks_run (v := r.1) (H' := r.2)
  refine own_ks.go (mt := own_m2) rfl 3 (pc' := 23) (L' := [.val (.ref 0), .val (.int (s + (1 : Int32))), .val (.int s), .val (.int (0 : Int32)), .val (.int in1), .val (.int (31 : Int32)), .val (.int c), .val (.int z)]) (S' := [.int c, .ref 5]) (H' := (own_H1 s [p1])) rfl ?_
  refine own_ks.iaload (mt := own_m2) rfl (t := 24) (a := 5) (v := .int (1 : Int32)) rfl rfl hq ((own_sl_get [p1] q h32).trans (by rw [h0]; rfl)) ?_
  refine own_ks.go (mt := own_m2) rfl 4 (pc' := 33) (L' := [.val (.ref 0), .val (.int (s + (1 : Int32))), .val (.int s), .val (.int (0 : Int32)), .val (.int in1), .val (.int (31 : Int32)), .val (.int c), .val (.int z)]) (S' := [.int c, .ref 5]) (H' := (own_H1 s [p1])) rfl ?_
  refine own_ks.iaload (mt := own_m2) rfl (t := 34) (a := 5) (v := .int (1 : Int32)) rfl rfl hq ((own_sl_get [p1] q h32).trans (by rw [h0]; rfl)) ?_
  refine own_ks.go (mt := own_m2) rfl 8 (pc' := 46) (L' := [.val (.ref 0), .val (.int (s + (1 : Int32))), .val (.int s), .val (.int (0 : Int32)), .val (.int in1), .val (.int (31 : Int32)), .val (.int c), .val (.int (0 : Int32))]) (S' := [.int (s + (1 : Int32)), .int s]) (H' := (own_H1 s [p1])) rfl ?_
  refine own_ks.br2 (mt := own_m2) rfl (cd := .ne) (t := 61) (b := true) (pc' := 61) rfl (feq hne).2 rfl ?_
  refine own_ks.go (mt := own_m2) rfl 7 (pc' := 17) (L' := [.val (.ref 0), .val (.int (s + (1 : Int32))), .val (.int s), .val (.int (0 : Int32)), .val (.int in1), .val (.int (31 : Int32)), .val (.int ((c + (1 : Int32)) &&& (31 : Int32))), .val (.int (0 : Int32))]) (S' := []) (H' := (own_H1 s [p1])) rfl ?_
  exact ⟨_, _, kr, rfl, rfl⟩
theorem own_loop_1 (s in1 : Int32) (p1 : Nat) : ∀ (n : Nat) (c : Int32) (q : Nat) (u7 : Slot), own_ix c = some q → q < 32 → (u7 = .unset ∨ ∃ z : Int32, u7 = .val (.int z)) → (∃ t, t ≤ n ∧ own_rd [p1] ((q + t) % 32) = 0) → ∃ p, p < 32 ∧ own_run own_P 2 5 141 17 [.val (.ref 0), .val (.int (s + (1 : Int32))), .val (.int s), .val (.int (0 : Int32)), .val (.int in1), .val (.int (31 : Int32)), .val (.int c), u7] [] (own_H1 s [p1]) (none, (own_H2 s in1 (p :: [p1]))) := by
  intro n
  induction n with
  | zero =>
    intro c q u7 hc hq hu ⟨t, ht, h0⟩
    obtain rfl : t = 0 := by omega
    rw [Nat.add_zero, Nat.mod_eq_of_lt hq] at h0
    exact ⟨q, hq, own_exit_1 s in1 p1 c q u7 hc hq h0⟩
  | succ n ih =>
    intro c q u7 hc hq hu ⟨t, ht, h0⟩
    by_cases hz : own_rd [p1] q = 0
    · exact ⟨q, hq, own_exit_1 s in1 p1 c q u7 hc hq hz⟩
    · have hn := own_next hc hq
      have ht0 : t ≠ 0 := by
        rintro rfl
        rw [Nat.add_zero, Nat.mod_eq_of_lt hq] at h0
        exact hz h0
      have ex : ∃ t', t' ≤ n ∧ own_rd [p1] (((q + 1) % 32 + t') % 32) = 0 := ⟨t - 1, by omega, by rw [show ((q + 1) % 32 + (t - 1)) % 32 = (q + t) % 32 by omega]; exact h0⟩
      have he : own_rd [p1] q = 1 := by
        have hle := own_rd_le [p1] q
        simp only [List.length_cons, List.length_nil] at hle
        omega
      rcases he with he
      · obtain ⟨p, hp, hr⟩ := ih _ _ (.val (.int (0 : Int32))) hn (by omega) (Or.inr ⟨_, rfl⟩) ex
        rcases hu with rfl | ⟨z, rfl⟩
        · exact ⟨p, hp, own_it_1_1_0 s in1 p1 c 0 q _ hc hq he hr⟩
        · exact ⟨p, hp, own_it_1_1_1 s in1 p1 c z q _ hc hq he hr⟩
theorem own_zero_1 (p1 : Nat) (q : Nat) (hq : q < 32) : ∃ t, t ≤ 1 ∧ own_rd [p1] ((q + t) % 32) = 0 := by
  apply Classical.byContradiction
  intro h
  have m0 := own_rd_mem [p1] ((q + 0) % 32) (fun e => h ⟨0, by omega, e⟩)
  have m1 := own_rd_mem [p1] ((q + 1) % 32) (fun e => h ⟨1, by omega, e⟩)
  simp only [List.mem_cons, List.not_mem_nil, or_false] at m0 m1
  omega
set_option maxHeartbeats 4000000 in
theorem own_meet_1 (s in1 : Int32) (p1 : Nat) : ∃ p, p < 32 ∧ own_run own_P 2 5 141 0 [.val (.ref 0), .val (.int (s + (1 : Int32))), .val (.int s), .val (.int (0 : Int32)), .val (.int in1), .unset, .unset, .unset] [] (own_H1 s [p1]) (none, (own_H2 s in1 (p :: [p1]))) := by
  obtain ⟨q, hq, h32⟩ := own_h_ix (s + (1 : Int32)) s
  obtain ⟨p, hp, hr⟩ := own_loop_1 s in1 p1 1 (own_h (s + (1 : Int32)) s) q .unset hq h32 (Or.inl rfl) (own_zero_1 p1 q h32)
  refine ⟨p, hp, own_ks_run ?_⟩
  refine own_ks.go (mt := own_m2) rfl 2 (pc' := 4) (L' := [.val (.ref 0), .val (.int (s + (1 : Int32))), .val (.int s), .val (.int (0 : Int32)), .val (.int in1), .unset, .unset, .unset]) (S' := [.ref 5]) (H' := (own_H1 s [p1])) rfl ?_
  refine own_ks.alen (mt := own_m2) rfl (t := 5) (a := 5) (z := (32 : Int32)) rfl rfl (congrArg Nat.toInt32 (own_sl_len _)) ?_
  refine own_ks.go (mt := own_m2) rfl 6 (pc' := 12) (L' := [.val (.ref 0), .val (.int (s + (1 : Int32))), .val (.int s), .val (.int (0 : Int32)), .val (.int in1), .val (.int (31 : Int32)), .unset, .unset]) (S' := [.int s, .int (s + (1 : Int32)), .ref 0]) (H' := (own_H1 s [p1])) rfl ?_
  refine own_ks.into (mt := own_m2) (mj := own_m3) rfl (ins := .invokevirtual 32) (t := 15) (j := 3) (as := [.ref 0, .int (s + (1 : Int32)), .int s]) (r' := []) (L' := [.val (.ref 0), .val (.int (s + (1 : Int32))), .val (.int s), .unset, .unset]) rfl rfl rfl rfl rfl rfl rfl rfl ?_
  refine own_ks.go (mt := own_m3) rfl 14 (pc' := 20) (L' := [.val (.ref 0), .val (.int (s + (1 : Int32))), .val (.int s), .val (.long (((s + (1 : Int32)).toInt64 <<< ((32 : Int32) &&& 0x3f).toInt64) ||| s.toInt64)), .second]) (S' := [.ref 5, .int (32 : Int32), .long ((((s + (1 : Int32)).toInt64 <<< ((32 : Int32) &&& 0x3f).toInt64) ||| s.toInt64) * (-7046029254386353131 : Int64))]) (H' := (own_H1 s [p1])) rfl ?_
  refine own_ks.alen (mt := own_m3) rfl (t := 21) (a := 5) (z := (32 : Int32)) rfl rfl (congrArg Nat.toInt32 (own_sl_len _)) ?_
  refine own_ks.go (mt := own_m3) rfl 2 (pc' := 23) (L' := [.val (.ref 0), .val (.int (s + (1 : Int32))), .val (.int s), .val (.long (((s + (1 : Int32)).toInt64 <<< ((32 : Int32) &&& 0x3f).toInt64) ||| s.toInt64)), .second]) (S' := [.int (31 : Int32), .int (32 : Int32), .long ((((s + (1 : Int32)).toInt64 <<< ((32 : Int32) &&& 0x3f).toInt64) ||| s.toInt64) * (-7046029254386353131 : Int64))]) (H' := (own_H1 s [p1])) rfl ?_
  refine own_ks.into (mt := own_m3) (mj := own_m4) rfl (ins := .invokestatic 64) (t := 26) (j := 4) (as := [.int (31 : Int32)]) (r' := [.int (32 : Int32), .long ((((s + (1 : Int32)).toInt64 <<< ((32 : Int32) &&& 0x3f).toInt64) ||| s.toInt64) * (-7046029254386353131 : Int64))]) (L' := [.val (.int (31 : Int32)), .unset]) rfl rfl rfl rfl rfl rfl rfl rfl ?_
  refine own_ks.go (mt := own_m4) rfl 26 (pc' := 78) (L' := [.val (.int (1 : Int32)), .val (.int (27 : Int32))]) (S' := [.int (27 : Int32)]) (H' := (own_H1 s [p1])) rfl ?_
  refine own_ks.back (mt := own_m4) rfl (ins := .ireturn) (t := 79) (v := some (.int (27 : Int32))) (S2 := [.int (27 : Int32), .int (32 : Int32), .long ((((s + (1 : Int32)).toInt64 <<< ((32 : Int32) &&& 0x3f).toInt64) ||| s.toInt64) * (-7046029254386353131 : Int64))]) rfl rfl rfl ?_
  refine own_ks.go (mt := own_m3) rfl 3 (pc' := 29) (L' := [.val (.ref 0), .val (.int (s + (1 : Int32))), .val (.int s), .val (.long (((s + (1 : Int32)).toInt64 <<< ((32 : Int32) &&& 0x3f).toInt64) ||| s.toInt64)), .second]) (S' := [.int (((((s + (1 : Int32)).toInt64 <<< ((32 : Int32) &&& 0x3f).toInt64) ||| s.toInt64) * (-7046029254386353131 : Int64)).toUInt64 >>> ((59 : Int32) &&& 0x3f).toInt64.toUInt64).toInt64.toInt32]) (H' := (own_H1 s [p1])) rfl ?_
  refine own_ks.back (mt := own_m3) rfl (ins := .ireturn) (t := 30) (v := some (.int (((((s + (1 : Int32)).toInt64 <<< ((32 : Int32) &&& 0x3f).toInt64) ||| s.toInt64) * (-7046029254386353131 : Int64)).toUInt64 >>> ((59 : Int32) &&& 0x3f).toInt64.toUInt64).toInt64.toInt32)) (S2 := [.int (((((s + (1 : Int32)).toInt64 <<< ((32 : Int32) &&& 0x3f).toInt64) ||| s.toInt64) * (-7046029254386353131 : Int64)).toUInt64 >>> ((59 : Int32) &&& 0x3f).toInt64.toUInt64).toInt64.toInt32]) rfl rfl rfl ?_
  refine own_ks.go (mt := own_m2) rfl 1 (pc' := 17) (L' := [.val (.ref 0), .val (.int (s + (1 : Int32))), .val (.int s), .val (.int (0 : Int32)), .val (.int in1), .val (.int (31 : Int32)), .val (.int (own_h (s + (1 : Int32)) s)), .unset]) (S' := []) (H' := (own_H1 s [p1])) rfl ?_
  exact ⟨_, _, hr, rfl, rfl⟩
set_option maxHeartbeats 4000000 in
theorem own_exit_2 (s in1 g2 in2 : Int32) (p1 p2 : Nat) (c : Int32) (q : Nat) (u7 : Slot) (hq : own_ix c = some q) (h32 : q < 32) (h0 : own_rd [p2, p1] q = 0) : own_run own_P 2 5 141 17 [.val (.ref 0), .val (.int (s + (2 : Int32))), .val (.int s), .val (.int g2), .val (.int in2), .val (.int (31 : Int32)), .val (.int c), u7] [] (own_H2 s in1 [p2, p1]) (none, (own_H3 s in1 g2 in2 (q :: [p2, p1]))) := by
  apply own_ks_run
  refine own_ks.go (mt := own_m2) rfl 3 (pc' := 23) (L' := [.val (.ref 0), .val (.int (s + (2 : Int32))), .val (.int s), .val (.int g2), .val (.int in2), .val (.int (31 : Int32)), .val (.int c), u7]) (S' := [.int c, .ref 5]) (H' := (own_H2 s in1 [p2, p1])) rfl ?_
  refine own_ks.iaload (mt := own_m2) rfl (t := 24) (a := 5) (v := .int (0 : Int32)) rfl rfl hq ((own_sl_get [p2, p1] q h32).trans (by rw [h0]; rfl)) ?_
  refine own_ks.go (mt := own_m2) rfl 43 (pc' := 237) (L' := [.val (.ref 0), .val (.int (s + (2 : Int32))), .val (.int s), .val (.int g2), .val (.int in2), .val (.int (31 : Int32)), .val (.int c), u7]) (S' := [.int (3 : Int32), .int c, .ref 5]) (H' := [(.inl 0, [.ref 1, .ref 2, .ref 3, .ref 4, .ref 5, .int (536870912 : Int32), .int (2 : Int32)]), (.inr .int, [.int s, .int (s + (1 : Int32)), .int (s + (2 : Int32)), .int (0 : Int32), .int (0 : Int32), .int (0 : Int32), .int (0 : Int32), .int (0 : Int32), .int (0 : Int32), .int (0 : Int32), .int (0 : Int32), .int (0 : Int32), .int (0 : Int32), .int (0 : Int32), .int (0 : Int32), .int (0 : Int32)]), (.inr .int, [.int s, .int s, .int s, .int (0 : Int32), .int (0 : Int32), .int (0 : Int32), .int (0 : Int32), .int (0 : Int32), .int (0 : Int32), .int (0 : Int32), .int (0 : Int32), .int (0 : Int32), .int (0 : Int32), .int (0 : Int32), .int (0 : Int32), .int (0 : Int32)]), (.inr .int, [.int (-1 : Int32), .int (0 : Int32), .int g2, .int (0 : Int32), .int (0 : Int32), .int (0 : Int32), .int (0 : Int32), .int (0 : Int32), .int (0 : Int32), .int (0 : Int32), .int (0 : Int32), .int (0 : Int32), .int (0 : Int32), .int (0 : Int32), .int (0 : Int32), .int (0 : Int32)]), (.inr .int, [.int (-1 : Int32), .int in1, .int in2, .int (0 : Int32), .int (0 : Int32), .int (0 : Int32), .int (0 : Int32), .int (0 : Int32), .int (0 : Int32), .int (0 : Int32), .int (0 : Int32), .int (0 : Int32), .int (0 : Int32), .int (0 : Int32), .int (0 : Int32), .int (0 : Int32)]), (.inr .int, (own_sl [p2, p1]))]) rfl ?_
  refine own_ks.iastore (mt := own_m2) rfl (t := 238) (a := 5) (H' := [(.inl 0, [.ref 1, .ref 2, .ref 3, .ref 4, .ref 5, .int (536870912 : Int32), .int (2 : Int32)]), (.inr .int, [.int s, .int (s + (1 : Int32)), .int (s + (2 : Int32)), .int (0 : Int32), .int (0 : Int32), .int (0 : Int32), .int (0 : Int32), .int (0 : Int32), .int (0 : Int32), .int (0 : Int32), .int (0 : Int32), .int (0 : Int32), .int (0 : Int32), .int (0 : Int32), .int (0 : Int32), .int (0 : Int32)]), (.inr .int, [.int s, .int s, .int s, .int (0 : Int32), .int (0 : Int32), .int (0 : Int32), .int (0 : Int32), .int (0 : Int32), .int (0 : Int32), .int (0 : Int32), .int (0 : Int32), .int (0 : Int32), .int (0 : Int32), .int (0 : Int32), .int (0 : Int32), .int (0 : Int32)]), (.inr .int, [.int (-1 : Int32), .int (0 : Int32), .int g2, .int (0 : Int32), .int (0 : Int32), .int (0 : Int32), .int (0 : Int32), .int (0 : Int32), .int (0 : Int32), .int (0 : Int32), .int (0 : Int32), .int (0 : Int32), .int (0 : Int32), .int (0 : Int32), .int (0 : Int32), .int (0 : Int32)]), (.inr .int, [.int (-1 : Int32), .int in1, .int in2, .int (0 : Int32), .int (0 : Int32), .int (0 : Int32), .int (0 : Int32), .int (0 : Int32), .int (0 : Int32), .int (0 : Int32), .int (0 : Int32), .int (0 : Int32), .int (0 : Int32), .int (0 : Int32), .int (0 : Int32), .int (0 : Int32)]), (.inr .int, (own_sl (q :: [p2, p1])))]) rfl rfl hq (by rw [own_sl_len]; exact h32) rfl ?_
  refine own_ks.go (mt := own_m2) rfl 12 (pc' := 258) (L' := [.val (.ref 0), .val (.int (s + (2 : Int32))), .val (.int s), .val (.int g2), .val (.int in2), .val (.int (31 : Int32)), .val (.int c), u7]) (S' := [.ref 5, .int (6 : Int32)]) (H' := [(.inl 0, [.ref 1, .ref 2, .ref 3, .ref 4, .ref 5, .int (536870912 : Int32), .int (3 : Int32)]), (.inr .int, [.int s, .int (s + (1 : Int32)), .int (s + (2 : Int32)), .int (0 : Int32), .int (0 : Int32), .int (0 : Int32), .int (0 : Int32), .int (0 : Int32), .int (0 : Int32), .int (0 : Int32), .int (0 : Int32), .int (0 : Int32), .int (0 : Int32), .int (0 : Int32), .int (0 : Int32), .int (0 : Int32)]), (.inr .int, [.int s, .int s, .int s, .int (0 : Int32), .int (0 : Int32), .int (0 : Int32), .int (0 : Int32), .int (0 : Int32), .int (0 : Int32), .int (0 : Int32), .int (0 : Int32), .int (0 : Int32), .int (0 : Int32), .int (0 : Int32), .int (0 : Int32), .int (0 : Int32)]), (.inr .int, [.int (-1 : Int32), .int (0 : Int32), .int g2, .int (0 : Int32), .int (0 : Int32), .int (0 : Int32), .int (0 : Int32), .int (0 : Int32), .int (0 : Int32), .int (0 : Int32), .int (0 : Int32), .int (0 : Int32), .int (0 : Int32), .int (0 : Int32), .int (0 : Int32), .int (0 : Int32)]), (.inr .int, [.int (-1 : Int32), .int in1, .int in2, .int (0 : Int32), .int (0 : Int32), .int (0 : Int32), .int (0 : Int32), .int (0 : Int32), .int (0 : Int32), .int (0 : Int32), .int (0 : Int32), .int (0 : Int32), .int (0 : Int32), .int (0 : Int32), .int (0 : Int32), .int (0 : Int32)]), (.inr .int, (own_sl (q :: [p2, p1])))]) rfl ?_
  refine own_ks.alen (mt := own_m2) rfl (t := 259) (a := 5) (z := (32 : Int32)) rfl rfl (congrArg Nat.toInt32 (own_sl_len _)) ?_
  refine own_ks.go (mt := own_m2) rfl 1 (pc' := 273) (L' := [.val (.ref 0), .val (.int (s + (2 : Int32))), .val (.int s), .val (.int g2), .val (.int in2), .val (.int (31 : Int32)), .val (.int c), u7]) (S' := []) (H' := [(.inl 0, [.ref 1, .ref 2, .ref 3, .ref 4, .ref 5, .int (536870912 : Int32), .int (3 : Int32)]), (.inr .int, [.int s, .int (s + (1 : Int32)), .int (s + (2 : Int32)), .int (0 : Int32), .int (0 : Int32), .int (0 : Int32), .int (0 : Int32), .int (0 : Int32), .int (0 : Int32), .int (0 : Int32), .int (0 : Int32), .int (0 : Int32), .int (0 : Int32), .int (0 : Int32), .int (0 : Int32), .int (0 : Int32)]), (.inr .int, [.int s, .int s, .int s, .int (0 : Int32), .int (0 : Int32), .int (0 : Int32), .int (0 : Int32), .int (0 : Int32), .int (0 : Int32), .int (0 : Int32), .int (0 : Int32), .int (0 : Int32), .int (0 : Int32), .int (0 : Int32), .int (0 : Int32), .int (0 : Int32)]), (.inr .int, [.int (-1 : Int32), .int (0 : Int32), .int g2, .int (0 : Int32), .int (0 : Int32), .int (0 : Int32), .int (0 : Int32), .int (0 : Int32), .int (0 : Int32), .int (0 : Int32), .int (0 : Int32), .int (0 : Int32), .int (0 : Int32), .int (0 : Int32), .int (0 : Int32), .int (0 : Int32)]), (.inr .int, [.int (-1 : Int32), .int in1, .int in2, .int (0 : Int32), .int (0 : Int32), .int (0 : Int32), .int (0 : Int32), .int (0 : Int32), .int (0 : Int32), .int (0 : Int32), .int (0 : Int32), .int (0 : Int32), .int (0 : Int32), .int (0 : Int32), .int (0 : Int32), .int (0 : Int32)]), (.inr .int, (own_sl (q :: [p2, p1])))]) rfl ?_
  exact own_ks.ret (mt := own_m2) rfl (ins := .return_) (t := 274) (v := none) rfl rfl ⟨rfl, rfl⟩
set_option maxHeartbeats 4000000 in
theorem own_it_2_1_0 (s in1 g2 in2 : Int32) (p1 p2 : Nat) (c z : Int32) (q : Nat) (r : Option Value × OHeap) (hq : own_ix c = some q) (h32 : q < 32) (h0 : own_rd [p2, p1] q = 1) (kr : own_run own_P 2 5 141 17 [.val (.ref 0), .val (.int (s + (2 : Int32))), .val (.int s), .val (.int g2), .val (.int in2), .val (.int (31 : Int32)), .val (.int ((c + (1 : Int32)) &&& (31 : Int32))), .val (.int (0 : Int32))] [] (own_H2 s in1 [p2, p1]) r) : own_run own_P 2 5 141 17 [.val (.ref 0), .val (.int (s + (2 : Int32))), .val (.int s), .val (.int g2), .val (.int in2), .val (.int (31 : Int32)), .val (.int c), .unset] [] (own_H2 s in1 [p2, p1]) r := by
  have hne : ¬ (s = (s + (2 : Int32))) := (own_add0 (by decide))
  apply own_ks_run (v := r.1) (H' := r.2)
  refine own_ks.go (mt := own_m2) rfl 3 (pc' := 23) (L' := [.val (.ref 0), .val (.int (s + (2 : Int32))), .val (.int s), .val (.int g2), .val (.int in2), .val (.int (31 : Int32)), .val (.int c), .unset]) (S' := [.int c, .ref 5]) (H' := (own_H2 s in1 [p2, p1])) rfl ?_
  refine own_ks.iaload (mt := own_m2) rfl (t := 24) (a := 5) (v := .int (1 : Int32)) rfl rfl hq ((own_sl_get [p2, p1] q h32).trans (by rw [h0]; rfl)) ?_
  refine own_ks.go (mt := own_m2) rfl 4 (pc' := 33) (L' := [.val (.ref 0), .val (.int (s + (2 : Int32))), .val (.int s), .val (.int g2), .val (.int in2), .val (.int (31 : Int32)), .val (.int c), .unset]) (S' := [.int c, .ref 5]) (H' := (own_H2 s in1 [p2, p1])) rfl ?_
  refine own_ks.iaload (mt := own_m2) rfl (t := 34) (a := 5) (v := .int (1 : Int32)) rfl rfl hq ((own_sl_get [p2, p1] q h32).trans (by rw [h0]; rfl)) ?_
  refine own_ks.go (mt := own_m2) rfl 8 (pc' := 46) (L' := [.val (.ref 0), .val (.int (s + (2 : Int32))), .val (.int s), .val (.int g2), .val (.int in2), .val (.int (31 : Int32)), .val (.int c), .val (.int (0 : Int32))]) (S' := [.int (s + (2 : Int32)), .int s]) (H' := (own_H2 s in1 [p2, p1])) rfl ?_
  refine own_ks.br2 (mt := own_m2) rfl (cd := .ne) (t := 61) (b := true) (pc' := 61) rfl (feq hne).2 rfl ?_
  refine own_ks.go (mt := own_m2) rfl 7 (pc' := 17) (L' := [.val (.ref 0), .val (.int (s + (2 : Int32))), .val (.int s), .val (.int g2), .val (.int in2), .val (.int (31 : Int32)), .val (.int ((c + (1 : Int32)) &&& (31 : Int32))), .val (.int (0 : Int32))]) (S' := []) (H' := (own_H2 s in1 [p2, p1])) rfl ?_
  exact ⟨_, _, kr, rfl, rfl⟩
set_option maxHeartbeats 4000000 in
theorem own_it_2_1_1 (s in1 g2 in2 : Int32) (p1 p2 : Nat) (c z : Int32) (q : Nat) (r : Option Value × OHeap) (hq : own_ix c = some q) (h32 : q < 32) (h0 : own_rd [p2, p1] q = 1) (kr : own_run own_P 2 5 141 17 [.val (.ref 0), .val (.int (s + (2 : Int32))), .val (.int s), .val (.int g2), .val (.int in2), .val (.int (31 : Int32)), .val (.int ((c + (1 : Int32)) &&& (31 : Int32))), .val (.int (0 : Int32))] [] (own_H2 s in1 [p2, p1]) r) : own_run own_P 2 5 141 17 [.val (.ref 0), .val (.int (s + (2 : Int32))), .val (.int s), .val (.int g2), .val (.int in2), .val (.int (31 : Int32)), .val (.int c), .val (.int z)] [] (own_H2 s in1 [p2, p1]) r := by
  have hne : ¬ (s = (s + (2 : Int32))) := (own_add0 (by decide))
  apply own_ks_run (v := r.1) (H' := r.2)
  refine own_ks.go (mt := own_m2) rfl 3 (pc' := 23) (L' := [.val (.ref 0), .val (.int (s + (2 : Int32))), .val (.int s), .val (.int g2), .val (.int in2), .val (.int (31 : Int32)), .val (.int c), .val (.int z)]) (S' := [.int c, .ref 5]) (H' := (own_H2 s in1 [p2, p1])) rfl ?_
  refine own_ks.iaload (mt := own_m2) rfl (t := 24) (a := 5) (v := .int (1 : Int32)) rfl rfl hq ((own_sl_get [p2, p1] q h32).trans (by rw [h0]; rfl)) ?_
  refine own_ks.go (mt := own_m2) rfl 4 (pc' := 33) (L' := [.val (.ref 0), .val (.int (s + (2 : Int32))), .val (.int s), .val (.int g2), .val (.int in2), .val (.int (31 : Int32)), .val (.int c), .val (.int z)]) (S' := [.int c, .ref 5]) (H' := (own_H2 s in1 [p2, p1])) rfl ?_
  refine own_ks.iaload (mt := own_m2) rfl (t := 34) (a := 5) (v := .int (1 : Int32)) rfl rfl hq ((own_sl_get [p2, p1] q h32).trans (by rw [h0]; rfl)) ?_
  refine own_ks.go (mt := own_m2) rfl 8 (pc' := 46) (L' := [.val (.ref 0), .val (.int (s + (2 : Int32))), .val (.int s), .val (.int g2), .val (.int in2), .val (.int (31 : Int32)), .val (.int c), .val (.int (0 : Int32))]) (S' := [.int (s + (2 : Int32)), .int s]) (H' := (own_H2 s in1 [p2, p1])) rfl ?_
  refine own_ks.br2 (mt := own_m2) rfl (cd := .ne) (t := 61) (b := true) (pc' := 61) rfl (feq hne).2 rfl ?_
  refine own_ks.go (mt := own_m2) rfl 7 (pc' := 17) (L' := [.val (.ref 0), .val (.int (s + (2 : Int32))), .val (.int s), .val (.int g2), .val (.int in2), .val (.int (31 : Int32)), .val (.int ((c + (1 : Int32)) &&& (31 : Int32))), .val (.int (0 : Int32))]) (S' := []) (H' := (own_H2 s in1 [p2, p1])) rfl ?_
  exact ⟨_, _, kr, rfl, rfl⟩
set_option maxHeartbeats 4000000 in
theorem own_it_2_2_0 (s in1 g2 in2 : Int32) (p1 p2 : Nat) (c z : Int32) (q : Nat) (r : Option Value × OHeap) (hq : own_ix c = some q) (h32 : q < 32) (h0 : own_rd [p2, p1] q = 2) (kr : own_run own_P 2 5 141 17 [.val (.ref 0), .val (.int (s + (2 : Int32))), .val (.int s), .val (.int g2), .val (.int in2), .val (.int (31 : Int32)), .val (.int ((c + (1 : Int32)) &&& (31 : Int32))), .val (.int (1 : Int32))] [] (own_H2 s in1 [p2, p1]) r) : own_run own_P 2 5 141 17 [.val (.ref 0), .val (.int (s + (2 : Int32))), .val (.int s), .val (.int g2), .val (.int in2), .val (.int (31 : Int32)), .val (.int c), .unset] [] (own_H2 s in1 [p2, p1]) r := by
  have hne : ¬ ((s + (1 : Int32)) = (s + (2 : Int32))) := (own_addne (by decide))
  apply own_ks_run (v := r.1) (H' := r.2)
  refine own_ks.go (mt := own_m2) rfl 3 (pc' := 23) (L' := [.val (.ref 0), .val (.int (s + (2 : Int32))), .val (.int s), .val (.int g2), .val (.int in2), .val (.int (31 : Int32)), .val (.int c), .unset]) (S' := [.int c, .ref 5]) (H' := (own_H2 s in1 [p2, p1])) rfl ?_
  refine own_ks.iaload (mt := own_m2) rfl (t := 24) (a := 5) (v := .int (2 : Int32)) rfl rfl hq ((own_sl_get [p2, p1] q h32).trans (by rw [h0]; rfl)) ?_
  refine own_ks.go (mt := own_m2) rfl 4 (pc' := 33) (L' := [.val (.ref 0), .val (.int (s + (2 : Int32))), .val (.int s), .val (.int g2), .val (.int in2), .val (.int (31 : Int32)), .val (.int c), .unset]) (S' := [.int c, .ref 5]) (H' := (own_H2 s in1 [p2, p1])) rfl ?_
  refine own_ks.iaload (mt := own_m2) rfl (t := 34) (a := 5) (v := .int (2 : Int32)) rfl rfl hq ((own_sl_get [p2, p1] q h32).trans (by rw [h0]; rfl)) ?_
  refine own_ks.go (mt := own_m2) rfl 8 (pc' := 46) (L' := [.val (.ref 0), .val (.int (s + (2 : Int32))), .val (.int s), .val (.int g2), .val (.int in2), .val (.int (31 : Int32)), .val (.int c), .val (.int (1 : Int32))]) (S' := [.int (s + (2 : Int32)), .int (s + (1 : Int32))]) (H' := (own_H2 s in1 [p2, p1])) rfl ?_
  refine own_ks.br2 (mt := own_m2) rfl (cd := .ne) (t := 61) (b := true) (pc' := 61) rfl (feq hne).2 rfl ?_
  refine own_ks.go (mt := own_m2) rfl 7 (pc' := 17) (L' := [.val (.ref 0), .val (.int (s + (2 : Int32))), .val (.int s), .val (.int g2), .val (.int in2), .val (.int (31 : Int32)), .val (.int ((c + (1 : Int32)) &&& (31 : Int32))), .val (.int (1 : Int32))]) (S' := []) (H' := (own_H2 s in1 [p2, p1])) rfl ?_
  exact ⟨_, _, kr, rfl, rfl⟩
set_option maxHeartbeats 4000000 in
theorem own_it_2_2_1 (s in1 g2 in2 : Int32) (p1 p2 : Nat) (c z : Int32) (q : Nat) (r : Option Value × OHeap) (hq : own_ix c = some q) (h32 : q < 32) (h0 : own_rd [p2, p1] q = 2) (kr : own_run own_P 2 5 141 17 [.val (.ref 0), .val (.int (s + (2 : Int32))), .val (.int s), .val (.int g2), .val (.int in2), .val (.int (31 : Int32)), .val (.int ((c + (1 : Int32)) &&& (31 : Int32))), .val (.int (1 : Int32))] [] (own_H2 s in1 [p2, p1]) r) : own_run own_P 2 5 141 17 [.val (.ref 0), .val (.int (s + (2 : Int32))), .val (.int s), .val (.int g2), .val (.int in2), .val (.int (31 : Int32)), .val (.int c), .val (.int z)] [] (own_H2 s in1 [p2, p1]) r := by
  have hne : ¬ ((s + (1 : Int32)) = (s + (2 : Int32))) := (own_addne (by decide))
  apply own_ks_run (v := r.1) (H' := r.2)
  refine own_ks.go (mt := own_m2) rfl 3 (pc' := 23) (L' := [.val (.ref 0), .val (.int (s + (2 : Int32))), .val (.int s), .val (.int g2), .val (.int in2), .val (.int (31 : Int32)), .val (.int c), .val (.int z)]) (S' := [.int c, .ref 5]) (H' := (own_H2 s in1 [p2, p1])) rfl ?_
  refine own_ks.iaload (mt := own_m2) rfl (t := 24) (a := 5) (v := .int (2 : Int32)) rfl rfl hq ((own_sl_get [p2, p1] q h32).trans (by rw [h0]; rfl)) ?_
  refine own_ks.go (mt := own_m2) rfl 4 (pc' := 33) (L' := [.val (.ref 0), .val (.int (s + (2 : Int32))), .val (.int s), .val (.int g2), .val (.int in2), .val (.int (31 : Int32)), .val (.int c), .val (.int z)]) (S' := [.int c, .ref 5]) (H' := (own_H2 s in1 [p2, p1])) rfl ?_
  refine own_ks.iaload (mt := own_m2) rfl (t := 34) (a := 5) (v := .int (2 : Int32)) rfl rfl hq ((own_sl_get [p2, p1] q h32).trans (by rw [h0]; rfl)) ?_
  refine own_ks.go (mt := own_m2) rfl 8 (pc' := 46) (L' := [.val (.ref 0), .val (.int (s + (2 : Int32))), .val (.int s), .val (.int g2), .val (.int in2), .val (.int (31 : Int32)), .val (.int c), .val (.int (1 : Int32))]) (S' := [.int (s + (2 : Int32)), .int (s + (1 : Int32))]) (H' := (own_H2 s in1 [p2, p1])) rfl ?_
  refine own_ks.br2 (mt := own_m2) rfl (cd := .ne) (t := 61) (b := true) (pc' := 61) rfl (feq hne).2 rfl ?_
  refine own_ks.go (mt := own_m2) rfl 7 (pc' := 17) (L' := [.val (.ref 0), .val (.int (s + (2 : Int32))), .val (.int s), .val (.int g2), .val (.int in2), .val (.int (31 : Int32)), .val (.int ((c + (1 : Int32)) &&& (31 : Int32))), .val (.int (1 : Int32))]) (S' := []) (H' := (own_H2 s in1 [p2, p1])) rfl ?_
  exact ⟨_, _, kr, rfl, rfl⟩
theorem own_loop_2 (s in1 g2 in2 : Int32) (p1 p2 : Nat) : ∀ (n : Nat) (c : Int32) (q : Nat) (u7 : Slot), own_ix c = some q → q < 32 → (u7 = .unset ∨ ∃ z : Int32, u7 = .val (.int z)) → (∃ t, t ≤ n ∧ own_rd [p2, p1] ((q + t) % 32) = 0) → ∃ p, p < 32 ∧ own_run own_P 2 5 141 17 [.val (.ref 0), .val (.int (s + (2 : Int32))), .val (.int s), .val (.int g2), .val (.int in2), .val (.int (31 : Int32)), .val (.int c), u7] [] (own_H2 s in1 [p2, p1]) (none, (own_H3 s in1 g2 in2 (p :: [p2, p1]))) := by
  intro n
  induction n with
  | zero =>
    intro c q u7 hc hq hu ⟨t, ht, h0⟩
    obtain rfl : t = 0 := by omega
    rw [Nat.add_zero, Nat.mod_eq_of_lt hq] at h0
    exact ⟨q, hq, own_exit_2 s in1 g2 in2 p1 p2 c q u7 hc hq h0⟩
  | succ n ih =>
    intro c q u7 hc hq hu ⟨t, ht, h0⟩
    by_cases hz : own_rd [p2, p1] q = 0
    · exact ⟨q, hq, own_exit_2 s in1 g2 in2 p1 p2 c q u7 hc hq hz⟩
    · have hn := own_next hc hq
      have ht0 : t ≠ 0 := by
        rintro rfl
        rw [Nat.add_zero, Nat.mod_eq_of_lt hq] at h0
        exact hz h0
      have ex : ∃ t', t' ≤ n ∧ own_rd [p2, p1] (((q + 1) % 32 + t') % 32) = 0 := ⟨t - 1, by omega, by rw [show ((q + 1) % 32 + (t - 1)) % 32 = (q + t) % 32 by omega]; exact h0⟩
      have he : own_rd [p2, p1] q = 1 ∨ own_rd [p2, p1] q = 2 := by
        have hle := own_rd_le [p2, p1] q
        simp only [List.length_cons, List.length_nil] at hle
        omega
      rcases he with he | he
      · obtain ⟨p, hp, hr⟩ := ih _ _ (.val (.int (0 : Int32))) hn (by omega) (Or.inr ⟨_, rfl⟩) ex
        rcases hu with rfl | ⟨z, rfl⟩
        · exact ⟨p, hp, own_it_2_1_0 s in1 g2 in2 p1 p2 c 0 q _ hc hq he hr⟩
        · exact ⟨p, hp, own_it_2_1_1 s in1 g2 in2 p1 p2 c z q _ hc hq he hr⟩
      · obtain ⟨p, hp, hr⟩ := ih _ _ (.val (.int (1 : Int32))) hn (by omega) (Or.inr ⟨_, rfl⟩) ex
        rcases hu with rfl | ⟨z, rfl⟩
        · exact ⟨p, hp, own_it_2_2_0 s in1 g2 in2 p1 p2 c 0 q _ hc hq he hr⟩
        · exact ⟨p, hp, own_it_2_2_1 s in1 g2 in2 p1 p2 c z q _ hc hq he hr⟩
theorem own_zero_2 (p1 p2 : Nat) (q : Nat) (hq : q < 32) : ∃ t, t ≤ 2 ∧ own_rd [p2, p1] ((q + t) % 32) = 0 := by
  apply Classical.byContradiction
  intro h
  have m0 := own_rd_mem [p2, p1] ((q + 0) % 32) (fun e => h ⟨0, by omega, e⟩)
  have m1 := own_rd_mem [p2, p1] ((q + 1) % 32) (fun e => h ⟨1, by omega, e⟩)
  have m2 := own_rd_mem [p2, p1] ((q + 2) % 32) (fun e => h ⟨2, by omega, e⟩)
  simp only [List.mem_cons, List.not_mem_nil, or_false] at m0 m1 m2
  omega
set_option maxHeartbeats 4000000 in
theorem own_meet_2 (s in1 g2 in2 : Int32) (p1 p2 : Nat) : ∃ p, p < 32 ∧ own_run own_P 2 5 141 0 [.val (.ref 0), .val (.int (s + (2 : Int32))), .val (.int s), .val (.int g2), .val (.int in2), .unset, .unset, .unset] [] (own_H2 s in1 [p2, p1]) (none, (own_H3 s in1 g2 in2 (p :: [p2, p1]))) := by
  obtain ⟨q, hq, h32⟩ := own_h_ix (s + (2 : Int32)) s
  obtain ⟨p, hp, hr⟩ := own_loop_2 s in1 g2 in2 p1 p2 2 (own_h (s + (2 : Int32)) s) q .unset hq h32 (Or.inl rfl) (own_zero_2 p1 p2 q h32)
  refine ⟨p, hp, own_ks_run ?_⟩
  refine own_ks.go (mt := own_m2) rfl 2 (pc' := 4) (L' := [.val (.ref 0), .val (.int (s + (2 : Int32))), .val (.int s), .val (.int g2), .val (.int in2), .unset, .unset, .unset]) (S' := [.ref 5]) (H' := (own_H2 s in1 [p2, p1])) rfl ?_
  refine own_ks.alen (mt := own_m2) rfl (t := 5) (a := 5) (z := (32 : Int32)) rfl rfl (congrArg Nat.toInt32 (own_sl_len _)) ?_
  refine own_ks.go (mt := own_m2) rfl 6 (pc' := 12) (L' := [.val (.ref 0), .val (.int (s + (2 : Int32))), .val (.int s), .val (.int g2), .val (.int in2), .val (.int (31 : Int32)), .unset, .unset]) (S' := [.int s, .int (s + (2 : Int32)), .ref 0]) (H' := (own_H2 s in1 [p2, p1])) rfl ?_
  refine own_ks.into (mt := own_m2) (mj := own_m3) rfl (ins := .invokevirtual 32) (t := 15) (j := 3) (as := [.ref 0, .int (s + (2 : Int32)), .int s]) (r' := []) (L' := [.val (.ref 0), .val (.int (s + (2 : Int32))), .val (.int s), .unset, .unset]) rfl rfl rfl rfl rfl rfl rfl rfl ?_
  refine own_ks.go (mt := own_m3) rfl 14 (pc' := 20) (L' := [.val (.ref 0), .val (.int (s + (2 : Int32))), .val (.int s), .val (.long (((s + (2 : Int32)).toInt64 <<< ((32 : Int32) &&& 0x3f).toInt64) ||| s.toInt64)), .second]) (S' := [.ref 5, .int (32 : Int32), .long ((((s + (2 : Int32)).toInt64 <<< ((32 : Int32) &&& 0x3f).toInt64) ||| s.toInt64) * (-7046029254386353131 : Int64))]) (H' := (own_H2 s in1 [p2, p1])) rfl ?_
  refine own_ks.alen (mt := own_m3) rfl (t := 21) (a := 5) (z := (32 : Int32)) rfl rfl (congrArg Nat.toInt32 (own_sl_len _)) ?_
  refine own_ks.go (mt := own_m3) rfl 2 (pc' := 23) (L' := [.val (.ref 0), .val (.int (s + (2 : Int32))), .val (.int s), .val (.long (((s + (2 : Int32)).toInt64 <<< ((32 : Int32) &&& 0x3f).toInt64) ||| s.toInt64)), .second]) (S' := [.int (31 : Int32), .int (32 : Int32), .long ((((s + (2 : Int32)).toInt64 <<< ((32 : Int32) &&& 0x3f).toInt64) ||| s.toInt64) * (-7046029254386353131 : Int64))]) (H' := (own_H2 s in1 [p2, p1])) rfl ?_
  refine own_ks.into (mt := own_m3) (mj := own_m4) rfl (ins := .invokestatic 64) (t := 26) (j := 4) (as := [.int (31 : Int32)]) (r' := [.int (32 : Int32), .long ((((s + (2 : Int32)).toInt64 <<< ((32 : Int32) &&& 0x3f).toInt64) ||| s.toInt64) * (-7046029254386353131 : Int64))]) (L' := [.val (.int (31 : Int32)), .unset]) rfl rfl rfl rfl rfl rfl rfl rfl ?_
  refine own_ks.go (mt := own_m4) rfl 26 (pc' := 78) (L' := [.val (.int (1 : Int32)), .val (.int (27 : Int32))]) (S' := [.int (27 : Int32)]) (H' := (own_H2 s in1 [p2, p1])) rfl ?_
  refine own_ks.back (mt := own_m4) rfl (ins := .ireturn) (t := 79) (v := some (.int (27 : Int32))) (S2 := [.int (27 : Int32), .int (32 : Int32), .long ((((s + (2 : Int32)).toInt64 <<< ((32 : Int32) &&& 0x3f).toInt64) ||| s.toInt64) * (-7046029254386353131 : Int64))]) rfl rfl rfl ?_
  refine own_ks.go (mt := own_m3) rfl 3 (pc' := 29) (L' := [.val (.ref 0), .val (.int (s + (2 : Int32))), .val (.int s), .val (.long (((s + (2 : Int32)).toInt64 <<< ((32 : Int32) &&& 0x3f).toInt64) ||| s.toInt64)), .second]) (S' := [.int (((((s + (2 : Int32)).toInt64 <<< ((32 : Int32) &&& 0x3f).toInt64) ||| s.toInt64) * (-7046029254386353131 : Int64)).toUInt64 >>> ((59 : Int32) &&& 0x3f).toInt64.toUInt64).toInt64.toInt32]) (H' := (own_H2 s in1 [p2, p1])) rfl ?_
  refine own_ks.back (mt := own_m3) rfl (ins := .ireturn) (t := 30) (v := some (.int (((((s + (2 : Int32)).toInt64 <<< ((32 : Int32) &&& 0x3f).toInt64) ||| s.toInt64) * (-7046029254386353131 : Int64)).toUInt64 >>> ((59 : Int32) &&& 0x3f).toInt64.toUInt64).toInt64.toInt32)) (S2 := [.int (((((s + (2 : Int32)).toInt64 <<< ((32 : Int32) &&& 0x3f).toInt64) ||| s.toInt64) * (-7046029254386353131 : Int64)).toUInt64 >>> ((59 : Int32) &&& 0x3f).toInt64.toUInt64).toInt64.toInt32]) rfl rfl rfl ?_
  refine own_ks.go (mt := own_m2) rfl 1 (pc' := 17) (L' := [.val (.ref 0), .val (.int (s + (2 : Int32))), .val (.int s), .val (.int g2), .val (.int in2), .val (.int (31 : Int32)), .val (.int (own_h (s + (2 : Int32)) s)), .unset]) (S' := []) (H' := (own_H2 s in1 [p2, p1])) rfl ?_
  exact ⟨_, _, hr, rfl, rfl⟩
set_option maxHeartbeats 4000000 in
theorem own_exit_3 (s in1 g2 in2 g3 in3 : Int32) (p1 p2 p3 : Nat) (c : Int32) (q : Nat) (u7 : Slot) (hq : own_ix c = some q) (h32 : q < 32) (h0 : own_rd [p3, p2, p1] q = 0) : own_run own_P 2 5 141 17 [.val (.ref 0), .val (.int (s + (3 : Int32))), .val (.int s), .val (.int g3), .val (.int in3), .val (.int (31 : Int32)), .val (.int c), u7] [] (own_H3 s in1 g2 in2 [p3, p2, p1]) (none, (own_H4 s in1 g2 in2 g3 in3 (q :: [p3, p2, p1]))) := by
  apply own_ks_run
  refine own_ks.go (mt := own_m2) rfl 3 (pc' := 23) (L' := [.val (.ref 0), .val (.int (s + (3 : Int32))), .val (.int s), .val (.int g3), .val (.int in3), .val (.int (31 : Int32)), .val (.int c), u7]) (S' := [.int c, .ref 5]) (H' := (own_H3 s in1 g2 in2 [p3, p2, p1])) rfl ?_
  refine own_ks.iaload (mt := own_m2) rfl (t := 24) (a := 5) (v := .int (0 : Int32)) rfl rfl hq ((own_sl_get [p3, p2, p1] q h32).trans (by rw [h0]; rfl)) ?_
  refine own_ks.go (mt := own_m2) rfl 43 (pc' := 237) (L' := [.val (.ref 0), .val (.int (s + (3 : Int32))), .val (.int s), .val (.int g3), .val (.int in3), .val (.int (31 : Int32)), .val (.int c), u7]) (S' := [.int (4 : Int32), .int c, .ref 5]) (H' := [(.inl 0, [.ref 1, .ref 2, .ref 3, .ref 4, .ref 5, .int (536870912 : Int32), .int (3 : Int32)]), (.inr .int, [.int s, .int (s + (1 : Int32)), .int (s + (2 : Int32)), .int (s + (3 : Int32)), .int (0 : Int32), .int (0 : Int32), .int (0 : Int32), .int (0 : Int32), .int (0 : Int32), .int (0 : Int32), .int (0 : Int32), .int (0 : Int32), .int (0 : Int32), .int (0 : Int32), .int (0 : Int32), .int (0 : Int32)]), (.inr .int, [.int s, .int s, .int s, .int s, .int (0 : Int32), .int (0 : Int32), .int (0 : Int32), .int (0 : Int32), .int (0 : Int32), .int (0 : Int32), .int (0 : Int32), .int (0 : Int32), .int (0 : Int32), .int (0 : Int32), .int (0 : Int32), .int (0 : Int32)]), (.inr .int, [.int (-1 : Int32), .int (0 : Int32), .int g2, .int g3, .int (0 : Int32), .int (0 : Int32), .int (0 : Int32), .int (0 : Int32), .int (0 : Int32), .int (0 : Int32), .int (0 : Int32), .int (0 : Int32), .int (0 : Int32), .int (0 : Int32), .int (0 : Int32), .int (0 : Int32)]), (.inr .int, [.int (-1 : Int32), .int in1, .int in2, .int in3, .int (0 : Int32), .int (0 : Int32), .int (0 : Int32), .int (0 : Int32), .int (0 : Int32), .int (0 : Int32), .int (0 : Int32), .int (0 : Int32), .int (0 : Int32), .int (0 : Int32), .int (0 : Int32), .int (0 : Int32)]), (.inr .int, (own_sl [p3, p2, p1]))]) rfl ?_
  refine own_ks.iastore (mt := own_m2) rfl (t := 238) (a := 5) (H' := [(.inl 0, [.ref 1, .ref 2, .ref 3, .ref 4, .ref 5, .int (536870912 : Int32), .int (3 : Int32)]), (.inr .int, [.int s, .int (s + (1 : Int32)), .int (s + (2 : Int32)), .int (s + (3 : Int32)), .int (0 : Int32), .int (0 : Int32), .int (0 : Int32), .int (0 : Int32), .int (0 : Int32), .int (0 : Int32), .int (0 : Int32), .int (0 : Int32), .int (0 : Int32), .int (0 : Int32), .int (0 : Int32), .int (0 : Int32)]), (.inr .int, [.int s, .int s, .int s, .int s, .int (0 : Int32), .int (0 : Int32), .int (0 : Int32), .int (0 : Int32), .int (0 : Int32), .int (0 : Int32), .int (0 : Int32), .int (0 : Int32), .int (0 : Int32), .int (0 : Int32), .int (0 : Int32), .int (0 : Int32)]), (.inr .int, [.int (-1 : Int32), .int (0 : Int32), .int g2, .int g3, .int (0 : Int32), .int (0 : Int32), .int (0 : Int32), .int (0 : Int32), .int (0 : Int32), .int (0 : Int32), .int (0 : Int32), .int (0 : Int32), .int (0 : Int32), .int (0 : Int32), .int (0 : Int32), .int (0 : Int32)]), (.inr .int, [.int (-1 : Int32), .int in1, .int in2, .int in3, .int (0 : Int32), .int (0 : Int32), .int (0 : Int32), .int (0 : Int32), .int (0 : Int32), .int (0 : Int32), .int (0 : Int32), .int (0 : Int32), .int (0 : Int32), .int (0 : Int32), .int (0 : Int32), .int (0 : Int32)]), (.inr .int, (own_sl (q :: [p3, p2, p1])))]) rfl rfl hq (by rw [own_sl_len]; exact h32) rfl ?_
  refine own_ks.go (mt := own_m2) rfl 12 (pc' := 258) (L' := [.val (.ref 0), .val (.int (s + (3 : Int32))), .val (.int s), .val (.int g3), .val (.int in3), .val (.int (31 : Int32)), .val (.int c), u7]) (S' := [.ref 5, .int (8 : Int32)]) (H' := [(.inl 0, [.ref 1, .ref 2, .ref 3, .ref 4, .ref 5, .int (536870912 : Int32), .int (4 : Int32)]), (.inr .int, [.int s, .int (s + (1 : Int32)), .int (s + (2 : Int32)), .int (s + (3 : Int32)), .int (0 : Int32), .int (0 : Int32), .int (0 : Int32), .int (0 : Int32), .int (0 : Int32), .int (0 : Int32), .int (0 : Int32), .int (0 : Int32), .int (0 : Int32), .int (0 : Int32), .int (0 : Int32), .int (0 : Int32)]), (.inr .int, [.int s, .int s, .int s, .int s, .int (0 : Int32), .int (0 : Int32), .int (0 : Int32), .int (0 : Int32), .int (0 : Int32), .int (0 : Int32), .int (0 : Int32), .int (0 : Int32), .int (0 : Int32), .int (0 : Int32), .int (0 : Int32), .int (0 : Int32)]), (.inr .int, [.int (-1 : Int32), .int (0 : Int32), .int g2, .int g3, .int (0 : Int32), .int (0 : Int32), .int (0 : Int32), .int (0 : Int32), .int (0 : Int32), .int (0 : Int32), .int (0 : Int32), .int (0 : Int32), .int (0 : Int32), .int (0 : Int32), .int (0 : Int32), .int (0 : Int32)]), (.inr .int, [.int (-1 : Int32), .int in1, .int in2, .int in3, .int (0 : Int32), .int (0 : Int32), .int (0 : Int32), .int (0 : Int32), .int (0 : Int32), .int (0 : Int32), .int (0 : Int32), .int (0 : Int32), .int (0 : Int32), .int (0 : Int32), .int (0 : Int32), .int (0 : Int32)]), (.inr .int, (own_sl (q :: [p3, p2, p1])))]) rfl ?_
  refine own_ks.alen (mt := own_m2) rfl (t := 259) (a := 5) (z := (32 : Int32)) rfl rfl (congrArg Nat.toInt32 (own_sl_len _)) ?_
  refine own_ks.go (mt := own_m2) rfl 1 (pc' := 273) (L' := [.val (.ref 0), .val (.int (s + (3 : Int32))), .val (.int s), .val (.int g3), .val (.int in3), .val (.int (31 : Int32)), .val (.int c), u7]) (S' := []) (H' := [(.inl 0, [.ref 1, .ref 2, .ref 3, .ref 4, .ref 5, .int (536870912 : Int32), .int (4 : Int32)]), (.inr .int, [.int s, .int (s + (1 : Int32)), .int (s + (2 : Int32)), .int (s + (3 : Int32)), .int (0 : Int32), .int (0 : Int32), .int (0 : Int32), .int (0 : Int32), .int (0 : Int32), .int (0 : Int32), .int (0 : Int32), .int (0 : Int32), .int (0 : Int32), .int (0 : Int32), .int (0 : Int32), .int (0 : Int32)]), (.inr .int, [.int s, .int s, .int s, .int s, .int (0 : Int32), .int (0 : Int32), .int (0 : Int32), .int (0 : Int32), .int (0 : Int32), .int (0 : Int32), .int (0 : Int32), .int (0 : Int32), .int (0 : Int32), .int (0 : Int32), .int (0 : Int32), .int (0 : Int32)]), (.inr .int, [.int (-1 : Int32), .int (0 : Int32), .int g2, .int g3, .int (0 : Int32), .int (0 : Int32), .int (0 : Int32), .int (0 : Int32), .int (0 : Int32), .int (0 : Int32), .int (0 : Int32), .int (0 : Int32), .int (0 : Int32), .int (0 : Int32), .int (0 : Int32), .int (0 : Int32)]), (.inr .int, [.int (-1 : Int32), .int in1, .int in2, .int in3, .int (0 : Int32), .int (0 : Int32), .int (0 : Int32), .int (0 : Int32), .int (0 : Int32), .int (0 : Int32), .int (0 : Int32), .int (0 : Int32), .int (0 : Int32), .int (0 : Int32), .int (0 : Int32), .int (0 : Int32)]), (.inr .int, (own_sl (q :: [p3, p2, p1])))]) rfl ?_
  exact own_ks.ret (mt := own_m2) rfl (ins := .return_) (t := 274) (v := none) rfl rfl ⟨rfl, rfl⟩
set_option maxHeartbeats 4000000 in
theorem own_it_3_1_0 (s in1 g2 in2 g3 in3 : Int32) (p1 p2 p3 : Nat) (c z : Int32) (q : Nat) (r : Option Value × OHeap) (hq : own_ix c = some q) (h32 : q < 32) (h0 : own_rd [p3, p2, p1] q = 1) (kr : own_run own_P 2 5 141 17 [.val (.ref 0), .val (.int (s + (3 : Int32))), .val (.int s), .val (.int g3), .val (.int in3), .val (.int (31 : Int32)), .val (.int ((c + (1 : Int32)) &&& (31 : Int32))), .val (.int (0 : Int32))] [] (own_H3 s in1 g2 in2 [p3, p2, p1]) r) : own_run own_P 2 5 141 17 [.val (.ref 0), .val (.int (s + (3 : Int32))), .val (.int s), .val (.int g3), .val (.int in3), .val (.int (31 : Int32)), .val (.int c), .unset] [] (own_H3 s in1 g2 in2 [p3, p2, p1]) r := by
  have hne : ¬ (s = (s + (3 : Int32))) := (own_add0 (by decide))
  apply own_ks_run (v := r.1) (H' := r.2)
  refine own_ks.go (mt := own_m2) rfl 3 (pc' := 23) (L' := [.val (.ref 0), .val (.int (s + (3 : Int32))), .val (.int s), .val (.int g3), .val (.int in3), .val (.int (31 : Int32)), .val (.int c), .unset]) (S' := [.int c, .ref 5]) (H' := (own_H3 s in1 g2 in2 [p3, p2, p1])) rfl ?_
  refine own_ks.iaload (mt := own_m2) rfl (t := 24) (a := 5) (v := .int (1 : Int32)) rfl rfl hq ((own_sl_get [p3, p2, p1] q h32).trans (by rw [h0]; rfl)) ?_
  refine own_ks.go (mt := own_m2) rfl 4 (pc' := 33) (L' := [.val (.ref 0), .val (.int (s + (3 : Int32))), .val (.int s), .val (.int g3), .val (.int in3), .val (.int (31 : Int32)), .val (.int c), .unset]) (S' := [.int c, .ref 5]) (H' := (own_H3 s in1 g2 in2 [p3, p2, p1])) rfl ?_
  refine own_ks.iaload (mt := own_m2) rfl (t := 34) (a := 5) (v := .int (1 : Int32)) rfl rfl hq ((own_sl_get [p3, p2, p1] q h32).trans (by rw [h0]; rfl)) ?_
  refine own_ks.go (mt := own_m2) rfl 8 (pc' := 46) (L' := [.val (.ref 0), .val (.int (s + (3 : Int32))), .val (.int s), .val (.int g3), .val (.int in3), .val (.int (31 : Int32)), .val (.int c), .val (.int (0 : Int32))]) (S' := [.int (s + (3 : Int32)), .int s]) (H' := (own_H3 s in1 g2 in2 [p3, p2, p1])) rfl ?_
  refine own_ks.br2 (mt := own_m2) rfl (cd := .ne) (t := 61) (b := true) (pc' := 61) rfl (feq hne).2 rfl ?_
  refine own_ks.go (mt := own_m2) rfl 7 (pc' := 17) (L' := [.val (.ref 0), .val (.int (s + (3 : Int32))), .val (.int s), .val (.int g3), .val (.int in3), .val (.int (31 : Int32)), .val (.int ((c + (1 : Int32)) &&& (31 : Int32))), .val (.int (0 : Int32))]) (S' := []) (H' := (own_H3 s in1 g2 in2 [p3, p2, p1])) rfl ?_
  exact ⟨_, _, kr, rfl, rfl⟩
set_option maxHeartbeats 4000000 in
theorem own_it_3_1_1 (s in1 g2 in2 g3 in3 : Int32) (p1 p2 p3 : Nat) (c z : Int32) (q : Nat) (r : Option Value × OHeap) (hq : own_ix c = some q) (h32 : q < 32) (h0 : own_rd [p3, p2, p1] q = 1) (kr : own_run own_P 2 5 141 17 [.val (.ref 0), .val (.int (s + (3 : Int32))), .val (.int s), .val (.int g3), .val (.int in3), .val (.int (31 : Int32)), .val (.int ((c + (1 : Int32)) &&& (31 : Int32))), .val (.int (0 : Int32))] [] (own_H3 s in1 g2 in2 [p3, p2, p1]) r) : own_run own_P 2 5 141 17 [.val (.ref 0), .val (.int (s + (3 : Int32))), .val (.int s), .val (.int g3), .val (.int in3), .val (.int (31 : Int32)), .val (.int c), .val (.int z)] [] (own_H3 s in1 g2 in2 [p3, p2, p1]) r := by
  have hne : ¬ (s = (s + (3 : Int32))) := (own_add0 (by decide))
  apply own_ks_run (v := r.1) (H' := r.2)
  refine own_ks.go (mt := own_m2) rfl 3 (pc' := 23) (L' := [.val (.ref 0), .val (.int (s + (3 : Int32))), .val (.int s), .val (.int g3), .val (.int in3), .val (.int (31 : Int32)), .val (.int c), .val (.int z)]) (S' := [.int c, .ref 5]) (H' := (own_H3 s in1 g2 in2 [p3, p2, p1])) rfl ?_
  refine own_ks.iaload (mt := own_m2) rfl (t := 24) (a := 5) (v := .int (1 : Int32)) rfl rfl hq ((own_sl_get [p3, p2, p1] q h32).trans (by rw [h0]; rfl)) ?_
  refine own_ks.go (mt := own_m2) rfl 4 (pc' := 33) (L' := [.val (.ref 0), .val (.int (s + (3 : Int32))), .val (.int s), .val (.int g3), .val (.int in3), .val (.int (31 : Int32)), .val (.int c), .val (.int z)]) (S' := [.int c, .ref 5]) (H' := (own_H3 s in1 g2 in2 [p3, p2, p1])) rfl ?_
  refine own_ks.iaload (mt := own_m2) rfl (t := 34) (a := 5) (v := .int (1 : Int32)) rfl rfl hq ((own_sl_get [p3, p2, p1] q h32).trans (by rw [h0]; rfl)) ?_
  refine own_ks.go (mt := own_m2) rfl 8 (pc' := 46) (L' := [.val (.ref 0), .val (.int (s + (3 : Int32))), .val (.int s), .val (.int g3), .val (.int in3), .val (.int (31 : Int32)), .val (.int c), .val (.int (0 : Int32))]) (S' := [.int (s + (3 : Int32)), .int s]) (H' := (own_H3 s in1 g2 in2 [p3, p2, p1])) rfl ?_
  refine own_ks.br2 (mt := own_m2) rfl (cd := .ne) (t := 61) (b := true) (pc' := 61) rfl (feq hne).2 rfl ?_
  refine own_ks.go (mt := own_m2) rfl 7 (pc' := 17) (L' := [.val (.ref 0), .val (.int (s + (3 : Int32))), .val (.int s), .val (.int g3), .val (.int in3), .val (.int (31 : Int32)), .val (.int ((c + (1 : Int32)) &&& (31 : Int32))), .val (.int (0 : Int32))]) (S' := []) (H' := (own_H3 s in1 g2 in2 [p3, p2, p1])) rfl ?_
  exact ⟨_, _, kr, rfl, rfl⟩
set_option maxHeartbeats 4000000 in
theorem own_it_3_2_0 (s in1 g2 in2 g3 in3 : Int32) (p1 p2 p3 : Nat) (c z : Int32) (q : Nat) (r : Option Value × OHeap) (hq : own_ix c = some q) (h32 : q < 32) (h0 : own_rd [p3, p2, p1] q = 2) (kr : own_run own_P 2 5 141 17 [.val (.ref 0), .val (.int (s + (3 : Int32))), .val (.int s), .val (.int g3), .val (.int in3), .val (.int (31 : Int32)), .val (.int ((c + (1 : Int32)) &&& (31 : Int32))), .val (.int (1 : Int32))] [] (own_H3 s in1 g2 in2 [p3, p2, p1]) r) : own_run own_P 2 5 141 17 [.val (.ref 0), .val (.int (s + (3 : Int32))), .val (.int s), .val (.int g3), .val (.int in3), .val (.int (31 : Int32)), .val (.int c), .unset] [] (own_H3 s in1 g2 in2 [p3, p2, p1]) r := by
  have hne : ¬ ((s + (1 : Int32)) = (s + (3 : Int32))) := (own_addne (by decide))
  apply own_ks_run (v := r.1) (H' := r.2)
  refine own_ks.go (mt := own_m2) rfl 3 (pc' := 23) (L' := [.val (.ref 0), .val (.int (s + (3 : Int32))), .val (.int s), .val (.int g3), .val (.int in3), .val (.int (31 : Int32)), .val (.int c), .unset]) (S' := [.int c, .ref 5]) (H' := (own_H3 s in1 g2 in2 [p3, p2, p1])) rfl ?_
  refine own_ks.iaload (mt := own_m2) rfl (t := 24) (a := 5) (v := .int (2 : Int32)) rfl rfl hq ((own_sl_get [p3, p2, p1] q h32).trans (by rw [h0]; rfl)) ?_
  refine own_ks.go (mt := own_m2) rfl 4 (pc' := 33) (L' := [.val (.ref 0), .val (.int (s + (3 : Int32))), .val (.int s), .val (.int g3), .val (.int in3), .val (.int (31 : Int32)), .val (.int c), .unset]) (S' := [.int c, .ref 5]) (H' := (own_H3 s in1 g2 in2 [p3, p2, p1])) rfl ?_
  refine own_ks.iaload (mt := own_m2) rfl (t := 34) (a := 5) (v := .int (2 : Int32)) rfl rfl hq ((own_sl_get [p3, p2, p1] q h32).trans (by rw [h0]; rfl)) ?_
  refine own_ks.go (mt := own_m2) rfl 8 (pc' := 46) (L' := [.val (.ref 0), .val (.int (s + (3 : Int32))), .val (.int s), .val (.int g3), .val (.int in3), .val (.int (31 : Int32)), .val (.int c), .val (.int (1 : Int32))]) (S' := [.int (s + (3 : Int32)), .int (s + (1 : Int32))]) (H' := (own_H3 s in1 g2 in2 [p3, p2, p1])) rfl ?_
  refine own_ks.br2 (mt := own_m2) rfl (cd := .ne) (t := 61) (b := true) (pc' := 61) rfl (feq hne).2 rfl ?_
  refine own_ks.go (mt := own_m2) rfl 7 (pc' := 17) (L' := [.val (.ref 0), .val (.int (s + (3 : Int32))), .val (.int s), .val (.int g3), .val (.int in3), .val (.int (31 : Int32)), .val (.int ((c + (1 : Int32)) &&& (31 : Int32))), .val (.int (1 : Int32))]) (S' := []) (H' := (own_H3 s in1 g2 in2 [p3, p2, p1])) rfl ?_
  exact ⟨_, _, kr, rfl, rfl⟩
set_option maxHeartbeats 4000000 in
theorem own_it_3_2_1 (s in1 g2 in2 g3 in3 : Int32) (p1 p2 p3 : Nat) (c z : Int32) (q : Nat) (r : Option Value × OHeap) (hq : own_ix c = some q) (h32 : q < 32) (h0 : own_rd [p3, p2, p1] q = 2) (kr : own_run own_P 2 5 141 17 [.val (.ref 0), .val (.int (s + (3 : Int32))), .val (.int s), .val (.int g3), .val (.int in3), .val (.int (31 : Int32)), .val (.int ((c + (1 : Int32)) &&& (31 : Int32))), .val (.int (1 : Int32))] [] (own_H3 s in1 g2 in2 [p3, p2, p1]) r) : own_run own_P 2 5 141 17 [.val (.ref 0), .val (.int (s + (3 : Int32))), .val (.int s), .val (.int g3), .val (.int in3), .val (.int (31 : Int32)), .val (.int c), .val (.int z)] [] (own_H3 s in1 g2 in2 [p3, p2, p1]) r := by
  have hne : ¬ ((s + (1 : Int32)) = (s + (3 : Int32))) := (own_addne (by decide))
  apply own_ks_run (v := r.1) (H' := r.2)
  refine own_ks.go (mt := own_m2) rfl 3 (pc' := 23) (L' := [.val (.ref 0), .val (.int (s + (3 : Int32))), .val (.int s), .val (.int g3), .val (.int in3), .val (.int (31 : Int32)), .val (.int c), .val (.int z)]) (S' := [.int c, .ref 5]) (H' := (own_H3 s in1 g2 in2 [p3, p2, p1])) rfl ?_
  refine own_ks.iaload (mt := own_m2) rfl (t := 24) (a := 5) (v := .int (2 : Int32)) rfl rfl hq ((own_sl_get [p3, p2, p1] q h32).trans (by rw [h0]; rfl)) ?_
  refine own_ks.go (mt := own_m2) rfl 4 (pc' := 33) (L' := [.val (.ref 0), .val (.int (s + (3 : Int32))), .val (.int s), .val (.int g3), .val (.int in3), .val (.int (31 : Int32)), .val (.int c), .val (.int z)]) (S' := [.int c, .ref 5]) (H' := (own_H3 s in1 g2 in2 [p3, p2, p1])) rfl ?_
  refine own_ks.iaload (mt := own_m2) rfl (t := 34) (a := 5) (v := .int (2 : Int32)) rfl rfl hq ((own_sl_get [p3, p2, p1] q h32).trans (by rw [h0]; rfl)) ?_
  refine own_ks.go (mt := own_m2) rfl 8 (pc' := 46) (L' := [.val (.ref 0), .val (.int (s + (3 : Int32))), .val (.int s), .val (.int g3), .val (.int in3), .val (.int (31 : Int32)), .val (.int c), .val (.int (1 : Int32))]) (S' := [.int (s + (3 : Int32)), .int (s + (1 : Int32))]) (H' := (own_H3 s in1 g2 in2 [p3, p2, p1])) rfl ?_
  refine own_ks.br2 (mt := own_m2) rfl (cd := .ne) (t := 61) (b := true) (pc' := 61) rfl (feq hne).2 rfl ?_
  refine own_ks.go (mt := own_m2) rfl 7 (pc' := 17) (L' := [.val (.ref 0), .val (.int (s + (3 : Int32))), .val (.int s), .val (.int g3), .val (.int in3), .val (.int (31 : Int32)), .val (.int ((c + (1 : Int32)) &&& (31 : Int32))), .val (.int (1 : Int32))]) (S' := []) (H' := (own_H3 s in1 g2 in2 [p3, p2, p1])) rfl ?_
  exact ⟨_, _, kr, rfl, rfl⟩
set_option maxHeartbeats 4000000 in
theorem own_it_3_3_0 (s in1 g2 in2 g3 in3 : Int32) (p1 p2 p3 : Nat) (c z : Int32) (q : Nat) (r : Option Value × OHeap) (hq : own_ix c = some q) (h32 : q < 32) (h0 : own_rd [p3, p2, p1] q = 3) (kr : own_run own_P 2 5 141 17 [.val (.ref 0), .val (.int (s + (3 : Int32))), .val (.int s), .val (.int g3), .val (.int in3), .val (.int (31 : Int32)), .val (.int ((c + (1 : Int32)) &&& (31 : Int32))), .val (.int (2 : Int32))] [] (own_H3 s in1 g2 in2 [p3, p2, p1]) r) : own_run own_P 2 5 141 17 [.val (.ref 0), .val (.int (s + (3 : Int32))), .val (.int s), .val (.int g3), .val (.int in3), .val (.int (31 : Int32)), .val (.int c), .unset] [] (own_H3 s in1 g2 in2 [p3, p2, p1]) r := by
  have hne : ¬ ((s + (2 : Int32)) = (s + (3 : Int32))) := (own_addne (by decide))
  apply own_ks_run (v := r.1) (H' := r.2)
  refine own_ks.go (mt := own_m2) rfl 3 (pc' := 23) (L' := [.val (.ref 0), .val (.int (s + (3 : Int32))), .val (.int s), .val (.int g3), .val (.int in3), .val (.int (31 : Int32)), .val (.int c), .unset]) (S' := [.int c, .ref 5]) (H' := (own_H3 s in1 g2 in2 [p3, p2, p1])) rfl ?_
  refine own_ks.iaload (mt := own_m2) rfl (t := 24) (a := 5) (v := .int (3 : Int32)) rfl rfl hq ((own_sl_get [p3, p2, p1] q h32).trans (by rw [h0]; rfl)) ?_
  refine own_ks.go (mt := own_m2) rfl 4 (pc' := 33) (L' := [.val (.ref 0), .val (.int (s + (3 : Int32))), .val (.int s), .val (.int g3), .val (.int in3), .val (.int (31 : Int32)), .val (.int c), .unset]) (S' := [.int c, .ref 5]) (H' := (own_H3 s in1 g2 in2 [p3, p2, p1])) rfl ?_
  refine own_ks.iaload (mt := own_m2) rfl (t := 34) (a := 5) (v := .int (3 : Int32)) rfl rfl hq ((own_sl_get [p3, p2, p1] q h32).trans (by rw [h0]; rfl)) ?_
  refine own_ks.go (mt := own_m2) rfl 8 (pc' := 46) (L' := [.val (.ref 0), .val (.int (s + (3 : Int32))), .val (.int s), .val (.int g3), .val (.int in3), .val (.int (31 : Int32)), .val (.int c), .val (.int (2 : Int32))]) (S' := [.int (s + (3 : Int32)), .int (s + (2 : Int32))]) (H' := (own_H3 s in1 g2 in2 [p3, p2, p1])) rfl ?_
  refine own_ks.br2 (mt := own_m2) rfl (cd := .ne) (t := 61) (b := true) (pc' := 61) rfl (feq hne).2 rfl ?_
  refine own_ks.go (mt := own_m2) rfl 7 (pc' := 17) (L' := [.val (.ref 0), .val (.int (s + (3 : Int32))), .val (.int s), .val (.int g3), .val (.int in3), .val (.int (31 : Int32)), .val (.int ((c + (1 : Int32)) &&& (31 : Int32))), .val (.int (2 : Int32))]) (S' := []) (H' := (own_H3 s in1 g2 in2 [p3, p2, p1])) rfl ?_
  exact ⟨_, _, kr, rfl, rfl⟩
set_option maxHeartbeats 4000000 in
theorem own_it_3_3_1 (s in1 g2 in2 g3 in3 : Int32) (p1 p2 p3 : Nat) (c z : Int32) (q : Nat) (r : Option Value × OHeap) (hq : own_ix c = some q) (h32 : q < 32) (h0 : own_rd [p3, p2, p1] q = 3) (kr : own_run own_P 2 5 141 17 [.val (.ref 0), .val (.int (s + (3 : Int32))), .val (.int s), .val (.int g3), .val (.int in3), .val (.int (31 : Int32)), .val (.int ((c + (1 : Int32)) &&& (31 : Int32))), .val (.int (2 : Int32))] [] (own_H3 s in1 g2 in2 [p3, p2, p1]) r) : own_run own_P 2 5 141 17 [.val (.ref 0), .val (.int (s + (3 : Int32))), .val (.int s), .val (.int g3), .val (.int in3), .val (.int (31 : Int32)), .val (.int c), .val (.int z)] [] (own_H3 s in1 g2 in2 [p3, p2, p1]) r := by
  have hne : ¬ ((s + (2 : Int32)) = (s + (3 : Int32))) := (own_addne (by decide))
  apply own_ks_run (v := r.1) (H' := r.2)
  refine own_ks.go (mt := own_m2) rfl 3 (pc' := 23) (L' := [.val (.ref 0), .val (.int (s + (3 : Int32))), .val (.int s), .val (.int g3), .val (.int in3), .val (.int (31 : Int32)), .val (.int c), .val (.int z)]) (S' := [.int c, .ref 5]) (H' := (own_H3 s in1 g2 in2 [p3, p2, p1])) rfl ?_
  refine own_ks.iaload (mt := own_m2) rfl (t := 24) (a := 5) (v := .int (3 : Int32)) rfl rfl hq ((own_sl_get [p3, p2, p1] q h32).trans (by rw [h0]; rfl)) ?_
  refine own_ks.go (mt := own_m2) rfl 4 (pc' := 33) (L' := [.val (.ref 0), .val (.int (s + (3 : Int32))), .val (.int s), .val (.int g3), .val (.int in3), .val (.int (31 : Int32)), .val (.int c), .val (.int z)]) (S' := [.int c, .ref 5]) (H' := (own_H3 s in1 g2 in2 [p3, p2, p1])) rfl ?_
  refine own_ks.iaload (mt := own_m2) rfl (t := 34) (a := 5) (v := .int (3 : Int32)) rfl rfl hq ((own_sl_get [p3, p2, p1] q h32).trans (by rw [h0]; rfl)) ?_
  refine own_ks.go (mt := own_m2) rfl 8 (pc' := 46) (L' := [.val (.ref 0), .val (.int (s + (3 : Int32))), .val (.int s), .val (.int g3), .val (.int in3), .val (.int (31 : Int32)), .val (.int c), .val (.int (2 : Int32))]) (S' := [.int (s + (3 : Int32)), .int (s + (2 : Int32))]) (H' := (own_H3 s in1 g2 in2 [p3, p2, p1])) rfl ?_
  refine own_ks.br2 (mt := own_m2) rfl (cd := .ne) (t := 61) (b := true) (pc' := 61) rfl (feq hne).2 rfl ?_
  refine own_ks.go (mt := own_m2) rfl 7 (pc' := 17) (L' := [.val (.ref 0), .val (.int (s + (3 : Int32))), .val (.int s), .val (.int g3), .val (.int in3), .val (.int (31 : Int32)), .val (.int ((c + (1 : Int32)) &&& (31 : Int32))), .val (.int (2 : Int32))]) (S' := []) (H' := (own_H3 s in1 g2 in2 [p3, p2, p1])) rfl ?_
  exact ⟨_, _, kr, rfl, rfl⟩
theorem own_loop_3 (s in1 g2 in2 g3 in3 : Int32) (p1 p2 p3 : Nat) : ∀ (n : Nat) (c : Int32) (q : Nat) (u7 : Slot), own_ix c = some q → q < 32 → (u7 = .unset ∨ ∃ z : Int32, u7 = .val (.int z)) → (∃ t, t ≤ n ∧ own_rd [p3, p2, p1] ((q + t) % 32) = 0) → ∃ p, p < 32 ∧ own_run own_P 2 5 141 17 [.val (.ref 0), .val (.int (s + (3 : Int32))), .val (.int s), .val (.int g3), .val (.int in3), .val (.int (31 : Int32)), .val (.int c), u7] [] (own_H3 s in1 g2 in2 [p3, p2, p1]) (none, (own_H4 s in1 g2 in2 g3 in3 (p :: [p3, p2, p1]))) := by
  intro n
  induction n with
  | zero =>
    intro c q u7 hc hq hu ⟨t, ht, h0⟩
    obtain rfl : t = 0 := by omega
    rw [Nat.add_zero, Nat.mod_eq_of_lt hq] at h0
    exact ⟨q, hq, own_exit_3 s in1 g2 in2 g3 in3 p1 p2 p3 c q u7 hc hq h0⟩
  | succ n ih =>
    intro c q u7 hc hq hu ⟨t, ht, h0⟩
    by_cases hz : own_rd [p3, p2, p1] q = 0
    · exact ⟨q, hq, own_exit_3 s in1 g2 in2 g3 in3 p1 p2 p3 c q u7 hc hq hz⟩
    · have hn := own_next hc hq
      have ht0 : t ≠ 0 := by
        rintro rfl
        rw [Nat.add_zero, Nat.mod_eq_of_lt hq] at h0
        exact hz h0
      have ex : ∃ t', t' ≤ n ∧ own_rd [p3, p2, p1] (((q + 1) % 32 + t') % 32) = 0 := ⟨t - 1, by omega, by rw [show ((q + 1) % 32 + (t - 1)) % 32 = (q + t) % 32 by omega]; exact h0⟩
      have he : own_rd [p3, p2, p1] q = 1 ∨ own_rd [p3, p2, p1] q = 2 ∨ own_rd [p3, p2, p1] q = 3 := by
        have hle := own_rd_le [p3, p2, p1] q
        simp only [List.length_cons, List.length_nil] at hle
        omega
      rcases he with he | he | he
      · obtain ⟨p, hp, hr⟩ := ih _ _ (.val (.int (0 : Int32))) hn (by omega) (Or.inr ⟨_, rfl⟩) ex
        rcases hu with rfl | ⟨z, rfl⟩
        · exact ⟨p, hp, own_it_3_1_0 s in1 g2 in2 g3 in3 p1 p2 p3 c 0 q _ hc hq he hr⟩
        · exact ⟨p, hp, own_it_3_1_1 s in1 g2 in2 g3 in3 p1 p2 p3 c z q _ hc hq he hr⟩
      · obtain ⟨p, hp, hr⟩ := ih _ _ (.val (.int (1 : Int32))) hn (by omega) (Or.inr ⟨_, rfl⟩) ex
        rcases hu with rfl | ⟨z, rfl⟩
        · exact ⟨p, hp, own_it_3_2_0 s in1 g2 in2 g3 in3 p1 p2 p3 c 0 q _ hc hq he hr⟩
        · exact ⟨p, hp, own_it_3_2_1 s in1 g2 in2 g3 in3 p1 p2 p3 c z q _ hc hq he hr⟩
      · obtain ⟨p, hp, hr⟩ := ih _ _ (.val (.int (2 : Int32))) hn (by omega) (Or.inr ⟨_, rfl⟩) ex
        rcases hu with rfl | ⟨z, rfl⟩
        · exact ⟨p, hp, own_it_3_3_0 s in1 g2 in2 g3 in3 p1 p2 p3 c 0 q _ hc hq he hr⟩
        · exact ⟨p, hp, own_it_3_3_1 s in1 g2 in2 g3 in3 p1 p2 p3 c z q _ hc hq he hr⟩
theorem own_zero_3 (p1 p2 p3 : Nat) (q : Nat) (hq : q < 32) : ∃ t, t ≤ 3 ∧ own_rd [p3, p2, p1] ((q + t) % 32) = 0 := by
  apply Classical.byContradiction
  intro h
  have m0 := own_rd_mem [p3, p2, p1] ((q + 0) % 32) (fun e => h ⟨0, by omega, e⟩)
  have m1 := own_rd_mem [p3, p2, p1] ((q + 1) % 32) (fun e => h ⟨1, by omega, e⟩)
  have m2 := own_rd_mem [p3, p2, p1] ((q + 2) % 32) (fun e => h ⟨2, by omega, e⟩)
  have m3 := own_rd_mem [p3, p2, p1] ((q + 3) % 32) (fun e => h ⟨3, by omega, e⟩)
  simp only [List.mem_cons, List.not_mem_nil, or_false] at m0 m1 m2 m3
  omega
set_option maxHeartbeats 4000000 in
theorem own_meet_3 (s in1 g2 in2 g3 in3 : Int32) (p1 p2 p3 : Nat) : ∃ p, p < 32 ∧ own_run own_P 2 5 141 0 [.val (.ref 0), .val (.int (s + (3 : Int32))), .val (.int s), .val (.int g3), .val (.int in3), .unset, .unset, .unset] [] (own_H3 s in1 g2 in2 [p3, p2, p1]) (none, (own_H4 s in1 g2 in2 g3 in3 (p :: [p3, p2, p1]))) := by
  obtain ⟨q, hq, h32⟩ := own_h_ix (s + (3 : Int32)) s
  obtain ⟨p, hp, hr⟩ := own_loop_3 s in1 g2 in2 g3 in3 p1 p2 p3 3 (own_h (s + (3 : Int32)) s) q .unset hq h32 (Or.inl rfl) (own_zero_3 p1 p2 p3 q h32)
  refine ⟨p, hp, own_ks_run ?_⟩
  refine own_ks.go (mt := own_m2) rfl 2 (pc' := 4) (L' := [.val (.ref 0), .val (.int (s + (3 : Int32))), .val (.int s), .val (.int g3), .val (.int in3), .unset, .unset, .unset]) (S' := [.ref 5]) (H' := (own_H3 s in1 g2 in2 [p3, p2, p1])) rfl ?_
  refine own_ks.alen (mt := own_m2) rfl (t := 5) (a := 5) (z := (32 : Int32)) rfl rfl (congrArg Nat.toInt32 (own_sl_len _)) ?_
  refine own_ks.go (mt := own_m2) rfl 6 (pc' := 12) (L' := [.val (.ref 0), .val (.int (s + (3 : Int32))), .val (.int s), .val (.int g3), .val (.int in3), .val (.int (31 : Int32)), .unset, .unset]) (S' := [.int s, .int (s + (3 : Int32)), .ref 0]) (H' := (own_H3 s in1 g2 in2 [p3, p2, p1])) rfl ?_
  refine own_ks.into (mt := own_m2) (mj := own_m3) rfl (ins := .invokevirtual 32) (t := 15) (j := 3) (as := [.ref 0, .int (s + (3 : Int32)), .int s]) (r' := []) (L' := [.val (.ref 0), .val (.int (s + (3 : Int32))), .val (.int s), .unset, .unset]) rfl rfl rfl rfl rfl rfl rfl rfl ?_
  refine own_ks.go (mt := own_m3) rfl 14 (pc' := 20) (L' := [.val (.ref 0), .val (.int (s + (3 : Int32))), .val (.int s), .val (.long (((s + (3 : Int32)).toInt64 <<< ((32 : Int32) &&& 0x3f).toInt64) ||| s.toInt64)), .second]) (S' := [.ref 5, .int (32 : Int32), .long ((((s + (3 : Int32)).toInt64 <<< ((32 : Int32) &&& 0x3f).toInt64) ||| s.toInt64) * (-7046029254386353131 : Int64))]) (H' := (own_H3 s in1 g2 in2 [p3, p2, p1])) rfl ?_
  refine own_ks.alen (mt := own_m3) rfl (t := 21) (a := 5) (z := (32 : Int32)) rfl rfl (congrArg Nat.toInt32 (own_sl_len _)) ?_
  refine own_ks.go (mt := own_m3) rfl 2 (pc' := 23) (L' := [.val (.ref 0), .val (.int (s + (3 : Int32))), .val (.int s), .val (.long (((s + (3 : Int32)).toInt64 <<< ((32 : Int32) &&& 0x3f).toInt64) ||| s.toInt64)), .second]) (S' := [.int (31 : Int32), .int (32 : Int32), .long ((((s + (3 : Int32)).toInt64 <<< ((32 : Int32) &&& 0x3f).toInt64) ||| s.toInt64) * (-7046029254386353131 : Int64))]) (H' := (own_H3 s in1 g2 in2 [p3, p2, p1])) rfl ?_
  refine own_ks.into (mt := own_m3) (mj := own_m4) rfl (ins := .invokestatic 64) (t := 26) (j := 4) (as := [.int (31 : Int32)]) (r' := [.int (32 : Int32), .long ((((s + (3 : Int32)).toInt64 <<< ((32 : Int32) &&& 0x3f).toInt64) ||| s.toInt64) * (-7046029254386353131 : Int64))]) (L' := [.val (.int (31 : Int32)), .unset]) rfl rfl rfl rfl rfl rfl rfl rfl ?_
  refine own_ks.go (mt := own_m4) rfl 26 (pc' := 78) (L' := [.val (.int (1 : Int32)), .val (.int (27 : Int32))]) (S' := [.int (27 : Int32)]) (H' := (own_H3 s in1 g2 in2 [p3, p2, p1])) rfl ?_
  refine own_ks.back (mt := own_m4) rfl (ins := .ireturn) (t := 79) (v := some (.int (27 : Int32))) (S2 := [.int (27 : Int32), .int (32 : Int32), .long ((((s + (3 : Int32)).toInt64 <<< ((32 : Int32) &&& 0x3f).toInt64) ||| s.toInt64) * (-7046029254386353131 : Int64))]) rfl rfl rfl ?_
  refine own_ks.go (mt := own_m3) rfl 3 (pc' := 29) (L' := [.val (.ref 0), .val (.int (s + (3 : Int32))), .val (.int s), .val (.long (((s + (3 : Int32)).toInt64 <<< ((32 : Int32) &&& 0x3f).toInt64) ||| s.toInt64)), .second]) (S' := [.int (((((s + (3 : Int32)).toInt64 <<< ((32 : Int32) &&& 0x3f).toInt64) ||| s.toInt64) * (-7046029254386353131 : Int64)).toUInt64 >>> ((59 : Int32) &&& 0x3f).toInt64.toUInt64).toInt64.toInt32]) (H' := (own_H3 s in1 g2 in2 [p3, p2, p1])) rfl ?_
  refine own_ks.back (mt := own_m3) rfl (ins := .ireturn) (t := 30) (v := some (.int (((((s + (3 : Int32)).toInt64 <<< ((32 : Int32) &&& 0x3f).toInt64) ||| s.toInt64) * (-7046029254386353131 : Int64)).toUInt64 >>> ((59 : Int32) &&& 0x3f).toInt64.toUInt64).toInt64.toInt32)) (S2 := [.int (((((s + (3 : Int32)).toInt64 <<< ((32 : Int32) &&& 0x3f).toInt64) ||| s.toInt64) * (-7046029254386353131 : Int64)).toUInt64 >>> ((59 : Int32) &&& 0x3f).toInt64.toUInt64).toInt64.toInt32]) rfl rfl rfl ?_
  refine own_ks.go (mt := own_m2) rfl 1 (pc' := 17) (L' := [.val (.ref 0), .val (.int (s + (3 : Int32))), .val (.int s), .val (.int g3), .val (.int in3), .val (.int (31 : Int32)), .val (.int (own_h (s + (3 : Int32)) s)), .unset]) (S' := []) (H' := (own_H3 s in1 g2 in2 [p3, p2, p1])) rfl ?_
  exact ⟨_, _, hr, rfl, rfl⟩
set_option maxHeartbeats 4000000 in
theorem own_c_0_0_0 (shape in1 in2 in3 last s : Int32) (ps : List Nat) : own_ks own_P (own_end own_P.2.1 24 320) [] 0 6 160 84 [.val (.int shape), .val (.int in1), .val (.int in2), .val (.int in3), .val (.int last), .val (.int s), .val (.int (0 : Int32)), .val (.int (0 : Int32)), .val (.int (0 : Int32)), .val (.ref 0), .unset, .unset, .unset] [] (own_H4 s in1 (0 : Int32) in2 (0 : Int32) in3 ps) := by
  refine own_ks.go (mt := own_m0) rfl 3 (pc' := 90) (L' := [.val (.int shape), .val (.int in1), .val (.int in2), .val (.int in3), .val (.int last), .val (.int s), .val (.int (0 : Int32)), .val (.int (0 : Int32)), .val (.int (0 : Int32)), .val (.ref 0), .unset, .unset, .unset]) (S' := [.int last, .int (0 : Int32), .ref 0]) (H' := (own_H4 s in1 (0 : Int32) in2 (0 : Int32) in3 ps)) rfl ?_
  refine own_ks.into (mt := own_m0) (mj := own_m5) rfl (ins := .invokevirtual 19) (t := 93) (j := 5) (as := [.ref 0, .int (0 : Int32), .int last]) (r' := []) (L' := [.val (.ref 0), .val (.int (0 : Int32)), .val (.int last), .unset, .unset, .unset, .unset]) rfl rfl rfl rfl rfl rfl rfl rfl ?_
  refine own_ks.go (mt := own_m5) rfl 24 (pc' := 49) (L' := [.val (.ref 0), .val (.int (0 : Int32)), .val (.int last), .val (.int (1 : Int32)), .val (.ref 6), .val (.int (0 : Int32)), .unset]) (S' := [.int (-1 : Int32)]) (H' := ((own_H4 s in1 (0 : Int32) in2 (0 : Int32) in3 ps) ++ [(.inr .int, [.int last])])) rfl ?_
  refine own_ks.go (mt := own_m5) rfl 4 (pc' := 85) (L' := [.val (.ref 0), .val (.int (0 : Int32)), .val (.int last), .val (.int (1 : Int32)), .val (.ref 6), .val (.int (0 : Int32)), .val (.int (-1 : Int32))]) (S' := [.ref 6]) (H' := ((own_H4 s in1 (0 : Int32) in2 (0 : Int32) in3 ps) ++ [(.inr .int, [.int last])])) rfl ?_
  refine own_ks.back (mt := own_m5) rfl (ins := .areturn) (t := 86) (v := some (.ref 6)) (S2 := [.ref 6]) rfl rfl rfl ?_
  refine own_ks.go (mt := own_m0) rfl 24 (pc' := 272) (L' := [.val (.int shape), .val (.int in1), .val (.int in2), .val (.int in3), .val (.int last), .val (.int s), .val (.int (0 : Int32)), .val (.int (0 : Int32)), .val (.int (0 : Int32)), .val (.ref 0), .val (.ref 6), .val (.ref 7), .val (.int (0 : Int32))]) (S' := [.int (0 : Int32), .ref 7, .ref 6]) (H' := ((own_H4 s in1 (0 : Int32) in2 (0 : Int32) in3 ps) ++ [(.inr .int, [.int last]), (.inr .int, [.int last, .int (0 : Int32), .int (0 : Int32), .int (0 : Int32)])])) rfl ?_
  refine own_ks.into (mt := own_m0) (mj := own_m6) rfl (ins := .invokestatic 23) (t := 275) (j := 6) (as := [.ref 6, .ref 7, .int (0 : Int32)]) (r' := []) (L' := [.val (.ref 6), .val (.ref 7), .val (.int (0 : Int32))]) rfl rfl rfl rfl rfl rfl rfl rfl ?_
  refine own_ks.go (mt := own_m6) rfl 10 (pc' := 12) (L' := [.val (.ref 6), .val (.ref 7), .val (.int (0 : Int32))]) (S' := [.int last, .int last]) (H' := ((own_H4 s in1 (0 : Int32) in2 (0 : Int32) in3 ps) ++ [(.inr .int, [.int last]), (.inr .int, [.int last, .int (0 : Int32), .int (0 : Int32), .int (0 : Int32)])])) rfl ?_
  have h1 : last = last := by rfl
  refine own_ks.br2 (mt := own_m6) rfl (cd := .ne) (t := 19) (b := false) (pc' := 15) rfl (teq h1).2 rfl ?_
  refine own_ks.go (mt := own_m6) rfl 2 (pc' := 20) (L' := [.val (.ref 6), .val (.ref 7), .val (.int (0 : Int32))]) (S' := [.int (1 : Int32)]) (H' := ((own_H4 s in1 (0 : Int32) in2 (0 : Int32) in3 ps) ++ [(.inr .int, [.int last]), (.inr .int, [.int last, .int (0 : Int32), .int (0 : Int32), .int (0 : Int32)])])) rfl ?_
  refine own_ks.back (mt := own_m6) rfl (ins := .ireturn) (t := 21) (v := some (.int (1 : Int32))) (S2 := [.int (1 : Int32)]) rfl rfl rfl ?_
  refine own_ks.go (mt := own_m0) rfl 4 (pc' := 283) (L' := [.val (.int shape), .val (.int in1), .val (.int in2), .val (.int in3), .val (.int last), .val (.int s), .val (.int (0 : Int32)), .val (.int (0 : Int32)), .val (.int (0 : Int32)), .val (.ref 0), .val (.ref 6), .val (.ref 7), .val (.int (0 : Int32))]) (S' := [.int (1 : Int32), .ref 7, .ref 6]) (H' := ((own_H4 s in1 (0 : Int32) in2 (0 : Int32) in3 ps) ++ [(.inr .int, [.int last]), (.inr .int, [.int last, .int (0 : Int32), .int (0 : Int32), .int (0 : Int32)])])) rfl ?_
  refine own_ks.into (mt := own_m0) (mj := own_m6) rfl (ins := .invokestatic 23) (t := 286) (j := 6) (as := [.ref 6, .ref 7, .int (1 : Int32)]) (r' := []) (L' := [.val (.ref 6), .val (.ref 7), .val (.int (1 : Int32))]) rfl rfl rfl rfl rfl rfl rfl rfl ?_
  refine own_ks.go (mt := own_m6) rfl 6 (pc' := 20) (L' := [.val (.ref 6), .val (.ref 7), .val (.int (1 : Int32))]) (S' := [.int (1 : Int32)]) (H' := ((own_H4 s in1 (0 : Int32) in2 (0 : Int32) in3 ps) ++ [(.inr .int, [.int last]), (.inr .int, [.int last, .int (0 : Int32), .int (0 : Int32), .int (0 : Int32)])])) rfl ?_
  refine own_ks.back (mt := own_m6) rfl (ins := .ireturn) (t := 21) (v := some (.int (1 : Int32))) (S2 := [.int (1 : Int32)]) rfl rfl rfl ?_
  refine own_ks.go (mt := own_m0) rfl 4 (pc' := 294) (L' := [.val (.int shape), .val (.int in1), .val (.int in2), .val (.int in3), .val (.int last), .val (.int s), .val (.int (0 : Int32)), .val (.int (0 : Int32)), .val (.int (0 : Int32)), .val (.ref 0), .val (.ref 6), .val (.ref 7), .val (.int (0 : Int32))]) (S' := [.int (2 : Int32), .ref 7, .ref 6]) (H' := ((own_H4 s in1 (0 : Int32) in2 (0 : Int32) in3 ps) ++ [(.inr .int, [.int last]), (.inr .int, [.int last, .int (0 : Int32), .int (0 : Int32), .int (0 : Int32)])])) rfl ?_
  refine own_ks.into (mt := own_m0) (mj := own_m6) rfl (ins := .invokestatic 23) (t := 297) (j := 6) (as := [.ref 6, .ref 7, .int (2 : Int32)]) (r' := []) (L' := [.val (.ref 6), .val (.ref 7), .val (.int (2 : Int32))]) rfl rfl rfl rfl rfl rfl rfl rfl ?_
  refine own_ks.go (mt := own_m6) rfl 6 (pc' := 20) (L' := [.val (.ref 6), .val (.ref 7), .val (.int (2 : Int32))]) (S' := [.int (1 : Int32)]) (H' := ((own_H4 s in1 (0 : Int32) in2 (0 : Int32) in3 ps) ++ [(.inr .int, [.int last]), (.inr .int, [.int last, .int (0 : Int32), .int (0 : Int32), .int (0 : Int32)])])) rfl ?_
  refine own_ks.back (mt := own_m6) rfl (ins := .ireturn) (t := 21) (v := some (.int (1 : Int32))) (S2 := [.int (1 : Int32)]) rfl rfl rfl ?_
  refine own_ks.go (mt := own_m0) rfl 4 (pc' := 305) (L' := [.val (.int shape), .val (.int in1), .val (.int in2), .val (.int in3), .val (.int last), .val (.int s), .val (.int (0 : Int32)), .val (.int (0 : Int32)), .val (.int (0 : Int32)), .val (.ref 0), .val (.ref 6), .val (.ref 7), .val (.int (0 : Int32))]) (S' := [.int (3 : Int32), .ref 7, .ref 6]) (H' := ((own_H4 s in1 (0 : Int32) in2 (0 : Int32) in3 ps) ++ [(.inr .int, [.int last]), (.inr .int, [.int last, .int (0 : Int32), .int (0 : Int32), .int (0 : Int32)])])) rfl ?_
  refine own_ks.into (mt := own_m0) (mj := own_m6) rfl (ins := .invokestatic 23) (t := 308) (j := 6) (as := [.ref 6, .ref 7, .int (3 : Int32)]) (r' := []) (L' := [.val (.ref 6), .val (.ref 7), .val (.int (3 : Int32))]) rfl rfl rfl rfl rfl rfl rfl rfl ?_
  refine own_ks.go (mt := own_m6) rfl 6 (pc' := 20) (L' := [.val (.ref 6), .val (.ref 7), .val (.int (3 : Int32))]) (S' := [.int (1 : Int32)]) (H' := ((own_H4 s in1 (0 : Int32) in2 (0 : Int32) in3 ps) ++ [(.inr .int, [.int last]), (.inr .int, [.int last, .int (0 : Int32), .int (0 : Int32), .int (0 : Int32)])])) rfl ?_
  refine own_ks.back (mt := own_m6) rfl (ins := .ireturn) (t := 21) (v := some (.int (1 : Int32))) (S2 := [.int (1 : Int32)]) rfl rfl rfl ?_
  refine own_ks.go (mt := own_m0) rfl 3 (pc' := 316) (L' := [.val (.int shape), .val (.int in1), .val (.int in2), .val (.int in3), .val (.int last), .val (.int s), .val (.int (0 : Int32)), .val (.int (0 : Int32)), .val (.int (0 : Int32)), .val (.ref 0), .val (.ref 6), .val (.ref 7), .val (.int (0 : Int32))]) (S' := [.int (1 : Int32)]) (H' := ((own_H4 s in1 (0 : Int32) in2 (0 : Int32) in3 ps) ++ [(.inr .int, [.int last]), (.inr .int, [.int last, .int (0 : Int32), .int (0 : Int32), .int (0 : Int32)])])) rfl ?_
  exact own_ks.ret (mt := own_m0) rfl (ins := .ireturn) (t := 317) (v := some (.int (1 : Int32))) rfl rfl ⟨rfl, by simp [own_H4], by simp [own_H4, own_w, own_cw, own_sl_len, own_P, own_k0]⟩
set_option maxHeartbeats 4000000 in
theorem own_c_0_0_1 (shape in1 in2 in3 last s : Int32) (ps : List Nat) : own_ks own_P (own_end own_P.2.1 24 320) [] 0 6 160 84 [.val (.int shape), .val (.int in1), .val (.int in2), .val (.int in3), .val (.int last), .val (.int s), .val (.int (0 : Int32)), .val (.int (0 : Int32)), .val (.int (1 : Int32)), .val (.ref 0), .unset, .unset, .unset] [] (own_H4 s in1 (0 : Int32) in2 (0 : Int32) in3 ps) := by
  refine own_ks.go (mt := own_m0) rfl 3 (pc' := 90) (L' := [.val (.int shape), .val (.int in1), .val (.int in2), .val (.int in3), .val (.int last), .val (.int s), .val (.int (0 : Int32)), .val (.int (0 : Int32)), .val (.int (1 : Int32)), .val (.ref 0), .unset, .unset, .unset]) (S' := [.int last, .int (1 : Int32), .ref 0]) (H' := (own_H4 s in1 (0 : Int32) in2 (0 : Int32) in3 ps)) rfl ?_
  refine own_ks.into (mt := own_m0) (mj := own_m5) rfl (ins := .invokevirtual 19) (t := 93) (j := 5) (as := [.ref 0, .int (1 : Int32), .int last]) (r' := []) (L' := [.val (.ref 0), .val (.int (1 : Int32)), .val (.int last), .unset, .unset, .unset, .unset]) rfl rfl rfl rfl rfl rfl rfl rfl ?_
  refine own_ks.go (mt := own_m5) rfl 24 (pc' := 32) (L' := [.val (.ref 0), .val (.int (1 : Int32)), .val (.int last), .val (.int (2 : Int32)), .val (.int (0 : Int32)), .unset, .unset]) (S' := [.int (2 : Int32)]) (H' := (own_H4 s in1 (0 : Int32) in2 (0 : Int32) in3 ps)) rfl ?_
  refine own_ks.go (mt := own_m5) rfl 24 (pc' := 69) (L' := [.val (.ref 0), .val (.int (1 : Int32)), .val (.int last), .val (.int (2 : Int32)), .val (.ref 6), .val (.int (1 : Int32)), .val (.int (0 : Int32))]) (S' := [.ref 0]) (H' := ((own_H4 s in1 (0 : Int32) in2 (0 : Int32) in3 ps) ++ [(.inr .int, [.int in1, .int last])])) rfl ?_
  refine own_ks.go (mt := own_m5) rfl 9 (pc' := 85) (L' := [.val (.ref 0), .val (.int (1 : Int32)), .val (.int last), .val (.int (2 : Int32)), .val (.ref 6), .val (.int (0 : Int32)), .val (.int (-1 : Int32))]) (S' := [.ref 6]) (H' := ((own_H4 s in1 (0 : Int32) in2 (0 : Int32) in3 ps) ++ [(.inr .int, [.int in1, .int last])])) rfl ?_
  refine own_ks.back (mt := own_m5) rfl (ins := .areturn) (t := 86) (v := some (.ref 6)) (S2 := [.ref 6]) rfl rfl rfl ?_
  refine own_ks.go (mt := own_m0) rfl 24 (pc' := 258) (L' := [.val (.int shape), .val (.int in1), .val (.int in2), .val (.int in3), .val (.int last), .val (.int s), .val (.int (0 : Int32)), .val (.int (0 : Int32)), .val (.int (1 : Int32)), .val (.ref 0), .val (.ref 6), .val (.ref 7), .val (.int (1 : Int32))]) (S' := [.int (2 : Int32)]) (H' := ((own_H4 s in1 (0 : Int32) in2 (0 : Int32) in3 ps) ++ [(.inr .int, [.int in1, .int last]), (.inr .int, [.int in1, .int last, .int (0 : Int32), .int (0 : Int32)])])) rfl ?_
  refine own_ks.go (mt := own_m0) rfl 7 (pc' := 272) (L' := [.val (.int shape), .val (.int in1), .val (.int in2), .val (.int in3), .val (.int last), .val (.int s), .val (.int (0 : Int32)), .val (.int (0 : Int32)), .val (.int (1 : Int32)), .val (.ref 0), .val (.ref 6), .val (.ref 7), .val (.int (1 : Int32))]) (S' := [.int (0 : Int32), .ref 7, .ref 6]) (H' := ((own_H4 s in1 (0 : Int32) in2 (0 : Int32) in3 ps) ++ [(.inr .int, [.int in1, .int last]), (.inr .int, [.int in1, .int last, .int (0 : Int32), .int (0 : Int32)])])) rfl ?_
  refine own_ks.into (mt := own_m0) (mj := own_m6) rfl (ins := .invokestatic 23) (t := 275) (j := 6) (as := [.ref 6, .ref 7, .int (0 : Int32)]) (r' := []) (L' := [.val (.ref 6), .val (.ref 7), .val (.int (0 : Int32))]) rfl rfl rfl rfl rfl rfl rfl rfl ?_
  refine own_ks.go (mt := own_m6) rfl 10 (pc' := 12) (L' := [.val (.ref 6), .val (.ref 7), .val (.int (0 : Int32))]) (S' := [.int in1, .int in1]) (H' := ((own_H4 s in1 (0 : Int32) in2 (0 : Int32) in3 ps) ++ [(.inr .int, [.int in1, .int last]), (.inr .int, [.int in1, .int last, .int (0 : Int32), .int (0 : Int32)])])) rfl ?_
  have h1 : in1 = in1 := by rfl
  refine own_ks.br2 (mt := own_m6) rfl (cd := .ne) (t := 19) (b := false) (pc' := 15) rfl (teq h1).2 rfl ?_
  refine own_ks.go (mt := own_m6) rfl 2 (pc' := 20) (L' := [.val (.ref 6), .val (.ref 7), .val (.int (0 : Int32))]) (S' := [.int (1 : Int32)]) (H' := ((own_H4 s in1 (0 : Int32) in2 (0 : Int32) in3 ps) ++ [(.inr .int, [.int in1, .int last]), (.inr .int, [.int in1, .int last, .int (0 : Int32), .int (0 : Int32)])])) rfl ?_
  refine own_ks.back (mt := own_m6) rfl (ins := .ireturn) (t := 21) (v := some (.int (1 : Int32))) (S2 := [.int (1 : Int32)]) rfl rfl rfl ?_
  refine own_ks.go (mt := own_m0) rfl 4 (pc' := 283) (L' := [.val (.int shape), .val (.int in1), .val (.int in2), .val (.int in3), .val (.int last), .val (.int s), .val (.int (0 : Int32)), .val (.int (0 : Int32)), .val (.int (1 : Int32)), .val (.ref 0), .val (.ref 6), .val (.ref 7), .val (.int (1 : Int32))]) (S' := [.int (1 : Int32), .ref 7, .ref 6]) (H' := ((own_H4 s in1 (0 : Int32) in2 (0 : Int32) in3 ps) ++ [(.inr .int, [.int in1, .int last]), (.inr .int, [.int in1, .int last, .int (0 : Int32), .int (0 : Int32)])])) rfl ?_
  refine own_ks.into (mt := own_m0) (mj := own_m6) rfl (ins := .invokestatic 23) (t := 286) (j := 6) (as := [.ref 6, .ref 7, .int (1 : Int32)]) (r' := []) (L' := [.val (.ref 6), .val (.ref 7), .val (.int (1 : Int32))]) rfl rfl rfl rfl rfl rfl rfl rfl ?_
  refine own_ks.go (mt := own_m6) rfl 10 (pc' := 12) (L' := [.val (.ref 6), .val (.ref 7), .val (.int (1 : Int32))]) (S' := [.int last, .int last]) (H' := ((own_H4 s in1 (0 : Int32) in2 (0 : Int32) in3 ps) ++ [(.inr .int, [.int in1, .int last]), (.inr .int, [.int in1, .int last, .int (0 : Int32), .int (0 : Int32)])])) rfl ?_
  have h2 : last = last := by rfl
  refine own_ks.br2 (mt := own_m6) rfl (cd := .ne) (t := 19) (b := false) (pc' := 15) rfl (teq h2).2 rfl ?_
  refine own_ks.go (mt := own_m6) rfl 2 (pc' := 20) (L' := [.val (.ref 6), .val (.ref 7), .val (.int (1 : Int32))]) (S' := [.int (1 : Int32)]) (H' := ((own_H4 s in1 (0 : Int32) in2 (0 : Int32) in3 ps) ++ [(.inr .int, [.int in1, .int last]), (.inr .int, [.int in1, .int last, .int (0 : Int32), .int (0 : Int32)])])) rfl ?_
  refine own_ks.back (mt := own_m6) rfl (ins := .ireturn) (t := 21) (v := some (.int (1 : Int32))) (S2 := [.int (1 : Int32)]) rfl rfl rfl ?_
  refine own_ks.go (mt := own_m0) rfl 4 (pc' := 294) (L' := [.val (.int shape), .val (.int in1), .val (.int in2), .val (.int in3), .val (.int last), .val (.int s), .val (.int (0 : Int32)), .val (.int (0 : Int32)), .val (.int (1 : Int32)), .val (.ref 0), .val (.ref 6), .val (.ref 7), .val (.int (1 : Int32))]) (S' := [.int (2 : Int32), .ref 7, .ref 6]) (H' := ((own_H4 s in1 (0 : Int32) in2 (0 : Int32) in3 ps) ++ [(.inr .int, [.int in1, .int last]), (.inr .int, [.int in1, .int last, .int (0 : Int32), .int (0 : Int32)])])) rfl ?_
  refine own_ks.into (mt := own_m0) (mj := own_m6) rfl (ins := .invokestatic 23) (t := 297) (j := 6) (as := [.ref 6, .ref 7, .int (2 : Int32)]) (r' := []) (L' := [.val (.ref 6), .val (.ref 7), .val (.int (2 : Int32))]) rfl rfl rfl rfl rfl rfl rfl rfl ?_
  refine own_ks.go (mt := own_m6) rfl 6 (pc' := 20) (L' := [.val (.ref 6), .val (.ref 7), .val (.int (2 : Int32))]) (S' := [.int (1 : Int32)]) (H' := ((own_H4 s in1 (0 : Int32) in2 (0 : Int32) in3 ps) ++ [(.inr .int, [.int in1, .int last]), (.inr .int, [.int in1, .int last, .int (0 : Int32), .int (0 : Int32)])])) rfl ?_
  refine own_ks.back (mt := own_m6) rfl (ins := .ireturn) (t := 21) (v := some (.int (1 : Int32))) (S2 := [.int (1 : Int32)]) rfl rfl rfl ?_
  refine own_ks.go (mt := own_m0) rfl 4 (pc' := 305) (L' := [.val (.int shape), .val (.int in1), .val (.int in2), .val (.int in3), .val (.int last), .val (.int s), .val (.int (0 : Int32)), .val (.int (0 : Int32)), .val (.int (1 : Int32)), .val (.ref 0), .val (.ref 6), .val (.ref 7), .val (.int (1 : Int32))]) (S' := [.int (3 : Int32), .ref 7, .ref 6]) (H' := ((own_H4 s in1 (0 : Int32) in2 (0 : Int32) in3 ps) ++ [(.inr .int, [.int in1, .int last]), (.inr .int, [.int in1, .int last, .int (0 : Int32), .int (0 : Int32)])])) rfl ?_
  refine own_ks.into (mt := own_m0) (mj := own_m6) rfl (ins := .invokestatic 23) (t := 308) (j := 6) (as := [.ref 6, .ref 7, .int (3 : Int32)]) (r' := []) (L' := [.val (.ref 6), .val (.ref 7), .val (.int (3 : Int32))]) rfl rfl rfl rfl rfl rfl rfl rfl ?_
  refine own_ks.go (mt := own_m6) rfl 6 (pc' := 20) (L' := [.val (.ref 6), .val (.ref 7), .val (.int (3 : Int32))]) (S' := [.int (1 : Int32)]) (H' := ((own_H4 s in1 (0 : Int32) in2 (0 : Int32) in3 ps) ++ [(.inr .int, [.int in1, .int last]), (.inr .int, [.int in1, .int last, .int (0 : Int32), .int (0 : Int32)])])) rfl ?_
  refine own_ks.back (mt := own_m6) rfl (ins := .ireturn) (t := 21) (v := some (.int (1 : Int32))) (S2 := [.int (1 : Int32)]) rfl rfl rfl ?_
  refine own_ks.go (mt := own_m0) rfl 3 (pc' := 316) (L' := [.val (.int shape), .val (.int in1), .val (.int in2), .val (.int in3), .val (.int last), .val (.int s), .val (.int (0 : Int32)), .val (.int (0 : Int32)), .val (.int (1 : Int32)), .val (.ref 0), .val (.ref 6), .val (.ref 7), .val (.int (1 : Int32))]) (S' := [.int (1 : Int32)]) (H' := ((own_H4 s in1 (0 : Int32) in2 (0 : Int32) in3 ps) ++ [(.inr .int, [.int in1, .int last]), (.inr .int, [.int in1, .int last, .int (0 : Int32), .int (0 : Int32)])])) rfl ?_
  exact own_ks.ret (mt := own_m0) rfl (ins := .ireturn) (t := 317) (v := some (.int (1 : Int32))) rfl rfl ⟨rfl, by simp [own_H4], by simp [own_H4, own_w, own_cw, own_sl_len, own_P, own_k0]⟩
set_option maxHeartbeats 4000000 in
theorem own_c_0_0_2 (shape in1 in2 in3 last s : Int32) (ps : List Nat) : own_ks own_P (own_end own_P.2.1 24 320) [] 0 6 160 84 [.val (.int shape), .val (.int in1), .val (.int in2), .val (.int in3), .val (.int last), .val (.int s), .val (.int (0 : Int32)), .val (.int (0 : Int32)), .val (.int (2 : Int32)), .val (.ref 0), .unset, .unset, .unset] [] (own_H4 s in1 (0 : Int32) in2 (0 : Int32) in3 ps) := by
  refine own_ks.go (mt := own_m0) rfl 3 (pc' := 90) (L' := [.val (.int shape), .val (.int in1), .val (.int in2), .val (.int in3), .val (.int last), .val (.int s), .val (.int (0 : Int32)), .val (.int (0 : Int32)), .val (.int (2 : Int32)), .val (.ref 0), .unset, .unset, .unset]) (S' := [.int last, .int (2 : Int32), .ref 0]) (H' := (own_H4 s in1 (0 : Int32) in2 (0 : Int32) in3 ps)) rfl ?_
  refine own_ks.into (mt := own_m0) (mj := own_m5) rfl (ins := .invokevirtual 19) (t := 93) (j := 5) (as := [.ref 0, .int (2 : Int32), .int last]) (r' := []) (L' := [.val (.ref 0), .val (.int (2 : Int32)), .val (.int last), .unset, .unset, .unset, .unset]) rfl rfl rfl rfl rfl rfl rfl rfl ?_
  refine own_ks.go (mt := own_m5) rfl 24 (pc' := 32) (L' := [.val (.ref 0), .val (.int (2 : Int32)), .val (.int last), .val (.int (2 : Int32)), .val (.int (0 : Int32)), .unset, .unset]) (S' := [.int (2 : Int32)]) (H' := (own_H4 s in1 (0 : Int32) in2 (0 : Int32) in3 ps)) rfl ?_
  refine own_ks.go (mt := own_m5) rfl 24 (pc' := 69) (L' := [.val (.ref 0), .val (.int (2 : Int32)), .val (.int last), .val (.int (2 : Int32)), .val (.ref 6), .val (.int (2 : Int32)), .val (.int (0 : Int32))]) (S' := [.ref 0]) (H' := ((own_H4 s in1 (0 : Int32) in2 (0 : Int32) in3 ps) ++ [(.inr .int, [.int in2, .int last])])) rfl ?_
  refine own_ks.go (mt := own_m5) rfl 9 (pc' := 85) (L' := [.val (.ref 0), .val (.int (2 : Int32)), .val (.int last), .val (.int (2 : Int32)), .val (.ref 6), .val (.int (0 : Int32)), .val (.int (-1 : Int32))]) (S' := [.ref 6]) (H' := ((own_H4 s in1 (0 : Int32) in2 (0 : Int32) in3 ps) ++ [(.inr .int, [.int in2, .int last])])) rfl ?_
  refine own_ks.back (mt := own_m5) rfl (ins := .areturn) (t := 86) (v := some (.ref 6)) (S2 := [.ref 6]) rfl rfl rfl ?_
  refine own_ks.go (mt := own_m0) rfl 24 (pc' := 249) (L' := [.val (.int shape), .val (.int in1), .val (.int in2), .val (.int in3), .val (.int last), .val (.int s), .val (.int (0 : Int32)), .val (.int (0 : Int32)), .val (.int (2 : Int32)), .val (.ref 0), .val (.ref 6), .val (.ref 7), .val (.int (1 : Int32))]) (S' := [.int last, .int (1 : Int32), .ref 7]) (H' := ((own_H4 s in1 (0 : Int32) in2 (0 : Int32) in3 ps) ++ [(.inr .int, [.int in2, .int last]), (.inr .int, [.int in2, .int (0 : Int32), .int (0 : Int32), .int (0 : Int32)])])) rfl ?_
  refine own_ks.go (mt := own_m0) rfl 12 (pc' := 272) (L' := [.val (.int shape), .val (.int in1), .val (.int in2), .val (.int in3), .val (.int last), .val (.int s), .val (.int (0 : Int32)), .val (.int (0 : Int32)), .val (.int (2 : Int32)), .val (.ref 0), .val (.ref 6), .val (.ref 7), .val (.int (1 : Int32))]) (S' := [.int (0 : Int32), .ref 7, .ref 6]) (H' := ((own_H4 s in1 (0 : Int32) in2 (0 : Int32) in3 ps) ++ [(.inr .int, [.int in2, .int last]), (.inr .int, [.int in2, .int last, .int (0 : Int32), .int (0 : Int32)])])) rfl ?_
  refine own_ks.into (mt := own_m0) (mj := own_m6) rfl (ins := .invokestatic 23) (t := 275) (j := 6) (as := [.ref 6, .ref 7, .int (0 : Int32)]) (r' := []) (L' := [.val (.ref 6), .val (.ref 7), .val (.int (0 : Int32))]) rfl rfl rfl rfl rfl rfl rfl rfl ?_
  refine own_ks.go (mt := own_m6) rfl 10 (pc' := 12) (L' := [.val (.ref 6), .val (.ref 7), .val (.int (0 : Int32))]) (S' := [.int in2, .int in2]) (H' := ((own_H4 s in1 (0 : Int32) in2 (0 : Int32) in3 ps) ++ [(.inr .int, [.int in2, .int last]), (.inr .int, [.int in2, .int last, .int (0 : Int32), .int (0 : Int32)])])) rfl ?_
  have h1 : in2 = in2 := by rfl
  refine own_ks.br2 (mt := own_m6) rfl (cd := .ne) (t := 19) (b := false) (pc' := 15) rfl (teq h1).2 rfl ?_
  refine own_ks.go (mt := own_m6) rfl 2 (pc' := 20) (L' := [.val (.ref 6), .val (.ref 7), .val (.int (0 : Int32))]) (S' := [.int (1 : Int32)]) (H' := ((own_H4 s in1 (0 : Int32) in2 (0 : Int32) in3 ps) ++ [(.inr .int, [.int in2, .int last]), (.inr .int, [.int in2, .int last, .int (0 : Int32), .int (0 : Int32)])])) rfl ?_
  refine own_ks.back (mt := own_m6) rfl (ins := .ireturn) (t := 21) (v := some (.int (1 : Int32))) (S2 := [.int (1 : Int32)]) rfl rfl rfl ?_
  refine own_ks.go (mt := own_m0) rfl 4 (pc' := 283) (L' := [.val (.int shape), .val (.int in1), .val (.int in2), .val (.int in3), .val (.int last), .val (.int s), .val (.int (0 : Int32)), .val (.int (0 : Int32)), .val (.int (2 : Int32)), .val (.ref 0), .val (.ref 6), .val (.ref 7), .val (.int (1 : Int32))]) (S' := [.int (1 : Int32), .ref 7, .ref 6]) (H' := ((own_H4 s in1 (0 : Int32) in2 (0 : Int32) in3 ps) ++ [(.inr .int, [.int in2, .int last]), (.inr .int, [.int in2, .int last, .int (0 : Int32), .int (0 : Int32)])])) rfl ?_
  refine own_ks.into (mt := own_m0) (mj := own_m6) rfl (ins := .invokestatic 23) (t := 286) (j := 6) (as := [.ref 6, .ref 7, .int (1 : Int32)]) (r' := []) (L' := [.val (.ref 6), .val (.ref 7), .val (.int (1 : Int32))]) rfl rfl rfl rfl rfl rfl rfl rfl ?_
  refine own_ks.go (mt := own_m6) rfl 10 (pc' := 12) (L' := [.val (.ref 6), .val (.ref 7), .val (.int (1 : Int32))]) (S' := [.int last, .int last]) (H' := ((own_H4 s in1 (0 : Int32) in2 (0 : Int32) in3 ps) ++ [(.inr .int, [.int in2, .int last]), (.inr .int, [.int in2, .int last, .int (0 : Int32), .int (0 : Int32)])])) rfl ?_
  have h2 : last = last := by rfl
  refine own_ks.br2 (mt := own_m6) rfl (cd := .ne) (t := 19) (b := false) (pc' := 15) rfl (teq h2).2 rfl ?_
  refine own_ks.go (mt := own_m6) rfl 2 (pc' := 20) (L' := [.val (.ref 6), .val (.ref 7), .val (.int (1 : Int32))]) (S' := [.int (1 : Int32)]) (H' := ((own_H4 s in1 (0 : Int32) in2 (0 : Int32) in3 ps) ++ [(.inr .int, [.int in2, .int last]), (.inr .int, [.int in2, .int last, .int (0 : Int32), .int (0 : Int32)])])) rfl ?_
  refine own_ks.back (mt := own_m6) rfl (ins := .ireturn) (t := 21) (v := some (.int (1 : Int32))) (S2 := [.int (1 : Int32)]) rfl rfl rfl ?_
  refine own_ks.go (mt := own_m0) rfl 4 (pc' := 294) (L' := [.val (.int shape), .val (.int in1), .val (.int in2), .val (.int in3), .val (.int last), .val (.int s), .val (.int (0 : Int32)), .val (.int (0 : Int32)), .val (.int (2 : Int32)), .val (.ref 0), .val (.ref 6), .val (.ref 7), .val (.int (1 : Int32))]) (S' := [.int (2 : Int32), .ref 7, .ref 6]) (H' := ((own_H4 s in1 (0 : Int32) in2 (0 : Int32) in3 ps) ++ [(.inr .int, [.int in2, .int last]), (.inr .int, [.int in2, .int last, .int (0 : Int32), .int (0 : Int32)])])) rfl ?_
  refine own_ks.into (mt := own_m0) (mj := own_m6) rfl (ins := .invokestatic 23) (t := 297) (j := 6) (as := [.ref 6, .ref 7, .int (2 : Int32)]) (r' := []) (L' := [.val (.ref 6), .val (.ref 7), .val (.int (2 : Int32))]) rfl rfl rfl rfl rfl rfl rfl rfl ?_
  refine own_ks.go (mt := own_m6) rfl 6 (pc' := 20) (L' := [.val (.ref 6), .val (.ref 7), .val (.int (2 : Int32))]) (S' := [.int (1 : Int32)]) (H' := ((own_H4 s in1 (0 : Int32) in2 (0 : Int32) in3 ps) ++ [(.inr .int, [.int in2, .int last]), (.inr .int, [.int in2, .int last, .int (0 : Int32), .int (0 : Int32)])])) rfl ?_
  refine own_ks.back (mt := own_m6) rfl (ins := .ireturn) (t := 21) (v := some (.int (1 : Int32))) (S2 := [.int (1 : Int32)]) rfl rfl rfl ?_
  refine own_ks.go (mt := own_m0) rfl 4 (pc' := 305) (L' := [.val (.int shape), .val (.int in1), .val (.int in2), .val (.int in3), .val (.int last), .val (.int s), .val (.int (0 : Int32)), .val (.int (0 : Int32)), .val (.int (2 : Int32)), .val (.ref 0), .val (.ref 6), .val (.ref 7), .val (.int (1 : Int32))]) (S' := [.int (3 : Int32), .ref 7, .ref 6]) (H' := ((own_H4 s in1 (0 : Int32) in2 (0 : Int32) in3 ps) ++ [(.inr .int, [.int in2, .int last]), (.inr .int, [.int in2, .int last, .int (0 : Int32), .int (0 : Int32)])])) rfl ?_
  refine own_ks.into (mt := own_m0) (mj := own_m6) rfl (ins := .invokestatic 23) (t := 308) (j := 6) (as := [.ref 6, .ref 7, .int (3 : Int32)]) (r' := []) (L' := [.val (.ref 6), .val (.ref 7), .val (.int (3 : Int32))]) rfl rfl rfl rfl rfl rfl rfl rfl ?_
  refine own_ks.go (mt := own_m6) rfl 6 (pc' := 20) (L' := [.val (.ref 6), .val (.ref 7), .val (.int (3 : Int32))]) (S' := [.int (1 : Int32)]) (H' := ((own_H4 s in1 (0 : Int32) in2 (0 : Int32) in3 ps) ++ [(.inr .int, [.int in2, .int last]), (.inr .int, [.int in2, .int last, .int (0 : Int32), .int (0 : Int32)])])) rfl ?_
  refine own_ks.back (mt := own_m6) rfl (ins := .ireturn) (t := 21) (v := some (.int (1 : Int32))) (S2 := [.int (1 : Int32)]) rfl rfl rfl ?_
  refine own_ks.go (mt := own_m0) rfl 3 (pc' := 316) (L' := [.val (.int shape), .val (.int in1), .val (.int in2), .val (.int in3), .val (.int last), .val (.int s), .val (.int (0 : Int32)), .val (.int (0 : Int32)), .val (.int (2 : Int32)), .val (.ref 0), .val (.ref 6), .val (.ref 7), .val (.int (1 : Int32))]) (S' := [.int (1 : Int32)]) (H' := ((own_H4 s in1 (0 : Int32) in2 (0 : Int32) in3 ps) ++ [(.inr .int, [.int in2, .int last]), (.inr .int, [.int in2, .int last, .int (0 : Int32), .int (0 : Int32)])])) rfl ?_
  exact own_ks.ret (mt := own_m0) rfl (ins := .ireturn) (t := 317) (v := some (.int (1 : Int32))) rfl rfl ⟨rfl, by simp [own_H4], by simp [own_H4, own_w, own_cw, own_sl_len, own_P, own_k0]⟩
set_option maxHeartbeats 4000000 in
theorem own_c_0_0_3 (shape in1 in2 in3 last s : Int32) (ps : List Nat) : own_ks own_P (own_end own_P.2.1 24 320) [] 0 6 160 84 [.val (.int shape), .val (.int in1), .val (.int in2), .val (.int in3), .val (.int last), .val (.int s), .val (.int (0 : Int32)), .val (.int (0 : Int32)), .val (.int (3 : Int32)), .val (.ref 0), .unset, .unset, .unset] [] (own_H4 s in1 (0 : Int32) in2 (0 : Int32) in3 ps) := by
  refine own_ks.go (mt := own_m0) rfl 3 (pc' := 90) (L' := [.val (.int shape), .val (.int in1), .val (.int in2), .val (.int in3), .val (.int last), .val (.int s), .val (.int (0 : Int32)), .val (.int (0 : Int32)), .val (.int (3 : Int32)), .val (.ref 0), .unset, .unset, .unset]) (S' := [.int last, .int (3 : Int32), .ref 0]) (H' := (own_H4 s in1 (0 : Int32) in2 (0 : Int32) in3 ps)) rfl ?_
  refine own_ks.into (mt := own_m0) (mj := own_m5) rfl (ins := .invokevirtual 19) (t := 93) (j := 5) (as := [.ref 0, .int (3 : Int32), .int last]) (r' := []) (L' := [.val (.ref 0), .val (.int (3 : Int32)), .val (.int last), .unset, .unset, .unset, .unset]) rfl rfl rfl rfl rfl rfl rfl rfl ?_
  refine own_ks.go (mt := own_m5) rfl 24 (pc' := 32) (L' := [.val (.ref 0), .val (.int (3 : Int32)), .val (.int last), .val (.int (2 : Int32)), .val (.int (0 : Int32)), .unset, .unset]) (S' := [.int (2 : Int32)]) (H' := (own_H4 s in1 (0 : Int32) in2 (0 : Int32) in3 ps)) rfl ?_
  refine own_ks.go (mt := own_m5) rfl 24 (pc' := 69) (L' := [.val (.ref 0), .val (.int (3 : Int32)), .val (.int last), .val (.int (2 : Int32)), .val (.ref 6), .val (.int (3 : Int32)), .val (.int (0 : Int32))]) (S' := [.ref 0]) (H' := ((own_H4 s in1 (0 : Int32) in2 (0 : Int32) in3 ps) ++ [(.inr .int, [.int in3, .int last])])) rfl ?_
  refine own_ks.go (mt := own_m5) rfl 9 (pc' := 85) (L' := [.val (.ref 0), .val (.int (3 : Int32)), .val (.int last), .val (.int (2 : Int32)), .val (.ref 6), .val (.int (0 : Int32)), .val (.int (-1 : Int32))]) (S' := [.ref 6]) (H' := ((own_H4 s in1 (0 : Int32) in2 (0 : Int32) in3 ps) ++ [(.inr .int, [.int in3, .int last])])) rfl ?_
  refine own_ks.back (mt := own_m5) rfl (ins := .areturn) (t := 86) (v := some (.ref 6)) (S2 := [.ref 6]) rfl rfl rfl ?_
  refine own_ks.go (mt := own_m0) rfl 24 (pc' := 249) (L' := [.val (.int shape), .val (.int in1), .val (.int in2), .val (.int in3), .val (.int last), .val (.int s), .val (.int (0 : Int32)), .val (.int (0 : Int32)), .val (.int (3 : Int32)), .val (.ref 0), .val (.ref 6), .val (.ref 7), .val (.int (1 : Int32))]) (S' := [.int last, .int (1 : Int32), .ref 7]) (H' := ((own_H4 s in1 (0 : Int32) in2 (0 : Int32) in3 ps) ++ [(.inr .int, [.int in3, .int last]), (.inr .int, [.int in3, .int (0 : Int32), .int (0 : Int32), .int (0 : Int32)])])) rfl ?_
  refine own_ks.go (mt := own_m0) rfl 12 (pc' := 272) (L' := [.val (.int shape), .val (.int in1), .val (.int in2), .val (.int in3), .val (.int last), .val (.int s), .val (.int (0 : Int32)), .val (.int (0 : Int32)), .val (.int (3 : Int32)), .val (.ref 0), .val (.ref 6), .val (.ref 7), .val (.int (1 : Int32))]) (S' := [.int (0 : Int32), .ref 7, .ref 6]) (H' := ((own_H4 s in1 (0 : Int32) in2 (0 : Int32) in3 ps) ++ [(.inr .int, [.int in3, .int last]), (.inr .int, [.int in3, .int last, .int (0 : Int32), .int (0 : Int32)])])) rfl ?_
  refine own_ks.into (mt := own_m0) (mj := own_m6) rfl (ins := .invokestatic 23) (t := 275) (j := 6) (as := [.ref 6, .ref 7, .int (0 : Int32)]) (r' := []) (L' := [.val (.ref 6), .val (.ref 7), .val (.int (0 : Int32))]) rfl rfl rfl rfl rfl rfl rfl rfl ?_
  refine own_ks.go (mt := own_m6) rfl 10 (pc' := 12) (L' := [.val (.ref 6), .val (.ref 7), .val (.int (0 : Int32))]) (S' := [.int in3, .int in3]) (H' := ((own_H4 s in1 (0 : Int32) in2 (0 : Int32) in3 ps) ++ [(.inr .int, [.int in3, .int last]), (.inr .int, [.int in3, .int last, .int (0 : Int32), .int (0 : Int32)])])) rfl ?_
  have h1 : in3 = in3 := by rfl
  refine own_ks.br2 (mt := own_m6) rfl (cd := .ne) (t := 19) (b := false) (pc' := 15) rfl (teq h1).2 rfl ?_
  refine own_ks.go (mt := own_m6) rfl 2 (pc' := 20) (L' := [.val (.ref 6), .val (.ref 7), .val (.int (0 : Int32))]) (S' := [.int (1 : Int32)]) (H' := ((own_H4 s in1 (0 : Int32) in2 (0 : Int32) in3 ps) ++ [(.inr .int, [.int in3, .int last]), (.inr .int, [.int in3, .int last, .int (0 : Int32), .int (0 : Int32)])])) rfl ?_
  refine own_ks.back (mt := own_m6) rfl (ins := .ireturn) (t := 21) (v := some (.int (1 : Int32))) (S2 := [.int (1 : Int32)]) rfl rfl rfl ?_
  refine own_ks.go (mt := own_m0) rfl 4 (pc' := 283) (L' := [.val (.int shape), .val (.int in1), .val (.int in2), .val (.int in3), .val (.int last), .val (.int s), .val (.int (0 : Int32)), .val (.int (0 : Int32)), .val (.int (3 : Int32)), .val (.ref 0), .val (.ref 6), .val (.ref 7), .val (.int (1 : Int32))]) (S' := [.int (1 : Int32), .ref 7, .ref 6]) (H' := ((own_H4 s in1 (0 : Int32) in2 (0 : Int32) in3 ps) ++ [(.inr .int, [.int in3, .int last]), (.inr .int, [.int in3, .int last, .int (0 : Int32), .int (0 : Int32)])])) rfl ?_
  refine own_ks.into (mt := own_m0) (mj := own_m6) rfl (ins := .invokestatic 23) (t := 286) (j := 6) (as := [.ref 6, .ref 7, .int (1 : Int32)]) (r' := []) (L' := [.val (.ref 6), .val (.ref 7), .val (.int (1 : Int32))]) rfl rfl rfl rfl rfl rfl rfl rfl ?_
  refine own_ks.go (mt := own_m6) rfl 10 (pc' := 12) (L' := [.val (.ref 6), .val (.ref 7), .val (.int (1 : Int32))]) (S' := [.int last, .int last]) (H' := ((own_H4 s in1 (0 : Int32) in2 (0 : Int32) in3 ps) ++ [(.inr .int, [.int in3, .int last]), (.inr .int, [.int in3, .int last, .int (0 : Int32), .int (0 : Int32)])])) rfl ?_
  have h2 : last = last := by rfl
  refine own_ks.br2 (mt := own_m6) rfl (cd := .ne) (t := 19) (b := false) (pc' := 15) rfl (teq h2).2 rfl ?_
  refine own_ks.go (mt := own_m6) rfl 2 (pc' := 20) (L' := [.val (.ref 6), .val (.ref 7), .val (.int (1 : Int32))]) (S' := [.int (1 : Int32)]) (H' := ((own_H4 s in1 (0 : Int32) in2 (0 : Int32) in3 ps) ++ [(.inr .int, [.int in3, .int last]), (.inr .int, [.int in3, .int last, .int (0 : Int32), .int (0 : Int32)])])) rfl ?_
  refine own_ks.back (mt := own_m6) rfl (ins := .ireturn) (t := 21) (v := some (.int (1 : Int32))) (S2 := [.int (1 : Int32)]) rfl rfl rfl ?_
  refine own_ks.go (mt := own_m0) rfl 4 (pc' := 294) (L' := [.val (.int shape), .val (.int in1), .val (.int in2), .val (.int in3), .val (.int last), .val (.int s), .val (.int (0 : Int32)), .val (.int (0 : Int32)), .val (.int (3 : Int32)), .val (.ref 0), .val (.ref 6), .val (.ref 7), .val (.int (1 : Int32))]) (S' := [.int (2 : Int32), .ref 7, .ref 6]) (H' := ((own_H4 s in1 (0 : Int32) in2 (0 : Int32) in3 ps) ++ [(.inr .int, [.int in3, .int last]), (.inr .int, [.int in3, .int last, .int (0 : Int32), .int (0 : Int32)])])) rfl ?_
  refine own_ks.into (mt := own_m0) (mj := own_m6) rfl (ins := .invokestatic 23) (t := 297) (j := 6) (as := [.ref 6, .ref 7, .int (2 : Int32)]) (r' := []) (L' := [.val (.ref 6), .val (.ref 7), .val (.int (2 : Int32))]) rfl rfl rfl rfl rfl rfl rfl rfl ?_
  refine own_ks.go (mt := own_m6) rfl 6 (pc' := 20) (L' := [.val (.ref 6), .val (.ref 7), .val (.int (2 : Int32))]) (S' := [.int (1 : Int32)]) (H' := ((own_H4 s in1 (0 : Int32) in2 (0 : Int32) in3 ps) ++ [(.inr .int, [.int in3, .int last]), (.inr .int, [.int in3, .int last, .int (0 : Int32), .int (0 : Int32)])])) rfl ?_
  refine own_ks.back (mt := own_m6) rfl (ins := .ireturn) (t := 21) (v := some (.int (1 : Int32))) (S2 := [.int (1 : Int32)]) rfl rfl rfl ?_
  refine own_ks.go (mt := own_m0) rfl 4 (pc' := 305) (L' := [.val (.int shape), .val (.int in1), .val (.int in2), .val (.int in3), .val (.int last), .val (.int s), .val (.int (0 : Int32)), .val (.int (0 : Int32)), .val (.int (3 : Int32)), .val (.ref 0), .val (.ref 6), .val (.ref 7), .val (.int (1 : Int32))]) (S' := [.int (3 : Int32), .ref 7, .ref 6]) (H' := ((own_H4 s in1 (0 : Int32) in2 (0 : Int32) in3 ps) ++ [(.inr .int, [.int in3, .int last]), (.inr .int, [.int in3, .int last, .int (0 : Int32), .int (0 : Int32)])])) rfl ?_
  refine own_ks.into (mt := own_m0) (mj := own_m6) rfl (ins := .invokestatic 23) (t := 308) (j := 6) (as := [.ref 6, .ref 7, .int (3 : Int32)]) (r' := []) (L' := [.val (.ref 6), .val (.ref 7), .val (.int (3 : Int32))]) rfl rfl rfl rfl rfl rfl rfl rfl ?_
  refine own_ks.go (mt := own_m6) rfl 6 (pc' := 20) (L' := [.val (.ref 6), .val (.ref 7), .val (.int (3 : Int32))]) (S' := [.int (1 : Int32)]) (H' := ((own_H4 s in1 (0 : Int32) in2 (0 : Int32) in3 ps) ++ [(.inr .int, [.int in3, .int last]), (.inr .int, [.int in3, .int last, .int (0 : Int32), .int (0 : Int32)])])) rfl ?_
  refine own_ks.back (mt := own_m6) rfl (ins := .ireturn) (t := 21) (v := some (.int (1 : Int32))) (S2 := [.int (1 : Int32)]) rfl rfl rfl ?_
  refine own_ks.go (mt := own_m0) rfl 3 (pc' := 316) (L' := [.val (.int shape), .val (.int in1), .val (.int in2), .val (.int in3), .val (.int last), .val (.int s), .val (.int (0 : Int32)), .val (.int (0 : Int32)), .val (.int (3 : Int32)), .val (.ref 0), .val (.ref 6), .val (.ref 7), .val (.int (1 : Int32))]) (S' := [.int (1 : Int32)]) (H' := ((own_H4 s in1 (0 : Int32) in2 (0 : Int32) in3 ps) ++ [(.inr .int, [.int in3, .int last]), (.inr .int, [.int in3, .int last, .int (0 : Int32), .int (0 : Int32)])])) rfl ?_
  exact own_ks.ret (mt := own_m0) rfl (ins := .ireturn) (t := 317) (v := some (.int (1 : Int32))) rfl rfl ⟨rfl, by simp [own_H4], by simp [own_H4, own_w, own_cw, own_sl_len, own_P, own_k0]⟩
set_option maxHeartbeats 4000000 in
theorem own_c_0_1_0 (shape in1 in2 in3 last s : Int32) (ps : List Nat) : own_ks own_P (own_end own_P.2.1 24 320) [] 0 6 160 84 [.val (.int shape), .val (.int in1), .val (.int in2), .val (.int in3), .val (.int last), .val (.int s), .val (.int (0 : Int32)), .val (.int (1 : Int32)), .val (.int (0 : Int32)), .val (.ref 0), .unset, .unset, .unset] [] (own_H4 s in1 (0 : Int32) in2 (1 : Int32) in3 ps) := by
  refine own_ks.go (mt := own_m0) rfl 3 (pc' := 90) (L' := [.val (.int shape), .val (.int in1), .val (.int in2), .val (.int in3), .val (.int last), .val (.int s), .val (.int (0 : Int32)), .val (.int (1 : Int32)), .val (.int (0 : Int32)), .val (.ref 0), .unset, .unset, .unset]) (S' := [.int last, .int (0 : Int32), .ref 0]) (H' := (own_H4 s in1 (0 : Int32) in2 (1 : Int32) in3 ps)) rfl ?_
  refine own_ks.into (mt := own_m0) (mj := own_m5) rfl (ins := .invokevirtual 19) (t := 93) (j := 5) (as := [.ref 0, .int (0 : Int32), .int last]) (r' := []) (L' := [.val (.ref 0), .val (.int (0 : Int32)), .val (.int last), .unset, .unset, .unset, .unset]) rfl rfl rfl rfl rfl rfl rfl rfl ?_
  refine own_ks.go (mt := own_m5) rfl 24 (pc' := 49) (L' := [.val (.ref 0), .val (.int (0 : Int32)), .val (.int last), .val (.int (1 : Int32)), .val (.ref 6), .val (.int (0 : Int32)), .unset]) (S' := [.int (-1 : Int32)]) (H' := ((own_H4 s in1 (0 : Int32) in2 (1 : Int32) in3 ps) ++ [(.inr .int, [.int last])])) rfl ?_
  refine own_ks.go (mt := own_m5) rfl 4 (pc' := 85) (L' := [.val (.ref 0), .val (.int (0 : Int32)), .val (.int last), .val (.int (1 : Int32)), .val (.ref 6), .val (.int (0 : Int32)), .val (.int (-1 : Int32))]) (S' := [.ref 6]) (H' := ((own_H4 s in1 (0 : Int32) in2 (1 : Int32) in3 ps) ++ [(.inr .int, [.int last])])) rfl ?_
  refine own_ks.back (mt := own_m5) rfl (ins := .areturn) (t := 86) (v := some (.ref 6)) (S2 := [.ref 6]) rfl rfl rfl ?_
  refine own_ks.go (mt := own_m0) rfl 24 (pc' := 272) (L' := [.val (.int shape), .val (.int in1), .val (.int in2), .val (.int in3), .val (.int last), .val (.int s), .val (.int (0 : Int32)), .val (.int (1 : Int32)), .val (.int (0 : Int32)), .val (.ref 0), .val (.ref 6), .val (.ref 7), .val (.int (0 : Int32))]) (S' := [.int (0 : Int32), .ref 7, .ref 6]) (H' := ((own_H4 s in1 (0 : Int32) in2 (1 : Int32) in3 ps) ++ [(.inr .int, [.int last]), (.inr .int, [.int last, .int (0 : Int32), .int (0 : Int32), .int (0 : Int32)])])) rfl ?_
  refine own_ks.into (mt := own_m0) (mj := own_m6) rfl (ins := .invokestatic 23) (t := 275) (j := 6) (as := [.ref 6, .ref 7, .int (0 : Int32)]) (r' := []) (L' := [.val (.ref 6), .val (.ref 7), .val (.int (0 : Int32))]) rfl rfl rfl rfl rfl rfl rfl rfl ?_
  refine own_ks.go (mt := own_m6) rfl 10 (pc' := 12) (L' := [.val (.ref 6), .val (.ref 7), .val (.int (0 : Int32))]) (S' := [.int last, .int last]) (H' := ((own_H4 s in1 (0 : Int32) in2 (1 : Int32) in3 ps) ++ [(.inr .int, [.int last]), (.inr .int, [.int last, .int (0 : Int32), .int (0 : Int32), .int (0 : Int32)])])) rfl ?_
  have h1 : last = last := by rfl
  refine own_ks.br2 (mt := own_m6) rfl (cd := .ne) (t := 19) (b := false) (pc' := 15) rfl (teq h1).2 rfl ?_
  refine own_ks.go (mt := own_m6) rfl 2 (pc' := 20) (L' := [.val (.ref 6), .val (.ref 7), .val (.int (0 : Int32))]) (S' := [.int (1 : Int32)]) (H' := ((own_H4 s in1 (0 : Int32) in2 (1 : Int32) in3 ps) ++ [(.inr .int, [.int last]), (.inr .int, [.int last, .int (0 : Int32), .int (0 : Int32), .int (0 : Int32)])])) rfl ?_
  refine own_ks.back (mt := own_m6) rfl (ins := .ireturn) (t := 21) (v := some (.int (1 : Int32))) (S2 := [.int (1 : Int32)]) rfl rfl rfl ?_
  refine own_ks.go (mt := own_m0) rfl 4 (pc' := 283) (L' := [.val (.int shape), .val (.int in1), .val (.int in2), .val (.int in3), .val (.int last), .val (.int s), .val (.int (0 : Int32)), .val (.int (1 : Int32)), .val (.int (0 : Int32)), .val (.ref 0), .val (.ref 6), .val (.ref 7), .val (.int (0 : Int32))]) (S' := [.int (1 : Int32), .ref 7, .ref 6]) (H' := ((own_H4 s in1 (0 : Int32) in2 (1 : Int32) in3 ps) ++ [(.inr .int, [.int last]), (.inr .int, [.int last, .int (0 : Int32), .int (0 : Int32), .int (0 : Int32)])])) rfl ?_
  refine own_ks.into (mt := own_m0) (mj := own_m6) rfl (ins := .invokestatic 23) (t := 286) (j := 6) (as := [.ref 6, .ref 7, .int (1 : Int32)]) (r' := []) (L' := [.val (.ref 6), .val (.ref 7), .val (.int (1 : Int32))]) rfl rfl rfl rfl rfl rfl rfl rfl ?_
  refine own_ks.go (mt := own_m6) rfl 6 (pc' := 20) (L' := [.val (.ref 6), .val (.ref 7), .val (.int (1 : Int32))]) (S' := [.int (1 : Int32)]) (H' := ((own_H4 s in1 (0 : Int32) in2 (1 : Int32) in3 ps) ++ [(.inr .int, [.int last]), (.inr .int, [.int last, .int (0 : Int32), .int (0 : Int32), .int (0 : Int32)])])) rfl ?_
  refine own_ks.back (mt := own_m6) rfl (ins := .ireturn) (t := 21) (v := some (.int (1 : Int32))) (S2 := [.int (1 : Int32)]) rfl rfl rfl ?_
  refine own_ks.go (mt := own_m0) rfl 4 (pc' := 294) (L' := [.val (.int shape), .val (.int in1), .val (.int in2), .val (.int in3), .val (.int last), .val (.int s), .val (.int (0 : Int32)), .val (.int (1 : Int32)), .val (.int (0 : Int32)), .val (.ref 0), .val (.ref 6), .val (.ref 7), .val (.int (0 : Int32))]) (S' := [.int (2 : Int32), .ref 7, .ref 6]) (H' := ((own_H4 s in1 (0 : Int32) in2 (1 : Int32) in3 ps) ++ [(.inr .int, [.int last]), (.inr .int, [.int last, .int (0 : Int32), .int (0 : Int32), .int (0 : Int32)])])) rfl ?_
  refine own_ks.into (mt := own_m0) (mj := own_m6) rfl (ins := .invokestatic 23) (t := 297) (j := 6) (as := [.ref 6, .ref 7, .int (2 : Int32)]) (r' := []) (L' := [.val (.ref 6), .val (.ref 7), .val (.int (2 : Int32))]) rfl rfl rfl rfl rfl rfl rfl rfl ?_
  refine own_ks.go (mt := own_m6) rfl 6 (pc' := 20) (L' := [.val (.ref 6), .val (.ref 7), .val (.int (2 : Int32))]) (S' := [.int (1 : Int32)]) (H' := ((own_H4 s in1 (0 : Int32) in2 (1 : Int32) in3 ps) ++ [(.inr .int, [.int last]), (.inr .int, [.int last, .int (0 : Int32), .int (0 : Int32), .int (0 : Int32)])])) rfl ?_
  refine own_ks.back (mt := own_m6) rfl (ins := .ireturn) (t := 21) (v := some (.int (1 : Int32))) (S2 := [.int (1 : Int32)]) rfl rfl rfl ?_
  refine own_ks.go (mt := own_m0) rfl 4 (pc' := 305) (L' := [.val (.int shape), .val (.int in1), .val (.int in2), .val (.int in3), .val (.int last), .val (.int s), .val (.int (0 : Int32)), .val (.int (1 : Int32)), .val (.int (0 : Int32)), .val (.ref 0), .val (.ref 6), .val (.ref 7), .val (.int (0 : Int32))]) (S' := [.int (3 : Int32), .ref 7, .ref 6]) (H' := ((own_H4 s in1 (0 : Int32) in2 (1 : Int32) in3 ps) ++ [(.inr .int, [.int last]), (.inr .int, [.int last, .int (0 : Int32), .int (0 : Int32), .int (0 : Int32)])])) rfl ?_
  refine own_ks.into (mt := own_m0) (mj := own_m6) rfl (ins := .invokestatic 23) (t := 308) (j := 6) (as := [.ref 6, .ref 7, .int (3 : Int32)]) (r' := []) (L' := [.val (.ref 6), .val (.ref 7), .val (.int (3 : Int32))]) rfl rfl rfl rfl rfl rfl rfl rfl ?_
  refine own_ks.go (mt := own_m6) rfl 6 (pc' := 20) (L' := [.val (.ref 6), .val (.ref 7), .val (.int (3 : Int32))]) (S' := [.int (1 : Int32)]) (H' := ((own_H4 s in1 (0 : Int32) in2 (1 : Int32) in3 ps) ++ [(.inr .int, [.int last]), (.inr .int, [.int last, .int (0 : Int32), .int (0 : Int32), .int (0 : Int32)])])) rfl ?_
  refine own_ks.back (mt := own_m6) rfl (ins := .ireturn) (t := 21) (v := some (.int (1 : Int32))) (S2 := [.int (1 : Int32)]) rfl rfl rfl ?_
  refine own_ks.go (mt := own_m0) rfl 3 (pc' := 316) (L' := [.val (.int shape), .val (.int in1), .val (.int in2), .val (.int in3), .val (.int last), .val (.int s), .val (.int (0 : Int32)), .val (.int (1 : Int32)), .val (.int (0 : Int32)), .val (.ref 0), .val (.ref 6), .val (.ref 7), .val (.int (0 : Int32))]) (S' := [.int (1 : Int32)]) (H' := ((own_H4 s in1 (0 : Int32) in2 (1 : Int32) in3 ps) ++ [(.inr .int, [.int last]), (.inr .int, [.int last, .int (0 : Int32), .int (0 : Int32), .int (0 : Int32)])])) rfl ?_
  exact own_ks.ret (mt := own_m0) rfl (ins := .ireturn) (t := 317) (v := some (.int (1 : Int32))) rfl rfl ⟨rfl, by simp [own_H4], by simp [own_H4, own_w, own_cw, own_sl_len, own_P, own_k0]⟩
set_option maxHeartbeats 4000000 in
theorem own_c_0_1_1 (shape in1 in2 in3 last s : Int32) (ps : List Nat) : own_ks own_P (own_end own_P.2.1 24 320) [] 0 6 160 84 [.val (.int shape), .val (.int in1), .val (.int in2), .val (.int in3), .val (.int last), .val (.int s), .val (.int (0 : Int32)), .val (.int (1 : Int32)), .val (.int (1 : Int32)), .val (.ref 0), .unset, .unset, .unset] [] (own_H4 s in1 (0 : Int32) in2 (1 : Int32) in3 ps) := by
  refine own_ks.go (mt := own_m0) rfl 3 (pc' := 90) (L' := [.val (.int shape), .val (.int in1), .val (.int in2), .val (.int in3), .val (.int last), .val (.int s), .val (.int (0 : Int32)), .val (.int (1 : Int32)), .val (.int (1 : Int32)), .val (.ref 0), .unset, .unset, .unset]) (S' := [.int last, .int (1 : Int32), .ref 0]) (H' := (own_H4 s in1 (0 : Int32) in2 (1 : Int32) in3 ps)) rfl ?_
  refine own_ks.into (mt := own_m0) (mj := own_m5) rfl (ins := .invokevirtual 19) (t := 93) (j := 5) (as := [.ref 0, .int (1 : Int32), .int last]) (r' := []) (L' := [.val (.ref 0), .val (.int (1 : Int32)), .val (.int last), .unset, .unset, .unset, .unset]) rfl rfl rfl rfl rfl rfl rfl rfl ?_
  refine own_ks.go (mt := own_m5) rfl 24 (pc' := 32) (L' := [.val (.ref 0), .val (.int (1 : Int32)), .val (.int last), .val (.int (2 : Int32)), .val (.int (0 : Int32)), .unset, .unset]) (S' := [.int (2 : Int32)]) (H' := (own_H4 s in1 (0 : Int32) in2 (1 : Int32) in3 ps)) rfl ?_
  refine own_ks.go (mt := own_m5) rfl 24 (pc' := 69) (L' := [.val (.ref 0), .val (.int (1 : Int32)), .val (.int last), .val (.int (2 : Int32)), .val (.ref 6), .val (.int (1 : Int32)), .val (.int (0 : Int32))]) (S' := [.ref 0]) (H' := ((own_H4 s in1 (0 : Int32) in2 (1 : Int32) in3 ps) ++ [(.inr .int, [.int in1, .int last])])) rfl ?_
  refine own_ks.go (mt := own_m5) rfl 9 (pc' := 85) (L' := [.val (.ref 0), .val (.int (1 : Int32)), .val (.int last), .val (.int (2 : Int32)), .val (.ref 6), .val (.int (0 : Int32)), .val (.int (-1 : Int32))]) (S' := [.ref 6]) (H' := ((own_H4 s in1 (0 : Int32) in2 (1 : Int32) in3 ps) ++ [(.inr .int, [.int in1, .int last])])) rfl ?_
  refine own_ks.back (mt := own_m5) rfl (ins := .areturn) (t := 86) (v := some (.ref 6)) (S2 := [.ref 6]) rfl rfl rfl ?_
  refine own_ks.go (mt := own_m0) rfl 24 (pc' := 258) (L' := [.val (.int shape), .val (.int in1), .val (.int in2), .val (.int in3), .val (.int last), .val (.int s), .val (.int (0 : Int32)), .val (.int (1 : Int32)), .val (.int (1 : Int32)), .val (.ref 0), .val (.ref 6), .val (.ref 7), .val (.int (1 : Int32))]) (S' := [.int (2 : Int32)]) (H' := ((own_H4 s in1 (0 : Int32) in2 (1 : Int32) in3 ps) ++ [(.inr .int, [.int in1, .int last]), (.inr .int, [.int in1, .int last, .int (0 : Int32), .int (0 : Int32)])])) rfl ?_
  refine own_ks.go (mt := own_m0) rfl 7 (pc' := 272) (L' := [.val (.int shape), .val (.int in1), .val (.int in2), .val (.int in3), .val (.int last), .val (.int s), .val (.int (0 : Int32)), .val (.int (1 : Int32)), .val (.int (1 : Int32)), .val (.ref 0), .val (.ref 6), .val (.ref 7), .val (.int (1 : Int32))]) (S' := [.int (0 : Int32), .ref 7, .ref 6]) (H' := ((own_H4 s in1 (0 : Int32) in2 (1 : Int32) in3 ps) ++ [(.inr .int, [.int in1, .int last]), (.inr .int, [.int in1, .int last, .int (0 : Int32), .int (0 : Int32)])])) rfl ?_
  refine own_ks.into (mt := own_m0) (mj := own_m6) rfl (ins := .invokestatic 23) (t := 275) (j := 6) (as := [.ref 6, .ref 7, .int (0 : Int32)]) (r' := []) (L' := [.val (.ref 6), .val (.ref 7), .val (.int (0 : Int32))]) rfl rfl rfl rfl rfl rfl rfl rfl ?_
  refine own_ks.go (mt := own_m6) rfl 10 (pc' := 12) (L' := [.val (.ref 6), .val (.ref 7), .val (.int (0 : Int32))]) (S' := [.int in1, .int in1]) (H' := ((own_H4 s in1 (0 : Int32) in2 (1 : Int32) in3 ps) ++ [(.inr .int, [.int in1, .int last]), (.inr .int, [.int in1, .int last, .int (0 : Int32), .int (0 : Int32)])])) rfl ?_
  have h1 : in1 = in1 := by rfl
  refine own_ks.br2 (mt := own_m6) rfl (cd := .ne) (t := 19) (b := false) (pc' := 15) rfl (teq h1).2 rfl ?_
  refine own_ks.go (mt := own_m6) rfl 2 (pc' := 20) (L' := [.val (.ref 6), .val (.ref 7), .val (.int (0 : Int32))]) (S' := [.int (1 : Int32)]) (H' := ((own_H4 s in1 (0 : Int32) in2 (1 : Int32) in3 ps) ++ [(.inr .int, [.int in1, .int last]), (.inr .int, [.int in1, .int last, .int (0 : Int32), .int (0 : Int32)])])) rfl ?_
  refine own_ks.back (mt := own_m6) rfl (ins := .ireturn) (t := 21) (v := some (.int (1 : Int32))) (S2 := [.int (1 : Int32)]) rfl rfl rfl ?_
  refine own_ks.go (mt := own_m0) rfl 4 (pc' := 283) (L' := [.val (.int shape), .val (.int in1), .val (.int in2), .val (.int in3), .val (.int last), .val (.int s), .val (.int (0 : Int32)), .val (.int (1 : Int32)), .val (.int (1 : Int32)), .val (.ref 0), .val (.ref 6), .val (.ref 7), .val (.int (1 : Int32))]) (S' := [.int (1 : Int32), .ref 7, .ref 6]) (H' := ((own_H4 s in1 (0 : Int32) in2 (1 : Int32) in3 ps) ++ [(.inr .int, [.int in1, .int last]), (.inr .int, [.int in1, .int last, .int (0 : Int32), .int (0 : Int32)])])) rfl ?_
  refine own_ks.into (mt := own_m0) (mj := own_m6) rfl (ins := .invokestatic 23) (t := 286) (j := 6) (as := [.ref 6, .ref 7, .int (1 : Int32)]) (r' := []) (L' := [.val (.ref 6), .val (.ref 7), .val (.int (1 : Int32))]) rfl rfl rfl rfl rfl rfl rfl rfl ?_
  refine own_ks.go (mt := own_m6) rfl 10 (pc' := 12) (L' := [.val (.ref 6), .val (.ref 7), .val (.int (1 : Int32))]) (S' := [.int last, .int last]) (H' := ((own_H4 s in1 (0 : Int32) in2 (1 : Int32) in3 ps) ++ [(.inr .int, [.int in1, .int last]), (.inr .int, [.int in1, .int last, .int (0 : Int32), .int (0 : Int32)])])) rfl ?_
  have h2 : last = last := by rfl
  refine own_ks.br2 (mt := own_m6) rfl (cd := .ne) (t := 19) (b := false) (pc' := 15) rfl (teq h2).2 rfl ?_
  refine own_ks.go (mt := own_m6) rfl 2 (pc' := 20) (L' := [.val (.ref 6), .val (.ref 7), .val (.int (1 : Int32))]) (S' := [.int (1 : Int32)]) (H' := ((own_H4 s in1 (0 : Int32) in2 (1 : Int32) in3 ps) ++ [(.inr .int, [.int in1, .int last]), (.inr .int, [.int in1, .int last, .int (0 : Int32), .int (0 : Int32)])])) rfl ?_
  refine own_ks.back (mt := own_m6) rfl (ins := .ireturn) (t := 21) (v := some (.int (1 : Int32))) (S2 := [.int (1 : Int32)]) rfl rfl rfl ?_
  refine own_ks.go (mt := own_m0) rfl 4 (pc' := 294) (L' := [.val (.int shape), .val (.int in1), .val (.int in2), .val (.int in3), .val (.int last), .val (.int s), .val (.int (0 : Int32)), .val (.int (1 : Int32)), .val (.int (1 : Int32)), .val (.ref 0), .val (.ref 6), .val (.ref 7), .val (.int (1 : Int32))]) (S' := [.int (2 : Int32), .ref 7, .ref 6]) (H' := ((own_H4 s in1 (0 : Int32) in2 (1 : Int32) in3 ps) ++ [(.inr .int, [.int in1, .int last]), (.inr .int, [.int in1, .int last, .int (0 : Int32), .int (0 : Int32)])])) rfl ?_
  refine own_ks.into (mt := own_m0) (mj := own_m6) rfl (ins := .invokestatic 23) (t := 297) (j := 6) (as := [.ref 6, .ref 7, .int (2 : Int32)]) (r' := []) (L' := [.val (.ref 6), .val (.ref 7), .val (.int (2 : Int32))]) rfl rfl rfl rfl rfl rfl rfl rfl ?_
  refine own_ks.go (mt := own_m6) rfl 6 (pc' := 20) (L' := [.val (.ref 6), .val (.ref 7), .val (.int (2 : Int32))]) (S' := [.int (1 : Int32)]) (H' := ((own_H4 s in1 (0 : Int32) in2 (1 : Int32) in3 ps) ++ [(.inr .int, [.int in1, .int last]), (.inr .int, [.int in1, .int last, .int (0 : Int32), .int (0 : Int32)])])) rfl ?_
  refine own_ks.back (mt := own_m6) rfl (ins := .ireturn) (t := 21) (v := some (.int (1 : Int32))) (S2 := [.int (1 : Int32)]) rfl rfl rfl ?_
  refine own_ks.go (mt := own_m0) rfl 4 (pc' := 305) (L' := [.val (.int shape), .val (.int in1), .val (.int in2), .val (.int in3), .val (.int last), .val (.int s), .val (.int (0 : Int32)), .val (.int (1 : Int32)), .val (.int (1 : Int32)), .val (.ref 0), .val (.ref 6), .val (.ref 7), .val (.int (1 : Int32))]) (S' := [.int (3 : Int32), .ref 7, .ref 6]) (H' := ((own_H4 s in1 (0 : Int32) in2 (1 : Int32) in3 ps) ++ [(.inr .int, [.int in1, .int last]), (.inr .int, [.int in1, .int last, .int (0 : Int32), .int (0 : Int32)])])) rfl ?_
  refine own_ks.into (mt := own_m0) (mj := own_m6) rfl (ins := .invokestatic 23) (t := 308) (j := 6) (as := [.ref 6, .ref 7, .int (3 : Int32)]) (r' := []) (L' := [.val (.ref 6), .val (.ref 7), .val (.int (3 : Int32))]) rfl rfl rfl rfl rfl rfl rfl rfl ?_
  refine own_ks.go (mt := own_m6) rfl 6 (pc' := 20) (L' := [.val (.ref 6), .val (.ref 7), .val (.int (3 : Int32))]) (S' := [.int (1 : Int32)]) (H' := ((own_H4 s in1 (0 : Int32) in2 (1 : Int32) in3 ps) ++ [(.inr .int, [.int in1, .int last]), (.inr .int, [.int in1, .int last, .int (0 : Int32), .int (0 : Int32)])])) rfl ?_
  refine own_ks.back (mt := own_m6) rfl (ins := .ireturn) (t := 21) (v := some (.int (1 : Int32))) (S2 := [.int (1 : Int32)]) rfl rfl rfl ?_
  refine own_ks.go (mt := own_m0) rfl 3 (pc' := 316) (L' := [.val (.int shape), .val (.int in1), .val (.int in2), .val (.int in3), .val (.int last), .val (.int s), .val (.int (0 : Int32)), .val (.int (1 : Int32)), .val (.int (1 : Int32)), .val (.ref 0), .val (.ref 6), .val (.ref 7), .val (.int (1 : Int32))]) (S' := [.int (1 : Int32)]) (H' := ((own_H4 s in1 (0 : Int32) in2 (1 : Int32) in3 ps) ++ [(.inr .int, [.int in1, .int last]), (.inr .int, [.int in1, .int last, .int (0 : Int32), .int (0 : Int32)])])) rfl ?_
  exact own_ks.ret (mt := own_m0) rfl (ins := .ireturn) (t := 317) (v := some (.int (1 : Int32))) rfl rfl ⟨rfl, by simp [own_H4], by simp [own_H4, own_w, own_cw, own_sl_len, own_P, own_k0]⟩
set_option maxHeartbeats 4000000 in
theorem own_c_0_1_2 (shape in1 in2 in3 last s : Int32) (ps : List Nat) : own_ks own_P (own_end own_P.2.1 24 320) [] 0 6 160 84 [.val (.int shape), .val (.int in1), .val (.int in2), .val (.int in3), .val (.int last), .val (.int s), .val (.int (0 : Int32)), .val (.int (1 : Int32)), .val (.int (2 : Int32)), .val (.ref 0), .unset, .unset, .unset] [] (own_H4 s in1 (0 : Int32) in2 (1 : Int32) in3 ps) := by
  refine own_ks.go (mt := own_m0) rfl 3 (pc' := 90) (L' := [.val (.int shape), .val (.int in1), .val (.int in2), .val (.int in3), .val (.int last), .val (.int s), .val (.int (0 : Int32)), .val (.int (1 : Int32)), .val (.int (2 : Int32)), .val (.ref 0), .unset, .unset, .unset]) (S' := [.int last, .int (2 : Int32), .ref 0]) (H' := (own_H4 s in1 (0 : Int32) in2 (1 : Int32) in3 ps)) rfl ?_
  refine own_ks.into (mt := own_m0) (mj := own_m5) rfl (ins := .invokevirtual 19) (t := 93) (j := 5) (as := [.ref 0, .int (2 : Int32), .int last]) (r' := []) (L' := [.val (.ref 0), .val (.int (2 : Int32)), .val (.int last), .unset, .unset, .unset, .unset]) rfl rfl rfl rfl rfl rfl rfl rfl ?_
  refine own_ks.go (mt := own_m5) rfl 24 (pc' := 32) (L' := [.val (.ref 0), .val (.int (2 : Int32)), .val (.int last), .val (.int (2 : Int32)), .val (.int (0 : Int32)), .unset, .unset]) (S' := [.int (2 : Int32)]) (H' := (own_H4 s in1 (0 : Int32) in2 (1 : Int32) in3 ps)) rfl ?_
  refine own_ks.go (mt := own_m5) rfl 24 (pc' := 69) (L' := [.val (.ref 0), .val (.int (2 : Int32)), .val (.int last), .val (.int (2 : Int32)), .val (.ref 6), .val (.int (2 : Int32)), .val (.int (0 : Int32))]) (S' := [.ref 0]) (H' := ((own_H4 s in1 (0 : Int32) in2 (1 : Int32) in3 ps) ++ [(.inr .int, [.int in2, .int last])])) rfl ?_
  refine own_ks.go (mt := own_m5) rfl 9 (pc' := 85) (L' := [.val (.ref 0), .val (.int (2 : Int32)), .val (.int last), .val (.int (2 : Int32)), .val (.ref 6), .val (.int (0 : Int32)), .val (.int (-1 : Int32))]) (S' := [.ref 6]) (H' := ((own_H4 s in1 (0 : Int32) in2 (1 : Int32) in3 ps) ++ [(.inr .int, [.int in2, .int last])])) rfl ?_
  refine own_ks.back (mt := own_m5) rfl (ins := .areturn) (t := 86) (v := some (.ref 6)) (S2 := [.ref 6]) rfl rfl rfl ?_
  refine own_ks.go (mt := own_m0) rfl 24 (pc' := 249) (L' := [.val (.int shape), .val (.int in1), .val (.int in2), .val (.int in3), .val (.int last), .val (.int s), .val (.int (0 : Int32)), .val (.int (1 : Int32)), .val (.int (2 : Int32)), .val (.ref 0), .val (.ref 6), .val (.ref 7), .val (.int (1 : Int32))]) (S' := [.int last, .int (1 : Int32), .ref 7]) (H' := ((own_H4 s in1 (0 : Int32) in2 (1 : Int32) in3 ps) ++ [(.inr .int, [.int in2, .int last]), (.inr .int, [.int in2, .int (0 : Int32), .int (0 : Int32), .int (0 : Int32)])])) rfl ?_
  refine own_ks.go (mt := own_m0) rfl 12 (pc' := 272) (L' := [.val (.int shape), .val (.int in1), .val (.int in2), .val (.int in3), .val (.int last), .val (.int s), .val (.int (0 : Int32)), .val (.int (1 : Int32)), .val (.int (2 : Int32)), .val (.ref 0), .val (.ref 6), .val (.ref 7), .val (.int (1 : Int32))]) (S' := [.int (0 : Int32), .ref 7, .ref 6]) (H' := ((own_H4 s in1 (0 : Int32) in2 (1 : Int32) in3 ps) ++ [(.inr .int, [.int in2, .int last]), (.inr .int, [.int in2, .int last, .int (0 : Int32), .int (0 : Int32)])])) rfl ?_
  refine own_ks.into (mt := own_m0) (mj := own_m6) rfl (ins := .invokestatic 23) (t := 275) (j := 6) (as := [.ref 6, .ref 7, .int (0 : Int32)]) (r' := []) (L' := [.val (.ref 6), .val (.ref 7), .val (.int (0 : Int32))]) rfl rfl rfl rfl rfl rfl rfl rfl ?_
  refine own_ks.go (mt := own_m6) rfl 10 (pc' := 12) (L' := [.val (.ref 6), .val (.ref 7), .val (.int (0 : Int32))]) (S' := [.int in2, .int in2]) (H' := ((own_H4 s in1 (0 : Int32) in2 (1 : Int32) in3 ps) ++ [(.inr .int, [.int in2, .int last]), (.inr .int, [.int in2, .int last, .int (0 : Int32), .int (0 : Int32)])])) rfl ?_
  have h1 : in2 = in2 := by rfl
  refine own_ks.br2 (mt := own_m6) rfl (cd := .ne) (t := 19) (b := false) (pc' := 15) rfl (teq h1).2 rfl ?_
  refine own_ks.go (mt := own_m6) rfl 2 (pc' := 20) (L' := [.val (.ref 6), .val (.ref 7), .val (.int (0 : Int32))]) (S' := [.int (1 : Int32)]) (H' := ((own_H4 s in1 (0 : Int32) in2 (1 : Int32) in3 ps) ++ [(.inr .int, [.int in2, .int last]), (.inr .int, [.int in2, .int last, .int (0 : Int32), .int (0 : Int32)])])) rfl ?_
  refine own_ks.back (mt := own_m6) rfl (ins := .ireturn) (t := 21) (v := some (.int (1 : Int32))) (S2 := [.int (1 : Int32)]) rfl rfl rfl ?_
  refine own_ks.go (mt := own_m0) rfl 4 (pc' := 283) (L' := [.val (.int shape), .val (.int in1), .val (.int in2), .val (.int in3), .val (.int last), .val (.int s), .val (.int (0 : Int32)), .val (.int (1 : Int32)), .val (.int (2 : Int32)), .val (.ref 0), .val (.ref 6), .val (.ref 7), .val (.int (1 : Int32))]) (S' := [.int (1 : Int32), .ref 7, .ref 6]) (H' := ((own_H4 s in1 (0 : Int32) in2 (1 : Int32) in3 ps) ++ [(.inr .int, [.int in2, .int last]), (.inr .int, [.int in2, .int last, .int (0 : Int32), .int (0 : Int32)])])) rfl ?_
  refine own_ks.into (mt := own_m0) (mj := own_m6) rfl (ins := .invokestatic 23) (t := 286) (j := 6) (as := [.ref 6, .ref 7, .int (1 : Int32)]) (r' := []) (L' := [.val (.ref 6), .val (.ref 7), .val (.int (1 : Int32))]) rfl rfl rfl rfl rfl rfl rfl rfl ?_
  refine own_ks.go (mt := own_m6) rfl 10 (pc' := 12) (L' := [.val (.ref 6), .val (.ref 7), .val (.int (1 : Int32))]) (S' := [.int last, .int last]) (H' := ((own_H4 s in1 (0 : Int32) in2 (1 : Int32) in3 ps) ++ [(.inr .int, [.int in2, .int last]), (.inr .int, [.int in2, .int last, .int (0 : Int32), .int (0 : Int32)])])) rfl ?_
  have h2 : last = last := by rfl
  refine own_ks.br2 (mt := own_m6) rfl (cd := .ne) (t := 19) (b := false) (pc' := 15) rfl (teq h2).2 rfl ?_
  refine own_ks.go (mt := own_m6) rfl 2 (pc' := 20) (L' := [.val (.ref 6), .val (.ref 7), .val (.int (1 : Int32))]) (S' := [.int (1 : Int32)]) (H' := ((own_H4 s in1 (0 : Int32) in2 (1 : Int32) in3 ps) ++ [(.inr .int, [.int in2, .int last]), (.inr .int, [.int in2, .int last, .int (0 : Int32), .int (0 : Int32)])])) rfl ?_
  refine own_ks.back (mt := own_m6) rfl (ins := .ireturn) (t := 21) (v := some (.int (1 : Int32))) (S2 := [.int (1 : Int32)]) rfl rfl rfl ?_
  refine own_ks.go (mt := own_m0) rfl 4 (pc' := 294) (L' := [.val (.int shape), .val (.int in1), .val (.int in2), .val (.int in3), .val (.int last), .val (.int s), .val (.int (0 : Int32)), .val (.int (1 : Int32)), .val (.int (2 : Int32)), .val (.ref 0), .val (.ref 6), .val (.ref 7), .val (.int (1 : Int32))]) (S' := [.int (2 : Int32), .ref 7, .ref 6]) (H' := ((own_H4 s in1 (0 : Int32) in2 (1 : Int32) in3 ps) ++ [(.inr .int, [.int in2, .int last]), (.inr .int, [.int in2, .int last, .int (0 : Int32), .int (0 : Int32)])])) rfl ?_
  refine own_ks.into (mt := own_m0) (mj := own_m6) rfl (ins := .invokestatic 23) (t := 297) (j := 6) (as := [.ref 6, .ref 7, .int (2 : Int32)]) (r' := []) (L' := [.val (.ref 6), .val (.ref 7), .val (.int (2 : Int32))]) rfl rfl rfl rfl rfl rfl rfl rfl ?_
  refine own_ks.go (mt := own_m6) rfl 6 (pc' := 20) (L' := [.val (.ref 6), .val (.ref 7), .val (.int (2 : Int32))]) (S' := [.int (1 : Int32)]) (H' := ((own_H4 s in1 (0 : Int32) in2 (1 : Int32) in3 ps) ++ [(.inr .int, [.int in2, .int last]), (.inr .int, [.int in2, .int last, .int (0 : Int32), .int (0 : Int32)])])) rfl ?_
  refine own_ks.back (mt := own_m6) rfl (ins := .ireturn) (t := 21) (v := some (.int (1 : Int32))) (S2 := [.int (1 : Int32)]) rfl rfl rfl ?_
  refine own_ks.go (mt := own_m0) rfl 4 (pc' := 305) (L' := [.val (.int shape), .val (.int in1), .val (.int in2), .val (.int in3), .val (.int last), .val (.int s), .val (.int (0 : Int32)), .val (.int (1 : Int32)), .val (.int (2 : Int32)), .val (.ref 0), .val (.ref 6), .val (.ref 7), .val (.int (1 : Int32))]) (S' := [.int (3 : Int32), .ref 7, .ref 6]) (H' := ((own_H4 s in1 (0 : Int32) in2 (1 : Int32) in3 ps) ++ [(.inr .int, [.int in2, .int last]), (.inr .int, [.int in2, .int last, .int (0 : Int32), .int (0 : Int32)])])) rfl ?_
  refine own_ks.into (mt := own_m0) (mj := own_m6) rfl (ins := .invokestatic 23) (t := 308) (j := 6) (as := [.ref 6, .ref 7, .int (3 : Int32)]) (r' := []) (L' := [.val (.ref 6), .val (.ref 7), .val (.int (3 : Int32))]) rfl rfl rfl rfl rfl rfl rfl rfl ?_
  refine own_ks.go (mt := own_m6) rfl 6 (pc' := 20) (L' := [.val (.ref 6), .val (.ref 7), .val (.int (3 : Int32))]) (S' := [.int (1 : Int32)]) (H' := ((own_H4 s in1 (0 : Int32) in2 (1 : Int32) in3 ps) ++ [(.inr .int, [.int in2, .int last]), (.inr .int, [.int in2, .int last, .int (0 : Int32), .int (0 : Int32)])])) rfl ?_
  refine own_ks.back (mt := own_m6) rfl (ins := .ireturn) (t := 21) (v := some (.int (1 : Int32))) (S2 := [.int (1 : Int32)]) rfl rfl rfl ?_
  refine own_ks.go (mt := own_m0) rfl 3 (pc' := 316) (L' := [.val (.int shape), .val (.int in1), .val (.int in2), .val (.int in3), .val (.int last), .val (.int s), .val (.int (0 : Int32)), .val (.int (1 : Int32)), .val (.int (2 : Int32)), .val (.ref 0), .val (.ref 6), .val (.ref 7), .val (.int (1 : Int32))]) (S' := [.int (1 : Int32)]) (H' := ((own_H4 s in1 (0 : Int32) in2 (1 : Int32) in3 ps) ++ [(.inr .int, [.int in2, .int last]), (.inr .int, [.int in2, .int last, .int (0 : Int32), .int (0 : Int32)])])) rfl ?_
  exact own_ks.ret (mt := own_m0) rfl (ins := .ireturn) (t := 317) (v := some (.int (1 : Int32))) rfl rfl ⟨rfl, by simp [own_H4], by simp [own_H4, own_w, own_cw, own_sl_len, own_P, own_k0]⟩
set_option maxHeartbeats 4000000 in
theorem own_c_0_1_3 (shape in1 in2 in3 last s : Int32) (ps : List Nat) : own_ks own_P (own_end own_P.2.1 24 320) [] 0 6 160 84 [.val (.int shape), .val (.int in1), .val (.int in2), .val (.int in3), .val (.int last), .val (.int s), .val (.int (0 : Int32)), .val (.int (1 : Int32)), .val (.int (3 : Int32)), .val (.ref 0), .unset, .unset, .unset] [] (own_H4 s in1 (0 : Int32) in2 (1 : Int32) in3 ps) := by
  refine own_ks.go (mt := own_m0) rfl 3 (pc' := 90) (L' := [.val (.int shape), .val (.int in1), .val (.int in2), .val (.int in3), .val (.int last), .val (.int s), .val (.int (0 : Int32)), .val (.int (1 : Int32)), .val (.int (3 : Int32)), .val (.ref 0), .unset, .unset, .unset]) (S' := [.int last, .int (3 : Int32), .ref 0]) (H' := (own_H4 s in1 (0 : Int32) in2 (1 : Int32) in3 ps)) rfl ?_
  refine own_ks.into (mt := own_m0) (mj := own_m5) rfl (ins := .invokevirtual 19) (t := 93) (j := 5) (as := [.ref 0, .int (3 : Int32), .int last]) (r' := []) (L' := [.val (.ref 0), .val (.int (3 : Int32)), .val (.int last), .unset, .unset, .unset, .unset]) rfl rfl rfl rfl rfl rfl rfl rfl ?_
  refine own_ks.go (mt := own_m5) rfl 24 (pc' := 19) (L' := [.val (.ref 0), .val (.int (3 : Int32)), .val (.int last), .val (.int (3 : Int32)), .val (.int (1 : Int32)), .unset, .unset]) (S' := []) (H' := (own_H4 s in1 (0 : Int32) in2 (1 : Int32) in3 ps)) rfl ?_
  refine own_ks.go (mt := own_m5) rfl 24 (pc' := 47) (L' := [.val (.ref 0), .val (.int (3 : Int32)), .val (.int last), .val (.int (3 : Int32)), .val (.ref 6), .val (.int (3 : Int32)), .unset]) (S' := [.int (3 : Int32)]) (H' := ((own_H4 s in1 (0 : Int32) in2 (1 : Int32) in3 ps) ++ [(.inr .int, [.int (0 : Int32), .int (0 : Int32), .int last])])) rfl ?_
  refine own_ks.go (mt := own_m5) rfl 24 (pc' := 61) (L' := [.val (.ref 0), .val (.int (3 : Int32)), .val (.int last), .val (.int (3 : Int32)), .val (.ref 6), .val (.int (1 : Int32)), .val (.int (0 : Int32))]) (S' := [.ref 0, .int (0 : Int32), .ref 6]) (H' := ((own_H4 s in1 (0 : Int32) in2 (1 : Int32) in3 ps) ++ [(.inr .int, [.int (0 : Int32), .int in3, .int last])])) rfl ?_
  refine own_ks.go (mt := own_m5) rfl 14 (pc' := 85) (L' := [.val (.ref 0), .val (.int (3 : Int32)), .val (.int last), .val (.int (3 : Int32)), .val (.ref 6), .val (.int (0 : Int32)), .val (.int (-1 : Int32))]) (S' := [.ref 6]) (H' := ((own_H4 s in1 (0 : Int32) in2 (1 : Int32) in3 ps) ++ [(.inr .int, [.int in1, .int in3, .int last])])) rfl ?_
  refine own_ks.back (mt := own_m5) rfl (ins := .areturn) (t := 86) (v := some (.ref 6)) (S2 := [.ref 6]) rfl rfl rfl ?_
  refine own_ks.go (mt := own_m0) rfl 24 (pc' := 198) (L' := [.val (.int shape), .val (.int in1), .val (.int in2), .val (.int in3), .val (.int last), .val (.int s), .val (.int (0 : Int32)), .val (.int (1 : Int32)), .val (.int (3 : Int32)), .val (.ref 0), .val (.ref 6), .val (.ref 7), .val (.int (2 : Int32))]) (S' := [.ref 7]) (H' := ((own_H4 s in1 (0 : Int32) in2 (1 : Int32) in3 ps) ++ [(.inr .int, [.int in1, .int in3, .int last]), (.inr .int, [.int in1, .int (0 : Int32), .int (0 : Int32), .int (0 : Int32)])])) rfl ?_
  refine own_ks.go (mt := own_m0) rfl 19 (pc' := 272) (L' := [.val (.int shape), .val (.int in1), .val (.int in2), .val (.int in3), .val (.int last), .val (.int s), .val (.int (0 : Int32)), .val (.int (1 : Int32)), .val (.int (3 : Int32)), .val (.ref 0), .val (.ref 6), .val (.ref 7), .val (.int (2 : Int32))]) (S' := [.int (0 : Int32), .ref 7, .ref 6]) (H' := ((own_H4 s in1 (0 : Int32) in2 (1 : Int32) in3 ps) ++ [(.inr .int, [.int in1, .int in3, .int last]), (.inr .int, [.int in1, .int in3, .int last, .int (0 : Int32)])])) rfl ?_
  refine own_ks.into (mt := own_m0) (mj := own_m6) rfl (ins := .invokestatic 23) (t := 275) (j := 6) (as := [.ref 6, .ref 7, .int (0 : Int32)]) (r' := []) (L' := [.val (.ref 6), .val (.ref 7), .val (.int (0 : Int32))]) rfl rfl rfl rfl rfl rfl rfl rfl ?_
  refine own_ks.go (mt := own_m6) rfl 10 (pc' := 12) (L' := [.val (.ref 6), .val (.ref 7), .val (.int (0 : Int32))]) (S' := [.int in1, .int in1]) (H' := ((own_H4 s in1 (0 : Int32) in2 (1 : Int32) in3 ps) ++ [(.inr .int, [.int in1, .int in3, .int last]), (.inr .int, [.int in1, .int in3, .int last, .int (0 : Int32)])])) rfl ?_
  have h1 : in1 = in1 := by rfl
  refine own_ks.br2 (mt := own_m6) rfl (cd := .ne) (t := 19) (b := false) (pc' := 15) rfl (teq h1).2 rfl ?_
  refine own_ks.go (mt := own_m6) rfl 2 (pc' := 20) (L' := [.val (.ref 6), .val (.ref 7), .val (.int (0 : Int32))]) (S' := [.int (1 : Int32)]) (H' := ((own_H4 s in1 (0 : Int32) in2 (1 : Int32) in3 ps) ++ [(.inr .int, [.int in1, .int in3, .int last]), (.inr .int, [.int in1, .int in3, .int last, .int (0 : Int32)])])) rfl ?_
  refine own_ks.back (mt := own_m6) rfl (ins := .ireturn) (t := 21) (v := some (.int (1 : Int32))) (S2 := [.int (1 : Int32)]) rfl rfl rfl ?_
  refine own_ks.go (mt := own_m0) rfl 4 (pc' := 283) (L' := [.val (.int shape), .val (.int in1), .val (.int in2), .val (.int in3), .val (.int last), .val (.int s), .val (.int (0 : Int32)), .val (.int (1 : Int32)), .val (.int (3 : Int32)), .val (.ref 0), .val (.ref 6), .val (.ref 7), .val (.int (2 : Int32))]) (S' := [.int (1 : Int32), .ref 7, .ref 6]) (H' := ((own_H4 s in1 (0 : Int32) in2 (1 : Int32) in3 ps) ++ [(.inr .int, [.int in1, .int in3, .int last]), (.inr .int, [.int in1, .int in3, .int last, .int (0 : Int32)])])) rfl ?_
  refine own_ks.into (mt := own_m0) (mj := own_m6) rfl (ins := .invokestatic 23) (t := 286) (j := 6) (as := [.ref 6, .ref 7, .int (1 : Int32)]) (r' := []) (L' := [.val (.ref 6), .val (.ref 7), .val (.int (1 : Int32))]) rfl rfl rfl rfl rfl rfl rfl rfl ?_
  refine own_ks.go (mt := own_m6) rfl 10 (pc' := 12) (L' := [.val (.ref 6), .val (.ref 7), .val (.int (1 : Int32))]) (S' := [.int in3, .int in3]) (H' := ((own_H4 s in1 (0 : Int32) in2 (1 : Int32) in3 ps) ++ [(.inr .int, [.int in1, .int in3, .int last]), (.inr .int, [.int in1, .int in3, .int last, .int (0 : Int32)])])) rfl ?_
  have h2 : in3 = in3 := by rfl
  refine own_ks.br2 (mt := own_m6) rfl (cd := .ne) (t := 19) (b := false) (pc' := 15) rfl (teq h2).2 rfl ?_
  refine own_ks.go (mt := own_m6) rfl 2 (pc' := 20) (L' := [.val (.ref 6), .val (.ref 7), .val (.int (1 : Int32))]) (S' := [.int (1 : Int32)]) (H' := ((own_H4 s in1 (0 : Int32) in2 (1 : Int32) in3 ps) ++ [(.inr .int, [.int in1, .int in3, .int last]), (.inr .int, [.int in1, .int in3, .int last, .int (0 : Int32)])])) rfl ?_
  refine own_ks.back (mt := own_m6) rfl (ins := .ireturn) (t := 21) (v := some (.int (1 : Int32))) (S2 := [.int (1 : Int32)]) rfl rfl rfl ?_
  refine own_ks.go (mt := own_m0) rfl 4 (pc' := 294) (L' := [.val (.int shape), .val (.int in1), .val (.int in2), .val (.int in3), .val (.int last), .val (.int s), .val (.int (0 : Int32)), .val (.int (1 : Int32)), .val (.int (3 : Int32)), .val (.ref 0), .val (.ref 6), .val (.ref 7), .val (.int (2 : Int32))]) (S' := [.int (2 : Int32), .ref 7, .ref 6]) (H' := ((own_H4 s in1 (0 : Int32) in2 (1 : Int32) in3 ps) ++ [(.inr .int, [.int in1, .int in3, .int last]), (.inr .int, [.int in1, .int in3, .int last, .int (0 : Int32)])])) rfl ?_
  refine own_ks.into (mt := own_m0) (mj := own_m6) rfl (ins := .invokestatic 23) (t := 297) (j := 6) (as := [.ref 6, .ref 7, .int (2 : Int32)]) (r' := []) (L' := [.val (.ref 6), .val (.ref 7), .val (.int (2 : Int32))]) rfl rfl rfl rfl rfl rfl rfl rfl ?_
  refine own_ks.go (mt := own_m6) rfl 10 (pc' := 12) (L' := [.val (.ref 6), .val (.ref 7), .val (.int (2 : Int32))]) (S' := [.int last, .int last]) (H' := ((own_H4 s in1 (0 : Int32) in2 (1 : Int32) in3 ps) ++ [(.inr .int, [.int in1, .int in3, .int last]), (.inr .int, [.int in1, .int in3, .int last, .int (0 : Int32)])])) rfl ?_
  have h3 : last = last := by rfl
  refine own_ks.br2 (mt := own_m6) rfl (cd := .ne) (t := 19) (b := false) (pc' := 15) rfl (teq h3).2 rfl ?_
  refine own_ks.go (mt := own_m6) rfl 2 (pc' := 20) (L' := [.val (.ref 6), .val (.ref 7), .val (.int (2 : Int32))]) (S' := [.int (1 : Int32)]) (H' := ((own_H4 s in1 (0 : Int32) in2 (1 : Int32) in3 ps) ++ [(.inr .int, [.int in1, .int in3, .int last]), (.inr .int, [.int in1, .int in3, .int last, .int (0 : Int32)])])) rfl ?_
  refine own_ks.back (mt := own_m6) rfl (ins := .ireturn) (t := 21) (v := some (.int (1 : Int32))) (S2 := [.int (1 : Int32)]) rfl rfl rfl ?_
  refine own_ks.go (mt := own_m0) rfl 4 (pc' := 305) (L' := [.val (.int shape), .val (.int in1), .val (.int in2), .val (.int in3), .val (.int last), .val (.int s), .val (.int (0 : Int32)), .val (.int (1 : Int32)), .val (.int (3 : Int32)), .val (.ref 0), .val (.ref 6), .val (.ref 7), .val (.int (2 : Int32))]) (S' := [.int (3 : Int32), .ref 7, .ref 6]) (H' := ((own_H4 s in1 (0 : Int32) in2 (1 : Int32) in3 ps) ++ [(.inr .int, [.int in1, .int in3, .int last]), (.inr .int, [.int in1, .int in3, .int last, .int (0 : Int32)])])) rfl ?_
  refine own_ks.into (mt := own_m0) (mj := own_m6) rfl (ins := .invokestatic 23) (t := 308) (j := 6) (as := [.ref 6, .ref 7, .int (3 : Int32)]) (r' := []) (L' := [.val (.ref 6), .val (.ref 7), .val (.int (3 : Int32))]) rfl rfl rfl rfl rfl rfl rfl rfl ?_
  refine own_ks.go (mt := own_m6) rfl 6 (pc' := 20) (L' := [.val (.ref 6), .val (.ref 7), .val (.int (3 : Int32))]) (S' := [.int (1 : Int32)]) (H' := ((own_H4 s in1 (0 : Int32) in2 (1 : Int32) in3 ps) ++ [(.inr .int, [.int in1, .int in3, .int last]), (.inr .int, [.int in1, .int in3, .int last, .int (0 : Int32)])])) rfl ?_
  refine own_ks.back (mt := own_m6) rfl (ins := .ireturn) (t := 21) (v := some (.int (1 : Int32))) (S2 := [.int (1 : Int32)]) rfl rfl rfl ?_
  refine own_ks.go (mt := own_m0) rfl 3 (pc' := 316) (L' := [.val (.int shape), .val (.int in1), .val (.int in2), .val (.int in3), .val (.int last), .val (.int s), .val (.int (0 : Int32)), .val (.int (1 : Int32)), .val (.int (3 : Int32)), .val (.ref 0), .val (.ref 6), .val (.ref 7), .val (.int (2 : Int32))]) (S' := [.int (1 : Int32)]) (H' := ((own_H4 s in1 (0 : Int32) in2 (1 : Int32) in3 ps) ++ [(.inr .int, [.int in1, .int in3, .int last]), (.inr .int, [.int in1, .int in3, .int last, .int (0 : Int32)])])) rfl ?_
  exact own_ks.ret (mt := own_m0) rfl (ins := .ireturn) (t := 317) (v := some (.int (1 : Int32))) rfl rfl ⟨rfl, by simp [own_H4], by simp [own_H4, own_w, own_cw, own_sl_len, own_P, own_k0]⟩
set_option maxHeartbeats 4000000 in
theorem own_c_0_2_0 (shape in1 in2 in3 last s : Int32) (ps : List Nat) : own_ks own_P (own_end own_P.2.1 24 320) [] 0 6 160 84 [.val (.int shape), .val (.int in1), .val (.int in2), .val (.int in3), .val (.int last), .val (.int s), .val (.int (0 : Int32)), .val (.int (2 : Int32)), .val (.int (0 : Int32)), .val (.ref 0), .unset, .unset, .unset] [] (own_H4 s in1 (0 : Int32) in2 (2 : Int32) in3 ps) := by
  refine own_ks.go (mt := own_m0) rfl 3 (pc' := 90) (L' := [.val (.int shape), .val (.int in1), .val (.int in2), .val (.int in3), .val (.int last), .val (.int s), .val (.int (0 : Int32)), .val (.int (2 : Int32)), .val (.int (0 : Int32)), .val (.ref 0), .unset, .unset, .unset]) (S' := [.int last, .int (0 : Int32), .ref 0]) (H' := (own_H4 s in1 (0 : Int32) in2 (2 : Int32) in3 ps)) rfl ?_
  refine own_ks.into (mt := own_m0) (mj := own_m5) rfl (ins := .invokevirtual 19) (t := 93) (j := 5) (as := [.ref 0, .int (0 : Int32), .int last]) (r' := []) (L' := [.val (.ref 0), .val (.int (0 : Int32)), .val (.int last), .unset, .unset, .unset, .unset]) rfl rfl rfl rfl rfl rfl rfl rfl ?_
  refine own_ks.go (mt := own_m5) rfl 24 (pc' := 49) (L' := [.val (.ref 0), .val (.int (0 : Int32)), .val (.int last), .val (.int (1 : Int32)), .val (.ref 6), .val (.int (0 : Int32)), .unset]) (S' := [.int (-1 : Int32)]) (H' := ((own_H4 s in1 (0 : Int32) in2 (2 : Int32) in3 ps) ++ [(.inr .int, [.int last])])) rfl ?_
  refine own_ks.go (mt := own_m5) rfl 4 (pc' := 85) (L' := [.val (.ref 0), .val (.int (0 : Int32)), .val (.int last), .val (.int (1 : Int32)), .val (.ref 6), .val (.int (0 : Int32)), .val (.int (-1 : Int32))]) (S' := [.ref 6]) (H' := ((own_H4 s in1 (0 : Int32) in2 (2 : Int32) in3 ps) ++ [(.inr .int, [.int last])])) rfl ?_
  refine own_ks.back (mt := own_m5) rfl (ins := .areturn) (t := 86) (v := some (.ref 6)) (S2 := [.ref 6]) rfl rfl rfl ?_
  refine own_ks.go (mt := own_m0) rfl 24 (pc' := 272) (L' := [.val (.int shape), .val (.int in1), .val (.int in2), .val (.int in3), .val (.int last), .val (.int s), .val (.int (0 : Int32)), .val (.int (2 : Int32)), .val (.int (0 : Int32)), .val (.ref 0), .val (.ref 6), .val (.ref 7), .val (.int (0 : Int32))]) (S' := [.int (0 : Int32), .ref 7, .ref 6]) (H' := ((own_H4 s in1 (0 : Int32) in2 (2 : Int32) in3 ps) ++ [(.inr .int, [.int last]), (.inr .int, [.int last, .int (0 : Int32), .int (0 : Int32), .int (0 : Int32)])])) rfl ?_
  refine own_ks.into (mt := own_m0) (mj := own_m6) rfl (ins := .invokestatic 23) (t := 275) (j := 6) (as := [.ref 6, .ref 7, .int (0 : Int32)]) (r' := []) (L' := [.val (.ref 6), .val (.ref 7), .val (.int (0 : Int32))]) rfl rfl rfl rfl rfl rfl rfl rfl ?_
  refine own_ks.go (mt := own_m6) rfl 10 (pc' := 12) (L' := [.val (.ref 6), .val (.ref 7), .val (.int (0 : Int32))]) (S' := [.int last, .int last]) (H' := ((own_H4 s in1 (0 : Int32) in2 (2 : Int32) in3 ps) ++ [(.inr .int, [.int last]), (.inr .int, [.int last, .int (0 : Int32), .int (0 : Int32), .int (0 : Int32)])])) rfl ?_
  have h1 : last = last := by rfl
  refine own_ks.br2 (mt := own_m6) rfl (cd := .ne) (t := 19) (b := false) (pc' := 15) rfl (teq h1).2 rfl ?_
  refine own_ks.go (mt := own_m6) rfl 2 (pc' := 20) (L' := [.val (.ref 6), .val (.ref 7), .val (.int (0 : Int32))]) (S' := [.int (1 : Int32)]) (H' := ((own_H4 s in1 (0 : Int32) in2 (2 : Int32) in3 ps) ++ [(.inr .int, [.int last]), (.inr .int, [.int last, .int (0 : Int32), .int (0 : Int32), .int (0 : Int32)])])) rfl ?_
  refine own_ks.back (mt := own_m6) rfl (ins := .ireturn) (t := 21) (v := some (.int (1 : Int32))) (S2 := [.int (1 : Int32)]) rfl rfl rfl ?_
  refine own_ks.go (mt := own_m0) rfl 4 (pc' := 283) (L' := [.val (.int shape), .val (.int in1), .val (.int in2), .val (.int in3), .val (.int last), .val (.int s), .val (.int (0 : Int32)), .val (.int (2 : Int32)), .val (.int (0 : Int32)), .val (.ref 0), .val (.ref 6), .val (.ref 7), .val (.int (0 : Int32))]) (S' := [.int (1 : Int32), .ref 7, .ref 6]) (H' := ((own_H4 s in1 (0 : Int32) in2 (2 : Int32) in3 ps) ++ [(.inr .int, [.int last]), (.inr .int, [.int last, .int (0 : Int32), .int (0 : Int32), .int (0 : Int32)])])) rfl ?_
  refine own_ks.into (mt := own_m0) (mj := own_m6) rfl (ins := .invokestatic 23) (t := 286) (j := 6) (as := [.ref 6, .ref 7, .int (1 : Int32)]) (r' := []) (L' := [.val (.ref 6), .val (.ref 7), .val (.int (1 : Int32))]) rfl rfl rfl rfl rfl rfl rfl rfl ?_
  refine own_ks.go (mt := own_m6) rfl 6 (pc' := 20) (L' := [.val (.ref 6), .val (.ref 7), .val (.int (1 : Int32))]) (S' := [.int (1 : Int32)]) (H' := ((own_H4 s in1 (0 : Int32) in2 (2 : Int32) in3 ps) ++ [(.inr .int, [.int last]), (.inr .int, [.int last, .int (0 : Int32), .int (0 : Int32), .int (0 : Int32)])])) rfl ?_
  refine own_ks.back (mt := own_m6) rfl (ins := .ireturn) (t := 21) (v := some (.int (1 : Int32))) (S2 := [.int (1 : Int32)]) rfl rfl rfl ?_
  refine own_ks.go (mt := own_m0) rfl 4 (pc' := 294) (L' := [.val (.int shape), .val (.int in1), .val (.int in2), .val (.int in3), .val (.int last), .val (.int s), .val (.int (0 : Int32)), .val (.int (2 : Int32)), .val (.int (0 : Int32)), .val (.ref 0), .val (.ref 6), .val (.ref 7), .val (.int (0 : Int32))]) (S' := [.int (2 : Int32), .ref 7, .ref 6]) (H' := ((own_H4 s in1 (0 : Int32) in2 (2 : Int32) in3 ps) ++ [(.inr .int, [.int last]), (.inr .int, [.int last, .int (0 : Int32), .int (0 : Int32), .int (0 : Int32)])])) rfl ?_
  refine own_ks.into (mt := own_m0) (mj := own_m6) rfl (ins := .invokestatic 23) (t := 297) (j := 6) (as := [.ref 6, .ref 7, .int (2 : Int32)]) (r' := []) (L' := [.val (.ref 6), .val (.ref 7), .val (.int (2 : Int32))]) rfl rfl rfl rfl rfl rfl rfl rfl ?_
  refine own_ks.go (mt := own_m6) rfl 6 (pc' := 20) (L' := [.val (.ref 6), .val (.ref 7), .val (.int (2 : Int32))]) (S' := [.int (1 : Int32)]) (H' := ((own_H4 s in1 (0 : Int32) in2 (2 : Int32) in3 ps) ++ [(.inr .int, [.int last]), (.inr .int, [.int last, .int (0 : Int32), .int (0 : Int32), .int (0 : Int32)])])) rfl ?_
  refine own_ks.back (mt := own_m6) rfl (ins := .ireturn) (t := 21) (v := some (.int (1 : Int32))) (S2 := [.int (1 : Int32)]) rfl rfl rfl ?_
  refine own_ks.go (mt := own_m0) rfl 4 (pc' := 305) (L' := [.val (.int shape), .val (.int in1), .val (.int in2), .val (.int in3), .val (.int last), .val (.int s), .val (.int (0 : Int32)), .val (.int (2 : Int32)), .val (.int (0 : Int32)), .val (.ref 0), .val (.ref 6), .val (.ref 7), .val (.int (0 : Int32))]) (S' := [.int (3 : Int32), .ref 7, .ref 6]) (H' := ((own_H4 s in1 (0 : Int32) in2 (2 : Int32) in3 ps) ++ [(.inr .int, [.int last]), (.inr .int, [.int last, .int (0 : Int32), .int (0 : Int32), .int (0 : Int32)])])) rfl ?_
  refine own_ks.into (mt := own_m0) (mj := own_m6) rfl (ins := .invokestatic 23) (t := 308) (j := 6) (as := [.ref 6, .ref 7, .int (3 : Int32)]) (r' := []) (L' := [.val (.ref 6), .val (.ref 7), .val (.int (3 : Int32))]) rfl rfl rfl rfl rfl rfl rfl rfl ?_
  refine own_ks.go (mt := own_m6) rfl 6 (pc' := 20) (L' := [.val (.ref 6), .val (.ref 7), .val (.int (3 : Int32))]) (S' := [.int (1 : Int32)]) (H' := ((own_H4 s in1 (0 : Int32) in2 (2 : Int32) in3 ps) ++ [(.inr .int, [.int last]), (.inr .int, [.int last, .int (0 : Int32), .int (0 : Int32), .int (0 : Int32)])])) rfl ?_
  refine own_ks.back (mt := own_m6) rfl (ins := .ireturn) (t := 21) (v := some (.int (1 : Int32))) (S2 := [.int (1 : Int32)]) rfl rfl rfl ?_
  refine own_ks.go (mt := own_m0) rfl 3 (pc' := 316) (L' := [.val (.int shape), .val (.int in1), .val (.int in2), .val (.int in3), .val (.int last), .val (.int s), .val (.int (0 : Int32)), .val (.int (2 : Int32)), .val (.int (0 : Int32)), .val (.ref 0), .val (.ref 6), .val (.ref 7), .val (.int (0 : Int32))]) (S' := [.int (1 : Int32)]) (H' := ((own_H4 s in1 (0 : Int32) in2 (2 : Int32) in3 ps) ++ [(.inr .int, [.int last]), (.inr .int, [.int last, .int (0 : Int32), .int (0 : Int32), .int (0 : Int32)])])) rfl ?_
  exact own_ks.ret (mt := own_m0) rfl (ins := .ireturn) (t := 317) (v := some (.int (1 : Int32))) rfl rfl ⟨rfl, by simp [own_H4], by simp [own_H4, own_w, own_cw, own_sl_len, own_P, own_k0]⟩
set_option maxHeartbeats 4000000 in
theorem own_c_0_2_1 (shape in1 in2 in3 last s : Int32) (ps : List Nat) : own_ks own_P (own_end own_P.2.1 24 320) [] 0 6 160 84 [.val (.int shape), .val (.int in1), .val (.int in2), .val (.int in3), .val (.int last), .val (.int s), .val (.int (0 : Int32)), .val (.int (2 : Int32)), .val (.int (1 : Int32)), .val (.ref 0), .unset, .unset, .unset] [] (own_H4 s in1 (0 : Int32) in2 (2 : Int32) in3 ps) := by
  refine own_ks.go (mt := own_m0) rfl 3 (pc' := 90) (L' := [.val (.int shape), .val (.int in1), .val (.int in2), .val (.int in3), .val (.int last), .val (.int s), .val (.int (0 : Int32)), .val (.int (2 : Int32)), .val (.int (1 : Int32)), .val (.ref 0), .unset, .unset, .unset]) (S' := [.int last, .int (1 : Int32), .ref 0]) (H' := (own_H4 s in1 (0 : Int32) in2 (2 : Int32) in3 ps)) rfl ?_
  refine own_ks.into (mt := own_m0) (mj := own_m5) rfl (ins := .invokevirtual 19) (t := 93) (j := 5) (as := [.ref 0, .int (1 : Int32), .int last]) (r' := []) (L' := [.val (.ref 0), .val (.int (1 : Int32)), .val (.int last), .unset, .unset, .unset, .unset]) rfl rfl rfl rfl rfl rfl rfl rfl ?_
  refine own_ks.go (mt := own_m5) rfl 24 (pc' := 32) (L' := [.val (.ref 0), .val (.int (1 : Int32)), .val (.int last), .val (.int (2 : Int32)), .val (.int (0 : Int32)), .unset, .unset]) (S' := [.int (2 : Int32)]) (H' := (own_H4 s in1 (0 : Int32) in2 (2 : Int32) in3 ps)) rfl ?_
  refine own_ks.go (mt := own_m5) rfl 24 (pc' := 69) (L' := [.val (.ref 0), .val (.int (1 : Int32)), .val (.int last), .val (.int (2 : Int32)), .val (.ref 6), .val (.int (1 : Int32)), .val (.int (0 : Int32))]) (S' := [.ref 0]) (H' := ((own_H4 s in1 (0 : Int32) in2 (2 : Int32) in3 ps) ++ [(.inr .int, [.int in1, .int last])])) rfl ?_
  refine own_ks.go (mt := own_m5) rfl 9 (pc' := 85) (L' := [.val (.ref 0), .val (.int (1 : Int32)), .val (.int last), .val (.int (2 : Int32)), .val (.ref 6), .val (.int (0 : Int32)), .val (.int (-1 : Int32))]) (S' := [.ref 6]) (H' := ((own_H4 s in1 (0 : Int32) in2 (2 : Int32) in3 ps) ++ [(.inr .int, [.int in1, .int last])])) rfl ?_
  refine own_ks.back (mt := own_m5) rfl (ins := .areturn) (t := 86) (v := some (.ref 6)) (S2 := [.ref 6]) rfl rfl rfl ?_
  refine own_ks.go (mt := own_m0) rfl 24 (pc' := 258) (L' := [.val (.int shape), .val (.int in1), .val (.int in2), .val (.int in3), .val (.int last), .val (.int s), .val (.int (0 : Int32)), .val (.int (2 : Int32)), .val (.int (1 : Int32)), .val (.ref 0), .val (.ref 6), .val (.ref 7), .val (.int (1 : Int32))]) (S' := [.int (2 : Int32)]) (H' := ((own_H4 s in1 (0 : Int32) in2 (2 : Int32) in3 ps) ++ [(.inr .int, [.int in1, .int last]), (.inr .int, [.int in1, .int last, .int (0 : Int32), .int (0 : Int32)])])) rfl ?_
  refine own_ks.go (mt := own_m0) rfl 7 (pc' := 272) (L' := [.val (.int shape), .val (.int in1), .val (.int in2), .val (.int in3), .val (.int last), .val (.int s), .val (.int (0 : Int32)), .val (.int (2 : Int32)), .val (.int (1 : Int32)), .val (.ref 0), .val (.ref 6), .val (.ref 7), .val (.int (1 : Int32))]) (S' := [.int (0 : Int32), .ref 7, .ref 6]) (H' := ((own_H4 s in1 (0 : Int32) in2 (2 : Int32) in3 ps) ++ [(.inr .int, [.int in1, .int last]), (.inr .int, [.int in1, .int last, .int (0 : Int32), .int (0 : Int32)])])) rfl ?_
  refine own_ks.into (mt := own_m0) (mj := own_m6) rfl (ins := .invokestatic 23) (t := 275) (j := 6) (as := [.ref 6, .ref 7, .int (0 : Int32)]) (r' := []) (L' := [.val (.ref 6), .val (.ref 7), .val (.int (0 : Int32))]) rfl rfl rfl rfl rfl rfl rfl rfl ?_
  refine own_ks.go (mt := own_m6) rfl 10 (pc' := 12) (L' := [.val (.ref 6), .val (.ref 7), .val (.int (0 : Int32))]) (S' := [.int in1, .int in1]) (H' := ((own_H4 s in1 (0 : Int32) in2 (2 : Int32) in3 ps) ++ [(.inr .int, [.int in1, .int last]), (.inr .int, [.int in1, .int last, .int (0 : Int32), .int (0 : Int32)])])) rfl ?_
  have h1 : in1 = in1 := by rfl
  refine own_ks.br2 (mt := own_m6) rfl (cd := .ne) (t := 19) (b := false) (pc' := 15) rfl (teq h1).2 rfl ?_
  refine own_ks.go (mt := own_m6) rfl 2 (pc' := 20) (L' := [.val (.ref 6), .val (.ref 7), .val (.int (0 : Int32))]) (S' := [.int (1 : Int32)]) (H' := ((own_H4 s in1 (0 : Int32) in2 (2 : Int32) in3 ps) ++ [(.inr .int, [.int in1, .int last]), (.inr .int, [.int in1, .int last, .int (0 : Int32), .int (0 : Int32)])])) rfl ?_
  refine own_ks.back (mt := own_m6) rfl (ins := .ireturn) (t := 21) (v := some (.int (1 : Int32))) (S2 := [.int (1 : Int32)]) rfl rfl rfl ?_
  refine own_ks.go (mt := own_m0) rfl 4 (pc' := 283) (L' := [.val (.int shape), .val (.int in1), .val (.int in2), .val (.int in3), .val (.int last), .val (.int s), .val (.int (0 : Int32)), .val (.int (2 : Int32)), .val (.int (1 : Int32)), .val (.ref 0), .val (.ref 6), .val (.ref 7), .val (.int (1 : Int32))]) (S' := [.int (1 : Int32), .ref 7, .ref 6]) (H' := ((own_H4 s in1 (0 : Int32) in2 (2 : Int32) in3 ps) ++ [(.inr .int, [.int in1, .int last]), (.inr .int, [.int in1, .int last, .int (0 : Int32), .int (0 : Int32)])])) rfl ?_
  refine own_ks.into (mt := own_m0) (mj := own_m6) rfl (ins := .invokestatic 23) (t := 286) (j := 6) (as := [.ref 6, .ref 7, .int (1 : Int32)]) (r' := []) (L' := [.val (.ref 6), .val (.ref 7), .val (.int (1 : Int32))]) rfl rfl rfl rfl rfl rfl rfl rfl ?_
  refine own_ks.go (mt := own_m6) rfl 10 (pc' := 12) (L' := [.val (.ref 6), .val (.ref 7), .val (.int (1 : Int32))]) (S' := [.int last, .int last]) (H' := ((own_H4 s in1 (0 : Int32) in2 (2 : Int32) in3 ps) ++ [(.inr .int, [.int in1, .int last]), (.inr .int, [.int in1, .int last, .int (0 : Int32), .int (0 : Int32)])])) rfl ?_
  have h2 : last = last := by rfl
  refine own_ks.br2 (mt := own_m6) rfl (cd := .ne) (t := 19) (b := false) (pc' := 15) rfl (teq h2).2 rfl ?_
  refine own_ks.go (mt := own_m6) rfl 2 (pc' := 20) (L' := [.val (.ref 6), .val (.ref 7), .val (.int (1 : Int32))]) (S' := [.int (1 : Int32)]) (H' := ((own_H4 s in1 (0 : Int32) in2 (2 : Int32) in3 ps) ++ [(.inr .int, [.int in1, .int last]), (.inr .int, [.int in1, .int last, .int (0 : Int32), .int (0 : Int32)])])) rfl ?_
  refine own_ks.back (mt := own_m6) rfl (ins := .ireturn) (t := 21) (v := some (.int (1 : Int32))) (S2 := [.int (1 : Int32)]) rfl rfl rfl ?_
  refine own_ks.go (mt := own_m0) rfl 4 (pc' := 294) (L' := [.val (.int shape), .val (.int in1), .val (.int in2), .val (.int in3), .val (.int last), .val (.int s), .val (.int (0 : Int32)), .val (.int (2 : Int32)), .val (.int (1 : Int32)), .val (.ref 0), .val (.ref 6), .val (.ref 7), .val (.int (1 : Int32))]) (S' := [.int (2 : Int32), .ref 7, .ref 6]) (H' := ((own_H4 s in1 (0 : Int32) in2 (2 : Int32) in3 ps) ++ [(.inr .int, [.int in1, .int last]), (.inr .int, [.int in1, .int last, .int (0 : Int32), .int (0 : Int32)])])) rfl ?_
  refine own_ks.into (mt := own_m0) (mj := own_m6) rfl (ins := .invokestatic 23) (t := 297) (j := 6) (as := [.ref 6, .ref 7, .int (2 : Int32)]) (r' := []) (L' := [.val (.ref 6), .val (.ref 7), .val (.int (2 : Int32))]) rfl rfl rfl rfl rfl rfl rfl rfl ?_
  refine own_ks.go (mt := own_m6) rfl 6 (pc' := 20) (L' := [.val (.ref 6), .val (.ref 7), .val (.int (2 : Int32))]) (S' := [.int (1 : Int32)]) (H' := ((own_H4 s in1 (0 : Int32) in2 (2 : Int32) in3 ps) ++ [(.inr .int, [.int in1, .int last]), (.inr .int, [.int in1, .int last, .int (0 : Int32), .int (0 : Int32)])])) rfl ?_
  refine own_ks.back (mt := own_m6) rfl (ins := .ireturn) (t := 21) (v := some (.int (1 : Int32))) (S2 := [.int (1 : Int32)]) rfl rfl rfl ?_
  refine own_ks.go (mt := own_m0) rfl 4 (pc' := 305) (L' := [.val (.int shape), .val (.int in1), .val (.int in2), .val (.int in3), .val (.int last), .val (.int s), .val (.int (0 : Int32)), .val (.int (2 : Int32)), .val (.int (1 : Int32)), .val (.ref 0), .val (.ref 6), .val (.ref 7), .val (.int (1 : Int32))]) (S' := [.int (3 : Int32), .ref 7, .ref 6]) (H' := ((own_H4 s in1 (0 : Int32) in2 (2 : Int32) in3 ps) ++ [(.inr .int, [.int in1, .int last]), (.inr .int, [.int in1, .int last, .int (0 : Int32), .int (0 : Int32)])])) rfl ?_
  refine own_ks.into (mt := own_m0) (mj := own_m6) rfl (ins := .invokestatic 23) (t := 308) (j := 6) (as := [.ref 6, .ref 7, .int (3 : Int32)]) (r' := []) (L' := [.val (.ref 6), .val (.ref 7), .val (.int (3 : Int32))]) rfl rfl rfl rfl rfl rfl rfl rfl ?_
  refine own_ks.go (mt := own_m6) rfl 6 (pc' := 20) (L' := [.val (.ref 6), .val (.ref 7), .val (.int (3 : Int32))]) (S' := [.int (1 : Int32)]) (H' := ((own_H4 s in1 (0 : Int32) in2 (2 : Int32) in3 ps) ++ [(.inr .int, [.int in1, .int last]), (.inr .int, [.int in1, .int last, .int (0 : Int32), .int (0 : Int32)])])) rfl ?_
  refine own_ks.back (mt := own_m6) rfl (ins := .ireturn) (t := 21) (v := some (.int (1 : Int32))) (S2 := [.int (1 : Int32)]) rfl rfl rfl ?_
  refine own_ks.go (mt := own_m0) rfl 3 (pc' := 316) (L' := [.val (.int shape), .val (.int in1), .val (.int in2), .val (.int in3), .val (.int last), .val (.int s), .val (.int (0 : Int32)), .val (.int (2 : Int32)), .val (.int (1 : Int32)), .val (.ref 0), .val (.ref 6), .val (.ref 7), .val (.int (1 : Int32))]) (S' := [.int (1 : Int32)]) (H' := ((own_H4 s in1 (0 : Int32) in2 (2 : Int32) in3 ps) ++ [(.inr .int, [.int in1, .int last]), (.inr .int, [.int in1, .int last, .int (0 : Int32), .int (0 : Int32)])])) rfl ?_
  exact own_ks.ret (mt := own_m0) rfl (ins := .ireturn) (t := 317) (v := some (.int (1 : Int32))) rfl rfl ⟨rfl, by simp [own_H4], by simp [own_H4, own_w, own_cw, own_sl_len, own_P, own_k0]⟩
set_option maxHeartbeats 4000000 in
theorem own_c_0_2_2 (shape in1 in2 in3 last s : Int32) (ps : List Nat) : own_ks own_P (own_end own_P.2.1 24 320) [] 0 6 160 84 [.val (.int shape), .val (.int in1), .val (.int in2), .val (.int in3), .val (.int last), .val (.int s), .val (.int (0 : Int32)), .val (.int (2 : Int32)), .val (.int (2 : Int32)), .val (.ref 0), .unset, .unset, .unset] [] (own_H4 s in1 (0 : Int32) in2 (2 : Int32) in3 ps) := by
  refine own_ks.go (mt := own_m0) rfl 3 (pc' := 90) (L' := [.val (.int shape), .val (.int in1), .val (.int in2), .val (.int in3), .val (.int last), .val (.int s), .val (.int (0 : Int32)), .val (.int (2 : Int32)), .val (.int (2 : Int32)), .val (.ref 0), .unset, .unset, .unset]) (S' := [.int last, .int (2 : Int32), .ref 0]) (H' := (own_H4 s in1 (0 : Int32) in2 (2 : Int32) in3 ps)) rfl ?_
  refine own_ks.into (mt := own_m0) (mj := own_m5) rfl (ins := .invokevirtual 19) (t := 93) (j := 5) (as := [.ref 0, .int (2 : Int32), .int last]) (r' := []) (L' := [.val (.ref 0), .val (.int (2 : Int32)), .val (.int last), .unset, .unset, .unset, .unset]) rfl rfl rfl rfl rfl rfl rfl rfl ?_
  refine own_ks.go (mt := own_m5) rfl 24 (pc' := 32) (L' := [.val (.ref 0), .val (.int (2 : Int32)), .val (.int last), .val (.int (2 : Int32)), .val (.int (0 : Int32)), .unset, .unset]) (S' := [.int (2 : Int32)]) (H' := (own_H4 s in1 (0 : Int32) in2 (2 : Int32) in3 ps)) rfl ?_
  refine own_ks.go (mt := own_m5) rfl 24 (pc' := 69) (L' := [.val (.ref 0), .val (.int (2 : Int32)), .val (.int last), .val (.int (2 : Int32)), .val (.ref 6), .val (.int (2 : Int32)), .val (.int (0 : Int32))]) (S' := [.ref 0]) (H' := ((own_H4 s in1 (0 : Int32) in2 (2 : Int32) in3 ps) ++ [(.inr .int, [.int in2, .int last])])) rfl ?_
  refine own_ks.go (mt := own_m5) rfl 9 (pc' := 85) (L' := [.val (.ref 0), .val (.int (2 : Int32)), .val (.int last), .val (.int (2 : Int32)), .val (.ref 6), .val (.int (0 : Int32)), .val (.int (-1 : Int32))]) (S' := [.ref 6]) (H' := ((own_H4 s in1 (0 : Int32) in2 (2 : Int32) in3 ps) ++ [(.inr .int, [.int in2, .int last])])) rfl ?_
  refine own_ks.back (mt := own_m5) rfl (ins := .areturn) (t := 86) (v := some (.ref 6)) (S2 := [.ref 6]) rfl rfl rfl ?_
  refine own_ks.go (mt := own_m0) rfl 24 (pc' := 249) (L' := [.val (.int shape), .val (.int in1), .val (.int in2), .val (.int in3), .val (.int last), .val (.int s), .val (.int (0 : Int32)), .val (.int (2 : Int32)), .val (.int (2 : Int32)), .val (.ref 0), .val (.ref 6), .val (.ref 7), .val (.int (1 : Int32))]) (S' := [.int last, .int (1 : Int32), .ref 7]) (H' := ((own_H4 s in1 (0 : Int32) in2 (2 : Int32) in3 ps) ++ [(.inr .int, [.int in2, .int last]), (.inr .int, [.int in2, .int (0 : Int32), .int (0 : Int32), .int (0 : Int32)])])) rfl ?_
  refine own_ks.go (mt := own_m0) rfl 12 (pc' := 272) (L' := [.val (.int shape), .val (.int in1), .val (.int in2), .val (.int in3), .val (.int last), .val (.int s), .val (.int (0 : Int32)), .val (.int (2 : Int32)), .val (.int (2 : Int32)), .val (.ref 0), .val (.ref 6), .val (.ref 7), .val (.int (1 : Int32))]) (S' := [.int (0 : Int32), .ref 7, .ref 6]) (H' := ((own_H4 s in1 (0 : Int32) in2 (2 : Int32) in3 ps) ++ [(.inr .int, [.int in2, .int last]), (.inr .int, [.int in2, .int last, .int (0 : Int32), .int (0 : Int32)])])) rfl ?_
  refine own_ks.into (mt := own_m0) (mj := own_m6) rfl (ins := .invokestatic 23) (t := 275) (j := 6) (as := [.ref 6, .ref 7, .int (0 : Int32)]) (r' := []) (L' := [.val (.ref 6), .val (.ref 7), .val (.int (0 : Int32))]) rfl rfl rfl rfl rfl rfl rfl rfl ?_
  refine own_ks.go (mt := own_m6) rfl 10 (pc' := 12) (L' := [.val (.ref 6), .val (.ref 7), .val (.int (0 : Int32))]) (S' := [.int in2, .int in2]) (H' := ((own_H4 s in1 (0 : Int32) in2 (2 : Int32) in3 ps) ++ [(.inr .int, [.int in2, .int last]), (.inr .int, [.int in2, .int last, .int (0 : Int32), .int (0 : Int32)])])) rfl ?_
  have h1 : in2 = in2 := by rfl
  refine own_ks.br2 (mt := own_m6) rfl (cd := .ne) (t := 19) (b := false) (pc' := 15) rfl (teq h1).2 rfl ?_
  refine own_ks.go (mt := own_m6) rfl 2 (pc' := 20) (L' := [.val (.ref 6), .val (.ref 7), .val (.int (0 : Int32))]) (S' := [.int (1 : Int32)]) (H' := ((own_H4 s in1 (0 : Int32) in2 (2 : Int32) in3 ps) ++ [(.inr .int, [.int in2, .int last]), (.inr .int, [.int in2, .int last, .int (0 : Int32), .int (0 : Int32)])])) rfl ?_
  refine own_ks.back (mt := own_m6) rfl (ins := .ireturn) (t := 21) (v := some (.int (1 : Int32))) (S2 := [.int (1 : Int32)]) rfl rfl rfl ?_
  refine own_ks.go (mt := own_m0) rfl 4 (pc' := 283) (L' := [.val (.int shape), .val (.int in1), .val (.int in2), .val (.int in3), .val (.int last), .val (.int s), .val (.int (0 : Int32)), .val (.int (2 : Int32)), .val (.int (2 : Int32)), .val (.ref 0), .val (.ref 6), .val (.ref 7), .val (.int (1 : Int32))]) (S' := [.int (1 : Int32), .ref 7, .ref 6]) (H' := ((own_H4 s in1 (0 : Int32) in2 (2 : Int32) in3 ps) ++ [(.inr .int, [.int in2, .int last]), (.inr .int, [.int in2, .int last, .int (0 : Int32), .int (0 : Int32)])])) rfl ?_
  refine own_ks.into (mt := own_m0) (mj := own_m6) rfl (ins := .invokestatic 23) (t := 286) (j := 6) (as := [.ref 6, .ref 7, .int (1 : Int32)]) (r' := []) (L' := [.val (.ref 6), .val (.ref 7), .val (.int (1 : Int32))]) rfl rfl rfl rfl rfl rfl rfl rfl ?_
  refine own_ks.go (mt := own_m6) rfl 10 (pc' := 12) (L' := [.val (.ref 6), .val (.ref 7), .val (.int (1 : Int32))]) (S' := [.int last, .int last]) (H' := ((own_H4 s in1 (0 : Int32) in2 (2 : Int32) in3 ps) ++ [(.inr .int, [.int in2, .int last]), (.inr .int, [.int in2, .int last, .int (0 : Int32), .int (0 : Int32)])])) rfl ?_
  have h2 : last = last := by rfl
  refine own_ks.br2 (mt := own_m6) rfl (cd := .ne) (t := 19) (b := false) (pc' := 15) rfl (teq h2).2 rfl ?_
  refine own_ks.go (mt := own_m6) rfl 2 (pc' := 20) (L' := [.val (.ref 6), .val (.ref 7), .val (.int (1 : Int32))]) (S' := [.int (1 : Int32)]) (H' := ((own_H4 s in1 (0 : Int32) in2 (2 : Int32) in3 ps) ++ [(.inr .int, [.int in2, .int last]), (.inr .int, [.int in2, .int last, .int (0 : Int32), .int (0 : Int32)])])) rfl ?_
  refine own_ks.back (mt := own_m6) rfl (ins := .ireturn) (t := 21) (v := some (.int (1 : Int32))) (S2 := [.int (1 : Int32)]) rfl rfl rfl ?_
  refine own_ks.go (mt := own_m0) rfl 4 (pc' := 294) (L' := [.val (.int shape), .val (.int in1), .val (.int in2), .val (.int in3), .val (.int last), .val (.int s), .val (.int (0 : Int32)), .val (.int (2 : Int32)), .val (.int (2 : Int32)), .val (.ref 0), .val (.ref 6), .val (.ref 7), .val (.int (1 : Int32))]) (S' := [.int (2 : Int32), .ref 7, .ref 6]) (H' := ((own_H4 s in1 (0 : Int32) in2 (2 : Int32) in3 ps) ++ [(.inr .int, [.int in2, .int last]), (.inr .int, [.int in2, .int last, .int (0 : Int32), .int (0 : Int32)])])) rfl ?_
  refine own_ks.into (mt := own_m0) (mj := own_m6) rfl (ins := .invokestatic 23) (t := 297) (j := 6) (as := [.ref 6, .ref 7, .int (2 : Int32)]) (r' := []) (L' := [.val (.ref 6), .val (.ref 7), .val (.int (2 : Int32))]) rfl rfl rfl rfl rfl rfl rfl rfl ?_
  refine own_ks.go (mt := own_m6) rfl 6 (pc' := 20) (L' := [.val (.ref 6), .val (.ref 7), .val (.int (2 : Int32))]) (S' := [.int (1 : Int32)]) (H' := ((own_H4 s in1 (0 : Int32) in2 (2 : Int32) in3 ps) ++ [(.inr .int, [.int in2, .int last]), (.inr .int, [.int in2, .int last, .int (0 : Int32), .int (0 : Int32)])])) rfl ?_
  refine own_ks.back (mt := own_m6) rfl (ins := .ireturn) (t := 21) (v := some (.int (1 : Int32))) (S2 := [.int (1 : Int32)]) rfl rfl rfl ?_
  refine own_ks.go (mt := own_m0) rfl 4 (pc' := 305) (L' := [.val (.int shape), .val (.int in1), .val (.int in2), .val (.int in3), .val (.int last), .val (.int s), .val (.int (0 : Int32)), .val (.int (2 : Int32)), .val (.int (2 : Int32)), .val (.ref 0), .val (.ref 6), .val (.ref 7), .val (.int (1 : Int32))]) (S' := [.int (3 : Int32), .ref 7, .ref 6]) (H' := ((own_H4 s in1 (0 : Int32) in2 (2 : Int32) in3 ps) ++ [(.inr .int, [.int in2, .int last]), (.inr .int, [.int in2, .int last, .int (0 : Int32), .int (0 : Int32)])])) rfl ?_
  refine own_ks.into (mt := own_m0) (mj := own_m6) rfl (ins := .invokestatic 23) (t := 308) (j := 6) (as := [.ref 6, .ref 7, .int (3 : Int32)]) (r' := []) (L' := [.val (.ref 6), .val (.ref 7), .val (.int (3 : Int32))]) rfl rfl rfl rfl rfl rfl rfl rfl ?_
  refine own_ks.go (mt := own_m6) rfl 6 (pc' := 20) (L' := [.val (.ref 6), .val (.ref 7), .val (.int (3 : Int32))]) (S' := [.int (1 : Int32)]) (H' := ((own_H4 s in1 (0 : Int32) in2 (2 : Int32) in3 ps) ++ [(.inr .int, [.int in2, .int last]), (.inr .int, [.int in2, .int last, .int (0 : Int32), .int (0 : Int32)])])) rfl ?_
  refine own_ks.back (mt := own_m6) rfl (ins := .ireturn) (t := 21) (v := some (.int (1 : Int32))) (S2 := [.int (1 : Int32)]) rfl rfl rfl ?_
  refine own_ks.go (mt := own_m0) rfl 3 (pc' := 316) (L' := [.val (.int shape), .val (.int in1), .val (.int in2), .val (.int in3), .val (.int last), .val (.int s), .val (.int (0 : Int32)), .val (.int (2 : Int32)), .val (.int (2 : Int32)), .val (.ref 0), .val (.ref 6), .val (.ref 7), .val (.int (1 : Int32))]) (S' := [.int (1 : Int32)]) (H' := ((own_H4 s in1 (0 : Int32) in2 (2 : Int32) in3 ps) ++ [(.inr .int, [.int in2, .int last]), (.inr .int, [.int in2, .int last, .int (0 : Int32), .int (0 : Int32)])])) rfl ?_
  exact own_ks.ret (mt := own_m0) rfl (ins := .ireturn) (t := 317) (v := some (.int (1 : Int32))) rfl rfl ⟨rfl, by simp [own_H4], by simp [own_H4, own_w, own_cw, own_sl_len, own_P, own_k0]⟩
set_option maxHeartbeats 4000000 in
theorem own_c_0_2_3 (shape in1 in2 in3 last s : Int32) (ps : List Nat) : own_ks own_P (own_end own_P.2.1 24 320) [] 0 6 160 84 [.val (.int shape), .val (.int in1), .val (.int in2), .val (.int in3), .val (.int last), .val (.int s), .val (.int (0 : Int32)), .val (.int (2 : Int32)), .val (.int (3 : Int32)), .val (.ref 0), .unset, .unset, .unset] [] (own_H4 s in1 (0 : Int32) in2 (2 : Int32) in3 ps) := by
  refine own_ks.go (mt := own_m0) rfl 3 (pc' := 90) (L' := [.val (.int shape), .val (.int in1), .val (.int in2), .val (.int in3), .val (.int last), .val (.int s), .val (.int (0 : Int32)), .val (.int (2 : Int32)), .val (.int (3 : Int32)), .val (.ref 0), .unset, .unset, .unset]) (S' := [.int last, .int (3 : Int32), .ref 0]) (H' := (own_H4 s in1 (0 : Int32) in2 (2 : Int32) in3 ps)) rfl ?_
  refine own_ks.into (mt := own_m0) (mj := own_m5) rfl (ins := .invokevirtual 19) (t := 93) (j := 5) (as := [.ref 0, .int (3 : Int32), .int last]) (r' := []) (L' := [.val (.ref 0), .val (.int (3 : Int32)), .val (.int last), .unset, .unset, .unset, .unset]) rfl rfl rfl rfl rfl rfl rfl rfl ?_
  refine own_ks.go (mt := own_m5) rfl 24 (pc' := 19) (L' := [.val (.ref 0), .val (.int (3 : Int32)), .val (.int last), .val (.int (3 : Int32)), .val (.int (2 : Int32)), .unset, .unset]) (S' := []) (H' := (own_H4 s in1 (0 : Int32) in2 (2 : Int32) in3 ps)) rfl ?_
  refine own_ks.go (mt := own_m5) rfl 24 (pc' := 47) (L' := [.val (.ref 0), .val (.int (3 : Int32)), .val (.int last), .val (.int (3 : Int32)), .val (.ref 6), .val (.int (3 : Int32)), .unset]) (S' := [.int (3 : Int32)]) (H' := ((own_H4 s in1 (0 : Int32) in2 (2 : Int32) in3 ps) ++ [(.inr .int, [.int (0 : Int32), .int (0 : Int32), .int last])])) rfl ?_
  refine own_ks.go (mt := own_m5) rfl 24 (pc' := 61) (L' := [.val (.ref 0), .val (.int (3 : Int32)), .val (.int last), .val (.int (3 : Int32)), .val (.ref 6), .val (.int (2 : Int32)), .val (.int (0 : Int32))]) (S' := [.ref 0, .int (0 : Int32), .ref 6]) (H' := ((own_H4 s in1 (0 : Int32) in2 (2 : Int32) in3 ps) ++ [(.inr .int, [.int (0 : Int32), .int in3, .int last])])) rfl ?_
  refine own_ks.go (mt := own_m5) rfl 14 (pc' := 85) (L' := [.val (.ref 0), .val (.int (3 : Int32)), .val (.int last), .val (.int (3 : Int32)), .val (.ref 6), .val (.int (0 : Int32)), .val (.int (-1 : Int32))]) (S' := [.ref 6]) (H' := ((own_H4 s in1 (0 : Int32) in2 (2 : Int32) in3 ps) ++ [(.inr .int, [.int in2, .int in3, .int last])])) rfl ?_
  refine own_ks.back (mt := own_m5) rfl (ins := .areturn) (t := 86) (v := some (.ref 6)) (S2 := [.ref 6]) rfl rfl rfl ?_
  refine own_ks.go (mt := own_m0) rfl 24 (pc' := 216) (L' := [.val (.int shape), .val (.int in1), .val (.int in2), .val (.int in3), .val (.int last), .val (.int s), .val (.int (0 : Int32)), .val (.int (2 : Int32)), .val (.int (3 : Int32)), .val (.ref 0), .val (.ref 6), .val (.ref 7), .val (.int (2 : Int32))]) (S' := [.int in2, .int (0 : Int32), .ref 7]) (H' := ((own_H4 s in1 (0 : Int32) in2 (2 : Int32) in3 ps) ++ [(.inr .int, [.int in2, .int in3, .int last]), (.inr .int, [.int (0 : Int32), .int (0 : Int32), .int (0 : Int32), .int (0 : Int32)])])) rfl ?_
  refine own_ks.go (mt := own_m0) rfl 21 (pc' := 272) (L' := [.val (.int shape), .val (.int in1), .val (.int in2), .val (.int in3), .val (.int last), .val (.int s), .val (.int (0 : Int32)), .val (.int (2 : Int32)), .val (.int (3 : Int32)), .val (.ref 0), .val (.ref 6), .val (.ref 7), .val (.int (2 : Int32))]) (S' := [.int (0 : Int32), .ref 7, .ref 6]) (H' := ((own_H4 s in1 (0 : Int32) in2 (2 : Int32) in3 ps) ++ [(.inr .int, [.int in2, .int in3, .int last]), (.inr .int, [.int in2, .int in3, .int last, .int (0 : Int32)])])) rfl ?_
  refine own_ks.into (mt := own_m0) (mj := own_m6) rfl (ins := .invokestatic 23) (t := 275) (j := 6) (as := [.ref 6, .ref 7, .int (0 : Int32)]) (r' := []) (L' := [.val (.ref 6), .val (.ref 7), .val (.int (0 : Int32))]) rfl rfl rfl rfl rfl rfl rfl rfl ?_
  refine own_ks.go (mt := own_m6) rfl 10 (pc' := 12) (L' := [.val (.ref 6), .val (.ref 7), .val (.int (0 : Int32))]) (S' := [.int in2, .int in2]) (H' := ((own_H4 s in1 (0 : Int32) in2 (2 : Int32) in3 ps) ++ [(.inr .int, [.int in2, .int in3, .int last]), (.inr .int, [.int in2, .int in3, .int last, .int (0 : Int32)])])) rfl ?_
  have h1 : in2 = in2 := by rfl
  refine own_ks.br2 (mt := own_m6) rfl (cd := .ne) (t := 19) (b := false) (pc' := 15) rfl (teq h1).2 rfl ?_
  refine own_ks.go (mt := own_m6) rfl 2 (pc' := 20) (L' := [.val (.ref 6), .val (.ref 7), .val (.int (0 : Int32))]) (S' := [.int (1 : Int32)]) (H' := ((own_H4 s in1 (0 : Int32) in2 (2 : Int32) in3 ps) ++ [(.inr .int, [.int in2, .int in3, .int last]), (.inr .int, [.int in2, .int in3, .int last, .int (0 : Int32)])])) rfl ?_
  refine own_ks.back (mt := own_m6) rfl (ins := .ireturn) (t := 21) (v := some (.int (1 : Int32))) (S2 := [.int (1 : Int32)]) rfl rfl rfl ?_
  refine own_ks.go (mt := own_m0) rfl 4 (pc' := 283) (L' := [.val (.int shape), .val (.int in1), .val (.int in2), .val (.int in3), .val (.int last), .val (.int s), .val (.int (0 : Int32)), .val (.int (2 : Int32)), .val (.int (3 : Int32)), .val (.ref 0), .val (.ref 6), .val (.ref 7), .val (.int (2 : Int32))]) (S' := [.int (1 : Int32), .ref 7, .ref 6]) (H' := ((own_H4 s in1 (0 : Int32) in2 (2 : Int32) in3 ps) ++ [(.inr .int, [.int in2, .int in3, .int last]), (.inr .int, [.int in2, .int in3, .int last, .int (0 : Int32)])])) rfl ?_
  refine own_ks.into (mt := own_m0) (mj := own_m6) rfl (ins := .invokestatic 23) (t := 286) (j := 6) (as := [.ref 6, .ref 7, .int (1 : Int32)]) (r' := []) (L' := [.val (.ref 6), .val (.ref 7), .val (.int (1 : Int32))]) rfl rfl rfl rfl rfl rfl rfl rfl ?_
  refine own_ks.go (mt := own_m6) rfl 10 (pc' := 12) (L' := [.val (.ref 6), .val (.ref 7), .val (.int (1 : Int32))]) (S' := [.int in3, .int in3]) (H' := ((own_H4 s in1 (0 : Int32) in2 (2 : Int32) in3 ps) ++ [(.inr .int, [.int in2, .int in3, .int last]), (.inr .int, [.int in2, .int in3, .int last, .int (0 : Int32)])])) rfl ?_
  have h2 : in3 = in3 := by rfl
  refine own_ks.br2 (mt := own_m6) rfl (cd := .ne) (t := 19) (b := false) (pc' := 15) rfl (teq h2).2 rfl ?_
  refine own_ks.go (mt := own_m6) rfl 2 (pc' := 20) (L' := [.val (.ref 6), .val (.ref 7), .val (.int (1 : Int32))]) (S' := [.int (1 : Int32)]) (H' := ((own_H4 s in1 (0 : Int32) in2 (2 : Int32) in3 ps) ++ [(.inr .int, [.int in2, .int in3, .int last]), (.inr .int, [.int in2, .int in3, .int last, .int (0 : Int32)])])) rfl ?_
  refine own_ks.back (mt := own_m6) rfl (ins := .ireturn) (t := 21) (v := some (.int (1 : Int32))) (S2 := [.int (1 : Int32)]) rfl rfl rfl ?_
  refine own_ks.go (mt := own_m0) rfl 4 (pc' := 294) (L' := [.val (.int shape), .val (.int in1), .val (.int in2), .val (.int in3), .val (.int last), .val (.int s), .val (.int (0 : Int32)), .val (.int (2 : Int32)), .val (.int (3 : Int32)), .val (.ref 0), .val (.ref 6), .val (.ref 7), .val (.int (2 : Int32))]) (S' := [.int (2 : Int32), .ref 7, .ref 6]) (H' := ((own_H4 s in1 (0 : Int32) in2 (2 : Int32) in3 ps) ++ [(.inr .int, [.int in2, .int in3, .int last]), (.inr .int, [.int in2, .int in3, .int last, .int (0 : Int32)])])) rfl ?_
  refine own_ks.into (mt := own_m0) (mj := own_m6) rfl (ins := .invokestatic 23) (t := 297) (j := 6) (as := [.ref 6, .ref 7, .int (2 : Int32)]) (r' := []) (L' := [.val (.ref 6), .val (.ref 7), .val (.int (2 : Int32))]) rfl rfl rfl rfl rfl rfl rfl rfl ?_
  refine own_ks.go (mt := own_m6) rfl 10 (pc' := 12) (L' := [.val (.ref 6), .val (.ref 7), .val (.int (2 : Int32))]) (S' := [.int last, .int last]) (H' := ((own_H4 s in1 (0 : Int32) in2 (2 : Int32) in3 ps) ++ [(.inr .int, [.int in2, .int in3, .int last]), (.inr .int, [.int in2, .int in3, .int last, .int (0 : Int32)])])) rfl ?_
  have h3 : last = last := by rfl
  refine own_ks.br2 (mt := own_m6) rfl (cd := .ne) (t := 19) (b := false) (pc' := 15) rfl (teq h3).2 rfl ?_
  refine own_ks.go (mt := own_m6) rfl 2 (pc' := 20) (L' := [.val (.ref 6), .val (.ref 7), .val (.int (2 : Int32))]) (S' := [.int (1 : Int32)]) (H' := ((own_H4 s in1 (0 : Int32) in2 (2 : Int32) in3 ps) ++ [(.inr .int, [.int in2, .int in3, .int last]), (.inr .int, [.int in2, .int in3, .int last, .int (0 : Int32)])])) rfl ?_
  refine own_ks.back (mt := own_m6) rfl (ins := .ireturn) (t := 21) (v := some (.int (1 : Int32))) (S2 := [.int (1 : Int32)]) rfl rfl rfl ?_
  refine own_ks.go (mt := own_m0) rfl 4 (pc' := 305) (L' := [.val (.int shape), .val (.int in1), .val (.int in2), .val (.int in3), .val (.int last), .val (.int s), .val (.int (0 : Int32)), .val (.int (2 : Int32)), .val (.int (3 : Int32)), .val (.ref 0), .val (.ref 6), .val (.ref 7), .val (.int (2 : Int32))]) (S' := [.int (3 : Int32), .ref 7, .ref 6]) (H' := ((own_H4 s in1 (0 : Int32) in2 (2 : Int32) in3 ps) ++ [(.inr .int, [.int in2, .int in3, .int last]), (.inr .int, [.int in2, .int in3, .int last, .int (0 : Int32)])])) rfl ?_
  refine own_ks.into (mt := own_m0) (mj := own_m6) rfl (ins := .invokestatic 23) (t := 308) (j := 6) (as := [.ref 6, .ref 7, .int (3 : Int32)]) (r' := []) (L' := [.val (.ref 6), .val (.ref 7), .val (.int (3 : Int32))]) rfl rfl rfl rfl rfl rfl rfl rfl ?_
  refine own_ks.go (mt := own_m6) rfl 6 (pc' := 20) (L' := [.val (.ref 6), .val (.ref 7), .val (.int (3 : Int32))]) (S' := [.int (1 : Int32)]) (H' := ((own_H4 s in1 (0 : Int32) in2 (2 : Int32) in3 ps) ++ [(.inr .int, [.int in2, .int in3, .int last]), (.inr .int, [.int in2, .int in3, .int last, .int (0 : Int32)])])) rfl ?_
  refine own_ks.back (mt := own_m6) rfl (ins := .ireturn) (t := 21) (v := some (.int (1 : Int32))) (S2 := [.int (1 : Int32)]) rfl rfl rfl ?_
  refine own_ks.go (mt := own_m0) rfl 3 (pc' := 316) (L' := [.val (.int shape), .val (.int in1), .val (.int in2), .val (.int in3), .val (.int last), .val (.int s), .val (.int (0 : Int32)), .val (.int (2 : Int32)), .val (.int (3 : Int32)), .val (.ref 0), .val (.ref 6), .val (.ref 7), .val (.int (2 : Int32))]) (S' := [.int (1 : Int32)]) (H' := ((own_H4 s in1 (0 : Int32) in2 (2 : Int32) in3 ps) ++ [(.inr .int, [.int in2, .int in3, .int last]), (.inr .int, [.int in2, .int in3, .int last, .int (0 : Int32)])])) rfl ?_
  exact own_ks.ret (mt := own_m0) rfl (ins := .ireturn) (t := 317) (v := some (.int (1 : Int32))) rfl rfl ⟨rfl, by simp [own_H4], by simp [own_H4, own_w, own_cw, own_sl_len, own_P, own_k0]⟩
set_option maxHeartbeats 4000000 in
theorem own_c_1_0_0 (shape in1 in2 in3 last s : Int32) (ps : List Nat) : own_ks own_P (own_end own_P.2.1 24 320) [] 0 6 160 84 [.val (.int shape), .val (.int in1), .val (.int in2), .val (.int in3), .val (.int last), .val (.int s), .val (.int (1 : Int32)), .val (.int (0 : Int32)), .val (.int (0 : Int32)), .val (.ref 0), .unset, .unset, .unset] [] (own_H4 s in1 (1 : Int32) in2 (0 : Int32) in3 ps) := by
  refine own_ks.go (mt := own_m0) rfl 3 (pc' := 90) (L' := [.val (.int shape), .val (.int in1), .val (.int in2), .val (.int in3), .val (.int last), .val (.int s), .val (.int (1 : Int32)), .val (.int (0 : Int32)), .val (.int (0 : Int32)), .val (.ref 0), .unset, .unset, .unset]) (S' := [.int last, .int (0 : Int32), .ref 0]) (H' := (own_H4 s in1 (1 : Int32) in2 (0 : Int32) in3 ps)) rfl ?_
  refine own_ks.into (mt := own_m0) (mj := own_m5) rfl (ins := .invokevirtual 19) (t := 93) (j := 5) (as := [.ref 0, .int (0 : Int32), .int last]) (r' := []) (L' := [.val (.ref 0), .val (.int (0 : Int32)), .val (.int last), .unset, .unset, .unset, .unset]) rfl rfl rfl rfl rfl rfl rfl rfl ?_
  refine own_ks.go (mt := own_m5) rfl 24 (pc' := 49) (L' := [.val (.ref 0), .val (.int (0 : Int32)), .val (.int last), .val (.int (1 : Int32)), .val (.ref 6), .val (.int (0 : Int32)), .unset]) (S' := [.int (-1 : Int32)]) (H' := ((own_H4 s in1 (1 : Int32) in2 (0 : Int32) in3 ps) ++ [(.inr .int, [.int last])])) rfl ?_
  refine own_ks.go (mt := own_m5) rfl 4 (pc' := 85) (L' := [.val (.ref 0), .val (.int (0 : Int32)), .val (.int last), .val (.int (1 : Int32)), .val (.ref 6), .val (.int (0 : Int32)), .val (.int (-1 : Int32))]) (S' := [.ref 6]) (H' := ((own_H4 s in1 (1 : Int32) in2 (0 : Int32) in3 ps) ++ [(.inr .int, [.int last])])) rfl ?_
  refine own_ks.back (mt := own_m5) rfl (ins := .areturn) (t := 86) (v := some (.ref 6)) (S2 := [.ref 6]) rfl rfl rfl ?_
  refine own_ks.go (mt := own_m0) rfl 24 (pc' := 272) (L' := [.val (.int shape), .val (.int in1), .val (.int in2), .val (.int in3), .val (.int last), .val (.int s), .val (.int (1 : Int32)), .val (.int (0 : Int32)), .val (.int (0 : Int32)), .val (.ref 0), .val (.ref 6), .val (.ref 7), .val (.int (0 : Int32))]) (S' := [.int (0 : Int32), .ref 7, .ref 6]) (H' := ((own_H4 s in1 (1 : Int32) in2 (0 : Int32) in3 ps) ++ [(.inr .int, [.int last]), (.inr .int, [.int last, .int (0 : Int32), .int (0 : Int32), .int (0 : Int32)])])) rfl ?_
  refine own_ks.into (mt := own_m0) (mj := own_m6) rfl (ins := .invokestatic 23) (t := 275) (j := 6) (as := [.ref 6, .ref 7, .int (0 : Int32)]) (r' := []) (L' := [.val (.ref 6), .val (.ref 7), .val (.int (0 : Int32))]) rfl rfl rfl rfl rfl rfl rfl rfl ?_
  refine own_ks.go (mt := own_m6) rfl 10 (pc' := 12) (L' := [.val (.ref 6), .val (.ref 7), .val (.int (0 : Int32))]) (S' := [.int last, .int last]) (H' := ((own_H4 s in1 (1 : Int32) in2 (0 : Int32) in3 ps) ++ [(.inr .int, [.int last]), (.inr .int, [.int last, .int (0 : Int32), .int (0 : Int32), .int (0 : Int32)])])) rfl ?_
  have h1 : last = last := by rfl
  refine own_ks.br2 (mt := own_m6) rfl (cd := .ne) (t := 19) (b := false) (pc' := 15) rfl (teq h1).2 rfl ?_
  refine own_ks.go (mt := own_m6) rfl 2 (pc' := 20) (L' := [.val (.ref 6), .val (.ref 7), .val (.int (0 : Int32))]) (S' := [.int (1 : Int32)]) (H' := ((own_H4 s in1 (1 : Int32) in2 (0 : Int32) in3 ps) ++ [(.inr .int, [.int last]), (.inr .int, [.int last, .int (0 : Int32), .int (0 : Int32), .int (0 : Int32)])])) rfl ?_
  refine own_ks.back (mt := own_m6) rfl (ins := .ireturn) (t := 21) (v := some (.int (1 : Int32))) (S2 := [.int (1 : Int32)]) rfl rfl rfl ?_
  refine own_ks.go (mt := own_m0) rfl 4 (pc' := 283) (L' := [.val (.int shape), .val (.int in1), .val (.int in2), .val (.int in3), .val (.int last), .val (.int s), .val (.int (1 : Int32)), .val (.int (0 : Int32)), .val (.int (0 : Int32)), .val (.ref 0), .val (.ref 6), .val (.ref 7), .val (.int (0 : Int32))]) (S' := [.int (1 : Int32), .ref 7, .ref 6]) (H' := ((own_H4 s in1 (1 : Int32) in2 (0 : Int32) in3 ps) ++ [(.inr .int, [.int last]), (.inr .int, [.int last, .int (0 : Int32), .int (0 : Int32), .int (0 : Int32)])])) rfl ?_
  refine own_ks.into (mt := own_m0) (mj := own_m6) rfl (ins := .invokestatic 23) (t := 286) (j := 6) (as := [.ref 6, .ref 7, .int (1 : Int32)]) (r' := []) (L' := [.val (.ref 6), .val (.ref 7), .val (.int (1 : Int32))]) rfl rfl rfl rfl rfl rfl rfl rfl ?_
  refine own_ks.go (mt := own_m6) rfl 6 (pc' := 20) (L' := [.val (.ref 6), .val (.ref 7), .val (.int (1 : Int32))]) (S' := [.int (1 : Int32)]) (H' := ((own_H4 s in1 (1 : Int32) in2 (0 : Int32) in3 ps) ++ [(.inr .int, [.int last]), (.inr .int, [.int last, .int (0 : Int32), .int (0 : Int32), .int (0 : Int32)])])) rfl ?_
  refine own_ks.back (mt := own_m6) rfl (ins := .ireturn) (t := 21) (v := some (.int (1 : Int32))) (S2 := [.int (1 : Int32)]) rfl rfl rfl ?_
  refine own_ks.go (mt := own_m0) rfl 4 (pc' := 294) (L' := [.val (.int shape), .val (.int in1), .val (.int in2), .val (.int in3), .val (.int last), .val (.int s), .val (.int (1 : Int32)), .val (.int (0 : Int32)), .val (.int (0 : Int32)), .val (.ref 0), .val (.ref 6), .val (.ref 7), .val (.int (0 : Int32))]) (S' := [.int (2 : Int32), .ref 7, .ref 6]) (H' := ((own_H4 s in1 (1 : Int32) in2 (0 : Int32) in3 ps) ++ [(.inr .int, [.int last]), (.inr .int, [.int last, .int (0 : Int32), .int (0 : Int32), .int (0 : Int32)])])) rfl ?_
  refine own_ks.into (mt := own_m0) (mj := own_m6) rfl (ins := .invokestatic 23) (t := 297) (j := 6) (as := [.ref 6, .ref 7, .int (2 : Int32)]) (r' := []) (L' := [.val (.ref 6), .val (.ref 7), .val (.int (2 : Int32))]) rfl rfl rfl rfl rfl rfl rfl rfl ?_
  refine own_ks.go (mt := own_m6) rfl 6 (pc' := 20) (L' := [.val (.ref 6), .val (.ref 7), .val (.int (2 : Int32))]) (S' := [.int (1 : Int32)]) (H' := ((own_H4 s in1 (1 : Int32) in2 (0 : Int32) in3 ps) ++ [(.inr .int, [.int last]), (.inr .int, [.int last, .int (0 : Int32), .int (0 : Int32), .int (0 : Int32)])])) rfl ?_
  refine own_ks.back (mt := own_m6) rfl (ins := .ireturn) (t := 21) (v := some (.int (1 : Int32))) (S2 := [.int (1 : Int32)]) rfl rfl rfl ?_
  refine own_ks.go (mt := own_m0) rfl 4 (pc' := 305) (L' := [.val (.int shape), .val (.int in1), .val (.int in2), .val (.int in3), .val (.int last), .val (.int s), .val (.int (1 : Int32)), .val (.int (0 : Int32)), .val (.int (0 : Int32)), .val (.ref 0), .val (.ref 6), .val (.ref 7), .val (.int (0 : Int32))]) (S' := [.int (3 : Int32), .ref 7, .ref 6]) (H' := ((own_H4 s in1 (1 : Int32) in2 (0 : Int32) in3 ps) ++ [(.inr .int, [.int last]), (.inr .int, [.int last, .int (0 : Int32), .int (0 : Int32), .int (0 : Int32)])])) rfl ?_
  refine own_ks.into (mt := own_m0) (mj := own_m6) rfl (ins := .invokestatic 23) (t := 308) (j := 6) (as := [.ref 6, .ref 7, .int (3 : Int32)]) (r' := []) (L' := [.val (.ref 6), .val (.ref 7), .val (.int (3 : Int32))]) rfl rfl rfl rfl rfl rfl rfl rfl ?_
  refine own_ks.go (mt := own_m6) rfl 6 (pc' := 20) (L' := [.val (.ref 6), .val (.ref 7), .val (.int (3 : Int32))]) (S' := [.int (1 : Int32)]) (H' := ((own_H4 s in1 (1 : Int32) in2 (0 : Int32) in3 ps) ++ [(.inr .int, [.int last]), (.inr .int, [.int last, .int (0 : Int32), .int (0 : Int32), .int (0 : Int32)])])) rfl ?_
  refine own_ks.back (mt := own_m6) rfl (ins := .ireturn) (t := 21) (v := some (.int (1 : Int32))) (S2 := [.int (1 : Int32)]) rfl rfl rfl ?_
  refine own_ks.go (mt := own_m0) rfl 3 (pc' := 316) (L' := [.val (.int shape), .val (.int in1), .val (.int in2), .val (.int in3), .val (.int last), .val (.int s), .val (.int (1 : Int32)), .val (.int (0 : Int32)), .val (.int (0 : Int32)), .val (.ref 0), .val (.ref 6), .val (.ref 7), .val (.int (0 : Int32))]) (S' := [.int (1 : Int32)]) (H' := ((own_H4 s in1 (1 : Int32) in2 (0 : Int32) in3 ps) ++ [(.inr .int, [.int last]), (.inr .int, [.int last, .int (0 : Int32), .int (0 : Int32), .int (0 : Int32)])])) rfl ?_
  exact own_ks.ret (mt := own_m0) rfl (ins := .ireturn) (t := 317) (v := some (.int (1 : Int32))) rfl rfl ⟨rfl, by simp [own_H4], by simp [own_H4, own_w, own_cw, own_sl_len, own_P, own_k0]⟩
set_option maxHeartbeats 4000000 in
theorem own_c_1_0_1 (shape in1 in2 in3 last s : Int32) (ps : List Nat) : own_ks own_P (own_end own_P.2.1 24 320) [] 0 6 160 84 [.val (.int shape), .val (.int in1), .val (.int in2), .val (.int in3), .val (.int last), .val (.int s), .val (.int (1 : Int32)), .val (.int (0 : Int32)), .val (.int (1 : Int32)), .val (.ref 0), .unset, .unset, .unset] [] (own_H4 s in1 (1 : Int32) in2 (0 : Int32) in3 ps) := by
  refine own_ks.go (mt := own_m0) rfl 3 (pc' := 90) (L' := [.val (.int shape), .val (.int in1), .val (.int in2), .val (.int in3), .val (.int last), .val (.int s), .val (.int (1 : Int32)), .val (.int (0 : Int32)), .val (.int (1 : Int32)), .val (.ref 0), .unset, .unset, .unset]) (S' := [.int last, .int (1 : Int32), .ref 0]) (H' := (own_H4 s in1 (1 : Int32) in2 (0 : Int32) in3 ps)) rfl ?_
  refine own_ks.into (mt := own_m0) (mj := own_m5) rfl (ins := .invokevirtual 19) (t := 93) (j := 5) (as := [.ref 0, .int (1 : Int32), .int last]) (r' := []) (L' := [.val (.ref 0), .val (.int (1 : Int32)), .val (.int last), .unset, .unset, .unset, .unset]) rfl rfl rfl rfl rfl rfl rfl rfl ?_
  refine own_ks.go (mt := own_m5) rfl 24 (pc' := 32) (L' := [.val (.ref 0), .val (.int (1 : Int32)), .val (.int last), .val (.int (2 : Int32)), .val (.int (0 : Int32)), .unset, .unset]) (S' := [.int (2 : Int32)]) (H' := (own_H4 s in1 (1 : Int32) in2 (0 : Int32) in3 ps)) rfl ?_
  refine own_ks.go (mt := own_m5) rfl 24 (pc' := 69) (L' := [.val (.ref 0), .val (.int (1 : Int32)), .val (.int last), .val (.int (2 : Int32)), .val (.ref 6), .val (.int (1 : Int32)), .val (.int (0 : Int32))]) (S' := [.ref 0]) (H' := ((own_H4 s in1 (1 : Int32) in2 (0 : Int32) in3 ps) ++ [(.inr .int, [.int in1, .int last])])) rfl ?_
  refine own_ks.go (mt := own_m5) rfl 9 (pc' := 85) (L' := [.val (.ref 0), .val (.int (1 : Int32)), .val (.int last), .val (.int (2 : Int32)), .val (.ref 6), .val (.int (0 : Int32)), .val (.int (-1 : Int32))]) (S' := [.ref 6]) (H' := ((own_H4 s in1 (1 : Int32) in2 (0 : Int32) in3 ps) ++ [(.inr .int, [.int in1, .int last])])) rfl ?_
  refine own_ks.back (mt := own_m5) rfl (ins := .areturn) (t := 86) (v := some (.ref 6)) (S2 := [.ref 6]) rfl rfl rfl ?_
  refine own_ks.go (mt := own_m0) rfl 24 (pc' := 258) (L' := [.val (.int shape), .val (.int in1), .val (.int in2), .val (.int in3), .val (.int last), .val (.int s), .val (.int (1 : Int32)), .val (.int (0 : Int32)), .val (.int (1 : Int32)), .val (.ref 0), .val (.ref 6), .val (.ref 7), .val (.int (1 : Int32))]) (S' := [.int (2 : Int32)]) (H' := ((own_H4 s in1 (1 : Int32) in2 (0 : Int32) in3 ps) ++ [(.inr .int, [.int in1, .int last]), (.inr .int, [.int in1, .int last, .int (0 : Int32), .int (0 : Int32)])])) rfl ?_
  refine own_ks.go (mt := own_m0) rfl 7 (pc' := 272) (L' := [.val (.int shape), .val (.int in1), .val (.int in2), .val (.int in3), .val (.int last), .val (.int s), .val (.int (1 : Int32)), .val (.int (0 : Int32)), .val (.int (1 : Int32)), .val (.ref 0), .val (.ref 6), .val (.ref 7), .val (.int (1 : Int32))]) (S' := [.int (0 : Int32), .ref 7, .ref 6]) (H' := ((own_H4 s in1 (1 : Int32) in2 (0 : Int32) in3 ps) ++ [(.inr .int, [.int in1, .int last]), (.inr .int, [.int in1, .int last, .int (0 : Int32), .int (0 : Int32)])])) rfl ?_
  refine own_ks.into (mt := own_m0) (mj := own_m6) rfl (ins := .invokestatic 23) (t := 275) (j := 6) (as := [.ref 6, .ref 7, .int (0 : Int32)]) (r' := []) (L' := [.val (.ref 6), .val (.ref 7), .val (.int (0 : Int32))]) rfl rfl rfl rfl rfl rfl rfl rfl ?_
  refine own_ks.go (mt := own_m6) rfl 10 (pc' := 12) (L' := [.val (.ref 6), .val (.ref 7), .val (.int (0 : Int32))]) (S' := [.int in1, .int in1]) (H' := ((own_H4 s in1 (1 : Int32) in2 (0 : Int32) in3 ps) ++ [(.inr .int, [.int in1, .int last]), (.inr .int, [.int in1, .int last, .int (0 : Int32), .int (0 : Int32)])])) rfl ?_
  have h1 : in1 = in1 := by rfl
  refine own_ks.br2 (mt := own_m6) rfl (cd := .ne) (t := 19) (b := false) (pc' := 15) rfl (teq h1).2 rfl ?_
  refine own_ks.go (mt := own_m6) rfl 2 (pc' := 20) (L' := [.val (.ref 6), .val (.ref 7), .val (.int (0 : Int32))]) (S' := [.int (1 : Int32)]) (H' := ((own_H4 s in1 (1 : Int32) in2 (0 : Int32) in3 ps) ++ [(.inr .int, [.int in1, .int last]), (.inr .int, [.int in1, .int last, .int (0 : Int32), .int (0 : Int32)])])) rfl ?_
  refine own_ks.back (mt := own_m6) rfl (ins := .ireturn) (t := 21) (v := some (.int (1 : Int32))) (S2 := [.int (1 : Int32)]) rfl rfl rfl ?_
  refine own_ks.go (mt := own_m0) rfl 4 (pc' := 283) (L' := [.val (.int shape), .val (.int in1), .val (.int in2), .val (.int in3), .val (.int last), .val (.int s), .val (.int (1 : Int32)), .val (.int (0 : Int32)), .val (.int (1 : Int32)), .val (.ref 0), .val (.ref 6), .val (.ref 7), .val (.int (1 : Int32))]) (S' := [.int (1 : Int32), .ref 7, .ref 6]) (H' := ((own_H4 s in1 (1 : Int32) in2 (0 : Int32) in3 ps) ++ [(.inr .int, [.int in1, .int last]), (.inr .int, [.int in1, .int last, .int (0 : Int32), .int (0 : Int32)])])) rfl ?_
  refine own_ks.into (mt := own_m0) (mj := own_m6) rfl (ins := .invokestatic 23) (t := 286) (j := 6) (as := [.ref 6, .ref 7, .int (1 : Int32)]) (r' := []) (L' := [.val (.ref 6), .val (.ref 7), .val (.int (1 : Int32))]) rfl rfl rfl rfl rfl rfl rfl rfl ?_
  refine own_ks.go (mt := own_m6) rfl 10 (pc' := 12) (L' := [.val (.ref 6), .val (.ref 7), .val (.int (1 : Int32))]) (S' := [.int last, .int last]) (H' := ((own_H4 s in1 (1 : Int32) in2 (0 : Int32) in3 ps) ++ [(.inr .int, [.int in1, .int last]), (.inr .int, [.int in1, .int last, .int (0 : Int32), .int (0 : Int32)])])) rfl ?_
  have h2 : last = last := by rfl
  refine own_ks.br2 (mt := own_m6) rfl (cd := .ne) (t := 19) (b := false) (pc' := 15) rfl (teq h2).2 rfl ?_
  refine own_ks.go (mt := own_m6) rfl 2 (pc' := 20) (L' := [.val (.ref 6), .val (.ref 7), .val (.int (1 : Int32))]) (S' := [.int (1 : Int32)]) (H' := ((own_H4 s in1 (1 : Int32) in2 (0 : Int32) in3 ps) ++ [(.inr .int, [.int in1, .int last]), (.inr .int, [.int in1, .int last, .int (0 : Int32), .int (0 : Int32)])])) rfl ?_
  refine own_ks.back (mt := own_m6) rfl (ins := .ireturn) (t := 21) (v := some (.int (1 : Int32))) (S2 := [.int (1 : Int32)]) rfl rfl rfl ?_
  refine own_ks.go (mt := own_m0) rfl 4 (pc' := 294) (L' := [.val (.int shape), .val (.int in1), .val (.int in2), .val (.int in3), .val (.int last), .val (.int s), .val (.int (1 : Int32)), .val (.int (0 : Int32)), .val (.int (1 : Int32)), .val (.ref 0), .val (.ref 6), .val (.ref 7), .val (.int (1 : Int32))]) (S' := [.int (2 : Int32), .ref 7, .ref 6]) (H' := ((own_H4 s in1 (1 : Int32) in2 (0 : Int32) in3 ps) ++ [(.inr .int, [.int in1, .int last]), (.inr .int, [.int in1, .int last, .int (0 : Int32), .int (0 : Int32)])])) rfl ?_
  refine own_ks.into (mt := own_m0) (mj := own_m6) rfl (ins := .invokestatic 23) (t := 297) (j := 6) (as := [.ref 6, .ref 7, .int (2 : Int32)]) (r' := []) (L' := [.val (.ref 6), .val (.ref 7), .val (.int (2 : Int32))]) rfl rfl rfl rfl rfl rfl rfl rfl ?_
  refine own_ks.go (mt := own_m6) rfl 6 (pc' := 20) (L' := [.val (.ref 6), .val (.ref 7), .val (.int (2 : Int32))]) (S' := [.int (1 : Int32)]) (H' := ((own_H4 s in1 (1 : Int32) in2 (0 : Int32) in3 ps) ++ [(.inr .int, [.int in1, .int last]), (.inr .int, [.int in1, .int last, .int (0 : Int32), .int (0 : Int32)])])) rfl ?_
  refine own_ks.back (mt := own_m6) rfl (ins := .ireturn) (t := 21) (v := some (.int (1 : Int32))) (S2 := [.int (1 : Int32)]) rfl rfl rfl ?_
  refine own_ks.go (mt := own_m0) rfl 4 (pc' := 305) (L' := [.val (.int shape), .val (.int in1), .val (.int in2), .val (.int in3), .val (.int last), .val (.int s), .val (.int (1 : Int32)), .val (.int (0 : Int32)), .val (.int (1 : Int32)), .val (.ref 0), .val (.ref 6), .val (.ref 7), .val (.int (1 : Int32))]) (S' := [.int (3 : Int32), .ref 7, .ref 6]) (H' := ((own_H4 s in1 (1 : Int32) in2 (0 : Int32) in3 ps) ++ [(.inr .int, [.int in1, .int last]), (.inr .int, [.int in1, .int last, .int (0 : Int32), .int (0 : Int32)])])) rfl ?_
  refine own_ks.into (mt := own_m0) (mj := own_m6) rfl (ins := .invokestatic 23) (t := 308) (j := 6) (as := [.ref 6, .ref 7, .int (3 : Int32)]) (r' := []) (L' := [.val (.ref 6), .val (.ref 7), .val (.int (3 : Int32))]) rfl rfl rfl rfl rfl rfl rfl rfl ?_
  refine own_ks.go (mt := own_m6) rfl 6 (pc' := 20) (L' := [.val (.ref 6), .val (.ref 7), .val (.int (3 : Int32))]) (S' := [.int (1 : Int32)]) (H' := ((own_H4 s in1 (1 : Int32) in2 (0 : Int32) in3 ps) ++ [(.inr .int, [.int in1, .int last]), (.inr .int, [.int in1, .int last, .int (0 : Int32), .int (0 : Int32)])])) rfl ?_
  refine own_ks.back (mt := own_m6) rfl (ins := .ireturn) (t := 21) (v := some (.int (1 : Int32))) (S2 := [.int (1 : Int32)]) rfl rfl rfl ?_
  refine own_ks.go (mt := own_m0) rfl 3 (pc' := 316) (L' := [.val (.int shape), .val (.int in1), .val (.int in2), .val (.int in3), .val (.int last), .val (.int s), .val (.int (1 : Int32)), .val (.int (0 : Int32)), .val (.int (1 : Int32)), .val (.ref 0), .val (.ref 6), .val (.ref 7), .val (.int (1 : Int32))]) (S' := [.int (1 : Int32)]) (H' := ((own_H4 s in1 (1 : Int32) in2 (0 : Int32) in3 ps) ++ [(.inr .int, [.int in1, .int last]), (.inr .int, [.int in1, .int last, .int (0 : Int32), .int (0 : Int32)])])) rfl ?_
  exact own_ks.ret (mt := own_m0) rfl (ins := .ireturn) (t := 317) (v := some (.int (1 : Int32))) rfl rfl ⟨rfl, by simp [own_H4], by simp [own_H4, own_w, own_cw, own_sl_len, own_P, own_k0]⟩
set_option maxHeartbeats 4000000 in
theorem own_c_1_0_2 (shape in1 in2 in3 last s : Int32) (ps : List Nat) : own_ks own_P (own_end own_P.2.1 24 320) [] 0 6 160 84 [.val (.int shape), .val (.int in1), .val (.int in2), .val (.int in3), .val (.int last), .val (.int s), .val (.int (1 : Int32)), .val (.int (0 : Int32)), .val (.int (2 : Int32)), .val (.ref 0), .unset, .unset, .unset] [] (own_H4 s in1 (1 : Int32) in2 (0 : Int32) in3 ps) := by
  refine own_ks.go (mt := own_m0) rfl 3 (pc' := 90) (L' := [.val (.int shape), .val (.int in1), .val (.int in2), .val (.int in3), .val (.int last), .val (.int s), .val (.int (1 : Int32)), .val (.int (0 : Int32)), .val (.int (2 : Int32)), .val (.ref 0), .unset, .unset, .unset]) (S' := [.int last, .int (2 : Int32), .ref 0]) (H' := (own_H4 s in1 (1 : Int32) in2 (0 : Int32) in3 ps)) rfl ?_
  refine own_ks.into (mt := own_m0) (mj := own_m5) rfl (ins := .invokevirtual 19) (t := 93) (j := 5) (as := [.ref 0, .int (2 : Int32), .int last]) (r' := []) (L' := [.val (.ref 0), .val (.int (2 : Int32)), .val (.int last), .unset, .unset, .unset, .unset]) rfl rfl rfl rfl rfl rfl rfl rfl ?_
  refine own_ks.go (mt := own_m5) rfl 24 (pc' := 19) (L' := [.val (.ref 0), .val (.int (2 : Int32)), .val (.int last), .val (.int (3 : Int32)), .val (.int (1 : Int32)), .unset, .unset]) (S' := []) (H' := (own_H4 s in1 (1 : Int32) in2 (0 : Int32) in3 ps)) rfl ?_
  refine own_ks.go (mt := own_m5) rfl 24 (pc' := 47) (L' := [.val (.ref 0), .val (.int (2 : Int32)), .val (.int last), .val (.int (3 : Int32)), .val (.ref 6), .val (.int (2 : Int32)), .unset]) (S' := [.int (3 : Int32)]) (H' := ((own_H4 s in1 (1 : Int32) in2 (0 : Int32) in3 ps) ++ [(.inr .int, [.int (0 : Int32), .int (0 : Int32), .int last])])) rfl ?_
  refine own_ks.go (mt := own_m5) rfl 24 (pc' := 61) (L' := [.val (.ref 0), .val (.int (2 : Int32)), .val (.int last), .val (.int (3 : Int32)), .val (.ref 6), .val (.int (1 : Int32)), .val (.int (0 : Int32))]) (S' := [.ref 0, .int (0 : Int32), .ref 6]) (H' := ((own_H4 s in1 (1 : Int32) in2 (0 : Int32) in3 ps) ++ [(.inr .int, [.int (0 : Int32), .int in2, .int last])])) rfl ?_
  refine own_ks.go (mt := own_m5) rfl 14 (pc' := 85) (L' := [.val (.ref 0), .val (.int (2 : Int32)), .val (.int last), .val (.int (3 : Int32)), .val (.ref 6), .val (.int (0 : Int32)), .val (.int (-1 : Int32))]) (S' := [.ref 6]) (H' := ((own_H4 s in1 (1 : Int32) in2 (0 : Int32) in3 ps) ++ [(.inr .int, [.int in1, .int in2, .int last])])) rfl ?_
  refine own_ks.back (mt := own_m5) rfl (ins := .areturn) (t := 86) (v := some (.ref 6)) (S2 := [.ref 6]) rfl rfl rfl ?_
  refine own_ks.go (mt := own_m0) rfl 24 (pc' := 163) (L' := [.val (.int shape), .val (.int in1), .val (.int in2), .val (.int in3), .val (.int last), .val (.int s), .val (.int (1 : Int32)), .val (.int (0 : Int32)), .val (.int (2 : Int32)), .val (.ref 0), .val (.ref 6), .val (.ref 7), .val (.int (2 : Int32))]) (S' := []) (H' := ((own_H4 s in1 (1 : Int32) in2 (0 : Int32) in3 ps) ++ [(.inr .int, [.int in1, .int in2, .int last]), (.inr .int, [.int in1, .int in2, .int (0 : Int32), .int (0 : Int32)])])) rfl ?_
  refine own_ks.go (mt := own_m0) rfl 16 (pc' := 272) (L' := [.val (.int shape), .val (.int in1), .val (.int in2), .val (.int in3), .val (.int last), .val (.int s), .val (.int (1 : Int32)), .val (.int (0 : Int32)), .val (.int (2 : Int32)), .val (.ref 0), .val (.ref 6), .val (.ref 7), .val (.int (2 : Int32))]) (S' := [.int (0 : Int32), .ref 7, .ref 6]) (H' := ((own_H4 s in1 (1 : Int32) in2 (0 : Int32) in3 ps) ++ [(.inr .int, [.int in1, .int in2, .int last]), (.inr .int, [.int in1, .int in2, .int last, .int (0 : Int32)])])) rfl ?_
  refine own_ks.into (mt := own_m0) (mj := own_m6) rfl (ins := .invokestatic 23) (t := 275) (j := 6) (as := [.ref 6, .ref 7, .int (0 : Int32)]) (r' := []) (L' := [.val (.ref 6), .val (.ref 7), .val (.int (0 : Int32))]) rfl rfl rfl rfl rfl rfl rfl rfl ?_
  refine own_ks.go (mt := own_m6) rfl 10 (pc' := 12) (L' := [.val (.ref 6), .val (.ref 7), .val (.int (0 : Int32))]) (S' := [.int in1, .int in1]) (H' := ((own_H4 s in1 (1 : Int32) in2 (0 : Int32) in3 ps) ++ [(.inr .int, [.int in1, .int in2, .int last]), (.inr .int, [.int in1, .int in2, .int last, .int (0 : Int32)])])) rfl ?_
  have h1 : in1 = in1 := by rfl
  refine own_ks.br2 (mt := own_m6) rfl (cd := .ne) (t := 19) (b := false) (pc' := 15) rfl (teq h1).2 rfl ?_
  refine own_ks.go (mt := own_m6) rfl 2 (pc' := 20) (L' := [.val (.ref 6), .val (.ref 7), .val (.int (0 : Int32))]) (S' := [.int (1 : Int32)]) (H' := ((own_H4 s in1 (1 : Int32) in2 (0 : Int32) in3 ps) ++ [(.inr .int, [.int in1, .int in2, .int last]), (.inr .int, [.int in1, .int in2, .int last, .int (0 : Int32)])])) rfl ?_
  refine own_ks.back (mt := own_m6) rfl (ins := .ireturn) (t := 21) (v := some (.int (1 : Int32))) (S2 := [.int (1 : Int32)]) rfl rfl rfl ?_
  refine own_ks.go (mt := own_m0) rfl 4 (pc' := 283) (L' := [.val (.int shape), .val (.int in1), .val (.int in2), .val (.int in3), .val (.int last), .val (.int s), .val (.int (1 : Int32)), .val (.int (0 : Int32)), .val (.int (2 : Int32)), .val (.ref 0), .val (.ref 6), .val (.ref 7), .val (.int (2 : Int32))]) (S' := [.int (1 : Int32), .ref 7, .ref 6]) (H' := ((own_H4 s in1 (1 : Int32) in2 (0 : Int32) in3 ps) ++ [(.inr .int, [.int in1, .int in2, .int last]), (.inr .int, [.int in1, .int in2, .int last, .int (0 : Int32)])])) rfl ?_
  refine own_ks.into (mt := own_m0) (mj := own_m6) rfl (ins := .invokestatic 23) (t := 286) (j := 6) (as := [.ref 6, .ref 7, .int (1 : Int32)]) (r' := []) (L' := [.val (.ref 6), .val (.ref 7), .val (.int (1 : Int32))]) rfl rfl rfl rfl rfl rfl rfl rfl ?_
  refine own_ks.go (mt := own_m6) rfl 10 (pc' := 12) (L' := [.val (.ref 6), .val (.ref 7), .val (.int (1 : Int32))]) (S' := [.int in2, .int in2]) (H' := ((own_H4 s in1 (1 : Int32) in2 (0 : Int32) in3 ps) ++ [(.inr .int, [.int in1, .int in2, .int last]), (.inr .int, [.int in1, .int in2, .int last, .int (0 : Int32)])])) rfl ?_
  have h2 : in2 = in2 := by rfl
  refine own_ks.br2 (mt := own_m6) rfl (cd := .ne) (t := 19) (b := false) (pc' := 15) rfl (teq h2).2 rfl ?_
  refine own_ks.go (mt := own_m6) rfl 2 (pc' := 20) (L' := [.val (.ref 6), .val (.ref 7), .val (.int (1 : Int32))]) (S' := [.int (1 : Int32)]) (H' := ((own_H4 s in1 (1 : Int32) in2 (0 : Int32) in3 ps) ++ [(.inr .int, [.int in1, .int in2, .int last]), (.inr .int, [.int in1, .int in2, .int last, .int (0 : Int32)])])) rfl ?_
  refine own_ks.back (mt := own_m6) rfl (ins := .ireturn) (t := 21) (v := some (.int (1 : Int32))) (S2 := [.int (1 : Int32)]) rfl rfl rfl ?_
  refine own_ks.go (mt := own_m0) rfl 4 (pc' := 294) (L' := [.val (.int shape), .val (.int in1), .val (.int in2), .val (.int in3), .val (.int last), .val (.int s), .val (.int (1 : Int32)), .val (.int (0 : Int32)), .val (.int (2 : Int32)), .val (.ref 0), .val (.ref 6), .val (.ref 7), .val (.int (2 : Int32))]) (S' := [.int (2 : Int32), .ref 7, .ref 6]) (H' := ((own_H4 s in1 (1 : Int32) in2 (0 : Int32) in3 ps) ++ [(.inr .int, [.int in1, .int in2, .int last]), (.inr .int, [.int in1, .int in2, .int last, .int (0 : Int32)])])) rfl ?_
  refine own_ks.into (mt := own_m0) (mj := own_m6) rfl (ins := .invokestatic 23) (t := 297) (j := 6) (as := [.ref 6, .ref 7, .int (2 : Int32)]) (r' := []) (L' := [.val (.ref 6), .val (.ref 7), .val (.int (2 : Int32))]) rfl rfl rfl rfl rfl rfl rfl rfl ?_
  refine own_ks.go (mt := own_m6) rfl 10 (pc' := 12) (L' := [.val (.ref 6), .val (.ref 7), .val (.int (2 : Int32))]) (S' := [.int last, .int last]) (H' := ((own_H4 s in1 (1 : Int32) in2 (0 : Int32) in3 ps) ++ [(.inr .int, [.int in1, .int in2, .int last]), (.inr .int, [.int in1, .int in2, .int last, .int (0 : Int32)])])) rfl ?_
  have h3 : last = last := by rfl
  refine own_ks.br2 (mt := own_m6) rfl (cd := .ne) (t := 19) (b := false) (pc' := 15) rfl (teq h3).2 rfl ?_
  refine own_ks.go (mt := own_m6) rfl 2 (pc' := 20) (L' := [.val (.ref 6), .val (.ref 7), .val (.int (2 : Int32))]) (S' := [.int (1 : Int32)]) (H' := ((own_H4 s in1 (1 : Int32) in2 (0 : Int32) in3 ps) ++ [(.inr .int, [.int in1, .int in2, .int last]), (.inr .int, [.int in1, .int in2, .int last, .int (0 : Int32)])])) rfl ?_
  refine own_ks.back (mt := own_m6) rfl (ins := .ireturn) (t := 21) (v := some (.int (1 : Int32))) (S2 := [.int (1 : Int32)]) rfl rfl rfl ?_
  refine own_ks.go (mt := own_m0) rfl 4 (pc' := 305) (L' := [.val (.int shape), .val (.int in1), .val (.int in2), .val (.int in3), .val (.int last), .val (.int s), .val (.int (1 : Int32)), .val (.int (0 : Int32)), .val (.int (2 : Int32)), .val (.ref 0), .val (.ref 6), .val (.ref 7), .val (.int (2 : Int32))]) (S' := [.int (3 : Int32), .ref 7, .ref 6]) (H' := ((own_H4 s in1 (1 : Int32) in2 (0 : Int32) in3 ps) ++ [(.inr .int, [.int in1, .int in2, .int last]), (.inr .int, [.int in1, .int in2, .int last, .int (0 : Int32)])])) rfl ?_
  refine own_ks.into (mt := own_m0) (mj := own_m6) rfl (ins := .invokestatic 23) (t := 308) (j := 6) (as := [.ref 6, .ref 7, .int (3 : Int32)]) (r' := []) (L' := [.val (.ref 6), .val (.ref 7), .val (.int (3 : Int32))]) rfl rfl rfl rfl rfl rfl rfl rfl ?_
  refine own_ks.go (mt := own_m6) rfl 6 (pc' := 20) (L' := [.val (.ref 6), .val (.ref 7), .val (.int (3 : Int32))]) (S' := [.int (1 : Int32)]) (H' := ((own_H4 s in1 (1 : Int32) in2 (0 : Int32) in3 ps) ++ [(.inr .int, [.int in1, .int in2, .int last]), (.inr .int, [.int in1, .int in2, .int last, .int (0 : Int32)])])) rfl ?_
  refine own_ks.back (mt := own_m6) rfl (ins := .ireturn) (t := 21) (v := some (.int (1 : Int32))) (S2 := [.int (1 : Int32)]) rfl rfl rfl ?_
  refine own_ks.go (mt := own_m0) rfl 3 (pc' := 316) (L' := [.val (.int shape), .val (.int in1), .val (.int in2), .val (.int in3), .val (.int last), .val (.int s), .val (.int (1 : Int32)), .val (.int (0 : Int32)), .val (.int (2 : Int32)), .val (.ref 0), .val (.ref 6), .val (.ref 7), .val (.int (2 : Int32))]) (S' := [.int (1 : Int32)]) (H' := ((own_H4 s in1 (1 : Int32) in2 (0 : Int32) in3 ps) ++ [(.inr .int, [.int in1, .int in2, .int last]), (.inr .int, [.int in1, .int in2, .int last, .int (0 : Int32)])])) rfl ?_
  exact own_ks.ret (mt := own_m0) rfl (ins := .ireturn) (t := 317) (v := some (.int (1 : Int32))) rfl rfl ⟨rfl, by simp [own_H4], by simp [own_H4, own_w, own_cw, own_sl_len, own_P, own_k0]⟩
set_option maxHeartbeats 4000000 in
theorem own_c_1_0_3 (shape in1 in2 in3 last s : Int32) (ps : List Nat) : own_ks own_P (own_end own_P.2.1 24 320) [] 0 6 160 84 [.val (.int shape), .val (.int in1), .val (.int in2), .val (.int in3), .val (.int last), .val (.int s), .val (.int (1 : Int32)), .val (.int (0 : Int32)), .val (.int (3 : Int32)), .val (.ref 0), .unset, .unset, .unset] [] (own_H4 s in1 (1 : Int32) in2 (0 : Int32) in3 ps) := by
  refine own_ks.go (mt := own_m0) rfl 3 (pc' := 90) (L' := [.val (.int shape), .val (.int in1), .val (.int in2), .val (.int in3), .val (.int last), .val (.int s), .val (.int (1 : Int32)), .val (.int (0 : Int32)), .val (.int (3 : Int32)), .val (.ref 0), .unset, .unset, .unset]) (S' := [.int last, .int (3 : Int32), .ref 0]) (H' := (own_H4 s in1 (1 : Int32) in2 (0 : Int32) in3 ps)) rfl ?_
  refine own_ks.into (mt := own_m0) (mj := own_m5) rfl (ins := .invokevirtual 19) (t := 93) (j := 5) (as := [.ref 0, .int (3 : Int32), .int last]) (r' := []) (L' := [.val (.ref 0), .val (.int (3 : Int32)), .val (.int last), .unset, .unset, .unset, .unset]) rfl rfl rfl rfl rfl rfl rfl rfl ?_
  refine own_ks.go (mt := own_m5) rfl 24 (pc' := 32) (L' := [.val (.ref 0), .val (.int (3 : Int32)), .val (.int last), .val (.int (2 : Int32)), .val (.int (0 : Int32)), .unset, .unset]) (S' := [.int (2 : Int32)]) (H' := (own_H4 s in1 (1 : Int32) in2 (0 : Int32) in3 ps)) rfl ?_
  refine own_ks.go (mt := own_m5) rfl 24 (pc' := 69) (L' := [.val (.ref 0), .val (.int (3 : Int32)), .val (.int last), .val (.int (2 : Int32)), .val (.ref 6), .val (.int (3 : Int32)), .val (.int (0 : Int32))]) (S' := [.ref 0]) (H' := ((own_H4 s in1 (1 : Int32) in2 (0 : Int32) in3 ps) ++ [(.inr .int, [.int in3, .int last])])) rfl ?_
  refine own_ks.go (mt := own_m5) rfl 9 (pc' := 85) (L' := [.val (.ref 0), .val (.int (3 : Int32)), .val (.int last), .val (.int (2 : Int32)), .val (.ref 6), .val (.int (0 : Int32)), .val (.int (-1 : Int32))]) (S' := [.ref 6]) (H' := ((own_H4 s in1 (1 : Int32) in2 (0 : Int32) in3 ps) ++ [(.inr .int, [.int in3, .int last])])) rfl ?_
  refine own_ks.back (mt := own_m5) rfl (ins := .areturn) (t := 86) (v := some (.ref 6)) (S2 := [.ref 6]) rfl rfl rfl ?_
  refine own_ks.go (mt := own_m0) rfl 24 (pc' := 249) (L' := [.val (.int shape), .val (.int in1), .val (.int in2), .val (.int in3), .val (.int last), .val (.int s), .val (.int (1 : Int32)), .val (.int (0 : Int32)), .val (.int (3 : Int32)), .val (.ref 0), .val (.ref 6), .val (.ref 7), .val (.int (1 : Int32))]) (S' := [.int last, .int (1 : Int32), .ref 7]) (H' := ((own_H4 s in1 (1 : Int32) in2 (0 : Int32) in3 ps) ++ [(.inr .int, [.int in3, .int last]), (.inr .int, [.int in3, .int (0 : Int32), .int (0 : Int32), .int (0 : Int32)])])) rfl ?_
  refine own_ks.go (mt := own_m0) rfl 12 (pc' := 272) (L' := [.val (.int shape), .val (.int in1), .val (.int in2), .val (.int in3), .val (.int last), .val (.int s), .val (.int (1 : Int32)), .val (.int (0 : Int32)), .val (.int (3 : Int32)), .val (.ref 0), .val (.ref 6), .val (.ref 7), .val (.int (1 : Int32))]) (S' := [.int (0 : Int32), .ref 7, .ref 6]) (H' := ((own_H4 s in1 (1 : Int32) in2 (0 : Int32) in3 ps) ++ [(.inr .int, [.int in3, .int last]), (.inr .int, [.int in3, .int last, .int (0 : Int32), .int (0 : Int32)])])) rfl ?_
  refine own_ks.into (mt := own_m0) (mj := own_m6) rfl (ins := .invokestatic 23) (t := 275) (j := 6) (as := [.ref 6, .ref 7, .int (0 : Int32)]) (r' := []) (L' := [.val (.ref 6), .val (.ref 7), .val (.int (0 : Int32))]) rfl rfl rfl rfl rfl rfl rfl rfl ?_
  refine own_ks.go (mt := own_m6) rfl 10 (pc' := 12) (L' := [.val (.ref 6), .val (.ref 7), .val (.int (0 : Int32))]) (S' := [.int in3, .int in3]) (H' := ((own_H4 s in1 (1 : Int32) in2 (0 : Int32) in3 ps) ++ [(.inr .int, [.int in3, .int last]), (.inr .int, [.int in3, .int last, .int (0 : Int32), .int (0 : Int32)])])) rfl ?_
  have h1 : in3 = in3 := by rfl
  refine own_ks.br2 (mt := own_m6) rfl (cd := .ne) (t := 19) (b := false) (pc' := 15) rfl (teq h1).2 rfl ?_
  refine own_ks.go (mt := own_m6) rfl 2 (pc' := 20) (L' := [.val (.ref 6), .val (.ref 7), .val (.int (0 : Int32))]) (S' := [.int (1 : Int32)]) (H' := ((own_H4 s in1 (1 : Int32) in2 (0 : Int32) in3 ps) ++ [(.inr .int, [.int in3, .int last]), (.inr .int, [.int in3, .int last, .int (0 : Int32), .int (0 : Int32)])])) rfl ?_
  refine own_ks.back (mt := own_m6) rfl (ins := .ireturn) (t := 21) (v := some (.int (1 : Int32))) (S2 := [.int (1 : Int32)]) rfl rfl rfl ?_
  refine own_ks.go (mt := own_m0) rfl 4 (pc' := 283) (L' := [.val (.int shape), .val (.int in1), .val (.int in2), .val (.int in3), .val (.int last), .val (.int s), .val (.int (1 : Int32)), .val (.int (0 : Int32)), .val (.int (3 : Int32)), .val (.ref 0), .val (.ref 6), .val (.ref 7), .val (.int (1 : Int32))]) (S' := [.int (1 : Int32), .ref 7, .ref 6]) (H' := ((own_H4 s in1 (1 : Int32) in2 (0 : Int32) in3 ps) ++ [(.inr .int, [.int in3, .int last]), (.inr .int, [.int in3, .int last, .int (0 : Int32), .int (0 : Int32)])])) rfl ?_
  refine own_ks.into (mt := own_m0) (mj := own_m6) rfl (ins := .invokestatic 23) (t := 286) (j := 6) (as := [.ref 6, .ref 7, .int (1 : Int32)]) (r' := []) (L' := [.val (.ref 6), .val (.ref 7), .val (.int (1 : Int32))]) rfl rfl rfl rfl rfl rfl rfl rfl ?_
  refine own_ks.go (mt := own_m6) rfl 10 (pc' := 12) (L' := [.val (.ref 6), .val (.ref 7), .val (.int (1 : Int32))]) (S' := [.int last, .int last]) (H' := ((own_H4 s in1 (1 : Int32) in2 (0 : Int32) in3 ps) ++ [(.inr .int, [.int in3, .int last]), (.inr .int, [.int in3, .int last, .int (0 : Int32), .int (0 : Int32)])])) rfl ?_
  have h2 : last = last := by rfl
  refine own_ks.br2 (mt := own_m6) rfl (cd := .ne) (t := 19) (b := false) (pc' := 15) rfl (teq h2).2 rfl ?_
  refine own_ks.go (mt := own_m6) rfl 2 (pc' := 20) (L' := [.val (.ref 6), .val (.ref 7), .val (.int (1 : Int32))]) (S' := [.int (1 : Int32)]) (H' := ((own_H4 s in1 (1 : Int32) in2 (0 : Int32) in3 ps) ++ [(.inr .int, [.int in3, .int last]), (.inr .int, [.int in3, .int last, .int (0 : Int32), .int (0 : Int32)])])) rfl ?_
  refine own_ks.back (mt := own_m6) rfl (ins := .ireturn) (t := 21) (v := some (.int (1 : Int32))) (S2 := [.int (1 : Int32)]) rfl rfl rfl ?_
  refine own_ks.go (mt := own_m0) rfl 4 (pc' := 294) (L' := [.val (.int shape), .val (.int in1), .val (.int in2), .val (.int in3), .val (.int last), .val (.int s), .val (.int (1 : Int32)), .val (.int (0 : Int32)), .val (.int (3 : Int32)), .val (.ref 0), .val (.ref 6), .val (.ref 7), .val (.int (1 : Int32))]) (S' := [.int (2 : Int32), .ref 7, .ref 6]) (H' := ((own_H4 s in1 (1 : Int32) in2 (0 : Int32) in3 ps) ++ [(.inr .int, [.int in3, .int last]), (.inr .int, [.int in3, .int last, .int (0 : Int32), .int (0 : Int32)])])) rfl ?_
  refine own_ks.into (mt := own_m0) (mj := own_m6) rfl (ins := .invokestatic 23) (t := 297) (j := 6) (as := [.ref 6, .ref 7, .int (2 : Int32)]) (r' := []) (L' := [.val (.ref 6), .val (.ref 7), .val (.int (2 : Int32))]) rfl rfl rfl rfl rfl rfl rfl rfl ?_
  refine own_ks.go (mt := own_m6) rfl 6 (pc' := 20) (L' := [.val (.ref 6), .val (.ref 7), .val (.int (2 : Int32))]) (S' := [.int (1 : Int32)]) (H' := ((own_H4 s in1 (1 : Int32) in2 (0 : Int32) in3 ps) ++ [(.inr .int, [.int in3, .int last]), (.inr .int, [.int in3, .int last, .int (0 : Int32), .int (0 : Int32)])])) rfl ?_
  refine own_ks.back (mt := own_m6) rfl (ins := .ireturn) (t := 21) (v := some (.int (1 : Int32))) (S2 := [.int (1 : Int32)]) rfl rfl rfl ?_
  refine own_ks.go (mt := own_m0) rfl 4 (pc' := 305) (L' := [.val (.int shape), .val (.int in1), .val (.int in2), .val (.int in3), .val (.int last), .val (.int s), .val (.int (1 : Int32)), .val (.int (0 : Int32)), .val (.int (3 : Int32)), .val (.ref 0), .val (.ref 6), .val (.ref 7), .val (.int (1 : Int32))]) (S' := [.int (3 : Int32), .ref 7, .ref 6]) (H' := ((own_H4 s in1 (1 : Int32) in2 (0 : Int32) in3 ps) ++ [(.inr .int, [.int in3, .int last]), (.inr .int, [.int in3, .int last, .int (0 : Int32), .int (0 : Int32)])])) rfl ?_
  refine own_ks.into (mt := own_m0) (mj := own_m6) rfl (ins := .invokestatic 23) (t := 308) (j := 6) (as := [.ref 6, .ref 7, .int (3 : Int32)]) (r' := []) (L' := [.val (.ref 6), .val (.ref 7), .val (.int (3 : Int32))]) rfl rfl rfl rfl rfl rfl rfl rfl ?_
  refine own_ks.go (mt := own_m6) rfl 6 (pc' := 20) (L' := [.val (.ref 6), .val (.ref 7), .val (.int (3 : Int32))]) (S' := [.int (1 : Int32)]) (H' := ((own_H4 s in1 (1 : Int32) in2 (0 : Int32) in3 ps) ++ [(.inr .int, [.int in3, .int last]), (.inr .int, [.int in3, .int last, .int (0 : Int32), .int (0 : Int32)])])) rfl ?_
  refine own_ks.back (mt := own_m6) rfl (ins := .ireturn) (t := 21) (v := some (.int (1 : Int32))) (S2 := [.int (1 : Int32)]) rfl rfl rfl ?_
  refine own_ks.go (mt := own_m0) rfl 3 (pc' := 316) (L' := [.val (.int shape), .val (.int in1), .val (.int in2), .val (.int in3), .val (.int last), .val (.int s), .val (.int (1 : Int32)), .val (.int (0 : Int32)), .val (.int (3 : Int32)), .val (.ref 0), .val (.ref 6), .val (.ref 7), .val (.int (1 : Int32))]) (S' := [.int (1 : Int32)]) (H' := ((own_H4 s in1 (1 : Int32) in2 (0 : Int32) in3 ps) ++ [(.inr .int, [.int in3, .int last]), (.inr .int, [.int in3, .int last, .int (0 : Int32), .int (0 : Int32)])])) rfl ?_
  exact own_ks.ret (mt := own_m0) rfl (ins := .ireturn) (t := 317) (v := some (.int (1 : Int32))) rfl rfl ⟨rfl, by simp [own_H4], by simp [own_H4, own_w, own_cw, own_sl_len, own_P, own_k0]⟩
set_option maxHeartbeats 4000000 in
theorem own_c_1_1_0 (shape in1 in2 in3 last s : Int32) (ps : List Nat) : own_ks own_P (own_end own_P.2.1 24 320) [] 0 6 160 84 [.val (.int shape), .val (.int in1), .val (.int in2), .val (.int in3), .val (.int last), .val (.int s), .val (.int (1 : Int32)), .val (.int (1 : Int32)), .val (.int (0 : Int32)), .val (.ref 0), .unset, .unset, .unset] [] (own_H4 s in1 (1 : Int32) in2 (1 : Int32) in3 ps) := by
  refine own_ks.go (mt := own_m0) rfl 3 (pc' := 90) (L' := [.val (.int shape), .val (.int in1), .val (.int in2), .val (.int in3), .val (.int last), .val (.int s), .val (.int (1 : Int32)), .val (.int (1 : Int32)), .val (.int (0 : Int32)), .val (.ref 0), .unset, .unset, .unset]) (S' := [.int last, .int (0 : Int32), .ref 0]) (H' := (own_H4 s in1 (1 : Int32) in2 (1 : Int32) in3 ps)) rfl ?_
  refine own_ks.into (mt := own_m0) (mj := own_m5) rfl (ins := .invokevirtual 19) (t := 93) (j := 5) (as := [.ref 0, .int (0 : Int32), .int last]) (r' := []) (L' := [.val (.ref 0), .val (.int (0 : Int32)), .val (.int last), .unset, .unset, .unset, .unset]) rfl rfl rfl rfl rfl rfl rfl rfl ?_
  refine own_ks.go (mt := own_m5) rfl 24 (pc' := 49) (L' := [.val (.ref 0), .val (.int (0 : Int32)), .val (.int last), .val (.int (1 : Int32)), .val (.ref 6), .val (.int (0 : Int32)), .unset]) (S' := [.int (-1 : Int32)]) (H' := ((own_H4 s in1 (1 : Int32) in2 (1 : Int32) in3 ps) ++ [(.inr .int, [.int last])])) rfl ?_
  refine own_ks.go (mt := own_m5) rfl 4 (pc' := 85) (L' := [.val (.ref 0), .val (.int (0 : Int32)), .val (.int last), .val (.int (1 : Int32)), .val (.ref 6), .val (.int (0 : Int32)), .val (.int (-1 : Int32))]) (S' := [.ref 6]) (H' := ((own_H4 s in1 (1 : Int32) in2 (1 : Int32) in3 ps) ++ [(.inr .int, [.int last])])) rfl ?_
  refine own_ks.back (mt := own_m5) rfl (ins := .areturn) (t := 86) (v := some (.ref 6)) (S2 := [.ref 6]) rfl rfl rfl ?_
  refine own_ks.go (mt := own_m0) rfl 24 (pc' := 272) (L' := [.val (.int shape), .val (.int in1), .val (.int in2), .val (.int in3), .val (.int last), .val (.int s), .val (.int (1 : Int32)), .val (.int (1 : Int32)), .val (.int (0 : Int32)), .val (.ref 0), .val (.ref 6), .val (.ref 7), .val (.int (0 : Int32))]) (S' := [.int (0 : Int32), .ref 7, .ref 6]) (H' := ((own_H4 s in1 (1 : Int32) in2 (1 : Int32) in3 ps) ++ [(.inr .int, [.int last]), (.inr .int, [.int last, .int (0 : Int32), .int (0 : Int32), .int (0 : Int32)])])) rfl ?_
  refine own_ks.into (mt := own_m0) (mj := own_m6) rfl (ins := .invokestatic 23) (t := 275) (j := 6) (as := [.ref 6, .ref 7, .int (0 : Int32)]) (r' := []) (L' := [.val (.ref 6), .val (.ref 7), .val (.int (0 : Int32))]) rfl rfl rfl rfl rfl rfl rfl rfl ?_
  refine own_ks.go (mt := own_m6) rfl 10 (pc' := 12) (L' := [.val (.ref 6), .val (.ref 7), .val (.int (0 : Int32))]) (S' := [.int last, .int last]) (H' := ((own_H4 s in1 (1 : Int32) in2 (1 : Int32) in3 ps) ++ [(.inr .int, [.int last]), (.inr .int, [.int last, .int (0 : Int32), .int (0 : Int32), .int (0 : Int32)])])) rfl ?_
  have h1 : last = last := by rfl
  refine own_ks.br2 (mt := own_m6) rfl (cd := .ne) (t := 19) (b := false) (pc' := 15) rfl (teq h1).2 rfl ?_
  refine own_ks.go (mt := own_m6) rfl 2 (pc' := 20) (L' := [.val (.ref 6), .val (.ref 7), .val (.int (0 : Int32))]) (S' := [.int (1 : Int32)]) (H' := ((own_H4 s in1 (1 : Int32) in2 (1 : Int32) in3 ps) ++ [(.inr .int, [.int last]), (.inr .int, [.int last, .int (0 : Int32), .int (0 : Int32), .int (0 : Int32)])])) rfl ?_
  refine own_ks.back (mt := own_m6) rfl (ins := .ireturn) (t := 21) (v := some (.int (1 : Int32))) (S2 := [.int (1 : Int32)]) rfl rfl rfl ?_
  refine own_ks.go (mt := own_m0) rfl 4 (pc' := 283) (L' := [.val (.int shape), .val (.int in1), .val (.int in2), .val (.int in3), .val (.int last), .val (.int s), .val (.int (1 : Int32)), .val (.int (1 : Int32)), .val (.int (0 : Int32)), .val (.ref 0), .val (.ref 6), .val (.ref 7), .val (.int (0 : Int32))]) (S' := [.int (1 : Int32), .ref 7, .ref 6]) (H' := ((own_H4 s in1 (1 : Int32) in2 (1 : Int32) in3 ps) ++ [(.inr .int, [.int last]), (.inr .int, [.int last, .int (0 : Int32), .int (0 : Int32), .int (0 : Int32)])])) rfl ?_
  refine own_ks.into (mt := own_m0) (mj := own_m6) rfl (ins := .invokestatic 23) (t := 286) (j := 6) (as := [.ref 6, .ref 7, .int (1 : Int32)]) (r' := []) (L' := [.val (.ref 6), .val (.ref 7), .val (.int (1 : Int32))]) rfl rfl rfl rfl rfl rfl rfl rfl ?_
  refine own_ks.go (mt := own_m6) rfl 6 (pc' := 20) (L' := [.val (.ref 6), .val (.ref 7), .val (.int (1 : Int32))]) (S' := [.int (1 : Int32)]) (H' := ((own_H4 s in1 (1 : Int32) in2 (1 : Int32) in3 ps) ++ [(.inr .int, [.int last]), (.inr .int, [.int last, .int (0 : Int32), .int (0 : Int32), .int (0 : Int32)])])) rfl ?_
  refine own_ks.back (mt := own_m6) rfl (ins := .ireturn) (t := 21) (v := some (.int (1 : Int32))) (S2 := [.int (1 : Int32)]) rfl rfl rfl ?_
  refine own_ks.go (mt := own_m0) rfl 4 (pc' := 294) (L' := [.val (.int shape), .val (.int in1), .val (.int in2), .val (.int in3), .val (.int last), .val (.int s), .val (.int (1 : Int32)), .val (.int (1 : Int32)), .val (.int (0 : Int32)), .val (.ref 0), .val (.ref 6), .val (.ref 7), .val (.int (0 : Int32))]) (S' := [.int (2 : Int32), .ref 7, .ref 6]) (H' := ((own_H4 s in1 (1 : Int32) in2 (1 : Int32) in3 ps) ++ [(.inr .int, [.int last]), (.inr .int, [.int last, .int (0 : Int32), .int (0 : Int32), .int (0 : Int32)])])) rfl ?_
  refine own_ks.into (mt := own_m0) (mj := own_m6) rfl (ins := .invokestatic 23) (t := 297) (j := 6) (as := [.ref 6, .ref 7, .int (2 : Int32)]) (r' := []) (L' := [.val (.ref 6), .val (.ref 7), .val (.int (2 : Int32))]) rfl rfl rfl rfl rfl rfl rfl rfl ?_
  refine own_ks.go (mt := own_m6) rfl 6 (pc' := 20) (L' := [.val (.ref 6), .val (.ref 7), .val (.int (2 : Int32))]) (S' := [.int (1 : Int32)]) (H' := ((own_H4 s in1 (1 : Int32) in2 (1 : Int32) in3 ps) ++ [(.inr .int, [.int last]), (.inr .int, [.int last, .int (0 : Int32), .int (0 : Int32), .int (0 : Int32)])])) rfl ?_
  refine own_ks.back (mt := own_m6) rfl (ins := .ireturn) (t := 21) (v := some (.int (1 : Int32))) (S2 := [.int (1 : Int32)]) rfl rfl rfl ?_
  refine own_ks.go (mt := own_m0) rfl 4 (pc' := 305) (L' := [.val (.int shape), .val (.int in1), .val (.int in2), .val (.int in3), .val (.int last), .val (.int s), .val (.int (1 : Int32)), .val (.int (1 : Int32)), .val (.int (0 : Int32)), .val (.ref 0), .val (.ref 6), .val (.ref 7), .val (.int (0 : Int32))]) (S' := [.int (3 : Int32), .ref 7, .ref 6]) (H' := ((own_H4 s in1 (1 : Int32) in2 (1 : Int32) in3 ps) ++ [(.inr .int, [.int last]), (.inr .int, [.int last, .int (0 : Int32), .int (0 : Int32), .int (0 : Int32)])])) rfl ?_
  refine own_ks.into (mt := own_m0) (mj := own_m6) rfl (ins := .invokestatic 23) (t := 308) (j := 6) (as := [.ref 6, .ref 7, .int (3 : Int32)]) (r' := []) (L' := [.val (.ref 6), .val (.ref 7), .val (.int (3 : Int32))]) rfl rfl rfl rfl rfl rfl rfl rfl ?_
  refine own_ks.go (mt := own_m6) rfl 6 (pc' := 20) (L' := [.val (.ref 6), .val (.ref 7), .val (.int (3 : Int32))]) (S' := [.int (1 : Int32)]) (H' := ((own_H4 s in1 (1 : Int32) in2 (1 : Int32) in3 ps) ++ [(.inr .int, [.int last]), (.inr .int, [.int last, .int (0 : Int32), .int (0 : Int32), .int (0 : Int32)])])) rfl ?_
  refine own_ks.back (mt := own_m6) rfl (ins := .ireturn) (t := 21) (v := some (.int (1 : Int32))) (S2 := [.int (1 : Int32)]) rfl rfl rfl ?_
  refine own_ks.go (mt := own_m0) rfl 3 (pc' := 316) (L' := [.val (.int shape), .val (.int in1), .val (.int in2), .val (.int in3), .val (.int last), .val (.int s), .val (.int (1 : Int32)), .val (.int (1 : Int32)), .val (.int (0 : Int32)), .val (.ref 0), .val (.ref 6), .val (.ref 7), .val (.int (0 : Int32))]) (S' := [.int (1 : Int32)]) (H' := ((own_H4 s in1 (1 : Int32) in2 (1 : Int32) in3 ps) ++ [(.inr .int, [.int last]), (.inr .int, [.int last, .int (0 : Int32), .int (0 : Int32), .int (0 : Int32)])])) rfl ?_
  exact own_ks.ret (mt := own_m0) rfl (ins := .ireturn) (t := 317) (v := some (.int (1 : Int32))) rfl rfl ⟨rfl, by simp [own_H4], by simp [own_H4, own_w, own_cw, own_sl_len, own_P, own_k0]⟩
set_option maxHeartbeats 4000000 in
theorem own_c_1_1_1 (shape in1 in2 in3 last s : Int32) (ps : List Nat) : own_ks own_P (own_end own_P.2.1 24 320) [] 0 6 160 84 [.val (.int shape), .val (.int in1), .val (.int in2), .val (.int in3), .val (.int last), .val (.int s), .val (.int (1 : Int32)), .val (.int (1 : Int32)), .val (.int (1 : Int32)), .val (.ref 0), .unset, .unset, .unset] [] (own_H4 s in1 (1 : Int32) in2 (1 : Int32) in3 ps) := by
  refine own_ks.go (mt := own_m0) rfl 3 (pc' := 90) (L' := [.val (.int shape), .val (.int in1), .val (.int in2), .val (.int in3), .val (.int last), .val (.int s), .val (.int (1 : Int32)), .val (.int (1 : Int32)), .val (.int (1 : Int32)), .val (.ref 0), .unset, .unset, .unset]) (S' := [.int last, .int (1 : Int32), .ref 0]) (H' := (own_H4 s in1 (1 : Int32) in2 (1 : Int32) in3 ps)) rfl ?_
  refine own_ks.into (mt := own_m0) (mj := own_m5) rfl (ins := .invokevirtual 19) (t := 93) (j := 5) (as := [.ref 0, .int (1 : Int32), .int last]) (r' := []) (L' := [.val (.ref 0), .val (.int (1 : Int32)), .val (.int last), .unset, .unset, .unset, .unset]) rfl rfl rfl rfl rfl rfl rfl rfl ?_
  refine own_ks.go (mt := own_m5) rfl 24 (pc' := 32) (L' := [.val (.ref 0), .val (.int (1 : Int32)), .val (.int last), .val (.int (2 : Int32)), .val (.int (0 : Int32)), .unset, .unset]) (S' := [.int (2 : Int32)]) (H' := (own_H4 s in1 (1 : Int32) in2 (1 : Int32) in3 ps)) rfl ?_
  refine own_ks.go (mt := own_m5) rfl 24 (pc' := 69) (L' := [.val (.ref 0), .val (.int (1 : Int32)), .val (.int last), .val (.int (2 : Int32)), .val (.ref 6), .val (.int (1 : Int32)), .val (.int (0 : Int32))]) (S' := [.ref 0]) (H' := ((own_H4 s in1 (1 : Int32) in2 (1 : Int32) in3 ps) ++ [(.inr .int, [.int in1, .int last])])) rfl ?_
  refine own_ks.go (mt := own_m5) rfl 9 (pc' := 85) (L' := [.val (.ref 0), .val (.int (1 : Int32)), .val (.int last), .val (.int (2 : Int32)), .val (.ref 6), .val (.int (0 : Int32)), .val (.int (-1 : Int32))]) (S' := [.ref 6]) (H' := ((own_H4 s in1 (1 : Int32) in2 (1 : Int32) in3 ps) ++ [(.inr .int, [.int in1, .int last])])) rfl ?_
  refine own_ks.back (mt := own_m5) rfl (ins := .areturn) (t := 86) (v := some (.ref 6)) (S2 := [.ref 6]) rfl rfl rfl ?_
  refine own_ks.go (mt := own_m0) rfl 24 (pc' := 258) (L' := [.val (.int shape), .val (.int in1), .val (.int in2), .val (.int in3), .val (.int last), .val (.int s), .val (.int (1 : Int32)), .val (.int (1 : Int32)), .val (.int (1 : Int32)), .val (.ref 0), .val (.ref 6), .val (.ref 7), .val (.int (1 : Int32))]) (S' := [.int (2 : Int32)]) (H' := ((own_H4 s in1 (1 : Int32) in2 (1 : Int32) in3 ps) ++ [(.inr .int, [.int in1, .int last]), (.inr .int, [.int in1, .int last, .int (0 : Int32), .int (0 : Int32)])])) rfl ?_
  refine own_ks.go (mt := own_m0) rfl 7 (pc' := 272) (L' := [.val (.int shape), .val (.int in1), .val (.int in2), .val (.int in3), .val (.int last), .val (.int s), .val (.int (1 : Int32)), .val (.int (1 : Int32)), .val (.int (1 : Int32)), .val (.ref 0), .val (.ref 6), .val (.ref 7), .val (.int (1 : Int32))]) (S' := [.int (0 : Int32), .ref 7, .ref 6]) (H' := ((own_H4 s in1 (1 : Int32) in2 (1 : Int32) in3 ps) ++ [(.inr .int, [.int in1, .int last]), (.inr .int, [.int in1, .int last, .int (0 : Int32), .int (0 : Int32)])])) rfl ?_
  refine own_ks.into (mt := own_m0) (mj := own_m6) rfl (ins := .invokestatic 23) (t := 275) (j := 6) (as := [.ref 6, .ref 7, .int (0 : Int32)]) (r' := []) (L' := [.val (.ref 6), .val (.ref 7), .val (.int (0 : Int32))]) rfl rfl rfl rfl rfl rfl rfl rfl ?_
  refine own_ks.go (mt := own_m6) rfl 10 (pc' := 12) (L' := [.val (.ref 6), .val (.ref 7), .val (.int (0 : Int32))]) (S' := [.int in1, .int in1]) (H' := ((own_H4 s in1 (1 : Int32) in2 (1 : Int32) in3 ps) ++ [(.inr .int, [.int in1, .int last]), (.inr .int, [.int in1, .int last, .int (0 : Int32), .int (0 : Int32)])])) rfl ?_
  have h1 : in1 = in1 := by rfl
  refine own_ks.br2 (mt := own_m6) rfl (cd := .ne) (t := 19) (b := false) (pc' := 15) rfl (teq h1).2 rfl ?_
  refine own_ks.go (mt := own_m6) rfl 2 (pc' := 20) (L' := [.val (.ref 6), .val (.ref 7), .val (.int (0 : Int32))]) (S' := [.int (1 : Int32)]) (H' := ((own_H4 s in1 (1 : Int32) in2 (1 : Int32) in3 ps) ++ [(.inr .int, [.int in1, .int last]), (.inr .int, [.int in1, .int last, .int (0 : Int32), .int (0 : Int32)])])) rfl ?_
  refine own_ks.back (mt := own_m6) rfl (ins := .ireturn) (t := 21) (v := some (.int (1 : Int32))) (S2 := [.int (1 : Int32)]) rfl rfl rfl ?_
  refine own_ks.go (mt := own_m0) rfl 4 (pc' := 283) (L' := [.val (.int shape), .val (.int in1), .val (.int in2), .val (.int in3), .val (.int last), .val (.int s), .val (.int (1 : Int32)), .val (.int (1 : Int32)), .val (.int (1 : Int32)), .val (.ref 0), .val (.ref 6), .val (.ref 7), .val (.int (1 : Int32))]) (S' := [.int (1 : Int32), .ref 7, .ref 6]) (H' := ((own_H4 s in1 (1 : Int32) in2 (1 : Int32) in3 ps) ++ [(.inr .int, [.int in1, .int last]), (.inr .int, [.int in1, .int last, .int (0 : Int32), .int (0 : Int32)])])) rfl ?_
  refine own_ks.into (mt := own_m0) (mj := own_m6) rfl (ins := .invokestatic 23) (t := 286) (j := 6) (as := [.ref 6, .ref 7, .int (1 : Int32)]) (r' := []) (L' := [.val (.ref 6), .val (.ref 7), .val (.int (1 : Int32))]) rfl rfl rfl rfl rfl rfl rfl rfl ?_
  refine own_ks.go (mt := own_m6) rfl 10 (pc' := 12) (L' := [.val (.ref 6), .val (.ref 7), .val (.int (1 : Int32))]) (S' := [.int last, .int last]) (H' := ((own_H4 s in1 (1 : Int32) in2 (1 : Int32) in3 ps) ++ [(.inr .int, [.int in1, .int last]), (.inr .int, [.int in1, .int last, .int (0 : Int32), .int (0 : Int32)])])) rfl ?_
  have h2 : last = last := by rfl
  refine own_ks.br2 (mt := own_m6) rfl (cd := .ne) (t := 19) (b := false) (pc' := 15) rfl (teq h2).2 rfl ?_
  refine own_ks.go (mt := own_m6) rfl 2 (pc' := 20) (L' := [.val (.ref 6), .val (.ref 7), .val (.int (1 : Int32))]) (S' := [.int (1 : Int32)]) (H' := ((own_H4 s in1 (1 : Int32) in2 (1 : Int32) in3 ps) ++ [(.inr .int, [.int in1, .int last]), (.inr .int, [.int in1, .int last, .int (0 : Int32), .int (0 : Int32)])])) rfl ?_
  refine own_ks.back (mt := own_m6) rfl (ins := .ireturn) (t := 21) (v := some (.int (1 : Int32))) (S2 := [.int (1 : Int32)]) rfl rfl rfl ?_
  refine own_ks.go (mt := own_m0) rfl 4 (pc' := 294) (L' := [.val (.int shape), .val (.int in1), .val (.int in2), .val (.int in3), .val (.int last), .val (.int s), .val (.int (1 : Int32)), .val (.int (1 : Int32)), .val (.int (1 : Int32)), .val (.ref 0), .val (.ref 6), .val (.ref 7), .val (.int (1 : Int32))]) (S' := [.int (2 : Int32), .ref 7, .ref 6]) (H' := ((own_H4 s in1 (1 : Int32) in2 (1 : Int32) in3 ps) ++ [(.inr .int, [.int in1, .int last]), (.inr .int, [.int in1, .int last, .int (0 : Int32), .int (0 : Int32)])])) rfl ?_
  refine own_ks.into (mt := own_m0) (mj := own_m6) rfl (ins := .invokestatic 23) (t := 297) (j := 6) (as := [.ref 6, .ref 7, .int (2 : Int32)]) (r' := []) (L' := [.val (.ref 6), .val (.ref 7), .val (.int (2 : Int32))]) rfl rfl rfl rfl rfl rfl rfl rfl ?_
  refine own_ks.go (mt := own_m6) rfl 6 (pc' := 20) (L' := [.val (.ref 6), .val (.ref 7), .val (.int (2 : Int32))]) (S' := [.int (1 : Int32)]) (H' := ((own_H4 s in1 (1 : Int32) in2 (1 : Int32) in3 ps) ++ [(.inr .int, [.int in1, .int last]), (.inr .int, [.int in1, .int last, .int (0 : Int32), .int (0 : Int32)])])) rfl ?_
  refine own_ks.back (mt := own_m6) rfl (ins := .ireturn) (t := 21) (v := some (.int (1 : Int32))) (S2 := [.int (1 : Int32)]) rfl rfl rfl ?_
  refine own_ks.go (mt := own_m0) rfl 4 (pc' := 305) (L' := [.val (.int shape), .val (.int in1), .val (.int in2), .val (.int in3), .val (.int last), .val (.int s), .val (.int (1 : Int32)), .val (.int (1 : Int32)), .val (.int (1 : Int32)), .val (.ref 0), .val (.ref 6), .val (.ref 7), .val (.int (1 : Int32))]) (S' := [.int (3 : Int32), .ref 7, .ref 6]) (H' := ((own_H4 s in1 (1 : Int32) in2 (1 : Int32) in3 ps) ++ [(.inr .int, [.int in1, .int last]), (.inr .int, [.int in1, .int last, .int (0 : Int32), .int (0 : Int32)])])) rfl ?_
  refine own_ks.into (mt := own_m0) (mj := own_m6) rfl (ins := .invokestatic 23) (t := 308) (j := 6) (as := [.ref 6, .ref 7, .int (3 : Int32)]) (r' := []) (L' := [.val (.ref 6), .val (.ref 7), .val (.int (3 : Int32))]) rfl rfl rfl rfl rfl rfl rfl rfl ?_
  refine own_ks.go (mt := own_m6) rfl 6 (pc' := 20) (L' := [.val (.ref 6), .val (.ref 7), .val (.int (3 : Int32))]) (S' := [.int (1 : Int32)]) (H' := ((own_H4 s in1 (1 : Int32) in2 (1 : Int32) in3 ps) ++ [(.inr .int, [.int in1, .int last]), (.inr .int, [.int in1, .int last, .int (0 : Int32), .int (0 : Int32)])])) rfl ?_
  refine own_ks.back (mt := own_m6) rfl (ins := .ireturn) (t := 21) (v := some (.int (1 : Int32))) (S2 := [.int (1 : Int32)]) rfl rfl rfl ?_
  refine own_ks.go (mt := own_m0) rfl 3 (pc' := 316) (L' := [.val (.int shape), .val (.int in1), .val (.int in2), .val (.int in3), .val (.int last), .val (.int s), .val (.int (1 : Int32)), .val (.int (1 : Int32)), .val (.int (1 : Int32)), .val (.ref 0), .val (.ref 6), .val (.ref 7), .val (.int (1 : Int32))]) (S' := [.int (1 : Int32)]) (H' := ((own_H4 s in1 (1 : Int32) in2 (1 : Int32) in3 ps) ++ [(.inr .int, [.int in1, .int last]), (.inr .int, [.int in1, .int last, .int (0 : Int32), .int (0 : Int32)])])) rfl ?_
  exact own_ks.ret (mt := own_m0) rfl (ins := .ireturn) (t := 317) (v := some (.int (1 : Int32))) rfl rfl ⟨rfl, by simp [own_H4], by simp [own_H4, own_w, own_cw, own_sl_len, own_P, own_k0]⟩
set_option maxHeartbeats 4000000 in
theorem own_c_1_1_2 (shape in1 in2 in3 last s : Int32) (ps : List Nat) : own_ks own_P (own_end own_P.2.1 24 320) [] 0 6 160 84 [.val (.int shape), .val (.int in1), .val (.int in2), .val (.int in3), .val (.int last), .val (.int s), .val (.int (1 : Int32)), .val (.int (1 : Int32)), .val (.int (2 : Int32)), .val (.ref 0), .unset, .unset, .unset] [] (own_H4 s in1 (1 : Int32) in2 (1 : Int32) in3 ps) := by
  refine own_ks.go (mt := own_m0) rfl 3 (pc' := 90) (L' := [.val (.int shape), .val (.int in1), .val (.int in2), .val (.int in3), .val (.int last), .val (.int s), .val (.int (1 : Int32)), .val (.int (1 : Int32)), .val (.int (2 : Int32)), .val (.ref 0), .unset, .unset, .unset]) (S' := [.int last, .int (2 : Int32), .ref 0]) (H' := (own_H4 s in1 (1 : Int32) in2 (1 : Int32) in3 ps)) rfl ?_
  refine own_ks.into (mt := own_m0) (mj := own_m5) rfl (ins := .invokevirtual 19) (t := 93) (j := 5) (as := [.ref 0, .int (2 : Int32), .int last]) (r' := []) (L' := [.val (.ref 0), .val (.int (2 : Int32)), .val (.int last), .unset, .unset, .unset, .unset]) rfl rfl rfl rfl rfl rfl rfl rfl ?_
  refine own_ks.go (mt := own_m5) rfl 24 (pc' := 19) (L' := [.val (.ref 0), .val (.int (2 : Int32)), .val (.int last), .val (.int (3 : Int32)), .val (.int (1 : Int32)), .unset, .unset]) (S' := []) (H' := (own_H4 s in1 (1 : Int32) in2 (1 : Int32) in3 ps)) rfl ?_
  refine own_ks.go (mt := own_m5) rfl 24 (pc' := 47) (L' := [.val (.ref 0), .val (.int (2 : Int32)), .val (.int last), .val (.int (3 : Int32)), .val (.ref 6), .val (.int (2 : Int32)), .unset]) (S' := [.int (3 : Int32)]) (H' := ((own_H4 s in1 (1 : Int32) in2 (1 : Int32) in3 ps) ++ [(.inr .int, [.int (0 : Int32), .int (0 : Int32), .int last])])) rfl ?_
  refine own_ks.go (mt := own_m5) rfl 24 (pc' := 61) (L' := [.val (.ref 0), .val (.int (2 : Int32)), .val (.int last), .val (.int (3 : Int32)), .val (.ref 6), .val (.int (1 : Int32)), .val (.int (0 : Int32))]) (S' := [.ref 0, .int (0 : Int32), .ref 6]) (H' := ((own_H4 s in1 (1 : Int32) in2 (1 : Int32) in3 ps) ++ [(.inr .int, [.int (0 : Int32), .int in2, .int last])])) rfl ?_
  refine own_ks.go (mt := own_m5) rfl 14 (pc' := 85) (L' := [.val (.ref 0), .val (.int (2 : Int32)), .val (.int last), .val (.int (3 : Int32)), .val (.ref 6), .val (.int (0 : Int32)), .val (.int (-1 : Int32))]) (S' := [.ref 6]) (H' := ((own_H4 s in1 (1 : Int32) in2 (1 : Int32) in3 ps) ++ [(.inr .int, [.int in1, .int in2, .int last])])) rfl ?_
  refine own_ks.back (mt := own_m5) rfl (ins := .areturn) (t := 86) (v := some (.ref 6)) (S2 := [.ref 6]) rfl rfl rfl ?_
  refine own_ks.go (mt := own_m0) rfl 24 (pc' := 163) (L' := [.val (.int shape), .val (.int in1), .val (.int in2), .val (.int in3), .val (.int last), .val (.int s), .val (.int (1 : Int32)), .val (.int (1 : Int32)), .val (.int (2 : Int32)), .val (.ref 0), .val (.ref 6), .val (.ref 7), .val (.int (2 : Int32))]) (S' := []) (H' := ((own_H4 s in1 (1 : Int32) in2 (1 : Int32) in3 ps) ++ [(.inr .int, [.int in1, .int in2, .int last]), (.inr .int, [.int in1, .int in2, .int (0 : Int32), .int (0 : Int32)])])) rfl ?_
  refine own_ks.go (mt := own_m0) rfl 16 (pc' := 272) (L' := [.val (.int shape), .val (.int in1), .val (.int in2), .val (.int in3), .val (.int last), .val (.int s), .val (.int (1 : Int32)), .val (.int (1 : Int32)), .val (.int (2 : Int32)), .val (.ref 0), .val (.ref 6), .val (.ref 7), .val (.int (2 : Int32))]) (S' := [.int (0 : Int32), .ref 7, .ref 6]) (H' := ((own_H4 s in1 (1 : Int32) in2 (1 : Int32) in3 ps) ++ [(.inr .int, [.int in1, .int in2, .int last]), (.inr .int, [.int in1, .int in2, .int last, .int (0 : Int32)])])) rfl ?_
  refine own_ks.into (mt := own_m0) (mj := own_m6) rfl (ins := .invokestatic 23) (t := 275) (j := 6) (as := [.ref 6, .ref 7, .int (0 : Int32)]) (r' := []) (L' := [.val (.ref 6), .val (.ref 7), .val (.int (0 : Int32))]) rfl rfl rfl rfl rfl rfl rfl rfl ?_
  refine own_ks.go (mt := own_m6) rfl 10 (pc' := 12) (L' := [.val (.ref 6), .val (.ref 7), .val (.int (0 : Int32))]) (S' := [.int in1, .int in1]) (H' := ((own_H4 s in1 (1 : Int32) in2 (1 : Int32) in3 ps) ++ [(.inr .int, [.int in1, .int in2, .int last]), (.inr .int, [.int in1, .int in2, .int last, .int (0 : Int32)])])) rfl ?_
  have h1 : in1 = in1 := by rfl
  refine own_ks.br2 (mt := own_m6) rfl (cd := .ne) (t := 19) (b := false) (pc' := 15) rfl (teq h1).2 rfl ?_
  refine own_ks.go (mt := own_m6) rfl 2 (pc' := 20) (L' := [.val (.ref 6), .val (.ref 7), .val (.int (0 : Int32))]) (S' := [.int (1 : Int32)]) (H' := ((own_H4 s in1 (1 : Int32) in2 (1 : Int32) in3 ps) ++ [(.inr .int, [.int in1, .int in2, .int last]), (.inr .int, [.int in1, .int in2, .int last, .int (0 : Int32)])])) rfl ?_
  refine own_ks.back (mt := own_m6) rfl (ins := .ireturn) (t := 21) (v := some (.int (1 : Int32))) (S2 := [.int (1 : Int32)]) rfl rfl rfl ?_
  refine own_ks.go (mt := own_m0) rfl 4 (pc' := 283) (L' := [.val (.int shape), .val (.int in1), .val (.int in2), .val (.int in3), .val (.int last), .val (.int s), .val (.int (1 : Int32)), .val (.int (1 : Int32)), .val (.int (2 : Int32)), .val (.ref 0), .val (.ref 6), .val (.ref 7), .val (.int (2 : Int32))]) (S' := [.int (1 : Int32), .ref 7, .ref 6]) (H' := ((own_H4 s in1 (1 : Int32) in2 (1 : Int32) in3 ps) ++ [(.inr .int, [.int in1, .int in2, .int last]), (.inr .int, [.int in1, .int in2, .int last, .int (0 : Int32)])])) rfl ?_
  refine own_ks.into (mt := own_m0) (mj := own_m6) rfl (ins := .invokestatic 23) (t := 286) (j := 6) (as := [.ref 6, .ref 7, .int (1 : Int32)]) (r' := []) (L' := [.val (.ref 6), .val (.ref 7), .val (.int (1 : Int32))]) rfl rfl rfl rfl rfl rfl rfl rfl ?_
  refine own_ks.go (mt := own_m6) rfl 10 (pc' := 12) (L' := [.val (.ref 6), .val (.ref 7), .val (.int (1 : Int32))]) (S' := [.int in2, .int in2]) (H' := ((own_H4 s in1 (1 : Int32) in2 (1 : Int32) in3 ps) ++ [(.inr .int, [.int in1, .int in2, .int last]), (.inr .int, [.int in1, .int in2, .int last, .int (0 : Int32)])])) rfl ?_
  have h2 : in2 = in2 := by rfl
  refine own_ks.br2 (mt := own_m6) rfl (cd := .ne) (t := 19) (b := false) (pc' := 15) rfl (teq h2).2 rfl ?_
  refine own_ks.go (mt := own_m6) rfl 2 (pc' := 20) (L' := [.val (.ref 6), .val (.ref 7), .val (.int (1 : Int32))]) (S' := [.int (1 : Int32)]) (H' := ((own_H4 s in1 (1 : Int32) in2 (1 : Int32) in3 ps) ++ [(.inr .int, [.int in1, .int in2, .int last]), (.inr .int, [.int in1, .int in2, .int last, .int (0 : Int32)])])) rfl ?_
  refine own_ks.back (mt := own_m6) rfl (ins := .ireturn) (t := 21) (v := some (.int (1 : Int32))) (S2 := [.int (1 : Int32)]) rfl rfl rfl ?_
  refine own_ks.go (mt := own_m0) rfl 4 (pc' := 294) (L' := [.val (.int shape), .val (.int in1), .val (.int in2), .val (.int in3), .val (.int last), .val (.int s), .val (.int (1 : Int32)), .val (.int (1 : Int32)), .val (.int (2 : Int32)), .val (.ref 0), .val (.ref 6), .val (.ref 7), .val (.int (2 : Int32))]) (S' := [.int (2 : Int32), .ref 7, .ref 6]) (H' := ((own_H4 s in1 (1 : Int32) in2 (1 : Int32) in3 ps) ++ [(.inr .int, [.int in1, .int in2, .int last]), (.inr .int, [.int in1, .int in2, .int last, .int (0 : Int32)])])) rfl ?_
  refine own_ks.into (mt := own_m0) (mj := own_m6) rfl (ins := .invokestatic 23) (t := 297) (j := 6) (as := [.ref 6, .ref 7, .int (2 : Int32)]) (r' := []) (L' := [.val (.ref 6), .val (.ref 7), .val (.int (2 : Int32))]) rfl rfl rfl rfl rfl rfl rfl rfl ?_
  refine own_ks.go (mt := own_m6) rfl 10 (pc' := 12) (L' := [.val (.ref 6), .val (.ref 7), .val (.int (2 : Int32))]) (S' := [.int last, .int last]) (H' := ((own_H4 s in1 (1 : Int32) in2 (1 : Int32) in3 ps) ++ [(.inr .int, [.int in1, .int in2, .int last]), (.inr .int, [.int in1, .int in2, .int last, .int (0 : Int32)])])) rfl ?_
  have h3 : last = last := by rfl
  refine own_ks.br2 (mt := own_m6) rfl (cd := .ne) (t := 19) (b := false) (pc' := 15) rfl (teq h3).2 rfl ?_
  refine own_ks.go (mt := own_m6) rfl 2 (pc' := 20) (L' := [.val (.ref 6), .val (.ref 7), .val (.int (2 : Int32))]) (S' := [.int (1 : Int32)]) (H' := ((own_H4 s in1 (1 : Int32) in2 (1 : Int32) in3 ps) ++ [(.inr .int, [.int in1, .int in2, .int last]), (.inr .int, [.int in1, .int in2, .int last, .int (0 : Int32)])])) rfl ?_
  refine own_ks.back (mt := own_m6) rfl (ins := .ireturn) (t := 21) (v := some (.int (1 : Int32))) (S2 := [.int (1 : Int32)]) rfl rfl rfl ?_
  refine own_ks.go (mt := own_m0) rfl 4 (pc' := 305) (L' := [.val (.int shape), .val (.int in1), .val (.int in2), .val (.int in3), .val (.int last), .val (.int s), .val (.int (1 : Int32)), .val (.int (1 : Int32)), .val (.int (2 : Int32)), .val (.ref 0), .val (.ref 6), .val (.ref 7), .val (.int (2 : Int32))]) (S' := [.int (3 : Int32), .ref 7, .ref 6]) (H' := ((own_H4 s in1 (1 : Int32) in2 (1 : Int32) in3 ps) ++ [(.inr .int, [.int in1, .int in2, .int last]), (.inr .int, [.int in1, .int in2, .int last, .int (0 : Int32)])])) rfl ?_
  refine own_ks.into (mt := own_m0) (mj := own_m6) rfl (ins := .invokestatic 23) (t := 308) (j := 6) (as := [.ref 6, .ref 7, .int (3 : Int32)]) (r' := []) (L' := [.val (.ref 6), .val (.ref 7), .val (.int (3 : Int32))]) rfl rfl rfl rfl rfl rfl rfl rfl ?_
  refine own_ks.go (mt := own_m6) rfl 6 (pc' := 20) (L' := [.val (.ref 6), .val (.ref 7), .val (.int (3 : Int32))]) (S' := [.int (1 : Int32)]) (H' := ((own_H4 s in1 (1 : Int32) in2 (1 : Int32) in3 ps) ++ [(.inr .int, [.int in1, .int in2, .int last]), (.inr .int, [.int in1, .int in2, .int last, .int (0 : Int32)])])) rfl ?_
  refine own_ks.back (mt := own_m6) rfl (ins := .ireturn) (t := 21) (v := some (.int (1 : Int32))) (S2 := [.int (1 : Int32)]) rfl rfl rfl ?_
  refine own_ks.go (mt := own_m0) rfl 3 (pc' := 316) (L' := [.val (.int shape), .val (.int in1), .val (.int in2), .val (.int in3), .val (.int last), .val (.int s), .val (.int (1 : Int32)), .val (.int (1 : Int32)), .val (.int (2 : Int32)), .val (.ref 0), .val (.ref 6), .val (.ref 7), .val (.int (2 : Int32))]) (S' := [.int (1 : Int32)]) (H' := ((own_H4 s in1 (1 : Int32) in2 (1 : Int32) in3 ps) ++ [(.inr .int, [.int in1, .int in2, .int last]), (.inr .int, [.int in1, .int in2, .int last, .int (0 : Int32)])])) rfl ?_
  exact own_ks.ret (mt := own_m0) rfl (ins := .ireturn) (t := 317) (v := some (.int (1 : Int32))) rfl rfl ⟨rfl, by simp [own_H4], by simp [own_H4, own_w, own_cw, own_sl_len, own_P, own_k0]⟩
set_option maxHeartbeats 4000000 in
theorem own_c_1_1_3 (shape in1 in2 in3 last s : Int32) (ps : List Nat) : own_ks own_P (own_end own_P.2.1 24 320) [] 0 6 160 84 [.val (.int shape), .val (.int in1), .val (.int in2), .val (.int in3), .val (.int last), .val (.int s), .val (.int (1 : Int32)), .val (.int (1 : Int32)), .val (.int (3 : Int32)), .val (.ref 0), .unset, .unset, .unset] [] (own_H4 s in1 (1 : Int32) in2 (1 : Int32) in3 ps) := by
  refine own_ks.go (mt := own_m0) rfl 3 (pc' := 90) (L' := [.val (.int shape), .val (.int in1), .val (.int in2), .val (.int in3), .val (.int last), .val (.int s), .val (.int (1 : Int32)), .val (.int (1 : Int32)), .val (.int (3 : Int32)), .val (.ref 0), .unset, .unset, .unset]) (S' := [.int last, .int (3 : Int32), .ref 0]) (H' := (own_H4 s in1 (1 : Int32) in2 (1 : Int32) in3 ps)) rfl ?_
  refine own_ks.into (mt := own_m0) (mj := own_m5) rfl (ins := .invokevirtual 19) (t := 93) (j := 5) (as := [.ref 0, .int (3 : Int32), .int last]) (r' := []) (L' := [.val (.ref 0), .val (.int (3 : Int32)), .val (.int last), .unset, .unset, .unset, .unset]) rfl rfl rfl rfl rfl rfl rfl rfl ?_
  refine own_ks.go (mt := own_m5) rfl 24 (pc' := 19) (L' := [.val (.ref 0), .val (.int (3 : Int32)), .val (.int last), .val (.int (3 : Int32)), .val (.int (1 : Int32)), .unset, .unset]) (S' := []) (H' := (own_H4 s in1 (1 : Int32) in2 (1 : Int32) in3 ps)) rfl ?_
  refine own_ks.go (mt := own_m5) rfl 24 (pc' := 47) (L' := [.val (.ref 0), .val (.int (3 : Int32)), .val (.int last), .val (.int (3 : Int32)), .val (.ref 6), .val (.int (3 : Int32)), .unset]) (S' := [.int (3 : Int32)]) (H' := ((own_H4 s in1 (1 : Int32) in2 (1 : Int32) in3 ps) ++ [(.inr .int, [.int (0 : Int32), .int (0 : Int32), .int last])])) rfl ?_
  refine own_ks.go (mt := own_m5) rfl 24 (pc' := 61) (L' := [.val (.ref 0), .val (.int (3 : Int32)), .val (.int last), .val (.int (3 : Int32)), .val (.ref 6), .val (.int (1 : Int32)), .val (.int (0 : Int32))]) (S' := [.ref 0, .int (0 : Int32), .ref 6]) (H' := ((own_H4 s in1 (1 : Int32) in2 (1 : Int32) in3 ps) ++ [(.inr .int, [.int (0 : Int32), .int in3, .int last])])) rfl ?_
  refine own_ks.go (mt := own_m5) rfl 14 (pc' := 85) (L' := [.val (.ref 0), .val (.int (3 : Int32)), .val (.int last), .val (.int (3 : Int32)), .val (.ref 6), .val (.int (0 : Int32)), .val (.int (-1 : Int32))]) (S' := [.ref 6]) (H' := ((own_H4 s in1 (1 : Int32) in2 (1 : Int32) in3 ps) ++ [(.inr .int, [.int in1, .int in3, .int last])])) rfl ?_
  refine own_ks.back (mt := own_m5) rfl (ins := .areturn) (t := 86) (v := some (.ref 6)) (S2 := [.ref 6]) rfl rfl rfl ?_
  refine own_ks.go (mt := own_m0) rfl 24 (pc' := 198) (L' := [.val (.int shape), .val (.int in1), .val (.int in2), .val (.int in3), .val (.int last), .val (.int s), .val (.int (1 : Int32)), .val (.int (1 : Int32)), .val (.int (3 : Int32)), .val (.ref 0), .val (.ref 6), .val (.ref 7), .val (.int (2 : Int32))]) (S' := [.ref 7]) (H' := ((own_H4 s in1 (1 : Int32) in2 (1 : Int32) in3 ps) ++ [(.inr .int, [.int in1, .int in3, .int last]), (.inr .int, [.int in1, .int (0 : Int32), .int (0 : Int32), .int (0 : Int32)])])) rfl ?_
  refine own_ks.go (mt := own_m0) rfl 19 (pc' := 272) (L' := [.val (.int shape), .val (.int in1), .val (.int in2), .val (.int in3), .val (.int last), .val (.int s), .val (.int (1 : Int32)), .val (.int (1 : Int32)), .val (.int (3 : Int32)), .val (.ref 0), .val (.ref 6), .val (.ref 7), .val (.int (2 : Int32))]) (S' := [.int (0 : Int32), .ref 7, .ref 6]) (H' := ((own_H4 s in1 (1 : Int32) in2 (1 : Int32) in3 ps) ++ [(.inr .int, [.int in1, .int in3, .int last]), (.inr .int, [.int in1, .int in3, .int last, .int (0 : Int32)])])) rfl ?_
  refine own_ks.into (mt := own_m0) (mj := own_m6) rfl (ins := .invokestatic 23) (t := 275) (j := 6) (as := [.ref 6, .ref 7, .int (0 : Int32)]) (r' := []) (L' := [.val (.ref 6), .val (.ref 7), .val (.int (0 : Int32))]) rfl rfl rfl rfl rfl rfl rfl rfl ?_
  refine own_ks.go (mt := own_m6) rfl 10 (pc' := 12) (L' := [.val (.ref 6), .val (.ref 7), .val (.int (0 : Int32))]) (S' := [.int in1, .int in1]) (H' := ((own_H4 s in1 (1 : Int32) in2 (1 : Int32) in3 ps) ++ [(.inr .int, [.int in1, .int in3, .int last]), (.inr .int, [.int in1, .int in3, .int last, .int (0 : Int32)])])) rfl ?_
  have h1 : in1 = in1 := by rfl
  refine own_ks.br2 (mt := own_m6) rfl (cd := .ne) (t := 19) (b := false) (pc' := 15) rfl (teq h1).2 rfl ?_
  refine own_ks.go (mt := own_m6) rfl 2 (pc' := 20) (L' := [.val (.ref 6), .val (.ref 7), .val (.int (0 : Int32))]) (S' := [.int (1 : Int32)]) (H' := ((own_H4 s in1 (1 : Int32) in2 (1 : Int32) in3 ps) ++ [(.inr .int, [.int in1, .int in3, .int last]), (.inr .int, [.int in1, .int in3, .int last, .int (0 : Int32)])])) rfl ?_
  refine own_ks.back (mt := own_m6) rfl (ins := .ireturn) (t := 21) (v := some (.int (1 : Int32))) (S2 := [.int (1 : Int32)]) rfl rfl rfl ?_
  refine own_ks.go (mt := own_m0) rfl 4 (pc' := 283) (L' := [.val (.int shape), .val (.int in1), .val (.int in2), .val (.int in3), .val (.int last), .val (.int s), .val (.int (1 : Int32)), .val (.int (1 : Int32)), .val (.int (3 : Int32)), .val (.ref 0), .val (.ref 6), .val (.ref 7), .val (.int (2 : Int32))]) (S' := [.int (1 : Int32), .ref 7, .ref 6]) (H' := ((own_H4 s in1 (1 : Int32) in2 (1 : Int32) in3 ps) ++ [(.inr .int, [.int in1, .int in3, .int last]), (.inr .int, [.int in1, .int in3, .int last, .int (0 : Int32)])])) rfl ?_
  refine own_ks.into (mt := own_m0) (mj := own_m6) rfl (ins := .invokestatic 23) (t := 286) (j := 6) (as := [.ref 6, .ref 7, .int (1 : Int32)]) (r' := []) (L' := [.val (.ref 6), .val (.ref 7), .val (.int (1 : Int32))]) rfl rfl rfl rfl rfl rfl rfl rfl ?_
  refine own_ks.go (mt := own_m6) rfl 10 (pc' := 12) (L' := [.val (.ref 6), .val (.ref 7), .val (.int (1 : Int32))]) (S' := [.int in3, .int in3]) (H' := ((own_H4 s in1 (1 : Int32) in2 (1 : Int32) in3 ps) ++ [(.inr .int, [.int in1, .int in3, .int last]), (.inr .int, [.int in1, .int in3, .int last, .int (0 : Int32)])])) rfl ?_
  have h2 : in3 = in3 := by rfl
  refine own_ks.br2 (mt := own_m6) rfl (cd := .ne) (t := 19) (b := false) (pc' := 15) rfl (teq h2).2 rfl ?_
  refine own_ks.go (mt := own_m6) rfl 2 (pc' := 20) (L' := [.val (.ref 6), .val (.ref 7), .val (.int (1 : Int32))]) (S' := [.int (1 : Int32)]) (H' := ((own_H4 s in1 (1 : Int32) in2 (1 : Int32) in3 ps) ++ [(.inr .int, [.int in1, .int in3, .int last]), (.inr .int, [.int in1, .int in3, .int last, .int (0 : Int32)])])) rfl ?_
  refine own_ks.back (mt := own_m6) rfl (ins := .ireturn) (t := 21) (v := some (.int (1 : Int32))) (S2 := [.int (1 : Int32)]) rfl rfl rfl ?_
  refine own_ks.go (mt := own_m0) rfl 4 (pc' := 294) (L' := [.val (.int shape), .val (.int in1), .val (.int in2), .val (.int in3), .val (.int last), .val (.int s), .val (.int (1 : Int32)), .val (.int (1 : Int32)), .val (.int (3 : Int32)), .val (.ref 0), .val (.ref 6), .val (.ref 7), .val (.int (2 : Int32))]) (S' := [.int (2 : Int32), .ref 7, .ref 6]) (H' := ((own_H4 s in1 (1 : Int32) in2 (1 : Int32) in3 ps) ++ [(.inr .int, [.int in1, .int in3, .int last]), (.inr .int, [.int in1, .int in3, .int last, .int (0 : Int32)])])) rfl ?_
  refine own_ks.into (mt := own_m0) (mj := own_m6) rfl (ins := .invokestatic 23) (t := 297) (j := 6) (as := [.ref 6, .ref 7, .int (2 : Int32)]) (r' := []) (L' := [.val (.ref 6), .val (.ref 7), .val (.int (2 : Int32))]) rfl rfl rfl rfl rfl rfl rfl rfl ?_
  refine own_ks.go (mt := own_m6) rfl 10 (pc' := 12) (L' := [.val (.ref 6), .val (.ref 7), .val (.int (2 : Int32))]) (S' := [.int last, .int last]) (H' := ((own_H4 s in1 (1 : Int32) in2 (1 : Int32) in3 ps) ++ [(.inr .int, [.int in1, .int in3, .int last]), (.inr .int, [.int in1, .int in3, .int last, .int (0 : Int32)])])) rfl ?_
  have h3 : last = last := by rfl
  refine own_ks.br2 (mt := own_m6) rfl (cd := .ne) (t := 19) (b := false) (pc' := 15) rfl (teq h3).2 rfl ?_
  refine own_ks.go (mt := own_m6) rfl 2 (pc' := 20) (L' := [.val (.ref 6), .val (.ref 7), .val (.int (2 : Int32))]) (S' := [.int (1 : Int32)]) (H' := ((own_H4 s in1 (1 : Int32) in2 (1 : Int32) in3 ps) ++ [(.inr .int, [.int in1, .int in3, .int last]), (.inr .int, [.int in1, .int in3, .int last, .int (0 : Int32)])])) rfl ?_
  refine own_ks.back (mt := own_m6) rfl (ins := .ireturn) (t := 21) (v := some (.int (1 : Int32))) (S2 := [.int (1 : Int32)]) rfl rfl rfl ?_
  refine own_ks.go (mt := own_m0) rfl 4 (pc' := 305) (L' := [.val (.int shape), .val (.int in1), .val (.int in2), .val (.int in3), .val (.int last), .val (.int s), .val (.int (1 : Int32)), .val (.int (1 : Int32)), .val (.int (3 : Int32)), .val (.ref 0), .val (.ref 6), .val (.ref 7), .val (.int (2 : Int32))]) (S' := [.int (3 : Int32), .ref 7, .ref 6]) (H' := ((own_H4 s in1 (1 : Int32) in2 (1 : Int32) in3 ps) ++ [(.inr .int, [.int in1, .int in3, .int last]), (.inr .int, [.int in1, .int in3, .int last, .int (0 : Int32)])])) rfl ?_
  refine own_ks.into (mt := own_m0) (mj := own_m6) rfl (ins := .invokestatic 23) (t := 308) (j := 6) (as := [.ref 6, .ref 7, .int (3 : Int32)]) (r' := []) (L' := [.val (.ref 6), .val (.ref 7), .val (.int (3 : Int32))]) rfl rfl rfl rfl rfl rfl rfl rfl ?_
  refine own_ks.go (mt := own_m6) rfl 6 (pc' := 20) (L' := [.val (.ref 6), .val (.ref 7), .val (.int (3 : Int32))]) (S' := [.int (1 : Int32)]) (H' := ((own_H4 s in1 (1 : Int32) in2 (1 : Int32) in3 ps) ++ [(.inr .int, [.int in1, .int in3, .int last]), (.inr .int, [.int in1, .int in3, .int last, .int (0 : Int32)])])) rfl ?_
  refine own_ks.back (mt := own_m6) rfl (ins := .ireturn) (t := 21) (v := some (.int (1 : Int32))) (S2 := [.int (1 : Int32)]) rfl rfl rfl ?_
  refine own_ks.go (mt := own_m0) rfl 3 (pc' := 316) (L' := [.val (.int shape), .val (.int in1), .val (.int in2), .val (.int in3), .val (.int last), .val (.int s), .val (.int (1 : Int32)), .val (.int (1 : Int32)), .val (.int (3 : Int32)), .val (.ref 0), .val (.ref 6), .val (.ref 7), .val (.int (2 : Int32))]) (S' := [.int (1 : Int32)]) (H' := ((own_H4 s in1 (1 : Int32) in2 (1 : Int32) in3 ps) ++ [(.inr .int, [.int in1, .int in3, .int last]), (.inr .int, [.int in1, .int in3, .int last, .int (0 : Int32)])])) rfl ?_
  exact own_ks.ret (mt := own_m0) rfl (ins := .ireturn) (t := 317) (v := some (.int (1 : Int32))) rfl rfl ⟨rfl, by simp [own_H4], by simp [own_H4, own_w, own_cw, own_sl_len, own_P, own_k0]⟩
set_option maxHeartbeats 4000000 in
theorem own_c_1_2_0 (shape in1 in2 in3 last s : Int32) (ps : List Nat) : own_ks own_P (own_end own_P.2.1 24 320) [] 0 6 160 84 [.val (.int shape), .val (.int in1), .val (.int in2), .val (.int in3), .val (.int last), .val (.int s), .val (.int (1 : Int32)), .val (.int (2 : Int32)), .val (.int (0 : Int32)), .val (.ref 0), .unset, .unset, .unset] [] (own_H4 s in1 (1 : Int32) in2 (2 : Int32) in3 ps) := by
  refine own_ks.go (mt := own_m0) rfl 3 (pc' := 90) (L' := [.val (.int shape), .val (.int in1), .val (.int in2), .val (.int in3), .val (.int last), .val (.int s), .val (.int (1 : Int32)), .val (.int (2 : Int32)), .val (.int (0 : Int32)), .val (.ref 0), .unset, .unset, .unset]) (S' := [.int last, .int (0 : Int32), .ref 0]) (H' := (own_H4 s in1 (1 : Int32) in2 (2 : Int32) in3 ps)) rfl ?_
  refine own_ks.into (mt := own_m0) (mj := own_m5) rfl (ins := .invokevirtual 19) (t := 93) (j := 5) (as := [.ref 0, .int (0 : Int32), .int last]) (r' := []) (L' := [.val (.ref 0), .val (.int (0 : Int32)), .val (.int last), .unset, .unset, .unset, .unset]) rfl rfl rfl rfl rfl rfl rfl rfl ?_
  refine own_ks.go (mt := own_m5) rfl 24 (pc' := 49) (L' := [.val (.ref 0), .val (.int (0 : Int32)), .val (.int last), .val (.int (1 : Int32)), .val (.ref 6), .val (.int (0 : Int32)), .unset]) (S' := [.int (-1 : Int32)]) (H' := ((own_H4 s in1 (1 : Int32) in2 (2 : Int32) in3 ps) ++ [(.inr .int, [.int last])])) rfl ?_
  refine own_ks.go (mt := own_m5) rfl 4 (pc' := 85) (L' := [.val (.ref 0), .val (.int (0 : Int32)), .val (.int last), .val (.int (1 : Int32)), .val (.ref 6), .val (.int (0 : Int32)), .val (.int (-1 : Int32))]) (S' := [.ref 6]) (H' := ((own_H4 s in1 (1 : Int32) in2 (2 : Int32) in3 ps) ++ [(.inr .int, [.int last])])) rfl ?_
  refine own_ks.back (mt := own_m5) rfl (ins := .areturn) (t := 86) (v := some (.ref 6)) (S2 := [.ref 6]) rfl rfl rfl ?_
  refine own_ks.go (mt := own_m0) rfl 24 (pc' := 272) (L' := [.val (.int shape), .val (.int in1), .val (.int in2), .val (.int in3), .val (.int last), .val (.int s), .val (.int (1 : Int32)), .val (.int (2 : Int32)), .val (.int (0 : Int32)), .val (.ref 0), .val (.ref 6), .val (.ref 7), .val (.int (0 : Int32))]) (S' := [.int (0 : Int32), .ref 7, .ref 6]) (H' := ((own_H4 s in1 (1 : Int32) in2 (2 : Int32) in3 ps) ++ [(.inr .int, [.int last]), (.inr .int, [.int last, .int (0 : Int32), .int (0 : Int32), .int (0 : Int32)])])) rfl ?_
  refine own_ks.into (mt := own_m0) (mj := own_m6) rfl (ins := .invokestatic 23) (t := 275) (j := 6) (as := [.ref 6, .ref 7, .int (0 : Int32)]) (r' := []) (L' := [.val (.ref 6), .val (.ref 7), .val (.int (0 : Int32))]) rfl rfl rfl rfl rfl rfl rfl rfl ?_
  refine own_ks.go (mt := own_m6) rfl 10 (pc' := 12) (L' := [.val (.ref 6), .val (.ref 7), .val (.int (0 : Int32))]) (S' := [.int last, .int last]) (H' := ((own_H4 s in1 (1 : Int32) in2 (2 : Int32) in3 ps) ++ [(.inr .int, [.int last]), (.inr .int, [.int last, .int (0 : Int32), .int (0 : Int32), .int (0 : Int32)])])) rfl ?_
  have h1 : last = last := by rfl
  refine own_ks.br2 (mt := own_m6) rfl (cd := .ne) (t := 19) (b := false) (pc' := 15) rfl (teq h1).2 rfl ?_
  refine own_ks.go (mt := own_m6) rfl 2 (pc' := 20) (L' := [.val (.ref 6), .val (.ref 7), .val (.int (0 : Int32))]) (S' := [.int (1 : Int32)]) (H' := ((own_H4 s in1 (1 : Int32) in2 (2 : Int32) in3 ps) ++ [(.inr .int, [.int last]), (.inr .int, [.int last, .int (0 : Int32), .int (0 : Int32), .int (0 : Int32)])])) rfl ?_
  refine own_ks.back (mt := own_m6) rfl (ins := .ireturn) (t := 21) (v := some (.int (1 : Int32))) (S2 := [.int (1 : Int32)]) rfl rfl rfl ?_
  refine own_ks.go (mt := own_m0) rfl 4 (pc' := 283) (L' := [.val (.int shape), .val (.int in1), .val (.int in2), .val (.int in3), .val (.int last), .val (.int s), .val (.int (1 : Int32)), .val (.int (2 : Int32)), .val (.int (0 : Int32)), .val (.ref 0), .val (.ref 6), .val (.ref 7), .val (.int (0 : Int32))]) (S' := [.int (1 : Int32), .ref 7, .ref 6]) (H' := ((own_H4 s in1 (1 : Int32) in2 (2 : Int32) in3 ps) ++ [(.inr .int, [.int last]), (.inr .int, [.int last, .int (0 : Int32), .int (0 : Int32), .int (0 : Int32)])])) rfl ?_
  refine own_ks.into (mt := own_m0) (mj := own_m6) rfl (ins := .invokestatic 23) (t := 286) (j := 6) (as := [.ref 6, .ref 7, .int (1 : Int32)]) (r' := []) (L' := [.val (.ref 6), .val (.ref 7), .val (.int (1 : Int32))]) rfl rfl rfl rfl rfl rfl rfl rfl ?_
  refine own_ks.go (mt := own_m6) rfl 6 (pc' := 20) (L' := [.val (.ref 6), .val (.ref 7), .val (.int (1 : Int32))]) (S' := [.int (1 : Int32)]) (H' := ((own_H4 s in1 (1 : Int32) in2 (2 : Int32) in3 ps) ++ [(.inr .int, [.int last]), (.inr .int, [.int last, .int (0 : Int32), .int (0 : Int32), .int (0 : Int32)])])) rfl ?_
  refine own_ks.back (mt := own_m6) rfl (ins := .ireturn) (t := 21) (v := some (.int (1 : Int32))) (S2 := [.int (1 : Int32)]) rfl rfl rfl ?_
  refine own_ks.go (mt := own_m0) rfl 4 (pc' := 294) (L' := [.val (.int shape), .val (.int in1), .val (.int in2), .val (.int in3), .val (.int last), .val (.int s), .val (.int (1 : Int32)), .val (.int (2 : Int32)), .val (.int (0 : Int32)), .val (.ref 0), .val (.ref 6), .val (.ref 7), .val (.int (0 : Int32))]) (S' := [.int (2 : Int32), .ref 7, .ref 6]) (H' := ((own_H4 s in1 (1 : Int32) in2 (2 : Int32) in3 ps) ++ [(.inr .int, [.int last]), (.inr .int, [.int last, .int (0 : Int32), .int (0 : Int32), .int (0 : Int32)])])) rfl ?_
  refine own_ks.into (mt := own_m0) (mj := own_m6) rfl (ins := .invokestatic 23) (t := 297) (j := 6) (as := [.ref 6, .ref 7, .int (2 : Int32)]) (r' := []) (L' := [.val (.ref 6), .val (.ref 7), .val (.int (2 : Int32))]) rfl rfl rfl rfl rfl rfl rfl rfl ?_
  refine own_ks.go (mt := own_m6) rfl 6 (pc' := 20) (L' := [.val (.ref 6), .val (.ref 7), .val (.int (2 : Int32))]) (S' := [.int (1 : Int32)]) (H' := ((own_H4 s in1 (1 : Int32) in2 (2 : Int32) in3 ps) ++ [(.inr .int, [.int last]), (.inr .int, [.int last, .int (0 : Int32), .int (0 : Int32), .int (0 : Int32)])])) rfl ?_
  refine own_ks.back (mt := own_m6) rfl (ins := .ireturn) (t := 21) (v := some (.int (1 : Int32))) (S2 := [.int (1 : Int32)]) rfl rfl rfl ?_
  refine own_ks.go (mt := own_m0) rfl 4 (pc' := 305) (L' := [.val (.int shape), .val (.int in1), .val (.int in2), .val (.int in3), .val (.int last), .val (.int s), .val (.int (1 : Int32)), .val (.int (2 : Int32)), .val (.int (0 : Int32)), .val (.ref 0), .val (.ref 6), .val (.ref 7), .val (.int (0 : Int32))]) (S' := [.int (3 : Int32), .ref 7, .ref 6]) (H' := ((own_H4 s in1 (1 : Int32) in2 (2 : Int32) in3 ps) ++ [(.inr .int, [.int last]), (.inr .int, [.int last, .int (0 : Int32), .int (0 : Int32), .int (0 : Int32)])])) rfl ?_
  refine own_ks.into (mt := own_m0) (mj := own_m6) rfl (ins := .invokestatic 23) (t := 308) (j := 6) (as := [.ref 6, .ref 7, .int (3 : Int32)]) (r' := []) (L' := [.val (.ref 6), .val (.ref 7), .val (.int (3 : Int32))]) rfl rfl rfl rfl rfl rfl rfl rfl ?_
  refine own_ks.go (mt := own_m6) rfl 6 (pc' := 20) (L' := [.val (.ref 6), .val (.ref 7), .val (.int (3 : Int32))]) (S' := [.int (1 : Int32)]) (H' := ((own_H4 s in1 (1 : Int32) in2 (2 : Int32) in3 ps) ++ [(.inr .int, [.int last]), (.inr .int, [.int last, .int (0 : Int32), .int (0 : Int32), .int (0 : Int32)])])) rfl ?_
  refine own_ks.back (mt := own_m6) rfl (ins := .ireturn) (t := 21) (v := some (.int (1 : Int32))) (S2 := [.int (1 : Int32)]) rfl rfl rfl ?_
  refine own_ks.go (mt := own_m0) rfl 3 (pc' := 316) (L' := [.val (.int shape), .val (.int in1), .val (.int in2), .val (.int in3), .val (.int last), .val (.int s), .val (.int (1 : Int32)), .val (.int (2 : Int32)), .val (.int (0 : Int32)), .val (.ref 0), .val (.ref 6), .val (.ref 7), .val (.int (0 : Int32))]) (S' := [.int (1 : Int32)]) (H' := ((own_H4 s in1 (1 : Int32) in2 (2 : Int32) in3 ps) ++ [(.inr .int, [.int last]), (.inr .int, [.int last, .int (0 : Int32), .int (0 : Int32), .int (0 : Int32)])])) rfl ?_
  exact own_ks.ret (mt := own_m0) rfl (ins := .ireturn) (t := 317) (v := some (.int (1 : Int32))) rfl rfl ⟨rfl, by simp [own_H4], by simp [own_H4, own_w, own_cw, own_sl_len, own_P, own_k0]⟩
set_option maxHeartbeats 4000000 in
theorem own_c_1_2_1 (shape in1 in2 in3 last s : Int32) (ps : List Nat) : own_ks own_P (own_end own_P.2.1 24 320) [] 0 6 160 84 [.val (.int shape), .val (.int in1), .val (.int in2), .val (.int in3), .val (.int last), .val (.int s), .val (.int (1 : Int32)), .val (.int (2 : Int32)), .val (.int (1 : Int32)), .val (.ref 0), .unset, .unset, .unset] [] (own_H4 s in1 (1 : Int32) in2 (2 : Int32) in3 ps) := by
  refine own_ks.go (mt := own_m0) rfl 3 (pc' := 90) (L' := [.val (.int shape), .val (.int in1), .val (.int in2), .val (.int in3), .val (.int last), .val (.int s), .val (.int (1 : Int32)), .val (.int (2 : Int32)), .val (.int (1 : Int32)), .val (.ref 0), .unset, .unset, .unset]) (S' := [.int last, .int (1 : Int32), .ref 0]) (H' := (own_H4 s in1 (1 : Int32) in2 (2 : Int32) in3 ps)) rfl ?_
  refine own_ks.into (mt := own_m0) (mj := own_m5) rfl (ins := .invokevirtual 19) (t := 93) (j := 5) (as := [.ref 0, .int (1 : Int32), .int last]) (r' := []) (L' := [.val (.ref 0), .val (.int (1 : Int32)), .val (.int last), .unset, .unset, .unset, .unset]) rfl rfl rfl rfl rfl rfl rfl rfl ?_
  refine own_ks.go (mt := own_m5) rfl 24 (pc' := 32) (L' := [.val (.ref 0), .val (.int (1 : Int32)), .val (.int last), .val (.int (2 : Int32)), .val (.int (0 : Int32)), .unset, .unset]) (S' := [.int (2 : Int32)]) (H' := (own_H4 s in1 (1 : Int32) in2 (2 : Int32) in3 ps)) rfl ?_
  refine own_ks.go (mt := own_m5) rfl 24 (pc' := 69) (L' := [.val (.ref 0), .val (.int (1 : Int32)), .val (.int last), .val (.int (2 : Int32)), .val (.ref 6), .val (.int (1 : Int32)), .val (.int (0 : Int32))]) (S' := [.ref 0]) (H' := ((own_H4 s in1 (1 : Int32) in2 (2 : Int32) in3 ps) ++ [(.inr .int, [.int in1, .int last])])) rfl ?_
  refine own_ks.go (mt := own_m5) rfl 9 (pc' := 85) (L' := [.val (.ref 0), .val (.int (1 : Int32)), .val (.int last), .val (.int (2 : Int32)), .val (.ref 6), .val (.int (0 : Int32)), .val (.int (-1 : Int32))]) (S' := [.ref 6]) (H' := ((own_H4 s in1 (1 : Int32) in2 (2 : Int32) in3 ps) ++ [(.inr .int, [.int in1, .int last])])) rfl ?_
  refine own_ks.back (mt := own_m5) rfl (ins := .areturn) (t := 86) (v := some (.ref 6)) (S2 := [.ref 6]) rfl rfl rfl ?_
  refine own_ks.go (mt := own_m0) rfl 24 (pc' := 258) (L' := [.val (.int shape), .val (.int in1), .val (.int in2), .val (.int in3), .val (.int last), .val (.int s), .val (.int (1 : Int32)), .val (.int (2 : Int32)), .val (.int (1 : Int32)), .val (.ref 0), .val (.ref 6), .val (.ref 7), .val (.int (1 : Int32))]) (S' := [.int (2 : Int32)]) (H' := ((own_H4 s in1 (1 : Int32) in2 (2 : Int32) in3 ps) ++ [(.inr .int, [.int in1, .int last]), (.inr .int, [.int in1, .int last, .int (0 : Int32), .int (0 : Int32)])])) rfl ?_
  refine own_ks.go (mt := own_m0) rfl 7 (pc' := 272) (L' := [.val (.int shape), .val (.int in1), .val (.int in2), .val (.int in3), .val (.int last), .val (.int s), .val (.int (1 : Int32)), .val (.int (2 : Int32)), .val (.int (1 : Int32)), .val (.ref 0), .val (.ref 6), .val (.ref 7), .val (.int (1 : Int32))]) (S' := [.int (0 : Int32), .ref 7, .ref 6]) (H' := ((own_H4 s in1 (1 : Int32) in2 (2 : Int32) in3 ps) ++ [(.inr .int, [.int in1, .int last]), (.inr .int, [.int in1, .int last, .int (0 : Int32), .int (0 : Int32)])])) rfl ?_
  refine own_ks.into (mt := own_m0) (mj := own_m6) rfl (ins := .invokestatic 23) (t := 275) (j := 6) (as := [.ref 6, .ref 7, .int (0 : Int32)]) (r' := []) (L' := [.val (.ref 6), .val (.ref 7), .val (.int (0 : Int32))]) rfl rfl rfl rfl rfl rfl rfl rfl ?_
  refine own_ks.go (mt := own_m6) rfl 10 (pc' := 12) (L' := [.val (.ref 6), .val (.ref 7), .val (.int (0 : Int32))]) (S' := [.int in1, .int in1]) (H' := ((own_H4 s in1 (1 : Int32) in2 (2 : Int32) in3 ps) ++ [(.inr .int, [.int in1, .int last]), (.inr .int, [.int in1, .int last, .int (0 : Int32), .int (0 : Int32)])])) rfl ?_
  have h1 : in1 = in1 := by rfl
  refine own_ks.br2 (mt := own_m6) rfl (cd := .ne) (t := 19) (b := false) (pc' := 15) rfl (teq h1).2 rfl ?_
  refine own_ks.go (mt := own_m6) rfl 2 (pc' := 20) (L' := [.val (.ref 6), .val (.ref 7), .val (.int (0 : Int32))]) (S' := [.int (1 : Int32)]) (H' := ((own_H4 s in1 (1 : Int32) in2 (2 : Int32) in3 ps) ++ [(.inr .int, [.int in1, .int last]), (.inr .int, [.int in1, .int last, .int (0 : Int32), .int (0 : Int32)])])) rfl ?_
  refine own_ks.back (mt := own_m6) rfl (ins := .ireturn) (t := 21) (v := some (.int (1 : Int32))) (S2 := [.int (1 : Int32)]) rfl rfl rfl ?_
  refine own_ks.go (mt := own_m0) rfl 4 (pc' := 283) (L' := [.val (.int shape), .val (.int in1), .val (.int in2), .val (.int in3), .val (.int last), .val (.int s), .val (.int (1 : Int32)), .val (.int (2 : Int32)), .val (.int (1 : Int32)), .val (.ref 0), .val (.ref 6), .val (.ref 7), .val (.int (1 : Int32))]) (S' := [.int (1 : Int32), .ref 7, .ref 6]) (H' := ((own_H4 s in1 (1 : Int32) in2 (2 : Int32) in3 ps) ++ [(.inr .int, [.int in1, .int last]), (.inr .int, [.int in1, .int last, .int (0 : Int32), .int (0 : Int32)])])) rfl ?_
  refine own_ks.into (mt := own_m0) (mj := own_m6) rfl (ins := .invokestatic 23) (t := 286) (j := 6) (as := [.ref 6, .ref 7, .int (1 : Int32)]) (r' := []) (L' := [.val (.ref 6), .val (.ref 7), .val (.int (1 : Int32))]) rfl rfl rfl rfl rfl rfl rfl rfl ?_
  refine own_ks.go (mt := own_m6) rfl 10 (pc' := 12) (L' := [.val (.ref 6), .val (.ref 7), .val (.int (1 : Int32))]) (S' := [.int last, .int last]) (H' := ((own_H4 s in1 (1 : Int32) in2 (2 : Int32) in3 ps) ++ [(.inr .int, [.int in1, .int last]), (.inr .int, [.int in1, .int last, .int (0 : Int32), .int (0 : Int32)])])) rfl ?_
  have h2 : last = last := by rfl
  refine own_ks.br2 (mt := own_m6) rfl (cd := .ne) (t := 19) (b := false) (pc' := 15) rfl (teq h2).2 rfl ?_
  refine own_ks.go (mt := own_m6) rfl 2 (pc' := 20) (L' := [.val (.ref 6), .val (.ref 7), .val (.int (1 : Int32))]) (S' := [.int (1 : Int32)]) (H' := ((own_H4 s in1 (1 : Int32) in2 (2 : Int32) in3 ps) ++ [(.inr .int, [.int in1, .int last]), (.inr .int, [.int in1, .int last, .int (0 : Int32), .int (0 : Int32)])])) rfl ?_
  refine own_ks.back (mt := own_m6) rfl (ins := .ireturn) (t := 21) (v := some (.int (1 : Int32))) (S2 := [.int (1 : Int32)]) rfl rfl rfl ?_
  refine own_ks.go (mt := own_m0) rfl 4 (pc' := 294) (L' := [.val (.int shape), .val (.int in1), .val (.int in2), .val (.int in3), .val (.int last), .val (.int s), .val (.int (1 : Int32)), .val (.int (2 : Int32)), .val (.int (1 : Int32)), .val (.ref 0), .val (.ref 6), .val (.ref 7), .val (.int (1 : Int32))]) (S' := [.int (2 : Int32), .ref 7, .ref 6]) (H' := ((own_H4 s in1 (1 : Int32) in2 (2 : Int32) in3 ps) ++ [(.inr .int, [.int in1, .int last]), (.inr .int, [.int in1, .int last, .int (0 : Int32), .int (0 : Int32)])])) rfl ?_
  refine own_ks.into (mt := own_m0) (mj := own_m6) rfl (ins := .invokestatic 23) (t := 297) (j := 6) (as := [.ref 6, .ref 7, .int (2 : Int32)]) (r' := []) (L' := [.val (.ref 6), .val (.ref 7), .val (.int (2 : Int32))]) rfl rfl rfl rfl rfl rfl rfl rfl ?_
  refine own_ks.go (mt := own_m6) rfl 6 (pc' := 20) (L' := [.val (.ref 6), .val (.ref 7), .val (.int (2 : Int32))]) (S' := [.int (1 : Int32)]) (H' := ((own_H4 s in1 (1 : Int32) in2 (2 : Int32) in3 ps) ++ [(.inr .int, [.int in1, .int last]), (.inr .int, [.int in1, .int last, .int (0 : Int32), .int (0 : Int32)])])) rfl ?_
  refine own_ks.back (mt := own_m6) rfl (ins := .ireturn) (t := 21) (v := some (.int (1 : Int32))) (S2 := [.int (1 : Int32)]) rfl rfl rfl ?_
  refine own_ks.go (mt := own_m0) rfl 4 (pc' := 305) (L' := [.val (.int shape), .val (.int in1), .val (.int in2), .val (.int in3), .val (.int last), .val (.int s), .val (.int (1 : Int32)), .val (.int (2 : Int32)), .val (.int (1 : Int32)), .val (.ref 0), .val (.ref 6), .val (.ref 7), .val (.int (1 : Int32))]) (S' := [.int (3 : Int32), .ref 7, .ref 6]) (H' := ((own_H4 s in1 (1 : Int32) in2 (2 : Int32) in3 ps) ++ [(.inr .int, [.int in1, .int last]), (.inr .int, [.int in1, .int last, .int (0 : Int32), .int (0 : Int32)])])) rfl ?_
  refine own_ks.into (mt := own_m0) (mj := own_m6) rfl (ins := .invokestatic 23) (t := 308) (j := 6) (as := [.ref 6, .ref 7, .int (3 : Int32)]) (r' := []) (L' := [.val (.ref 6), .val (.ref 7), .val (.int (3 : Int32))]) rfl rfl rfl rfl rfl rfl rfl rfl ?_
  refine own_ks.go (mt := own_m6) rfl 6 (pc' := 20) (L' := [.val (.ref 6), .val (.ref 7), .val (.int (3 : Int32))]) (S' := [.int (1 : Int32)]) (H' := ((own_H4 s in1 (1 : Int32) in2 (2 : Int32) in3 ps) ++ [(.inr .int, [.int in1, .int last]), (.inr .int, [.int in1, .int last, .int (0 : Int32), .int (0 : Int32)])])) rfl ?_
  refine own_ks.back (mt := own_m6) rfl (ins := .ireturn) (t := 21) (v := some (.int (1 : Int32))) (S2 := [.int (1 : Int32)]) rfl rfl rfl ?_
  refine own_ks.go (mt := own_m0) rfl 3 (pc' := 316) (L' := [.val (.int shape), .val (.int in1), .val (.int in2), .val (.int in3), .val (.int last), .val (.int s), .val (.int (1 : Int32)), .val (.int (2 : Int32)), .val (.int (1 : Int32)), .val (.ref 0), .val (.ref 6), .val (.ref 7), .val (.int (1 : Int32))]) (S' := [.int (1 : Int32)]) (H' := ((own_H4 s in1 (1 : Int32) in2 (2 : Int32) in3 ps) ++ [(.inr .int, [.int in1, .int last]), (.inr .int, [.int in1, .int last, .int (0 : Int32), .int (0 : Int32)])])) rfl ?_
  exact own_ks.ret (mt := own_m0) rfl (ins := .ireturn) (t := 317) (v := some (.int (1 : Int32))) rfl rfl ⟨rfl, by simp [own_H4], by simp [own_H4, own_w, own_cw, own_sl_len, own_P, own_k0]⟩
set_option maxHeartbeats 4000000 in
theorem own_c_1_2_2 (shape in1 in2 in3 last s : Int32) (ps : List Nat) : own_ks own_P (own_end own_P.2.1 24 320) [] 0 6 160 84 [.val (.int shape), .val (.int in1), .val (.int in2), .val (.int in3), .val (.int last), .val (.int s), .val (.int (1 : Int32)), .val (.int (2 : Int32)), .val (.int (2 : Int32)), .val (.ref 0), .unset, .unset, .unset] [] (own_H4 s in1 (1 : Int32) in2 (2 : Int32) in3 ps) := by
  refine own_ks.go (mt := own_m0) rfl 3 (pc' := 90) (L' := [.val (.int shape), .val (.int in1), .val (.int in2), .val (.int in3), .val (.int last), .val (.int s), .val (.int (1 : Int32)), .val (.int (2 : Int32)), .val (.int (2 : Int32)), .val (.ref 0), .unset, .unset, .unset]) (S' := [.int last, .int (2 : Int32), .ref 0]) (H' := (own_H4 s in1 (1 : Int32) in2 (2 : Int32) in3 ps)) rfl ?_
  refine own_ks.into (mt := own_m0) (mj := own_m5) rfl (ins := .invokevirtual 19) (t := 93) (j := 5) (as := [.ref 0, .int (2 : Int32), .int last]) (r' := []) (L' := [.val (.ref 0), .val (.int (2 : Int32)), .val (.int last), .unset, .unset, .unset, .unset]) rfl rfl rfl rfl rfl rfl rfl rfl ?_
  refine own_ks.go (mt := own_m5) rfl 24 (pc' := 19) (L' := [.val (.ref 0), .val (.int (2 : Int32)), .val (.int last), .val (.int (3 : Int32)), .val (.int (1 : Int32)), .unset, .unset]) (S' := []) (H' := (own_H4 s in1 (1 : Int32) in2 (2 : Int32) in3 ps)) rfl ?_
  refine own_ks.go (mt := own_m5) rfl 24 (pc' := 47) (L' := [.val (.ref 0), .val (.int (2 : Int32)), .val (.int last), .val (.int (3 : Int32)), .val (.ref 6), .val (.int (2 : Int32)), .unset]) (S' := [.int (3 : Int32)]) (H' := ((own_H4 s in1 (1 : Int32) in2 (2 : Int32) in3 ps) ++ [(.inr .int, [.int (0 : Int32), .int (0 : Int32), .int last])])) rfl ?_
  refine own_ks.go (mt := own_m5) rfl 24 (pc' := 61) (L' := [.val (.ref 0), .val (.int (2 : Int32)), .val (.int last), .val (.int (3 : Int32)), .val (.ref 6), .val (.int (1 : Int32)), .val (.int (0 : Int32))]) (S' := [.ref 0, .int (0 : Int32), .ref 6]) (H' := ((own_H4 s in1 (1 : Int32) in2 (2 : Int32) in3 ps) ++ [(.inr .int, [.int (0 : Int32), .int in2, .int last])])) rfl ?_
  refine own_ks.go (mt := own_m5) rfl 14 (pc' := 85) (L' := [.val (.ref 0), .val (.int (2 : Int32)), .val (.int last), .val (.int (3 : Int32)), .val (.ref 6), .val (.int (0 : Int32)), .val (.int (-1 : Int32))]) (S' := [.ref 6]) (H' := ((own_H4 s in1 (1 : Int32) in2 (2 : Int32) in3 ps) ++ [(.inr .int, [.int in1, .int in2, .int last])])) rfl ?_
  refine own_ks.back (mt := own_m5) rfl (ins := .areturn) (t := 86) (v := some (.ref 6)) (S2 := [.ref 6]) rfl rfl rfl ?_
  refine own_ks.go (mt := own_m0) rfl 24 (pc' := 163) (L' := [.val (.int shape), .val (.int in1), .val (.int in2), .val (.int in3), .val (.int last), .val (.int s), .val (.int (1 : Int32)), .val (.int (2 : Int32)), .val (.int (2 : Int32)), .val (.ref 0), .val (.ref 6), .val (.ref 7), .val (.int (2 : Int32))]) (S' := []) (H' := ((own_H4 s in1 (1 : Int32) in2 (2 : Int32) in3 ps) ++ [(.inr .int, [.int in1, .int in2, .int last]), (.inr .int, [.int in1, .int in2, .int (0 : Int32), .int (0 : Int32)])])) rfl ?_
  refine own_ks.go (mt := own_m0) rfl 16 (pc' := 272) (L' := [.val (.int shape), .val (.int in1), .val (.int in2), .val (.int in3), .val (.int last), .val (.int s), .val (.int (1 : Int32)), .val (.int (2 : Int32)), .val (.int (2 : Int32)), .val (.ref 0), .val (.ref 6), .val (.ref 7), .val (.int (2 : Int32))]) (S' := [.int (0 : Int32), .ref 7, .ref 6]) (H' := ((own_H4 s in1 (1 : Int32) in2 (2 : Int32) in3 ps) ++ [(.inr .int, [.int in1, .int in2, .int last]), (.inr .int, [.int in1, .int in2, .int last, .int (0 : Int32)])])) rfl ?_
  refine own_ks.into (mt := own_m0) (mj := own_m6) rfl (ins := .invokestatic 23) (t := 275) (j := 6) (as := [.ref 6, .ref 7, .int (0 : Int32)]) (r' := []) (L' := [.val (.ref 6), .val (.ref 7), .val (.int (0 : Int32))]) rfl rfl rfl rfl rfl rfl rfl rfl ?_
  refine own_ks.go (mt := own_m6) rfl 10 (pc' := 12) (L' := [.val (.ref 6), .val (.ref 7), .val (.int (0 : Int32))]) (S' := [.int in1, .int in1]) (H' := ((own_H4 s in1 (1 : Int32) in2 (2 : Int32) in3 ps) ++ [(.inr .int, [.int in1, .int in2, .int last]), (.inr .int, [.int in1, .int in2, .int last, .int (0 : Int32)])])) rfl ?_
  have h1 : in1 = in1 := by rfl
  refine own_ks.br2 (mt := own_m6) rfl (cd := .ne) (t := 19) (b := false) (pc' := 15) rfl (teq h1).2 rfl ?_
  refine own_ks.go (mt := own_m6) rfl 2 (pc' := 20) (L' := [.val (.ref 6), .val (.ref 7), .val (.int (0 : Int32))]) (S' := [.int (1 : Int32)]) (H' := ((own_H4 s in1 (1 : Int32) in2 (2 : Int32) in3 ps) ++ [(.inr .int, [.int in1, .int in2, .int last]), (.inr .int, [.int in1, .int in2, .int last, .int (0 : Int32)])])) rfl ?_
  refine own_ks.back (mt := own_m6) rfl (ins := .ireturn) (t := 21) (v := some (.int (1 : Int32))) (S2 := [.int (1 : Int32)]) rfl rfl rfl ?_
  refine own_ks.go (mt := own_m0) rfl 4 (pc' := 283) (L' := [.val (.int shape), .val (.int in1), .val (.int in2), .val (.int in3), .val (.int last), .val (.int s), .val (.int (1 : Int32)), .val (.int (2 : Int32)), .val (.int (2 : Int32)), .val (.ref 0), .val (.ref 6), .val (.ref 7), .val (.int (2 : Int32))]) (S' := [.int (1 : Int32), .ref 7, .ref 6]) (H' := ((own_H4 s in1 (1 : Int32) in2 (2 : Int32) in3 ps) ++ [(.inr .int, [.int in1, .int in2, .int last]), (.inr .int, [.int in1, .int in2, .int last, .int (0 : Int32)])])) rfl ?_
  refine own_ks.into (mt := own_m0) (mj := own_m6) rfl (ins := .invokestatic 23) (t := 286) (j := 6) (as := [.ref 6, .ref 7, .int (1 : Int32)]) (r' := []) (L' := [.val (.ref 6), .val (.ref 7), .val (.int (1 : Int32))]) rfl rfl rfl rfl rfl rfl rfl rfl ?_
  refine own_ks.go (mt := own_m6) rfl 10 (pc' := 12) (L' := [.val (.ref 6), .val (.ref 7), .val (.int (1 : Int32))]) (S' := [.int in2, .int in2]) (H' := ((own_H4 s in1 (1 : Int32) in2 (2 : Int32) in3 ps) ++ [(.inr .int, [.int in1, .int in2, .int last]), (.inr .int, [.int in1, .int in2, .int last, .int (0 : Int32)])])) rfl ?_
  have h2 : in2 = in2 := by rfl
  refine own_ks.br2 (mt := own_m6) rfl (cd := .ne) (t := 19) (b := false) (pc' := 15) rfl (teq h2).2 rfl ?_
  refine own_ks.go (mt := own_m6) rfl 2 (pc' := 20) (L' := [.val (.ref 6), .val (.ref 7), .val (.int (1 : Int32))]) (S' := [.int (1 : Int32)]) (H' := ((own_H4 s in1 (1 : Int32) in2 (2 : Int32) in3 ps) ++ [(.inr .int, [.int in1, .int in2, .int last]), (.inr .int, [.int in1, .int in2, .int last, .int (0 : Int32)])])) rfl ?_
  refine own_ks.back (mt := own_m6) rfl (ins := .ireturn) (t := 21) (v := some (.int (1 : Int32))) (S2 := [.int (1 : Int32)]) rfl rfl rfl ?_
  refine own_ks.go (mt := own_m0) rfl 4 (pc' := 294) (L' := [.val (.int shape), .val (.int in1), .val (.int in2), .val (.int in3), .val (.int last), .val (.int s), .val (.int (1 : Int32)), .val (.int (2 : Int32)), .val (.int (2 : Int32)), .val (.ref 0), .val (.ref 6), .val (.ref 7), .val (.int (2 : Int32))]) (S' := [.int (2 : Int32), .ref 7, .ref 6]) (H' := ((own_H4 s in1 (1 : Int32) in2 (2 : Int32) in3 ps) ++ [(.inr .int, [.int in1, .int in2, .int last]), (.inr .int, [.int in1, .int in2, .int last, .int (0 : Int32)])])) rfl ?_
  refine own_ks.into (mt := own_m0) (mj := own_m6) rfl (ins := .invokestatic 23) (t := 297) (j := 6) (as := [.ref 6, .ref 7, .int (2 : Int32)]) (r' := []) (L' := [.val (.ref 6), .val (.ref 7), .val (.int (2 : Int32))]) rfl rfl rfl rfl rfl rfl rfl rfl ?_
  refine own_ks.go (mt := own_m6) rfl 10 (pc' := 12) (L' := [.val (.ref 6), .val (.ref 7), .val (.int (2 : Int32))]) (S' := [.int last, .int last]) (H' := ((own_H4 s in1 (1 : Int32) in2 (2 : Int32) in3 ps) ++ [(.inr .int, [.int in1, .int in2, .int last]), (.inr .int, [.int in1, .int in2, .int last, .int (0 : Int32)])])) rfl ?_
  have h3 : last = last := by rfl
  refine own_ks.br2 (mt := own_m6) rfl (cd := .ne) (t := 19) (b := false) (pc' := 15) rfl (teq h3).2 rfl ?_
  refine own_ks.go (mt := own_m6) rfl 2 (pc' := 20) (L' := [.val (.ref 6), .val (.ref 7), .val (.int (2 : Int32))]) (S' := [.int (1 : Int32)]) (H' := ((own_H4 s in1 (1 : Int32) in2 (2 : Int32) in3 ps) ++ [(.inr .int, [.int in1, .int in2, .int last]), (.inr .int, [.int in1, .int in2, .int last, .int (0 : Int32)])])) rfl ?_
  refine own_ks.back (mt := own_m6) rfl (ins := .ireturn) (t := 21) (v := some (.int (1 : Int32))) (S2 := [.int (1 : Int32)]) rfl rfl rfl ?_
  refine own_ks.go (mt := own_m0) rfl 4 (pc' := 305) (L' := [.val (.int shape), .val (.int in1), .val (.int in2), .val (.int in3), .val (.int last), .val (.int s), .val (.int (1 : Int32)), .val (.int (2 : Int32)), .val (.int (2 : Int32)), .val (.ref 0), .val (.ref 6), .val (.ref 7), .val (.int (2 : Int32))]) (S' := [.int (3 : Int32), .ref 7, .ref 6]) (H' := ((own_H4 s in1 (1 : Int32) in2 (2 : Int32) in3 ps) ++ [(.inr .int, [.int in1, .int in2, .int last]), (.inr .int, [.int in1, .int in2, .int last, .int (0 : Int32)])])) rfl ?_
  refine own_ks.into (mt := own_m0) (mj := own_m6) rfl (ins := .invokestatic 23) (t := 308) (j := 6) (as := [.ref 6, .ref 7, .int (3 : Int32)]) (r' := []) (L' := [.val (.ref 6), .val (.ref 7), .val (.int (3 : Int32))]) rfl rfl rfl rfl rfl rfl rfl rfl ?_
  refine own_ks.go (mt := own_m6) rfl 6 (pc' := 20) (L' := [.val (.ref 6), .val (.ref 7), .val (.int (3 : Int32))]) (S' := [.int (1 : Int32)]) (H' := ((own_H4 s in1 (1 : Int32) in2 (2 : Int32) in3 ps) ++ [(.inr .int, [.int in1, .int in2, .int last]), (.inr .int, [.int in1, .int in2, .int last, .int (0 : Int32)])])) rfl ?_
  refine own_ks.back (mt := own_m6) rfl (ins := .ireturn) (t := 21) (v := some (.int (1 : Int32))) (S2 := [.int (1 : Int32)]) rfl rfl rfl ?_
  refine own_ks.go (mt := own_m0) rfl 3 (pc' := 316) (L' := [.val (.int shape), .val (.int in1), .val (.int in2), .val (.int in3), .val (.int last), .val (.int s), .val (.int (1 : Int32)), .val (.int (2 : Int32)), .val (.int (2 : Int32)), .val (.ref 0), .val (.ref 6), .val (.ref 7), .val (.int (2 : Int32))]) (S' := [.int (1 : Int32)]) (H' := ((own_H4 s in1 (1 : Int32) in2 (2 : Int32) in3 ps) ++ [(.inr .int, [.int in1, .int in2, .int last]), (.inr .int, [.int in1, .int in2, .int last, .int (0 : Int32)])])) rfl ?_
  exact own_ks.ret (mt := own_m0) rfl (ins := .ireturn) (t := 317) (v := some (.int (1 : Int32))) rfl rfl ⟨rfl, by simp [own_H4], by simp [own_H4, own_w, own_cw, own_sl_len, own_P, own_k0]⟩
set_option maxHeartbeats 4000000 in
theorem own_c_1_2_3 (shape in1 in2 in3 last s : Int32) (ps : List Nat) : own_ks own_P (own_end own_P.2.1 24 320) [] 0 6 160 84 [.val (.int shape), .val (.int in1), .val (.int in2), .val (.int in3), .val (.int last), .val (.int s), .val (.int (1 : Int32)), .val (.int (2 : Int32)), .val (.int (3 : Int32)), .val (.ref 0), .unset, .unset, .unset] [] (own_H4 s in1 (1 : Int32) in2 (2 : Int32) in3 ps) := by
  refine own_ks.go (mt := own_m0) rfl 3 (pc' := 90) (L' := [.val (.int shape), .val (.int in1), .val (.int in2), .val (.int in3), .val (.int last), .val (.int s), .val (.int (1 : Int32)), .val (.int (2 : Int32)), .val (.int (3 : Int32)), .val (.ref 0), .unset, .unset, .unset]) (S' := [.int last, .int (3 : Int32), .ref 0]) (H' := (own_H4 s in1 (1 : Int32) in2 (2 : Int32) in3 ps)) rfl ?_
  refine own_ks.into (mt := own_m0) (mj := own_m5) rfl (ins := .invokevirtual 19) (t := 93) (j := 5) (as := [.ref 0, .int (3 : Int32), .int last]) (r' := []) (L' := [.val (.ref 0), .val (.int (3 : Int32)), .val (.int last), .unset, .unset, .unset, .unset]) rfl rfl rfl rfl rfl rfl rfl rfl ?_
  refine own_ks.go (mt := own_m5) rfl 24 (pc' := 19) (L' := [.val (.ref 0), .val (.int (3 : Int32)), .val (.int last), .val (.int (3 : Int32)), .val (.int (2 : Int32)), .unset, .unset]) (S' := []) (H' := (own_H4 s in1 (1 : Int32) in2 (2 : Int32) in3 ps)) rfl ?_
  refine own_ks.go (mt := own_m5) rfl 24 (pc' := 13) (L' := [.val (.ref 0), .val (.int (3 : Int32)), .val (.int last), .val (.int (4 : Int32)), .val (.int (0 : Int32)), .unset, .unset]) (S' := [.int (-1 : Int32), .int (-1 : Int32)]) (H' := (own_H4 s in1 (1 : Int32) in2 (2 : Int32) in3 ps)) rfl ?_
  refine own_ks.go (mt := own_m5) rfl 24 (pc' := 67) (L' := [.val (.ref 0), .val (.int (3 : Int32)), .val (.int last), .val (.int (4 : Int32)), .val (.ref 6), .val (.int (3 : Int32)), .val (.int (2 : Int32))]) (S' := [.int in3, .int (2 : Int32), .ref 6]) (H' := ((own_H4 s in1 (1 : Int32) in2 (2 : Int32) in3 ps) ++ [(.inr .int, [.int (0 : Int32), .int (0 : Int32), .int (0 : Int32), .int last])])) rfl ?_
  refine own_ks.go (mt := own_m5) rfl 24 (pc' := 51) (L' := [.val (.ref 0), .val (.int (3 : Int32)), .val (.int last), .val (.int (4 : Int32)), .val (.ref 6), .val (.int (1 : Int32)), .val (.int (0 : Int32))]) (S' := []) (H' := ((own_H4 s in1 (1 : Int32) in2 (2 : Int32) in3 ps) ++ [(.inr .int, [.int (0 : Int32), .int in2, .int in3, .int last])])) rfl ?_
  refine own_ks.go (mt := own_m5) rfl 19 (pc' := 85) (L' := [.val (.ref 0), .val (.int (3 : Int32)), .val (.int last), .val (.int (4 : Int32)), .val (.ref 6), .val (.int (0 : Int32)), .val (.int (-1 : Int32))]) (S' := [.ref 6]) (H' := ((own_H4 s in1 (1 : Int32) in2 (2 : Int32) in3 ps) ++ [(.inr .int, [.int in1, .int in2, .int in3, .int last])])) rfl ?_
  refine own_ks.back (mt := own_m5) rfl (ins := .areturn) (t := 86) (v := some (.ref 6)) (S2 := [.ref 6]) rfl rfl rfl ?_
  refine own_ks.go (mt := own_m0) rfl 24 (pc' := 232) (L' := [.val (.int shape), .val (.int in1), .val (.int in2), .val (.int in3), .val (.int last), .val (.int s), .val (.int (1 : Int32)), .val (.int (2 : Int32)), .val (.int (3 : Int32)), .val (.ref 0), .val (.ref 6), .val (.ref 7), .val (.int (3 : Int32))]) (S' := [.int in1, .int (0 : Int32), .ref 7]) (H' := ((own_H4 s in1 (1 : Int32) in2 (2 : Int32) in3 ps) ++ [(.inr .int, [.int in1, .int in2, .int in3, .int last]), (.inr .int, [.int (0 : Int32), .int (0 : Int32), .int (0 : Int32), .int (0 : Int32)])])) rfl ?_
  refine own_ks.go (mt := own_m0) rfl 24 (pc' := 272) (L' := [.val (.int shape), .val (.int in1), .val (.int in2), .val (.int in3), .val (.int last), .val (.int s), .val (.int (1 : Int32)), .val (.int (2 : Int32)), .val (.int (3 : Int32)), .val (.ref 0), .val (.ref 6), .val (.ref 7), .val (.int (3 : Int32))]) (S' := [.int (0 : Int32), .ref 7, .ref 6]) (H' := ((own_H4 s in1 (1 : Int32) in2 (2 : Int32) in3 ps) ++ [(.inr .int, [.int in1, .int in2, .int in3, .int last]), (.inr .int, [.int in1, .int in2, .int in3, .int last])])) rfl ?_
  refine own_ks.into (mt := own_m0) (mj := own_m6) rfl (ins := .invokestatic 23) (t := 275) (j := 6) (as := [.ref 6, .ref 7, .int (0 : Int32)]) (r' := []) (L' := [.val (.ref 6), .val (.ref 7), .val (.int (0 : Int32))]) rfl rfl rfl rfl rfl rfl rfl rfl ?_
  refine own_ks.go (mt := own_m6) rfl 10 (pc' := 12) (L' := [.val (.ref 6), .val (.ref 7), .val (.int (0 : Int32))]) (S' := [.int in1, .int in1]) (H' := ((own_H4 s in1 (1 : Int32) in2 (2 : Int32) in3 ps) ++ [(.inr .int, [.int in1, .int in2, .int in3, .int last]), (.inr .int, [.int in1, .int in2, .int in3, .int last])])) rfl ?_
  have h1 : in1 = in1 := by rfl
  refine own_ks.br2 (mt := own_m6) rfl (cd := .ne) (t := 19) (b := false) (pc' := 15) rfl (teq h1).2 rfl ?_
  refine own_ks.go (mt := own_m6) rfl 2 (pc' := 20) (L' := [.val (.ref 6), .val (.ref 7), .val (.int (0 : Int32))]) (S' := [.int (1 : Int32)]) (H' := ((own_H4 s in1 (1 : Int32) in2 (2 : Int32) in3 ps) ++ [(.inr .int, [.int in1, .int in2, .int in3, .int last]), (.inr .int, [.int in1, .int in2, .int in3, .int last])])) rfl ?_
  refine own_ks.back (mt := own_m6) rfl (ins := .ireturn) (t := 21) (v := some (.int (1 : Int32))) (S2 := [.int (1 : Int32)]) rfl rfl rfl ?_
  refine own_ks.go (mt := own_m0) rfl 4 (pc' := 283) (L' := [.val (.int shape), .val (.int in1), .val (.int in2), .val (.int in3), .val (.int last), .val (.int s), .val (.int (1 : Int32)), .val (.int (2 : Int32)), .val (.int (3 : Int32)), .val (.ref 0), .val (.ref 6), .val (.ref 7), .val (.int (3 : Int32))]) (S' := [.int (1 : Int32), .ref 7, .ref 6]) (H' := ((own_H4 s in1 (1 : Int32) in2 (2 : Int32) in3 ps) ++ [(.inr .int, [.int in1, .int in2, .int in3, .int last]), (.inr .int, [.int in1, .int in2, .int in3, .int last])])) rfl ?_
  refine own_ks.into (mt := own_m0) (mj := own_m6) rfl (ins := .invokestatic 23) (t := 286) (j := 6) (as := [.ref 6, .ref 7, .int (1 : Int32)]) (r' := []) (L' := [.val (.ref 6), .val (.ref 7), .val (.int (1 : Int32))]) rfl rfl rfl rfl rfl rfl rfl rfl ?_
  refine own_ks.go (mt := own_m6) rfl 10 (pc' := 12) (L' := [.val (.ref 6), .val (.ref 7), .val (.int (1 : Int32))]) (S' := [.int in2, .int in2]) (H' := ((own_H4 s in1 (1 : Int32) in2 (2 : Int32) in3 ps) ++ [(.inr .int, [.int in1, .int in2, .int in3, .int last]), (.inr .int, [.int in1, .int in2, .int in3, .int last])])) rfl ?_
  have h2 : in2 = in2 := by rfl
  refine own_ks.br2 (mt := own_m6) rfl (cd := .ne) (t := 19) (b := false) (pc' := 15) rfl (teq h2).2 rfl ?_
  refine own_ks.go (mt := own_m6) rfl 2 (pc' := 20) (L' := [.val (.ref 6), .val (.ref 7), .val (.int (1 : Int32))]) (S' := [.int (1 : Int32)]) (H' := ((own_H4 s in1 (1 : Int32) in2 (2 : Int32) in3 ps) ++ [(.inr .int, [.int in1, .int in2, .int in3, .int last]), (.inr .int, [.int in1, .int in2, .int in3, .int last])])) rfl ?_
  refine own_ks.back (mt := own_m6) rfl (ins := .ireturn) (t := 21) (v := some (.int (1 : Int32))) (S2 := [.int (1 : Int32)]) rfl rfl rfl ?_
  refine own_ks.go (mt := own_m0) rfl 4 (pc' := 294) (L' := [.val (.int shape), .val (.int in1), .val (.int in2), .val (.int in3), .val (.int last), .val (.int s), .val (.int (1 : Int32)), .val (.int (2 : Int32)), .val (.int (3 : Int32)), .val (.ref 0), .val (.ref 6), .val (.ref 7), .val (.int (3 : Int32))]) (S' := [.int (2 : Int32), .ref 7, .ref 6]) (H' := ((own_H4 s in1 (1 : Int32) in2 (2 : Int32) in3 ps) ++ [(.inr .int, [.int in1, .int in2, .int in3, .int last]), (.inr .int, [.int in1, .int in2, .int in3, .int last])])) rfl ?_
  refine own_ks.into (mt := own_m0) (mj := own_m6) rfl (ins := .invokestatic 23) (t := 297) (j := 6) (as := [.ref 6, .ref 7, .int (2 : Int32)]) (r' := []) (L' := [.val (.ref 6), .val (.ref 7), .val (.int (2 : Int32))]) rfl rfl rfl rfl rfl rfl rfl rfl ?_
  refine own_ks.go (mt := own_m6) rfl 10 (pc' := 12) (L' := [.val (.ref 6), .val (.ref 7), .val (.int (2 : Int32))]) (S' := [.int in3, .int in3]) (H' := ((own_H4 s in1 (1 : Int32) in2 (2 : Int32) in3 ps) ++ [(.inr .int, [.int in1, .int in2, .int in3, .int last]), (.inr .int, [.int in1, .int in2, .int in3, .int last])])) rfl ?_
  have h3 : in3 = in3 := by rfl
  refine own_ks.br2 (mt := own_m6) rfl (cd := .ne) (t := 19) (b := false) (pc' := 15) rfl (teq h3).2 rfl ?_
  refine own_ks.go (mt := own_m6) rfl 2 (pc' := 20) (L' := [.val (.ref 6), .val (.ref 7), .val (.int (2 : Int32))]) (S' := [.int (1 : Int32)]) (H' := ((own_H4 s in1 (1 : Int32) in2 (2 : Int32) in3 ps) ++ [(.inr .int, [.int in1, .int in2, .int in3, .int last]), (.inr .int, [.int in1, .int in2, .int in3, .int last])])) rfl ?_
  refine own_ks.back (mt := own_m6) rfl (ins := .ireturn) (t := 21) (v := some (.int (1 : Int32))) (S2 := [.int (1 : Int32)]) rfl rfl rfl ?_
  refine own_ks.go (mt := own_m0) rfl 4 (pc' := 305) (L' := [.val (.int shape), .val (.int in1), .val (.int in2), .val (.int in3), .val (.int last), .val (.int s), .val (.int (1 : Int32)), .val (.int (2 : Int32)), .val (.int (3 : Int32)), .val (.ref 0), .val (.ref 6), .val (.ref 7), .val (.int (3 : Int32))]) (S' := [.int (3 : Int32), .ref 7, .ref 6]) (H' := ((own_H4 s in1 (1 : Int32) in2 (2 : Int32) in3 ps) ++ [(.inr .int, [.int in1, .int in2, .int in3, .int last]), (.inr .int, [.int in1, .int in2, .int in3, .int last])])) rfl ?_
  refine own_ks.into (mt := own_m0) (mj := own_m6) rfl (ins := .invokestatic 23) (t := 308) (j := 6) (as := [.ref 6, .ref 7, .int (3 : Int32)]) (r' := []) (L' := [.val (.ref 6), .val (.ref 7), .val (.int (3 : Int32))]) rfl rfl rfl rfl rfl rfl rfl rfl ?_
  refine own_ks.go (mt := own_m6) rfl 10 (pc' := 12) (L' := [.val (.ref 6), .val (.ref 7), .val (.int (3 : Int32))]) (S' := [.int last, .int last]) (H' := ((own_H4 s in1 (1 : Int32) in2 (2 : Int32) in3 ps) ++ [(.inr .int, [.int in1, .int in2, .int in3, .int last]), (.inr .int, [.int in1, .int in2, .int in3, .int last])])) rfl ?_
  have h4 : last = last := by rfl
  refine own_ks.br2 (mt := own_m6) rfl (cd := .ne) (t := 19) (b := false) (pc' := 15) rfl (teq h4).2 rfl ?_
  refine own_ks.go (mt := own_m6) rfl 2 (pc' := 20) (L' := [.val (.ref 6), .val (.ref 7), .val (.int (3 : Int32))]) (S' := [.int (1 : Int32)]) (H' := ((own_H4 s in1 (1 : Int32) in2 (2 : Int32) in3 ps) ++ [(.inr .int, [.int in1, .int in2, .int in3, .int last]), (.inr .int, [.int in1, .int in2, .int in3, .int last])])) rfl ?_
  refine own_ks.back (mt := own_m6) rfl (ins := .ireturn) (t := 21) (v := some (.int (1 : Int32))) (S2 := [.int (1 : Int32)]) rfl rfl rfl ?_
  refine own_ks.go (mt := own_m0) rfl 3 (pc' := 316) (L' := [.val (.int shape), .val (.int in1), .val (.int in2), .val (.int in3), .val (.int last), .val (.int s), .val (.int (1 : Int32)), .val (.int (2 : Int32)), .val (.int (3 : Int32)), .val (.ref 0), .val (.ref 6), .val (.ref 7), .val (.int (3 : Int32))]) (S' := [.int (1 : Int32)]) (H' := ((own_H4 s in1 (1 : Int32) in2 (2 : Int32) in3 ps) ++ [(.inr .int, [.int in1, .int in2, .int in3, .int last]), (.inr .int, [.int in1, .int in2, .int in3, .int last])])) rfl ?_
  exact own_ks.ret (mt := own_m0) rfl (ins := .ireturn) (t := 317) (v := some (.int (1 : Int32))) rfl rfl ⟨rfl, by simp [own_H4], by simp [own_H4, own_w, own_cw, own_sl_len, own_P, own_k0]⟩
set_option maxHeartbeats 4000000 in
theorem own_pre (shape in1 in2 in3 last s g2 g3 t : Int32) (k : ∀ ps : List Nat, own_ks own_P (own_end own_P.2.1 24 320) [] 0 6 160 84 [.val (.int shape), .val (.int in1), .val (.int in2), .val (.int in3), .val (.int last), .val (.int s), .val (.int g2), .val (.int g3), .val (.int t), .val (.ref 0), .unset, .unset, .unset] [] (own_H4 s in1 g2 in2 g3 in3 ps)) : own_ks own_P (own_end own_P.2.1 24 320) [] 0 6 160 21 [.val (.int shape), .val (.int in1), .val (.int in2), .val (.int in3), .val (.int last), .val (.int s), .val (.int g2), .val (.int g3), .val (.int t), .unset, .unset, .unset, .unset] [] [] := by
  obtain ⟨p1, b1, m1⟩ := own_meet_0 s
  obtain ⟨p2, b2, m2⟩ := own_meet_1 s in1 p1
  obtain ⟨p3, b3, m3⟩ := own_meet_2 s in1 g2 in2 p1 p2
  obtain ⟨p4, b4, m4⟩ := own_meet_3 s in1 g2 in2 g3 in3 p1 p2 p3
  refine own_ks.go (mt := own_m0) rfl 3 (pc' := 27) (L' := [.val (.int shape), .val (.int in1), .val (.int in2), .val (.int in3), .val (.int last), .val (.int s), .val (.int g2), .val (.int g3), .val (.int t), .unset, .unset, .unset, .unset]) (S' := [.int (536870912 : Int32), .ref 0, .ref 0]) (H' := [(.inl 0, [.null, .null, .null, .null, .null, .int (0 : Int32), .int (0 : Int32)])]) rfl ?_
  refine own_ks.into (mt := own_m0) (mj := own_m1) rfl (ins := .invokespecial 10) (t := 30) (j := 1) (as := [.ref 0, .int (536870912 : Int32)]) (r' := [.ref 0]) (L' := [.val (.ref 0), .val (.int (536870912 : Int32))]) rfl rfl rfl rfl rfl rfl rfl rfl ?_
  refine own_ks.go (mt := own_m1) rfl 35 (pc' := 63) (L' := [.val (.ref 0), .val (.int (536870912 : Int32))]) (S' := []) (H' := [(.inl 0, [.ref 1, .ref 2, .ref 3, .ref 4, .ref 5, .int (536870912 : Int32), .int (0 : Int32)]), (.inr .int, [.int (0 : Int32), .int (0 : Int32), .int (0 : Int32), .int (0 : Int32), .int (0 : Int32), .int (0 : Int32), .int (0 : Int32), .int (0 : Int32), .int (0 : Int32), .int (0 : Int32), .int (0 : Int32), .int (0 : Int32), .int (0 : Int32), .int (0 : Int32), .int (0 : Int32), .int (0 : Int32)]), (.inr .int, [.int (0 : Int32), .int (0 : Int32), .int (0 : Int32), .int (0 : Int32), .int (0 : Int32), .int (0 : Int32), .int (0 : Int32), .int (0 : Int32), .int (0 : Int32), .int (0 : Int32), .int (0 : Int32), .int (0 : Int32), .int (0 : Int32), .int (0 : Int32), .int (0 : Int32), .int (0 : Int32)]), (.inr .int, [.int (0 : Int32), .int (0 : Int32), .int (0 : Int32), .int (0 : Int32), .int (0 : Int32), .int (0 : Int32), .int (0 : Int32), .int (0 : Int32), .int (0 : Int32), .int (0 : Int32), .int (0 : Int32), .int (0 : Int32), .int (0 : Int32), .int (0 : Int32), .int (0 : Int32), .int (0 : Int32)]), (.inr .int, [.int (0 : Int32), .int (0 : Int32), .int (0 : Int32), .int (0 : Int32), .int (0 : Int32), .int (0 : Int32), .int (0 : Int32), .int (0 : Int32), .int (0 : Int32), .int (0 : Int32), .int (0 : Int32), .int (0 : Int32), .int (0 : Int32), .int (0 : Int32), .int (0 : Int32), .int (0 : Int32)]), (.inr .int, (own_sl []))]) rfl ?_
  refine own_ks.back (mt := own_m1) rfl (ins := .return_) (t := 64) (v := none) (S2 := [.ref 0]) rfl rfl rfl ?_
  refine own_ks.go (mt := own_m0) rfl 6 (pc' := 40) (L' := [.val (.int shape), .val (.int in1), .val (.int in2), .val (.int in3), .val (.int last), .val (.int s), .val (.int g2), .val (.int g3), .val (.int t), .val (.ref 0), .unset, .unset, .unset]) (S' := [.int (-1 : Int32), .int (-1 : Int32), .int s, .int s, .ref 0]) (H' := [(.inl 0, [.ref 1, .ref 2, .ref 3, .ref 4, .ref 5, .int (536870912 : Int32), .int (0 : Int32)]), (.inr .int, [.int (0 : Int32), .int (0 : Int32), .int (0 : Int32), .int (0 : Int32), .int (0 : Int32), .int (0 : Int32), .int (0 : Int32), .int (0 : Int32), .int (0 : Int32), .int (0 : Int32), .int (0 : Int32), .int (0 : Int32), .int (0 : Int32), .int (0 : Int32), .int (0 : Int32), .int (0 : Int32)]), (.inr .int, [.int (0 : Int32), .int (0 : Int32), .int (0 : Int32), .int (0 : Int32), .int (0 : Int32), .int (0 : Int32), .int (0 : Int32), .int (0 : Int32), .int (0 : Int32), .int (0 : Int32), .int (0 : Int32), .int (0 : Int32), .int (0 : Int32), .int (0 : Int32), .int (0 : Int32), .int (0 : Int32)]), (.inr .int, [.int (0 : Int32), .int (0 : Int32), .int (0 : Int32), .int (0 : Int32), .int (0 : Int32), .int (0 : Int32), .int (0 : Int32), .int (0 : Int32), .int (0 : Int32), .int (0 : Int32), .int (0 : Int32), .int (0 : Int32), .int (0 : Int32), .int (0 : Int32), .int (0 : Int32), .int (0 : Int32)]), (.inr .int, [.int (0 : Int32), .int (0 : Int32), .int (0 : Int32), .int (0 : Int32), .int (0 : Int32), .int (0 : Int32), .int (0 : Int32), .int (0 : Int32), .int (0 : Int32), .int (0 : Int32), .int (0 : Int32), .int (0 : Int32), .int (0 : Int32), .int (0 : Int32), .int (0 : Int32), .int (0 : Int32)]), (.inr .int, (own_sl []))]) rfl ?_
  refine own_ks.call (mt := own_m0) (mj := own_m2) rfl (ins := .invokevirtual 15) (t := 43) (j := 2) (as := [.ref 0, .int s, .int s, .int (-1 : Int32), .int (-1 : Int32)]) (r' := []) (v := none) (H' := [(.inl 0, [.ref 1, .ref 2, .ref 3, .ref 4, .ref 5, .int (536870912 : Int32), .int (1 : Int32)]), (.inr .int, [.int s, .int (0 : Int32), .int (0 : Int32), .int (0 : Int32), .int (0 : Int32), .int (0 : Int32), .int (0 : Int32), .int (0 : Int32), .int (0 : Int32), .int (0 : Int32), .int (0 : Int32), .int (0 : Int32), .int (0 : Int32), .int (0 : Int32), .int (0 : Int32), .int (0 : Int32)]), (.inr .int, [.int s, .int (0 : Int32), .int (0 : Int32), .int (0 : Int32), .int (0 : Int32), .int (0 : Int32), .int (0 : Int32), .int (0 : Int32), .int (0 : Int32), .int (0 : Int32), .int (0 : Int32), .int (0 : Int32), .int (0 : Int32), .int (0 : Int32), .int (0 : Int32), .int (0 : Int32)]), (.inr .int, [.int (-1 : Int32), .int (0 : Int32), .int (0 : Int32), .int (0 : Int32), .int (0 : Int32), .int (0 : Int32), .int (0 : Int32), .int (0 : Int32), .int (0 : Int32), .int (0 : Int32), .int (0 : Int32), .int (0 : Int32), .int (0 : Int32), .int (0 : Int32), .int (0 : Int32), .int (0 : Int32)]), (.inr .int, [.int (-1 : Int32), .int (0 : Int32), .int (0 : Int32), .int (0 : Int32), .int (0 : Int32), .int (0 : Int32), .int (0 : Int32), .int (0 : Int32), .int (0 : Int32), .int (0 : Int32), .int (0 : Int32), .int (0 : Int32), .int (0 : Int32), .int (0 : Int32), .int (0 : Int32), .int (0 : Int32)]), (.inr .int, (own_sl [p1]))]) (S' := []) rfl rfl rfl rfl rfl m1 rfl ?_
  refine own_ks.go (mt := own_m0) rfl 7 (pc' := 53) (L' := [.val (.int shape), .val (.int in1), .val (.int in2), .val (.int in3), .val (.int last), .val (.int s), .val (.int g2), .val (.int g3), .val (.int t), .val (.ref 0), .unset, .unset, .unset]) (S' := [.int in1, .int (0 : Int32), .int s, .int (s + (1 : Int32)), .ref 0]) (H' := [(.inl 0, [.ref 1, .ref 2, .ref 3, .ref 4, .ref 5, .int (536870912 : Int32), .int (1 : Int32)]), (.inr .int, [.int s, .int (0 : Int32), .int (0 : Int32), .int (0 : Int32), .int (0 : Int32), .int (0 : Int32), .int (0 : Int32), .int (0 : Int32), .int (0 : Int32), .int (0 : Int32), .int (0 : Int32), .int (0 : Int32), .int (0 : Int32), .int (0 : Int32), .int (0 : Int32), .int (0 : Int32)]), (.inr .int, [.int s, .int (0 : Int32), .int (0 : Int32), .int (0 : Int32), .int (0 : Int32), .int (0 : Int32), .int (0 : Int32), .int (0 : Int32), .int (0 : Int32), .int (0 : Int32), .int (0 : Int32), .int (0 : Int32), .int (0 : Int32), .int (0 : Int32), .int (0 : Int32), .int (0 : Int32)]), (.inr .int, [.int (-1 : Int32), .int (0 : Int32), .int (0 : Int32), .int (0 : Int32), .int (0 : Int32), .int (0 : Int32), .int (0 : Int32), .int (0 : Int32), .int (0 : Int32), .int (0 : Int32), .int (0 : Int32), .int (0 : Int32), .int (0 : Int32), .int (0 : Int32), .int (0 : Int32), .int (0 : Int32)]), (.inr .int, [.int (-1 : Int32), .int (0 : Int32), .int (0 : Int32), .int (0 : Int32), .int (0 : Int32), .int (0 : Int32), .int (0 : Int32), .int (0 : Int32), .int (0 : Int32), .int (0 : Int32), .int (0 : Int32), .int (0 : Int32), .int (0 : Int32), .int (0 : Int32), .int (0 : Int32), .int (0 : Int32)]), (.inr .int, (own_sl [p1]))]) rfl ?_
  refine own_ks.call (mt := own_m0) (mj := own_m2) rfl (ins := .invokevirtual 15) (t := 56) (j := 2) (as := [.ref 0, .int (s + (1 : Int32)), .int s, .int (0 : Int32), .int in1]) (r' := []) (v := none) (H' := [(.inl 0, [.ref 1, .ref 2, .ref 3, .ref 4, .ref 5, .int (536870912 : Int32), .int (2 : Int32)]), (.inr .int, [.int s, .int (s + (1 : Int32)), .int (0 : Int32), .int (0 : Int32), .int (0 : Int32), .int (0 : Int32), .int (0 : Int32), .int (0 : Int32), .int (0 : Int32), .int (0 : Int32), .int (0 : Int32), .int (0 : Int32), .int (0 : Int32), .int (0 : Int32), .int (0 : Int32), .int (0 : Int32)]), (.inr .int, [.int s, .int s, .int (0 : Int32), .int (0 : Int32), .int (0 : Int32), .int (0 : Int32), .int (0 : Int32), .int (0 : Int32), .int (0 : Int32), .int (0 : Int32), .int (0 : Int32), .int (0 : Int32), .int (0 : Int32), .int (0 : Int32), .int (0 : Int32), .int (0 : Int32)]), (.inr .int, [.int (-1 : Int32), .int (0 : Int32), .int (0 : Int32), .int (0 : Int32), .int (0 : Int32), .int (0 : Int32), .int (0 : Int32), .int (0 : Int32), .int (0 : Int32), .int (0 : Int32), .int (0 : Int32), .int (0 : Int32), .int (0 : Int32), .int (0 : Int32), .int (0 : Int32), .int (0 : Int32)]), (.inr .int, [.int (-1 : Int32), .int in1, .int (0 : Int32), .int (0 : Int32), .int (0 : Int32), .int (0 : Int32), .int (0 : Int32), .int (0 : Int32), .int (0 : Int32), .int (0 : Int32), .int (0 : Int32), .int (0 : Int32), .int (0 : Int32), .int (0 : Int32), .int (0 : Int32), .int (0 : Int32)]), (.inr .int, (own_sl [p2, p1]))]) (S' := []) rfl rfl rfl rfl rfl m2 rfl ?_
  refine own_ks.go (mt := own_m0) rfl 7 (pc' := 67) (L' := [.val (.int shape), .val (.int in1), .val (.int in2), .val (.int in3), .val (.int last), .val (.int s), .val (.int g2), .val (.int g3), .val (.int t), .val (.ref 0), .unset, .unset, .unset]) (S' := [.int in2, .int g2, .int s, .int (s + (2 : Int32)), .ref 0]) (H' := [(.inl 0, [.ref 1, .ref 2, .ref 3, .ref 4, .ref 5, .int (536870912 : Int32), .int (2 : Int32)]), (.inr .int, [.int s, .int (s + (1 : Int32)), .int (0 : Int32), .int (0 : Int32), .int (0 : Int32), .int (0 : Int32), .int (0 : Int32), .int (0 : Int32), .int (0 : Int32), .int (0 : Int32), .int (0 : Int32), .int (0 : Int32), .int (0 : Int32), .int (0 : Int32), .int (0 : Int32), .int (0 : Int32)]), (.inr .int, [.int s, .int s, .int (0 : Int32), .int (0 : Int32), .int (0 : Int32), .int (0 : Int32), .int (0 : Int32), .int (0 : Int32), .int (0 : Int32), .int (0 : Int32), .int (0 : Int32), .int (0 : Int32), .int (0 : Int32), .int (0 : Int32), .int (0 : Int32), .int (0 : Int32)]), (.inr .int, [.int (-1 : Int32), .int (0 : Int32), .int (0 : Int32), .int (0 : Int32), .int (0 : Int32), .int (0 : Int32), .int (0 : Int32), .int (0 : Int32), .int (0 : Int32), .int (0 : Int32), .int (0 : Int32), .int (0 : Int32), .int (0 : Int32), .int (0 : Int32), .int (0 : Int32), .int (0 : Int32)]), (.inr .int, [.int (-1 : Int32), .int in1, .int (0 : Int32), .int (0 : Int32), .int (0 : Int32), .int (0 : Int32), .int (0 : Int32), .int (0 : Int32), .int (0 : Int32), .int (0 : Int32), .int (0 : Int32), .int (0 : Int32), .int (0 : Int32), .int (0 : Int32), .int (0 : Int32), .int (0 : Int32)]), (.inr .int, (own_sl [p2, p1]))]) rfl ?_
  refine own_ks.call (mt := own_m0) (mj := own_m2) rfl (ins := .invokevirtual 15) (t := 70) (j := 2) (as := [.ref 0, .int (s + (2 : Int32)), .int s, .int g2, .int in2]) (r' := []) (v := none) (H' := [(.inl 0, [.ref 1, .ref 2, .ref 3, .ref 4, .ref 5, .int (536870912 : Int32), .int (3 : Int32)]), (.inr .int, [.int s, .int (s + (1 : Int32)), .int (s + (2 : Int32)), .int (0 : Int32), .int (0 : Int32), .int (0 : Int32), .int (0 : Int32), .int (0 : Int32), .int (0 : Int32), .int (0 : Int32), .int (0 : Int32), .int (0 : Int32), .int (0 : Int32), .int (0 : Int32), .int (0 : Int32), .int (0 : Int32)]), (.inr .int, [.int s, .int s, .int s, .int (0 : Int32), .int (0 : Int32), .int (0 : Int32), .int (0 : Int32), .int (0 : Int32), .int (0 : Int32), .int (0 : Int32), .int (0 : Int32), .int (0 : Int32), .int (0 : Int32), .int (0 : Int32), .int (0 : Int32), .int (0 : Int32)]), (.inr .int, [.int (-1 : Int32), .int (0 : Int32), .int g2, .int (0 : Int32), .int (0 : Int32), .int (0 : Int32), .int (0 : Int32), .int (0 : Int32), .int (0 : Int32), .int (0 : Int32), .int (0 : Int32), .int (0 : Int32), .int (0 : Int32), .int (0 : Int32), .int (0 : Int32), .int (0 : Int32)]), (.inr .int, [.int (-1 : Int32), .int in1, .int in2, .int (0 : Int32), .int (0 : Int32), .int (0 : Int32), .int (0 : Int32), .int (0 : Int32), .int (0 : Int32), .int (0 : Int32), .int (0 : Int32), .int (0 : Int32), .int (0 : Int32), .int (0 : Int32), .int (0 : Int32), .int (0 : Int32)]), (.inr .int, (own_sl [p3, p2, p1]))]) (S' := []) rfl rfl rfl rfl rfl m3 rfl ?_
  refine own_ks.go (mt := own_m0) rfl 7 (pc' := 81) (L' := [.val (.int shape), .val (.int in1), .val (.int in2), .val (.int in3), .val (.int last), .val (.int s), .val (.int g2), .val (.int g3), .val (.int t), .val (.ref 0), .unset, .unset, .unset]) (S' := [.int in3, .int g3, .int s, .int (s + (3 : Int32)), .ref 0]) (H' := [(.inl 0, [.ref 1, .ref 2, .ref 3, .ref 4, .ref 5, .int (536870912 : Int32), .int (3 : Int32)]), (.inr .int, [.int s, .int (s + (1 : Int32)), .int (s + (2 : Int32)), .int (0 : Int32), .int (0 : Int32), .int (0 : Int32), .int (0 : Int32), .int (0 : Int32), .int (0 : Int32), .int (0 : Int32), .int (0 : Int32), .int (0 : Int32), .int (0 : Int32), .int (0 : Int32), .int (0 : Int32), .int (0 : Int32)]), (.inr .int, [.int s, .int s, .int s, .int (0 : Int32), .int (0 : Int32), .int (0 : Int32), .int (0 : Int32), .int (0 : Int32), .int (0 : Int32), .int (0 : Int32), .int (0 : Int32), .int (0 : Int32), .int (0 : Int32), .int (0 : Int32), .int (0 : Int32), .int (0 : Int32)]), (.inr .int, [.int (-1 : Int32), .int (0 : Int32), .int g2, .int (0 : Int32), .int (0 : Int32), .int (0 : Int32), .int (0 : Int32), .int (0 : Int32), .int (0 : Int32), .int (0 : Int32), .int (0 : Int32), .int (0 : Int32), .int (0 : Int32), .int (0 : Int32), .int (0 : Int32), .int (0 : Int32)]), (.inr .int, [.int (-1 : Int32), .int in1, .int in2, .int (0 : Int32), .int (0 : Int32), .int (0 : Int32), .int (0 : Int32), .int (0 : Int32), .int (0 : Int32), .int (0 : Int32), .int (0 : Int32), .int (0 : Int32), .int (0 : Int32), .int (0 : Int32), .int (0 : Int32), .int (0 : Int32)]), (.inr .int, (own_sl [p3, p2, p1]))]) rfl ?_
  refine own_ks.call (mt := own_m0) (mj := own_m2) rfl (ins := .invokevirtual 15) (t := 84) (j := 2) (as := [.ref 0, .int (s + (3 : Int32)), .int s, .int g3, .int in3]) (r' := []) (v := none) (H' := (own_H4 s in1 g2 in2 g3 in3 [p4, p3, p2, p1])) (S' := []) rfl rfl rfl rfl rfl m4 rfl ?_
  exact k _
theorem own_runs (shape in1 in2 in3 last s : Int32) : own_goal [.int shape, .int in1, .int in2, .int in3, .int last, .int s] := by
  refine own_ks.go (mt := own_m0) rfl 18 (pc' := 21) (L' := [.val (.int shape), .val (.int in1), .val (.int in2), .val (.int in3), .val (.int last), .val (.int s), .val (.int (shape &&& (1 : Int32))), .val (.int (((shape.toUInt32 >>> ((1 : Int32) &&& 31).toUInt32).toInt32 &&& (3 : Int32)) % (3 : Int32))), .val (.int ((shape.toUInt32 >>> ((3 : Int32) &&& 31).toUInt32).toInt32 &&& (3 : Int32))), .unset, .unset, .unset, .unset]) (S' := []) (H' := []) rfl ?_
  have e0 : (0 : Int32).toInt = 0 := rfl
  have e1 : (1 : Int32).toInt = 1 := rfl
  have e2 : (2 : Int32).toInt = 2 := rfl
  have e3 : (3 : Int32).toInt = 3 := rfl
  have h2 : (shape &&& (1 : Int32)) = 0 ∨ (shape &&& (1 : Int32)) = 1 := by
    have := c_mask shape 1 1 (by decide) (by decide)
    simp only [← Int32.toInt_inj, e0, e1]; omega
  have h3 : (((shape.toUInt32 >>> ((1 : Int32) &&& 31).toUInt32).toInt32 &&& (3 : Int32)) % (3 : Int32)) = 0 ∨ (((shape.toUInt32 >>> ((1 : Int32) &&& 31).toUInt32).toInt32 &&& (3 : Int32)) % (3 : Int32)) = 1 ∨ (((shape.toUInt32 >>> ((1 : Int32) &&& 31).toUInt32).toInt32 &&& (3 : Int32)) % (3 : Int32)) = 2 := by
    generalize (shape.toUInt32 >>> ((1 : Int32) &&& 31).toUInt32).toInt32 = y
    have a1 := c_mask y 3 2 (by decide) (by decide)
    have a2 := (c_irem (y &&& 3) (3 : Int32) 3 (by decide)).1 (by omega)
    simp only [← Int32.toInt_inj, e0, e1, e2]; omega
  have h4 : ((shape.toUInt32 >>> ((3 : Int32) &&& 31).toUInt32).toInt32 &&& (3 : Int32)) = 0 ∨ ((shape.toUInt32 >>> ((3 : Int32) &&& 31).toUInt32).toInt32 &&& (3 : Int32)) = 1 ∨ ((shape.toUInt32 >>> ((3 : Int32) &&& 31).toUInt32).toInt32 &&& (3 : Int32)) = 2 ∨ ((shape.toUInt32 >>> ((3 : Int32) &&& 31).toUInt32).toInt32 &&& (3 : Int32)) = 3 := by
    generalize (shape.toUInt32 >>> ((3 : Int32) &&& 31).toUInt32).toInt32 = y
    have a1 := c_mask y 3 2 (by decide) (by decide)
    simp only [← Int32.toInt_inj, e0, e1, e2, e3]; omega
  generalize (shape &&& (1 : Int32)) = g2 at *
  generalize (((shape.toUInt32 >>> ((1 : Int32) &&& 31).toUInt32).toInt32 &&& (3 : Int32)) % (3 : Int32)) = g3 at *
  generalize ((shape.toUInt32 >>> ((3 : Int32) &&& 31).toUInt32).toInt32 &&& (3 : Int32)) = t at *
  refine own_pre shape in1 in2 in3 last s g2 g3 t fun ps => ?_
  rcases h2 with rfl | rfl <;> rcases h3 with rfl | rfl | rfl <;> rcases h4 with rfl | rfl | rfl | rfl
  · exact own_c_0_0_0 shape in1 in2 in3 last s ps
  · exact own_c_0_0_1 shape in1 in2 in3 last s ps
  · exact own_c_0_0_2 shape in1 in2 in3 last s ps
  · exact own_c_0_0_3 shape in1 in2 in3 last s ps
  · exact own_c_0_1_0 shape in1 in2 in3 last s ps
  · exact own_c_0_1_1 shape in1 in2 in3 last s ps
  · exact own_c_0_1_2 shape in1 in2 in3 last s ps
  · exact own_c_0_1_3 shape in1 in2 in3 last s ps
  · exact own_c_0_2_0 shape in1 in2 in3 last s ps
  · exact own_c_0_2_1 shape in1 in2 in3 last s ps
  · exact own_c_0_2_2 shape in1 in2 in3 last s ps
  · exact own_c_0_2_3 shape in1 in2 in3 last s ps
  · exact own_c_1_0_0 shape in1 in2 in3 last s ps
  · exact own_c_1_0_1 shape in1 in2 in3 last s ps
  · exact own_c_1_0_2 shape in1 in2 in3 last s ps
  · exact own_c_1_0_3 shape in1 in2 in3 last s ps
  · exact own_c_1_1_0 shape in1 in2 in3 last s ps
  · exact own_c_1_1_1 shape in1 in2 in3 last s ps
  · exact own_c_1_1_2 shape in1 in2 in3 last s ps
  · exact own_c_1_1_3 shape in1 in2 in3 last s ps
  · exact own_c_1_2_0 shape in1 in2 in3 last s ps
  · exact own_c_1_2_1 shape in1 in2 in3 last s ps
  · exact own_c_1_2_2 shape in1 in2 in3 last s ps
  · exact own_c_1_2_3 shape in1 in2 in3 last s ps
/-! ## from the case's words to the run, and the owed theorems -/
set_option maxRecDepth 65536 in
set_option maxHeartbeats 4000000 in
theorem own_comes {Post : Tables → Env → Array Value → State → Outcome → State → Prop} (hpost : ∀ tb e args s v u, (limb_1_1.after args s (.returned v) u = true ∧ limb_1_2.after args s (.returned v) u = true ∧ True) → FrameEnd s (.returned v) u (Jvm.fieldLocs frame_1_writes args s ++ Jvm.arrayLocs frame_1_arrays args s ++ Jvm.staticLocs frame_1_statics s) 24 320 → Post tb e args s (.returned v) u) :
    ArmFor flags0 classFile x code maxLocals ret World_1 tables_1 room_1 Calls_1 rest_1 Pre_1 Post := by
  intro l hfl _ _ p e ha hc hk s m args below hf hA hF happ hP
  obtain ⟨hcalls, hrest, hpre⟩ := hP
  obtain ⟨-, -, -, hnamed, -, -, -, hat⟩ := (Spec.applies_iff hf).mp happ
  obtain ⟨hg, hn⟩ := and_e (Cond.before_iff.mp (show (Jvm.Cond.and given_1 narrow_1).before args s = true from hpre))
  obtain ⟨h0, g0⟩ := and_e hg
  obtain ⟨w0, w1, w2, w3, w4, w5, rfl⟩ : ∃ w0 w1 w2 w3 w4 w5 : Value, args = #[w0, w1, w2, w3, w4, w5] := by
    have hs : args.size = 6 := by simpa [Cond.value, given_1] using h0
    obtain ⟨L⟩ := args
    match L, hs with
    | [w0, w1, w2, w3, w4, w5], _ => exact ⟨w0, w1, w2, w3, w4, w5, rfl⟩
  have hw : own_hw s #[w0, w1, w2, w3, w4, w5] := fun d hd => atoms_spec (ws := Jvm.Cond.code x code maxLocals ret :: tables_1) hat d hd
  obtain ⟨q0, g1⟩ := and_e g0
  obtain ⟨i0, e0⟩ := is_v q0
  obtain rfl : w0 = (.int i0) := Option.some.inj e0
  obtain ⟨q1, g2⟩ := and_e g1
  obtain ⟨i1, e1⟩ := is_v q1
  obtain rfl : w1 = (.int i1) := Option.some.inj e1
  obtain ⟨q2, g3⟩ := and_e g2
  obtain ⟨i2, e2⟩ := is_v q2
  obtain rfl : w2 = (.int i2) := Option.some.inj e2
  obtain ⟨q3, g4⟩ := and_e g3
  obtain ⟨i3, e3⟩ := is_v q3
  obtain rfl : w3 = (.int i3) := Option.some.inj e3
  obtain ⟨q4, g5⟩ := and_e g4
  obtain ⟨i4, e4⟩ := is_v q4
  obtain rfl : w4 = (.int i4) := Option.some.inj e4
  obtain ⟨i5, e5⟩ := is_v g5
  obtain rfl : w5 = (.int i5) := Option.some.inj e5
  obtain ⟨v, H', hrun, rfl, hc1, hs1⟩ := own_runs i0 i1 i2 i3 i4 i5
  obtain ⟨n, o, h1, h2, h3, _, L, rfl, ⟨rfl, N⟩, hq⟩ := own_law l (own_G hw) (mt := own_m0) rfl (as := [.int i0, .int i1, .int i2, .int i3, .int i4, .int i5]) rfl hrun tables_1 room_1 (Nat.le_refl _) (Nat.le_refl _) hc1 hs1 p e ha hc hk s m _ below hf ((Spec.applies_iff_loose hf).mp happ).1 ⟨rfl, State.Warmed39.refl s, rfl⟩ trivial
  refine ⟨n, _, h1, h2, h3, hpost _ _ _ _ _ _ ⟨Cond.after_iff.mpr rfl, Cond.after_iff.mpr (eq_i res_at (Term.int_eval (1)) rfl), trivial⟩ ⟨hq.1, hq.2.1, (hq.2.2.sift fun y hy => Or.inr (N y hy)).mono (Nat.le_trans hc1 (by decide)) (Nat.le_trans hs1 (by decide))⟩⟩
theorem main_1_1 : Claimed_1_1 := own_comes fun _ _ _ _ _ _ h hF => ⟨h.1, hF⟩
theorem main_1_2 : Claimed_1_2 := own_comes fun _ _ _ _ _ _ h hF => ⟨h.2.1, hF⟩
end Jvm.Pilot.@@N@@
namespace Jvm.Pilot.@@N@@
open Jvm Jvm.ClassFile Sem Op Lib Jvm.Free Jvm.Stand Jvm.Pilot.@@N@@.Jvm.D
/-! MADE BY PROGRAM (witnessworld.py) out of the Statement's table words and the real class files: 14 classes; the members and pool entries that the words name. The judged class is class 1, her method 1. -/
namespace start1
open Jvm.ClassFile
def u (s : String) : CpInfo := .utf8 (stringToUtf16 s)
/-- a pool by its gaps: so many unusable entries, then the entry; so many at the end -/
def gap : Nat → List CpInfo → List CpInfo
  | 0, r => r
  | n + 1, r => .unusable :: gap n r
def poolList (es : List (Nat × CpInfo)) (last : Nat) : List CpInfo := es.foldr (fun e r => gap e.1 (e.2 :: r)) (gap last [])
def pool (es : List (Nat × CpInfo)) (last : Nat) : Array CpInfo := ⟨poolList es last⟩
def fileOf (pool : Array CpInfo) (this : Nat) (attrs : Array Attribute := #[]) (ms : Array MethodInfo := #[]) (fl : Nat := 33) (sup : Nat := 0) (ifs : Array Nat := #[]) (fds : Array FieldInfo := #[]) : ClassFile where
  minorVersion := 0
  majorVersion := 65
  constantPool := pool
  accessFlags := fl
  thisClass := this
  superClass := sup
  interfaces := ifs
  fields := fds
  methods := ms
  attributes := attrs
def plain (name : String) (sup : Option ClassId) : Class where
  name := name
  kind := .ordinary
  loader := none
  accessFlags := 33
  super := sup
  interfaces := #[]
  cf := none
  fields := #[]
  methods := #[]
  instanceTypes := #[]
  staticTypes := #[]
  resolved := #[]
  callSites := []
  init := .initialized
  statics := none
  mirror := none

def pool0 : Array CpInfo := pool [(5, u "<init>"), (0, u "()V"), (1, .class_ 10), (1, u "java/lang/Object")] 113

def k0c0 : Code := { maxStack := 0, maxLocals := 1, code := object_method_1_code, exceptionTable := #[], attributes := #[] }
def k0m0 : Method := { name := "<init>", desc := "()V", sig := { parameters := [], returnType := none }, accessFlags := 1, code := some k0c0 }
/-- java/lang/Object -/
def k0 : Class := { plain "java/lang/Object" none with
  accessFlags := 33
  interfaces := #[]
  cf := some (fileOf pool0 8 #[] #[{ accessFlags := 1, nameIndex := 5, descriptorIndex := 6, attributes := #[] }] 33 0 #[] #[])
  fields := #[]
  methods := #[k0m0]
  instanceTypes := #[]
  staticTypes := #[]
  resolved := Array.replicate 124 none
  statics := none }

def pool1 : Array CpInfo := pool [(2, .class_ 4), (1, u "java/lang/Object"), (0, u "<init>"), (0, u "()V"), (0, .class_ 8), (0, u "com/example/castellan/castellan/core/ReachedPairs"), (0, .integer 536870912), (0, .methodref 7 11), (0, .nameAndType 5 12), (0, u "(I)V"), (2, .methodref 7 16), (0, .nameAndType 17 18), (0, u "meet"), (0, u "(IIII)V"), (0, .methodref 7 20), (0, .nameAndType 21 22), (0, u "path"), (0, u "(II)[I"), (0, .methodref 24 25), (0, .class_ 26), (0, .nameAndType 27 28), (0, u "com/example/castellan/castellan/core/ReachedPairsPathPinLaw"), (0, u "at"), (0, u "([I[II)Z"), (2, u "law"), (0, u "(IIIIII)Z")] 8

def k1m0 : Method := { name := "<init>", desc := "()V", sig := { parameters := [], returnType := none }, accessFlags := 2, code := none }
def k1c1 : Code := { maxStack := 5, maxLocals := 13, code := code, exceptionTable := #[], attributes := #[] }
def k1m1 : Method := { name := "law", desc := "(IIIIII)Z", sig := { parameters := [.int, .int, .int, .int, .int, .int], returnType := some .boolean }, accessFlags := 9, code := some k1c1 }
def k1c2 : Code := { maxStack := 3, maxLocals := 3, code := method_3_code, exceptionTable := #[], attributes := #[] }
def k1m2 : Method := { name := "at", desc := "([I[II)Z", sig := { parameters := [(.array .int), (.array .int), .int], returnType := some .boolean }, accessFlags := 10, code := some k1c2 }
/-- com/example/castellan/castellan/core/ReachedPairsPathPinLaw -/
def k1 : Class := { plain "com/example/castellan/castellan/core/ReachedPairsPathPinLaw" (some 0) with
  accessFlags := 49
  interfaces := #[]
  cf := some (fileOf pool1 24 #[] #[{ accessFlags := 2, nameIndex := 5, descriptorIndex := 6, attributes := #[] }, { accessFlags := 9, nameIndex := 31, descriptorIndex := 32, attributes := #[] }, { accessFlags := 10, nameIndex := 27, descriptorIndex := 28, attributes := #[] }] 49 2 #[] #[])
  fields := #[]
  methods := #[k1m0, k1m1, k1m2]
  instanceTypes := #[]
  staticTypes := #[]
  resolved := Array.replicate 41 none
  statics := none }

def pool2 : Array CpInfo := pool [(1, .methodref 2 3), (0, .class_ 4), (0, .nameAndType 5 6), (0, u "java/lang/Object"), (0, u "<init>"), (0, u "()V"), (0, .fieldref 8 9), (0, .class_ 10), (0, .nameAndType 11 12), (0, u "com/example/castellan/castellan/core/ReachedPairs"), (0, u "firsts"), (0, u "[I"), (0, .fieldref 8 14), (0, .nameAndType 15 12), (0, u "seconds"), (0, .fieldref 8 17), (0, .nameAndType 18 12), (0, u "parents"), (0, .fieldref 8 20), (0, .nameAndType 21 12), (0, u "inputs"), (0, .fieldref 8 23), (0, .nameAndType 24 12), (0, u "slots"), (0, .fieldref 8 26), (0, .nameAndType 27 28), (0, u "mostPairs"), (0, u "I"), (0, .fieldref 8 30), (0, .nameAndType 31 28), (0, u "size"), (0, .methodref 8 33), (0, .nameAndType 34 35), (0, u "slot"), (0, u "(II)I"), (23, u "(I)V"), (2, .long 11400714819323198485), (1, .methodref 65 66), (0, .class_ 67), (0, .nameAndType 68 69), (0, u "java/lang/Integer"), (0, u "numberOfLeadingZeros"), (0, u "(I)I"), (0, u "MOST_PAIRS"), (2, u "SPREAD"), (0, u "J"), (5, u "meet"), (0, u "(IIII)V"), (2, u "path"), (0, u "(II)[I")] 18

def k2c0 : Code := { maxStack := 3, maxLocals := 2, code := prog_140_method_1_code, exceptionTable := #[], attributes := #[] }
def k2m0 : Method := { name := "<init>", desc := "(I)V", sig := { parameters := [.int], returnType := none }, accessFlags := 0, code := some k2c0 }
def k2c1 : Code := { maxStack := 4, maxLocals := 8, code := prog_140_method_5_code, exceptionTable := #[], attributes := #[] }
def k2m1 : Method := { name := "meet", desc := "(IIII)V", sig := { parameters := [.int, .int, .int, .int], returnType := none }, accessFlags := 0, code := some k2c1 }
def k2c2 : Code := { maxStack := 4, maxLocals := 7, code := prog_140_method_6_code, exceptionTable := #[], attributes := #[] }
def k2m2 : Method := { name := "path", desc := "(II)[I", sig := { parameters := [.int, .int], returnType := some (.array .int) }, accessFlags := 0, code := some k2c2 }
def k2c3 : Code := { maxStack := 5, maxLocals := 5, code := prog_140_method_8_code, exceptionTable := #[], attributes := #[] }
def k2m3 : Method := { name := "slot", desc := "(II)I", sig := { parameters := [.int, .int], returnType := some .int }, accessFlags := 2, code := some k2c3 }
/-- com/example/castellan/castellan/core/ReachedPairs -/
def k2 : Class := { plain "com/example/castellan/castellan/core/ReachedPairs" (some 0) with
  accessFlags := 48
  interfaces := #[]
  cf := some (fileOf pool2 8 #[] #[{ accessFlags := 0, nameIndex := 5, descriptorIndex := 59, attributes := #[] }, { accessFlags := 0, nameIndex := 80, descriptorIndex := 81, attributes := #[] }, { accessFlags := 0, nameIndex := 84, descriptorIndex := 85, attributes := #[] }, { accessFlags := 2, nameIndex := 34, descriptorIndex := 35, attributes := #[] }] 48 2 #[] #[{ accessFlags := 24, nameIndex := 70, descriptorIndex := 28, attributes := #[] }, { accessFlags := 26, nameIndex := 73, descriptorIndex := 74, attributes := #[] }, { accessFlags := 18, nameIndex := 27, descriptorIndex := 28, attributes := #[] }, { accessFlags := 2, nameIndex := 11, descriptorIndex := 12, attributes := #[] }, { accessFlags := 2, nameIndex := 15, descriptorIndex := 12, attributes := #[] }, { accessFlags := 2, nameIndex := 18, descriptorIndex := 12, attributes := #[] }, { accessFlags := 2, nameIndex := 21, descriptorIndex := 12, attributes := #[] }, { accessFlags := 2, nameIndex := 31, descriptorIndex := 28, attributes := #[] }, { accessFlags := 2, nameIndex := 24, descriptorIndex := 12, attributes := #[] }])
  fields := #[{ name := "MOST_PAIRS", type := .int, accessFlags := 24, slot := 0, constantValue := 0 }, { name := "SPREAD", type := .long, accessFlags := 26, slot := 1, constantValue := 0 }, { name := "mostPairs", type := .int, accessFlags := 18, slot := 0, constantValue := 0 }, { name := "firsts", type := (.array .int), accessFlags := 2, slot := 1, constantValue := 0 }, { name := "seconds", type := (.array .int), accessFlags := 2, slot := 2, constantValue := 0 }, { name := "parents", type := (.array .int), accessFlags := 2, slot := 3, constantValue := 0 }, { name := "inputs", type := (.array .int), accessFlags := 2, slot := 4, constantValue := 0 }, { name := "size", type := .int, accessFlags := 2, slot := 5, constantValue := 0 }, { name := "slots", type := (.array .int), accessFlags := 2, slot := 6, constantValue := 0 }]
  methods := #[k2m0, k2m1, k2m2, k2m3]
  instanceTypes := #[.int, (.array .int), (.array .int), (.array .int), (.array .int), .int, (.array .int)]
  staticTypes := #[.int, .long]
  resolved := Array.replicate 104 none
  statics := none }

def pool3 : Array CpInfo := pool [(1, .class_ 2), (0, u "java/io/Serializable"), (0, .class_ 4), (0, u "java/lang/Object")] 2

/-- java/io/Serializable -/
def k3 : Class := { plain "java/io/Serializable" (some 0) with
  accessFlags := 1537
  interfaces := #[]
  cf := some (fileOf pool3 1 #[] #[] 1537 3 #[] #[])
  fields := #[]
  methods := #[]
  instanceTypes := #[]
  staticTypes := #[]
  resolved := Array.replicate 7 none
  statics := none }

def pool4 : Array CpInfo := pool [(2, .class_ 4), (1, u "java/lang/Object"), (0, u "<init>"), (0, u "()V"), (1, .class_ 10), (1, u "java/lang/Number"), (2, .class_ 14), (0, u "java/io/Serializable"), (0, u "serialVersionUID"), (0, u "J")] 20

def k4m0 : Method := { name := "<init>", desc := "()V", sig := { parameters := [], returnType := none }, accessFlags := 1, code := none }
/-- java/lang/Number -/
def k4 : Class := { plain "java/lang/Number" (some 0) with
  accessFlags := 1057
  interfaces := #[3]
  cf := some (fileOf pool4 8 #[] #[{ accessFlags := 1, nameIndex := 5, descriptorIndex := 6, attributes := #[] }] 1057 2 #[13] #[{ accessFlags := 26, nameIndex := 15, descriptorIndex := 16, attributes := #[] }])
  fields := #[{ name := "serialVersionUID", type := .long, accessFlags := 26, slot := 0, constantValue := 0 }]
  methods := #[k4m0]
  instanceTypes := #[]
  staticTypes := #[.long]
  resolved := Array.replicate 37 none
  statics := none }

def pool5 : Array CpInfo := pool [(1, .class_ 2), (0, u "java/lang/Comparable"), (0, .class_ 4), (0, u "java/lang/Object")] 7

/-- java/lang/Comparable -/
def k5 : Class := { plain "java/lang/Comparable" (some 0) with
  accessFlags := 1537
  interfaces := #[]
  cf := some (fileOf pool5 1 #[] #[] 1537 3 #[] #[])
  fields := #[]
  methods := #[]
  instanceTypes := #[]
  staticTypes := #[]
  resolved := Array.replicate 12 none
  statics := none }

def pool6 : Array CpInfo := pool [(1, .class_ 2), (0, u "java/lang/constant/Constable"), (0, .class_ 4), (0, u "java/lang/Object")] 6

/-- java/lang/constant/Constable -/
def k6 : Class := { plain "java/lang/constant/Constable" (some 0) with
  accessFlags := 1537
  interfaces := #[]
  cf := some (fileOf pool6 1 #[] #[] 1537 3 #[] #[])
  fields := #[]
  methods := #[]
  instanceTypes := #[]
  staticTypes := #[]
  resolved := Array.replicate 11 none
  statics := none }

def pool7 : Array CpInfo := pool [(1, .class_ 2), (0, u "java/lang/constant/ConstantDesc"), (0, .class_ 4), (0, u "java/lang/Object")] 32

/-- java/lang/constant/ConstantDesc -/
def k7 : Class := { plain "java/lang/constant/ConstantDesc" (some 0) with
  accessFlags := 1537
  interfaces := #[]
  cf := some (fileOf pool7 1 #[] #[] 1537 3 #[] #[])
  fields := #[]
  methods := #[]
  instanceTypes := #[]
  staticTypes := #[]
  resolved := Array.replicate 37 none
  statics := none }

def pool8 : Array CpInfo := pool [(1, .class_ 2), (0, u "java/lang/Integer"), (16, u "digits"), (0, u "[C"), (32, u "numberOfLeadingZeros"), (0, u "(I)I"), (30, u "DigitOnes"), (0, u "[B"), (2, u "DigitTens"), (99, .class_ 190), (0, u "java/lang/Integer$IntegerCache"), (3, u "I"), (8, .class_ 204), (0, u "java/lang/Number"), (2, u "value"), (56, .integer 65536), (37, u "TYPE"), (0, u "Ljava/lang/Class;"), (0, .class_ 305), (0, u "java/lang/Comparable"), (0, .class_ 307), (0, u "java/lang/constant/Constable"), (0, .class_ 309), (0, u "java/lang/constant/ConstantDesc"), (0, u "MIN_VALUE"), (1, u "MAX_VALUE"), (3, u "SIZE"), (1, u "BYTES"), (1, u "serialVersionUID"), (0, u "J")] 131

def k8c0 : Code := { maxStack := 3, maxLocals := 2, code := jdk_33_method_47_code, exceptionTable := #[], attributes := #[] }
def k8m0 : Method := { name := "numberOfLeadingZeros", desc := "(I)I", sig := { parameters := [.int], returnType := some .int }, accessFlags := 9, code := some k8c0 }
/-- java/lang/Integer -/
def k8 : Class := { plain "java/lang/Integer" (some 4) with
  accessFlags := 49
  interfaces := #[5, 6, 7]
  cf := some (fileOf pool8 1 #[.nestMembers #[189]] #[{ accessFlags := 9, nameIndex := 53, descriptorIndex := 54, attributes := #[] }] 49 203 #[304, 306, 308] #[{ accessFlags := 25, nameIndex := 310, descriptorIndex := 194, attributes := #[] }, { accessFlags := 25, nameIndex := 312, descriptorIndex := 194, attributes := #[] }, { accessFlags := 25, nameIndex := 302, descriptorIndex := 303, attributes := #[] }, { accessFlags := 24, nameIndex := 19, descriptorIndex := 20, attributes := #[] }, { accessFlags := 24, nameIndex := 89, descriptorIndex := 86, attributes := #[] }, { accessFlags := 24, nameIndex := 85, descriptorIndex := 86, attributes := #[] }, { accessFlags := 18, nameIndex := 207, descriptorIndex := 194, attributes := #[] }, { accessFlags := 25, nameIndex := 316, descriptorIndex := 194, attributes := #[] }, { accessFlags := 25, nameIndex := 318, descriptorIndex := 194, attributes := #[] }, { accessFlags := 26, nameIndex := 320, descriptorIndex := 321, attributes := #[] }])
  fields := #[{ name := "MIN_VALUE", type := .int, accessFlags := 25, slot := 0, constantValue := 0 }, { name := "MAX_VALUE", type := .int, accessFlags := 25, slot := 1, constantValue := 0 }, { name := "TYPE", type := (.object "java/lang/Class"), accessFlags := 25, slot := 2, constantValue := 0 }, { name := "digits", type := (.array .char), accessFlags := 24, slot := 3, constantValue := 0 }, { name := "DigitTens", type := (.array .byte), accessFlags := 24, slot := 4, constantValue := 0 }, { name := "DigitOnes", type := (.array .byte), accessFlags := 24, slot := 5, constantValue := 0 }, { name := "value", type := .int, accessFlags := 18, slot := 0, constantValue := 0 }, { name := "SIZE", type := .int, accessFlags := 25, slot := 6, constantValue := 0 }, { name := "BYTES", type := .int, accessFlags := 25, slot := 7, constantValue := 0 }, { name := "serialVersionUID", type := .long, accessFlags := 26, slot := 8, constantValue := 0 }]
  methods := #[k8m0]
  instanceTypes := #[.int]
  staticTypes := #[.int, .int, (.object "java/lang/Class"), (.array .char), (.array .byte), (.array .byte), .int, .int, .long]
  resolved := Array.replicate 453 none
  statics := none }

def pool9 : Array CpInfo := pool [(1, u "java/lang/Cloneable"), (0, .class_ 1), (0, u "java/lang/Object"), (0, .class_ 3)] 3

/-- java/lang/Cloneable -/
def k9 : Class := { plain "java/lang/Cloneable" (some 0) with
  accessFlags := 1537
  interfaces := #[]
  cf := some (fileOf pool9 2 #[] #[] 1537 4 #[] #[])
  fields := #[]
  methods := #[]
  instanceTypes := #[]
  staticTypes := #[]
  resolved := Array.replicate 8 none
  statics := none }

/-- the primitive byte -/
def k10 : Class := { plain "byte" none with kind := .primitive 'B', accessFlags := 0x411 }
/-- [B -/
def k11 : Class := { plain "[B" (some 0) with kind := .array 10 .byte, interfaces := #[9, 3], accessFlags := 1041 }

/-- the primitive int -/
def k12 : Class := { plain "int" none with kind := .primitive 'I', accessFlags := 0x411 }
/-- [I -/
def k13 : Class := { plain "[I" (some 0) with kind := .array 12 .int, interfaces := #[9, 3], accessFlags := 1041 }

def heap : Heap := #[]
def classes : Array Class := #[k0, k1, k2, k3, k4, k5, k6, k7, k8, k9, k10, k11, k12, k13]
def interned : List (Array UInt16 × Addr) := []
def slotsUsed : Nat := 0
def theMethod : MethodId := ⟨1, 1⟩
def args0 : Array Value := #[.int 5, .int 5, .int 5, .int 5, .int 5, .int 5]
def aboutOver (below : List Frame) : State where
  vm := { classes := classes, interned := interned.toArray }
  heap := heap
  slotsUsed := slotsUsed
  threads := #[{ frames := .invoking theMethod args0 :: below }]
def below0 : List Frame := [.native { method := ⟨0, 0⟩, args := #[] }]
def about1 : State := aboutOver below0
def p0 : Program := .bare "" "" ""
def e0 : Env := launch0.env 0 0 0
theorem w_frames : about1.frames = Frame.invoking theMethod args0 :: below0 := rfl
set_option maxRecDepth 65536 in
theorem w_args : argsFit about1.vm theMethod args0 = true := by decide +kernel
set_option maxRecDepth 65536 in
theorem w_heap : heapFits about1 = true := by decide +kernel
set_option maxRecDepth 65536 in
theorem w_runnable : about1.curStatus? = some .runnable := by decide +kernel
set_option maxRecDepth 65536 in
theorem w_alone : about1.alone = true := by decide +kernel
set_option maxRecDepth 65536 in
theorem w_named : about1.methodNamed? x = some theMethod := by decide +kernel
set_option maxRecDepth 65536 in
theorem w_hears : about1.hears theMethod below0 = true := by decide +kernel
set_option maxRecDepth 65536 in
theorem w_ripe : about1.ripe theMethod args0 below0 = true := by decide +kernel
theorem w_running : about1.status = .running := rfl
set_option maxRecDepth 65536 in
theorem w_room : about1.hasRoom e0.platform room_1 = true :=
  launch0.hasRoom_least _ room_1 (by decide +kernel) (by decide +kernel) (by decide +kernel) (by decide +kernel) (by decide +kernel) (by decide +kernel)
theorem allAtoms_all (ts : List Jvm.Cond) (a : Array Jvm.Value) (st : Jvm.State) : (allAtoms ts).before a st = ts.all (fun c => c.before a st) := by
  induction ts with
  | nil => rfl
  | cons c t ih =>
    show (Jvm.Cond.and c (allAtoms t)).before a st = _
    rw [Jvm.Cond.before_and, ih, List.all_cons]
def words1 : List Jvm.Cond := Jvm.Cond.code x code maxLocals ret :: tables_1
/-- a 'code' word, met by the world's own term for the bytes: nothing is compared byte by byte -/
theorem code_word {y : MethodName} {bytes : ByteArray} {mx : Nat} {rt : Option FieldType} {a : Array Value} {s : State} {m : MethodId} {meth : Method} {c : Code} (h1 : s.methodNamed? y = some m) (h2 : s.vm.method? m = some meth) (h3 : meth.code = some c) (h4 : c.code = bytes)
    (h5 : (c.maxLocals == mx && c.exceptionTable.isEmpty && decide (c.maxStack ≤ mostOperands) && decide (meth.sig.returnType = rt) && !meth.locks && decide (parseMethodDescriptor y.desc = some meth.sig)) = true) : (Jvm.Cond.code y bytes mx rt).before a s = true := by
  simp only [Bool.and_eq_true, beq_iff_eq, Bool.not_eq_true', decide_eq_true_eq] at h5
  obtain ⟨⟨⟨⟨⟨g1, g2⟩, g3⟩, g4⟩, g5⟩, g6⟩ := h5
  simp [Cond.before, Cond.holds, Cond.value, h1, h2, h3, h4, g1, g2, g3, g4, g5, g6]
def isCode : Jvm.Cond → Bool
  | .code _ _ _ _ => true
  | _ => false
theorem all_split {L : List Jvm.Cond} {P : Jvm.Cond → Bool} (h1 : L.all (fun c => isCode c || P c) = true) (h2 : ∀ c ∈ L.filter isCode, P c = true) : L.all P = true := by
  refine List.all_eq_true.mpr fun c hc => ?_
  have h := List.all_eq_true.mp h1 c hc
  rcases Bool.eq_false_or_eq_true (isCode c) with hi | hi
  · exact h2 c (List.mem_filter.mpr ⟨hc, hi⟩)
  · simpa [hi] using h
set_option maxRecDepth 65536 in
theorem w_c0 : (Jvm.Cond.code x code maxLocals ret).before args0 about1 = true := code_word (m := ⟨1, 1⟩) (meth := k1m1) (c := k1c1) (by decide +kernel) rfl rfl rfl (by decide +kernel)
set_option maxRecDepth 65536 in
theorem w_c1 : (Jvm.Cond.code ({ cls := "com/example/castellan/castellan/core/ReachedPairs", name := "<init>", desc := "(I)V" } : Jvm.MethodName) prog_140_method_1_code (2 : Nat) (Option.none : Option Jvm.ClassFile.FieldType)).before args0 about1 = true := code_word (m := ⟨2, 0⟩) (meth := k2m0) (c := k2c0) (by decide +kernel) rfl rfl rfl (by decide +kernel)
set_option maxRecDepth 65536 in
theorem w_c2 : (Jvm.Cond.code ({ cls := "java/lang/Object", name := "<init>", desc := "()V" } : Jvm.MethodName) object_method_1_code (1 : Nat) (Option.none : Option Jvm.ClassFile.FieldType)).before args0 about1 = true := code_word (m := ⟨0, 0⟩) (meth := k0m0) (c := k0c0) (by decide +kernel) rfl rfl rfl (by decide +kernel)
set_option maxRecDepth 65536 in
theorem w_c3 : (Jvm.Cond.code ({ cls := "com/example/castellan/castellan/core/ReachedPairs", name := "meet", desc := "(IIII)V" } : Jvm.MethodName) prog_140_method_5_code (8 : Nat) (Option.none : Option Jvm.ClassFile.FieldType)).before args0 about1 = true := code_word (m := ⟨2, 1⟩) (meth := k2m1) (c := k2c1) (by decide +kernel) rfl rfl rfl (by decide +kernel)
set_option maxRecDepth 65536 in
theorem w_c4 : (Jvm.Cond.code ({ cls := "com/example/castellan/castellan/core/ReachedPairs", name := "slot", desc := "(II)I" } : Jvm.MethodName) prog_140_method_8_code (5 : Nat) (Option.some Jvm.ClassFile.FieldType.int)).before args0 about1 = true := code_word (m := ⟨2, 3⟩) (meth := k2m3) (c := k2c3) (by decide +kernel) rfl rfl rfl (by decide +kernel)
set_option maxRecDepth 65536 in
theorem w_c5 : (Jvm.Cond.code ({ cls := "java/lang/Integer", name := "numberOfLeadingZeros", desc := "(I)I" } : Jvm.MethodName) jdk_33_method_47_code (2 : Nat) (Option.some Jvm.ClassFile.FieldType.int)).before args0 about1 = true := code_word (m := ⟨8, 0⟩) (meth := k8m0) (c := k8c0) (by decide +kernel) rfl rfl rfl (by decide +kernel)
set_option maxRecDepth 65536 in
theorem w_c6 : (Jvm.Cond.code ({ cls := "com/example/castellan/castellan/core/ReachedPairs", name := "path", desc := "(II)[I" } : Jvm.MethodName) prog_140_method_6_code (7 : Nat) (Option.some (Jvm.ClassFile.FieldType.array Jvm.ClassFile.FieldType.int))).before args0 about1 = true := code_word (m := ⟨2, 2⟩) (meth := k2m2) (c := k2c2) (by decide +kernel) rfl rfl rfl (by decide +kernel)
set_option maxRecDepth 65536 in
theorem w_c7 : (Jvm.Cond.code ({ cls := "com/example/castellan/castellan/core/ReachedPairsPathPinLaw", name := "at", desc := "([I[II)Z" } : Jvm.MethodName) method_3_code (3 : Nat) (Option.some Jvm.ClassFile.FieldType.boolean)).before args0 about1 = true := code_word (m := ⟨1, 2⟩) (meth := k1m2) (c := k1c2) (by decide +kernel) rfl rfl rfl (by decide +kernel)
def codes1 : List Jvm.Cond := [Jvm.Cond.code x code maxLocals ret, Jvm.Cond.code ({ cls := "com/example/castellan/castellan/core/ReachedPairs", name := "<init>", desc := "(I)V" } : Jvm.MethodName) prog_140_method_1_code (2 : Nat) (Option.none : Option Jvm.ClassFile.FieldType), Jvm.Cond.code ({ cls := "java/lang/Object", name := "<init>", desc := "()V" } : Jvm.MethodName) object_method_1_code (1 : Nat) (Option.none : Option Jvm.ClassFile.FieldType), Jvm.Cond.code ({ cls := "com/example/castellan/castellan/core/ReachedPairs", name := "meet", desc := "(IIII)V" } : Jvm.MethodName) prog_140_method_5_code (8 : Nat) (Option.none : Option Jvm.ClassFile.FieldType), Jvm.Cond.code ({ cls := "com/example/castellan/castellan/core/ReachedPairs", name := "slot", desc := "(II)I" } : Jvm.MethodName) prog_140_method_8_code (5 : Nat) (Option.some Jvm.ClassFile.FieldType.int), Jvm.Cond.code ({ cls := "java/lang/Integer", name := "numberOfLeadingZeros", desc := "(I)I" } : Jvm.MethodName) jdk_33_method_47_code (2 : Nat) (Option.some Jvm.ClassFile.FieldType.int), Jvm.Cond.code ({ cls := "com/example/castellan/castellan/core/ReachedPairs", name := "path", desc := "(II)[I" } : Jvm.MethodName) prog_140_method_6_code (7 : Nat) (Option.some (Jvm.ClassFile.FieldType.array Jvm.ClassFile.FieldType.int)), Jvm.Cond.code ({ cls := "com/example/castellan/castellan/core/ReachedPairsPathPinLaw", name := "at", desc := "([I[II)Z" } : Jvm.MethodName) method_3_code (3 : Nat) (Option.some Jvm.ClassFile.FieldType.boolean)]
set_option maxRecDepth 65536 in
theorem codes_eq : words1.filter isCode = codes1 := rfl
theorem w_codes : ∀ c ∈ words1.filter isCode, c.before args0 about1 = true := by
  rw [codes_eq]
  intro c hc
  simp only [codes1, List.mem_cons, List.not_mem_nil, or_false] at hc
  rcases hc with rfl | rfl | rfl | rfl | rfl | rfl | rfl | rfl
  · exact w_c0
  · exact w_c1
  · exact w_c2
  · exact w_c3
  · exact w_c4
  · exact w_c5
  · exact w_c6
  · exact w_c7
set_option maxRecDepth 65536 in
theorem w_t1 : (words1.take 24).all (fun c => isCode c || c.before args0 about1) = true := by decide +kernel
set_option maxRecDepth 65536 in
theorem w_t2 : ((words1.drop 24).take 24).all (fun c => isCode c || c.before args0 about1) = true := by decide +kernel
set_option maxRecDepth 65536 in
theorem w_t3 : ((words1.drop 24).drop 24).all (fun c => isCode c || c.before args0 about1) = true := by decide +kernel
theorem w_tables : (allAtoms (Jvm.Cond.code x code maxLocals ret :: tables_1)).before args0 about1 = true := by
  rw [allAtoms_all]
  show words1.all (fun c => c.before args0 about1) = true
  refine all_split ?_ w_codes
  rw [← List.take_append_drop 24 words1, List.all_append, w_t1, ← List.take_append_drop 24 (words1.drop 24), List.all_append, w_t2, w_t3]
  rfl
set_option maxRecDepth 65536 in
theorem w_case : (Jvm.Cond.and given_1 narrow_1).before args0 about1 = true := by decide +kernel
theorem w_applies : (headSpec (Jvm.Cond.code x code maxLocals ret :: tables_1) room_1).applies x e0.platform about1 = true :=
  (Spec.applies_iff w_frames).mpr ⟨w_running, w_runnable, w_alone, w_named, w_hears, w_ripe, w_room, w_tables⟩
theorem atStart : AtStart classFile x code maxLocals ret World_1 tables_1 room_1 Calls_1 rest_1 Pre_1 launch0 p0 e0 about1 theMethod args0 below0 :=
  ⟨lists_1, trivial, launch0.admits_env _ _ _, launch0.least_env, fairChoices_fair.cas, fairChoices_fair.clock, w_frames, w_args, w_heap, w_applies, trivial, trivial, w_case⟩
end start1
theorem witness_1 : WitnessClaimed_1 := ⟨start1.p0, start1.e0, start1.about1, start1.theMethod, start1.args0, start1.below0, start1.atStart⟩
end Jvm.Pilot.@@N@@
