import JvmDerived
import JvmDerived.Pilot.@@N@@Statement
import JvmDerived.Pilot.@@N@@Code
set_option linter.unusedVariables false
set_option linter.unusedSimpArgs false
/- laws to paste: Road.chN, Road.codOf (cut by pick.py; bodies as the Statement names them) -/
namespace Jvm.Pilot.@@N@@
namespace StrChars
open Jvm Sem ClassFile Op Lib Jvm.Stand Jvm.Free.XT Jvm.Free.ALB Jvm.Free.JM Jvm.Free
open Jvm.Lib.Cold (StaticIs)
def lo8 (x : Int32) : Int32 := x.toInt8.toInt32
theorem lo8_mask {x : Int32} (h0 : ¬ x < 0) (h1 : ¬ 255 < x) : lo8 x &&& 255 = x := by
  have t : ∀ k : Fin 256, lo8 (Int32.ofNat k.val) &&& 255 = Int32.ofNat k.val := by decide +kernel
  rw [Int32.lt_iff_toInt_lt] at h0 h1
  have e0 : (0 : Int32).toInt = 0 := rfl
  have e1 : (255 : Int32).toInt = 255 := rfl
  obtain ⟨k, hk⟩ : ∃ k : Nat, x.toInt = k := ⟨x.toInt.toNat, by omega⟩
  have hx : x = Int32.ofNat k := Int32.toInt_inj.mp (by rw [hk, Int32.toInt_ofNat_small (by omega)])
  rw [hx]
  exact t ⟨k, by omega⟩
end StrChars
namespace StrChars.Road
open Jvm Sem ClassFile Op Lib Jvm.Stand Jvm.Free Jvm.Free.XT
open Jvm.Lib.Cold (StaticIs)
abbrev ST : String := "java/lang/String"
end StrChars.Road
namespace StrChars
open Jvm Sem ClassFile Op Lib Jvm.Stand Jvm.Free.XT Jvm.Free.ALB Jvm.Free.JM Jvm.Free
open Jvm.Lib.Cold (StaticIs)
def hi8 (x : Int32) : Int32 := lo8 (x >>> ((8 : Int32) &&& 31))
def pairCh (u v : Int32) : Int32 := (((u &&& 255) <<< ((0 : Int32) &&& 31)) ||| ((v &&& 255) <<< ((8 : Int32) &&& 31))).toUInt32.toUInt16.toUInt32.toInt32
theorem lo8_and (x : Int32) : (lo8 x &&& 255).toBitVec.toNat = x.toBitVec.toNat % 256 := by
  have h : (lo8 x).toBitVec = (x.toBitVec.signExtend 8).signExtend 32 := by rw [lo8, Int8.toBitVec_toInt32, Int32.toBitVec_toInt8]
  rw [Int32.toBitVec_and, BitVec.toNat_and, h]
  have e : ((x.toBitVec.signExtend 8).signExtend 32).toNat % 256 = x.toBitVec.toNat % 256 := by
    rw [BitVec.toNat_signExtend]
    have hlt := x.toBitVec.isLt
    simp only [BitVec.toNat_setWidth, BitVec.toNat_signExtend]
    split <;> split <;> omega
  rw [← e]
  exact Nat.and_two_pow_sub_one_eq_mod _ 8
theorem pair_says {c : Int32} (h0 : ¬ c < 0) (h1 : ¬ 65535 < c) : pairCh (lo8 c) (hi8 c) = c := by
  rw [Int32.lt_iff_toInt_lt] at h0 h1
  have e0 : (0 : Int32).toInt = 0 := rfl
  have e1 : (65535 : Int32).toInt = 65535 := rfl
  have hc : c.toInt = c.toBitVec.toNat := by
    have := c.toBitVec.isLt
    have e : c.toInt = c.toBitVec.toInt := rfl
    rw [e] at h0 h1
    rw [e]
    rw [BitVec.toInt_eq_toNat_cond] at h0 h1 ⊢
    split at h0 <;> split <;> omega
  have hn : c.toBitVec.toNat < 65536 := by omega
  have a1 := lo8_and c
  have a2 : (hi8 c &&& 255).toBitVec.toNat = c.toBitVec.toNat / 256 := by
    rw [hi8, lo8_and]
    have e : ((8 : Int32) &&& 31) = 8 := by decide
    rw [e, Int32.toBitVec_shiftRight]
    have e2 : ((8 : Int32).toBitVec.smod 32) = 8#32 := by decide
    rw [e2, BitVec.sshiftRight_eq', BitVec.toNat_sshiftRight_of_msb_false (by rw [BitVec.msb_eq_false_iff_two_mul_lt]; omega)]
    show c.toBitVec.toNat >>> 8 % 256 = _
    rw [Nat.shiftRight_eq_div_pow]
    omega
  unfold pairCh
  apply Int32.toBitVec_inj.mp
  apply BitVec.eq_of_toNat_eq
  have f0 : ((0 : Int32) &&& 31) = 0 := by decide
  have f8 : ((8 : Int32) &&& 31) = 8 := by decide
  rw [f0, f8]
  have g : (((lo8 c &&& 255) <<< (0 : Int32)) ||| ((hi8 c &&& 255) <<< (8 : Int32))).toBitVec.toNat = c.toBitVec.toNat := by
    rw [Int32.toBitVec_or, Int32.toBitVec_shiftLeft, Int32.toBitVec_shiftLeft]
    have s0 : ((0 : Int32).toBitVec.smod 32) = 0#32 := by decide
    have s8 : ((8 : Int32).toBitVec.smod 32) = 8#32 := by decide
    rw [s0, s8, BitVec.toNat_or]
    simp only [BitVec.shiftLeft_eq', BitVec.toNat_shiftLeft, a1, a2]
    show (c.toBitVec.toNat % 256) <<< 0 % 2 ^ 32 ||| (c.toBitVec.toNat / 256) <<< 8 % 2 ^ 32 = _
    rw [Nat.shiftLeft_zero, Nat.mod_eq_of_lt (show c.toBitVec.toNat % 256 < 2 ^ 32 by omega), Nat.mod_eq_of_lt (show (c.toBitVec.toNat / 256) <<< 8 < 2 ^ 32 by rw [Nat.shiftLeft_eq]; omega), Nat.or_comm, ← Nat.shiftLeft_add_eq_or_of_lt (by omega), Nat.shiftLeft_eq]
    omega
  show BitVec.toNat (((((lo8 c &&& 255) <<< (0 : Int32)) ||| ((hi8 c &&& 255) <<< (8 : Int32))).toBitVec.setWidth 16).setWidth 32) = _
  rw [BitVec.toNat_setWidth, BitVec.toNat_setWidth, g]
  omega
end StrChars
namespace StrChars
open Jvm Sem ClassFile Op Lib Jvm.Stand Jvm.Free.XT Jvm.Free.ALB Jvm.Free.JM Jvm.Free
open Jvm.Lib.Cold (StaticIs)
def chr8 (u : Int32) : Int32 := (u &&& 255).toUInt32.toUInt16.toUInt32.toInt32
theorem chr8_lo8 {c : Int32} (h0 : ¬ c < 0) (h1 : ¬ 255 < c) : chr8 (lo8 c) = c := by
  have t : ∀ k : Fin 256, (Int32.ofNat k.val).toUInt32.toUInt16.toUInt32.toInt32 = Int32.ofNat k.val := by decide +kernel
  unfold chr8
  rw [lo8_mask h0 h1]
  rw [Int32.lt_iff_toInt_lt] at h0 h1
  have e0 : (0 : Int32).toInt = 0 := rfl
  have e1 : (255 : Int32).toInt = 255 := rfl
  obtain ⟨k, hk⟩ : ∃ k : Nat, c.toInt = k := ⟨c.toInt.toNat, by omega⟩
  have hx : c = Int32.ofNat k := Int32.toInt_inj.mp (by rw [hk, Int32.toInt_ofNat_small (by omega)])
  rw [hx]
  exact t ⟨k, by omega⟩
theorem narrow_ch {c : Int32} (h0 : ¬ c < 0) (h1 : ¬ 65535 < c) : narrow .char (.int c) = .int c := by
  have q : narrow .char (.int (pairCh (lo8 c) (hi8 c))) = .int (pairCh (lo8 c) (hi8 c)) := narrow_c _
  rwa [pair_says h0 h1] at q
def Cod (cd : Int32) (n : Nat) (f : Nat → Int32) (V : Cell) : Prop := (cd = 0 ∧ V.slots.size = n ∧ ∀ j, j < n → V.slots[j]? = some (.int (lo8 (f j))) ∧ ¬ 255 < f j) ∨ (cd = 1 ∧ V.slots.size = 2 * n ∧ (∀ j, j < n → V.slots[2 * j]? = some (.int (lo8 (f j))) ∧ V.slots[2 * j + 1]? = some (.int (hi8 (f j)))) ∧ ∃ j, j < n ∧ 255 < f j)
theorem Cod.cd {cd : Int32} {n : Nat} {f : Nat → Int32} {V : Cell} (h : Cod cd n f V) : cd = 0 ∨ cd = 1 := h.imp (fun q => q.1) fun q => q.1
def Txt (x t : Addr) (V : Cell) (cd : Int32) (n : Nat) (f : Nat → Int32) (U : State) : Prop := Exact "java/lang/String" x U ∧ Has x "java/lang/String" "value" "[B" (.ref t) U ∧ Has x "java/lang/String" "coder" "B" (.int cd) U ∧ XT.Arr .byte t V U ∧ Cod cd n f V ∧ ∀ j, j < n → ¬ f j < 0 ∧ ¬ 65535 < f j
theorem Txt.mv {x t : Addr} {V : Cell} {cd : Int32} {n : Nat} {f : Nat → Int32} {U U' : State} (h : Txt x t V cd n f U) (hal : U.vm.Alike U'.vm) (hh : U'.heap = U.heap) : Txt x t V cd n f U' := ⟨h.1.mv hal hh, h.2.1.mv hal hh, h.2.2.1.mv hal hh, h.2.2.2.1.mv hal hh, h.2.2.2.2⟩
namespace IsL
def yN : MethodName := ⟨"java/lang/String", "isLatin1", "()Z"⟩
abbrev yB : ByteArray := jdk_42_method_154_code
theorem d0 : decode yB 0 = .ok (.getstatic 38, 3) := by decide +kernel
theorem d3 : decode yB 3 = .ok (.ifCond (.eq) 14, 3) := by decide +kernel
theorem d6 : decode yB 6 = .ok (.aload_n 0, 1) := by decide +kernel
theorem d7 : decode yB 7 = .ok (.getfield 15, 3) := by decide +kernel
theorem d10 : decode yB 10 = .ok (.ifCond (.ne) 7, 3) := by decide +kernel
theorem d13 : decode yB 13 = .ok (.iconst 1, 1) := by decide +kernel
theorem d14 : decode yB 14 = .ok (.goto 4, 3) := by decide +kernel
theorem d17 : decode yB 17 = .ok (.iconst 0, 1) := by decide +kernel
theorem d18 : decode yB 18 = .ok (.ireturn, 1) := by decide +kernel
def site : List Cond := [.fieldLink "java/lang/String" 38 "java/lang/String" "COMPACT_STRINGS" "Z", .fieldLink "java/lang/String" 15 "java/lang/String" "coder" "B"]
def tab : Cond := tabOf yN yB 1 (some .boolean) site
def P (x : Addr) (cd z : Int32) (args : Array Value) (s : State) : Prop := args = #[.ref x] ∧ Has x "java/lang/String" "coder" "B" (.int cd) s ∧ (cd = 0 ∨ cd = 1) ∧ StaticIs s "java/lang/String" "COMPACT_STRINGS" "Z" (.int z) ∧ ¬ z = 0
def E (cd : Int32) (r : Option Value) (s u : State) : Prop := XT.PureE (some (.int (1 - cd))) r s u
theorem law (l : Launch) (x : Addr) (cd z : Int32) : Law l yN 1 0 0 0 yB 1 (some .boolean) site (P x cd z) (E cd) [] 0 0 := by
  refine Law.of_walk (plainFor_of_name (by decide +kernel)) (by decide +kernel) (by decide +kernel) (by decide) (fun _ _ h => by rw [h.1]; rfl) (fun _ U U' hal hh h => ⟨h.1, h.2.1.mv hal hh, h.2.2.1, h.2.2.2.1.there hal hh, h.2.2.2.2⟩) (fun r U U' V V' h1 hal h2 h => XT.PureE.mv r U U' V V' h1 hal h2 h) ?_
  intro p e s m args below meth c s₁ X0 hexec hbytes hml hret hlk hnm hown hh0 W hP
  obtain ⟨rfl, hx, hc, s1, hz⟩ := hP
  have c1 : Steps p.tables e below (s₁.setTop (entryFrame m #[.ref x] 1)) (s₁.setTop (mkF m 0 #[.val (.ref x)] [])) := entry rfl
  obtain ⟨T2, X2, q2, st2⟩ := X0.sget hexec hown (wk W (.fieldLink "java/lang/String" 38 "java/lang/String" "COMPACT_STRINGS" "Z")) s1 (fun _ _ h => by rw [hh0]; exact h) (g := (mkF m 0 #[.val (.ref x)] [])) rfl (hb hbytes d0)
  have hh2 := q2.trans hh0
  have c3 : Steps p.tables e below (s₁.setTop (entryFrame m #[.ref x] 1)) (T2.setTop (mkF m 7 #[.val (.ref x)] [.ref x])) := (c1.trans (st2 _ (Steps.refl _))).trans (by
    refine XS.ifNo X2.here hexec rfl (hb hbytes d3) rfl (i0_eq_f hz) ?_
    refine XS.aloadN X2.here hexec rfl (hb hbytes d6) rfl rfl ?_
    exact Steps.refl _)
  obtain ⟨T4, X4, q4, st4⟩ := X2.hget hexec hown (wk W (.fieldLink "java/lang/String" 15 "java/lang/String" "coder" "B")) (hx.mv X2.warmed.alike hh2) (g := (mkF m 7 #[.val (.ref x)] [.ref x])) rfl (rest := []) rfl (hb hbytes d7)
  have c5 : Steps p.tables e below (s₁.setTop (entryFrame m #[.ref x] 1)) (T4.setTop (mkF m 10 #[.val (.ref x)] [.int cd])) := c3.trans (st4 _ (Steps.refl _))
  have c6 : Steps p.tables e below (s₁.setTop (entryFrame m #[.ref x] 1)) (T4.setTop (mkF m 18 #[.val (.ref x)] [.int (1 - cd)])) := by
    rcases hc with rfl | rfl
    · exact c5.trans (by
        refine XS.ifNo X4.here hexec rfl (hb hbytes d10) rfl (i0_ne_f rfl) ?_
        refine iconstV X4.here hexec rfl 1 (hb hbytes d13) (by decide) ?_
        refine XS.goto X4.here hexec rfl (pc0 := 14) rfl (hb hbytes d14) (by decide) rfl ?_
        exact Steps.refl _)
    · exact c5.trans (by
        refine XS.ifYes X4.here hexec rfl (pc0 := 10) rfl (hb hbytes d10) rfl (i0_ne_t (by decide)) (by decide) rfl ?_
        refine iconstV X4.here hexec rfl 0 (hb hbytes d17) (by decide) ?_
        exact Steps.refl _)
  exact ⟨T4, some (.int (1 - cd)), _, _, _, X4, rfl, rfl, rfl, (fun h => by cases h), ⟨rfl, q4.trans hh2⟩, fun fs hl => c6.trans (X4.ireturnOut hexec hret (by rcases hc with rfl | rfl <;> rfl) (Or.inr (Or.inl rfl)) (hb hbytes d18) hl)⟩
end IsL
namespace LChA
def yN : MethodName := ⟨"java/lang/StringLatin1", "charAt", "([BI)C"⟩
abbrev yB : ByteArray := jdk_43_method_2_code
theorem d0 : decode yB 0 = .ok (.iload_n 1, 1) := by decide +kernel
theorem d1 : decode yB 1 = .ok (.aload_n 0, 1) := by decide +kernel
theorem d2 : decode yB 2 = .ok (.arraylength, 1) := by decide +kernel
theorem d3 : decode yB 3 = .ok (.invokestatic 9, 3) := by decide +kernel
theorem d6 : decode yB 6 = .ok (.aload_n 0, 1) := by decide +kernel
theorem d7 : decode yB 7 = .ok (.iload_n 1, 1) := by decide +kernel
theorem d8 : decode yB 8 = .ok (.baload, 1) := by decide +kernel
theorem d9 : decode yB 9 = .ok (.sipush 255, 3) := by decide +kernel
theorem d12 : decode yB 12 = .ok (.iand, 1) := by decide +kernel
theorem d13 : decode yB 13 = .ok (.i2c, 1) := by decide +kernel
theorem d14 : decode yB 14 = .ok (.ireturn, 1) := by decide +kernel
def site : List Cond := [JO.Str_checkIndex.tab] ++ staticW "java/lang/StringLatin1" 9 JO.Str_checkIndex.yN
def tab : Cond := tabOf yN yB 2 (some .char) site
def P (t : Addr) (V : Cell) (i : Nat) (u : Int32) (fm : Value) (args : Array Value) (s : State) : Prop := args = #[.ref t, .int (Int32.ofNat i)] ∧ XT.Arr .byte t V s ∧ V.slots[i]? = some (.int u) ∧ (StaticIs s "jdk/internal/util/Preconditions" "SIOOBE_FORMATTER" "Ljava/util/function/BiFunction;" fm ∧ fm.isRef = true)
def E (u : Int32) (r : Option Value) (s w : State) : Prop := XT.PureE (some (.int (chr8 u))) r s w
theorem law (l : Launch) (t : Addr) (V : Cell) (i : Nat) (u : Int32) (fm : Value) : Law l yN 2 2 2 27 yB 2 (some .char) site (P t V i u fm) (E u) [] 0 0 := by
  refine Law.of_walk (plainFor_of_name (by decide +kernel)) (by decide +kernel) (by decide +kernel) (by decide) (fun _ _ h => by rw [h.1]; rfl) (fun _ U U' hal hh h => ⟨h.1, h.2.1.mv hal hh, h.2.2.1, h.2.2.2.1.there hal hh, h.2.2.2.2⟩) (fun r U U' V V' h1 hal h2 h => XT.PureE.mv r U U' V V' h1 hal h2 h) ?_
  intro p e s m args below meth c s₁ X0 hexec hbytes hml hret hlk hnm hown hh0 W hP
  obtain ⟨rfl, hV, hu, s1, rf⟩ := hP
  have v31 := hV.2.2.2
  have hi : i < V.slots.size := (Array.getElem?_eq_some_iff.mp hu).1
  have c1 : Steps p.tables e below (s₁.setTop (entryFrame m #[.ref t, .int (Int32.ofNat i)] 2)) (s₁.setTop (mkF m 0 #[.val (.ref t), .val (.int (Int32.ofNat i))] [])) := entry rfl
  have c2 : Steps p.tables e below (s₁.setTop (entryFrame m #[.ref t, .int (Int32.ofNat i)] 2)) (s₁.setTop (mkF m 3 #[.val (.ref t), .val (.int (Int32.ofNat i))] [.int (Int32.ofNat V.slots.size), .int (Int32.ofNat i)])) := c1.trans (by
    refine XS.iloadN X0.here hexec rfl (hb hbytes d0) rfl ?_
    refine XS.aloadN X0.here hexec rfl (hb hbytes d1) rfl rfl ?_
    refine X0.alen hexec (hV.mv X0.warmed.alike hh0) rfl rfl (hb hbytes d2) ?_
    exact Steps.refl _)
  obtain ⟨v3, T3, X3, E3, g3⟩ := X0.callS hexec (JO.Str_checkIndex.law l (Int32.ofNat i) (Int32.ofNat V.slots.size) fm) hown (wks W (staticW "java/lang/StringLatin1" 9 JO.Str_checkIndex.yN)) (wk W JO.Str_checkIndex.tab) (W := 0) (Nat.le_of_ble_eq_true rfl) (Nat.le_of_ble_eq_true rfl) (Nat.le_refl _) (Nat.le_refl _) (g := (mkF m 3 #[.val (.ref t), .val (.int (Int32.ofNat i))] [.int (Int32.ofNat V.slots.size), .int (Int32.ofNat i)])) rfl (by rw [hml]; rfl) c2 (argsL := [.int (Int32.ofNat i), .int (Int32.ofNat V.slots.size)]) (rest := []) rfl rfl (by show 2 * 0 + 0 ≤ _; decide) (hb hbytes d3) (⟨rfl, rf, s1.there X0.warmed.alike hh0, Int32.ofNat_not_neg (by omega), lt32 v31 hi⟩)
  obtain ⟨rfl, q3⟩ := E3
  have hh3 := q3.trans hh0
  have c4 : Steps p.tables e below (s₁.setTop (entryFrame m #[.ref t, .int (Int32.ofNat i)] 2)) (T3.setTop (mkF m 14 #[.val (.ref t), .val (.int (Int32.ofNat i))] [.int (chr8 u)])) := Steps.trans g3 (by
    refine XS.aloadN X3.here hexec rfl (hb hbytes d6) rfl rfl ?_
    refine XS.iloadN X3.here hexec rfl (hb hbytes d7) rfl ?_
    refine X3.aget hexec (hV.mv X3.warmed.alike hh3) rfl hu rfl rfl (hb hbytes d8) ?_
    refine sipushV X3.here hexec rfl 255 (hb hbytes d9) (by decide) ?_
    refine XS.iand X3.here hexec rfl (hb hbytes d12) rfl ?_
    refine i2c X3.here hexec rfl (hb hbytes d13) rfl ?_
    exact Steps.refl _)
  exact ⟨T3, some (.int (chr8 u)), _, _, _, X3, rfl, rfl, rfl, (fun h => by cases h), ⟨rfl, hh3⟩, fun fs hl => c4.trans (X3.ireturnOut hexec hret (narrow_c _) (Or.inr (Or.inr (Or.inr (Or.inl rfl)))) (hb hbytes d14) hl)⟩
end LChA
end StrChars
namespace StrChars.Road
open Jvm Sem ClassFile Op Lib Jvm.Stand Jvm.Free Jvm.Free.XT
open Jvm.Lib.Cold (StaticIs)
theorem consq {a : Array Value} {s : State} {c : Jvm.Cond} {L : List Jvm.Cond} (h0 : c.before a s = true) (h : ∀ w ∈ L, w.before a s = true) : ∀ w ∈ c :: L, w.before a s = true := fun w hw => (List.mem_cons.mp hw).elim (fun e => e ▸ h0) (h w)
def wideBytes : List Int32 → List Value
  | [] => []
  | c :: cs => .int (lo8 c) :: .int (hi8 c) :: wideBytes cs
theorem wide_lo (d : Value) : ∀ (cs : List Int32) (j : Nat), j < cs.length → (wideBytes cs).getD (2 * j) d = .int (lo8 (cs.getD j 0))
  | [], j, h => absurd h (Nat.not_lt_zero j)
  | c :: cs, 0, _ => rfl
  | c :: cs, j + 1, h => by
    have q := wide_lo d cs j (by simpa using h)
    rw [show 2 * (j + 1) = 2 * j + 1 + 1 from by omega]
    simpa [wideBytes] using q
theorem wide_hi (d : Value) : ∀ (cs : List Int32) (j : Nat), j < cs.length → (wideBytes cs).getD (2 * j + 1) d = .int (hi8 (cs.getD j 0))
  | [], j, h => absurd h (Nat.not_lt_zero j)
  | c :: cs, 0, _ => rfl
  | c :: cs, j + 1, h => by
    have q := wide_hi d cs j (by simpa using h)
    rw [show 2 * (j + 1) + 1 = 2 * j + 1 + 1 + 1 from by omega]
    simpa [wideBytes] using q
theorem low_at (d : Value) (cs : List Int32) (j : Nat) (h : j < cs.length) : (cs.map fun c => Value.int (lo8 c)).getD j d = .int (lo8 (cs.getD j 0)) := by
  simp [List.getD_eq_getElem?_getD, h]
def CodA (cs : List Int32) (cd N2 : Int32) (vs : List Value) : Prop := (cd = 0 ∧ N2 = Int32.ofNat cs.length ∧ vs = (cs.map fun c => Value.int (lo8 c)) ∧ ∀ c ∈ cs, ¬ 255 < c) ∨ (cd = 1 ∧ N2 = Int32.ofNat (2 * cs.length) ∧ vs = wideBytes cs ∧ ∃ c ∈ cs, 255 < c)
theorem CodA.cod {cs : List Int32} {cd N2 : Int32} {vs : List Value} {V : Cell} (h : CodA cs cd N2 vs) (hn : 2 * cs.length < 2 ^ 31) (hs : V.slots.size = N2.toNatClampNeg) (hv : RoadKit.Has V vs (.int 0)) : Cod cd cs.length (fun j => cs.getD j 0) V := by
  rcases h with ⟨rfl, rfl, rfl, h⟩ | ⟨rfl, rfl, rfl, c, hc, hw⟩
  · rw [n32 (by omega)] at hs
    exact Or.inl ⟨rfl, hs, fun j hj => ⟨by rw [hv j (by omega), low_at _ _ _ hj], by
      have e : cs.getD j 0 = cs[j] := by simp [List.getD_eq_getElem?_getD, hj]
      show ¬ 255 < cs.getD j 0
      rw [e]; exact h _ (List.getElem_mem _)⟩⟩
  · rw [n32 (by omega)] at hs
    obtain ⟨j, hj, rfl⟩ := List.getElem_of_mem hc
    exact Or.inr ⟨rfl, hs, fun j hj => ⟨by rw [hv _ (by omega), wide_lo _ _ _ hj], by rw [hv _ (by omega), wide_hi _ _ _ hj]⟩, j, hj, by
      have e : cs.getD j 0 = cs[j] := by simp [List.getD_eq_getElem?_getD, hj]
      show 255 < cs.getD j 0
      rw [e]; exact hw⟩
theorem strObj {Z U : State} {a0 : Array Value} {kI : Nat} (wi : (Jvm.Cond.instantiable ST kI).before a0 Z = true) (al : Z.vm.Alike U.vm) {x : Addr} {v0 c0 : Value} (E : RoadKit.Exa Z U.heap x ST) (V : RoadKit.Fld Z U.heap x ST "value" "[B" v0) (C : RoadKit.Fld Z U.heap x ST "coder" "B" c0) :
    ∃ (D : Cell) (fV fC : Field), Blank ST x D U ∧ Found ST "value" "[B" fV U ∧ Found ST "coder" "B" fC U ∧ D.slots[fV.slot]? = some v0 ∧ D.slots[fC.slot]? = some c0 ∧ RoadKit.slotOf Z ST "value" "[B" = fV.slot ∧ RoadKit.slotOf Z ST "coder" "B" = fC.slot := by
  obtain ⟨D, cfV, kV, iV, fV, hD, gV, stV, knV, obV, asV, slV⟩ := V
  obtain ⟨D', cfC, kC, iC, fC, hD', gC, stC, -, -, asC, slC⟩ := C
  cases hD.symm.trans hD'
  obtain ⟨D2, kD, e1, e2, e3, e4, e5⟩ := E
  cases hD.symm.trans e1
  obtain ⟨c2, k2, i1, i2, i3, -⟩ := Cond.instantiable_spec wi
  cases e2.symm.trans i1
  cases e3.symm.trans i2
  obtain ⟨kU, u1, u2⟩ := al.2.2 _ _ e3
  exact ⟨D, fV, fC, ⟨hD, ⟨knV, fun q hq => by rw [hq] at obV; cases obV⟩, by rw [al.findClass]; exact e2, kU, u1, by rw [u2]; exact i3, by rw [u2]; exact e5 i3⟩, ⟨SBG.found_only al ⟨cfV, kV, iV, gV⟩, stV⟩, ⟨SBG.found_only al ⟨cfC, kC, iC, gC⟩, stC⟩, slV, slC, by simp [RoadKit.slotOf, gV], by simp [RoadKit.slotOf, gC]⟩
theorem sta_is {Z U : State} (al : Z.vm.Alike U.vm) {C n d : String} {v : Value} (S : RoadKit.Sta Z U.heap C n d v) : StaticIs U C n d v := by
  obtain ⟨cfS, iS, kS, fS, st, cS, t1, t2, t3, t4, t5, t6, t7⟩ := S
  exact StaticIs.there (s := { Z with heap := U.heap }) ⟨cfS, iS, kS, fS, st, cS, t1, t2, t3, t4, t5, (fun q => by rw [q] at t6; cases t6), t7⟩ al rfl
end StrChars.Road
namespace StrChars.Road
open Jvm Sem ClassFile Op Lib Jvm.Stand Jvm.Free Jvm.Free.XT
open Jvm.Lib.Cold (StaticIs)
theorem txt_of {Z U : State} {a0 : Array Value} {kI : Nat} (wi : (Jvm.Cond.instantiable ST kI).before a0 Z = true) (al : Z.vm.Alike U.vm) {x t : Addr} {kb : ClassId} {cs : List Int32} {cd N2 : Int32} {vs : List Value} (E : RoadKit.Exa Z U.heap x ST) (V : RoadKit.Fld Z U.heap x ST "value" "[B" (.ref t)) (C : RoadKit.Fld Z U.heap x ST "coder" "B" (.int cd)) (K : RoadKit.Arv Z U.heap t kb .byte N2 vs (.int 0)) (hc : CodA cs cd N2 vs) (hb : ∀ c ∈ cs, ¬ c < 0 ∧ ¬ (65535 : Int32) < c) (l2 : cs.length ≤ 4000) :
    ∃ A, Txt x t A cd cs.length (fun j => cs.getD j 0) U := by
  obtain ⟨A, K1, K2, K3, K4, K5, K6⟩ := K
  have hcod := hc.cod (by omega) K3 K5
  obtain ⟨D, fV, fC, hB, F1, F2, g1, g2, -, -⟩ := strObj wi al E V C
  exact ⟨A, ⟨_, hB.2.2.1, D, hB.1, rfl, by cases q : D.vm <;> first | rfl | exact absurd q (hB.2.1.2 _)⟩, Has.of hB F1 g1, Has.of hB F2 g2, ⟨K1.1, State.isArrayOf_alike al K1.2.1, K1.2.2, by rcases hcod with ⟨-, q, -⟩ | ⟨-, q, -⟩ <;> omega⟩, hcod, fun j hj => by
    have e : cs.getD j 0 = cs[j] := by simp [List.getD_eq_getElem?_getD, hj]
    show ¬ cs.getD j 0 < 0 ∧ ¬ 65535 < cs.getD j 0
    rw [e]; exact hb _ (List.getElem_mem _)⟩
end StrChars.Road
namespace StrChars
open Jvm Sem ClassFile Op Lib Jvm.Stand Jvm.Free.XT Jvm.Free.ALB Jvm.Free.JM Jvm.Free
open Jvm.Lib.Cold (StaticIs)
namespace ChN
def yN : MethodName := ⟨"java/lang/String", "charAt", "(I)C"⟩
abbrev yB : ByteArray := jdk_42_method_56_code
theorem d0 : decode yB 0 = .ok (.aload_n 0, 1) := by decide +kernel
theorem d1 : decode yB 1 = .ok (.invokevirtual 492, 3) := by decide +kernel
theorem d4 : decode yB 4 = .ok (.ifCond (.eq) 12, 3) := by decide +kernel
theorem d7 : decode yB 7 = .ok (.aload_n 0, 1) := by decide +kernel
theorem d8 : decode yB 8 = .ok (.getfield 9, 3) := by decide +kernel
theorem d11 : decode yB 11 = .ok (.iload_n 1, 1) := by decide +kernel
theorem d12 : decode yB 12 = .ok (.invokestatic 495, 3) := by decide +kernel
theorem d15 : decode yB 15 = .ok (.ireturn, 1) := by decide +kernel
def site : List Cond := [.fieldLink "java/lang/String" 9 "java/lang/String" "value" "[B", IsL.tab, LChA.tab] ++ virtW "java/lang/String" 492 "java/lang/String" IsL.yN IsL.yN ++ staticW "java/lang/String" 495 LChA.yN
def tab : Cond := tabOf yN yB 2 (some .char) site
def P (x t : Addr) (V : Cell) (n : Nat) (f : Nat → Int32) (z : Int32) (fm : Value) (i : Nat) (args : Array Value) (s : State) : Prop := args = #[.ref x, .int (Int32.ofNat i)] ∧ Txt x t V 0 n f s ∧ i < n ∧ StaticIs s "java/lang/String" "COMPACT_STRINGS" "Z" (.int z) ∧ ¬ z = 0 ∧ StaticIs s "jdk/internal/util/Preconditions" "SIOOBE_FORMATTER" "Ljava/util/function/BiFunction;" fm ∧ fm.isRef = true
def E (f : Nat → Int32) (i : Nat) (r : Option Value) (s u : State) : Prop := XT.PureE (some (.int (f i))) r s u
theorem law (l : Launch) (x t : Addr) (V : Cell) (n : Nat) (f : Nat → Int32) (z : Int32) (fm : Value) (i : Nat) : Law l yN 2 1 3 40 yB 2 (some .char) site (P x t V n f z fm i) (E f i) [] 0 0 := by
  refine Law.of_walk (plainFor_of_name (by decide +kernel)) (by decide +kernel) (by decide +kernel) (by decide) (fun _ _ h => by rw [h.1]; rfl) (fun _ U U' hal hh h => ⟨h.1, h.2.1.mv hal hh, h.2.2.1, h.2.2.2.1.there hal hh, h.2.2.2.2.1, h.2.2.2.2.2.1.there hal hh, h.2.2.2.2.2.2⟩) (fun r U U' V V' h1 hal h2 h => XT.PureE.mv r U U' V V' h1 hal h2 h) ?_
  intro p e s m args below meth c s₁ X0 hexec hbytes hml hret hlk hnm hown hh0 W hP
  obtain ⟨rfl, hx, hi, s1, hz, s3, rf⟩ := hP
  have v31 := hx.2.2.2.1.2.2.2
  have hr := hx.2.2.2.2.2 i hi
  have hx0 := hx.mv X0.warmed.alike hh0
  have c1 : Steps p.tables e below (s₁.setTop (entryFrame m #[.ref x, .int (Int32.ofNat i)] 2)) (s₁.setTop (mkF m 1 #[.val (.ref x), .val (.int (Int32.ofNat i))] [.ref x])) := Steps.trans (entry rfl) (by
    show Steps p.tables e below (s₁.setTop (mkF m 0 #[.val (.ref x), .val (.int (Int32.ofNat i))] [])) _
    refine XS.aloadN X0.here hexec rfl (hb hbytes d0) rfl rfl ?_
    exact Steps.refl _)
  obtain ⟨v2, T2, X2, E2, g2⟩ := X0.callV hexec (IsL.law l x 0 z) hown (wks W (virtW "java/lang/String" 492 "java/lang/String" IsL.yN IsL.yN)) rfl (by decide) (wk W IsL.tab) (W := 0) (Nat.le_of_ble_eq_true rfl) (Nat.le_of_ble_eq_true rfl) (Nat.le_refl _) (Nat.le_refl _) (hx0.1.fc X0.warmed.alike) hx0.1.is (g := (mkF m 1 #[.val (.ref x), .val (.int (Int32.ofNat i))] [.ref x])) rfl (by rw [hml]; rfl) c1 (argsL := []) (rest := []) rfl rfl (by show 2 * 0 + 0 ≤ _; decide) (hb hbytes d1) (⟨rfl, hx0.2.2.1, hx.2.2.2.2.1.cd, s1.there X0.warmed.alike hh0, hz⟩)
  obtain ⟨rfl, q2⟩ := E2
  have hh2 := q2.trans hh0
  have hx2 := hx.mv X2.warmed.alike hh2
  obtain ⟨-, k1, k2⟩ | ⟨k0, -⟩ := hx.2.2.2.2.1
  · have c3 : Steps p.tables e below (s₁.setTop (entryFrame m #[.ref x, .int (Int32.ofNat i)] 2)) (T2.setTop (mkF m 8 #[.val (.ref x), .val (.int (Int32.ofNat i))] [.ref x])) := Steps.trans g2 (by
      refine XS.ifNo X2.here hexec rfl (hb hbytes d4) rfl (i0_eq_f (by decide)) ?_
      refine XS.aloadN X2.here hexec rfl (hb hbytes d7) rfl rfl ?_
      exact Steps.refl _)
    obtain ⟨T4, X4, q4, st4⟩ := X2.hget hexec hown (wk W (.fieldLink "java/lang/String" 9 "java/lang/String" "value" "[B")) hx2.2.1 (g := (mkF m 8 #[.val (.ref x), .val (.int (Int32.ofNat i))] [.ref x])) rfl (rest := []) rfl (hb hbytes d8)
    have hh4 := q4.trans hh2
    have c5 : Steps p.tables e below (s₁.setTop (entryFrame m #[.ref x, .int (Int32.ofNat i)] 2)) (T4.setTop (mkF m 12 #[.val (.ref x), .val (.int (Int32.ofNat i))] [.int (Int32.ofNat i), .ref t])) := (c3.trans (st4 _ (Steps.refl _))).trans (by
      refine XS.iloadN X4.here hexec rfl (hb hbytes d11) rfl ?_
      exact Steps.refl _)
    obtain ⟨v6, T6, X6, E6, g6⟩ := X4.callS hexec (LChA.law l t V i (lo8 (f i)) fm) hown (wks W (staticW "java/lang/String" 495 LChA.yN)) (wk W LChA.tab) (W := 0) (Nat.le_of_ble_eq_true rfl) (Nat.le_of_ble_eq_true rfl) (Nat.le_refl _) (Nat.le_refl _) (g := (mkF m 12 #[.val (.ref x), .val (.int (Int32.ofNat i))] [.int (Int32.ofNat i), .ref t])) rfl (by rw [hml]; rfl) c5 (argsL := [.ref t, .int (Int32.ofNat i)]) (rest := []) rfl rfl (by show 2 * 0 + 0 ≤ _; decide) (hb hbytes d12) (⟨rfl, hx.2.2.2.1.mv X4.warmed.alike hh4, (k2 i hi).1, s3.there X4.warmed.alike hh4, rf⟩)
    obtain ⟨rfl, q6⟩ := E6
    rw [chr8_lo8 hr.1 (k2 i hi).2] at g6
    exact ⟨T6, some (.int (f i)), _, _, _, X6, rfl, rfl, rfl, (fun h => by cases h), ⟨rfl, q6.trans hh4⟩, fun fs hl => Steps.trans g6 (X6.ireturnOut hexec hret (narrow_ch hr.1 hr.2) (Or.inr (Or.inr (Or.inr (Or.inl rfl)))) (hb hbytes d15) hl)⟩
  · exact absurd k0 (by decide)
theorem pays {l : Launch} {R : Room} {p : Program} {e : Env} {below : List Frame} {s : State} {sargs : Array Value} {len W : Nat} (x t : Addr) (V : Cell) (n : Nat) (f : Nat → Int32) (z : Int32) (fm : Value) (i : Nat) (htab : tab.before sargs s = true) (hfr : 4 ≤ R.frames) (hlo : W + 53 ≤ R.locals) :
    Back l R p e below s sargs yN len W (fun A₁ a₁ => A₁.cells + 0 ≤ R.cells ∧ A₁.slots + 0 ≤ R.slots ∧ P x t V n f z fm i a₁ A₁.U) (fun A₁ _ v₁ B₁ => E f i v₁ A₁.U B₁.U ∧ B₁.locs = A₁.locs ++ [] ∧ B₁.cells = A₁.cells + 0 ∧ B₁.slots = A₁.slots + 0) :=
  (law l x t V n f z fm i).pays htab hfr (by omega)
end ChN
end StrChars
namespace StrChars.Road
open Jvm Sem ClassFile Op Lib Jvm.Stand Jvm.Free Jvm.Free.XT
open Jvm.Lib.Cold (StaticIs)
abbrev wordsChN : List Jvm.Cond := [.code ChN.yN ChN.yB 2 (some .char), .initialized ST, .fieldLink ST 9 ST "value" "[B", .fieldLink ST 38 ST "COMPACT_STRINGS" "Z", .fieldLink ST 15 ST "coder" "B", .code IsL.yN IsL.yB 1 (some .boolean), .methodLink ST 492 IsL.yN, .declares IsL.yN, .selects ST IsL.yN IsL.yN, .instanceMethod IsL.yN,
  .methodLink ST 495 LChA.yN, .static LChA.yN, .code LChA.yN LChA.yB 2 (some .char), .initialized "java/lang/StringLatin1", .methodLink "java/lang/StringLatin1" 9 JO.Str_checkIndex.yN, .static JO.Str_checkIndex.yN, .code JO.Str_checkIndex.yN JO.Str_checkIndex.yB 2 none,
  .fieldLink ST 1053 "jdk/internal/util/Preconditions" "SIOOBE_FORMATTER" "Ljava/util/function/BiFunction;", .methodLink ST 1059 JC.PreCheck.yN, .static JC.PreCheck.yN, .code JC.PreCheck.yN JC.PreCheck.yB 3 (some .int), .initialized "jdk/internal/util/Preconditions"]
theorem tabChN_of {a : Array Value} {s : State} (h : ∀ w ∈ wordsChN, w.before a s = true) : ChN.tab.before a s = true := by
  have hp : JC.PreCheck.tab.before a s = true := unparts (wk h (.code JC.PreCheck.yN JC.PreCheck.yB 3 (some .int))) (wks h (.initialized JC.PreCheck.yN.cls :: JC.PreCheck.site))
  have qk := consq hp h
  have hk : JO.Str_checkIndex.tab.before a s = true := unparts (wk qk (.code JO.Str_checkIndex.yN JO.Str_checkIndex.yB 2 none)) (wks qk (.initialized JO.Str_checkIndex.yN.cls :: JO.Str_checkIndex.site))
  have ql := consq hk h
  have hl : LChA.tab.before a s = true := unparts (wk ql (.code LChA.yN LChA.yB 2 (some .char))) (wks ql (.initialized LChA.yN.cls :: LChA.site))
  have hi : IsL.tab.before a s = true := unparts (wk h (.code IsL.yN IsL.yB 1 (some .boolean))) (wks h (.initialized IsL.yN.cls :: IsL.site))
  have q := consq hi (consq hl h)
  exact unparts (wk q (.code ChN.yN ChN.yB 2 (some .char))) (wks q (.initialized ChN.yN.cls :: ChN.site))
theorem movedChN {Z s : State} {a0 args : Array Value} (hZ : Z.Warmed39 s.vm) (hw : ∀ d ∈ wordsChN, d.before a0 Z = true) : ∀ d ∈ wordsChN, d.before args s = true := fun d hd => by
  have t : ∀ d ∈ wordsChN, (d.onTables && d.keepsFace) = true := by decide +kernel
  exact RoadKit.mv hZ (hw d hd) (t d hd)
theorem chN {p : Program} {l : Launch} {e : Env} {R : Room} {s : State} {args : Array Value} {below : List Frame} {len W : Nat} {Z : State} {a0 : Array Value} {h : Heap} (hZ : Z.Warmed39 s.vm) (hw : ∀ d ∈ wordsChN, d.before a0 Z = true) {kI : Nat} (wi : (Jvm.Cond.instantiable ST kI).before a0 Z = true)
    {x t : Addr} {kb : ClassId} {cs : List Int32} {N2 z : Int32} {vs : List Value} {fm : Value} {i : Nat} {j : Int32} (E : RoadKit.Exa Z h x ST) (V : RoadKit.Fld Z h x ST "value" "[B" (.ref t)) (C : RoadKit.Fld Z h x ST "coder" "B" (.int 0)) (K : RoadKit.Arv Z h t kb .byte N2 vs (.int 0)) (hc : CodA cs 0 N2 vs) (hb : ∀ c ∈ cs, ¬ c < 0 ∧ ¬ (65535 : Int32) < c)
    (S : RoadKit.Sta Z h ST "COMPACT_STRINGS" "Z" (.int z)) (hz : ¬ z = 0) (F : RoadKit.Sta Z h "jdk/internal/util/Preconditions" "SIOOBE_FORMATTER" "Ljava/util/function/BiFunction;" fm) (rf : fm.isRef = true) (l2 : cs.length ≤ 4000) (hi : i < cs.length) (hj : j = Int32.ofNat i) (hfr : 4 ≤ R.frames) (hlo : W + 53 ≤ R.locals) :
    Back l R p e below s args (⟨"java/lang/String", "charAt", "(I)C"⟩ : MethodName) len W (fun P a => a = #[.ref x, .int j] ∧ P.U.heap = h ∧ P.cells + 0 ≤ R.cells ∧ P.slots + 0 ≤ R.slots)
      (fun P _ v B => ∃ L, (v = some (.int (cs.getD i 0)) ∧ L = [] ∧ B.U.heap = h) ∧ B.locs = P.locs ++ L ∧ B.cells = P.cells + 0 ∧ B.slots = P.slots + 0) := by
  subst hj
  intro m meth c P g ig mk a X hg hsize hdg hW hn hp'
  obtain ⟨rfl, rfl, r1, r2⟩ := hp'
  have al : Z.vm.Alike P.U.vm := hZ.alike.trans X.warmed.alike
  obtain ⟨A, hx⟩ := txt_of wi al E V C K hc hb l2
  obtain ⟨v, B, X', ⟨⟨hv, hh⟩, hl, hk, hs⟩, st⟩ := ChN.pays x t A cs.length (fun j => cs.getD j 0) z fm i (tabChN_of (movedChN hZ hw)) hfr hlo m meth c P g ig mk _ X hg hsize hdg hW hn ⟨r1, r2, rfl, hx, hi, sta_is al S, hz, sta_is al F, rf⟩
  exact ⟨v, B, X', ⟨[], ⟨hv, rfl, hh⟩, hl, hk, hs⟩, st⟩
theorem codOf {cs : List Int32} {n : Nat} (hn : cs.length = n) (hb : ∀ c ∈ cs, ¬ 255 < c) : CodA cs 0 (Int32.ofNat n) ((cs.map lo8).map Value.int) := Or.inl ⟨rfl, by rw [hn], by simp [List.map_map, Function.comp_def], hb⟩
end StrChars.Road
end Jvm.Pilot.@@N@@

namespace Jvm.Pilot.@@N@@
open Jvm Jvm.ClassFile Sem Op Lib Jvm.Free Jvm.Stand Jvm.LawKit Jvm.RoadKit Bundle Jvm.Pilot.@@N@@.Jvm.D
/-! ## A LITTLE MACHINE: the walk of a law as a function. Its cells are the new ones alone; a reference is a cell's place among them. -/
abbrev OCell := (Nat ⊕ FieldType) × List Value
abbrev OHeap := List OCell
abbrev OFld := String × String × String × FieldType
abbrev OKls := String × Nat × List OFld
abbrev OEnt := Nat × Nat × Nat × Int
abbrev ORow := Nat × Instr × Nat
abbrev OMth := MethodName × ByteArray × Nat × Option FieldType × Nat × List (List ORow) × List (Nat × OEnt)
abbrev OPrg := List OMth × List OKls × List FieldType
abbrev OMth.nm (q : OMth) : MethodName := q.1
abbrev OMth.bs (q : OMth) : ByteArray := q.2.1
abbrev OMth.ml (q : OMth) : Nat := q.2.2.1
abbrev OMth.rt (q : OMth) : Option FieldType := q.2.2.2.1
abbrev OMth.na (q : OMth) : Nat := q.2.2.2.2.1
abbrev OMth.cd (q : OMth) : List (List ORow) := q.2.2.2.2.2.1
abbrev OMth.en (q : OMth) : List (Nat × OEnt) := q.2.2.2.2.2.2
def own_sh (n : Nat) : Value → Value
  | .ref a => .ref (n + a)
  | v => v
def own_shS (n : Nat) : Slot → Slot
  | .val v => .val (own_sh n v)
  | s => s
abbrev own_fr (n : Nat) (m : MethodId) (pc : Nat) (L : List Slot) (S : List Value) : JFrame := mkF m pc (L.map (own_shS n)).toArray (S.map (own_sh n))
def own_wt (S : List Value) : Nat := (S.map fun v => v.category).sum
/-! ### the locals -/
def own_set (L : List Slot) (i : Nat) (x : Slot) : Option (List Slot) := if i < L.length then some (L.set i x) else none
def own_self (L : List Slot) (i : Nat) (v : Value) : Option (List Slot) :=
  match own_set L i (.val v) with
  | none => none
  | some M => if v.category = 2 then (match M[i + 1]? with
      | none => none
      | some (.val o) => if o.category = 2 then (match own_set M (i + 2) .unset with
          | none => none
          | some N => own_set N (i + 1) .second) else own_set M (i + 1) .second
      | some _ => own_set M (i + 1) .second) else some M
def own_sto (L : List Slot) (i : Nat) (v : Value) : Option (List Slot) :=
  match L[i]? with
  | none => none
  | some .second => (match own_set L (i - 1) .unset with
      | none => none
      | some M => own_self M i v)
  | some (.val o) => if o.category = 2 then (match own_set L (i + 1) .unset with
      | none => none
      | some M => own_self M i v) else own_self L i v
  | some .unset => own_self L i v
def own_entry (as : List Value) (ml : Nat) : List Slot :=
  let f := as.flatMap fun v => if v.category = 2 then [Slot.val v, .second] else [Slot.val v]
  f ++ List.replicate (ml - f.length) .unset
/-! ### steps that read and write the frame alone -/
def own_ilen : Instr → Nat
  | .aload _ | .astore _ | .iload _ | .istore _ | .lload _ | .lstore _ | .bipush _ | .ldc _ | .newarray _ => 2
  | .sipush _ | .goto _ | .ifCond _ _ | .if_icmp _ _ | .if_acmp _ _ | .ifnull _ | .ifnonnull _ | .iinc _ _ | .getfield _ | .putfield _ | .getstatic _ | .new _ | .invokestatic _ | .invokespecial _ | .invokevirtual _ | .ldc_w _ | .ldc2_w _ | .checkcast _ => 3
  | _ => 1
abbrev OFr := Nat × List Slot × List Value
def own_ldI (k t : Nat) (L : List Slot) (S : List Value) : Option OFr := match L[k]? with | some (.val (.int v)) => some (t, L, .int v :: S) | _ => none
def own_ldJ (k t : Nat) (L : List Slot) (S : List Value) : Option OFr := match L[k]? with | some (.val (.long v)) => some (t, L, .long v :: S) | _ => none
def own_ldA (k t : Nat) (L : List Slot) (S : List Value) : Option OFr := match L[k]? with | some (.val (.ref v)) => some (t, L, .ref v :: S) | some (.val .null) => some (t, L, .null :: S) | _ => none
def own_stI (k t : Nat) (L : List Slot) (S : List Value) : Option OFr := match S with | .int x :: r => (match own_sto L k (.int x) with | some M => some (t, M, r) | none => none) | _ => none
def own_stJ (k t : Nat) (L : List Slot) (S : List Value) : Option OFr := match S with | .long x :: r => (match own_sto L k (.long x) with | some M => some (t, M, r) | none => none) | _ => none
def own_stA (k t : Nat) (L : List Slot) (S : List Value) : Option OFr := match S with | .ref x :: r => (match own_sto L k (.ref x) with | some M => some (t, M, r) | none => none) | .null :: r => (match own_sto L k .null with | some M => some (t, M, r) | none => none) | _ => none
def own_b32 (f : Int32 → Int32 → Int32) (t : Nat) (L : List Slot) (S : List Value) : Option OFr := match S with | .int y :: .int x :: r => some (t, L, .int (f x y) :: r) | _ => none
def own_d32 (f : Int32 → Int32 → Int32) (t : Nat) (L : List Slot) (S : List Value) : Option OFr := match S with | .int y :: .int x :: r => (if y = 0 then none else some (t, L, .int (f x y) :: r)) | _ => none
def own_u32 (f : Int32 → Value) (t : Nat) (L : List Slot) (S : List Value) : Option OFr := match S with | .int x :: r => some (t, L, f x :: r) | _ => none
def own_b64 (f : Int64 → Int64 → Value) (t : Nat) (L : List Slot) (S : List Value) : Option OFr := match S with | .long y :: .long x :: r => some (t, L, f x y :: r) | _ => none
def own_d64 (f : Int64 → Int64 → Int64) (t : Nat) (L : List Slot) (S : List Value) : Option OFr := match S with | .long y :: .long x :: r => (if y = 0 then none else some (t, L, .long (f x y) :: r)) | _ => none
def own_s64 (f : Int64 → Int32 → Int64) (t : Nat) (L : List Slot) (S : List Value) : Option OFr := match S with | .int y :: .long x :: r => some (t, L, .long (f x y) :: r) | _ => none
def own_u64 (f : Int64 → Value) (t : Nat) (L : List Slot) (S : List Value) : Option OFr := match S with | .long x :: r => some (t, L, f x :: r) | _ => none
def own_br (b : Bool) (t pc : Nat) (L : List Slot) (S : List Value) : Option OFr := match b with | true => some (t, L, S) | false => some (pc + 3, L, S)
def own_jmp (pc : Nat) (o : Int) : Option Nat := if 0 ≤ (pc : Int) + o then some ((pc : Int) + o).toNat else none
def own_pure (i : Instr) (t pc : Nat) (L : List Slot) (S : List Value) : Option OFr :=
  match i with
  | .iload k => own_ldI k t L S
  | .iload_n k => own_ldI k.val t L S
  | .lload k => own_ldJ k t L S
  | .lload_n k => own_ldJ k.val t L S
  | .aload k => own_ldA k t L S
  | .aload_n k => own_ldA k.val t L S
  | .istore k => own_stI k t L S
  | .istore_n k => own_stI k.val t L S
  | .lstore k => own_stJ k t L S
  | .lstore_n k => own_stJ k.val t L S
  | .astore k => own_stA k t L S
  | .astore_n k => own_stA k.val t L S
  | .iconst z => some (t, L, .int (Int32.ofInt z) :: S)
  | .bipush z => some (t, L, .int (Int8.ofInt z).toInt32 :: S)
  | .sipush z => some (t, L, .int (Int16.ofInt z).toInt32 :: S)
  | .lconst k => some (t, L, .long (Int64.ofNat k) :: S)
  | .aconst_null => some (t, L, .null :: S)
  | .iadd => own_b32 (fun x y => x + y) t L S
  | .isub => own_b32 (fun x y => x - y) t L S
  | .imul => own_b32 (fun x y => x * y) t L S
  | .iand => own_b32 (fun x y => x &&& y) t L S
  | .ior => own_b32 (fun x y => x ||| y) t L S
  | .ixor => own_b32 (fun x y => x ^^^ y) t L S
  | .ishl => own_b32 (fun x y => x <<< (y &&& 31)) t L S
  | .ishr => own_b32 (fun x y => x >>> (y &&& 31)) t L S
  | .iushr => own_b32 (fun x y => (x.toUInt32 >>> (y &&& 31).toUInt32).toInt32) t L S
  | .idiv => own_d32 (fun x y => x / y) t L S
  | .irem => own_d32 (fun x y => x % y) t L S
  | .ineg => own_u32 (fun x => .int (-x)) t L S
  | .i2l => own_u32 (fun x => .long x.toInt64) t L S
  | .i2b => own_u32 (fun x => .int x.toInt8.toInt32) t L S
  | .i2c => own_u32 (fun x => .int x.toUInt32.toUInt16.toUInt32.toInt32) t L S
  | .i2s => own_u32 (fun x => .int x.toInt16.toInt32) t L S
  | .ladd => own_b64 (fun x y => .long (x + y)) t L S
  | .lsub => own_b64 (fun x y => .long (x - y)) t L S
  | .lmul => own_b64 (fun x y => .long (x * y)) t L S
  | .land => own_b64 (fun x y => .long (x &&& y)) t L S
  | .lor => own_b64 (fun x y => .long (x ||| y)) t L S
  | .lxor => own_b64 (fun x y => .long (x ^^^ y)) t L S
  | .lcmp => own_b64 (fun x y => .int (lcmpW x y)) t L S
  | .ldiv => own_d64 (fun x y => x / y) t L S
  | .lrem => own_d64 (fun x y => x - (x / y) * y) t L S
  | .lshl => own_s64 (fun x y => x <<< (y &&& 0x3f).toInt64) t L S
  | .lshr => own_s64 (fun x y => x >>> (y &&& 0x3f).toInt64) t L S
  | .lushr => own_s64 (fun x y => (x.toUInt64 >>> (y &&& 0x3f).toInt64.toUInt64).toInt64) t L S
  | .lneg => own_u64 (fun x => .long (-x)) t L S
  | .l2i => own_u64 (fun x => .int x.toInt32) t L S
  | .iinc k c => (match L[k]? with | some (.val (.int x)) => (match own_sto L k (.int (x + Int32.ofInt c)) with | some M => some (t, M, S) | none => none) | _ => none)
  | .dup => (match S with | v :: r => (if v.category = 1 then some (t, L, v :: v :: r) else none) | _ => none)
  | .pop => (match S with | v :: r => (if v.category = 1 then some (t, L, r) else none) | _ => none)
  | .dup_x1 => (match S with | v :: w :: r => (if v.category = 1 ∧ w.category = 1 then some (t, L, v :: w :: v :: r) else none) | _ => none)
  | .dup_x2 => (match S with | v :: w :: u :: r => (if v.category = 1 ∧ w.category = 1 ∧ u.category = 1 then some (t, L, v :: w :: u :: v :: r) else none) | _ => none)
  | .dup2 => (match S with | .long v :: r => some (t, L, .long v :: .long v :: r) | v :: w :: r => (if v.category = 1 ∧ w.category = 1 then some (t, L, v :: w :: v :: w :: r) else none) | _ => none)
  | .goto _ => some (t, L, S)
  | .ifCond cd _ => (match S with | .int x :: r => own_br (ifCond.holds cd x) t pc L r | _ => none)
  | .if_icmp cd _ => (match S with | .int y :: .int x :: r => own_br (if_icmp.holds cd x y) t pc L r | _ => none)
  | .ifnull _ => (match S with | .null :: r => some (t, L, r) | .ref _ :: r => some (pc + 3, L, r) | _ => none)
  | .ifnonnull _ => (match S with | .null :: r => some (pc + 3, L, r) | .ref _ :: r => some (t, L, r) | _ => none)
  | .lookupswitch df ps => (match S with | .int x :: r => (match own_jmp pc (lookupswitch.offset ps.toList df x.toInt) with | some q => some (q, L, r) | none => none) | _ => none)
  | _ => none
/-! ### rows and entries -/
def own_row : List ORow → Nat → Option (Instr × Nat)
  | [], _ => none
  | (k, i, t) :: r, pc => if k = pc then some (i, t) else own_row r pc
def own_at (q : OMth) (pc : Nat) : Option (Instr × Nat) := match q.cd[pc / 16]? with | some r => own_row r pc | none => none
def own_ent : List (Nat × OEnt) → Nat → Option OEnt
  | [], _ => none
  | (k, e) :: r, i => if k = i then some e else own_ent r i
/-! ### steps that read or write the heap -/
abbrev OSt := Nat × List Slot × List Value × OHeap
def own_nar (ty : FieldType) (v : Value) : Option Value :=
  match ty, v with
  | .int, .int x => some (.int x)
  | .long, .long x => some (.long x)
  | .boolean, .int x => some (.int (x &&& 1))
  | .byte, .int x => some (.int x.toInt8.toInt32)
  | .char, .int x => some (.int x.toUInt32.toUInt16.toUInt32.toInt32)
  | .short, .int x => some (.int x.toInt16.toInt32)
  | .object _, .ref a => some (.ref a)
  | .object _, .null => some .null
  | .array _, .ref a => some (.ref a)
  | .array _, .null => some .null
  | _, _ => none
def own_prim : FieldType → Bool
  | .object _ | .array _ | .float | .double => false
  | _ => true
def own_ix (j : Int32) : Option Nat := if j < 0 then none else some j.toNatClampNeg
def own_arr (H : OHeap) (a : Nat) (ty : FieldType) : Option (List Value) := match H[a]? with | some (.inr ty', vs) => (if ty' = ty then some vs else none) | _ => none
def own_obj (H : OHeap) (a k : Nat) : Option (List Value) := match H[a]? with | some (.inl k', vs) => (if k' = k then some vs else none) | _ => none
def own_ald (ty : FieldType) (t : Nat) (L : List Slot) (S : List Value) (H : OHeap) : Option OSt :=
  match S with
  | .int j :: .ref a :: r => (match own_arr H a ty with
    | some vs => (match own_ix j with
      | some q => (match vs[q]? with
        | some v => some (t, L, v :: r, H)
        | none => none)
      | none => none)
    | none => none)
  | _ => none
def own_ast (ty : FieldType) (t : Nat) (L : List Slot) (S : List Value) (H : OHeap) : Option OSt :=
  match S with
  | v :: .int j :: .ref a :: r => (match own_arr H a ty with
    | some vs => (match own_ix j with
      | some q => (if q < vs.length then (match own_nar ty v with
        | some w => some (t, L, r, H.set a (.inr ty, vs.set q w))
        | none => none) else none)
      | none => none)
    | none => none)
  | _ => none
def own_heap (P : OPrg) (mt : OMth) (d lo : Nat) (i : Instr) (t : Nat) (L : List Slot) (S : List Value) (H : OHeap) : Option OSt :=
  match i with
  | .getfield x => (match own_ent mt.en x with
    | some (6, k, j, _) => (match S with
      | .ref a :: r => (match own_obj H a k with
        | some vs => (match vs[j]? with
          | some v => some (t, L, v :: r, H)
          | none => none)
        | none => none)
      | _ => none)
    | _ => none)
  | .putfield x => (match own_ent mt.en x with
    | some (6, k, j, 1) => (match S with
      | v :: .ref a :: r => (match own_obj H a k with
        | some vs => (match P.2.1[k]? with
          | some c => (match c.2.2[j]? with
            | some f => (match own_nar f.2.2.2 v with
              | some w => some (t, L, r, H.set a (.inl k, vs.set j w))
              | none => none)
            | none => none)
          | none => none)
        | none => none)
      | _ => none)
    | _ => none)
  | .new x => (match own_ent mt.en x with
    | some (7, k, _, _) => (match P.2.1[k]? with
      | some c => some (t, L, .ref H.length :: S, H ++ [(.inl k, c.2.2.map fun f => defaultValue f.2.2.2)])
      | none => none)
    | _ => none)
  | .newarray ty => (match S with
    | .int n :: r => (match own_ix n with
      | some q => (if newarray.typeOf ty ∈ P.2.2 ∧ q * 8 ≤ 536870912 then some (t, L, .ref H.length :: r, H ++ [(.inr (newarray.typeOf ty), List.replicate q (defaultValue (newarray.typeOf ty)))]) else none)
      | none => none)
    | _ => none)
  | .arraylength => (match S with
    | .ref a :: r => (match H[a]? with
      | some (.inr _, vs) => some (t, L, .int vs.length.toInt32 :: r, H)
      | _ => none)
    | _ => none)
  | .iaload => own_ald .int t L S H
  | .laload => own_ald .long t L S H
  | .caload => own_ald .char t L S H
  | .baload => own_ald .byte t L S H
  | .iastore => own_ast .int t L S H
  | .lastore => own_ast .long t L S H
  | .castore => own_ast .char t L S H
  | .bastore => own_ast .byte t L S H
  | .ldc x => (match own_ent mt.en x with
    | some (8, _, _, v) => some (t, L, .int (Int32.ofInt v) :: S, H)
    | _ => none)
  | .ldc_w x => (match own_ent mt.en x with
    | some (8, _, _, v) => some (t, L, .int (Int32.ofInt v) :: S, H)
    | _ => none)
  | .ldc2_w x => (match own_ent mt.en x with
    | some (9, _, _, v) => some (t, L, .long (Int64.ofInt v) :: S, H)
    | _ => none)
  | .checkcast x => (match own_ent mt.en x with
    | some (12, _, _, _) => (match S with
      | .ref a :: r => (match own_arr H a .int with
        | some _ => some (t, L, .ref a :: r, H)
        | none => none)
      | _ => none)
    | _ => none)
  | .invokespecial x => (match own_ent mt.en x with
    | some (2, _, _, _) => (match S with
      | .ref _ :: r => (if 1 ≤ d ∧ own_wt r + 12 ≤ lo then some (t, L, r, H) else none)
      | _ => none)
    | _ => none)
  | .invokestatic x => (match own_ent mt.en x with
    | some (10, _, _, _) => (match S with
      | .int nn :: .int dp :: .ref b :: .int sp :: .ref a :: r => (match own_arr H a .int with
        | some vs => (match own_arr H b .int with
          | some vd => (match own_ix nn with
            | some n => (match own_ix dp with
              | some q => (match own_ix sp with
                | some p => (if (1 ≤ d ∧ own_wt r + (nativeFrameWords "java/lang/System" "arraycopy" 5 + 11) ≤ lo) ∧ p + n ≤ vs.length ∧ q + n ≤ vd.length then
                    some (t, L, r, H.set b (.inr .int, vd.take q ++ (vs.drop p).take n ++ vd.drop (q + n))) else none)
                | none => none)
              | none => none)
            | none => none)
          | none => none)
        | none => none)
      | _ => none)
    | _ => none)
  | .invokevirtual x => (match own_ent mt.en x with
    | some (11, _, _, _) => (match S with
      | .ref a :: r => (match own_arr H a .int with
        | some vs => (if 1 ≤ d ∧ own_wt r + 14 ≤ lo then some (t, L, .ref H.length :: r, H ++ [(.inr .int, vs)]) else none)
        | none => none)
      | _ => none)
    | _ => none)
  | _ => none
def own_step (P : OPrg) (mt : OMth) (d lo : Nat) (i : Instr) (t pc : Nat) (L : List Slot) (S : List Value) (H : OHeap) : Option OSt :=
  match own_pure i t pc L S with
  | some (pc', L', S') => some (pc', L', S', H)
  | none => own_heap P mt d lo i t L S H
/-! ### returns, calls, the run -/
def own_ret (mt : OMth) (i : Instr) (S : List Value) : Option (Option Value) :=
  match i with
  | .return_ => (match mt.rt, S with
    | none, [] => some none
    | _, _ => none)
  | .ireturn => (match mt.rt, S with
    | some .int, .int z :: _ => some (some (.int z))
    | some .boolean, .int z :: _ => some (some (.int (z &&& 1)))
    | some .byte, .int z :: _ => some (some (.int z.toInt8.toInt32))
    | some .char, .int z :: _ => some (some (.int z.toUInt32.toUInt16.toUInt32.toInt32))
    | some .short, .int z :: _ => some (some (.int z.toInt16.toInt32))
    | _, _ => none)
  | .lreturn => (match mt.rt, S with
    | some .long, .long z :: _ => some (some (.long z))
    | _, _ => none)
  | .areturn => (match mt.rt, S with
    | some (.array _), .ref a :: _ => some (some (.ref a))
    | some (.array _), .null :: _ => some (some .null)
    | some (.object _), .ref a :: _ => some (some (.ref a))
    | some (.object _), .null :: _ => some (some .null)
    | _, _ => none)
  | _ => none
def own_split : Nat → List Value → List Value → Option (List Value × List Value)
  | 0, S, acc => some (acc, S)
  | n + 1, v :: S, acc => own_split n S (v :: acc)
  | _ + 1, [], _ => none
/-- the callee's number, its arguments in order, what lies under them -/
def own_call (P : OPrg) (mt : OMth) (i : Instr) (S : List Value) (H : OHeap) : Option (Nat × List Value × List Value) :=
  match i with
  | .invokestatic x => (match own_ent mt.en x with
    | some (0, j, _, _) => (match P.1[j]? with
      | some mj => (match own_split mj.na S [] with
        | some (as, r) => some (j, as, r)
        | none => none)
      | none => none)
    | _ => none)
  | .invokespecial x => (match own_ent mt.en x with
    | some (1, j, _, _) => (match P.1[j]? with
      | some mj => (match own_split mj.na S [] with
        | some (.ref a :: as, r) => some (j, .ref a :: as, r)
        | _ => none)
      | none => none)
    | some (5, j, k, _) => (match P.1[j]? with
      | some mj => (match own_split mj.na S [] with
        | some (.ref a :: as, r) => (match own_obj H a k with
          | some _ => some (j, .ref a :: as, r)
          | none => none)
        | _ => none)
      | none => none)
    | _ => none)
  | .invokevirtual x => (match own_ent mt.en x with
    | some (3, j, k, _) => (match P.1[j]? with
      | some mj => (match own_split mj.na S [] with
        | some (.ref a :: as, r) => (match own_obj H a k with
          | some _ => some (j, .ref a :: as, r)
          | none => none)
        | _ => none)
      | none => none)
    | some (4, j, k, _) => (match P.1[j]? with
      | some mj => (match own_split mj.na S [] with
        | some (.ref a :: as, r) => (match own_obj H a k with
          | some _ => some (j, .ref a :: as, r)
          | none => none)
        | _ => none)
      | none => none)
    | some (13, j, k, _) => (match P.1[j]? with
      | some mj => (match own_split mj.na S [] with
        | some (.ref a :: as, r) => (match own_obj H a k with
          | some _ => some (j, .ref a :: as, r)
          | none => none)
        | _ => none)
      | none => none)
    | _ => none)
  | _ => none
def own_exec (P : OPrg) : Nat → Nat → Nat → Nat → Nat → List Slot → List Value → OHeap → Option (Option Value × OHeap)
  | 0, _, _, _, _, _, _, _ => none
  | q + 1, i, d, lo, pc, L, S, H =>
    match P.1[i]? with
    | none => none
    | some mt =>
      match own_at mt pc with
      | none => none
      | some (ins, t) =>
        match own_ret mt ins S with
        | some v => some (v, H)
        | none =>
          match own_call P mt ins S H with
          | some (j, as, r) =>
            (match P.1[j]? with
            | none => none
            | some mj =>
              if 1 ≤ d ∧ own_wt r + (mj.ml + 11) ≤ lo ∧ (own_entry as mj.ml).length = mj.ml then
                (match own_exec P q j (d - 1) (lo - (own_wt r + (mj.ml + 11))) 0 (own_entry as mj.ml) [] H with
                | some (v, H') => own_exec P q i d lo t L (v.toList ++ r) H'
                | none => none)
              else none)
          | none =>
            match own_step P mt d lo ins t pc L S H with
            | some (pc', L', S', H') => own_exec P q i d lo pc' L' S' H'
            | none => none
/-! ## WHAT THE LITTLE MACHINE's RUN SAYS OF THE MODEL's -/
theorem own_cat {n : Nat} (v : Value) : (own_sh n v).category = v.category := by cases v <;> rfl
theorem own_get {n : Nat} {L : List Slot} {k : Nat} {x : Slot} (h : L[k]? = some x) : ((L.map (own_shS n)).toArray)[k]? = some (own_shS n x) := by simp [h]
theorem own_set_ok {n : Nat} {L M : List Slot} {i : Nat} {x : Slot} (h : own_set L i x = some M) : setAt (L.map (own_shS n)).toArray i (own_shS n x) = some (M.map (own_shS n)).toArray := by
  unfold own_set at h
  split at h
  · cases h; simp [setAt, List.map_set, *]
  · cases h
theorem own_set_len {L M : List Slot} {i : Nat} {x : Slot} (h : own_set L i x = some M) : M.length = L.length := by
  unfold own_set at h
  split at h
  · cases h; simp
  · cases h
theorem own_self_ok {n : Nat} {L M : List Slot} {i : Nat} {v : Value} (h : own_self L i v = some M) : storeSelf (L.map (own_shS n)).toArray i (own_sh n v) = some (M.map (own_shS n)).toArray ∧ M.length = L.length := by
  unfold own_self at h
  split at h
  · cases h
  · rename_i A hA
    have e1 := own_set_ok (n := n) hA
    have l1 := own_set_len hA
    simp only [own_shS] at e1
    simp only [storeSelf, Option.bind_eq_bind, e1, Option.bind_some, own_cat]
    split at h
    · rename_i hc
      simp only [hc, if_true]
      split at h
      · cases h
      · rename_i o ho
        have g1 := own_get (n := n) ho
        simp only [own_shS] at g1
        simp only [g1, Option.bind_some, own_cat]
        split at h
        · rename_i hc2
          simp only [hc2, if_true]
          split at h
          · cases h
          · rename_i B hB
            have e2 := own_set_ok (n := n) hB
            have e3 := own_set_ok (n := n) h
            simp only [own_shS] at e2 e3
            simp only [e2, Option.bind_some, e3]
            exact ⟨trivial, by rw [own_set_len h, own_set_len hB, l1]⟩
        · rename_i hc2
          have e3 := own_set_ok (n := n) h
          simp only [own_shS] at e3
          simp only [hc2, if_false, e3]
          exact ⟨trivial, by rw [own_set_len h, l1]⟩
      · rename_i o hno ho
        have g1 := own_get (n := n) ho
        have e3 := own_set_ok (n := n) h
        cases o with
        | val w => exact absurd rfl (hno w)
        | unset => simp only [own_shS] at g1 e3; simp only [g1, Option.bind_some, e3]; exact ⟨trivial, by rw [own_set_len h, l1]⟩
        | second => simp only [own_shS] at g1 e3; simp only [g1, Option.bind_some, e3]; exact ⟨trivial, by rw [own_set_len h, l1]⟩
    · rename_i hc
      cases h
      simp only [hc, if_false]
      exact ⟨trivial, l1⟩
theorem own_sto_ok {n : Nat} {L M : List Slot} {i : Nat} {v : Value} (h : own_sto L i v = some M) : storeLocals (L.map (own_shS n)).toArray i (own_sh n v) = some (M.map (own_shS n)).toArray ∧ M.length = L.length := by
  unfold own_sto at h
  split at h
  · cases h
  · rename_i ho
    have g1 := own_get (n := n) ho
    simp only [own_shS] at g1
    split at h
    · cases h
    · rename_i A hA
      have e1 := own_set_ok (n := n) hA
      simp only [own_shS] at e1
      have e2 := own_self_ok (n := n) h
      simp only [storeLocals, Option.bind_eq_bind, g1, Option.bind_some, e1, e2.1]
      exact ⟨trivial, by rw [e2.2, own_set_len hA]⟩
  · rename_i o ho
    have g1 := own_get (n := n) ho
    simp only [own_shS] at g1
    split at h
    · rename_i hc
      split at h
      · cases h
      · rename_i A hA
        have e1 := own_set_ok (n := n) hA
        simp only [own_shS] at e1
        have e2 := own_self_ok (n := n) h
        simp only [storeLocals, Option.bind_eq_bind, g1, Option.bind_some, own_cat, hc, if_true, e1, e2.1]
        exact ⟨trivial, by rw [e2.2, own_set_len hA]⟩
    · rename_i hc
      have e2 := own_self_ok (n := n) h
      simp only [storeLocals, Option.bind_eq_bind, g1, Option.bind_some, own_cat, hc, if_false, e2.1]
      exact ⟨trivial, e2.2⟩
  · rename_i ho
    have g1 := own_get (n := n) ho
    simp only [own_shS] at g1
    have e2 := own_self_ok (n := n) h
    simp only [storeLocals, Option.bind_eq_bind, g1, Option.bind_some, e2.1]
    exact ⟨trivial, e2.2⟩
/-! ### decoded rows -/
def own_tgt (pc len t : Nat) (i : Instr) : Bool :=
  match i with
  | .goto o | .ifCond _ o | .if_icmp _ o | .ifnull o | .ifnonnull o => len == 3 && (decide (0 ≤ (pc : Int) + o) && ((pc : Int) + o).toNat == t)
  | .lookupswitch _ ps => (ps.toList.zip ps.toList.tail).all fun q => decide (q.1.1 < q.2.1)
  | j => len == own_ilen j && t == pc + own_ilen j
def own_okI (b : ByteArray) (x : ORow) : Bool :=
  match decode b x.1 with
  | .ok (i, len) => decide (i = x.2.1) && own_tgt x.1 len x.2.2 i
  | _ => false
theorem own_okI_spec {b : ByteArray} {pc t : Nat} {i : Instr} (h : own_okI b (pc, i, t) = true) : ∃ len, decode b pc = .ok (i, len) ∧ own_tgt pc len t i = true := by
  unfold own_okI at h
  split at h
  · rename_i j len hd
    simp only [Bool.and_eq_true, decide_eq_true_eq] at h
    obtain ⟨rfl, h2⟩ := h
    exact ⟨len, hd, h2⟩
  · cases h
theorem own_row_mem : ∀ {r : List ORow} {pc : Nat} {i : Instr} {t : Nat}, own_row r pc = some (i, t) → (pc, i, t) ∈ r
  | [], _, _, _, h => by cases h
  | (k, i', t') :: r, pc, i, t, h => by
    simp only [own_row] at h
    split at h
    · rename_i e; subst e; cases h; exact List.mem_cons_self ..
    · exact List.mem_cons_of_mem _ (own_row_mem h)
theorem own_at_ok {mt : OMth} (hc : ∀ r ∈ mt.cd, ∀ x ∈ r, own_okI mt.bs x = true) {pc t : Nat} {i : Instr} (h : own_at mt pc = some (i, t)) : ∃ len, decode mt.bs pc = .ok (i, len) ∧ own_tgt pc len t i = true := by
  unfold own_at at h
  split at h
  · rename_i r hr
    exact own_okI_spec (hc r (List.mem_of_getElem? hr) _ (own_row_mem h))
  · cases h
theorem own_t {a b len t : Nat} (h : (len == a && t == b) = true) : len = a ∧ t = b := by simpa using h
theorem own_tj {len t pc : Nat} {o : Int} (h : (len == 3 && (decide (0 ≤ (pc : Int) + o) && ((pc : Int) + o).toNat == t)) = true) : len = 3 ∧ 0 ≤ (pc : Int) + o ∧ ((pc : Int) + o).toNat = t := by simpa using h
/-! ### the frame's steps -/
section OwnPure
variable {p : Program} {e : Env} {m : MethodId} {below : List Frame} {c : Code} {T target : State} {n pc t : Nat} {L L' : List Slot} {S S' : List Value} {pc' len : Nat}
theorem own_dupx2 {g : JFrame} (h : At T m c below) (hx : p.tables.exec = Jvm.exec) (hg : g.method = m) {x y z : Value} {rest : List Value} (hd : decode c.code g.pc = .ok (.dup_x2, 1)) (hs : g.stack = x :: y :: z :: rest) (hc : x.category = 1) (hc' : y.category = 1) (hc2 : z.category = 1)
    (hr : Steps p.tables e below (T.setTop { g with pc := g.pc + 1, stack := x :: y :: z :: x :: rest }) target) : Steps p.tables e below (T.setTop g) target := by
  subst hg
  jvm_step h [h.top, hx, hd, hs, hc, hc', hc2]
  exact hr
theorem own_lsw {g : JFrame} (h : At T m c below) (hx : p.tables.exec = Jvm.exec) (hg : g.method = m) {df : Int} {ps : Array (Int × Int)} {pc0 pc1 : Nat} (hinc : ∀ a b a' b' : Int, ((a, b), a', b') ∈ ps.toList.zip ps.toList.tail → a < a') (hpc : g.pc = pc0) (hd : decode c.code g.pc = .ok (.lookupswitch df ps, len)) {i : Int32} {rest : List Value} (hs : g.stack = .int i :: rest)
    (ho : 0 ≤ (pc0 : Int) + lookupswitch.offset ps.toList df i.toInt) (hp : ((pc0 : Int) + lookupswitch.offset ps.toList df i.toInt).toNat = pc1)
    (hr : Steps p.tables e below (T.setTop { g with pc := pc1, stack := rest }) target) : Steps p.tables e below (T.setTop g) target := by
  subst hg hpc hp
  jvm_step h [h.top, hx, hd, hs, ho, lookupswitch.wp_chain]
  exact ⟨hinc, hr⟩
set_option maxHeartbeats 4000000 in
theorem own_pure_ok {i : Instr} (h : At T m c below) (hx : p.tables.exec = Jvm.exec) (hd : decode c.code pc = .ok (i, len)) (ht : own_tgt pc len t i = true) (e1 : own_pure i t pc L S = some (pc', L', S'))
    (hr : Steps p.tables e below (T.setTop (own_fr n m pc' L' S')) target) : Steps p.tables e below (T.setTop (own_fr n m pc L S)) target ∧ L'.length = L.length := by
  cases i with
  | iload k =>
    obtain ⟨rfl, rfl⟩ := own_t ht
    simp only [own_pure, own_ldI] at e1
    split at e1 <;> cases e1
    rename_i v hv
    exact ⟨XS.iload h hx rfl hd (own_get hv) hr, rfl⟩
  | iload_n k =>
    obtain ⟨rfl, rfl⟩ := own_t ht
    simp only [own_pure, own_ldI] at e1
    split at e1 <;> cases e1
    rename_i v hv
    exact ⟨XS.iloadN h hx rfl hd (own_get hv) hr, rfl⟩
  | lload k =>
    obtain ⟨rfl, rfl⟩ := own_t ht
    simp only [own_pure, own_ldJ] at e1
    split at e1 <;> cases e1
    rename_i v hv
    exact ⟨XS.lload h hx rfl hd (own_get hv) hr, rfl⟩
  | lload_n k =>
    obtain ⟨rfl, rfl⟩ := own_t ht
    simp only [own_pure, own_ldJ] at e1
    split at e1 <;> cases e1
    rename_i v hv
    exact ⟨XS.lloadN h hx rfl hd (own_get hv) hr, rfl⟩
  | aload k =>
    obtain ⟨rfl, rfl⟩ := own_t ht
    simp only [own_pure, own_ldA] at e1
    split at e1 <;> cases e1
    · rename_i v hv
      exact ⟨XS.aload h hx rfl hd (own_get hv) rfl hr, rfl⟩
    · rename_i hv
      exact ⟨XS.aload h hx rfl hd (own_get hv) rfl hr, rfl⟩
  | aload_n k =>
    obtain ⟨rfl, rfl⟩ := own_t ht
    simp only [own_pure, own_ldA] at e1
    split at e1 <;> cases e1
    · rename_i v hv
      exact ⟨XS.aloadN h hx rfl hd (own_get hv) rfl hr, rfl⟩
    · rename_i hv
      exact ⟨XS.aloadN h hx rfl hd (own_get hv) rfl hr, rfl⟩
  | istore k =>
    obtain ⟨rfl, rfl⟩ := own_t ht
    simp only [own_pure, own_stI] at e1
    split at e1 <;> try cases e1
    split at e1 <;> cases e1
    rename_i hv
    exact ⟨XS.istore h hx rfl hd rfl (own_sto_ok (n := n) hv).1 hr, (own_sto_ok (n := n) hv).2⟩
  | istore_n k =>
    obtain ⟨rfl, rfl⟩ := own_t ht
    simp only [own_pure, own_stI] at e1
    split at e1 <;> try cases e1
    split at e1 <;> cases e1
    rename_i hv
    exact ⟨XS.istoreN h hx rfl hd rfl (own_sto_ok (n := n) hv).1 hr, (own_sto_ok (n := n) hv).2⟩
  | lstore k =>
    obtain ⟨rfl, rfl⟩ := own_t ht
    simp only [own_pure, own_stJ] at e1
    split at e1 <;> try cases e1
    split at e1 <;> cases e1
    rename_i hv
    exact ⟨XS.lstore h hx rfl hd rfl (own_sto_ok (n := n) hv).1 hr, (own_sto_ok (n := n) hv).2⟩
  | lstore_n k =>
    obtain ⟨rfl, rfl⟩ := own_t ht
    simp only [own_pure, own_stJ] at e1
    split at e1 <;> try cases e1
    split at e1 <;> cases e1
    rename_i hv
    exact ⟨XS.lstoreN h hx rfl hd rfl (own_sto_ok (n := n) hv).1 hr, (own_sto_ok (n := n) hv).2⟩
  | astore k =>
    obtain ⟨rfl, rfl⟩ := own_t ht
    simp only [own_pure, own_stA] at e1
    split at e1 <;> try cases e1
    · split at e1 <;> cases e1
      rename_i hv
      exact ⟨XS.astore h hx rfl hd rfl rfl (own_sto_ok (n := n) hv).1 hr, (own_sto_ok (n := n) hv).2⟩
    · split at e1 <;> cases e1
      rename_i hv
      exact ⟨XS.astore h hx rfl hd rfl rfl (own_sto_ok (n := n) hv).1 hr, (own_sto_ok (n := n) hv).2⟩
  | astore_n k =>
    obtain ⟨rfl, rfl⟩ := own_t ht
    simp only [own_pure, own_stA] at e1
    split at e1 <;> try cases e1
    · split at e1 <;> cases e1
      rename_i hv
      exact ⟨XS.astoreN h hx rfl hd rfl rfl (own_sto_ok (n := n) hv).1 hr, (own_sto_ok (n := n) hv).2⟩
    · split at e1 <;> cases e1
      rename_i hv
      exact ⟨XS.astoreN h hx rfl hd rfl rfl (own_sto_ok (n := n) hv).1 hr, (own_sto_ok (n := n) hv).2⟩
  | iconst z => obtain ⟨rfl, rfl⟩ := own_t ht; cases e1; exact ⟨XS.iconst h hx rfl hd hr, rfl⟩
  | bipush z => obtain ⟨rfl, rfl⟩ := own_t ht; cases e1; exact ⟨XS.bipush h hx rfl hd hr, rfl⟩
  | sipush z => obtain ⟨rfl, rfl⟩ := own_t ht; cases e1; exact ⟨XS.sipush h hx rfl hd hr, rfl⟩
  | lconst z => obtain ⟨rfl, rfl⟩ := own_t ht; cases e1; exact ⟨XS.lconst h hx rfl hd hr, rfl⟩
  | aconst_null => obtain ⟨rfl, rfl⟩ := own_t ht; cases e1; exact ⟨XS.aconstNull h hx rfl hd hr, rfl⟩
  | iadd =>
    obtain ⟨rfl, rfl⟩ := own_t ht
    simp only [own_pure, own_b32] at e1
    split at e1 <;> cases e1
    exact ⟨XS.iadd h hx rfl hd rfl hr, rfl⟩
  | isub =>
    obtain ⟨rfl, rfl⟩ := own_t ht
    simp only [own_pure, own_b32] at e1
    split at e1 <;> cases e1
    exact ⟨XS.isub h hx rfl hd rfl hr, rfl⟩
  | imul =>
    obtain ⟨rfl, rfl⟩ := own_t ht
    simp only [own_pure, own_b32] at e1
    split at e1 <;> cases e1
    exact ⟨XS.imul h hx rfl hd rfl hr, rfl⟩
  | iand =>
    obtain ⟨rfl, rfl⟩ := own_t ht
    simp only [own_pure, own_b32] at e1
    split at e1 <;> cases e1
    exact ⟨XS.iand h hx rfl hd rfl hr, rfl⟩
  | ior =>
    obtain ⟨rfl, rfl⟩ := own_t ht
    simp only [own_pure, own_b32] at e1
    split at e1 <;> cases e1
    exact ⟨XS.ior h hx rfl hd rfl hr, rfl⟩
  | ixor =>
    obtain ⟨rfl, rfl⟩ := own_t ht
    simp only [own_pure, own_b32] at e1
    split at e1 <;> cases e1
    exact ⟨XS.ixor h hx rfl hd rfl hr, rfl⟩
  | ishl =>
    obtain ⟨rfl, rfl⟩ := own_t ht
    simp only [own_pure, own_b32] at e1
    split at e1 <;> cases e1
    exact ⟨XS.ishl h hx rfl hd rfl hr, rfl⟩
  | ishr =>
    obtain ⟨rfl, rfl⟩ := own_t ht
    simp only [own_pure, own_b32] at e1
    split at e1 <;> cases e1
    exact ⟨XS.ishr h hx rfl hd rfl hr, rfl⟩
  | iushr =>
    obtain ⟨rfl, rfl⟩ := own_t ht
    simp only [own_pure, own_b32] at e1
    split at e1 <;> cases e1
    exact ⟨XS.iushr h hx rfl hd rfl hr, rfl⟩
  | idiv =>
    obtain ⟨rfl, rfl⟩ := own_t ht
    simp only [own_pure, own_d32] at e1
    split at e1 <;> try cases e1
    split at e1 <;> cases e1
    rename_i hy
    exact ⟨XS.idiv h hx rfl hd rfl hy hr, rfl⟩
  | irem =>
    obtain ⟨rfl, rfl⟩ := own_t ht
    simp only [own_pure, own_d32] at e1
    split at e1 <;> try cases e1
    split at e1 <;> cases e1
    rename_i hy
    exact ⟨XS.irem h hx rfl hd rfl hy (by rw [irem_eq_mod]; exact hr), rfl⟩
  | ineg =>
    obtain ⟨rfl, rfl⟩ := own_t ht
    simp only [own_pure, own_u32] at e1
    split at e1 <;> cases e1
    exact ⟨XS.ineg h hx rfl hd rfl hr, rfl⟩
  | i2l =>
    obtain ⟨rfl, rfl⟩ := own_t ht
    simp only [own_pure, own_u32] at e1
    split at e1 <;> cases e1
    exact ⟨XS.i2l h hx rfl hd rfl hr, rfl⟩
  | i2b =>
    obtain ⟨rfl, rfl⟩ := own_t ht
    simp only [own_pure, own_u32] at e1
    split at e1 <;> cases e1
    exact ⟨XS.i2b h hx rfl hd rfl hr, rfl⟩
  | i2c =>
    obtain ⟨rfl, rfl⟩ := own_t ht
    simp only [own_pure, own_u32] at e1
    split at e1 <;> cases e1
    exact ⟨XS.i2c h hx rfl hd rfl hr, rfl⟩
  | i2s =>
    obtain ⟨rfl, rfl⟩ := own_t ht
    simp only [own_pure, own_u32] at e1
    split at e1 <;> cases e1
    exact ⟨XS.i2s h hx rfl hd rfl hr, rfl⟩
  | ladd =>
    obtain ⟨rfl, rfl⟩ := own_t ht
    simp only [own_pure, own_b64] at e1
    split at e1 <;> cases e1
    exact ⟨XS.ladd h hx rfl hd rfl hr, rfl⟩
  | lsub =>
    obtain ⟨rfl, rfl⟩ := own_t ht
    simp only [own_pure, own_b64] at e1
    split at e1 <;> cases e1
    exact ⟨XS.lsub h hx rfl hd rfl hr, rfl⟩
  | lmul =>
    obtain ⟨rfl, rfl⟩ := own_t ht
    simp only [own_pure, own_b64] at e1
    split at e1 <;> cases e1
    exact ⟨XS.lmul h hx rfl hd rfl hr, rfl⟩
  | land =>
    obtain ⟨rfl, rfl⟩ := own_t ht
    simp only [own_pure, own_b64] at e1
    split at e1 <;> cases e1
    exact ⟨XS.land h hx rfl hd rfl hr, rfl⟩
  | lor =>
    obtain ⟨rfl, rfl⟩ := own_t ht
    simp only [own_pure, own_b64] at e1
    split at e1 <;> cases e1
    exact ⟨XS.lor h hx rfl hd rfl hr, rfl⟩
  | lxor =>
    obtain ⟨rfl, rfl⟩ := own_t ht
    simp only [own_pure, own_b64] at e1
    split at e1 <;> cases e1
    exact ⟨XS.lxor h hx rfl hd rfl hr, rfl⟩
  | lcmp =>
    obtain ⟨rfl, rfl⟩ := own_t ht
    simp only [own_pure, own_b64] at e1
    split at e1 <;> cases e1
    exact ⟨XS.lcmp h hx rfl hd rfl hr, rfl⟩
  | ldiv =>
    obtain ⟨rfl, rfl⟩ := own_t ht
    simp only [own_pure, own_d64] at e1
    split at e1 <;> try cases e1
    split at e1 <;> cases e1
    rename_i hy
    exact ⟨XS.ldiv h hx rfl hd rfl hy hr, rfl⟩
  | lrem =>
    obtain ⟨rfl, rfl⟩ := own_t ht
    simp only [own_pure, own_d64] at e1
    split at e1 <;> try cases e1
    split at e1 <;> cases e1
    rename_i hy
    exact ⟨XS.lrem h hx rfl hd rfl hy hr, rfl⟩
  | lshl =>
    obtain ⟨rfl, rfl⟩ := own_t ht
    simp only [own_pure, own_s64] at e1
    split at e1 <;> cases e1
    exact ⟨XS.lshl h hx rfl hd rfl hr, rfl⟩
  | lshr =>
    obtain ⟨rfl, rfl⟩ := own_t ht
    simp only [own_pure, own_s64] at e1
    split at e1 <;> cases e1
    exact ⟨XS.lshr h hx rfl hd rfl hr, rfl⟩
  | lushr =>
    obtain ⟨rfl, rfl⟩ := own_t ht
    simp only [own_pure, own_s64] at e1
    split at e1 <;> cases e1
    exact ⟨XS.lushr h hx rfl hd rfl hr, rfl⟩
  | lneg =>
    obtain ⟨rfl, rfl⟩ := own_t ht
    simp only [own_pure, own_u64] at e1
    split at e1 <;> cases e1
    exact ⟨XS.lneg h hx rfl hd rfl hr, rfl⟩
  | l2i =>
    obtain ⟨rfl, rfl⟩ := own_t ht
    simp only [own_pure, own_u64] at e1
    split at e1 <;> cases e1
    exact ⟨XS.l2i h hx rfl hd rfl hr, rfl⟩
  | iinc k z =>
    obtain ⟨rfl, rfl⟩ := own_t ht
    simp only [own_pure] at e1
    split at e1 <;> try cases e1
    rename_i v hv
    split at e1 <;> cases e1
    rename_i hw
    exact ⟨XS.iinc h hx rfl hd (own_get hv) (own_sto_ok (n := n) hw).1 hr, (own_sto_ok (n := n) hw).2⟩
  | dup =>
    obtain ⟨rfl, rfl⟩ := own_t ht
    simp only [own_pure] at e1
    split at e1 <;> try cases e1
    split at e1 <;> cases e1
    rename_i hv
    exact ⟨XS.dup h hx rfl hd rfl (by rw [own_cat]; exact hv) hr, rfl⟩
  | pop =>
    obtain ⟨rfl, rfl⟩ := own_t ht
    simp only [own_pure] at e1
    split at e1 <;> try cases e1
    split at e1 <;> cases e1
    rename_i hv
    exact ⟨XS.pop h hx rfl hd rfl (by rw [own_cat]; exact hv) hr, rfl⟩
  | dup_x1 =>
    obtain ⟨rfl, rfl⟩ := own_t ht
    simp only [own_pure] at e1
    split at e1 <;> try cases e1
    split at e1 <;> cases e1
    rename_i hv
    exact ⟨XS.dupX1 h hx rfl hd rfl (by rw [own_cat]; exact hv.1) (by rw [own_cat]; exact hv.2) hr, rfl⟩
  | dup_x2 =>
    obtain ⟨rfl, rfl⟩ := own_t ht
    simp only [own_pure] at e1
    split at e1 <;> try cases e1
    split at e1 <;> cases e1
    rename_i hv
    exact ⟨own_dupx2 h hx rfl hd rfl (by rw [own_cat]; exact hv.1) (by rw [own_cat]; exact hv.2.1) (by rw [own_cat]; exact hv.2.2) hr, rfl⟩
  | dup2 =>
    obtain ⟨rfl, rfl⟩ := own_t ht
    simp only [own_pure] at e1
    split at e1 <;> try cases e1
    · exact ⟨Jvm.Free.XT.dup2L h hx rfl hd rfl hr, rfl⟩
    · split at e1 <;> cases e1
      rename_i hv
      exact ⟨Jvm.Free.XT.dup2 h hx rfl hd rfl (by rw [own_cat]; exact hv.1) (by rw [own_cat]; exact hv.2) hr, rfl⟩
  | goto o =>
    obtain ⟨rfl, h1, h2⟩ := own_tj ht
    cases e1
    exact ⟨XS.goto h hx rfl (pc0 := pc) rfl hd h1 h2 hr, rfl⟩
  | ifCond cd o =>
    obtain ⟨rfl, h1, h2⟩ := own_tj ht
    simp only [own_pure] at e1
    split at e1 <;> try cases e1
    unfold own_br at e1
    split at e1 <;> cases e1
    · rename_i hb
      exact ⟨XS.ifYes h hx rfl (pc0 := pc) rfl hd rfl hb h1 h2 hr, rfl⟩
    · rename_i hb
      exact ⟨XS.ifNo h hx rfl hd rfl hb hr, rfl⟩
  | if_icmp cd o =>
    obtain ⟨rfl, h1, h2⟩ := own_tj ht
    simp only [own_pure] at e1
    split at e1 <;> try cases e1
    unfold own_br at e1
    split at e1 <;> cases e1
    · rename_i hb
      exact ⟨XS.icmpYes h hx rfl (pc0 := pc) rfl hd rfl hb h1 h2 hr, rfl⟩
    · rename_i hb
      exact ⟨XS.icmpNo h hx rfl hd rfl hb hr, rfl⟩
  | ifnull o =>
    obtain ⟨rfl, h1, h2⟩ := own_tj ht
    simp only [own_pure] at e1
    split at e1 <;> cases e1
    · exact ⟨XS.ifnullYes h hx rfl (pc0 := pc) rfl hd rfl h1 h2 hr, rfl⟩
    · exact ⟨XS.ifnullNo h hx rfl hd rfl hr, rfl⟩
  | ifnonnull o =>
    obtain ⟨rfl, h1, h2⟩ := own_tj ht
    simp only [own_pure] at e1
    split at e1 <;> cases e1
    · exact ⟨XS.ifnonnullNo h hx rfl hd rfl hr, rfl⟩
    · exact ⟨XS.ifnonnullYes h hx rfl (pc0 := pc) rfl hd rfl h1 h2 hr, rfl⟩
  | lookupswitch df ps =>
    simp only [own_pure] at e1
    split at e1 <;> try cases e1
    split at e1 <;> cases e1
    rename_i hj
    unfold own_jmp at hj
    split at hj <;> cases hj
    rename_i h1
    have ht' : ((ps.toList.zip ps.toList.tail).all fun q => decide (q.1.1 < q.2.1)) = true := ht
    exact ⟨own_lsw h hx rfl (pc0 := pc) (fun a b a' b' hm => by simpa using List.all_eq_true.mp ht' _ hm) rfl hd rfl h1 rfl hr, rfl⟩
  | _ => exact nomatch (show (none : Option OFr) = some _ from e1)
end OwnPure
/-! ### the heap -/
def own_cw (K : List OKls) : OCell → Nat
  | (.inl k, _) => (match K[k]? with | some c => c.2.1 | none => 0)
  | (.inr _, vs) => vs.length
def own_w (K : List OKls) (H : OHeap) : Nat := (H.map (own_cw K)).sum
def own_repC (Z : State) (n : Nat) (K : List OKls) (h : Heap) (a : Addr) : OCell → Prop
  | (.inl k, vs) => ∃ c : OKls, K[k]? = some c ∧ Exa Z h a c.1 ∧ vs.length = c.2.2.length ∧ ∀ (j : Nat) (f : OFld) (v : Value), c.2.2[j]? = some f → vs[j]? = some v → Fld Z h a f.1 f.2.1 f.2.2.1 (own_sh n v)
  | (.inr ty, vs) => ∃ cl : Cell, Arr Z h a cl ty ∧ cl.slots = (vs.map (own_sh n)).toArray ∧ vs.length < 2 ^ 31 ∧ Exa Z h a ("[" ++ ty.toString) ∧ own_prim ty = true ∧ ∀ v ∈ vs, fits ty v = true
def own_rep (Z : State) (n : Nat) (K : List OKls) (H : OHeap) (h : Heap) : Prop := h.size = n + H.length ∧ ∀ (i : Nat) (c : OCell), H[i]? = some c → own_repC Z n K h (n + i) c
/-- what the class table says is so -/
def own_okK (Z : State) (a0 : Array Value) (K : List OKls) : Prop := ∀ (k : Nat) (c : OKls), K[k]? = some c → (Jvm.Cond.instantiable c.1 c.2.1).before a0 Z = true ∧ (Jvm.Cond.initialized c.1).before a0 Z = true ∧
  (∀ f ∈ c.2.2, Laid Z a0 c.1 f.1 f.2.1 f.2.2.1 ∧ parseFieldDescriptor f.2.2.1 = some f.2.2.2) ∧ (c.2.2.map fun f => f.2.1).Nodup
theorem own_default (n : Nat) (ty : FieldType) : own_sh n (defaultValue ty) = defaultValue ty := by cases ty <;> rfl
theorem own_fit_default {ty : FieldType} (h : own_prim ty = true) : fits ty (defaultValue ty) = true := by cases ty <;> first | rfl | decide | cases h
theorem own_nar_ok {n : Nat} {ty : FieldType} {v w : Value} (h : own_nar ty v = some w) : narrow ty (own_sh n v) = own_sh n w ∧ fits ty (own_sh n w) = true ∧ fits ty w = true := by
  unfold own_nar at h
  split at h <;> cases h
  · exact ⟨rfl, rfl, rfl⟩
  · exact ⟨rfl, rfl, rfl⟩
  · exact ⟨rfl, fits_nar_bool _, fits_nar_bool _⟩
  · exact ⟨rfl, fits_nar_byte _, fits_nar_byte _⟩
  · exact ⟨rfl, fits_nar_char _, fits_nar_char _⟩
  · exact ⟨rfl, fits_nar_short _, fits_nar_short _⟩
  · exact ⟨rfl, rfl, rfl⟩
  · exact ⟨rfl, rfl, rfl⟩
  · exact ⟨rfl, rfl, rfl⟩
  · exact ⟨rfl, rfl, rfl⟩
theorem own_prim_sh {n : Nat} {ty : FieldType} (h : own_prim ty = true) {v : Value} (hf : fits ty v = true) : own_sh n v = v := by
  cases v <;> first | rfl | (cases ty <;> first | (simp [own_prim] at h; done) | (simp [fits] at hf; done))
section OwnHeap
variable {Z : State} {n : Nat} {K : List OKls} {H : OHeap} {h h' : Heap}
theorem own_repC_ext {a : Addr} {c : OCell} (E : Ext h h') (q : own_repC Z n K h a c) : own_repC Z n K h' a c := by
  obtain ⟨k | ty, vs⟩ := c
  · obtain ⟨c, h1, h2, h3, h4⟩ := q
    exact ⟨c, h1, h2.ext E, h3, fun j f v e1 e2 => (h4 j f v e1 e2).ext E⟩
  · obtain ⟨cl, h1, h2, h3, h4, h5⟩ := q
    exact ⟨cl, h1.ext E, h2, h3, h4.ext E, h5⟩
theorem own_repC_other {a b : Addr} {c : OCell} {sl : Nat} {v : Value} (W : Wr h h' a sl v) (hne : b ≠ a) (q : own_repC Z n K h b c) : own_repC Z n K h' b c := by
  obtain ⟨k | ty, vs⟩ := c
  · obtain ⟨c, h1, h2, h3, h4⟩ := q
    exact ⟨c, h1, h2.wr W, h3, fun j f v e1 e2 => (h4 j f v e1 e2).other W (Or.inl hne)⟩
  · obtain ⟨cl, h1, h2, h3, h4, h5⟩ := q
    exact ⟨cl, h1.other W hne, h2, h3, h4.wr W, h5⟩
theorem own_repC_keep {a b : Addr} {c : OCell} (W : Keep h h' [a]) (hne : b ≠ a) (q : own_repC Z n K h b c) : own_repC Z n K h' b c := by
  have hn : b ∉ [a] := by simpa using hne
  obtain ⟨k | ty, vs⟩ := c
  · obtain ⟨c, h1, h2, h3, h4⟩ := q
    exact ⟨c, h1, h2.keep W, h3, fun j f v e1 e2 => (h4 j f v e1 e2).keep W hn⟩
  · obtain ⟨cl, h1, h2, h3, h4, h5⟩ := q
    exact ⟨cl, ⟨W.2.1 _ _ h1.1 hn, h1.2⟩, h2, h3, h4.keep W, h5⟩
theorem own_rep_push {c : OCell} (q : own_rep Z n K H h) (E : Ext h h') (hs : h'.size = h.size + 1) (hc : own_repC Z n K h' (n + H.length) c) : own_rep Z n K (H ++ [c]) h' := by
  refine ⟨by rw [hs, q.1, List.length_append]; simp only [List.length_cons, List.length_nil]; omega, fun i d hd => ?_⟩
  rcases Nat.lt_trichotomy i H.length with hi | hi | hi
  · rw [List.getElem?_append_left hi] at hd
    exact own_repC_ext E (q.2 i d hd)
  · subst hi
    rw [List.getElem?_append_right (Nat.le_refl _)] at hd
    simp only [Nat.sub_self, List.getElem?_cons_zero, Option.some.injEq] at hd
    subst hd; exact hc
  · rw [List.getElem?_append_right (by omega), List.getElem?_eq_none (by simp only [List.length_cons, List.length_nil]; omega)] at hd
    cases hd
theorem own_rep_set {a : Nat} {c c' : OCell} (q : own_rep Z n K H h) (ha : H[a]? = some c) (hs : h'.size = h.size) (ho : ∀ (b : Nat) (d : OCell), b ≠ a → H[b]? = some d → own_repC Z n K h' (n + b) d) (hc : own_repC Z n K h' (n + a) c') : own_rep Z n K (H.set a c') h' := by
  refine ⟨by rw [hs, q.1, List.length_set], fun i d hd => ?_⟩
  by_cases e : i = a
  · subst e
    rw [List.getElem?_set_self (List.getElem?_eq_some_iff.mp ha).1] at hd
    cases hd; exact hc
  · rw [List.getElem?_set_ne (Ne.symm e)] at hd
    exact ho i d e hd
theorem own_obj_at {a k : Nat} {vs : List Value} (h1 : own_obj H a k = some vs) : H[a]? = some (.inl k, vs) := by
  unfold own_obj at h1
  split at h1 <;> try cases h1
  rename_i k' ws hk
  split at h1 <;> cases h1
  rename_i e; subst e; exact hk
theorem own_arr_at {a : Nat} {ty : FieldType} {vs : List Value} (h1 : own_arr H a ty = some vs) : H[a]? = some (.inr ty, vs) := by
  unfold own_arr at h1
  split at h1 <;> try cases h1
  rename_i k' ws hk
  split at h1 <;> cases h1
  rename_i e; subst e; exact hk
theorem own_ix_ok {j : Int32} {q : Nat} (h1 : own_ix j = some q) : ¬ j < 0 ∧ j.toNatClampNeg = q := by
  unfold own_ix at h1
  split at h1 <;> cases h1
  rename_i e; exact ⟨e, rfl⟩
theorem own_rep_fld {a0 : Array Value} {a k j : Nat} {vs : List Value} {c : OKls} {f : OFld} {w : Value} (hK : own_okK Z a0 K) (q : own_rep Z n K H h) (ha : H[a]? = some (.inl k, vs)) (hk : K[k]? = some c) (hf : c.2.2[j]? = some f) (W : Wr h h' (n + a) (Jvm.RoadKit.slotOf Z f.1 f.2.1 f.2.2.1) (own_sh n w)) :
    own_rep Z n K (H.set a (.inl k, vs.set j w)) h' := by
  refine own_rep_set q ha W.size (fun b d hb hd => own_repC_other W (fun e => hb (Nat.add_left_cancel e)) (q.2 b d hd)) ?_
  obtain ⟨c', h1, h2, h3, h4⟩ := q.2 a _ ha
  cases hk.symm.trans h1
  refine ⟨c, hk, h2.wr W, by rw [List.length_set]; exact h3, fun j' f' v e1 e2 => ?_⟩
  obtain ⟨-, -, hL, hN⟩ := hK k c hk
  by_cases e : j' = j
  · subst e
    cases hf.symm.trans e1
    have hlt : j' < vs.length := by rw [h3]; exact (List.getElem?_eq_some_iff.mp hf).1
    rw [List.getElem?_set_self hlt] at e2
    cases e2
    exact (h4 j' f _ hf (List.getElem?_eq_getElem hlt)).same W
  · rw [List.getElem?_set_ne (Ne.symm e)] at e2
    refine (h4 j' f' v e1 e2).other W (Or.inr ?_)
    obtain ⟨l1, t1⟩ := hL f' (List.mem_of_getElem? e1)
    obtain ⟨l2, t2⟩ := hL f (List.mem_of_getElem? hf)
    refine Jvm.RoadKit.slot_ne l1 l2 (fun en => e ?_) t1 t2
    obtain ⟨i1, g1⟩ := List.getElem?_eq_some_iff.mp e1
    obtain ⟨i2, g2⟩ := List.getElem?_eq_some_iff.mp hf
    have := (List.getElem_inj (i := j') (j := j) (h₀ := by rw [List.length_map]; exact i1) (h₁ := by rw [List.length_map]; exact i2) hN).mp (by rw [List.getElem_map, List.getElem_map, g1, g2]; exact en)
    exact this
theorem own_rep_elem {a q : Nat} {ty : FieldType} {vs : List Value} {w : Value} {cl : Cell} (r : own_rep Z n K H h) (ha : H[a]? = some (.inr ty, vs)) (A : Arr Z h (n + a) cl ty) (hs : cl.slots = (vs.map (own_sh n)).toArray) (hf : fits ty w = true) (W : Wr h h' (n + a) q (own_sh n w)) :
    own_rep Z n K (H.set a (.inr ty, vs.set q w)) h' := by
  refine own_rep_set r ha W.size (fun b d hb hd => own_repC_other W (fun e => hb (Nat.add_left_cancel e)) (r.2 b d hd)) ?_
  obtain ⟨cl', h1, h2, h3, h4, h5, h6⟩ := r.2 a _ ha
  refine ⟨cl.setSlot q (own_sh n w), A.same W, ?_, by rw [List.length_set]; exact h3, h4.wr W, h5, fun v hv => ?_⟩
  · show cl.slots.setIfInBounds q (own_sh n w) = _
    rw [hs]; simp [List.map_set]
  · rcases List.mem_or_eq_of_mem_set hv with h7 | rfl
    · exact h6 v h7
    · exact hf
theorem own_w_app (c : OCell) : own_w K (H ++ [c]) = own_w K H + own_cw K c := by simp [own_w]
theorem own_w_set {a : Nat} {c c' : OCell} (ha : H[a]? = some c) (hw : own_cw K c' = own_cw K c) : own_w K (H.set a c') = own_w K H := by
  unfold own_w
  rw [List.map_set, hw]
  have : (H.map (own_cw K))[a]? = some (own_cw K c) := by simp [ha]
  congr 1
  obtain ⟨i, e⟩ := List.getElem?_eq_some_iff.mp this
  rw [← e]; exact List.set_getElem_self i
end OwnHeap
/-! ### the words of the sheet -/
def own_okD (k : Nat) (mj : OMth) : Prop := ∃ ps r, parseMethodDescriptor mj.nm.desc = some ⟨ps, r⟩ ∧ ps.length + k = mj.na
def own_okY (y : MethodName) : Prop := y.cls ≠ "java/lang/invoke/MethodHandle" ∧ y.cls ≠ "java/lang/invoke/VarHandle"
def own_okE (Z : State) (a0 : Array Value) (P : OPrg) (y : MethodName) (x : Nat) (t : OEnt) : Prop :=
  match t with
  | (0, j, _, _) => ∃ mj : OMth, P.1[j]? = some mj ∧ (Jvm.Cond.methodLink y.cls x mj.nm).before a0 Z = true ∧ (Jvm.Cond.static mj.nm).before a0 Z = true ∧ (Jvm.Cond.initialized mj.nm.cls).before a0 Z = true ∧ own_okY mj.nm ∧ own_okD 0 mj
  | (1, j, _, _) => ∃ mj : OMth, P.1[j]? = some mj ∧ mj.nm.name = "<init>" ∧ mj.rt = none ∧ (Jvm.Cond.methodLink y.cls x mj.nm).before a0 Z = true ∧ (Jvm.Cond.instanceMethod mj.nm).before a0 Z = true ∧ (Jvm.Cond.initialized mj.nm.cls).before a0 Z = true ∧ own_okY mj.nm ∧ own_okD 1 mj
  | (2, _, _, _) => (Jvm.Cond.methodLink y.cls x Lib.objectInit).before a0 Z = true ∧ (Jvm.Cond.instanceMethod Lib.objectInit).before a0 Z = true ∧ (Jvm.Cond.code Lib.objectInit ⟨#[0xb1]⟩ 1 none).before a0 Z = true
  | (3, j, k, _) => ∃ (mj : OMth) (c : OKls) (v : MethodName), P.1[j]? = some mj ∧ P.2.1[k]? = some c ∧ v.desc = mj.nm.desc ∧ (Jvm.Cond.methodLink y.cls x v).before a0 Z = true ∧ (Jvm.Cond.declares v).before a0 Z = true ∧ (Jvm.Cond.selects c.1 v mj.nm).before a0 Z = true ∧ (Jvm.Cond.instanceMethod mj.nm).before a0 Z = true ∧ (Jvm.Cond.initialized mj.nm.cls).before a0 Z = true ∧ (∀ s : State, Z.Warmed39 s.vm → NotFace s v) ∧ own_okY v ∧ own_okD 1 mj
  | (4, j, _, _) => ∃ mj : OMth, P.1[j]? = some mj ∧ (Jvm.Cond.methodLink y.cls x mj.nm).before a0 Z = true ∧ (Jvm.Cond.instanceMethod mj.nm).before a0 Z = true ∧ (Jvm.Cond.privateMethod mj.nm).before a0 Z = true ∧ (∀ s : State, Z.Warmed39 s.vm → NotFace s mj.nm) ∧ (Jvm.Cond.initialized mj.nm.cls).before a0 Z = true ∧ own_okY mj.nm ∧ own_okD 1 mj
  | (5, j, k, _) => ∃ (mj : OMth) (c : OKls), P.1[j]? = some mj ∧ P.2.1[k]? = some c ∧ mj.nm.name ≠ "<init>" ∧ (Jvm.Cond.methodLink y.cls x mj.nm).before a0 Z = true ∧ (Jvm.Cond.instanceMethod mj.nm).before a0 Z = true ∧ (Jvm.Cond.superclass y.cls mj.nm.cls).before a0 Z = true ∧ NotFace Z mj.nm ∧ (Jvm.Cond.initialized mj.nm.cls).before a0 Z = true ∧ own_okY mj.nm ∧ own_okD 1 mj
  | (13, j, k, _) => ∃ (mj : OMth) (c : OKls) (v : MethodName) (ow : String), P.1[j]? = some mj ∧ P.2.1[k]? = some c ∧ v.desc = mj.nm.desc ∧ (Jvm.Cond.methodLink y.cls x v).before a0 Z = true ∧ (Jvm.Cond.sameMethod v.cls ow v.name v.desc).before a0 Z = true ∧ (Jvm.Cond.declares ⟨ow, v.name, v.desc⟩).before a0 Z = true ∧ (Jvm.Cond.selects c.1 v mj.nm).before a0 Z = true ∧ (Jvm.Cond.instanceMethod mj.nm).before a0 Z = true ∧ (Jvm.Cond.initialized mj.nm.cls).before a0 Z = true ∧ (ow ≠ "java/lang/invoke/MethodHandle" ∧ ow ≠ "java/lang/invoke/VarHandle") ∧ own_okD 1 mj
  | (6, k, j, u) => ∃ (c : OKls) (f : OFld) (R0 : String), P.2.1[k]? = some c ∧ c.2.2[j]? = some f ∧ (Jvm.Cond.fieldLink y.cls x R0 f.2.1 f.2.2.1).before a0 Z = true ∧ Via Z R0 f.1 f.2.1 f.2.2.1 ∧
      (u = 1 → (Jvm.Cond.lays c.1 f.1 f.2.1 f.2.2.1).before a0 Z = true ∨ ((Jvm.Cond.laysFinal c.1 f.1 f.2.1 f.2.2.1).before a0 Z = true ∧ y.cls = f.1 ∧ y.name = "<init>"))
  | (7, k, _, _) => ∃ c : OKls, P.2.1[k]? = some c ∧ (Jvm.Cond.classLink y.cls x c.1).before a0 Z = true
  | (8, _, _, v) => (Jvm.Cond.constant y.cls x (Int32.ofInt v)).before a0 Z = true
  | (9, _, _, v) => (Jvm.Cond.constantLong y.cls x (Int64.ofInt v)).before a0 Z = true
  | (10, _, _, _) => (Jvm.Cond.methodLink y.cls x Jvm.Stand.acN).before a0 Z = true ∧ (Jvm.Cond.native Jvm.Stand.acN).before a0 Z = true ∧ (Jvm.Cond.static Jvm.Stand.acN).before a0 Z = true ∧ (Jvm.Cond.initialized "java/lang/System").before a0 Z = true
  | (11, _, _, _) => (Jvm.Cond.methodLink y.cls x ⟨"[I", "clone", "()Ljava/lang/Object;"⟩).before a0 Z = true ∧ (Jvm.Cond.sameMethod "[I" "java/lang/Object" "clone" "()Ljava/lang/Object;").before a0 Z = true ∧ (Jvm.Cond.native ⟨"java/lang/Object", "clone", "()Ljava/lang/Object;"⟩).before a0 Z = true ∧ (Jvm.Cond.instanceMethod ⟨"java/lang/Object", "clone", "()Ljava/lang/Object;"⟩).before a0 Z = true ∧ (Jvm.Cond.selects "[I" ⟨"[I", "clone", "()Ljava/lang/Object;"⟩ ⟨"java/lang/Object", "clone", "()Ljava/lang/Object;"⟩).before a0 Z = true ∧ (Jvm.Cond.castable "[I" "java/lang/Cloneable").before a0 Z = true
  | (12, _, _, _) => (Jvm.Cond.classLink y.cls x "[I").before a0 Z = true
  | _ => False
def own_okM (Z : State) (a0 : Array Value) (P : OPrg) (mt : OMth) : Prop :=
  plainName mt.nm.cls = true ∧ (Jvm.Cond.code mt.nm mt.bs mt.ml mt.rt).before a0 Z = true ∧ (∀ r ∈ mt.cd, ∀ x ∈ r, own_okI mt.bs x = true) ∧ ∀ x ∈ mt.en, own_okE Z a0 P mt.nm x.1 x.2
/-- all that the tables of a claim owe -/
def own_good (Z : State) (a0 : Array Value) (P : OPrg) : Prop := (∀ mt ∈ P.1, own_okM Z a0 P mt) ∧ own_okK Z a0 P.2.1 ∧ ∀ ty ∈ P.2.2, (Jvm.Cond.arrayClass ty).before a0 Z = true ∧ own_prim ty = true
theorem own_ent_mem : ∀ {r : List (Nat × OEnt)} {x : Nat} {t : OEnt}, own_ent r x = some t → (x, t) ∈ r
  | [], _, _, h => by cases h
  | (k, i) :: r, x, t, h => by
    simp only [own_ent] at h
    split at h
    · rename_i e; subst e; cases h; exact List.mem_cons_self ..
    · exact List.mem_cons_of_mem _ (own_ent_mem h)
theorem own_wt_sh {n : Nat} (S : List Value) : ((S.map (own_sh n)).map fun v => v.category).sum = own_wt S := by
  unfold own_wt
  rw [List.map_map]
  congr 1
  exact List.map_congr_left fun v _ => own_cat v
theorem own_split_ok : ∀ {k : Nat} {S acc as r : List Value}, own_split k S acc = some (as, r) → as.reverse ++ r = acc.reverse ++ S ∧ as.length = acc.length + k
  | 0, S, acc, as, r, h => by cases h; exact ⟨rfl, rfl⟩
  | k + 1, v :: S, acc, as, r, h => by
    obtain ⟨h1, h2⟩ := own_split_ok (k := k) h
    exact ⟨by rw [h1]; simp, by rw [h2]; simp only [List.length_cons]; omega⟩
  | _ + 1, [], _, _, _, h => by cases h
theorem own_args_ok {n : Nat} (as : List Value) (ml : Nat) : argsToLocals (as.map (own_sh n)).toArray ml = ((own_entry as ml).map (own_shS n)).toArray := by
  have key : ∀ (as : List Value) (acc : Array Slot), (as.map (own_sh n)).foldl (fun acc v => if v.category = 2 then (acc.push (.val v)).push .second else acc.push (.val v)) acc = acc ++ ((as.flatMap fun v => if v.category = 2 then [Slot.val v, .second] else [Slot.val v]).map (own_shS n)).toArray := by
    intro as
    induction as with
    | nil => intro acc; simp
    | cons v r ih =>
      intro acc
      simp only [List.map_cons, List.foldl_cons, own_cat, List.flatMap_cons, List.map_append]
      split
      · rw [ih]
        apply Array.ext'
        simp [own_shS, own_sh]
      · rw [ih]
        apply Array.ext'
        simp [own_shS, own_sh]
  have k0 := key as #[]
  simp only [Array.empty_append] at k0
  unfold argsToLocals own_entry
  simp only [List.foldl_toArray', List.size_toArray]
  rw [k0]
  apply Array.ext'
  simp [own_shS]
section OwnArr
variable {Z : State} {n : Nat} {K : List OKls} {H H' : OHeap} {h : Heap} {ty : FieldType} {t pc' : Nat} {L L' : List Slot} {S S' : List Value}
theorem own_in {j : Int32} {q k : Nat} (hq : own_ix j = some q) (hk : q < k) : ¬ (j < 0 ∨ k ≤ j.toNatClampNeg) := by
  obtain ⟨h1, h2⟩ := own_ix_ok hq
  rintro (h3 | h3)
  · exact h1 h3
  · omega
theorem own_ald_ok (hr : own_rep Z n K H h) (hs : own_ald ty t L S H = some (pc', L', S', H')) : ∃ (j : Int32) (a : Nat) (r : List Value) (v : Value) (cl : Cell), S = .int j :: .ref a :: r ∧ pc' = t ∧ L' = L ∧ S' = v :: r ∧ H' = H ∧ Arr Z h (n + a) cl ty ∧ ¬ (j < 0 ∨ cl.slots.size ≤ j.toNatClampNeg) ∧ cl.slots[j.toNatClampNeg]? = some (own_sh n v) := by
  unfold own_ald at hs
  split at hs <;> try cases hs
  rename_i j a r
  split at hs <;> try cases hs
  rename_i vs ha
  split at hs <;> try cases hs
  rename_i q hq
  split at hs <;> cases hs
  rename_i v hv
  obtain ⟨cl, A, h2, -⟩ := hr.2 a _ (own_arr_at ha)
  have hsz : cl.slots.size = vs.length := by rw [h2]; simp
  refine ⟨j, a, r, v, cl, rfl, rfl, rfl, rfl, rfl, A, by rw [hsz]; exact own_in hq (List.getElem?_eq_some_iff.mp hv).1, ?_⟩
  rw [(own_ix_ok hq).2, h2]
  simp [hv]
theorem own_ast_ok (hr : own_rep Z n K H h) (hs : own_ast ty t L S H = some (pc', L', S', H')) : ∃ (v w : Value) (j : Int32) (a q : Nat) (r vs : List Value) (cl : Cell), S = v :: .int j :: .ref a :: r ∧ pc' = t ∧ L' = L ∧ S' = r ∧ H' = H.set a (.inr ty, vs.set q w) ∧ H[a]? = some (.inr ty, vs) ∧ Arr Z h (n + a) cl ty ∧ cl.slots = (vs.map (own_sh n)).toArray ∧ ¬ (j < 0 ∨ cl.slots.size ≤ j.toNatClampNeg) ∧ j.toNatClampNeg = q ∧ own_nar ty v = some w := by
  unfold own_ast at hs
  split at hs <;> try cases hs
  rename_i v j a r
  split at hs <;> try cases hs
  rename_i vs ha
  split at hs <;> try cases hs
  rename_i q hq
  split at hs <;> try cases hs
  rename_i hlt
  split at hs <;> cases hs
  rename_i w hw
  obtain ⟨cl, A, h2, -⟩ := hr.2 a _ (own_arr_at ha)
  have hsz : cl.slots.size = vs.length := by rw [h2]; simp
  exact ⟨v, w, j, a, q, _, vs, cl, rfl, rfl, rfl, rfl, rfl, own_arr_at ha, A, h2, by rw [hsz]; exact own_in hq hlt, (own_ix_ok hq).2, hw⟩
theorem own_len {k : Nat} (hk : k < 2 ^ 31) : k.toInt32.toNatClampNeg = k ∧ ¬ k.toInt32 < 0 := by
  have e := len_toInt hk
  constructor
  · simp only [Int32.toNatClampNeg, e]; omega
  · rw [Int32.lt_iff_toInt_lt, e]; have : (0 : Int32).toInt = 0 := rfl
    omega
theorem own_map_prim (hp : own_prim ty = true) {vs : List Value} (hf : ∀ v ∈ vs, fits ty v = true) : vs.map (own_sh n) = vs := by
  conv => rhs; rw [← List.map_id vs]
  exact List.map_congr_left fun v hv => own_prim_sh hp (hf v hv)
theorem own_arv {a : Addr} {vs : List Value} {dv : Value} (q : own_repC Z n K h a (.inr ty, vs)) : ∃ k, Arv Z h a k ty vs.length.toInt32 vs dv := by
  obtain ⟨cl, A, h2, h3, h4, h5, h6⟩ := q
  rw [own_map_prim h5 h6] at h2
  obtain ⟨e1, e2⟩ := own_len h3
  have hsz : cl.slots.size = vs.length := by rw [h2]; simp
  have hg : ∀ i, i < vs.length → vs[i]? = some (vs.getD i dv) := fun i hi => by simp [List.getD_eq_getElem?_getD, hi]
  refine ⟨cl.cls, cl, A, rfl, by rw [hsz, e1], e2, fun i hi => ?_, fun i hi => ?_⟩
  · rw [hsz] at hi; rw [h2]; simpa using hg i hi
  · rw [hsz] at hi
    exact h6 _ (List.mem_of_getElem? (hg i hi))
theorem own_arv_inv {a : Addr} {k : ClassId} {z : Int32} {vs : List Value} {dv : Value} (hz : z.toNatClampNeg = vs.length) (hl : vs.length < 2 ^ 31) (hp : own_prim ty = true) (F : Arv Z h a k ty z vs dv) (E : Exa Z h a ("[" ++ ty.toString)) : own_repC Z n K h a (.inr ty, vs) := by
  obtain ⟨cl, A, -, h2, -, h4, h5⟩ := F
  rw [hz] at h2
  have hg : ∀ i, i < vs.length → vs[i]? = some (vs.getD i dv) := fun i hi => by simp [List.getD_eq_getElem?_getD, hi]
  have hf : ∀ v ∈ vs, fits ty v = true := fun v hv => by
    obtain ⟨i, hi, e⟩ := List.mem_iff_getElem.mp hv
    have := h5 i (by omega)
    rw [List.getD_eq_getElem?_getD, List.getElem?_eq_getElem hi] at this
    rw [← e]; exact this
  refine ⟨cl, A, ?_, hl, E, hp, hf⟩
  rw [own_map_prim hp hf]
  apply Array.ext
  · simp [h2]
  · intro i hi1 hi2
    have h7 := h4 i hi1
    rw [Array.getElem?_eq_getElem hi1] at h7
    have h8 := hg i (by omega)
    rw [List.getElem?_eq_getElem (by omega)] at h8
    simp only [List.getElem_toArray]
    exact (Option.some.inj h7).trans (Option.some.inj h8).symm
theorem own_us {vs : List Value} {p k : Nat} {dv : Value} (h : p + k ≤ vs.length) : (vs.drop p).take k = (List.range k).map fun i => vs.getD (p + i) dv := by
  apply List.ext_getElem
  · simp; omega
  · intro i h1 h2
    simp only [List.length_map, List.length_range] at h2
    simp [List.getD_eq_getElem?_getD, show p + i < vs.length by omega]
end OwnArr
section OwnMain
variable {l : Launch} {Z : State} {a0 : Array Value} {n : Nat} {P : OPrg}
set_option maxHeartbeats 4000000 in
theorem own_heap_ok (G : own_good Z a0 P) {mt : OMth} (hM : mt ∈ P.1) {d lo : Nat} {i : Instr} {t pc pc' len : Nat} {L L' : List Slot} {S S' : List Value} {H H' : OHeap} (hs : own_heap P mt d lo i t L S H = some (pc', L', S', H'))
    {p : Program} {e : Env} {R : Room} {s : State} {m : MethodId} {args : Array Value} {below : List Frame} {meth : Method} {c : Code} {T : State} {locs : List Loc} {cells slots : Nat}
    (X : Stand p l e R s m args below meth c T locs cells slots) (hx : p.tables.exec = Jvm.exec) (hZ : Z.Warmed39 s.vm) (hml : c.maxLocals = mt.ml) (hown : s.vm.findClass mt.nm.cls = some m.cls) (hnm : meth.name = mt.nm.name)
    (hd : decode c.code pc = .ok (i, len)) (ht : own_tgt pc len t i = true) (hL : L.length = mt.ml) (hbd : s.heap.size + cells = n + H.length ∨ (H = [] ∧ P.2.1 = [] ∧ P.2.2 = []))
    (hr : own_rep Z n P.2.1 H T.heap) (hf : Fr n locs) (hdf : d ≤ R.frames) (hlo : lo ≤ R.locals) (hce : cells + (H'.length - H.length) ≤ R.cells) (hsl : slots + (own_w P.2.1 H' - own_w P.2.1 H) ≤ R.slots) :
    L' = L ∧ H.length ≤ H'.length ∧ own_w P.2.1 H ≤ own_w P.2.1 H' ∧ ∃ (T' : State) (locs' : List Loc), Stand p l e R s m args below meth c T' locs' (cells + (H'.length - H.length)) (slots + (own_w P.2.1 H' - own_w P.2.1 H)) ∧ own_rep Z n P.2.1 H' T'.heap ∧ Fr n locs' ∧
      ∀ target, Steps p.tables e below (T'.setTop (own_fr n m pc' L' S')) target → Steps p.tables e below (T.setTop (own_fr n m pc L S)) target := by
  obtain ⟨GM, GK, GA⟩ := G
  obtain ⟨-, -, -, GE⟩ := GM mt hM
  have hz : (L.map (own_shS n)).toArray.size = c.maxLocals := by rw [hml, ← hL]; simp
  have ent : ∀ {x t}, own_ent mt.en x = some t → own_okE Z a0 P mt.nm x t := fun h => GE _ (own_ent_mem h)
  have same : ∀ {T' : State} {S' : List Value} {pc' : Nat}, Stand p l e R s m args below meth c T' locs cells slots → T'.heap = T.heap → (∀ target, Steps p.tables e below (T'.setTop (own_fr n m pc' L S')) target → Steps p.tables e below (T.setTop (own_fr n m pc L S)) target) →
      L = L ∧ H.length ≤ H.length ∧ own_w P.2.1 H ≤ own_w P.2.1 H ∧ ∃ (T' : State) (locs' : List Loc), Stand p l e R s m args below meth c T' locs' (cells + (H.length - H.length)) (slots + (own_w P.2.1 H - own_w P.2.1 H)) ∧ own_rep Z n P.2.1 H T'.heap ∧ Fr n locs' ∧
      ∀ target, Steps p.tables e below (T'.setTop (own_fr n m pc' L S')) target → Steps p.tables e below (T.setTop (own_fr n m pc L S)) target := by
    intro T' S' pc' X' eT st
    refine ⟨rfl, Nat.le_refl _, Nat.le_refl _, T', locs, ?_, by rw [eT]; exact hr, hf, st⟩
    rw [Nat.sub_self, Nat.sub_self]; exact X'
  have wrote : ∀ {T' : State} {S' : List Value} {pc' : Nat} {a sl : Nat} {c0 c1 : OCell}, H[a]? = some c0 → own_cw P.2.1 c1 = own_cw P.2.1 c0 → Stand p l e R s m args below meth c T' (locs ++ [⟨n + a, sl⟩]) cells slots → own_rep Z n P.2.1 (H.set a c1) T'.heap → (∀ target, Steps p.tables e below (T'.setTop (own_fr n m pc' L S')) target → Steps p.tables e below (T.setTop (own_fr n m pc L S)) target) →
      L = L ∧ H.length ≤ (H.set a c1).length ∧ own_w P.2.1 H ≤ own_w P.2.1 (H.set a c1) ∧ ∃ (T' : State) (locs' : List Loc), Stand p l e R s m args below meth c T' locs' (cells + ((H.set a c1).length - H.length)) (slots + (own_w P.2.1 (H.set a c1) - own_w P.2.1 H)) ∧ own_rep Z n P.2.1 (H.set a c1) T'.heap ∧ Fr n locs' ∧
      ∀ target, Steps p.tables e below (T'.setTop (own_fr n m pc' L S')) target → Steps p.tables e below (T.setTop (own_fr n m pc L S)) target := by
    intro T' S' pc' a sl c0 c1 h0 hw X' hr' st
    have e1 : (H.set a c1).length = H.length := List.length_set ..
    have e2 : own_w P.2.1 (H.set a c1) = own_w P.2.1 H := own_w_set h0 hw
    refine ⟨rfl, by omega, by omega, T', _, ?_, hr', Fr.snoc X' hf (Nat.le_add_right _ _), st⟩
    rw [e1, e2, Nat.sub_self, Nat.sub_self]; exact X'
  have made : ∀ {T' : State} {h' : Heap} {S' : List Value} {pc' w : Nat} {c1 : OCell}, s.heap.size + cells = n + H.length → own_cw P.2.1 c1 = w → Stand p l e R s m args below meth c T' locs (cells + 1) (slots + w) → T'.heap = h' → Ext T.heap h' → T.heap.size < h'.size → own_repC Z n P.2.1 h' T.heap.size c1 → (∀ target, Steps p.tables e below (T'.setTop (own_fr n m pc' L (.ref H.length :: S'))) target → Steps p.tables e below (T.setTop (own_fr n m pc L S)) target) →
      L = L ∧ H.length ≤ (H ++ [c1]).length ∧ own_w P.2.1 H ≤ own_w P.2.1 (H ++ [c1]) ∧ ∃ (T' : State) (locs' : List Loc), Stand p l e R s m args below meth c T' locs' (cells + ((H ++ [c1]).length - H.length)) (slots + (own_w P.2.1 (H ++ [c1]) - own_w P.2.1 H)) ∧ own_rep Z n P.2.1 (H ++ [c1]) T'.heap ∧ Fr n locs' ∧
      ∀ target, Steps p.tables e below (T'.setTop (own_fr n m pc' L (.ref H.length :: S'))) target → Steps p.tables e below (T.setTop (own_fr n m pc L S)) target := by
    intro T' h' S' pc' w c1 hb hw X' eT E hlt hc st
    have e1 : (H ++ [c1]).length = H.length + 1 := by simp
    have e2 := own_w_app (K := P.2.1) (H := H) c1
    have hsz := X'.heapSize
    have h0 := hr.1
    refine ⟨rfl, by omega, by omega, T', locs, ?_, ?_, hf, st⟩
    · rw [e1, e2, hw, Nat.add_sub_cancel_left, Nat.add_sub_cancel_left]; exact X'
    · rw [eT]
      refine own_rep_push hr E (by rw [eT] at hsz; omega) ?_
      rw [← h0]; exact hc
  have cap : ∀ {c1 : OCell}, H' = H ++ [c1] → cells + 1 ≤ R.cells ∧ slots + own_cw P.2.1 c1 ≤ R.slots := by
    rintro c1 rfl
    rw [own_w_app] at hsl
    rw [List.length_append] at hce
    simp only [List.length_cons, List.length_nil] at hce
    omega
  cases i with
  | getfield x =>
    obtain ⟨rfl, rfl⟩ := own_t ht
    simp only [own_heap] at hs
    split at hs <;> try cases hs
    rename_i k j u he
    split at hs <;> try cases hs
    rename_i a r
    split at hs <;> try cases hs
    rename_i vs ho
    split at hs <;> cases hs
    rename_i v hv
    obtain ⟨kc, f, R0, h1, h2, h3, h4, -⟩ := ent he
    obtain ⟨kc', g1, -, -, g4⟩ := hr.2 a _ (own_obj_at ho)
    cases h1.symm.trans g1
    obtain ⟨T', X', eT, st⟩ := getF X hx hZ hown (host := "") (Or.inl h3) h4 rfl (g4 j f v h2 hv) (g := own_fr n m pc L (.ref a :: r)) rfl rfl hd
    exact same X' eT st
  | putfield x =>
    obtain ⟨rfl, rfl⟩ := own_t ht
    simp only [own_heap] at hs
    split at hs <;> try cases hs
    rename_i k j he
    split at hs <;> try cases hs
    rename_i v a r
    split at hs <;> try cases hs
    rename_i vs ho
    split at hs <;> try cases hs
    rename_i kc hk
    split at hs <;> try cases hs
    rename_i f hf'
    split at hs <;> cases hs
    rename_i w hw
    obtain ⟨kc', f', R0, h1, h2, h3, h4, h5⟩ := ent he
    cases hk.symm.trans h1
    cases hf'.symm.trans h2
    obtain ⟨kc', g1, g2, g3, g4⟩ := hr.2 a _ (own_obj_at ho)
    cases hk.symm.trans g1
    obtain ⟨w1, w2, w3, -⟩ := GK k kc hk
    have hj : j < vs.length := by rw [g3]; exact (List.getElem?_eq_some_iff.mp hf').1
    obtain ⟨n1, n2, -⟩ := own_nar_ok (n := n) hw
    obtain ⟨T', h', X', eT, W, st⟩ := putFN X hx hZ hown h3 h4 rfl (g4 j f _ hf' (List.getElem?_eq_getElem hj)) g2 ((h5 rfl).imp id fun q => ⟨q.1, q.2.1, hnm.trans q.2.2⟩) w1 (w3 f (List.mem_of_getElem? hf')).2 n1 n2 (g := own_fr n m pc L (v :: .ref a :: _)) rfl rfl hd
    exact wrote (own_obj_at ho) rfl X' (by rw [eT]; exact own_rep_fld GK hr (own_obj_at ho) hk hf' W) st
  | new x =>
    obtain ⟨rfl, rfl⟩ := own_t ht
    simp only [own_heap] at hs
    split at hs <;> try cases hs
    rename_i k j u he
    split at hs <;> cases hs
    rename_i kc hk
    obtain ⟨kc', h1, h2⟩ := ent he
    cases hk.symm.trans h1
    obtain ⟨w1, w2, w3, -⟩ := GK k kc hk
    have hw : own_cw P.2.1 ((.inl k, kc.2.2.map fun f => defaultValue f.2.2.2) : OCell) = kc.2.1 := by simp [own_cw, hk]
    obtain ⟨hc1, hc2⟩ := cap rfl
    rw [hw] at hc2
    obtain ⟨T', h', X', eT, E, A, D, -, st⟩ := newO X hx hZ hown h2 w1 w2 rfl (g := own_fr n m pc L S) rfl hd hc1 hc2
    refine made (hbd.resolve_right fun q => by rw [q.2.1] at hk; simp at hk) hw X' eT E A.lt ⟨kc, hk, A, by simp, fun j f v e1 e2 => ?_⟩ ?_
    · obtain ⟨l1, t1⟩ := w3 f (List.mem_of_getElem? e1)
      rw [List.getElem?_map, e1] at e2
      cases e2
      rw [own_default]
      exact D l1 t1
    · rw [hr.1] at st; exact st
  | newarray ty =>
    obtain ⟨rfl, rfl⟩ := own_t ht
    simp only [own_heap] at hs
    split at hs <;> try cases hs
    rename_i z r
    split at hs <;> try cases hs
    rename_i q hq
    split at hs <;> cases hs
    rename_i hA
    obtain ⟨hq1, hq2⟩ := own_ix_ok hq
    obtain ⟨a1, a2⟩ := GA _ hA.1
    have hw : own_cw P.2.1 ((.inr (newarray.typeOf ty), List.replicate q (defaultValue (newarray.typeOf ty))) : OCell) = q := by simp [own_cw]
    obtain ⟨hc1, hc2⟩ := cap rfl
    rw [hw] at hc2
    obtain ⟨T', h', cA, X', eT, E, A, Ex, st⟩ := newPE X hx hZ a1 rfl (g := own_fr n m pc L (.int z :: r)) rfl hd rfl hq1 (cap := q) (Nat.le_of_eq hq2) hA.2 hc1 hc2 rfl
    refine made (hbd.resolve_right fun q => by have := hA.1; rw [q.2.2] at this; simp at this) hw X' eT E Ex.lt ⟨_, A, ?_, ?_, Ex, a2, fun v hv => ?_⟩ ?_
    · simp [newA, hq2, own_default]
    · rw [List.length_replicate]; omega
    · rw [List.eq_of_mem_replicate hv]; exact own_fit_default a2
    · rw [hr.1] at st; exact st
  | arraylength =>
    obtain ⟨rfl, rfl⟩ := own_t ht
    simp only [own_heap] at hs
    split at hs <;> try cases hs
    rename_i a r
    split at hs <;> cases hs
    rename_i ty vs ha
    obtain ⟨cl, A, h2, -⟩ := hr.2 a _ ha
    have hsz : cl.slots.size = vs.length := by rw [h2]; simp
    exact same X rfl fun target k => X.arraylength hx A.1 (State.isArrayOf_alike hZ.alike A.2.1) (g := own_fr n m pc L (.ref a :: r)) rfl rfl hd target (by rw [hsz]; exact k)
  | iaload =>
    obtain ⟨rfl, rfl⟩ := own_t ht
    obtain ⟨j, a, r, v, cl, rfl, rfl, rfl, rfl, rfl, A, h1, h2⟩ := own_ald_ok hr hs
    exact same X rfl fun target k => X.iaload hx A.1 (State.isArrayOf_alike hZ.alike A.2.1) A.2.2 h1 h2 (g := own_fr n m pc L' (.int j :: .ref a :: r)) rfl rfl hd target k
  | laload =>
    obtain ⟨rfl, rfl⟩ := own_t ht
    obtain ⟨j, a, r, v, cl, rfl, rfl, rfl, rfl, rfl, A, h1, h2⟩ := own_ald_ok hr hs
    exact same X rfl fun target k => X.laload hx A.1 (State.isArrayOf_alike hZ.alike A.2.1) A.2.2 h1 h2 (g := own_fr n m pc L' (.int j :: .ref a :: r)) rfl rfl hd target k
  | caload =>
    obtain ⟨rfl, rfl⟩ := own_t ht
    obtain ⟨j, a, r, v, cl, rfl, rfl, rfl, rfl, rfl, A, h1, h2⟩ := own_ald_ok hr hs
    exact same X rfl fun target k => X.caload hx A.1 (State.isArrayOf_alike hZ.alike A.2.1) A.2.2 h1 h2 (g := own_fr n m pc L' (.int j :: .ref a :: r)) rfl rfl hd target k
  | baload =>
    obtain ⟨rfl, rfl⟩ := own_t ht
    obtain ⟨j, a, r, v, cl, rfl, rfl, rfl, rfl, rfl, A, h1, h2⟩ := own_ald_ok hr hs
    exact same X rfl fun target k => X.baloadBytes hx A.1 (State.isArrayOf_alike hZ.alike A.2.1) A.2.2 h1 h2 (g := own_fr n m pc L' (.int j :: .ref a :: r)) rfl rfl hd target k
  | iastore =>
    obtain ⟨rfl, rfl⟩ := own_t ht
    obtain ⟨v, w, j, a, q, r, vs, cl, rfl, rfl, rfl, rfl, rfl, ha, A, h0, h1, rfl, h2⟩ := own_ast_ok hr hs
    cases v <;> cases h2
    rename_i z
    obtain ⟨T', h', X', eT, W, st⟩ := stI X hx hZ rfl A h1 (g := own_fr n m pc L' (.int z :: .int j :: .ref a :: S')) rfl rfl hd
    exact wrote ha (by simp [own_cw]) X' (by rw [eT]; exact own_rep_elem hr ha A h0 (own_nar_ok (n := n) (v := .int z) rfl).2.2 W) st
  | lastore =>
    obtain ⟨rfl, rfl⟩ := own_t ht
    obtain ⟨v, w, j, a, q, r, vs, cl, rfl, rfl, rfl, rfl, rfl, ha, A, h0, h1, rfl, h2⟩ := own_ast_ok hr hs
    cases v <;> cases h2
    rename_i z
    obtain ⟨T', h', X', eT, W, st⟩ := stJ X hx hZ rfl A h1 (g := own_fr n m pc L' (.long z :: .int j :: .ref a :: S')) rfl rfl hd
    exact wrote ha (by simp [own_cw]) X' (by rw [eT]; exact own_rep_elem hr ha A h0 (own_nar_ok (n := n) (v := .long z) rfl).2.2 W) st
  | castore =>
    obtain ⟨rfl, rfl⟩ := own_t ht
    obtain ⟨v, w, j, a, q, r, vs, cl, rfl, rfl, rfl, rfl, rfl, ha, A, h0, h1, rfl, h2⟩ := own_ast_ok hr hs
    cases v <;> cases h2
    rename_i z
    obtain ⟨T', h', X', eT, W, st⟩ := stC X hx hZ rfl A h1 (g := own_fr n m pc L' (.int z :: .int j :: .ref a :: S')) rfl rfl hd
    exact wrote ha (by simp [own_cw]) X' (by rw [eT]; exact own_rep_elem hr ha A h0 (own_nar_ok (n := n) (v := .int z) rfl).2.2 W) st
  | bastore =>
    obtain ⟨rfl, rfl⟩ := own_t ht
    obtain ⟨v, w, j, a, q, r, vs, cl, rfl, rfl, rfl, rfl, rfl, ha, A, h0, h1, rfl, h2⟩ := own_ast_ok hr hs
    cases v <;> cases h2
    rename_i z
    obtain ⟨T', h', X', eT, W, st⟩ := stB X hx hZ rfl A h1 (g := own_fr n m pc L' (.int z :: .int j :: .ref a :: S')) rfl rfl hd
    exact wrote ha (by simp [own_cw]) X' (by rw [eT]; exact own_rep_elem hr ha A h0 (own_nar_ok (n := n) (v := .int z) rfl).2.2 W) st
  | ldc x =>
    obtain ⟨rfl, rfl⟩ := own_t ht
    simp only [own_heap] at hs
    split at hs <;> cases hs
    rename_i he
    exact same X rfl fun target k => X.ldcInt hx hown (mvT hZ (ent he)) (g := own_fr n m pc L S) rfl hd target k
  | ldc_w x =>
    obtain ⟨rfl, rfl⟩ := own_t ht
    simp only [own_heap] at hs
    split at hs <;> cases hs
    rename_i he
    exact same X rfl fun target k => X.ldcwInt hx hown (mvT hZ (ent he)) (g := own_fr n m pc L S) rfl hd target k
  | ldc2_w x =>
    obtain ⟨rfl, rfl⟩ := own_t ht
    simp only [own_heap] at hs
    split at hs <;> cases hs
    rename_i he
    exact same X rfl fun target k => X.ldc2Long hx hown (mvT hZ (ent he)) (g := own_fr n m pc L S) rfl hd target k
  | checkcast x =>
    obtain ⟨rfl, rfl⟩ := own_t ht
    simp only [own_heap] at hs
    split at hs <;> try cases hs
    rename_i he
    split at hs <;> try cases hs
    rename_i a r
    split at hs <;> cases hs
    rename_i vs ha
    obtain ⟨cl, A, h2, -, Ex, -⟩ := hr.2 a _ (own_arr_at ha)
    obtain ⟨T', X', eT, st⟩ := castY X hx hZ hown (ent he) rfl (Ins.self (show Exa Z T.heap (n + a) "[I" from Ex)) (g := own_fr n m pc L (.ref a :: r)) rfl rfl hd
    exact same X' eT st
  | invokespecial x =>
    obtain ⟨rfl, rfl⟩ := own_t ht
    simp only [own_heap] at hs
    split at hs <;> try cases hs
    rename_i he
    split at hs <;> try cases hs
    rename_i a r
    split at hs <;> cases hs
    rename_i hq
    obtain ⟨w1, w2, w3⟩ := ent he
    obtain ⟨T', X', eT, st⟩ := initO X hx hZ hown w1 w2 w3 rfl (g := own_fr n m pc L (.ref a :: S')) rfl hz rfl hd (by omega) (W := own_wt S') (by show 2 * 0 + _ ≤ _; rw [own_wt_sh]; omega) (by omega)
    exact same X' eT st
  | invokestatic x =>
    obtain ⟨rfl, rfl⟩ := own_t ht
    simp only [own_heap] at hs
    split at hs <;> try cases hs
    rename_i he
    split at hs <;> try cases hs
    rename_i nn dp b sp a r
    split at hs <;> try cases hs
    rename_i vs ha
    split at hs <;> try cases hs
    rename_i vd hb'
    split at hs <;> try cases hs
    rename_i k hn
    split at hs <;> try cases hs
    rename_i q hq
    split at hs <;> try cases hs
    rename_i p' hp
    split at hs <;> cases hs
    rename_i hh
    obtain ⟨⟨r1, r2⟩, r3, r4⟩ := hh
    obtain ⟨w1, w2, w3, w4⟩ := ent he
    obtain ⟨n1, n2⟩ := own_ix_ok hn
    obtain ⟨q1, q2⟩ := own_ix_ok hq
    obtain ⟨p1, p2⟩ := own_ix_ok hp
    have ca := hr.2 a _ (own_arr_at ha)
    have cb := hr.2 b _ (own_arr_at hb')
    obtain ⟨ka, Fa⟩ := own_arv (dv := .int 0) ca
    obtain ⟨kb, Fb⟩ := own_arv (dv := .int 0) cb
    obtain ⟨-, -, -, la, -⟩ := ca
    obtain ⟨-, -, -, lb, Eb, pb, fb⟩ := cb
    obtain ⟨sa, -⟩ := own_len la
    obtain ⟨sb, -⟩ := own_len lb
    obtain ⟨T', h', L2, X', eT, N', Kp, F', st⟩ := cpA X hx hZ hown w1 w2 w3 w4 rfl Fa Fb (Or.inl ⟨rfl, rfl⟩) p1 q1 n1 (by rw [sa, p2, n2]; exact r3) (by rw [sb, q2, n2]; exact r4) rfl (by rw [q2, n2]; exact r4) hf (Nat.le_add_right n b) (g := own_fr n m pc L (.int nn :: .int dp :: .ref b :: .int sp :: .ref a :: S')) rfl hz rfl hd (by omega) (W := own_wt S') (by show 2 * 0 + _ ≤ _; rw [own_wt_sh]; omega) (by omega)
    have ha0 := own_arr_at hb'
    have hb := hbd.resolve_right fun q => by rw [q.1] at ha0; simp at ha0
    rw [p2, n2, q2, ← own_us r3] at F'
    have hlen : (vd.take q ++ (vs.drop p').take k ++ vd.drop (q + k)).length = vd.length := by
      simp only [List.length_append, List.length_take, List.length_drop]; omega
    have e1 : (H.set b ((.inr .int, vd.take q ++ (vs.drop p').take k ++ vd.drop (q + k)) : OCell)).length = H.length := List.length_set ..
    have e2 : own_w P.2.1 (H.set b ((.inr .int, vd.take q ++ (vs.drop p').take k ++ vd.drop (q + k)) : OCell)) = own_w P.2.1 H := own_w_set ha0 (by simp only [own_cw]; exact hlen)
    refine ⟨rfl, by omega, by omega, T', L2, ?_, ?_, N', st⟩
    · rw [e1, e2, Nat.sub_self, Nat.sub_self]; exact X'
    · rw [eT]
      have hsz : h'.size = T.heap.size := by
        have u1 := X'.heapSize
        have u2 := Kp.1
        have u3 := hr.1
        rw [eT] at u1; omega
      refine own_rep_set hr ha0 hsz (fun b' d' hb2 hd2 => own_repC_keep Kp (fun e => hb2 (Nat.add_left_cancel e)) (hr.2 b' d' hd2)) (own_arv_inv (by rw [hlen]; exact sb) (by rw [hlen]; exact lb) pb F' (Eb.keep Kp))
  | invokevirtual x =>
    obtain ⟨rfl, rfl⟩ := own_t ht
    simp only [own_heap] at hs
    split at hs <;> try cases hs
    rename_i he
    split at hs <;> try cases hs
    rename_i a r
    split at hs <;> try cases hs
    rename_i vs ha
    split at hs <;> cases hs
    rename_i hq
    obtain ⟨w1, w2, w3, w4, w5, w6⟩ := ent he
    have ca := hr.2 a _ (own_arr_at ha)
    obtain ⟨ka, Fa⟩ := own_arv (dv := .int 0) ca
    obtain ⟨-, -, -, la, Ea, pa, fa⟩ := ca
    obtain ⟨sa, -⟩ := own_len la
    have hw : own_cw P.2.1 ((.inr .int, vs) : OCell) = vs.length := rfl
    obtain ⟨hc1, hc2⟩ := cap rfl
    rw [hw] at hc2
    obtain ⟨T', h', X', eT, E, F', E', st⟩ := cloneH X hx hZ hown w1 w2 w3 w4 w5 w6 rfl Fa.arh (show Exa Z T.heap (n + a) "[I" from Ea) (g := own_fr n m pc L (.ref a :: r)) rfl hz rfl hd (by omega) (W := own_wt r) (cap := vs.length) (by show 2 * 0 + _ ≤ _; rw [own_wt_sh]; omega) (by omega) (Nat.le_of_eq sa) hc1 hc2
    refine made (hbd.resolve_right fun q => by have := own_arr_at ha; rw [q.1] at this; simp at this) hw X' eT E E'.lt (own_arv_inv sa la pa F' E') ?_
    rw [hr.1] at st; exact st
  | _ => exact nomatch (show (none : Option OSt) = some _ from hs)
/-! ### how a run grows -/
theorem own_sto_len {L M : List Slot} {i : Nat} {v : Value} (h : own_sto L i v = some M) : M.length = L.length := (own_sto_ok (n := 0) h).2
theorem own_pure_len {i : Instr} {t pc pc' : Nat} {L L' : List Slot} {S S' : List Value} (e1 : own_pure i t pc L S = some (pc', L', S')) : L'.length = L.length := by
  have st : ∀ {k t : Nat} {v : Value} {r : List Value}, (match own_sto L k v with | some M => some (t, M, r) | none => none : Option OFr) = some (pc', L', S') → L'.length = L.length := by
    intro k t v r h
    split at h <;> cases h
    rename_i hv; exact own_sto_len hv
  have ldI : ∀ {k}, own_ldI k t L S = some (pc', L', S') → L'.length = L.length := by intro k h; unfold own_ldI at h; split at h <;> cases h; rfl
  have ldJ : ∀ {k}, own_ldJ k t L S = some (pc', L', S') → L'.length = L.length := by intro k h; unfold own_ldJ at h; split at h <;> cases h; rfl
  have ldA : ∀ {k}, own_ldA k t L S = some (pc', L', S') → L'.length = L.length := by intro k h; unfold own_ldA at h; split at h <;> cases h <;> rfl
  have stI : ∀ {k}, own_stI k t L S = some (pc', L', S') → L'.length = L.length := by intro k h; unfold own_stI at h; split at h <;> first | exact st h | cases h
  have stJ : ∀ {k}, own_stJ k t L S = some (pc', L', S') → L'.length = L.length := by intro k h; unfold own_stJ at h; split at h <;> first | exact st h | cases h
  have stA : ∀ {k}, own_stA k t L S = some (pc', L', S') → L'.length = L.length := by intro k h; unfold own_stA at h; split at h <;> first | exact st h | cases h
  have b32 : ∀ {f}, own_b32 f t L S = some (pc', L', S') → L'.length = L.length := by intro k h; unfold own_b32 at h; split at h <;> cases h; rfl
  have d32 : ∀ {f}, own_d32 f t L S = some (pc', L', S') → L'.length = L.length := by intro k h; unfold own_d32 at h; split at h <;> try cases h
                                                                                      split at h <;> cases h; rfl
  have u32 : ∀ {f}, own_u32 f t L S = some (pc', L', S') → L'.length = L.length := by intro k h; unfold own_u32 at h; split at h <;> cases h; rfl
  have b64 : ∀ {f}, own_b64 f t L S = some (pc', L', S') → L'.length = L.length := by intro k h; unfold own_b64 at h; split at h <;> cases h; rfl
  have d64 : ∀ {f}, own_d64 f t L S = some (pc', L', S') → L'.length = L.length := by intro k h; unfold own_d64 at h; split at h <;> try cases h
                                                                                      split at h <;> cases h; rfl
  have s64 : ∀ {f}, own_s64 f t L S = some (pc', L', S') → L'.length = L.length := by intro k h; unfold own_s64 at h; split at h <;> cases h; rfl
  have u64 : ∀ {f}, own_u64 f t L S = some (pc', L', S') → L'.length = L.length := by intro k h; unfold own_u64 at h; split at h <;> cases h; rfl
  have br : ∀ {b : Bool} {r : List Value}, own_br b t pc L r = some (pc', L', S') → L'.length = L.length := by intro b r h; unfold own_br at h; split at h <;> cases h <;> rfl
  unfold own_pure at e1
  split at e1 <;> first
    | exact ldI e1 | exact ldJ e1 | exact ldA e1 | exact stI e1 | exact stJ e1 | exact stA e1 | exact b32 e1 | exact d32 e1 | exact u32 e1 | exact b64 e1 | exact d64 e1 | exact s64 e1 | exact u64 e1
    | (cases e1; rfl)
    | (cases e1; done)
    | (split at e1 <;> first
        | exact st e1 | exact br e1 | (cases e1; rfl) | (cases e1; done)
        | (split at e1 <;> first | (cases e1; rfl) | cases e1 | exact st e1))
theorem own_heap_mono {mt : OMth} {d lo : Nat} {i : Instr} {t pc' : Nat} {L L' : List Slot} {S S' : List Value} {H H' : OHeap} (hs : own_heap P mt d lo i t L S H = some (pc', L', S', H')) : L' = L ∧ H.length ≤ H'.length ∧ own_w P.2.1 H ≤ own_w P.2.1 H' := by
  have app : ∀ c : OCell, H.length ≤ (H ++ [c]).length ∧ own_w P.2.1 H ≤ own_w P.2.1 (H ++ [c]) := fun c => ⟨by simp, by rw [own_w_app]; exact Nat.le_add_right _ _⟩
  have set : ∀ {a : Nat} {c c' : OCell}, H[a]? = some c → own_cw P.2.1 c' = own_cw P.2.1 c → H.length ≤ (H.set a c').length ∧ own_w P.2.1 H ≤ own_w P.2.1 (H.set a c') := fun h1 h2 => ⟨by simp, by rw [own_w_set h1 h2]; exact Nat.le_refl _⟩
  have ald : ∀ {ty}, own_ald ty t L S H = some (pc', L', S', H') → L' = L ∧ H.length ≤ H'.length ∧ own_w P.2.1 H ≤ own_w P.2.1 H' := by
    intro ty h
    unfold own_ald at h
    split at h <;> try cases h
    split at h <;> try cases h
    split at h <;> try cases h
    split at h <;> cases h
    exact ⟨rfl, Nat.le_refl _, Nat.le_refl _⟩
  have ast : ∀ {ty}, own_ast ty t L S H = some (pc', L', S', H') → L' = L ∧ H.length ≤ H'.length ∧ own_w P.2.1 H ≤ own_w P.2.1 H' := by
    intro ty h
    unfold own_ast at h
    split at h <;> try cases h
    split at h <;> try cases h
    rename_i vs ha
    split at h <;> try cases h
    split at h <;> try cases h
    split at h <;> cases h
    exact ⟨rfl, set (own_arr_at ha) (by simp [own_cw])⟩
  cases i with
  | getfield x =>
    simp only [own_heap] at hs
    split at hs <;> try cases hs
    split at hs <;> try cases hs
    split at hs <;> try cases hs
    split at hs <;> cases hs
    exact ⟨rfl, Nat.le_refl _, Nat.le_refl _⟩
  | putfield x =>
    simp only [own_heap] at hs
    split at hs <;> try cases hs
    split at hs <;> try cases hs
    split at hs <;> try cases hs
    rename_i vs ho
    split at hs <;> try cases hs
    split at hs <;> try cases hs
    split at hs <;> cases hs
    exact ⟨rfl, set (own_obj_at ho) rfl⟩
  | new x =>
    simp only [own_heap] at hs
    split at hs <;> try cases hs
    split at hs <;> cases hs
    exact ⟨rfl, app _⟩
  | newarray x =>
    simp only [own_heap] at hs
    split at hs <;> try cases hs
    split at hs <;> try cases hs
    split at hs <;> cases hs
    exact ⟨rfl, app _⟩
  | arraylength =>
    simp only [own_heap] at hs
    split at hs <;> try cases hs
    split at hs <;> cases hs
    exact ⟨rfl, Nat.le_refl _, Nat.le_refl _⟩
  | iaload => exact ald hs
  | laload => exact ald hs
  | caload => exact ald hs
  | baload => exact ald hs
  | iastore => exact ast hs
  | lastore => exact ast hs
  | castore => exact ast hs
  | bastore => exact ast hs
  | ldc x => simp only [own_heap] at hs; split at hs <;> cases hs; exact ⟨rfl, Nat.le_refl _, Nat.le_refl _⟩
  | ldc_w x => simp only [own_heap] at hs; split at hs <;> cases hs; exact ⟨rfl, Nat.le_refl _, Nat.le_refl _⟩
  | ldc2_w x => simp only [own_heap] at hs; split at hs <;> cases hs; exact ⟨rfl, Nat.le_refl _, Nat.le_refl _⟩
  | checkcast x =>
    simp only [own_heap] at hs
    split at hs <;> try cases hs
    split at hs <;> try cases hs
    split at hs <;> cases hs
    exact ⟨rfl, Nat.le_refl _, Nat.le_refl _⟩
  | invokespecial x =>
    simp only [own_heap] at hs
    split at hs <;> try cases hs
    split at hs <;> try cases hs
    split at hs <;> cases hs
    exact ⟨rfl, Nat.le_refl _, Nat.le_refl _⟩
  | invokestatic x =>
    simp only [own_heap] at hs
    split at hs <;> try cases hs
    split at hs <;> try cases hs
    split at hs <;> try cases hs
    split at hs <;> try cases hs
    rename_i vd hb'
    split at hs <;> try cases hs
    split at hs <;> try cases hs
    split at hs <;> try cases hs
    split at hs <;> cases hs
    rename_i hh
    refine ⟨rfl, set (own_arr_at hb') ?_⟩
    simp only [own_cw, List.length_append, List.length_take, List.length_drop]; omega
  | invokevirtual x =>
    simp only [own_heap] at hs
    split at hs <;> try cases hs
    split at hs <;> try cases hs
    split at hs <;> try cases hs
    split at hs <;> cases hs
    exact ⟨rfl, app _⟩
  | _ => exact nomatch (show (none : Option OSt) = some _ from hs)
theorem own_step_mono {mt : OMth} {d lo : Nat} {i : Instr} {t pc pc' : Nat} {L L' : List Slot} {S S' : List Value} {H H' : OHeap} (hs : own_step P mt d lo i t pc L S H = some (pc', L', S', H')) : L'.length = L.length ∧ H.length ≤ H'.length ∧ own_w P.2.1 H ≤ own_w P.2.1 H' := by
  unfold own_step at hs
  split at hs
  · rename_i e1
    cases hs
    exact ⟨own_pure_len e1, Nat.le_refl _, Nat.le_refl _⟩
  · obtain ⟨rfl, h1, h2⟩ := own_heap_mono hs
    exact ⟨rfl, h1, h2⟩
theorem own_ret_none {mt : OMth} {i : Instr} {S : List Value} {v : Option Value} (h : own_ret mt i S = some v) (hr : mt.rt = none) : v = none := by
  unfold own_ret at h
  rw [hr] at h
  split at h <;> try cases h
  all_goals (split at h <;> first | (cases h; rfl) | (cases h; done))
theorem own_exec_mono : ∀ (q i d lo pc : Nat) (mt : OMth) (L : List Slot) (S : List Value) (H : OHeap) (v : Option Value) (H' : OHeap), P.1[i]? = some mt → own_exec P q i d lo pc L S H = some (v, H') → H.length ≤ H'.length ∧ own_w P.2.1 H ≤ own_w P.2.1 H' ∧ (mt.rt = none → v = none) := by
  intro q
  induction q with
  | zero => intro i d lo pc mt L S H v H' _ h; cases h
  | succ q ih =>
    intro i d lo pc mt L S H v H' hi h
    simp only [own_exec, hi] at h
    split at h
    · cases h
    · rename_i ins t hat
      split at h
      · rename_i w hw
        cases h
        exact ⟨Nat.le_refl _, Nat.le_refl _, own_ret_none hw⟩
      · split at h
        · rename_i j as r hc
          split at h
          · cases h
          · rename_i mj hj
            split at h
            · split at h
              · rename_i v1 H1 he
                obtain ⟨a1, a2, -⟩ := ih j _ _ _ mj _ _ _ _ _ hj he
                obtain ⟨b1, b2, b3⟩ := ih i _ _ _ mt _ _ _ _ _ hi h
                exact ⟨Nat.le_trans a1 b1, Nat.le_trans a2 b2, b3⟩
              · cases h
            · cases h
        · split at h
          · rename_i pc' L' S' H1 hs
            obtain ⟨-, a1, a2⟩ := own_step_mono hs
            obtain ⟨b1, b2, b3⟩ := ih i _ _ _ mt _ _ _ _ _ hi h
            exact ⟨Nat.le_trans a1 b1, Nat.le_trans a2 b2, b3⟩
          · cases h
/-! ### a program that makes nothing -/
theorem own_heap_nil (hK : P.2.1 = []) (hA : P.2.2 = []) {mt : OMth} {d lo : Nat} {i : Instr} {t pc' : Nat} {L L' : List Slot} {S S' : List Value} {H' : OHeap} (hs : own_heap P mt d lo i t L S [] = some (pc', L', S', H')) : H' = [] := by
  have arr : ∀ {a ty vs}, own_arr [] a ty = some vs → False := fun h => by simpa using own_arr_at h
  have obj : ∀ {a k vs}, own_obj [] a k = some vs → False := fun h => by simpa using own_obj_at h
  have ald : ∀ {ty}, own_ald ty t L S [] = some (pc', L', S', H') → H' = [] := by
    intro ty h
    unfold own_ald at h
    split at h <;> try cases h
  have ast : ∀ {ty}, own_ast ty t L S [] = some (pc', L', S', H') → H' = [] := by
    intro ty h
    unfold own_ast at h
    split at h <;> try cases h
  cases i with
  | getfield x =>
    simp only [own_heap] at hs
    split at hs <;> try cases hs
    split at hs <;> try cases hs
  | putfield x =>
    simp only [own_heap] at hs
    split at hs <;> try cases hs
    split at hs <;> try cases hs
  | new x =>
    simp only [own_heap, hK] at hs
    split at hs <;> try cases hs
  | newarray x =>
    simp only [own_heap, hA] at hs
    split at hs <;> try cases hs
    split at hs <;> try cases hs
  | arraylength =>
    simp only [own_heap] at hs
    split at hs <;> try cases hs
  | iaload => exact ald (ty := .int) hs
  | laload => exact ald (ty := .long) hs
  | caload => exact ald (ty := .char) hs
  | baload => exact ald (ty := .byte) hs
  | iastore => exact ast (ty := .int) hs
  | lastore => exact ast (ty := .long) hs
  | castore => exact ast (ty := .char) hs
  | bastore => exact ast (ty := .byte) hs
  | ldc x => simp only [own_heap] at hs; split at hs <;> cases hs; rfl
  | ldc_w x => simp only [own_heap] at hs; split at hs <;> cases hs; rfl
  | ldc2_w x => simp only [own_heap] at hs; split at hs <;> cases hs; rfl
  | checkcast x =>
    simp only [own_heap] at hs
    split at hs <;> try cases hs
    split at hs <;> try cases hs
  | invokespecial x =>
    simp only [own_heap] at hs
    split at hs <;> try cases hs
    split at hs <;> try cases hs
    split at hs <;> cases hs
    rfl
  | invokestatic x =>
    simp only [own_heap] at hs
    split at hs <;> try cases hs
    split at hs <;> try cases hs
  | invokevirtual x =>
    simp only [own_heap] at hs
    split at hs <;> try cases hs
    split at hs <;> try cases hs
  | _ => exact nomatch (show (none : Option OSt) = some _ from hs)
theorem own_exec_nil (hK : P.2.1 = []) (hA : P.2.2 = []) : ∀ (q i d lo pc : Nat) (L : List Slot) (S : List Value) {v : Option Value} (H' : OHeap), own_exec P q i d lo pc L S [] = some (v, H') → H' = [] := by
  intro q
  induction q with
  | zero => intro i d lo pc L S v H' h; cases h
  | succ q ih =>
    intro i d lo pc L S v H' h
    simp only [own_exec] at h
    split at h
    · cases h
    · split at h
      · cases h
      · split at h
        · cases h; rfl
        · split at h
          · split at h
            · cases h
            · split at h
              · split at h
                · rename_i he
                  cases ih _ _ _ _ _ _ _ he
                  exact ih _ _ _ _ _ _ _ h
                · cases h
              · cases h
          · split at h
            · rename_i hs
              unfold own_step at hs
              split at hs
              · cases hs; exact ih _ _ _ _ _ _ _ h
              · cases own_heap_nil hK hA hs
                exact ih _ _ _ _ _ _ _ h
            · cases h
/-! ### the run is the model's -/
def own_Snd (l : Launch) (Z : State) (n : Nat) (P : OPrg) (q : Nat) : Prop :=
  ∀ (i d lo pc : Nat) (mt : OMth) (L : List Slot) (S : List Value) (H : OHeap) (v : Option Value) (H' : OHeap), P.1[i]? = some mt → own_exec P q i d lo pc L S H = some (v, H') → L.length = mt.ml →
  ∀ (p : Program) (e : Env) (R : Room) (s : State) (m : MethodId) (args : Array Value) (below : List Frame) (meth : Method) (c : Code) (T : State) (locs : List Loc) (cells slots : Nat),
    Stand p l e R s m args below meth c T locs cells slots → p.tables.exec = Jvm.exec → Z.Warmed39 s.vm → c.code = mt.bs → c.maxLocals = mt.ml → s.vm.findClass mt.nm.cls = some m.cls → meth.sig.returnType = mt.rt → meth.name = mt.nm.name → (s.heap.size + cells = n + H.length ∨ (H = [] ∧ P.2.1 = [] ∧ P.2.2 = [])) →
    own_rep Z n P.2.1 H T.heap → Fr n locs → d ≤ R.frames → lo ≤ R.locals → cells + (H'.length - H.length) ≤ R.cells → slots + (own_w P.2.1 H' - own_w P.2.1 H) ≤ R.slots →
    ∃ (T' : State) (locs' : List Loc), Stand p l e R s m args below meth c T' locs' (cells + (H'.length - H.length)) (slots + (own_w P.2.1 H' - own_w P.2.1 H)) ∧ own_rep Z n P.2.1 H' T'.heap ∧ Fr n locs' ∧
      ∀ fs : List Frame, (∀ (f : JFrame) (acts : List Action), f.method = m → f.locked = none → f.entered = [] → (doReturn e (T'.setTop f) acts (v.map (own_sh n))).1 = T'.setFrames fs) → Steps p.tables e below (T.setTop (own_fr n m pc L S)) (T'.setFrames fs)
theorem own_met (G : own_good Z a0 P) {q : Nat} (hS : own_Snd l Z n P q) {j d lo : Nat} {mj : OMth} {as : List Value} {H H' : OHeap} {v : Option Value} (hj : P.1[j]? = some mj) (he : own_exec P q j d lo 0 (own_entry as mj.ml) [] H = some (v, H')) (hlen : (own_entry as mj.ml).length = mj.ml) (ws : List Jvm.Cond) (R : Room)
    (hdf : d ≤ R.frames) (hlo : lo ≤ R.locals) (hc : H'.length - H.length ≤ R.cells) (hs : own_w P.2.1 H' - own_w P.2.1 H ≤ R.slots) (h : Heap) (hr : own_rep Z n P.2.1 H h) :
    MetFree l mj.nm (head1 (Jvm.Cond.code mj.nm mj.bs mj.ml mj.rt :: ws) R) (fun a U => a = (as.map (own_sh n)).toArray ∧ Z.Warmed39 U.vm ∧ U.heap = h) (fun _ _ _ _ _ => True)
      (fun _ U o U' => ∃ w L, o = .returned w ∧ (w = v.map (own_sh n) ∧ own_rep Z n P.2.1 H' U'.heap ∧ Fr n L) ∧ FrameEnd U o U' L (H'.length - H.length) (own_w P.2.1 H' - own_w P.2.1 H)) := by
  obtain ⟨GM, -, -⟩ := G
  obtain ⟨hpl, -, -, -⟩ := GM mj (List.mem_of_getElem? hj)
  refine MetFree.of_bodySF (plainFor_of_name hpl) hisR ?_
  intro p e s m args below meth c s₁ Bd hml0 hP hK
  obtain ⟨rfl, hZ, hh⟩ := hP
  have hown := findClass_of_methodNamed Bd.named
  have hnm := (name_of_methodNamed Bd.named Bd.method).1
  have X0 : Stand p l e R s m _ below meth c s₁ [] 0 0 := Stand.of_body Bd
  have e0 : s₁.heap = h := by rw [← hh, Bd.state]; rfl
  obtain ⟨-, -, hvn⟩ := own_exec_mono q j d lo 0 mj _ _ _ _ _ hj he
  obtain ⟨T', locs', X', hr', N', st⟩ := hS j d lo 0 mj _ [] H v H' hj he hlen p e R s m _ below meth c s₁ [] 0 0 X0 Bd.exec hZ Bd.bytes hml0 hown Bd.returns hnm (Or.inl (by rw [hh, hr.1]; rfl)) (by rw [e0]; exact hr) (Fr.nil n) hdf hlo (by omega) (by omega)
  obtain ⟨fs, hl, hrun, hended, hW, hsame⟩ := X'.leave (v := v.map (own_sh n)) (fun h => by rw [Bd.returns] at h; rw [hvn h]; rfl)
  have ef : entryFrame m (as.map (own_sh n)).toArray mj.ml = own_fr n m 0 (own_entry as mj.ml) [] := by
    unfold entryFrame; rw [own_args_ok]; rfl
  refine ⟨_, _, castTop ef (st fs hl), hrun, hended, _, _, rfl, ⟨rfl, hr', N'⟩, ⟨_, rfl⟩, hW, hsame.mono (by omega) (by omega)⟩
theorem own_private {s : State} {args : Array Value} {y : MethodName} (hnf : NotFace s y) (hp : (Jvm.Cond.privateMethod y).before args s = true) (hi : (Jvm.Cond.instanceMethod y).before args s = true) (hy : own_okY y) : (Jvm.Cond.selects y.cls y y).before args s = true := by
  obtain ⟨mk, methM, hnamed, -, -, -⟩ := Cond.instanceMethod_spec hi
  obtain ⟨k, h1, h2⟩ := hnf mk hnamed
  exact selects_self_of_private (findClass_of_methodNamed hnamed) h1 h2 (Cond.privateMethod_at hp) hi hy
theorem own_same {s : State} {args : Array Value} {y : MethodName} (hnf : NotFace s y) (hi : (Jvm.Cond.instanceMethod y).before args s = true) (hy : own_okY y) : (Jvm.Cond.sameMethod y.cls y.cls y.name y.desc).before args s = true := by
  obtain ⟨mk, methM, hnamed, -, -, -⟩ := Cond.instanceMethod_spec hi
  obtain ⟨k, h1, h2⟩ := hnf mk hnamed
  have h3 := findClass_of_methodNamed hnamed
  have h4 := State.methodFound?_of_named hnamed hy
  have h5 : s.methodNamed? ⟨y.cls, y.name, y.desc⟩ = some mk := hnamed
  simp only [Cond.before, Cond.holds, Cond.value, h3, h4, h5, h1]
  simp [h2]
set_option maxHeartbeats 4000000 in
theorem own_call_ok (G : own_good Z a0 P) {q : Nat} (hS : own_Snd l Z n P q) {mt : OMth} (hM : mt ∈ P.1) {ins : Instr} {t pc len j d lo : Nat} {L : List Slot} {S as r : List Value} {H H1 : OHeap} {mj : OMth} {v : Option Value} (hc : own_call P mt ins S H = some (j, as, r)) (hj : P.1[j]? = some mj)
    (hq : 1 ≤ d ∧ own_wt r + (mj.ml + 11) ≤ lo ∧ (own_entry as mj.ml).length = mj.ml) (he : own_exec P q j (d - 1) (lo - (own_wt r + (mj.ml + 11))) 0 (own_entry as mj.ml) [] H = some (v, H1))
    {p : Program} {e : Env} {R : Room} {s : State} {m : MethodId} {args : Array Value} {below : List Frame} {meth : Method} {c : Code} {T : State} {locs : List Loc} {cells slots : Nat}
    (X : Stand p l e R s m args below meth c T locs cells slots) (hx : p.tables.exec = Jvm.exec) (hZ : Z.Warmed39 s.vm) (hml : c.maxLocals = mt.ml) (hown : s.vm.findClass mt.nm.cls = some m.cls)
    (hd : decode c.code pc = .ok (ins, len)) (ht : own_tgt pc len t ins = true) (hL : L.length = mt.ml)
    (hr : own_rep Z n P.2.1 H T.heap) (hf : Fr n locs) (hdf : d ≤ R.frames) (hlo : lo ≤ R.locals) (hce : cells + (H1.length - H.length) ≤ R.cells) (hsl : slots + (own_w P.2.1 H1 - own_w P.2.1 H) ≤ R.slots) :
    ∃ (T' : State) (locs' : List Loc), Stand p l e R s m args below meth c T' locs' (cells + (H1.length - H.length)) (slots + (own_w P.2.1 H1 - own_w P.2.1 H)) ∧ own_rep Z n P.2.1 H1 T'.heap ∧ Fr n locs' ∧
      ∀ target, Steps p.tables e below (T'.setTop (own_fr n m t L (v.toList ++ r))) target → Steps p.tables e below (T.setTop (own_fr n m pc L S)) target := by
  have G' := G
  obtain ⟨GM, GK, GA⟩ := G
  obtain ⟨-, -, -, GE⟩ := GM mt hM
  obtain ⟨-, wc, -, -⟩ := GM mj (List.mem_of_getElem? hj)
  have hz : (L.map (own_shS n)).toArray.size = c.maxLocals := by rw [hml, ← hL]; simp
  have ent : ∀ {x t}, own_ent mt.en x = some t → own_okE Z a0 P mt.nm x t := fun h => GE _ (own_ent_mem h)
  have ev : (v.toList ++ r).map (own_sh n) = (v.map (own_sh n)).toList ++ r.map (own_sh n) := by cases v <;> simp
  have hK := fun (wz : (Jvm.Cond.initialized mj.nm.cls).before a0 Z = true) => backOf (rm := ({ frames := d - 1, cells := H1.length - H.length, slots := own_w P.2.1 H1 - own_w P.2.1 H, locals := lo - (own_wt r + (mj.ml + 11)) } : Room)) (Q := fun w h' L => w = v.map (own_sh n) ∧ own_rep Z n P.2.1 H1 h' ∧ Fr n L) (l := l) (h := T.heap) (R := R) (below := below) (e := e) (args := args) (p := p) (W := own_wt r) (len := 3) (own_met G' hS hj he hq.2.2 [] ({ frames := d - 1, cells := H1.length - H.length, slots := own_w P.2.1 H1 - own_w P.2.1 H, locals := lo - (own_wt r + (mj.ml + 11)) } : Room) (Nat.le_refl _) (Nat.le_refl _) (Nat.le_refl _) (Nat.le_refl _) T.heap hr) hZ wc wz (by show d - 1 + 1 ≤ _; omega) (by show own_wt r + (mj.ml + 11) + (lo - (own_wt r + (mj.ml + 11))) ≤ _; omega)
  have hW : 2 * (own_fr n m pc L S).monitorRoom + ((r.map (own_sh n)).map fun v => v.category).sum ≤ own_wt r := by show 2 * 0 + _ ≤ _; rw [own_wt_sh]; omega
  have hpre : ∀ (a : Array Value), a = (as.map (own_sh n)).toArray → ∀ vm₁ : Vm, s.WarmedH vm₁ → (a = (as.map (own_sh n)).toArray ∧ (T.setVm vm₁).heap = T.heap ∧ cells + (H1.length - H.length) ≤ R.cells ∧ slots + (own_w P.2.1 H1 - own_w P.2.1 H) ≤ R.slots) := fun a ha vm₁ _ => ⟨ha, rfl, hce, hsl⟩
  cases ins with
  | invokestatic x =>
    obtain ⟨rfl, rfl⟩ := own_t ht
    simp only [own_call] at hc
    split at hc <;> try cases hc
    rename_i j' u1 u2 hen
    split at hc <;> try cases hc
    rename_i mj' hj'
    split at hc <;> cases hc
    rename_i hsp
    cases hj.symm.trans hj'
    obtain ⟨mj', g1, g2, g3, g4, g5, ps, rr, g6, g7⟩ := ent hen
    cases hj.symm.trans g1
    obtain ⟨s1, s2⟩ := own_split_ok hsp
    obtain ⟨w, vm₁, ⟨T1, L1, k1, n1⟩, -, X1, ⟨Lc, hQ, l1, y1, z1⟩, st⟩ := Jvm.LawKit.callS X hx (y := mj.nm) hown (mvT hZ g2) (mvT hZ g3) (mvT hZ g4) (mvT hZ wc) g5 (hK g4) (g := own_fr n m pc L S) rfl hz (argsL := as.map (own_sh n)) (rest := r.map (own_sh n)) (lenOf g6 (by rw [List.length_map, s2, ← g7]; simp)) (by show S.map (own_sh n) = _; rw [← List.map_reverse, ← List.map_append, s1]; rfl) hW hd (hpre _ rfl)
    dsimp only [Pt.U, Pt.locs, Pt.cells, Pt.slots] at X1 l1 y1 z1 st hQ
    subst l1 y1 z1
    obtain ⟨rfl, q2, q3⟩ := hQ
    refine ⟨T1, _, X1, q2, Fr.app hf q3, fun target k => st target ?_⟩
    rw [← ev]; exact k
  | invokespecial x =>
    obtain ⟨rfl, rfl⟩ := own_t ht
    simp only [own_call] at hc
    split at hc
    · rename_i j' u1 u2 hen
      split at hc <;> try cases hc
      rename_i mj' hj'
      split at hc <;> cases hc
      rename_i a as' hsp
      cases hj.symm.trans hj'
      obtain ⟨mj', g1, g2, g3, g4, g5, g6, g7, ps, rr, g8, g9⟩ := ent hen
      cases hj.symm.trans g1
      obtain ⟨s1, s2⟩ := own_split_ok hsp
      simp only [List.length_cons, List.length_nil] at s2
      obtain ⟨w, vm₁, ⟨T1, L1, k1, n1⟩, -, X1, ⟨Lc, hQ, l1, y1, z1⟩, st⟩ := X.specialBack hx (y := mj.nm) g2 hown (mvT hZ g4) (mvT hZ g5) (mvT hZ (show (Jvm.Cond.code mj.nm mj.bs mj.ml none).before a0 Z = true from g3 ▸ wc)) g7 (hK g6) (g := own_fr n m pc L S) rfl hz (Steps.refl _) (a := n + a) (argsL := as'.map (own_sh n)) (rest := r.map (own_sh n)) (lenOf g8 (by rw [List.length_map]; omega)) (by
        show S.map (own_sh n) = _
        rw [show S = as'.reverse ++ .ref a :: r by simpa using s1.symm]
        simp [own_sh]) hW hd (hpre _ (by simp [own_sh]))
      dsimp only [Pt.U, Pt.locs, Pt.cells, Pt.slots] at X1 l1 y1 z1 st hQ
      subst l1 y1 z1
      obtain ⟨rfl, q2, q3⟩ := hQ
      refine ⟨T1, _, X1, q2, Fr.app hf q3, fun target k => st.trans ?_⟩
      rw [← ev]; exact k
    · rename_i j' k0 u2 hen
      split at hc <;> try cases hc
      rename_i mj' hj'
      split at hc <;> try cases hc
      rename_i a as' r' hsp
      split at hc <;> cases hc
      rename_i vs ho
      cases hj.symm.trans hj'
      obtain ⟨mj', kc, g1, g2, g3, g4, g5, g6, g7, g8, g9, ps, rr, g11, g12⟩ := ent hen
      cases hj.symm.trans g1
      obtain ⟨s1, s2⟩ := own_split_ok hsp
      simp only [List.length_cons, List.length_nil] at s2
      obtain ⟨kc', f1, f2, -, -⟩ := hr.2 a _ (own_obj_at ho)
      obtain ⟨w, vm₁, ⟨T1, L1, k1, n1⟩, -, X1, ⟨Lc, hQ, l1, y1, z1⟩, st⟩ := superBack X hx hZ (y := mj.nm) hown g4 (own_same g7 g5 g9) g5 g6 g3 (hK g8) rfl (Ins.self f2) (g := own_fr n m pc L S) rfl hz wc (argsL := as'.map (own_sh n)) (rest := r.map (own_sh n)) (lenOf g11 (by rw [List.length_map]; omega)) (by
        show S.map (own_sh n) = _
        rw [show S = as'.reverse ++ .ref a :: r by simpa using s1.symm]
        simp [own_sh]) hW hd (hpre _ (by simp [own_sh]))
      dsimp only [Pt.U, Pt.locs, Pt.cells, Pt.slots] at X1 l1 y1 z1 st hQ
      subst l1 y1 z1
      obtain ⟨rfl, q2, q3⟩ := hQ
      refine ⟨T1, _, X1, q2, Fr.app hf q3, fun target k => st.trans ?_⟩
      rw [← ev]; exact k
    · cases hc
  | invokevirtual x =>
    obtain ⟨rfl, rfl⟩ := own_t ht
    simp only [own_call] at hc
    split at hc
    · rename_i j' k0 u2 hen
      split at hc <;> try cases hc
      rename_i mj' hj'
      split at hc <;> try cases hc
      rename_i a as' r' hsp
      split at hc <;> cases hc
      rename_i vs ho
      cases hj.symm.trans hj'
      obtain ⟨mj', kc, yv, g1, g2, g3, g4, g5, g6, g7, g8, g9, g10, ps, rr, g11, g12⟩ := ent hen
      cases hj.symm.trans g1
      obtain ⟨s1, s2⟩ := own_split_ok hsp
      simp only [List.length_cons, List.length_nil] at s2
      obtain ⟨kc', f1, f2, -, -⟩ := hr.2 a _ (own_obj_at ho)
      cases g2.symm.trans f1
      obtain ⟨cq, kq, qa, qb, qc⟩ := isOf hZ rfl f2
      obtain ⟨w, vm₁, ⟨T1, L1, k1, n1⟩, -, X1, ⟨Lc, hQ, l1, y1, z1⟩, st⟩ := X.virtualBack hx (y := yv) (z := mj.nm) hown (mvT hZ g4) (mvT hZ g5) (g9 s hZ) (mvT hZ g6) (mvT hZ g7) g10 (hK g8) qa qc (g := own_fr n m pc L S) rfl hz (Steps.refl _) (argsL := as'.map (own_sh n)) (rest := r.map (own_sh n)) (by rw [g3]; exact lenOf g11 (by rw [List.length_map]; omega)) (by
        show S.map (own_sh n) = _
        rw [show S = as'.reverse ++ .ref a :: r by simpa using s1.symm]
        simp [own_sh]) hW hd (hpre _ (by simp [own_sh]))
      dsimp only [Pt.U, Pt.locs, Pt.cells, Pt.slots] at X1 l1 y1 z1 st hQ
      subst l1 y1 z1
      obtain ⟨rfl, q2, q3⟩ := hQ
      refine ⟨T1, _, X1, q2, Fr.app hf q3, fun target k => st.trans ?_⟩
      rw [← ev]; exact k
    · rename_i j' k0 u2 hen
      split at hc <;> try cases hc
      rename_i mj' hj'
      split at hc <;> try cases hc
      rename_i a as' r' hsp
      split at hc <;> cases hc
      rename_i vs ho
      cases hj.symm.trans hj'
      obtain ⟨mj', g1, g4, g5, g6, g7, g8, g9, ps, rr, g11, g12⟩ := ent hen
      cases hj.symm.trans g1
      obtain ⟨s1, s2⟩ := own_split_ok hsp
      simp only [List.length_cons, List.length_nil] at s2
      obtain ⟨kc', f1, f2, -, -⟩ := hr.2 a _ (own_obj_at ho)
      obtain ⟨cq, qa, qb⟩ := f2.cell
      have wp := mvP (args := args) hZ g6
      have wi := mvT (args := args) hZ g5
      obtain ⟨w, vm₁, ⟨T1, L1, k1, n1⟩, -, X1, ⟨Lc, hQ, l1, y1, z1⟩, st⟩ := X.privateBack hx (y := mj.nm) hown (mvT hZ g4) wi (own_private (g7 s hZ) wp wi g9) (Cond.privateMethod_at wp) (mvT hZ wc) g9 (hK g8) (g := own_fr n m pc L S) rfl hz (Steps.refl _) (a := n + a) qa qb (argsL := as'.map (own_sh n)) (rest := r.map (own_sh n)) (lenOf g11 (by rw [List.length_map]; omega)) (by
        show S.map (own_sh n) = _
        rw [show S = as'.reverse ++ .ref a :: r by simpa using s1.symm]
        simp [own_sh]) hW hd (hpre _ (by simp [own_sh]))
      dsimp only [Pt.U, Pt.locs, Pt.cells, Pt.slots] at X1 l1 y1 z1 st hQ
      subst l1 y1 z1
      obtain ⟨rfl, q2, q3⟩ := hQ
      refine ⟨T1, _, X1, q2, Fr.app hf q3, fun target k => st.trans ?_⟩
      rw [← ev]; exact k
    · rename_i j' k0 u2 hen
      split at hc <;> try cases hc
      rename_i mj' hj'
      split at hc <;> try cases hc
      rename_i a as' r' hsp
      split at hc <;> cases hc
      rename_i vs ho
      cases hj.symm.trans hj'
      obtain ⟨mj', kc, yv, ow, g1, g2, g3, g4, g5, g6, g7, g8, g9, g10, ps, rr, g11, g12⟩ := ent hen
      cases hj.symm.trans g1
      obtain ⟨s1, s2⟩ := own_split_ok hsp
      simp only [List.length_cons, List.length_nil] at s2
      obtain ⟨kc', f1, f2, -, -⟩ := hr.2 a _ (own_obj_at ho)
      cases g2.symm.trans f1
      obtain ⟨cq, kq, qa, qb, qc⟩ := isOf hZ rfl f2
      obtain ⟨w, vm₁, ⟨T1, L1, k1, n1⟩, -, X1, ⟨Lc, hQ, l1, y1, z1⟩, st⟩ := X.virtualBackUp hx (x := yv) (y := mj.nm) (owner := ow) hown (mvT hZ g4) (mvT hZ g5) (mvT hZ g6) g10 (mvT hZ g7) (mvT hZ g8) (hK g9) qa qc (g := own_fr n m pc L S) rfl hz (Steps.refl _) (argsL := as'.map (own_sh n)) (rest := r.map (own_sh n)) (by rw [g3]; exact lenOf g11 (by rw [List.length_map]; omega)) (by
        show S.map (own_sh n) = _
        rw [show S = as'.reverse ++ .ref a :: r by simpa using s1.symm]
        simp [own_sh]) hW hd (hpre _ (by simp [own_sh]))
      dsimp only [Pt.U, Pt.locs, Pt.cells, Pt.slots] at X1 l1 y1 z1 st hQ
      subst l1 y1 z1
      obtain ⟨rfl, q2, q3⟩ := hQ
      refine ⟨T1, _, X1, q2, Fr.app hf q3, fun target k => st.trans ?_⟩
      rw [← ev]; exact k
    · cases hc
  | _ => exact nomatch (show (none : Option (Nat × List Value × List Value)) = some _ from hc)
theorem own_ret_ok {mt : OMth} {i : Instr} {S : List Value} {v : Option Value} (h : own_ret mt i S = some v) {pc len t : Nat} {L : List Slot}
    {p : Program} {e : Env} {R : Room} {s : State} {m : MethodId} {args : Array Value} {below : List Frame} {meth : Method} {c : Code} {T : State} {locs : List Loc} {cells slots : Nat}
    (X : Stand p l e R s m args below meth c T locs cells slots) (hx : p.tables.exec = Jvm.exec) (hret : meth.sig.returnType = mt.rt) (hd : decode c.code pc = .ok (i, len)) (ht : own_tgt pc len t i = true) {fs : List Frame}
    (hl : ∀ (f : JFrame) (acts : List Action), f.method = m → f.locked = none → f.entered = [] → (doReturn e (T.setTop f) acts (v.map (own_sh n))).1 = T.setFrames fs) : Steps p.tables e below (T.setTop (own_fr n m pc L S)) (T.setFrames fs) := by
  cases i with
  | return_ =>
    obtain ⟨rfl, rfl⟩ := own_t ht
    simp only [own_ret] at h
    split at h <;> cases h
    rename_i h1
    exact X.returnOut hx (hret.trans h1) hd hl
  | ireturn =>
    obtain ⟨rfl, rfl⟩ := own_t ht
    simp only [own_ret] at h
    split at h <;> cases h
    · rename_i h1
      exact retOut X hx (hret.trans h1) rfl (Or.inl ⟨rfl, Or.inl rfl, _, rfl⟩) hd hl
    · rename_i h1
      exact retN X hx (t := .boolean) (hret.trans h1) (by simp) hd hl
    · rename_i h1
      exact retN X hx (t := .byte) (hret.trans h1) (by simp) hd hl
    · rename_i h1
      exact retN X hx (t := .char) (hret.trans h1) (by simp) hd hl
    · rename_i h1
      exact retN X hx (t := .short) (hret.trans h1) (by simp) hd hl
  | lreturn =>
    obtain ⟨rfl, rfl⟩ := own_t ht
    simp only [own_ret] at h
    split at h <;> cases h
    rename_i h1
    exact retOut X hx (hret.trans h1) rfl (Or.inr (Or.inl ⟨rfl, rfl, _, rfl⟩)) hd hl
  | areturn =>
    obtain ⟨rfl, rfl⟩ := own_t ht
    simp only [own_ret] at h
    split at h <;> cases h
    all_goals
      rename_i h1
      exact retOut X hx (hret.trans h1) rfl (Or.inr (Or.inr (Or.inr (Or.inr ⟨rfl, rfl, rfl⟩)))) hd hl
  | _ => exact nomatch (show (none : Option (Option Value)) = some _ from h)
theorem own_sound (l : Launch) {n : Nat} (G : own_good Z a0 P) : ∀ q, own_Snd l Z n P q := by
  intro q
  induction q with
  | zero => intro i d lo pc mt L S H v H' _ h; cases h
  | succ q ih =>
    intro i d lo pc mt L S H v H' hi h hL p e R s m args below meth c T locs cells slots X hx hZ hby hml hown hret hnm hb hr hf hdf hlo hce hsl
    have hM : mt ∈ P.1 := List.mem_of_getElem? hi
    obtain ⟨-, -, hcd, -⟩ := G.1 mt hM
    simp only [own_exec, hi] at h
    split at h
    · cases h
    · rename_i ins t hat
      obtain ⟨len, hd0, ht⟩ := own_at_ok hcd hat
      have hd : decode c.code pc = .ok (ins, len) := by rw [hby]; exact hd0
      split at h
      · rename_i w hw
        cases h
        refine ⟨T, locs, ?_, hr, hf, fun fs hl => own_ret_ok hw X hx hret hd ht hl⟩
        rw [Nat.sub_self, Nat.sub_self]; exact X
      · split at h
        · rename_i j as r hc
          split at h
          · cases h
          · rename_i mj hj
            split at h
            · rename_i hq
              split at h
              · rename_i v1 H1 he
                obtain ⟨a1, a2, -⟩ := own_exec_mono q j _ _ _ mj _ _ _ _ _ hj he
                obtain ⟨b1, b2, -⟩ := own_exec_mono q i _ _ _ mt _ _ _ _ _ hi h
                obtain ⟨T1, locs1, X1, hr1, hf1, st1⟩ := own_call_ok G ih hM hc hj hq he X hx hZ hml hown hd ht hL hr hf hdf hlo (by omega) (by omega)
                obtain ⟨T2, locs2, X2, hr2, hf2, st2⟩ := ih i d lo t mt L _ H1 v H' hi h hL p e R s m args below meth c T1 locs1 _ _ X1 hx hZ hby hml hown hret hnm (hb.elim (fun q => Or.inl (by omega)) fun q => Or.inr ⟨own_exec_nil q.2.1 q.2.2 _ _ _ _ _ _ _ _ (by have := he; rw [q.1] at this; exact this), q.2⟩) hr1 hf1 hdf hlo (by omega) (by omega)
                exact ⟨T2, locs2, X2.more (by omega) (by omega), hr2, hf2, fun fs hl => st1 _ (st2 fs hl)⟩
              · cases h
            · cases h
        · split at h
          · rename_i pc' L' S' H1 hs
            obtain ⟨a0, a1, a2⟩ := own_step_mono hs
            obtain ⟨b1, b2, -⟩ := own_exec_mono q i _ _ _ mt _ _ _ _ _ hi h
            unfold own_step at hs
            split at hs
            · rename_i e1
              cases hs
              obtain ⟨T2, locs2, X2, hr2, hf2, st2⟩ := ih i d lo pc' mt L' S' H v H' hi h (by omega) p e R s m args below meth c T locs cells slots X hx hZ hby hml hown hret hnm hb hr hf hdf hlo hce hsl
              exact ⟨T2, locs2, X2, hr2, hf2, fun fs hl => (own_pure_ok X.here hx hd ht e1 (st2 fs hl)).1⟩
            · obtain ⟨rfl, -, -, T1, locs1, X1, hr1, hf1, st1⟩ := own_heap_ok G hM hs X hx hZ hml hown hnm hd ht hL hb hr hf hdf hlo (by omega) (by omega)
              obtain ⟨T2, locs2, X2, hr2, hf2, st2⟩ := ih i d lo pc' mt L' S' H1 v H' hi h hL p e R s m args below meth c T1 locs1 _ _ X1 hx hZ hby hml hown hret hnm (hb.elim (fun q => Or.inl (by omega)) fun q => Or.inr ⟨own_heap_nil q.2.1 q.2.2 (by have := hs; rw [q.1] at this; exact this), q.2⟩) hr1 hf1 hdf hlo (by omega) (by omega)
              exact ⟨T2, locs2, X2.more (by omega) (by omega), hr2, hf2, fun fs hl => st1 _ (st2 fs hl)⟩
          · cases h
end OwnMain
/-! ## RUNS: with fuel enough -/
def own_run (P : OPrg) (i d lo pc : Nat) (L : List Slot) (S : List Value) (H : OHeap) (r : Option Value × OHeap) : Prop := ∃ q, own_exec P q i d lo pc L S H = some r
section OwnRun
variable {P : OPrg} {mt : OMth} {d d' lo lo' : Nat} {ins : Instr} {t pc : Nat} {L : List Slot} {S : List Value} {H : OHeap}
theorem own_heap_more {z : OSt} (hd : d ≤ d') (hl : lo ≤ lo') (h : own_heap P mt d lo ins t L S H = some z) : own_heap P mt d' lo' ins t L S H = some z := by
  cases ins with
  | invokespecial x =>
    simp only [own_heap] at h ⊢
    split at h <;> try cases h
    split at h <;> try cases h
    split at h <;> cases h
    rename_i hq
    rw [if_pos ⟨Nat.le_trans hq.1 hd, Nat.le_trans hq.2 hl⟩]
  | invokestatic x =>
    simp only [own_heap] at h ⊢
    split at h <;> try cases h
    split at h <;> try cases h
    split at h <;> try cases h
    rename_i e1
    split at h <;> try cases h
    rename_i e2
    split at h <;> try cases h
    rename_i e3
    split at h <;> try cases h
    rename_i e4
    split at h <;> try cases h
    rename_i e5
    split at h <;> cases h
    rename_i hq
    rw [if_pos ⟨⟨Nat.le_trans hq.1.1 hd, Nat.le_trans hq.1.2 hl⟩, hq.2⟩]
  | invokevirtual x =>
    simp only [own_heap] at h ⊢
    split at h <;> try cases h
    split at h <;> try cases h
    split at h <;> try cases h
    rename_i e1
    split at h <;> cases h
    rename_i hq
    rw [if_pos ⟨Nat.le_trans hq.1 hd, Nat.le_trans hq.2 hl⟩]
  | _ => exact h
theorem own_step_more {z : OSt} (hd : d ≤ d') (hl : lo ≤ lo') (h : own_step P mt d lo ins t pc L S H = some z) : own_step P mt d' lo' ins t pc L S H = some z := by
  unfold own_step at h ⊢
  split
  · rename_i e; simp only [e] at h; exact h
  · rename_i e; simp only [e] at h; exact own_heap_more hd hl h
end OwnRun
theorem own_exec_more {P : OPrg} : ∀ (q : Nat) {q' i d d' lo lo' pc : Nat} {L : List Slot} {S : List Value} {H : OHeap} {r : Option Value × OHeap}, q ≤ q' → d ≤ d' → lo ≤ lo' → own_exec P q i d lo pc L S H = some r → own_exec P q' i d' lo' pc L S H = some r := by
  intro q
  induction q with
  | zero => intro q' i d d' lo lo' pc L S H r _ _ _ h; cases h
  | succ q ih =>
    intro q' i d d' lo lo' pc L S H r hq hd hl h
    obtain ⟨q', rfl⟩ : ∃ k, q' = k + 1 := ⟨q' - 1, by omega⟩
    have hq' : q ≤ q' := by omega
    simp only [own_exec] at h ⊢
    split
    · rename_i e; simp only [e] at h; cases h
    · rename_i mt e; simp only [e] at h
      split
      · rename_i e1; simp only [e1] at h; cases h
      · rename_i ins t e1; simp only [e1] at h
        split
        · rename_i v e2; simp only [e2] at h; exact h
        · rename_i e2; simp only [e2] at h
          split
          · rename_i j as r' e3; simp only [e3] at h
            split
            · rename_i e4; simp only [e4] at h; cases h
            · rename_i mj e4; simp only [e4] at h
              split at h
              · rename_i hc
                rw [if_pos ⟨Nat.le_trans hc.1 hd, Nat.le_trans hc.2.1 hl, hc.2.2⟩]
                split at h
                · rename_i v H' e5
                  have e6 := ih hq' (show d - 1 ≤ d' - 1 by omega) (show lo - (own_wt r' + (mj.ml + 11)) ≤ lo' - (own_wt r' + (mj.ml + 11)) by omega) e5
                  simp only [e6]
                  exact ih hq' hd hl h
                · cases h
              · cases h
          · rename_i e3; simp only [e3] at h
            split at h
            · rename_i e4
              simp only [own_step_more hd hl e4]
              exact ih hq' hd hl h
            · cases h
section OwnRun
variable {P : OPrg} {i d d' lo lo' pc : Nat} {L : List Slot} {S : List Value} {H : OHeap} {r : Option Value × OHeap}
theorem own_run.more (hd : d ≤ d') (hl : lo ≤ lo') (h : own_run P i d lo pc L S H r) : own_run P i d' lo' pc L S H r := h.imp fun q hq => own_exec_more q (Nat.le_refl _) hd hl hq
theorem own_run.fuel (q : Nat) (h : own_exec P q i d lo pc L S H = some r) : own_run P i d lo pc L S H r := ⟨q, h⟩
/-- so many steps of the frame and the heap, no call among them -/
def own_go (P : OPrg) (mt : OMth) (d lo : Nat) : Nat → Nat → List Slot → List Value → OHeap → Option OSt
  | 0, pc, L, S, H => some (pc, L, S, H)
  | q + 1, pc, L, S, H =>
    match own_at mt pc with
    | none => none
    | some (ins, t) =>
      match own_ret mt ins S with
      | some _ => none
      | none =>
        match own_call P mt ins S H with
        | some _ => none
        | none =>
          match own_step P mt d lo ins t pc L S H with
          | some (pc', L', S', H') => own_go P mt d lo q pc' L' S' H'
          | none => none
theorem own_run.go {mt : OMth} (hi : P.1[i]? = some mt) (q : Nat) : ∀ {pc pc' : Nat} {L L' : List Slot} {S S' : List Value} {H H' : OHeap}, own_go P mt d lo q pc L S H = some (pc', L', S', H') → own_run P i d lo pc' L' S' H' r → own_run P i d lo pc L S H r := by
  induction q with
  | zero => intro pc pc' L L' S S' H H' h k; cases h; exact k
  | succ q ih =>
    intro pc pc' L L' S S' H H' h k
    simp only [own_go] at h
    split at h
    · cases h
    · rename_i ins t e1
      split at h
      · cases h
      · rename_i e2
        split at h
        · cases h
        · rename_i e3
          split at h
          · rename_i e4
            obtain ⟨f, hf⟩ := ih h k
            exact ⟨f + 1, by simp only [own_exec, hi, e1, e2, e3, e4]; exact hf⟩
          · cases h
theorem own_run.ret {mt : OMth} (hi : P.1[i]? = some mt) {ins : Instr} {t : Nat} {v : Option Value} (h1 : own_at mt pc = some (ins, t)) (h2 : own_ret mt ins S = some v) : own_run P i d lo pc L S H (v, H) := ⟨1, by simp only [own_exec, hi, h1, h2]⟩
theorem own_run.call {mt mj : OMth} (hi : P.1[i]? = some mt) {ins : Instr} {t j : Nat} {as r' : List Value} {v : Option Value} {H' : OHeap} (h1 : own_at mt pc = some (ins, t)) (h2 : own_ret mt ins S = none) (h3 : own_call P mt ins S H = some (j, as, r')) (hj : P.1[j]? = some mj)
    (h4 : 1 ≤ d ∧ own_wt r' + (mj.ml + 11) ≤ lo ∧ (own_entry as mj.ml).length = mj.ml) (k1 : own_run P j (d - 1) (lo - (own_wt r' + (mj.ml + 11))) 0 (own_entry as mj.ml) [] H (v, H')) (k2 : own_run P i d lo t L (v.toList ++ r') H' r) : own_run P i d lo pc L S H r := by
  obtain ⟨q1, e1⟩ := k1
  obtain ⟨q2, e2⟩ := k2
  refine ⟨max q1 q2 + 1, ?_⟩
  simp only [own_exec, hi, h1, h2, h3, hj, if_pos h4, own_exec_more q1 (Nat.le_max_left q1 q2) (Nat.le_refl _) (Nat.le_refl _) e1]
  exact own_exec_more q2 (Nat.le_max_right q1 q2) (Nat.le_refl _) (Nat.le_refl _) e2
end OwnRun
/-- a run of the law that ends: the model's -/
theorem own_law (l : Launch) {Z : State} {a0 : Array Value} {P : OPrg} (G : own_good Z a0 P) {mt : OMth} (hi : P.1[0]? = some mt) {as : List Value} {v : Option Value} {H' : OHeap} {d lo : Nat} (hlen : (own_entry as mt.ml).length = mt.ml) (h : own_run P 0 d lo 0 (own_entry as mt.ml) [] [] (v, H')) (ws : List Jvm.Cond) (R : Room)
    (hdf : d ≤ R.frames) (hlo : lo ≤ R.locals) (hc : H'.length ≤ R.cells) (hs : own_w P.2.1 H' ≤ R.slots) :
    MetFree l mt.nm (head1 (Jvm.Cond.code mt.nm mt.bs mt.ml mt.rt :: ws) R) (fun a U => a = (as.map (own_sh Z.heap.size)).toArray ∧ Z.Warmed39 U.vm ∧ U.heap = Z.heap) (fun _ _ _ _ _ => True)
      (fun _ U o U' => ∃ w L, o = .returned w ∧ (w = v.map (own_sh Z.heap.size) ∧ Fr Z.heap.size L) ∧ FrameEnd U o U' L H'.length (own_w P.2.1 H')) := by
  obtain ⟨q, h⟩ := h
  have h0 : own_w P.2.1 [] = 0 := rfl
  have hr : own_rep Z Z.heap.size P.2.1 [] Z.heap := ⟨rfl, fun i c hc => by simp at hc⟩
  have M := own_met G (own_sound l G q) hi h hlen ws R hdf hlo (by simpa using hc) (by rw [h0]; simpa using hs) Z.heap hr
  refine M.mono (fun _ _ h => h) (fun _ _ _ _ _ h => h) (fun _ _ o U' _ h => ?_)
  obtain ⟨w, L, e1, ⟨e2, -, e3⟩, e4⟩ := h
  refine ⟨w, L, e1, ⟨e2, e3⟩, ?_⟩
  rw [h0] at e4
  exact e4
/-! ### one law an entry -/
section OwnEnts
variable {Z : State} {a0 : Array Value} {P : OPrg} {y : MethodName} {x : Nat}
theorem own_e0 {j a : Nat} {b : Int} {mj : OMth} (h1 : P.1[j]? = some mj) (h2 : (Jvm.Cond.methodLink y.cls x mj.nm).before a0 Z = true) (h3 : (Jvm.Cond.static mj.nm).before a0 Z = true) (h4 : (Jvm.Cond.initialized mj.nm.cls).before a0 Z = true) (h5 : own_okY mj.nm) (h6 : own_okD 0 mj) : own_okE Z a0 P y x (0, j, a, b) := ⟨mj, h1, h2, h3, h4, h5, h6⟩
theorem own_e1 {j a : Nat} {b : Int} {mj : OMth} (h1 : P.1[j]? = some mj) (g1 : mj.nm.name = "<init>") (g2 : mj.rt = none) (h2 : (Jvm.Cond.methodLink y.cls x mj.nm).before a0 Z = true) (h3 : (Jvm.Cond.instanceMethod mj.nm).before a0 Z = true) (h4 : (Jvm.Cond.initialized mj.nm.cls).before a0 Z = true) (h5 : own_okY mj.nm) (h6 : own_okD 1 mj) : own_okE Z a0 P y x (1, j, a, b) := ⟨mj, h1, g1, g2, h2, h3, h4, h5, h6⟩
theorem own_e2 {j a : Nat} {b : Int} (h1 : (Jvm.Cond.methodLink y.cls x Lib.objectInit).before a0 Z = true) (h2 : (Jvm.Cond.instanceMethod Lib.objectInit).before a0 Z = true) (h3 : (Jvm.Cond.code Lib.objectInit ⟨#[0xb1]⟩ 1 none).before a0 Z = true) : own_okE Z a0 P y x (2, j, a, b) := ⟨h1, h2, h3⟩
theorem own_e3 {j k : Nat} {b : Int} {mj : OMth} {c : OKls} {v : MethodName} (h1 : P.1[j]? = some mj) (h2 : P.2.1[k]? = some c) (h3 : v.desc = mj.nm.desc) (h4 : (Jvm.Cond.methodLink y.cls x v).before a0 Z = true) (h5 : (Jvm.Cond.declares v).before a0 Z = true) (h6 : (Jvm.Cond.selects c.1 v mj.nm).before a0 Z = true) (h7 : (Jvm.Cond.instanceMethod mj.nm).before a0 Z = true) (h8 : (Jvm.Cond.initialized mj.nm.cls).before a0 Z = true) (h9 : ∀ s : State, Z.Warmed39 s.vm → NotFace s v) (h10 : own_okY v) (h11 : own_okD 1 mj) : own_okE Z a0 P y x (3, j, k, b) := ⟨mj, c, v, h1, h2, h3, h4, h5, h6, h7, h8, h9, h10, h11⟩
theorem own_e4 {j k : Nat} {b : Int} {mj : OMth} (h1 : P.1[j]? = some mj) (h2 : (Jvm.Cond.methodLink y.cls x mj.nm).before a0 Z = true) (h3 : (Jvm.Cond.instanceMethod mj.nm).before a0 Z = true) (h4 : (Jvm.Cond.privateMethod mj.nm).before a0 Z = true) (h5 : ∀ s : State, Z.Warmed39 s.vm → NotFace s mj.nm) (h6 : (Jvm.Cond.initialized mj.nm.cls).before a0 Z = true) (h7 : own_okY mj.nm) (h8 : own_okD 1 mj) : own_okE Z a0 P y x (4, j, k, b) := ⟨mj, h1, h2, h3, h4, h5, h6, h7, h8⟩
theorem own_e6 {k j : Nat} {u : Int} {c : OKls} {f : OFld} {R0 : String} (h1 : P.2.1[k]? = some c) (h2 : c.2.2[j]? = some f) (h3 : (Jvm.Cond.fieldLink y.cls x R0 f.2.1 f.2.2.1).before a0 Z = true) (h4 : Via Z R0 f.1 f.2.1 f.2.2.1) (h5 : u = 1 → (Jvm.Cond.lays c.1 f.1 f.2.1 f.2.2.1).before a0 Z = true ∨ ((Jvm.Cond.laysFinal c.1 f.1 f.2.1 f.2.2.1).before a0 Z = true ∧ y.cls = f.1 ∧ y.name = "<init>")) : own_okE Z a0 P y x (6, k, j, u) := ⟨c, f, R0, h1, h2, h3, h4, h5⟩
theorem own_e7 {k j : Nat} {u : Int} {c : OKls} (h1 : P.2.1[k]? = some c) (h2 : (Jvm.Cond.classLink y.cls x c.1).before a0 Z = true) : own_okE Z a0 P y x (7, k, j, u) := ⟨c, h1, h2⟩
theorem own_e8 {k j : Nat} {u : Int} {w : Int32} (h1 : Int32.ofInt u = w) (h2 : (Jvm.Cond.constant y.cls x w).before a0 Z = true) : own_okE Z a0 P y x (8, k, j, u) := by subst h1; exact h2
theorem own_e9 {k j : Nat} {u : Int} {w : Int64} (h1 : Int64.ofInt u = w) (h2 : (Jvm.Cond.constantLong y.cls x w).before a0 Z = true) : own_okE Z a0 P y x (9, k, j, u) := by subst h1; exact h2
theorem own_e10 {k j : Nat} {u : Int} (h1 : (Jvm.Cond.methodLink y.cls x Jvm.Stand.acN).before a0 Z = true) (h2 : (Jvm.Cond.native Jvm.Stand.acN).before a0 Z = true) (h3 : (Jvm.Cond.static Jvm.Stand.acN).before a0 Z = true) (h4 : (Jvm.Cond.initialized "java/lang/System").before a0 Z = true) : own_okE Z a0 P y x (10, k, j, u) := ⟨h1, h2, h3, h4⟩
theorem own_e11 {k j : Nat} {u : Int} (h1 : (Jvm.Cond.methodLink y.cls x ⟨"[I", "clone", "()Ljava/lang/Object;"⟩).before a0 Z = true) (h2 : (Jvm.Cond.sameMethod "[I" "java/lang/Object" "clone" "()Ljava/lang/Object;").before a0 Z = true) (h3 : (Jvm.Cond.native ⟨"java/lang/Object", "clone", "()Ljava/lang/Object;"⟩).before a0 Z = true) (h4 : (Jvm.Cond.instanceMethod ⟨"java/lang/Object", "clone", "()Ljava/lang/Object;"⟩).before a0 Z = true) (h5 : (Jvm.Cond.selects "[I" ⟨"[I", "clone", "()Ljava/lang/Object;"⟩ ⟨"java/lang/Object", "clone", "()Ljava/lang/Object;"⟩).before a0 Z = true) (h6 : (Jvm.Cond.castable "[I" "java/lang/Cloneable").before a0 Z = true) : own_okE Z a0 P y x (11, k, j, u) := ⟨h1, h2, h3, h4, h5, h6⟩
theorem own_e12 {k j : Nat} {u : Int} (h1 : (Jvm.Cond.classLink y.cls x "[I").before a0 Z = true) : own_okE Z a0 P y x (12, k, j, u) := h1
theorem own_e5 {j k : Nat} {b : Int} {mj : OMth} {c : OKls} (h1 : P.1[j]? = some mj) (h2 : P.2.1[k]? = some c) (h3 : mj.nm.name ≠ "<init>") (h4 : (Jvm.Cond.methodLink y.cls x mj.nm).before a0 Z = true) (h5 : (Jvm.Cond.instanceMethod mj.nm).before a0 Z = true) (h6 : (Jvm.Cond.superclass y.cls mj.nm.cls).before a0 Z = true) (h7 : NotFace Z mj.nm) (h8 : (Jvm.Cond.initialized mj.nm.cls).before a0 Z = true) (h9 : own_okY mj.nm) (h10 : own_okD 1 mj) : own_okE Z a0 P y x (5, j, k, b) := ⟨mj, c, h1, h2, h3, h4, h5, h6, h7, h8, h9, h10⟩
theorem own_e13 {j k : Nat} {b : Int} {mj : OMth} {c : OKls} {v : MethodName} {ow : String} (h1 : P.1[j]? = some mj) (h2 : P.2.1[k]? = some c) (h3 : v.desc = mj.nm.desc) (h4 : (Jvm.Cond.methodLink y.cls x v).before a0 Z = true) (h5 : (Jvm.Cond.sameMethod v.cls ow v.name v.desc).before a0 Z = true) (h6 : (Jvm.Cond.declares ⟨ow, v.name, v.desc⟩).before a0 Z = true) (h7 : (Jvm.Cond.selects c.1 v mj.nm).before a0 Z = true) (h8 : (Jvm.Cond.instanceMethod mj.nm).before a0 Z = true) (h9 : (Jvm.Cond.initialized mj.nm.cls).before a0 Z = true) (h10 : ow ≠ "java/lang/invoke/MethodHandle" ∧ ow ≠ "java/lang/invoke/VarHandle") (h11 : own_okD 1 mj) : own_okE Z a0 P y x (13, j, k, b) := ⟨mj, c, v, ow, h1, h2, h3, h4, h5, h6, h7, h8, h9, h10, h11⟩
theorem own_nf {s : State} {args : Array Value} {C : String} {y y' : MethodName} (hc : y.cls = y'.cls) (w : (Jvm.Cond.selects C y' y').before args s = true) : NotFace s y := fun r0 h0 => by
  obtain ⟨c2, r2, m2, q1, q2, q3, q4, kP, hkP, hkPi⟩ := Cond.selects_spec w
  have e1 := findClass_of_methodNamed h0
  have e2 := findClass_of_methodNamed q3
  rw [hc] at e1
  have e3 : r0.cls = m2.cls := Option.some.inj (e1.symm.trans e2)
  exact ⟨kP, by rw [e3]; exact hkP, hkPi⟩
end OwnEnts
/-! ## RUNS WITH THE FRAMES BENEATH: what a walk is printed in -/
abbrev OFm := Nat × Nat × Nat × Nat × List Slot × List Value
def own_ks (P : OPrg) (Q : Option Value → OHeap → Prop) : List OFm → Nat → Nat → Nat → Nat → List Slot → List Value → OHeap → Prop
  | [], i, d, lo, pc, L, S, H => ∃ v H', own_run P i d lo pc L S H (v, H') ∧ Q v H'
  | (i', d', lo', t', L', S') :: st, i, d, lo, pc, L, S, H => ∃ v H', own_run P i d lo pc L S H (v, H') ∧ own_ks P Q st i' d' lo' t' L' (v.toList ++ S') H'
section OwnKs
variable {P : OPrg} {Q : Option Value → OHeap → Prop} {st : List OFm} {i d lo pc : Nat} {L : List Slot} {S : List Value} {H : OHeap} {mt mj : OMth}
theorem own_ks.of {i' d' lo' pc' : Nat} {L' : List Slot} {S' : List Value} {H' : OHeap} (h : ∀ r, own_run P i' d' lo' pc' L' S' H' r → own_run P i d lo pc L S H r) (k : own_ks P Q st i' d' lo' pc' L' S' H') : own_ks P Q st i d lo pc L S H := by
  cases st with
  | nil => obtain ⟨v, H2, k, q⟩ := k; exact ⟨v, H2, h _ k, q⟩
  | cons f st => obtain ⟨v, H2, k, q⟩ := k; exact ⟨v, H2, h _ k, q⟩
theorem own_ks.go (hi : P.1[i]? = some mt) (n : Nat) {pc' : Nat} {L' : List Slot} {S' : List Value} {H' : OHeap} (h : own_go P mt d lo n pc L S H = some (pc', L', S', H')) (k : own_ks P Q st i d lo pc' L' S' H') : own_ks P Q st i d lo pc L S H :=
  own_ks.of (fun _ => own_run.go hi n h) k
theorem own_go1 {ins : Instr} {t : Nat} {z : OSt} (h1 : own_at mt pc = some (ins, t)) (h2 : own_ret mt ins S = none) (h3 : own_call P mt ins S H = none) (h4 : own_step P mt d lo ins t pc L S H = some z) : own_go P mt d lo 1 pc L S H = some z := by
  obtain ⟨a, b, c, e⟩ := z
  simp only [own_go, h1, h2, h3, h4]
theorem own_ks.br2 (hi : P.1[i]? = some mt) {cd : ClassFile.Cond} {o : Int} {t pc' : Nat} {x y : Int32} {b : Bool} (h1 : own_at mt pc = some (.if_icmp cd o, t)) (hb : if_icmp.holds cd x y = b) (hp : (match b with | true => t | false => pc + 3) = pc') (k : own_ks P Q st i d lo pc' L S H) : own_ks P Q st i d lo pc L (.int y :: .int x :: S) H := by
  refine own_ks.go hi 1 (own_go1 h1 rfl rfl ?_) k
  subst hp
  simp only [own_step, own_pure, hb, own_br]
  cases b <;> rfl
theorem own_ks.br1 (hi : P.1[i]? = some mt) {cd : ClassFile.Cond} {o : Int} {t pc' : Nat} {x : Int32} {b : Bool} (h1 : own_at mt pc = some (.ifCond cd o, t)) (hb : ifCond.holds cd x = b) (hp : (match b with | true => t | false => pc + 3) = pc') (k : own_ks P Q st i d lo pc' L S H) : own_ks P Q st i d lo pc L (.int x :: S) H := by
  refine own_ks.go hi 1 (own_go1 h1 rfl rfl ?_) k
  subst hp
  simp only [own_step, own_pure, hb, own_br]
  cases b <;> rfl
theorem own_ks.sw (hi : P.1[i]? = some mt) {df : Int} {ps : Array (Int × Int)} {t pc' : Nat} {x : Int32} (h1 : own_at mt pc = some (.lookupswitch df ps, t)) (hj : own_jmp pc (lookupswitch.offset ps.toList df x.toInt) = some pc') (k : own_ks P Q st i d lo pc' L S H) : own_ks P Q st i d lo pc L (.int x :: S) H := by
  refine own_ks.go hi 1 (own_go1 h1 rfl rfl ?_) k
  simp only [own_step, own_pure, hj]
/-- the room that a call takes -/
def own_fitc (d lo ml : Nat) (as r : List Value) : Bool := Nat.ble 1 d && (Nat.ble (own_wt r + (ml + 11)) lo && (own_entry as ml).length == ml)
theorem own_fitc_ok {d lo ml : Nat} {as r : List Value} (h : own_fitc d lo ml as r = true) : 1 ≤ d ∧ own_wt r + (ml + 11) ≤ lo ∧ (own_entry as ml).length = ml := by
  simp only [own_fitc, Bool.and_eq_true, Nat.ble_eq, beq_iff_eq] at h
  exact h
theorem own_ks.into (hi : P.1[i]? = some mt) {ins : Instr} {t j d' lo' : Nat} {as r' : List Value} (h1 : own_at mt pc = some (ins, t)) (h2 : own_ret mt ins S = none) (h3 : own_call P mt ins S H = some (j, as, r')) (hj : P.1[j]? = some mj) (h4 : own_fitc d lo mj.ml as r' = true) (hd : d - 1 = d') (hl : lo - (own_wt r' + (mj.ml + 11)) = lo') {L' : List Slot} (hL : own_entry as mj.ml = L')
    (k : own_ks P Q ((i, d, lo, t, L, r') :: st) j d' lo' 0 L' [] H) : own_ks P Q st i d lo pc L S H := by
  subst hd hl hL
  obtain ⟨v, H', k1, k2⟩ := k
  cases st with
  | nil => obtain ⟨v2, H2, k3, q⟩ := k2; exact ⟨v2, H2, own_run.call hi h1 h2 h3 hj (own_fitc_ok h4) k1 k3, q⟩
  | cons f st => obtain ⟨v2, H2, k3, q⟩ := k2; exact ⟨v2, H2, own_run.call hi h1 h2 h3 hj (own_fitc_ok h4) k1 k3, q⟩
theorem own_ks.call (hi : P.1[i]? = some mt) {ins : Instr} {t j : Nat} {as r' : List Value} {v : Option Value} {H' : OHeap} {S' : List Value} (h1 : own_at mt pc = some (ins, t)) (h2 : own_ret mt ins S = none) (h3 : own_call P mt ins S H = some (j, as, r')) (hj : P.1[j]? = some mj) (h4 : own_fitc d lo mj.ml as r' = true)
    (k1 : own_run P j (d - 1) (lo - (own_wt r' + (mj.ml + 11))) 0 (own_entry as mj.ml) [] H (v, H')) (hS : v.toList ++ r' = S') (k : own_ks P Q st i d lo t L S' H') : own_ks P Q st i d lo pc L S H := by
  subst hS
  exact own_ks.of (fun _ k2 => own_run.call hi h1 h2 h3 hj (own_fitc_ok h4) k1 k2) k
theorem own_ks.back (hi : P.1[i]? = some mt) {ins : Instr} {t : Nat} {v : Option Value} {i' d' lo' t' : Nat} {L' : List Slot} {S' S2 : List Value} (h1 : own_at mt pc = some (ins, t)) (h2 : own_ret mt ins S = some v) (hS : v.toList ++ S' = S2) (k : own_ks P Q st i' d' lo' t' L' S2 H) : own_ks P Q ((i', d', lo', t', L', S') :: st) i d lo pc L S H := by
  subst hS
  exact ⟨v, H, own_run.ret hi h1 h2, k⟩
theorem own_ks.ret (hi : P.1[i]? = some mt) {ins : Instr} {t : Nat} {v : Option Value} (h1 : own_at mt pc = some (ins, t)) (h2 : own_ret mt ins S = some v) (q : Q v H) : own_ks P Q [] i d lo pc L S H := ⟨v, H, own_run.ret hi h1 h2, q⟩
theorem own_nt {x c : Int32} {k : Int} (h : ¬ x = c) (e : c.toInt = k) : ¬ (k = x.toInt) := fun q => h (Int32.toInt_inj.mp (q.symm.trans e.symm))
theorem own_yt {x c : Int32} {k : Int} (h : x = c) (e : c.toInt = k) : k = x.toInt := by subst h; exact e.symm
end OwnKs
/-- what a law owes at its end -/
def own_end (K : List OKls) (cells slots : Nat) (v : Option Value) (H : OHeap) : Prop := v = some (.int 1) ∧ H.length ≤ cells ∧ own_w K H ≤ slots
theorem own_endOk {K : List OKls} {cells slots : Nat} {v : Option Value} {H : OHeap} (h1 : v = some (.int 1)) (h2 : Nat.ble H.length cells = true) (h3 : Nat.ble (own_w K H) slots = true) : own_end K cells slots v H := ⟨h1, Nat.le_of_ble_eq_true h2, Nat.le_of_ble_eq_true h3⟩
theorem own_ks_run {P : OPrg} {i d lo pc : Nat} {L : List Slot} {S : List Value} {H : OHeap} {v : Option Value} {H' : OHeap} (k : own_ks P (fun w G => w = v ∧ G = H') [] i d lo pc L S H) : own_run P i d lo pc L S H (v, H') := by
  obtain ⟨w, G, h, rfl, rfl⟩ := k
  exact h
section OwnKs2
variable {P : OPrg} {Q : Option Value → OHeap → Prop} {st : List OFm} {i d lo pc t a q : Nat} {L : List Slot} {S vs : List Value} {H : OHeap} {mt : OMth} {j : Int32} {v : Value}
theorem own_ks.iaload (hi : P.1[i]? = some mt) (h1 : own_at mt pc = some (.iaload, t)) (ha : own_arr H a .int = some vs) (hq : own_ix j = some q) (hv : vs[q]? = some v) (k : own_ks P Q st i d lo t L (v :: S) H) : own_ks P Q st i d lo pc L (.int j :: .ref a :: S) H :=
  own_ks.go hi 1 (own_go1 h1 rfl rfl (by simp only [own_step, own_pure, own_heap, own_ald, ha, hq, hv])) k
theorem own_ks.laload (hi : P.1[i]? = some mt) (h1 : own_at mt pc = some (.laload, t)) (ha : own_arr H a .long = some vs) (hq : own_ix j = some q) (hv : vs[q]? = some v) (k : own_ks P Q st i d lo t L (v :: S) H) : own_ks P Q st i d lo pc L (.int j :: .ref a :: S) H :=
  own_ks.go hi 1 (own_go1 h1 rfl rfl (by simp only [own_step, own_pure, own_heap, own_ald, ha, hq, hv])) k
theorem own_ks.iastore {x : Int32} {H' : OHeap} (hi : P.1[i]? = some mt) (h1 : own_at mt pc = some (.iastore, t)) (ha : own_arr H a .int = some vs) (hq : own_ix j = some q) (hl : q < vs.length) (hH : H.set a (.inr .int, vs.set q (.int x)) = H') (k : own_ks P Q st i d lo t L S H') : own_ks P Q st i d lo pc L (.int x :: .int j :: .ref a :: S) H := by
  subst hH
  exact own_ks.go hi 1 (own_go1 h1 rfl rfl (by simp only [own_step, own_pure, own_heap, own_ast, ha, hq, if_pos hl, own_nar])) k
theorem own_ks.lastore {x : Int64} {H' : OHeap} (hi : P.1[i]? = some mt) (h1 : own_at mt pc = some (.lastore, t)) (ha : own_arr H a .long = some vs) (hq : own_ix j = some q) (hl : q < vs.length) (hH : H.set a (.inr .long, vs.set q (.long x)) = H') (k : own_ks P Q st i d lo t L S H') : own_ks P Q st i d lo pc L (.long x :: .int j :: .ref a :: S) H := by
  subst hH
  exact own_ks.go hi 1 (own_go1 h1 rfl rfl (by simp only [own_step, own_pure, own_heap, own_ast, ha, hq, if_pos hl, own_nar])) k
theorem own_ks.alen {ty : FieldType} {z : Int32} (hi : P.1[i]? = some mt) (h1 : own_at mt pc = some (.arraylength, t)) (ha : H[a]? = some (.inr ty, vs)) (hz : vs.length.toInt32 = z) (k : own_ks P Q st i d lo t L (.int z :: S) H) : own_ks P Q st i d lo pc L (.ref a :: S) H := by
  subst hz
  exact own_ks.go hi 1 (own_go1 h1 rfl rfl (by simp only [own_step, own_pure, own_heap, ha])) k
end OwnKs2
theorem own_pdc : parseMethodDescriptor "(I)C" = some ⟨[.int], some .char⟩ := by decide +kernel
/-! ## A LAW THAT LOADS String CONSTANTS: the walk goes over the start with the tables at hand; the law's own callees are steps of the frame alone -/
def own_pgo (mt : OMth) : Nat → Nat → List Slot → List Value → Option OFr
  | 0, pc, L, S => some (pc, L, S)
  | k + 1, pc, L, S =>
    match own_at mt pc with
    | none => none
    | some (i, t) =>
      match own_pure i t pc L S with
      | some (pc', L', S') => own_pgo mt k pc' L' S'
      | none => none
theorem own_pgo_ok {p : Program} {e : Env} {m : MethodId} {below : List Frame} {c : Code} {T target : State} {mt : OMth} {n : Nat} (hcd : ∀ r ∈ mt.cd, ∀ x ∈ r, own_okI mt.bs x = true) (h : At T m c below) (hx : p.tables.exec = Jvm.exec) (hby : c.code = mt.bs) :
    ∀ (k : Nat) {pc pc' : Nat} {L L' : List Slot} {S S' : List Value}, own_pgo mt k pc L S = some (pc', L', S') → Steps p.tables e below (T.setTop (own_fr n m pc' L' S')) target → Steps p.tables e below (T.setTop (own_fr n m pc L S)) target ∧ L'.length = L.length := by
  intro k
  induction k with
  | zero => intro pc pc' L L' S S' e1 k; cases e1; exact ⟨k, rfl⟩
  | succ k ih =>
    intro pc pc' L L' S S' e1 kk
    simp only [own_pgo] at e1
    split at e1
    · cases e1
    · rename_i i t hat
      split at e1
      · rename_i e2
        obtain ⟨len, hd0, ht⟩ := own_at_ok hcd hat
        obtain ⟨q1, q2⟩ := ih e1 kk
        obtain ⟨q3, q4⟩ := own_pure_ok (n := n) h hx (by rw [hby]; exact hd0) ht e2 q1
        exact ⟨q3, q2.trans q4⟩
      · cases e1
theorem own_pgo_add {mt : OMth} : ∀ (k : Nat) {j pc pc' : Nat} {L L' : List Slot} {S S' : List Value}, own_pgo mt k pc L S = some (pc', L', S') → own_pgo mt (k + j) pc L S = own_pgo mt j pc' L' S' := by
  intro k
  induction k with
  | zero => intro j pc pc' L L' S S' h; cases h; rw [Nat.zero_add]
  | succ k ih =>
    intro j pc pc' L L' S S' h
    simp only [own_pgo] at h
    rw [show k + 1 + j = (k + j) + 1 by omega]
    rcases hA : own_at mt pc with _ | ⟨i, t⟩
    · simp only [hA] at h; cases h
    · simp only [hA] at h
      rcases hB : own_pure i t pc L S with _ | ⟨a, b, c⟩
      · simp only [hB] at h; cases h
      · simp only [hB] at h
        simp only [own_pgo, hA, hB]
        exact ih h
/-- the frame alone goes on to its return -/
def own_pr (mt : OMth) (pc : Nat) (L : List Slot) (S : List Value) (z : Int32) : Prop := ∃ k pc' L' S' ins t, own_pgo mt k pc L S = some (pc', L', S') ∧ own_at mt pc' = some (ins, t) ∧ own_ret mt ins S' = some (some (.int z))
section OwnPr
variable {mt : OMth} {pc : Nat} {L : List Slot} {S : List Value} {z : Int32}
theorem own_pr.go (k : Nat) {pc' : Nat} {L' : List Slot} {S' : List Value} (h : own_pgo mt k pc L S = some (pc', L', S')) (q : own_pr mt pc' L' S' z) : own_pr mt pc L S z := by
  obtain ⟨j, pc2, L2, S2, ins, t, h1, h2, h3⟩ := q
  exact ⟨k + j, pc2, L2, S2, ins, t, (own_pgo_add k h).trans h1, h2, h3⟩
theorem own_pr.ret {ins : Instr} {t : Nat} (h1 : own_at mt pc = some (ins, t)) (h2 : own_ret mt ins S = some (some (.int z))) : own_pr mt pc L S z := ⟨0, pc, L, S, ins, t, rfl, h1, h2⟩
theorem own_p2 {cd : ClassFile.Cond} {o : Int} {t pc' : Nat} {x y : Int32} {b : Bool} (h1 : own_at mt pc = some (.if_icmp cd o, t)) (hb : if_icmp.holds cd x y = b) (hp : (match b with | true => t | false => pc + 3) = pc') : own_pgo mt 1 pc L (.int y :: .int x :: S) = some (pc', L, S) := by
  subst hp
  simp only [own_pgo, h1, own_pure, hb, own_br]
  cases b <;> rfl
theorem own_psw {df : Int} {ps : Array (Int × Int)} {t pc' : Nat} {x : Int32} (h1 : own_at mt pc = some (.lookupswitch df ps, t)) (hj : own_jmp pc (lookupswitch.offset ps.toList df x.toInt) = some pc') : own_pgo mt 1 pc L (.int x :: S) = some (pc', L, S) := by
  simp only [own_pgo, h1, own_pure, hj]
/-- the same, counted -/
def own_prun (mt : OMth) : Nat → Nat → List Slot → List Value → Option Int32
  | 0, _, _, _ => none
  | k + 1, pc, L, S =>
    match own_at mt pc with
    | none => none
    | some (i, t) =>
      match own_ret mt i S with
      | some (some (.int z)) => some z
      | _ =>
        match own_pure i t pc L S with
        | some (pc', L', S') => own_prun mt k pc' L' S'
        | none => none
theorem own_prun_ok : ∀ (k : Nat) {pc : Nat} {L : List Slot} {S : List Value}, own_prun mt k pc L S = some z → own_pr mt pc L S z := by
  intro k
  induction k with
  | zero => intro pc L S h; cases h
  | succ k ih =>
    intro pc L S h
    simp only [own_prun] at h
    rcases hA : own_at mt pc with _ | ⟨i, t⟩
    · simp only [hA] at h; cases h
    · simp only [hA] at h
      split at h
      · rename_i w hw
        cases h
        exact own_pr.ret hA hw
      · rcases hB : own_pure i t pc L S with _ | ⟨a, b, c⟩
        · simp only [hB] at h; cases h
        · simp only [hB] at h
          exact own_pr.go 1 (by simp only [own_pgo, hA, hB]) (ih h)
theorem own_p1 {cd : ClassFile.Cond} {o : Int} {t pc' : Nat} {x : Int32} {b : Bool} (h1 : own_at mt pc = some (.ifCond cd o, t)) (hb : ifCond.holds cd x = b) (hp : (match b with | true => t | false => pc + 3) = pc') : own_pgo mt 1 pc L (.int x :: S) = some (pc', L, S) := by
  subst hp
  simp only [own_pgo, h1, own_pure, hb, own_br]
  cases b <;> rfl
end OwnPr
/-- where a walk stands -/
def OCtx : Type := Launch × State × Array Value × Program × Env × Room × State × MethodId × Array Value × List Frame × Method × Code
abbrev OCtx.l (X : OCtx) : Launch := X.1
abbrev OCtx.Z (X : OCtx) : State := X.2.1
abbrev OCtx.a0 (X : OCtx) : Array Value := X.2.2.1
abbrev OCtx.p (X : OCtx) : Program := X.2.2.2.1
abbrev OCtx.e (X : OCtx) : Env := X.2.2.2.2.1
abbrev OCtx.R (X : OCtx) : Room := X.2.2.2.2.2.1
abbrev OCtx.s (X : OCtx) : State := X.2.2.2.2.2.2.1
abbrev OCtx.m (X : OCtx) : MethodId := X.2.2.2.2.2.2.2.1
abbrev OCtx.args (X : OCtx) : Array Value := X.2.2.2.2.2.2.2.2.1
abbrev OCtx.below (X : OCtx) : List Frame := X.2.2.2.2.2.2.2.2.2.1
abbrev OCtx.meth (X : OCtx) : Method := X.2.2.2.2.2.2.2.2.2.2.1
abbrev OCtx.c (X : OCtx) : Code := X.2.2.2.2.2.2.2.2.2.2.2
def own_cx (X : OCtx) (mt : OMth) (i11 : Int32) (fm : Value) : Prop :=
  (X.p.tables.exec = Jvm.exec) ∧
  (X.c.code = mt.bs) ∧
  (X.c.maxLocals = mt.ml) ∧
  (X.meth.sig.returnType = mt.rt) ∧
  (X.meth.locks = false) ∧
  (∀ r ∈ mt.cd, ∀ x ∈ r, own_okI mt.bs x = true) ∧
  (X.s.heap = X.Z.heap) ∧
  (∀ d ∈ StrChars.Road.wordsChN, d.before X.a0 X.Z = true) ∧
  (∀ a ∈ Bundle.stringAtoms, a.before X.a0 X.Z = true) ∧
  (Jvm.Lit.compactW.before X.a0 X.Z = true) ∧
  ((Jvm.Cond.instantiable "java/lang/String" 4).before X.a0 X.Z = true) ∧
  ((Jvm.Cond.declares ⟨"java/lang/String", "charAt", "(I)C"⟩).before X.a0 X.Z = true) ∧
  ((Jvm.Cond.instanceMethod ⟨"java/lang/String", "charAt", "(I)C"⟩).before X.a0 X.Z = true) ∧
  ((Jvm.Cond.selects "java/lang/String" ⟨"java/lang/String", "charAt", "(I)C"⟩ ⟨"java/lang/String", "charAt", "(I)C"⟩).before X.a0 X.Z = true) ∧
  (Sta X.Z X.Z.heap "java/lang/String" "COMPACT_STRINGS" "Z" (.int i11)) ∧
  (¬ i11 = 0) ∧
  (Sta X.Z X.Z.heap "jdk/internal/util/Preconditions" "SIOOBE_FORMATTER" "Ljava/util/function/BiFunction;" fm) ∧
  (fm.isRef = true)
section OwnCx
variable {X : OCtx} {mt : OMth} {i11 : Int32} {fm : Value}
theorem own_cx.exec (K : own_cx X mt i11 fm) : X.p.tables.exec = Jvm.exec := K.1
theorem own_cx.by' (K : own_cx X mt i11 fm) : X.c.code = mt.bs := K.2.1
theorem own_cx.ml (K : own_cx X mt i11 fm) : X.c.maxLocals = mt.ml := K.2.2.1
theorem own_cx.ret (K : own_cx X mt i11 fm) : X.meth.sig.returnType = mt.rt := K.2.2.2.1
theorem own_cx.locks (K : own_cx X mt i11 fm) : X.meth.locks = false := K.2.2.2.2.1
theorem own_cx.cd (K : own_cx X mt i11 fm) : ∀ r ∈ mt.cd, ∀ x ∈ r, own_okI mt.bs x = true := K.2.2.2.2.2.1
theorem own_cx.heap (K : own_cx X mt i11 fm) : X.s.heap = X.Z.heap := K.2.2.2.2.2.2.1
theorem own_cx.chw (K : own_cx X mt i11 fm) : ∀ d ∈ StrChars.Road.wordsChN, d.before X.a0 X.Z = true := K.2.2.2.2.2.2.2.1
theorem own_cx.strw (K : own_cx X mt i11 fm) : ∀ a ∈ Bundle.stringAtoms, a.before X.a0 X.Z = true := K.2.2.2.2.2.2.2.2.1
theorem own_cx.cmp (K : own_cx X mt i11 fm) : Jvm.Lit.compactW.before X.a0 X.Z = true := K.2.2.2.2.2.2.2.2.2.1
theorem own_cx.kI (K : own_cx X mt i11 fm) : (Jvm.Cond.instantiable "java/lang/String" 4).before X.a0 X.Z = true := K.2.2.2.2.2.2.2.2.2.2.1
theorem own_cx.dec (K : own_cx X mt i11 fm) : (Jvm.Cond.declares ⟨"java/lang/String", "charAt", "(I)C"⟩).before X.a0 X.Z = true := K.2.2.2.2.2.2.2.2.2.2.2.1
theorem own_cx.ins (K : own_cx X mt i11 fm) : (Jvm.Cond.instanceMethod ⟨"java/lang/String", "charAt", "(I)C"⟩).before X.a0 X.Z = true := K.2.2.2.2.2.2.2.2.2.2.2.2.1
theorem own_cx.sel (K : own_cx X mt i11 fm) : (Jvm.Cond.selects "java/lang/String" ⟨"java/lang/String", "charAt", "(I)C"⟩ ⟨"java/lang/String", "charAt", "(I)C"⟩).before X.a0 X.Z = true := K.2.2.2.2.2.2.2.2.2.2.2.2.2.1
theorem own_cx.o2 (K : own_cx X mt i11 fm) : Sta X.Z X.Z.heap "java/lang/String" "COMPACT_STRINGS" "Z" (.int i11) := K.2.2.2.2.2.2.2.2.2.2.2.2.2.2.1
theorem own_cx.nz (K : own_cx X mt i11 fm) : ¬ i11 = 0 := K.2.2.2.2.2.2.2.2.2.2.2.2.2.2.2.1
theorem own_cx.o4 (K : own_cx X mt i11 fm) : Sta X.Z X.Z.heap "jdk/internal/util/Preconditions" "SIOOBE_FORMATTER" "Ljava/util/function/BiFunction;" fm := K.2.2.2.2.2.2.2.2.2.2.2.2.2.2.2.2.1
theorem own_cx.rf (K : own_cx X mt i11 fm) : fm.isRef = true := K.2.2.2.2.2.2.2.2.2.2.2.2.2.2.2.2.2
end OwnCx
section OwnStr
variable {l : Launch} {Z : State} {a0 : Array Value} {P : OPrg}
theorem own_pmet (G : own_good Z a0 P) {j d lo : Nat} {mj : OMth} {as : List Value} {z : Int32} (hj : P.1[j]? = some mj) (he : own_pr mj 0 (own_entry as mj.ml) [] z) (ws : List Jvm.Cond) (R : Room) (h : Heap) :
    MetFree l mj.nm (head1 (Jvm.Cond.code mj.nm mj.bs mj.ml mj.rt :: ws) R) (fun a U => a = (as.map (own_sh 0)).toArray ∧ Z.Warmed39 U.vm ∧ U.heap = h) (fun _ _ _ _ _ => True)
      (fun _ U o U' => ∃ w L, o = .returned w ∧ (w = some (.int z) ∧ U'.heap = h ∧ L = []) ∧ FrameEnd U o U' L 0 0) := by
  obtain ⟨GM, -, -⟩ := G
  obtain ⟨hpl, -, hcd, -⟩ := GM mj (List.mem_of_getElem? hj)
  refine MetFree.of_bodySF (plainFor_of_name hpl) hisR ?_
  intro p e s m args below meth c s₁ Bd hml0 hP hK
  obtain ⟨rfl, hZ, hh⟩ := hP
  have X0 : Stand p l e R s m _ below meth c s₁ [] 0 0 := Stand.of_body Bd
  have e0 : s₁.heap = h := by rw [← hh, Bd.state]; rfl
  obtain ⟨k, pc', L', S', ins, t, h1, h2, h3⟩ := he
  obtain ⟨len, hd0, ht⟩ := own_at_ok hcd h2
  have hvn : mj.rt = none → (some (Value.int z) : Option Value) = none := fun h => by
    exfalso
    simp only [own_ret, h] at h3
    split at h3
    · split at h3 <;> cases h3
    all_goals first | (split at h3 <;> simp_all) | cases h3
  obtain ⟨fs, hl, hrun, hended, hW, hsame⟩ := X0.leave (v := some (.int z)) (fun h => by rw [Bd.returns] at h; exact hvn h)
  have ef : entryFrame m (as.map (own_sh 0)).toArray mj.ml = own_fr 0 m 0 (own_entry as mj.ml) [] := by
    unfold entryFrame; rw [own_args_ok]; rfl
  have st := own_ret_ok (n := 0) (L := L') h3 X0 Bd.exec Bd.returns (by rw [Bd.bytes]; exact hd0) ht hl
  refine ⟨_, _, castTop ef (own_pgo_ok (n := 0) hcd X0.here Bd.exec Bd.bytes k h1 st).1, hrun, hended, _, _, rfl, ⟨rfl, e0, rfl⟩, ⟨_, rfl⟩, hW, hsame⟩
def own_lit (X : OCtx) (own : String) (vm0 : Vm) (h : Heap) (q : Nat × List Int32) (a b : Addr) (k : ClassId) : Prop :=
  Lit (X.s.setVm vm0) own q.1 a ∧ Exa X.Z h a "java/lang/String" ∧ Fld X.Z h a "java/lang/String" "coder" "B" (.int 0) ∧ Fld X.Z h a "java/lang/String" "value" "[B" (.ref b) ∧ Arv X.Z h b k .byte (Int32.ofNat q.2.length) ((q.2.map StrChars.lo8).map Value.int) (.int 0)
def own_st (X : OCtx) (own : String) (Ts : List String) (lits : List (Nat × List Int32)) (cells slots : Nat) (vm0 : Vm) (T : State) : Prop :=
  Stand X.p X.l X.e X.R (X.s.setVm vm0) X.m X.args X.below X.meth X.c T [] cells slots ∧ X.s.Since vm0 T.heap.size ∧ X.Z.Warmed39 vm0 ∧ vm0.findClass own = some X.m.cls ∧ IB X.Z vm0 Ts ∧ Ext X.Z.heap T.heap ∧ ∀ q ∈ lits, ∃ a b k, own_lit X own vm0 T.heap q a b k
def own_sw (X : OCtx) (own : String) (C W : Nat) (Ts : List String) (lits : List (Nat × List Int32)) (cells slots pc : Nat) (L : List Slot) (S : List Value) : Prop :=
  ∀ vm0 T, own_st X own Ts lits cells slots vm0 T → ∃ (T' : State) (fs : List Frame), Steps X.p.tables X.e X.below (T.setTop (own_fr 0 X.m pc L S)) (T'.setFrames fs) ∧ (T'.setFrames fs).status = .running ∧ Ended (T'.setFrames fs) X.below (.returned (some (.int 1))) ∧ ReturnedEndW X.s (.returned (some (.int 1))) (T'.setFrames fs) [] C W
variable {X : OCtx} {own : String} {C W cells slots pc : Nat} {Ts : List String} {lits : List (Nat × List Int32)} {L : List Slot} {S : List Value} {mt : OMth} {i11 : Int32} {fm : Value}
theorem own_sw.go (K : own_cx X mt i11 fm) (k : Nat) {pc' : Nat} {L' : List Slot} {S' : List Value} (h : own_pgo mt k pc L S = some (pc', L', S')) (q : own_sw X own C W Ts lits cells slots pc' L' S') : own_sw X own C W Ts lits cells slots pc L S := by
  intro vm0 T hs
  obtain ⟨T', fs, h1, h2⟩ := q vm0 T hs
  exact ⟨T', fs, (own_pgo_ok (n := 0) K.cd hs.1.here K.exec K.by' k h h1).1, h2⟩
theorem own_sw.ret (K : own_cx X mt i11 fm) {ins : Instr} {t : Nat} (h1 : own_at mt pc = some (ins, t)) (h2 : own_ret mt ins S = some (some (.int 1))) (hrt : mt.rt ≠ none) (hc : cells ≤ C) (hw : slots ≤ W) : own_sw X own C W Ts lits cells slots pc L S := by
  intro vm0 T hs
  obtain ⟨X1, hS, -⟩ := hs
  obtain ⟨len, hd0, ht⟩ := own_at_ok K.cd h1
  obtain ⟨fs, hl, hrun, hended, e1, e2, e3, e4⟩ := X1.leaveW hS (Nat.le_refl _) (v := some (.int 1)) (fun h => absurd (K.ret.symm.trans h) hrt) K.locks
  exact ⟨T, fs, own_ret_ok (n := 0) (L := L) h2 X1 K.exec K.ret (by rw [K.by']; exact hd0) ht hl, hrun, hended, e1, e2, e3, e4.mono hc hw⟩
theorem own_sw.ldcI (K : own_cx X mt i11 fm) {ix t : Nat} {v : Int32} (w : (Jvm.Cond.constant own ix v).before X.a0 X.Z = true) (h1 : own_at mt pc = some (.ldc ix, t)) (q : own_sw X own C W Ts lits cells slots t L (.int v :: S)) : own_sw X own C W Ts lits cells slots pc L S := by
  intro vm0 T hs
  obtain ⟨T', fs, f1, f2⟩ := q vm0 T hs
  obtain ⟨X1, hS, hZ, hown, -⟩ := hs
  obtain ⟨len, hd0, ht⟩ := own_at_ok K.cd h1
  have hd : decode X.c.code pc = .ok (.ldc ix, len) := by rw [K.by']; exact hd0
  obtain ⟨rfl, rfl⟩ := own_t ht
  exact ⟨T', fs, X1.ldcInt K.exec hown (mvT (s := X.s.setVm vm0) hZ w) (g := own_fr 0 X.m pc L S) rfl hd _ f1, f2⟩
theorem own_sw.call (K : own_cx X mt i11 fm) (G : own_good X.Z X.a0 P) (hM : mt ∈ P.1) (ho : mt.nm.cls = own) {x t j : Nat} {as r : List Value} {mj : OMth} {z : Int32} (h1 : own_at mt pc = some (.invokestatic x, t)) (h3 : own_call P mt (.invokestatic x) S [] = some (j, as, r)) (hj : P.1[j]? = some mj)
    (hL : L.length = mt.ml) (h4 : 1 ≤ X.R.frames ∧ own_wt r + (mj.ml + 11) ≤ X.R.locals) (he : own_pr mj 0 (own_entry as mj.ml) [] z) (hc : cells ≤ X.R.cells) (hw : slots ≤ X.R.slots) (q : own_sw X own C W Ts lits cells slots t L (.int z :: r)) : own_sw X own C W Ts lits cells slots pc L S := by
  intro vm0 T hs
  obtain ⟨X1, hS, hZ, hown, I, E, hl⟩ := hs
  subst ho
  obtain ⟨len, hd0, ht⟩ := own_at_ok K.cd h1
  have hd : decode X.c.code pc = .ok (.invokestatic x, len) := by rw [K.by']; exact hd0
  obtain ⟨rfl, rfl⟩ := own_t ht
  have G' := G
  obtain ⟨GM, -, -⟩ := G
  obtain ⟨-, -, -, GE⟩ := GM mt hM
  obtain ⟨-, wc, -, -⟩ := GM mj (List.mem_of_getElem? hj)
  simp only [own_call] at h3
  split at h3 <;> try cases h3
  rename_i j' u1 u2 hen
  split at h3 <;> try cases h3
  rename_i mj' hj'
  split at h3 <;> cases h3
  rename_i hsp
  cases hj.symm.trans hj'
  obtain ⟨mj', g1, g2, g3, g4, g5, ps, rr, g6, g7⟩ := GE _ (own_ent_mem hen)
  cases hj.symm.trans g1
  obtain ⟨s1, s2⟩ := own_split_ok hsp
  have hz : (L.map (own_shS 0)).toArray.size = X.c.maxLocals := by rw [K.ml, ← hL]; simp
  have hZ' : X.Z.Warmed39 (X.s.setVm vm0).vm := hZ
  have hK := backOf (rm := ({ frames := 0, cells := 0, slots := 0, locals := 0 } : Room)) (Q := fun w h' L => w = some (.int z) ∧ h' = T.heap ∧ L = []) (l := X.l) (h := T.heap) (R := X.R) (below := X.below) (e := X.e) (args := X.args) (p := X.p) (W := own_wt r) (len := 3) (own_pmet (d := 0) (lo := 0) G' hj he [] ({ frames := 0, cells := 0, slots := 0, locals := 0 } : Room) T.heap) hZ' wc g4 (by show 0 + 1 ≤ _; exact h4.1) (by show own_wt r + (mj.ml + 11) + 0 ≤ _; exact h4.2)
  have hW : 2 * (own_fr 0 X.m pc L S).monitorRoom + ((r.map (own_sh 0)).map fun v => v.category).sum ≤ own_wt r := by show 2 * 0 + _ ≤ _; rw [own_wt_sh]; omega
  obtain ⟨w, vm₁, ⟨T1, L1, k1, n1⟩, -, X1, ⟨Lc, hQ, l1, y1, z1⟩, st⟩ := Jvm.LawKit.callS X1 K.exec (y := mj.nm) hown (mvT hZ' g2) (mvT hZ' g3) (mvT hZ' g4) (mvT hZ' wc) g5 hK (g := own_fr 0 X.m pc L S) rfl hz (argsL := as.map (own_sh 0)) (rest := r.map (own_sh 0)) (lenOf g6 (by rw [List.length_map, s2, ← g7]; simp)) (by show S.map (own_sh 0) = _; rw [← List.map_reverse, ← List.map_append, s1]; rfl) hW hd (fun _ _ => ⟨rfl, rfl, by show cells + 0 ≤ _; exact hc, by show slots + 0 ≤ _; exact hw⟩)
  dsimp only [Pt.U, Pt.locs, Pt.cells, Pt.slots] at X1 l1 y1 z1 st hQ
  subst l1 y1 z1
  obtain ⟨rfl, q2, rfl⟩ := hQ
  obtain ⟨T', fs, f1, f2⟩ := q vm0 T1 ⟨X1, by rw [q2]; exact hS, hZ, hown, I, by rw [q2]; exact E, by rw [q2]; exact hl⟩
  exact ⟨T', fs, st _ f1, f2⟩
/-- charAt of a constant that lies on the stack -/
theorem own_chr (K : own_cx X mt i11 fm) {vm0 : Vm} {T : State} (hs : own_st X own Ts lits cells slots vm0 T) {ix : Nat} {cs : List Int32} {a b : Addr} {k : ClassId} (ll : own_lit X own vm0 T.heap (ix, cs) a b k)
    (hcs : cs.length ≤ 4000) (hb : ∀ x ∈ cs, ¬ x < 0 ∧ ¬ (255 : Int32) < x) {cx : Nat} (wl : (Jvm.Cond.methodLink own cx ⟨"java/lang/String", "charAt", "(I)C"⟩).before X.a0 X.Z = true)
    {pc2 t2 i : Nat} {L2 : List Slot} {S2 : List Value} {j : Int32} (h2 : own_at mt pc2 = some (.invokevirtual cx, t2)) (hL : L2.length = mt.ml) (hi : i < cs.length) (hj : j = Int32.ofNat i) (hfr : 4 ≤ X.R.frames) (hlo : own_wt S2 + 53 ≤ X.R.locals) (hc : cells ≤ X.R.cells) (hw : slots ≤ X.R.slots)
    (q : own_sw X own C W Ts lits cells slots t2 L2 (.int (cs.getD i 0) :: S2)) (sL : ∀ n, L2.map (own_shS n) = L2.map (own_shS 0)) (sS : ∀ n, S2.map (own_sh n) = S2.map (own_sh 0)) :
    ∃ (T' : State) (fs : List Frame), Steps X.p.tables X.e X.below (T.setTop (own_fr a X.m pc2 L2 (.int j :: .ref 0 :: S2))) (T'.setFrames fs) ∧ (T'.setFrames fs).status = .running ∧ Ended (T'.setFrames fs) X.below (.returned (some (.int 1))) ∧ ReturnedEndW X.s (.returned (some (.int 1))) (T'.setFrames fs) [] C W := by
  obtain ⟨X1, hS, hZ, hown, I, E, hl⟩ := hs
  obtain ⟨-, Ea, Fc, Fv, Av⟩ := ll
  obtain ⟨len, hd0, ht⟩ := own_at_ok K.cd h2
  have hd : decode X.c.code pc2 = .ok (.invokevirtual cx, len) := by rw [K.by']; exact hd0
  obtain ⟨rfl, rfl⟩ := own_t ht
  have hZ' : X.Z.Warmed39 (X.s.setVm vm0).vm := hZ
  have hz : (L2.map (own_shS a)).toArray.size = X.c.maxLocals := by rw [K.ml, ← hL]; simp
  have hcd : StrChars.Road.CodA cs 0 (Int32.ofNat cs.length) ((cs.map StrChars.lo8).map Value.int) := StrChars.Road.codOf (n := cs.length) rfl (fun x hx => (hb x hx).2)
  have hbd : ∀ x ∈ cs, ¬ x < 0 ∧ ¬ (65535 : Int32) < x := fun x hx => ⟨(hb x hx).1, fun h => (hb x hx).2 (Int32.lt_trans (by decide) h)⟩
  obtain ⟨cq, kq, qa, qb, qc⟩ := isOf hZ' rfl Ea
  have hW : 2 * (own_fr a X.m pc2 L2 (.int j :: .ref 0 :: S2)).monitorRoom + ((S2.map (own_sh a)).map fun v => v.category).sum ≤ own_wt S2 := by show 2 * 0 + _ ≤ _; rw [own_wt_sh]; omega
  obtain ⟨_, _, ⟨T1, L1, k1, n1⟩, -, X2, ⟨Lc, hQ, l1, y1, z1⟩, st⟩ := X1.virtualBack K.exec (y := (⟨"java/lang/String", "charAt", "(I)C"⟩ : MethodName)) (z := (⟨"java/lang/String", "charAt", "(I)C"⟩ : MethodName)) hown (mvT hZ' wl) (mvT hZ' K.dec) (notFace_of_selects (args := #[]) (mvT hZ' K.sel)) (mvT hZ' K.sel) (mvT hZ' K.ins) (by decide)
    (StrChars.Road.chN (W := own_wt S2) hZ' K.chw (kI := 4) K.kI Ea Fv Fc Av hcd hbd (K.o2.ext E) K.nz (K.o4.ext E) K.rf hcs (i := i) hi (j := j) hj hfr hlo) qa qc (g := own_fr a X.m pc2 L2 (.int j :: .ref 0 :: S2)) rfl hz (Steps.refl _) (argsL := [.int j]) (rest := S2.map (own_sh a)) (lenOf own_pdc rfl) rfl hW hd (fun _ _ => ⟨rfl, rfl, by show cells + 0 ≤ _; exact hc, by show slots + 0 ≤ _; exact hw⟩)
  dsimp only [Pt.U, Pt.locs, Pt.cells, Pt.slots] at X2 l1 y1 z1 st hQ
  subst l1 y1 z1
  obtain ⟨rfl, rfl, e2⟩ := hQ
  have e2' : T1.heap = T.heap := e2
  obtain ⟨T', fs, f1, f2⟩ := q vm0 T1 ⟨X2, by rw [e2']; exact hS, hZ, hown, I, by rw [e2']; exact E, by rw [e2']; exact hl⟩
  refine ⟨T', fs, st.trans ?_, f2⟩
  have ef : own_fr 0 X.m (pc2 + 3) L2 (.int (cs.getD i 0) :: S2) = own_fr a X.m (pc2 + 3) L2 (.int (cs.getD i 0) :: S2) := by
    simp only [own_fr, List.map_cons, sL a, sS a]; rfl
  exact castTop ef.symm f1
theorem own_sw.char (K : own_cx X mt i11 fm) {text : String} {ix : Nat} {cs : List Int32} (hcs : cs.length ≤ 4000) (hb : ∀ x ∈ cs, ¬ x < 0 ∧ ¬ (255 : Int32) < x) {cx : Nat} (wl : (Jvm.Cond.methodLink own cx ⟨"java/lang/String", "charAt", "(I)C"⟩).before X.a0 X.Z = true)
    (wt : (Jvm.Cond.stringLink own ix text).before X.a0 X.Z = true) (hnot : text ∉ Ts) (hh : Jvm.Lit.constHeld X.Z own ix) (htx : (∀ c ∈ text.toList, c.toNat < 256) ∧ text.toList.map (fun c => Value.int (Jvm.Lit.byteI c.toNat.toUInt16)) = (cs.map StrChars.lo8).map Value.int) (htl : text.toList.length = cs.length)
    {t1 pc2 t2 i k : Nat} {L2 : List Slot} {S2 : List Value} {j : Int32} (h1 : own_at mt pc = some (.ldc ix, t1)) (hp : own_pgo mt k t1 L (.ref 0 :: S) = some (pc2, L2, .int j :: .ref 0 :: S2)) (h2 : own_at mt pc2 = some (.invokevirtual cx, t2)) (hL : L.length = mt.ml) (hi : i < cs.length) (hj : j = Int32.ofNat i) (hfr : 4 ≤ X.R.frames) (hlo : own_wt S2 + 53 ≤ X.R.locals) (hc : cells + 2 ≤ X.R.cells) (hw : slots + (4 * cs.length + 4) ≤ X.R.slots)
    (sL0 : ∀ n, L.map (own_shS n) = L.map (own_shS 0)) (sS0 : ∀ n, S.map (own_sh n) = S.map (own_sh 0)) (sL : ∀ n, L2.map (own_shS n) = L2.map (own_shS 0)) (sS : ∀ n, S2.map (own_sh n) = S2.map (own_sh 0))
    (q : own_sw X own C W (text :: Ts) ((ix, cs) :: lits) (cells + 2) (slots + (4 * cs.length + 4)) t2 L2 (.int (cs.getD i 0) :: S2)) : own_sw X own C W Ts lits cells slots pc L S := by
  intro vm0 T hs
  obtain ⟨X1, hS, hZ, hown, I, E, hl⟩ := hs
  obtain ⟨len, hd0, ht⟩ := own_at_ok K.cd h1
  have hd : decode X.c.code pc = .ok (.ldc ix, len) := by rw [K.by']; exact hd0
  obtain ⟨rfl, rfl⟩ := own_t ht
  have hle : cs.length < 2 ^ 31 := Nat.lt_of_le_of_lt hcs (by decide)
  obtain ⟨z1, z2⟩ := own_len hle
  obtain ⟨a, T', h', k1, b, kk, X2, eT, E2, hS2, hk1, hZ2, hown2, Ea, Fc, Fv, Av, -, -, I2, Lt, st⟩ := ldcSVL (s := X.s.setVm vm0) (z := Int32.ofNat cs.length) X1 K.exec hZ hown wt K.strw rfl ((State.WarmedH.refl (X.s.setVm vm0)).since T.heap.size) (Nat.le_refl _) (Fr.nil _) (fun b cl hb => by show X.s.heap[b]? = _; rw [K.heap]; exact hb) I hnot hh K.cmp htx z2 (by rw [List.length_map, List.length_map]; exact z1) (g := own_fr 0 X.m pc L S) rfl hd (n := 4 * cs.length) (by rw [htl]; exact Nat.le_refl _) (by omega) hc hw
  subst eT
  have hW2 : (X.s.setVm vm0).Warmed39 T'.vm := hS2.1
  have hs2 : own_st X own (text :: Ts) ((ix, cs) :: lits) (cells + 2) (slots + (4 * cs.length + 4)) T'.vm T' := by
    refine ⟨X2, hS.trans ⟨hS2.1, fun j p h1 h2 => ?_⟩ E2.1, hZ2, hown2, I2, ⟨Nat.le_trans E.1 E2.1, fun a c h => E2.2 _ _ (E.2 _ _ h)⟩, fun q hq => ?_⟩
    · obtain ⟨x1, x2⟩ := hS2.2 j p h1 h2
      exact ⟨x1, Nat.lt_of_lt_of_le x2 hk1⟩
    · rcases List.mem_cons.mp hq with rfl | hq
      · exact ⟨a, b, kk, Lt, Ea, Fc, Fv, Av⟩
      · obtain ⟨a', b', k', L', E', C', V', A'⟩ := hl q hq
        exact ⟨a', b', k', Lit.stays L' hW2, Exa.ext E2 E', Fld.ext E2 C', Fld.ext E2 V', Arv.ext A' E2⟩
  have hl2 : L2.length = L.length := by
    have := (own_pgo_ok (n := a) (p := X.p) (e := X.e) (target := T'.setTop (own_fr a X.m pc2 L2 (.int j :: .ref 0 :: S2))) K.cd X2.here K.exec K.by' k hp (Steps.refl _)).2
    exact this
  obtain ⟨T3, fs, f1, f2⟩ := own_chr K hs2 ⟨Lt, Ea, Fc, Fv, Av⟩ hcs hb wl h2 (hl2.trans hL) hi hj hfr hlo hc hw q sL sS
  refine ⟨T3, fs, st _ ?_, f2⟩
  have ef : own_fr a X.m (pc + 2) L (.ref 0 :: S) = { own_fr 0 X.m pc L S with pc := pc + 2, stack := .ref a :: S.map (own_sh 0) } := by
    simp only [own_fr, List.map_cons, sL0 a, sS0 a]; rfl
  exact castTop ef.symm (own_pgo_ok (n := a) K.cd X2.here K.exec K.by' k hp f1).1
theorem own_sw.again (K : own_cx X mt i11 fm) {text : String} {ix : Nat} {cs : List Int32} (hm : (ix, cs) ∈ lits) (hcs : cs.length ≤ 4000) (hb : ∀ x ∈ cs, ¬ x < 0 ∧ ¬ (255 : Int32) < x) {cx : Nat} (wl : (Jvm.Cond.methodLink own cx ⟨"java/lang/String", "charAt", "(I)C"⟩).before X.a0 X.Z = true)
    (wt : (Jvm.Cond.stringLink own ix text).before X.a0 X.Z = true)
    {t1 pc2 t2 i k : Nat} {L2 : List Slot} {S2 : List Value} {j : Int32} (h1 : own_at mt pc = some (.ldc ix, t1)) (hp : own_pgo mt k t1 L (.ref 0 :: S) = some (pc2, L2, .int j :: .ref 0 :: S2)) (h2 : own_at mt pc2 = some (.invokevirtual cx, t2)) (hL : L.length = mt.ml) (hi : i < cs.length) (hj : j = Int32.ofNat i) (hfr : 4 ≤ X.R.frames) (hlo : own_wt S2 + 53 ≤ X.R.locals) (hc : cells ≤ X.R.cells) (hw : slots ≤ X.R.slots)
    (sL0 : ∀ n, L.map (own_shS n) = L.map (own_shS 0)) (sS0 : ∀ n, S.map (own_sh n) = S.map (own_sh 0)) (sL : ∀ n, L2.map (own_shS n) = L2.map (own_shS 0)) (sS : ∀ n, S2.map (own_sh n) = S2.map (own_sh 0))
    (q : own_sw X own C W Ts lits cells slots t2 L2 (.int (cs.getD i 0) :: S2)) : own_sw X own C W Ts lits cells slots pc L S := by
  intro vm0 T hs
  have hs' := hs
  obtain ⟨X1, hS, hZ, hown, I, E, hl⟩ := hs
  obtain ⟨len, hd0, ht⟩ := own_at_ok K.cd h1
  have hd : decode X.c.code pc = .ok (.ldc ix, len) := by rw [K.by']; exact hd0
  obtain ⟨rfl, rfl⟩ := own_t ht
  obtain ⟨a, b, kk, ll⟩ := hl _ hm
  have hl2 : L2.length = L.length := by
    have := (own_pgo_ok (n := a) (p := X.p) (e := X.e) (target := T.setTop (own_fr a X.m pc2 L2 (.int j :: .ref 0 :: S2))) K.cd X1.here K.exec K.by' k hp (Steps.refl _)).2
    exact this
  obtain ⟨T3, fs, f1, f2⟩ := own_chr K hs' ll hcs hb wl h2 (hl2.trans hL) hi hj hfr hlo hc hw q sL sS
  refine ⟨T3, fs, ldcAgain X1 K.exec hZ hown wt ll.1 (g := own_fr 0 X.m pc L S) rfl hd _ ?_, f2⟩
  have ef : own_fr a X.m (pc + 2) L (.ref 0 :: S) = { own_fr 0 X.m pc L S with pc := pc + 2, stack := .ref a :: S.map (own_sh 0) } := by
    simp only [own_fr, List.map_cons, sL0 a, sS0 a]; rfl
  exact castTop ef.symm (own_pgo_ok (n := a) K.cd X1.here K.exec K.by' k hp f1).1
end OwnStr
/-! ## the program: printed by wip/tools/gen.py out of the sheet -/
def own_r0 : List (List ORow) := [[(0, .iload_n 0, 1), (1, .ldc 7, 3), (3, .iand, 4), (4, .i2c, 5), (5, .istore_n 2, 6), (6, .iload_n 1, 7), (7, .bipush 15, 9), (9, .iand, 10), (10, .istore_n 3, 11), (11, .ldc 8, 13), (13, .iload_n 3, 14), (14, .invokevirtual 10, 17)],
  [(17, .istore 4, 19), (19, .ldc 16, 21), (21, .iload_n 3, 22), (22, .invokevirtual 10, 25), (25, .istore 5, 27), (27, .iload 4, 29), (29, .invokestatic 18, 32)],
  [(32, .iload_n 3, 33), (33, .if_icmp .ne 12, 45), (36, .iload 5, 38), (38, .invokestatic 18, 41), (41, .iload_n 3, 42), (42, .if_icmp .eq 5, 47), (45, .iconst 0, 46), (46, .ireturn, 47), (47, .iload_n 2, 48)],
  [(48, .invokestatic 18, 51), (51, .istore 6, 53), (53, .iload 6, 55), (55, .iconst (-1), 56), (56, .if_icmp .eq 41, 97), (59, .iload 6, 61), (61, .ifCond .lt 10, 71)],
  [(64, .iload 6, 66), (66, .bipush 15, 68), (68, .if_icmp .le 5, 73), (71, .iconst 0, 72), (72, .ireturn, 73), (73, .iload_n 2, 74), (74, .ldc 8, 76), (76, .iload 6, 78), (78, .invokevirtual 10, 81)],
  [(81, .if_icmp .eq 16, 97), (84, .iload_n 2, 85), (85, .ldc 16, 87), (87, .iload 6, 89), (89, .invokevirtual 10, 92), (92, .if_icmp .eq 5, 97), (95, .iconst 0, 96)],
  [(96, .ireturn, 97), (97, .iload_n 2, 98), (98, .iload 4, 100), (100, .if_icmp .eq 9, 109), (103, .iload_n 2, 104), (104, .iload 5, 106), (106, .if_icmp .ne 11, 117), (109, .iload 6, 111), (111, .iload_n 3, 112)],
  [(112, .if_icmp .eq 5, 117), (115, .iconst 0, 116), (116, .ireturn, 117), (117, .iconst 1, 118), (118, .ireturn, 119)]]
def own_m0 : OMth := (x, code, maxLocals, ret, 2, own_r0, [(7, (8, 0, 0, 65535)), (18, (0, 1, 0, 0))])
def own_r1 : List (List ORow) := [[(0, .iload_n 0, 1), (1, .bipush 48, 3), (3, .if_icmp .lt 14, 17), (6, .iload_n 0, 7), (7, .bipush 57, 9), (9, .if_icmp .gt 8, 17), (12, .iload_n 0, 13), (13, .bipush 48, 15), (15, .isub, 16)],
  [(16, .ireturn, 17), (17, .iload_n 0, 18), (18, .bipush 97, 20), (20, .if_icmp .lt 17, 37), (23, .iload_n 0, 24), (24, .bipush 102, 26), (26, .if_icmp .gt 11, 37), (29, .iload_n 0, 30), (30, .bipush 97, 32)],
  [(32, .isub, 33), (33, .bipush 10, 35), (35, .iadd, 36), (36, .ireturn, 37), (37, .iload_n 0, 38), (38, .bipush 65, 40), (40, .if_icmp .lt 17, 57), (43, .iload_n 0, 44), (44, .bipush 70, 46), (46, .if_icmp .gt 11, 57)],
  [(49, .iload_n 0, 50), (50, .bipush 65, 52), (52, .isub, 53), (53, .bipush 10, 55), (55, .iadd, 56), (56, .ireturn, 57), (57, .iconst (-1), 58), (58, .ireturn, 59)]]
def own_m1 : OMth := (⟨"com/example/bracewise/bracewise/value/Numbers", "digitValue", "(C)I"⟩, prog_92_method_35_code, 1, (some .int), 1, own_r1, [])
def own_P : OPrg := ([own_m0, own_m1], [], [])
theorem own_pd0 : parseMethodDescriptor "(C)I" = some ⟨[.char], some .int⟩ := by decide +kernel
theorem own_pn0 : plainName "com/example/bracewise/bracewise/value/NumbersDigitValuePinLaw" = true := by first | (simp [plainName, overriddenIn]; done) | decide +kernel
theorem own_pn1 : plainName "com/example/bracewise/bracewise/value/Numbers" = true := by first | (simp [plainName, overriddenIn]; done) | decide +kernel
theorem own_rk0 : ∀ r ∈ own_r0, ∀ x ∈ r, own_okI code x = true := by decide +kernel
theorem own_rk1 : ∀ r ∈ own_r1, ∀ x ∈ r, own_okI prog_92_method_35_code x = true := by decide +kernel
abbrev own_hw (Z : State) (a0 : Array Value) : Prop := ∀ d ∈ Jvm.Cond.code x code maxLocals ret :: tables_1, d.before a0 Z = true
set_option maxRecDepth 65536 in
theorem own_g0 {Z : State} {a0 : Array Value} (hw : own_hw Z a0) : own_okM Z a0 own_P own_m0 := ⟨own_pn0, (hw _ (List.mem_of_getElem? (i := 0) rfl)), own_rk0, List.forall_mem_cons.mpr ⟨own_e8 (by decide) (hw _ (List.mem_of_getElem? (i := 1) rfl)),
    List.forall_mem_cons.mpr ⟨own_e0 (mj := own_m1) rfl (hw _ (List.mem_of_getElem? (i := 36) rfl)) (hw _ (List.mem_of_getElem? (i := 37) rfl)) (hw _ (List.mem_of_getElem? (i := 38) rfl)) ⟨by decide, by decide⟩ ⟨_, _, own_pd0, rfl⟩,
    List.forall_mem_nil _⟩⟩⟩
set_option maxRecDepth 65536 in
theorem own_g1 {Z : State} {a0 : Array Value} (hw : own_hw Z a0) : own_okM Z a0 own_P own_m1 := ⟨own_pn1, (hw _ (List.mem_of_getElem? (i := 39) rfl)), own_rk1, List.forall_mem_nil _⟩
theorem own_G {Z : State} {a0 : Array Value} (hw : own_hw Z a0) : own_good Z a0 own_P := by
  refine ⟨List.forall_mem_cons.mpr ⟨own_g0 hw, List.forall_mem_cons.mpr ⟨own_g1 hw, List.forall_mem_nil _⟩⟩, ?_, ?_⟩
  · intro k c hk
    simp [own_P] at hk
  · exact List.forall_mem_nil _
/-! ## the law -/
def own_lo : List Int32 := [48, 49, 50, 51, 52, 53, 54, 55, 56, 57, 97, 98, 99, 100, 101, 102]
def own_up : List Int32 := [48, 49, 50, 51, 52, 53, 54, 55, 56, 57, 65, 66, 67, 68, 69, 70]
theorem own_dv0 {r : Nat} (h : r < 16) : own_pr own_m1 0 [.val (.int (own_lo.getD r 0))] [] (Int32.ofNat r) := own_prun_ok 40 ((by decide +kernel : ∀ r : Fin 16, own_prun own_m1 40 0 [.val (.int (own_lo.getD r.val 0))] [] = some (Int32.ofNat r.val)) ⟨r, h⟩)
theorem own_dv1 {r : Nat} (h : r < 16) : own_pr own_m1 0 [.val (.int (own_up.getD r 0))] [] (Int32.ofNat r) := own_prun_ok 40 ((by decide +kernel : ∀ r : Fin 16, own_prun own_m1 40 0 [.val (.int (own_up.getD r.val 0))] [] = some (Int32.ofNat r.val)) ⟨r, h⟩)
theorem own_inj {r i : Nat} (hr : r < 16) (hi : i < 16) {c : Int32} (h1 : c = own_lo.getD r 0 ∨ c = own_up.getD r 0) (h2 : c = own_lo.getD i 0 ∨ c = own_up.getD i 0) : r = i := by
  have t : ∀ r i : Fin 16, (own_lo.getD r.val 0 = own_lo.getD i.val 0 ∨ own_lo.getD r.val 0 = own_up.getD i.val 0 ∨ own_up.getD r.val 0 = own_lo.getD i.val 0 ∨ own_up.getD r.val 0 = own_up.getD i.val 0) → r.val = i.val := by decide +kernel
  refine t ⟨r, hr⟩ ⟨i, hi⟩ ?_
  rcases h1 with rfl | rfl
  · rcases h2 with h | h
    · exact Or.inl h
    · exact Or.inr (Or.inl h)
  · rcases h2 with h | h
    · exact Or.inr (Or.inr (Or.inl h))
    · exact Or.inr (Or.inr (Or.inr h))
theorem own_rng {c : Int32} (hx : ¬ ∃ r, r < 16 ∧ (c = own_lo.getD r 0 ∨ c = own_up.getD r 0)) : (c < 48 ∨ 57 < c) ∧ (c < 97 ∨ 102 < c) ∧ (c < 65 ∨ 70 < c) := by
  have e : ∀ k : Int32, c.toInt = k.toInt → c = k := fun k h => Int32.toInt_inj.mp h
  simp only [Int32.lt_iff_toInt_lt, Int32.reduceToInt]
  refine ⟨?_, ?_, ?_⟩
  · by_cases q : c.toInt < 48 ∨ 57 < c.toInt
    · exact q
    · exfalso
      have : c.toInt = 48 ∨ c.toInt = 49 ∨ c.toInt = 50 ∨ c.toInt = 51 ∨ c.toInt = 52 ∨ c.toInt = 53 ∨ c.toInt = 54 ∨ c.toInt = 55 ∨ c.toInt = 56 ∨ c.toInt = 57 := by omega
      rcases this with q | q | q | q | q | q | q | q | q | q
      · exact hx ⟨0, by decide, Or.inl (e 48 q)⟩
      · exact hx ⟨1, by decide, Or.inl (e 49 q)⟩
      · exact hx ⟨2, by decide, Or.inl (e 50 q)⟩
      · exact hx ⟨3, by decide, Or.inl (e 51 q)⟩
      · exact hx ⟨4, by decide, Or.inl (e 52 q)⟩
      · exact hx ⟨5, by decide, Or.inl (e 53 q)⟩
      · exact hx ⟨6, by decide, Or.inl (e 54 q)⟩
      · exact hx ⟨7, by decide, Or.inl (e 55 q)⟩
      · exact hx ⟨8, by decide, Or.inl (e 56 q)⟩
      · exact hx ⟨9, by decide, Or.inl (e 57 q)⟩
  · by_cases q : c.toInt < 97 ∨ 102 < c.toInt
    · exact q
    · exfalso
      have : c.toInt = 97 ∨ c.toInt = 98 ∨ c.toInt = 99 ∨ c.toInt = 100 ∨ c.toInt = 101 ∨ c.toInt = 102 := by omega
      rcases this with q | q | q | q | q | q
      · exact hx ⟨10, by decide, Or.inl (e 97 q)⟩
      · exact hx ⟨11, by decide, Or.inl (e 98 q)⟩
      · exact hx ⟨12, by decide, Or.inl (e 99 q)⟩
      · exact hx ⟨13, by decide, Or.inl (e 100 q)⟩
      · exact hx ⟨14, by decide, Or.inl (e 101 q)⟩
      · exact hx ⟨15, by decide, Or.inl (e 102 q)⟩
  · by_cases q : c.toInt < 65 ∨ 70 < c.toInt
    · exact q
    · exfalso
      have : c.toInt = 65 ∨ c.toInt = 66 ∨ c.toInt = 67 ∨ c.toInt = 68 ∨ c.toInt = 69 ∨ c.toInt = 70 := by omega
      rcases this with q | q | q | q | q | q
      · exact hx ⟨10, by decide, Or.inr (e 65 q)⟩
      · exact hx ⟨11, by decide, Or.inr (e 66 q)⟩
      · exact hx ⟨12, by decide, Or.inr (e 67 q)⟩
      · exact hx ⟨13, by decide, Or.inr (e 68 q)⟩
      · exact hx ⟨14, by decide, Or.inr (e 69 q)⟩
      · exact hx ⟨15, by decide, Or.inr (e 70 q)⟩
set_option maxRecDepth 65536 in
theorem own_dvn {c : Int32} (hx : ¬ ∃ r, r < 16 ∧ (c = own_lo.getD r 0 ∨ c = own_up.getD r 0)) : own_pr own_m1 0 [.val (.int c)] [] (-1 : Int32) := by
  obtain ⟨r1, r2, r3⟩ := own_rng hx
  have p57 : own_pr own_m1 57 [.val (.int c)] [] (-1 : Int32) := own_pr.go 1 (pc' := 58) (L' := [.val (.int c)]) (S' := [.int (-1 : Int32)]) rfl (own_pr.ret (ins := .ireturn) (t := 59) rfl rfl)
  have p37 : own_pr own_m1 37 [.val (.int c)] [] (-1 : Int32) := by
    refine own_pr.go 2 (pc' := 40) (L' := [.val (.int c)]) (S' := [.int (65 : Int32), .int c]) rfl ?_
    by_cases q : c < (65 : Int32)
    · exact own_pr.go 1 (own_p2 (cd := .lt) (t := 57) (b := true) (pc' := 57) rfl (tlt q).1 rfl) p57
    · have q2 : (70 : Int32) < c := r3.resolve_left q
      refine own_pr.go 1 (own_p2 (cd := .lt) (t := 57) (b := false) (pc' := 43) rfl (flt q).1 rfl) ?_
      refine own_pr.go 2 (pc' := 46) (L' := [.val (.int c)]) (S' := [.int (70 : Int32), .int c]) rfl ?_
      exact own_pr.go 1 (own_p2 (cd := .gt) (t := 57) (b := true) (pc' := 57) rfl (tlt q2).2.2.1 rfl) p57
  have p17 : own_pr own_m1 17 [.val (.int c)] [] (-1 : Int32) := by
    refine own_pr.go 2 (pc' := 20) (L' := [.val (.int c)]) (S' := [.int (97 : Int32), .int c]) rfl ?_
    by_cases q : c < (97 : Int32)
    · exact own_pr.go 1 (own_p2 (cd := .lt) (t := 37) (b := true) (pc' := 37) rfl (tlt q).1 rfl) p37
    · have q2 : (102 : Int32) < c := r2.resolve_left q
      refine own_pr.go 1 (own_p2 (cd := .lt) (t := 37) (b := false) (pc' := 23) rfl (flt q).1 rfl) ?_
      refine own_pr.go 2 (pc' := 26) (L' := [.val (.int c)]) (S' := [.int (102 : Int32), .int c]) rfl ?_
      exact own_pr.go 1 (own_p2 (cd := .gt) (t := 37) (b := true) (pc' := 37) rfl (tlt q2).2.2.1 rfl) p37
  have p0 : own_pr own_m1 0 [.val (.int c)] [] (-1 : Int32) := by
    refine own_pr.go 2 (pc' := 3) (L' := [.val (.int c)]) (S' := [.int (48 : Int32), .int c]) rfl ?_
    by_cases q : c < (48 : Int32)
    · exact own_pr.go 1 (own_p2 (cd := .lt) (t := 17) (b := true) (pc' := 17) rfl (tlt q).1 rfl) p17
    · have q2 : (57 : Int32) < c := r1.resolve_left q
      refine own_pr.go 1 (own_p2 (cd := .lt) (t := 17) (b := false) (pc' := 6) rfl (flt q).1 rfl) ?_
      refine own_pr.go 2 (pc' := 9) (L' := [.val (.int c)]) (S' := [.int (57 : Int32), .int c]) rfl ?_
      exact own_pr.go 1 (own_p2 (cd := .gt) (t := 17) (b := true) (pc' := 17) rfl (tlt q2).2.2.1 rfl) p17
  exact p0
set_option maxRecDepth 65536 in
set_option maxHeartbeats 4000000 in
theorem own_e97 {X : OCtx} {i11 : Int32} {fm : Value} (K : own_cx X own_m0 i11 fm) (G : own_good X.Z X.a0 own_P) (hR : X.R = room_1) (i0 i1 c z : Int32) (i : Nat) (hz : (c = own_lo.getD i 0 ∨ c = own_up.getD i 0) → z = Int32.ofNat i) : own_sw X "com/example/bracewise/bracewise/value/NumbersDigitValuePinLaw" 8 2112 ["0123456789ABCDEF", "0123456789abcdef"] [(16, own_up), (8, own_lo)] 4 136 97 [.val (.int i0), .val (.int i1), .val (.int c), .val (.int (Int32.ofNat i)), .val (.int (own_lo.getD i 0)), .val (.int (own_up.getD i 0)), .val (.int z)] [] := by
  have k117 : own_sw X "com/example/bracewise/bracewise/value/NumbersDigitValuePinLaw" 8 2112 ["0123456789ABCDEF", "0123456789abcdef"] [(16, own_up), (8, own_lo)] 4 136 117 [.val (.int i0), .val (.int i1), .val (.int c), .val (.int (Int32.ofNat i)), .val (.int (own_lo.getD i 0)), .val (.int (own_up.getD i 0)), .val (.int z)] [] := own_sw.go K 1 (pc' := 118) (L' := [.val (.int i0), .val (.int i1), .val (.int c), .val (.int (Int32.ofNat i)), .val (.int (own_lo.getD i 0)), .val (.int (own_up.getD i 0)), .val (.int z)]) (S' := [.int (1 : Int32)]) rfl (own_sw.ret K (ins := .ireturn) (t := 119) rfl rfl (by decide) (by decide) (by decide))
  have k109 : z = Int32.ofNat i → own_sw X "com/example/bracewise/bracewise/value/NumbersDigitValuePinLaw" 8 2112 ["0123456789ABCDEF", "0123456789abcdef"] [(16, own_up), (8, own_lo)] 4 136 109 [.val (.int i0), .val (.int i1), .val (.int c), .val (.int (Int32.ofNat i)), .val (.int (own_lo.getD i 0)), .val (.int (own_up.getD i 0)), .val (.int z)] [] := fun q => own_sw.go K 2 (pc' := 112) (L' := [.val (.int i0), .val (.int i1), .val (.int c), .val (.int (Int32.ofNat i)), .val (.int (own_lo.getD i 0)), .val (.int (own_up.getD i 0)), .val (.int z)]) (S' := [.int (Int32.ofNat i), .int z]) rfl (own_sw.go K 1 (own_p2 (cd := .eq) (t := 117) (b := true) (pc' := 117) rfl (teq q).1 rfl) k117)
  refine own_sw.go K 2 (pc' := 100) (L' := [.val (.int i0), .val (.int i1), .val (.int c), .val (.int (Int32.ofNat i)), .val (.int (own_lo.getD i 0)), .val (.int (own_up.getD i 0)), .val (.int z)]) (S' := [.int (own_lo.getD i 0), .int c]) rfl ?_
  by_cases q : c = own_lo.getD i 0
  · exact own_sw.go K 1 (own_p2 (cd := .eq) (t := 109) (b := true) (pc' := 109) rfl (teq q).1 rfl) (k109 (hz (Or.inl q)))
  · refine own_sw.go K 1 (own_p2 (cd := .eq) (t := 109) (b := false) (pc' := 103) rfl (feq q).1 rfl) ?_
    refine own_sw.go K 2 (pc' := 106) (L' := [.val (.int i0), .val (.int i1), .val (.int c), .val (.int (Int32.ofNat i)), .val (.int (own_lo.getD i 0)), .val (.int (own_up.getD i 0)), .val (.int z)]) (S' := [.int (own_up.getD i 0), .int c]) rfl ?_
    by_cases q2 : c = own_up.getD i 0
    · exact own_sw.go K 1 (own_p2 (cd := .ne) (t := 117) (b := false) (pc' := 109) rfl (teq q2).2 rfl) (k109 (hz (Or.inr q2)))
    · exact own_sw.go K 1 (own_p2 (cd := .ne) (t := 117) (b := true) (pc' := 117) rfl (feq q2).2 rfl) k117
set_option maxRecDepth 65536 in
set_option maxHeartbeats 4000000 in
theorem own_hex {X : OCtx} {i11 : Int32} {fm : Value} (K : own_cx X own_m0 i11 fm) (G : own_good X.Z X.a0 own_P) (hR : X.R = room_1) (wl : (Jvm.Cond.methodLink "com/example/bracewise/bracewise/value/NumbersDigitValuePinLaw" 10 ⟨"java/lang/String", "charAt", "(I)C"⟩).before X.a0 X.Z = true) (wt8 : (Jvm.Cond.stringLink "com/example/bracewise/bracewise/value/NumbersDigitValuePinLaw" 8 "0123456789abcdef").before X.a0 X.Z = true) (wt16 : (Jvm.Cond.stringLink "com/example/bracewise/bracewise/value/NumbersDigitValuePinLaw" 16 "0123456789ABCDEF").before X.a0 X.Z = true) (i0 i1 c : Int32) (i r : Nat) (hi : i < 16) (hr : r < 16) (hc : c = own_lo.getD r 0 ∨ c = own_up.getD r 0) : own_sw X "com/example/bracewise/bracewise/value/NumbersDigitValuePinLaw" 8 2112 ["0123456789ABCDEF", "0123456789abcdef"] [(16, own_up), (8, own_lo)] 4 136 53 [.val (.int i0), .val (.int i1), .val (.int c), .val (.int (Int32.ofNat i)), .val (.int (own_lo.getD i 0)), .val (.int (own_up.getD i 0)), .val (.int (Int32.ofNat r))] [] := by
  have f1 : if_icmp.holds .eq (Int32.ofNat r) (-1 : Int32) = false := (by decide +kernel : ∀ r : Fin 16, if_icmp.holds .eq (Int32.ofNat r.val) (-1 : Int32) = false) ⟨r, hr⟩
  have f2 : ifCond.holds .lt (Int32.ofNat r) = false := (by decide +kernel : ∀ r : Fin 16, ifCond.holds .lt (Int32.ofNat r.val) = false) ⟨r, hr⟩
  have f3 : if_icmp.holds .le (Int32.ofNat r) (15 : Int32) = true := (by decide +kernel : ∀ r : Fin 16, if_icmp.holds .le (Int32.ofNat r.val) (15 : Int32) = true) ⟨r, hr⟩
  have k97 := own_e97 K G hR i0 i1 c (Int32.ofNat r) i (fun h => by rw [own_inj hr hi hc h])
  refine own_sw.go K 2 (pc' := 56) (L' := [.val (.int i0), .val (.int i1), .val (.int c), .val (.int (Int32.ofNat i)), .val (.int (own_lo.getD i 0)), .val (.int (own_up.getD i 0)), .val (.int (Int32.ofNat r))]) (S' := [.int (-1 : Int32), .int (Int32.ofNat r)]) rfl ?_
  refine own_sw.go K 1 (own_p2 (cd := .eq) (t := 97) (b := false) (pc' := 59) rfl f1 rfl) ?_
  refine own_sw.go K 1 (pc' := 61) (L' := [.val (.int i0), .val (.int i1), .val (.int c), .val (.int (Int32.ofNat i)), .val (.int (own_lo.getD i 0)), .val (.int (own_up.getD i 0)), .val (.int (Int32.ofNat r))]) (S' := [.int (Int32.ofNat r)]) rfl ?_
  refine own_sw.go K 1 (own_p1 (cd := .lt) (t := 71) (b := false) (pc' := 64) rfl f2 rfl) ?_
  refine own_sw.go K 2 (pc' := 68) (L' := [.val (.int i0), .val (.int i1), .val (.int c), .val (.int (Int32.ofNat i)), .val (.int (own_lo.getD i 0)), .val (.int (own_up.getD i 0)), .val (.int (Int32.ofNat r))]) (S' := [.int (15 : Int32), .int (Int32.ofNat r)]) rfl ?_
  refine own_sw.go K 1 (own_p2 (cd := .le) (t := 73) (b := true) (pc' := 73) rfl f3 rfl) ?_
  refine own_sw.go K 1 (pc' := 74) (L' := [.val (.int i0), .val (.int i1), .val (.int c), .val (.int (Int32.ofNat i)), .val (.int (own_lo.getD i 0)), .val (.int (own_up.getD i 0)), .val (.int (Int32.ofNat r))]) (S' := [.int c]) rfl ?_
  refine own_sw.again K (text := "0123456789abcdef") (ix := 8) (cs := own_lo) (List.mem_of_getElem? (i := 1) rfl) (by decide) (by decide) (cx := 10) wl wt8 (t1 := 76) (pc2 := 78) (t2 := 81) (i := r) (k := 1) (L2 := [.val (.int i0), .val (.int i1), .val (.int c), .val (.int (Int32.ofNat i)), .val (.int (own_lo.getD i 0)), .val (.int (own_up.getD i 0)), .val (.int (Int32.ofNat r))]) (S2 := [.int c]) (j := (Int32.ofNat r)) rfl rfl rfl rfl hr rfl (by rw [hR]; decide) (by rw [hR]; exact Nat.le_of_ble_eq_true rfl) (by rw [hR]; decide) (by rw [hR]; decide) (fun _ => rfl) (fun _ => rfl) (fun _ => rfl) (fun _ => rfl) ?_
  by_cases q : c = own_lo.getD r 0
  · exact own_sw.go K 1 (own_p2 (cd := .eq) (t := 97) (b := true) (pc' := 97) rfl (teq q).1 rfl) k97
  · have q2 := hc.resolve_left q
    refine own_sw.go K 1 (own_p2 (cd := .eq) (t := 97) (b := false) (pc' := 84) rfl (feq q).1 rfl) ?_
    refine own_sw.go K 1 (pc' := 85) (L' := [.val (.int i0), .val (.int i1), .val (.int c), .val (.int (Int32.ofNat i)), .val (.int (own_lo.getD i 0)), .val (.int (own_up.getD i 0)), .val (.int (Int32.ofNat r))]) (S' := [.int c]) rfl ?_
    refine own_sw.again K (text := "0123456789ABCDEF") (ix := 16) (cs := own_up) (List.mem_of_getElem? (i := 0) rfl) (by decide) (by decide) (cx := 10) wl wt16 (t1 := 87) (pc2 := 89) (t2 := 92) (i := r) (k := 1) (L2 := [.val (.int i0), .val (.int i1), .val (.int c), .val (.int (Int32.ofNat i)), .val (.int (own_lo.getD i 0)), .val (.int (own_up.getD i 0)), .val (.int (Int32.ofNat r))]) (S2 := [.int c]) (j := (Int32.ofNat r)) rfl rfl rfl rfl hr rfl (by rw [hR]; decide) (by rw [hR]; exact Nat.le_of_ble_eq_true rfl) (by rw [hR]; decide) (by rw [hR]; decide) (fun _ => rfl) (fun _ => rfl) (fun _ => rfl) (fun _ => rfl) ?_
    exact own_sw.go K 1 (own_p2 (cd := .eq) (t := 97) (b := true) (pc' := 97) rfl (teq q2).1 rfl) k97
theorem own_low (x : Int32) : ∃ i, i < 16 ∧ x &&& 15 = Int32.ofNat i := by
  have h := c_mask x 15 4 (by decide) (by decide)
  refine ⟨(x &&& 15).toInt.toNat, by omega, ?_⟩
  apply Int32.toInt_inj.mp
  rw [Int32.toInt_ofNat_of_lt (by omega)]
  omega
set_option maxRecDepth 65536 in
set_option maxHeartbeats 4000000 in
theorem own_runs {X : OCtx} {i11 : Int32} {fm : Value} (K : own_cx X own_m0 i11 fm) (G : own_good X.Z X.a0 own_P) (hR : X.R = room_1) (wl : (Jvm.Cond.methodLink "com/example/bracewise/bracewise/value/NumbersDigitValuePinLaw" 10 ⟨"java/lang/String", "charAt", "(I)C"⟩).before X.a0 X.Z = true) (wt8 : (Jvm.Cond.stringLink "com/example/bracewise/bracewise/value/NumbersDigitValuePinLaw" 8 "0123456789abcdef").before X.a0 X.Z = true) (wt16 : (Jvm.Cond.stringLink "com/example/bracewise/bracewise/value/NumbersDigitValuePinLaw" 16 "0123456789ABCDEF").before X.a0 X.Z = true) (hh8 : Jvm.Lit.constHeld X.Z "com/example/bracewise/bracewise/value/NumbersDigitValuePinLaw" 8) (hh16 : Jvm.Lit.constHeld X.Z "com/example/bracewise/bracewise/value/NumbersDigitValuePinLaw" 16) (wk : (Jvm.Cond.constant "com/example/bracewise/bracewise/value/NumbersDigitValuePinLaw" 7 65535).before X.a0 X.Z = true) (i0 i1 : Int32) : own_sw X "com/example/bracewise/bracewise/value/NumbersDigitValuePinLaw" 8 2112 [] [] 0 0 0 (own_entry [.int i0, .int i1] own_m0.ml) [] := by
  refine own_sw.go K 1 (pc' := 1) (L' := [.val (.int i0), .val (.int i1), .unset, .unset, .unset, .unset, .unset]) (S' := [.int i0]) rfl ?_
  refine own_sw.ldcI K (ix := 7) (t := 3) wk rfl ?_
  refine own_sw.go K 7 (pc' := 11) (L' := [.val (.int i0), .val (.int i1), .val (.int ((i0 &&& (65535 : Int32)).toUInt32.toUInt16.toUInt32.toInt32)), .val (.int (i1 &&& (15 : Int32))), .unset, .unset, .unset]) (S' := []) rfl ?_
  generalize ((i0 &&& (65535 : Int32)).toUInt32.toUInt16.toUInt32.toInt32) = c
  obtain ⟨i, hi, hj⟩ := own_low i1
  rw [hj]
  refine own_sw.char K (text := "0123456789abcdef") (ix := 8) (cs := own_lo) (by decide) (by decide) (cx := 10) wl wt8 (by decide) hh8 ⟨by decide, by decide⟩ (by decide) (t1 := 13) (pc2 := 14) (t2 := 17) (i := i) (k := 1) (L2 := [.val (.int i0), .val (.int i1), .val (.int c), .val (.int (Int32.ofNat i)), .unset, .unset, .unset]) (S2 := []) (j := (Int32.ofNat i)) rfl rfl rfl rfl hi rfl (by rw [hR]; decide) (by rw [hR]; exact Nat.le_of_ble_eq_true rfl) (by rw [hR]; decide) (by rw [hR]; decide) (fun _ => rfl) (fun _ => rfl) (fun _ => rfl) (fun _ => rfl) ?_
  refine own_sw.go K 1 (pc' := 19) (L' := [.val (.int i0), .val (.int i1), .val (.int c), .val (.int (Int32.ofNat i)), .val (.int (own_lo.getD i 0)), .unset, .unset]) (S' := []) rfl ?_
  refine own_sw.char K (text := "0123456789ABCDEF") (ix := 16) (cs := own_up) (by decide) (by decide) (cx := 10) wl wt16 (by decide) hh16 ⟨by decide, by decide⟩ (by decide) (t1 := 21) (pc2 := 22) (t2 := 25) (i := i) (k := 1) (L2 := [.val (.int i0), .val (.int i1), .val (.int c), .val (.int (Int32.ofNat i)), .val (.int (own_lo.getD i 0)), .unset, .unset]) (S2 := []) (j := (Int32.ofNat i)) rfl rfl rfl rfl hi rfl (by rw [hR]; decide) (by rw [hR]; exact Nat.le_of_ble_eq_true rfl) (by rw [hR]; decide) (by rw [hR]; decide) (fun _ => rfl) (fun _ => rfl) (fun _ => rfl) (fun _ => rfl) ?_
  refine own_sw.go K 2 (pc' := 29) (L' := [.val (.int i0), .val (.int i1), .val (.int c), .val (.int (Int32.ofNat i)), .val (.int (own_lo.getD i 0)), .val (.int (own_up.getD i 0)), .unset]) (S' := [.int (own_lo.getD i 0)]) rfl ?_
  refine own_sw.call K G (List.mem_of_getElem? (i := 0) rfl) rfl (x := 18) (t := 32) (j := 1) (as := [.int (own_lo.getD i 0)]) (r := []) (mj := own_m1) rfl rfl rfl rfl (by rw [hR]; decide) (own_dv0 hi) (by rw [hR]; decide) (by rw [hR]; decide) ?_
  refine own_sw.go K 1 (pc' := 33) (L' := [.val (.int i0), .val (.int i1), .val (.int c), .val (.int (Int32.ofNat i)), .val (.int (own_lo.getD i 0)), .val (.int (own_up.getD i 0)), .unset]) (S' := [.int (Int32.ofNat i), .int (Int32.ofNat i)]) rfl ?_
  refine own_sw.go K 1 (own_p2 (cd := .ne) (t := 45) (b := false) (pc' := 36) rfl (teq rfl).2 rfl) ?_
  refine own_sw.go K 1 (pc' := 38) (L' := [.val (.int i0), .val (.int i1), .val (.int c), .val (.int (Int32.ofNat i)), .val (.int (own_lo.getD i 0)), .val (.int (own_up.getD i 0)), .unset]) (S' := [.int (own_up.getD i 0)]) rfl ?_
  refine own_sw.call K G (List.mem_of_getElem? (i := 0) rfl) rfl (x := 18) (t := 41) (j := 1) (as := [.int (own_up.getD i 0)]) (r := []) (mj := own_m1) rfl rfl rfl rfl (by rw [hR]; decide) (own_dv1 hi) (by rw [hR]; decide) (by rw [hR]; decide) ?_
  refine own_sw.go K 1 (pc' := 42) (L' := [.val (.int i0), .val (.int i1), .val (.int c), .val (.int (Int32.ofNat i)), .val (.int (own_lo.getD i 0)), .val (.int (own_up.getD i 0)), .unset]) (S' := [.int (Int32.ofNat i), .int (Int32.ofNat i)]) rfl ?_
  refine own_sw.go K 1 (own_p2 (cd := .eq) (t := 47) (b := true) (pc' := 47) rfl (teq rfl).1 rfl) ?_
  refine own_sw.go K 1 (pc' := 48) (L' := [.val (.int i0), .val (.int i1), .val (.int c), .val (.int (Int32.ofNat i)), .val (.int (own_lo.getD i 0)), .val (.int (own_up.getD i 0)), .unset]) (S' := [.int c]) rfl ?_
  by_cases hx : ∃ r, r < 16 ∧ (c = own_lo.getD r 0 ∨ c = own_up.getD r 0)
  · obtain ⟨r, hr, hc⟩ := hx
    have hp : own_pr own_m1 0 [.val (.int c)] [] (Int32.ofNat r) := by
      rcases hc with rfl | rfl
      · exact own_dv0 hr
      · exact own_dv1 hr
    refine own_sw.call K G (List.mem_of_getElem? (i := 0) rfl) rfl (x := 18) (t := 51) (j := 1) (as := [.int c]) (r := []) (mj := own_m1) rfl rfl rfl rfl (by rw [hR]; decide) hp (by rw [hR]; decide) (by rw [hR]; decide) ?_
    exact own_sw.go K 1 (pc' := 53) (L' := [.val (.int i0), .val (.int i1), .val (.int c), .val (.int (Int32.ofNat i)), .val (.int (own_lo.getD i 0)), .val (.int (own_up.getD i 0)), .val (.int (Int32.ofNat r))]) (S' := []) rfl (own_hex K G hR wl wt8 wt16 i0 i1 c i r hi hr hc)
  · refine own_sw.call K G (List.mem_of_getElem? (i := 0) rfl) rfl (x := 18) (t := 51) (j := 1) (as := [.int c]) (r := []) (mj := own_m1) rfl rfl rfl rfl (by rw [hR]; decide) (own_dvn hx) (by rw [hR]; decide) (by rw [hR]; decide) ?_
    refine own_sw.go K 1 (pc' := 53) (L' := [.val (.int i0), .val (.int i1), .val (.int c), .val (.int (Int32.ofNat i)), .val (.int (own_lo.getD i 0)), .val (.int (own_up.getD i 0)), .val (.int (-1 : Int32))]) (S' := []) rfl ?_
    refine own_sw.go K 2 (pc' := 56) (L' := [.val (.int i0), .val (.int i1), .val (.int c), .val (.int (Int32.ofNat i)), .val (.int (own_lo.getD i 0)), .val (.int (own_up.getD i 0)), .val (.int (-1 : Int32))]) (S' := [.int (-1 : Int32), .int (-1 : Int32)]) rfl ?_
    refine own_sw.go K 1 (own_p2 (cd := .eq) (t := 97) (b := true) (pc' := 97) rfl (teq rfl).1 rfl) ?_
    exact own_e97 K G hR i0 i1 c (-1 : Int32) i (fun h => absurd ⟨i, hi, h⟩ hx)
/-! ## from the case's words to the run, and the owed theorems -/
set_option maxRecDepth 65536 in
set_option maxHeartbeats 4000000 in
theorem own_met1 (l : Launch) {Z : State} {i11 : Int32} {fm : Value} {i0 i1 : Int32} (hw : own_hw Z #[.int i0, .int i1]) (hc0 : Jvm.Lit.constHeld Z "com/example/bracewise/bracewise/value/NumbersDigitValuePinLaw" 8) (hc1 : Jvm.Lit.constHeld Z "com/example/bracewise/bracewise/value/NumbersDigitValuePinLaw" 16) (hcw : Jvm.Lit.compactW.before #[.int i0, .int i1] Z = true) (o2 : Sta Z Z.heap "java/lang/String" "COMPACT_STRINGS" "Z" (.int i11)) (nz : ¬ i11 = 0) (o4 : Sta Z Z.heap "jdk/internal/util/Preconditions" "SIOOBE_FORMATTER" "Ljava/util/function/BiFunction;" fm) (rf : fm.isRef = true) :
    MetFree l x (head1 (Jvm.Cond.code x code maxLocals ret :: tables_1) room_1) (fun a U => a = #[.int i0, .int i1] ∧ U = Z) (fun _ _ _ _ _ => True) (fun _ U o U' => o = .returned (some (.int 1)) ∧ ReturnedEndW U o U' [] 8 2112) := by
  refine MetFree.of_bodySF (plainFor_of_name own_pn0) hisR ?_
  intro p e s m args below meth c s₁ Bd hml0 hP hK
  obtain ⟨rfl, rfl⟩ := hP
  have hown := findClass_of_methodNamed Bd.named
  have e0 : s₁.heap = s.heap := by rw [Bd.state]; rfl
  have G := own_G hw
  have K : own_cx (l, s, #[.int i0, .int i1], p, e, room_1, s, m, #[.int i0, .int i1], below, meth, c) own_m0 i11 fm := ⟨Bd.exec, Bd.bytes, hml0, Bd.returns, Bd.notSynchronized, own_rk0, rfl,
    fun d hd => hw d (List.mem_cons_of_mem _ ((by decide +kernel : ∀ d ∈ StrChars.Road.wordsChN, d ∈ tables_1) d hd)), fun d hd => hw d (List.mem_cons_of_mem _ ((by decide +kernel : ∀ d ∈ Bundle.stringAtoms, d ∈ tables_1) d hd)), hcw,
    (hw _ (List.mem_of_getElem? (i := 4) rfl)), (hw _ (List.mem_of_getElem? (i := 11) rfl)), (hw _ (List.mem_of_getElem? (i := 12) rfl)), (hw _ (List.mem_of_getElem? (i := 13) rfl)), o2, nz, o4, rf⟩
  obtain ⟨T', fs, h1, h2, h3, h4⟩ := own_runs K G rfl (hw _ (List.mem_of_getElem? (i := 10) rfl)) (hw _ (List.mem_of_getElem? (i := 2) rfl)) (hw _ (List.mem_of_getElem? (i := 35) rfl)) hc0 hc1 (hw _ (List.mem_of_getElem? (i := 1) rfl)) i0 i1 s.vm s₁ ⟨Stand.of_body Bd, (State.WarmedH.refl s).since _, State.Warmed39.refl s, hown, IB.start, ⟨Nat.le_of_eq (by rw [e0]), fun a c h => by rw [e0]; exact h⟩, fun q hq => nomatch hq⟩
  have ef : entryFrame m #[.int i0, .int i1] maxLocals = own_fr 0 m 0 (own_entry [.int i0, .int i1] own_m0.ml) [] := rfl
  exact ⟨_, _, castTop ef h1, h2, h3, rfl, h4⟩
set_option maxRecDepth 65536 in
set_option maxHeartbeats 4000000 in
theorem own_comes {Post : Tables → Env → Array Value → State → Outcome → State → Prop} (hpost : ∀ tb e args s v u, (limb_1_1.after args s (.returned v) u = true ∧ limb_1_2.after args s (.returned v) u = true ∧ True) → Jvm.D.FramedW s (.returned v) u (Jvm.fieldLocs frame_1_writes args s ++ Jvm.arrayLocs frame_1_arrays args s ++ Jvm.staticLocs frame_1_statics s) 8 2112 → Post tb e args s (.returned v) u) :
    ArmFor flags0 classFile x code maxLocals ret World_1 tables_1 room_1 Calls_1 rest_1 Pre_1 Post := by
  intro l hfl _ _ p e ha hc hk s m args below hf hA hF happ hP
  obtain ⟨hcalls, hrest, hpre⟩ := hP
  obtain ⟨-, -, -, hnamed, -, -, -, hat⟩ := (Spec.applies_iff hf).mp happ
  obtain ⟨hg, hn⟩ := and_e (Cond.before_iff.mp (show (Jvm.Cond.and given_1 narrow_1).before args s = true from hpre))
  obtain ⟨h0, g0⟩ := and_e hg
  obtain ⟨w0, w1, rfl⟩ : ∃ w0 w1 : Value, args = #[w0, w1] := by
    have hs : args.size = 2 := by simpa [Cond.value, given_1] using h0
    obtain ⟨L⟩ := args
    match L, hs with
    | [w0, w1], _ => exact ⟨w0, w1, rfl⟩
  have hw : own_hw s #[w0, w1] := fun d hd => atoms_spec (ws := Jvm.Cond.code x code maxLocals ret :: tables_1) hat d hd
  obtain ⟨hsets, hown0⟩ := atoms_of _ (rest_1_c_eq ▸ (show rest_1_c.before _ s = true from hrest))
  obtain ⟨q0, g1⟩ := and_e g0
  obtain ⟨i0, e0⟩ := is_v q0
  obtain rfl : w0 = (.int i0) := Option.some.inj e0
  obtain ⟨i1, e1⟩ := is_v g1
  obtain rfl : w1 = (.int i1) := Option.some.inj e1
  have n5 := not_v (Cond.before_iff.mp (hsets _ (List.mem_of_getElem? (i := 2) rfl)))
  obtain ⟨i11, e10⟩ := is_v (Cond.before_iff.mp (hsets _ (List.mem_of_getElem? (i := 1) rfl)))
  have S12 : Sta s s.heap "java/lang/String" "COMPACT_STRINGS" "Z" (.int i11) := Sta.start e10 (Or.inl (hsets _ (List.mem_of_getElem? (i := 0) rfl)))
  obtain ⟨v13, e14, r15⟩ := isR_v (Cond.before_iff.mp (hsets _ (List.mem_of_getElem? (i := 8) rfl)))
  have S16 : Sta s s.heap "jdk/internal/util/Preconditions" "SIOOBE_FORMATTER" "Ljava/util/function/BiFunction;" v13 := Sta.start e14 (Or.inl (hsets _ (List.mem_of_getElem? (i := 7) rfl)))
  have c17 : ¬ (i11 = (0 : Int32)) := gotF (Cond.eq_ints e10 (Term.int_eval (0))) n5
  obtain ⟨n, o, h1, h2, h3, rfl, hq⟩ := own_met1 l hw (hcalls.1 _ (List.mem_of_getElem? (i := 0) rfl)) (hcalls.1 _ (List.mem_of_getElem? (i := 1) rfl)) (hsets _ (List.mem_of_getElem? (i := 2) rfl)) S12 c17 S16 r15 p e ha hc hk s m _ below hf ((Spec.applies_iff_loose hf).mp happ).1 ⟨rfl, rfl⟩ trivial
  exact ⟨n, _, h1, h2, h3, hpost _ _ _ _ _ _ ⟨Cond.after_iff.mpr rfl, Cond.after_iff.mpr (eq_i res_at (Term.int_eval (1)) rfl), trivial⟩ ⟨hq.1, hq.2.1, hq.2.2.1, hq.2.2.2.sift fun y hy => nomatch hy⟩⟩
theorem main_1_1 : Claimed_1_1 := own_comes fun _ _ _ _ _ _ h hF => ⟨h.1, hF⟩
theorem main_1_2 : Claimed_1_2 := own_comes fun _ _ _ _ _ _ h hF => ⟨h.2.1, hF⟩
end Jvm.Pilot.@@N@@
namespace Jvm.Pilot.@@N@@
open Jvm Jvm.ClassFile Sem Op Lib Jvm.Free Jvm.Stand Jvm.Pilot.@@N@@.Jvm.D
/-! MADE BY PROGRAM (witnessworld.py) out of the Statement's table words and the real class files: 17 classes; the members and pool entries that the words name. The judged class is class 1, her method 1. -/
namespace start1
open Jvm.ClassFile
def u (s : String) : CpInfo := .utf8 (stringToUtf16 s)
/-- a pool by its gaps: so many unusable entries, then the entry; so many at the end -/
def gap : Nat → List CpInfo → List CpInfo
  | 0, r => r
  | n + 1, r => .unusable :: gap n r
def poolList (es : List (Nat × CpInfo)) (last : Nat) : List CpInfo := es.foldr (fun e r => gap e.1 (e.2 :: r)) (gap last [])
def pool (es : List (Nat × CpInfo)) (last : Nat) : Array CpInfo := ⟨poolList es last⟩
def fileOf (pool : Array CpInfo) (this : Nat) (attrs : Array Attribute := #[]) (ms : Array MethodInfo := #[]) (fl : Nat := 33) (sup : Nat := 0) (ifs : Array Nat := #[]) (fds : Array FieldInfo := #[]) : ClassFile where
  minorVersion := 0
  majorVersion := 65
  constantPool := pool
  accessFlags := fl
  thisClass := this
  superClass := sup
  interfaces := ifs
  fields := fds
  methods := ms
  attributes := attrs
def plain (name : String) (sup : Option ClassId) : Class where
  name := name
  kind := .ordinary
  loader := none
  accessFlags := 33
  super := sup
  interfaces := #[]
  cf := none
  fields := #[]
  methods := #[]
  instanceTypes := #[]
  staticTypes := #[]
  resolved := #[]
  callSites := []
  init := .initialized
  statics := none
  mirror := none

def pool0 : Array CpInfo := pool [(5, u "<init>"), (0, u "()V"), (1, .class_ 10), (1, u "java/lang/Object")] 113

def k0m0 : Method := { name := "<init>", desc := "()V", sig := { parameters := [], returnType := none }, accessFlags := 1, code := none }
/-- java/lang/Object -/
def k0 : Class := { plain "java/lang/Object" none with
  accessFlags := 33
  interfaces := #[]
  cf := some (fileOf pool0 8 #[] #[{ accessFlags := 1, nameIndex := 5, descriptorIndex := 6, attributes := #[] }] 33 0 #[] #[])
  fields := #[]
  methods := #[k0m0]
  instanceTypes := #[]
  staticTypes := #[]
  resolved := Array.replicate 124 none
  statics := none }

def pool1 : Array CpInfo := pool [(2, .class_ 4), (1, u "java/lang/Object"), (0, u "<init>"), (0, u "()V"), (0, .integer 65535), (0, .string 9), (0, u "0123456789abcdef"), (0, .methodref 11 12), (0, .class_ 13), (0, .nameAndType 14 15), (0, u "java/lang/String"), (0, u "charAt"), (0, u "(I)C"), (0, .string 17), (0, u "0123456789ABCDEF"), (0, .methodref 19 20), (0, .class_ 21), (0, .nameAndType 22 23), (0, u "com/example/bracewise/bracewise/value/Numbers"), (0, u "digitValue"), (0, u "(C)I"), (0, .class_ 25), (0, u "com/example/bracewise/bracewise/value/NumbersDigitValuePinLaw"), (2, u "law"), (0, u "(II)Z")] 3

def k1m0 : Method := { name := "<init>", desc := "()V", sig := { parameters := [], returnType := none }, accessFlags := 1, code := none }
def k1c1 : Code := { maxStack := 3, maxLocals := 7, code := code, exceptionTable := #[], attributes := #[] }
def k1m1 : Method := { name := "law", desc := "(II)Z", sig := { parameters := [.int, .int], returnType := some .boolean }, accessFlags := 9, code := some k1c1 }
/-- com/example/bracewise/bracewise/value/NumbersDigitValuePinLaw -/
def k1 : Class := { plain "com/example/bracewise/bracewise/value/NumbersDigitValuePinLaw" (some 0) with
  accessFlags := 49
  interfaces := #[]
  cf := some (fileOf pool1 24 #[] #[{ accessFlags := 1, nameIndex := 5, descriptorIndex := 6, attributes := #[] }, { accessFlags := 9, nameIndex := 28, descriptorIndex := 29, attributes := #[] }] 49 2 #[] #[])
  fields := #[]
  methods := #[k1m0, k1m1]
  instanceTypes := #[]
  staticTypes := #[]
  resolved := Array.replicate 33 none
  statics := none }

def pool2 : Array CpInfo := pool [(1, .class_ 2), (0, u "java/io/Serializable"), (0, .class_ 4), (0, u "java/lang/Object")] 2

/-- java/io/Serializable -/
def k2 : Class := { plain "java/io/Serializable" (some 0) with
  accessFlags := 1537
  interfaces := #[]
  cf := some (fileOf pool2 1 #[] #[] 1537 3 #[] #[])
  fields := #[]
  methods := #[]
  instanceTypes := #[]
  staticTypes := #[]
  resolved := Array.replicate 7 none
  statics := none }

def pool3 : Array CpInfo := pool [(1, .class_ 2), (0, u "java/lang/Comparable"), (0, .class_ 4), (0, u "java/lang/Object")] 7

/-- java/lang/Comparable -/
def k3 : Class := { plain "java/lang/Comparable" (some 0) with
  accessFlags := 1537
  interfaces := #[]
  cf := some (fileOf pool3 1 #[] #[] 1537 3 #[] #[])
  fields := #[]
  methods := #[]
  instanceTypes := #[]
  staticTypes := #[]
  resolved := Array.replicate 12 none
  statics := none }

def pool4 : Array CpInfo := pool [(2, .class_ 4), (1, u "java/lang/CharSequence"), (42, .class_ 48), (0, u "java/lang/CharSequence$1CodePointIterator"), (10, .class_ 60), (0, u "java/lang/CharSequence$1CharIterator"), (5, .class_ 67), (0, u "java/lang/Object")] 63

/-- java/lang/CharSequence -/
def k4 : Class := { plain "java/lang/CharSequence" (some 0) with
  accessFlags := 1537
  interfaces := #[]
  cf := some (fileOf pool4 2 #[.nestMembers #[47, 59]] #[] 1537 66 #[] #[])
  fields := #[]
  methods := #[]
  instanceTypes := #[]
  staticTypes := #[]
  resolved := Array.replicate 131 none
  statics := none }

def pool5 : Array CpInfo := pool [(1, .class_ 2), (0, u "java/lang/constant/Constable"), (0, .class_ 4), (0, u "java/lang/Object")] 6

/-- java/lang/constant/Constable -/
def k5 : Class := { plain "java/lang/constant/Constable" (some 0) with
  accessFlags := 1537
  interfaces := #[]
  cf := some (fileOf pool5 1 #[] #[] 1537 3 #[] #[])
  fields := #[]
  methods := #[]
  instanceTypes := #[]
  staticTypes := #[]
  resolved := Array.replicate 11 none
  statics := none }

def pool6 : Array CpInfo := pool [(1, .class_ 2), (0, u "java/lang/constant/ConstantDesc"), (0, .class_ 4), (0, u "java/lang/Object")] 32

/-- java/lang/constant/ConstantDesc -/
def k6 : Class := { plain "java/lang/constant/ConstantDesc" (some 0) with
  accessFlags := 1537
  interfaces := #[]
  cf := some (fileOf pool6 1 #[] #[] 1537 3 #[] #[])
  fields := #[]
  methods := #[]
  instanceTypes := #[]
  staticTypes := #[]
  resolved := Array.replicate 37 none
  statics := none }

def pool7 : Array CpInfo := pool [(2, .class_ 4), (1, u "java/lang/Object"), (0, u "<init>"), (0, u "()V"), (2, .fieldref 10 11), (0, .class_ 12), (0, .nameAndType 13 14), (0, u "java/lang/String"), (0, u "value"), (0, u "[B"), (0, .fieldref 10 16), (0, .nameAndType 17 18), (0, u "coder"), (0, u "B"), (2, u "hash"), (0, u "I"), (2, u "hashIsZero"), (0, u "Z"), (11, .fieldref 10 39), (0, .nameAndType 40 26), (0, u "COMPACT_STRINGS"), (66, .class_ 109), (1, u "java/lang/StringLatin1"), (32, u "()Z"), (220, u "([BI)C"), (27, u "(II)V"), (35, u "(I)C"), (64, .methodref 10 493), (0, .nameAndType 494 142), (0, u "isLatin1"), (0, .methodref 107 496), (0, .nameAndType 497 363), (0, u "charAt"), (3, u "checkIndex"), (73, .class_ 576), (0, u "java/lang/CharSequence"), (22, u "CASE_INSENSITIVE_ORDER"), (0, u "Ljava/util/Comparator;"), (452, .fieldref 1054 1055), (0, .class_ 1056), (0, .nameAndType 1057 1058), (0, u "jdk/internal/util/Preconditions"), (0, u "SIOOBE_FORMATTER"), (0, u "Ljava/util/function/BiFunction;"), (0, .methodref 1054 1060), (0, .nameAndType 501 1061), (0, u "(IILjava/util/function/BiFunction;)I"), (39, u "serialPersistentFields"), (0, u "[Ljava/io/ObjectStreamField;"), (0, .class_ 1104), (0, u "java/lang/String$CaseInsensitiveComparator"), (1, .class_ 1107), (0, u "java/io/Serializable"), (0, .class_ 1109), (0, u "java/lang/Comparable"), (0, .class_ 1111), (0, u "java/lang/constant/Constable"), (0, .class_ 1113), (0, u "java/lang/constant/ConstantDesc"), (2, u "serialVersionUID"), (0, u "J"), (3, u "REPL"), (0, u "C"), (2, u "LATIN1"), (1, u "UTF16")] 323

def k7m0 : Method := { name := "<init>", desc := "()V", sig := { parameters := [], returnType := none }, accessFlags := 1, code := none }
def k7c1 : Code := { maxStack := 2, maxLocals := 2, code := jdk_42_method_56_code, exceptionTable := #[], attributes := #[] }
def k7m1 : Method := { name := "charAt", desc := "(I)C", sig := { parameters := [.int], returnType := some .char }, accessFlags := 1, code := some k7c1 }
def k7c2 : Code := { maxStack := 1, maxLocals := 1, code := jdk_42_method_154_code, exceptionTable := #[], attributes := #[] }
def k7m2 : Method := { name := "isLatin1", desc := "()Z", sig := { parameters := [], returnType := some .boolean }, accessFlags := 0, code := some k7c2 }
def k7c3 : Code := { maxStack := 3, maxLocals := 2, code := jdk_42_method_155_code, exceptionTable := #[], attributes := #[] }
def k7m3 : Method := { name := "checkIndex", desc := "(II)V", sig := { parameters := [.int, .int], returnType := none }, accessFlags := 8, code := some k7c3 }
/-- java/lang/String -/
def k7 : Class := { plain "java/lang/String" (some 0) with
  accessFlags := 49
  interfaces := #[2, 3, 4, 5, 6]
  cf := some (fileOf pool7 10 #[.nestMembers #[1103]] #[{ accessFlags := 1, nameIndex := 5, descriptorIndex := 6, attributes := #[] }, { accessFlags := 1, nameIndex := 497, descriptorIndex := 427, attributes := #[] }, { accessFlags := 0, nameIndex := 494, descriptorIndex := 142, attributes := #[] }, { accessFlags := 8, nameIndex := 501, descriptorIndex := 391, attributes := #[] }] 49 2 #[1106, 1108, 575, 1110, 1112] #[{ accessFlags := 18, nameIndex := 13, descriptorIndex := 14, attributes := #[] }, { accessFlags := 18, nameIndex := 17, descriptorIndex := 18, attributes := #[] }, { accessFlags := 2, nameIndex := 21, descriptorIndex := 22, attributes := #[] }, { accessFlags := 2, nameIndex := 25, descriptorIndex := 26, attributes := #[] }, { accessFlags := 26, nameIndex := 1116, descriptorIndex := 1117, attributes := #[] }, { accessFlags := 24, nameIndex := 40, descriptorIndex := 26, attributes := #[] }, { accessFlags := 26, nameIndex := 1101, descriptorIndex := 1102, attributes := #[] }, { accessFlags := 26, nameIndex := 1121, descriptorIndex := 1122, attributes := #[] }, { accessFlags := 25, nameIndex := 599, descriptorIndex := 600, attributes := #[] }, { accessFlags := 24, nameIndex := 1125, descriptorIndex := 18, attributes := #[] }, { accessFlags := 24, nameIndex := 1127, descriptorIndex := 18, attributes := #[] }])
  fields := #[{ name := "value", type := (.array .byte), accessFlags := 18, slot := 0, constantValue := 0 }, { name := "coder", type := .byte, accessFlags := 18, slot := 1, constantValue := 0 }, { name := "hash", type := .int, accessFlags := 2, slot := 2, constantValue := 0 }, { name := "hashIsZero", type := .boolean, accessFlags := 2, slot := 3, constantValue := 0 }, { name := "serialVersionUID", type := .long, accessFlags := 26, slot := 0, constantValue := 0 }, { name := "COMPACT_STRINGS", type := .boolean, accessFlags := 24, slot := 1, constantValue := 0 }, { name := "serialPersistentFields", type := (.array (.object "java/io/ObjectStreamField")), accessFlags := 26, slot := 2, constantValue := 0 }, { name := "REPL", type := .char, accessFlags := 26, slot := 3, constantValue := 0 }, { name := "CASE_INSENSITIVE_ORDER", type := (.object "java/util/Comparator"), accessFlags := 25, slot := 4, constantValue := 0 }, { name := "LATIN1", type := .byte, accessFlags := 24, slot := 5, constantValue := 0 }, { name := "UTF16", type := .byte, accessFlags := 24, slot := 6, constantValue := 0 }]
  methods := #[k7m0, k7m1, k7m2, k7m3]
  instanceTypes := #[(.array .byte), .byte, .int, .boolean]
  staticTypes := #[.long, .boolean, (.array (.object "java/io/ObjectStreamField")), .char, (.object "java/util/Comparator"), .byte, .byte]
  resolved := Array.replicate 1451 none
  statics := some 0 }

def pool8 : Array CpInfo := pool [(1, .class_ 2), (0, u "java/lang/String"), (1, .class_ 6), (1, u "java/lang/Object"), (0, u "<init>"), (0, u "()V"), (0, .methodref 1 10), (0, .nameAndType 11 12), (0, u "checkIndex"), (0, u "(II)V"), (1, .class_ 16), (1, u "java/lang/StringLatin1"), (36, u "([BI)C"), (67, u "$assertionsDisabled"), (0, u "Z"), (98, .class_ 223), (1, u "java/lang/StringLatin1$LinesSpliterator"), (28, u "charAt"), (137, .class_ 391), (0, u "java/lang/StringLatin1$CharsSpliterator")] 3

def k8m0 : Method := { name := "<init>", desc := "()V", sig := { parameters := [], returnType := none }, accessFlags := 0, code := none }
def k8c1 : Code := { maxStack := 2, maxLocals := 2, code := jdk_43_method_2_code, exceptionTable := #[], attributes := #[] }
def k8m1 : Method := { name := "charAt", desc := "([BI)C", sig := { parameters := [(.array .byte), .int], returnType := some .char }, accessFlags := 9, code := some k8c1 }
/-- java/lang/StringLatin1 -/
def k8 : Class := { plain "java/lang/StringLatin1" (some 0) with
  accessFlags := 48
  interfaces := #[]
  cf := some (fileOf pool8 14 #[.nestMembers #[390, 221]] #[{ accessFlags := 0, nameIndex := 7, descriptorIndex := 8, attributes := #[] }, { accessFlags := 9, nameIndex := 252, descriptorIndex := 53, attributes := #[] }] 48 4 #[] #[{ accessFlags := 4120, nameIndex := 121, descriptorIndex := 122, attributes := #[] }])
  fields := #[{ name := "$assertionsDisabled", type := .boolean, accessFlags := 4120, slot := 0, constantValue := 0 }]
  methods := #[k8m0, k8m1]
  instanceTypes := #[]
  staticTypes := #[.boolean]
  resolved := Array.replicate 395 none
  statics := none }

def pool9 : Array CpInfo := pool [(2, .class_ 4), (1, u "java/lang/Object"), (0, u "<init>"), (0, u "()V"), (17, .class_ 26), (1, u "jdk/internal/util/Preconditions"), (6, u "checkIndex"), (21, .class_ 56), (0, u "jdk/internal/util/Preconditions$4"), (57, .class_ 115), (0, u "jdk/internal/util/Preconditions$1"), (7, u "SIOOBE_FORMATTER"), (0, u "Ljava/util/function/BiFunction;"), (0, .class_ 126), (0, u "jdk/internal/util/Preconditions$2"), (3, u "AIOOBE_FORMATTER"), (0, .class_ 132), (0, u "jdk/internal/util/Preconditions$3"), (3, u "IOOBE_FORMATTER"), (41, u "(IILjava/util/function/BiFunction;)I")] 15

def k9m0 : Method := { name := "<init>", desc := "()V", sig := { parameters := [], returnType := none }, accessFlags := 1, code := none }
def k9c1 : Code := { maxStack := 3, maxLocals := 3, code := jdk_41_method_11_code, exceptionTable := #[], attributes := #[] }
def k9m1 : Method := { name := "checkIndex", desc := "(IILjava/util/function/BiFunction;)I", sig := { parameters := [.int, .int, (.object "java/util/function/BiFunction")], returnType := some .int }, accessFlags := 9, code := some k9c1 }
/-- jdk/internal/util/Preconditions -/
def k9 : Class := { plain "jdk/internal/util/Preconditions" (some 0) with
  accessFlags := 33
  interfaces := #[]
  cf := some (fileOf pool9 24 #[.nestMembers #[55, 131, 125, 114]] #[{ accessFlags := 1, nameIndex := 5, descriptorIndex := 6, attributes := #[] }, { accessFlags := 9, nameIndex := 33, descriptorIndex := 178, attributes := #[] }] 33 2 #[] #[{ accessFlags := 25, nameIndex := 123, descriptorIndex := 124, attributes := #[] }, { accessFlags := 25, nameIndex := 130, descriptorIndex := 124, attributes := #[] }, { accessFlags := 25, nameIndex := 136, descriptorIndex := 124, attributes := #[] }])
  fields := #[{ name := "SIOOBE_FORMATTER", type := (.object "java/util/function/BiFunction"), accessFlags := 25, slot := 0, constantValue := 0 }, { name := "AIOOBE_FORMATTER", type := (.object "java/util/function/BiFunction"), accessFlags := 25, slot := 1, constantValue := 0 }, { name := "IOOBE_FORMATTER", type := (.object "java/util/function/BiFunction"), accessFlags := 25, slot := 2, constantValue := 0 }]
  methods := #[k9m0, k9m1]
  instanceTypes := #[]
  staticTypes := #[(.object "java/util/function/BiFunction"), (.object "java/util/function/BiFunction"), (.object "java/util/function/BiFunction")]
  resolved := Array.replicate 194 none
  statics := some 1 }

def pool10 : Array CpInfo := pool [(2, .class_ 4), (1, u "java/lang/Object"), (0, u "<init>"), (0, u "()V"), (7, .class_ 16), (1, u "com/example/bracewise/bracewise/value/Numbers"), (337, u "TOO_LARGE"), (0, u "Ljava/lang/String;"), (1, u "OCTAL_HINT"), (0, u "UNSIGNED_INT_MAX"), (0, u "J"), (0, u "MAX_FIXED_EXPONENT"), (0, u "I"), (1, u "MIN_FIXED_EXPONENT"), (21, u "(C)I"), (0, u "digitValue")] 24

def k10m0 : Method := { name := "<init>", desc := "()V", sig := { parameters := [], returnType := none }, accessFlags := 2, code := none }
def k10c1 : Code := { maxStack := 2, maxLocals := 1, code := prog_92_method_35_code, exceptionTable := #[], attributes := #[] }
def k10m1 : Method := { name := "digitValue", desc := "(C)I", sig := { parameters := [.char], returnType := some .int }, accessFlags := 9, code := some k10c1 }
/-- com/example/bracewise/bracewise/value/Numbers -/
def k10 : Class := { plain "com/example/bracewise/bracewise/value/Numbers" (some 0) with
  accessFlags := 49
  interfaces := #[]
  cf := some (fileOf pool10 14 #[] #[{ accessFlags := 2, nameIndex := 5, descriptorIndex := 6, attributes := #[] }, { accessFlags := 9, nameIndex := 386, descriptorIndex := 385, attributes := #[] }] 49 2 #[] #[{ accessFlags := 24, nameIndex := 354, descriptorIndex := 355, attributes := #[] }, { accessFlags := 24, nameIndex := 357, descriptorIndex := 355, attributes := #[] }, { accessFlags := 26, nameIndex := 358, descriptorIndex := 359, attributes := #[] }, { accessFlags := 26, nameIndex := 360, descriptorIndex := 361, attributes := #[] }, { accessFlags := 26, nameIndex := 363, descriptorIndex := 361, attributes := #[] }])
  fields := #[{ name := "TOO_LARGE", type := (.object "java/lang/String"), accessFlags := 24, slot := 0, constantValue := 0 }, { name := "OCTAL_HINT", type := (.object "java/lang/String"), accessFlags := 24, slot := 1, constantValue := 0 }, { name := "UNSIGNED_INT_MAX", type := .long, accessFlags := 26, slot := 2, constantValue := 0 }, { name := "MAX_FIXED_EXPONENT", type := .int, accessFlags := 26, slot := 3, constantValue := 0 }, { name := "MIN_FIXED_EXPONENT", type := .int, accessFlags := 26, slot := 4, constantValue := 0 }]
  methods := #[k10m0, k10m1]
  instanceTypes := #[]
  staticTypes := #[(.object "java/lang/String"), (.object "java/lang/String"), .long, .int, .int]
  resolved := Array.replicate 411 none
  statics := none }

def pool11 : Array CpInfo := pool [(9, u "<init>"), (6, .class_ 18), (1, u "java/lang/Object"), (0, u "()V"), (1, .class_ 23), (1, u "jdk/internal/util/ArraysSupport"), (0, u "LOG2_ARRAY_LONG_INDEX_SCALE"), (0, u "I"), (2, u "U"), (0, u "Ljdk/internal/misc/Unsafe;"), (8, u "BIG_ENDIAN"), (0, u "Z"), (8, u "LOG2_BYTE_BIT_SIZE"), (4, u "LOG2_ARRAY_INT_INDEX_SCALE"), (54, u "JLA"), (0, u "Ljdk/internal/access/JavaLangAccess;"), (11, u "LOG2_ARRAY_BOOLEAN_INDEX_SCALE"), (9, u "LOG2_ARRAY_BYTE_INDEX_SCALE"), (5, u "LOG2_ARRAY_CHAR_INDEX_SCALE"), (5, u "LOG2_ARRAY_SHORT_INDEX_SCALE"), (18, u "LOG2_ARRAY_FLOAT_INDEX_SCALE"), (24, u "LOG2_ARRAY_DOUBLE_INDEX_SCALE"), (89, u "T_BOOLEAN"), (2, u "T_CHAR"), (1, u "T_FLOAT"), (1, u "T_DOUBLE"), (1, u "T_BYTE"), (1, u "T_SHORT"), (1, u "T_INT"), (1, u "T_LONG"), (1, u "SOFT_MAX_ARRAY_LENGTH")] 83

def k11m0 : Method := { name := "<init>", desc := "()V", sig := { parameters := [], returnType := none }, accessFlags := 2, code := none }
/-- jdk/internal/util/ArraysSupport -/
def k11 : Class := { plain "jdk/internal/util/ArraysSupport" (some 0) with
  accessFlags := 33
  interfaces := #[]
  cf := some (fileOf pool11 21 #[] #[{ accessFlags := 2, nameIndex := 9, descriptorIndex := 19, attributes := #[] }] 33 16 #[] #[{ accessFlags := 24, nameIndex := 28, descriptorIndex := 29, attributes := #[] }, { accessFlags := 26, nameIndex := 38, descriptorIndex := 39, attributes := #[] }, { accessFlags := 25, nameIndex := 121, descriptorIndex := 25, attributes := #[] }, { accessFlags := 25, nameIndex := 131, descriptorIndex := 25, attributes := #[] }, { accessFlags := 25, nameIndex := 137, descriptorIndex := 25, attributes := #[] }, { accessFlags := 25, nameIndex := 143, descriptorIndex := 25, attributes := #[] }, { accessFlags := 25, nameIndex := 53, descriptorIndex := 25, attributes := #[] }, { accessFlags := 25, nameIndex := 24, descriptorIndex := 25, attributes := #[] }, { accessFlags := 25, nameIndex := 162, descriptorIndex := 25, attributes := #[] }, { accessFlags := 25, nameIndex := 187, descriptorIndex := 25, attributes := #[] }, { accessFlags := 26, nameIndex := 48, descriptorIndex := 25, attributes := #[] }, { accessFlags := 25, nameIndex := 277, descriptorIndex := 25, attributes := #[] }, { accessFlags := 25, nameIndex := 280, descriptorIndex := 25, attributes := #[] }, { accessFlags := 25, nameIndex := 282, descriptorIndex := 25, attributes := #[] }, { accessFlags := 25, nameIndex := 284, descriptorIndex := 25, attributes := #[] }, { accessFlags := 25, nameIndex := 286, descriptorIndex := 25, attributes := #[] }, { accessFlags := 25, nameIndex := 288, descriptorIndex := 25, attributes := #[] }, { accessFlags := 25, nameIndex := 290, descriptorIndex := 25, attributes := #[] }, { accessFlags := 25, nameIndex := 292, descriptorIndex := 25, attributes := #[] }, { accessFlags := 26, nameIndex := 108, descriptorIndex := 109, attributes := #[] }, { accessFlags := 25, nameIndex := 294, descriptorIndex := 25, attributes := #[] }])
  fields := #[{ name := "U", type := (.object "jdk/internal/misc/Unsafe"), accessFlags := 24, slot := 0, constantValue := 0 }, { name := "BIG_ENDIAN", type := .boolean, accessFlags := 26, slot := 1, constantValue := 0 }, { name := "LOG2_ARRAY_BOOLEAN_INDEX_SCALE", type := .int, accessFlags := 25, slot := 2, constantValue := 0 }, { name := "LOG2_ARRAY_BYTE_INDEX_SCALE", type := .int, accessFlags := 25, slot := 3, constantValue := 0 }, { name := "LOG2_ARRAY_CHAR_INDEX_SCALE", type := .int, accessFlags := 25, slot := 4, constantValue := 0 }, { name := "LOG2_ARRAY_SHORT_INDEX_SCALE", type := .int, accessFlags := 25, slot := 5, constantValue := 0 }, { name := "LOG2_ARRAY_INT_INDEX_SCALE", type := .int, accessFlags := 25, slot := 6, constantValue := 0 }, { name := "LOG2_ARRAY_LONG_INDEX_SCALE", type := .int, accessFlags := 25, slot := 7, constantValue := 0 }, { name := "LOG2_ARRAY_FLOAT_INDEX_SCALE", type := .int, accessFlags := 25, slot := 8, constantValue := 0 }, { name := "LOG2_ARRAY_DOUBLE_INDEX_SCALE", type := .int, accessFlags := 25, slot := 9, constantValue := 0 }, { name := "LOG2_BYTE_BIT_SIZE", type := .int, accessFlags := 26, slot := 10, constantValue := 0 }, { name := "T_BOOLEAN", type := .int, accessFlags := 25, slot := 11, constantValue := 0 }, { name := "T_CHAR", type := .int, accessFlags := 25, slot := 12, constantValue := 0 }, { name := "T_FLOAT", type := .int, accessFlags := 25, slot := 13, constantValue := 0 }, { name := "T_DOUBLE", type := .int, accessFlags := 25, slot := 14, constantValue := 0 }, { name := "T_BYTE", type := .int, accessFlags := 25, slot := 15, constantValue := 0 }, { name := "T_SHORT", type := .int, accessFlags := 25, slot := 16, constantValue := 0 }, { name := "T_INT", type := .int, accessFlags := 25, slot := 17, constantValue := 0 }, { name := "T_LONG", type := .int, accessFlags := 25, slot := 18, constantValue := 0 }, { name := "JLA", type := (.object "jdk/internal/access/JavaLangAccess"), accessFlags := 26, slot := 19, constantValue := 0 }, { name := "SOFT_MAX_ARRAY_LENGTH", type := .int, accessFlags := 25, slot := 20, constantValue := 0 }]
  methods := #[k11m0]
  instanceTypes := #[]
  staticTypes := #[(.object "jdk/internal/misc/Unsafe"), .boolean, .int, .int, .int, .int, .int, .int, .int, .int, .int, .int, .int, .int, .int, .int, .int, .int, .int, (.object "jdk/internal/access/JavaLangAccess"), .int]
  resolved := Array.replicate 378 none
  statics := none }

def pool12 : Array CpInfo := pool [(1, u "java/lang/Cloneable"), (0, .class_ 1), (0, u "java/lang/Object"), (0, .class_ 3)] 3

/-- java/lang/Cloneable -/
def k12 : Class := { plain "java/lang/Cloneable" (some 0) with
  accessFlags := 1537
  interfaces := #[]
  cf := some (fileOf pool12 2 #[] #[] 1537 4 #[] #[])
  fields := #[]
  methods := #[]
  instanceTypes := #[]
  staticTypes := #[]
  resolved := Array.replicate 8 none
  statics := none }

/-- the primitive byte -/
def k13 : Class := { plain "byte" none with kind := .primitive 'B', accessFlags := 0x411 }
/-- [B -/
def k14 : Class := { plain "[B" (some 0) with kind := .array 13 .byte, interfaces := #[12, 2], accessFlags := 1041 }

/-- the primitive int -/
def k15 : Class := { plain "int" none with kind := .primitive 'I', accessFlags := 0x411 }
/-- [I -/
def k16 : Class := { plain "[I" (some 0) with kind := .array 15 .int, interfaces := #[12, 2], accessFlags := 1041 }

def heap : Heap := #[{ cls := 7, slots := #[.long 0, .int 1, .null, .int 0, .null, .int 0, .int 0], vm := .statics 7 },
  { cls := 9, slots := #[.null, .null, .null], vm := .statics 9 }]
def classes : Array Class := #[k0, k1, k2, k3, k4, k5, k6, k7, k8, k9, k10, k11, k12, k13, k14, k15, k16]
def interned : List (Array UInt16 × Addr) := []
def slotsUsed : Nat := 10
def theMethod : MethodId := ⟨1, 1⟩
def args0 : Array Value := #[.int 5, .int 5]
def aboutOver (below : List Frame) : State where
  vm := { classes := classes, interned := interned.toArray }
  heap := heap
  slotsUsed := slotsUsed
  threads := #[{ frames := .invoking theMethod args0 :: below }]
def below0 : List Frame := [.native { method := ⟨0, 0⟩, args := #[] }]
def about1 : State := aboutOver below0
def p0 : Program := .bare "" "" ""
def e0 : Env := launch0.env 0 0 0
theorem w_frames : about1.frames = Frame.invoking theMethod args0 :: below0 := rfl
set_option maxRecDepth 65536 in
theorem w_args : argsFit about1.vm theMethod args0 = true := by decide +kernel
set_option maxRecDepth 65536 in
theorem w_heap : heapFits about1 = true := by decide +kernel
set_option maxRecDepth 65536 in
theorem w_runnable : about1.curStatus? = some .runnable := by decide +kernel
set_option maxRecDepth 65536 in
theorem w_alone : about1.alone = true := by decide +kernel
set_option maxRecDepth 65536 in
theorem w_named : about1.methodNamed? x = some theMethod := by decide +kernel
set_option maxRecDepth 65536 in
theorem w_hears : about1.hears theMethod below0 = true := by decide +kernel
set_option maxRecDepth 65536 in
theorem w_ripe : about1.ripe theMethod args0 below0 = true := by decide +kernel
theorem w_running : about1.status = .running := rfl
set_option maxRecDepth 65536 in
theorem w_room : about1.hasRoom e0.platform room_1 = true :=
  launch0.hasRoom_least _ room_1 (by decide +kernel) (by decide +kernel) (by decide +kernel) (by decide +kernel) (by decide +kernel) (by decide +kernel)
theorem allAtoms_all (ts : List Jvm.Cond) (a : Array Jvm.Value) (st : Jvm.State) : (allAtoms ts).before a st = ts.all (fun c => c.before a st) := by
  induction ts with
  | nil => rfl
  | cons c t ih =>
    show (Jvm.Cond.and c (allAtoms t)).before a st = _
    rw [Jvm.Cond.before_and, ih, List.all_cons]
def words1 : List Jvm.Cond := Jvm.Cond.code x code maxLocals ret :: tables_1
/-- a 'code' word, met by the world's own term for the bytes: nothing is compared byte by byte -/
theorem code_word {y : MethodName} {bytes : ByteArray} {mx : Nat} {rt : Option FieldType} {a : Array Value} {s : State} {m : MethodId} {meth : Method} {c : Code} (h1 : s.methodNamed? y = some m) (h2 : s.vm.method? m = some meth) (h3 : meth.code = some c) (h4 : c.code = bytes)
    (h5 : (c.maxLocals == mx && c.exceptionTable.isEmpty && decide (c.maxStack ≤ mostOperands) && decide (meth.sig.returnType = rt) && !meth.locks && decide (parseMethodDescriptor y.desc = some meth.sig)) = true) : (Jvm.Cond.code y bytes mx rt).before a s = true := by
  simp only [Bool.and_eq_true, beq_iff_eq, Bool.not_eq_true', decide_eq_true_eq] at h5
  obtain ⟨⟨⟨⟨⟨g1, g2⟩, g3⟩, g4⟩, g5⟩, g6⟩ := h5
  simp [Cond.before, Cond.holds, Cond.value, h1, h2, h3, h4, g1, g2, g3, g4, g5, g6]
def isCode : Jvm.Cond → Bool
  | .code _ _ _ _ => true
  | _ => false
theorem all_split {L : List Jvm.Cond} {P : Jvm.Cond → Bool} (h1 : L.all (fun c => isCode c || P c) = true) (h2 : ∀ c ∈ L.filter isCode, P c = true) : L.all P = true := by
  refine List.all_eq_true.mpr fun c hc => ?_
  have h := List.all_eq_true.mp h1 c hc
  rcases Bool.eq_false_or_eq_true (isCode c) with hi | hi
  · exact h2 c (List.mem_filter.mpr ⟨hc, hi⟩)
  · simpa [hi] using h
set_option maxRecDepth 65536 in
theorem w_c0 : (Jvm.Cond.code x code maxLocals ret).before args0 about1 = true := code_word (m := ⟨1, 1⟩) (meth := k1m1) (c := k1c1) (by decide +kernel) rfl rfl rfl (by decide +kernel)
set_option maxRecDepth 65536 in
theorem w_c1 : (Jvm.Cond.code ({ cls := "java/lang/String", name := "charAt", desc := "(I)C" } : Jvm.MethodName) jdk_42_method_56_code (2 : Nat) (Option.some Jvm.ClassFile.FieldType.char)).before args0 about1 = true := code_word (m := ⟨7, 1⟩) (meth := k7m1) (c := k7c1) (by decide +kernel) rfl rfl rfl (by decide +kernel)
set_option maxRecDepth 65536 in
theorem w_c2 : (Jvm.Cond.code ({ cls := "java/lang/String", name := "isLatin1", desc := "()Z" } : Jvm.MethodName) jdk_42_method_154_code (1 : Nat) (Option.some Jvm.ClassFile.FieldType.boolean)).before args0 about1 = true := code_word (m := ⟨7, 2⟩) (meth := k7m2) (c := k7c2) (by decide +kernel) rfl rfl rfl (by decide +kernel)
set_option maxRecDepth 65536 in
theorem w_c3 : (Jvm.Cond.code ({ cls := "java/lang/StringLatin1", name := "charAt", desc := "([BI)C" } : Jvm.MethodName) jdk_43_method_2_code (2 : Nat) (Option.some Jvm.ClassFile.FieldType.char)).before args0 about1 = true := code_word (m := ⟨8, 1⟩) (meth := k8m1) (c := k8c1) (by decide +kernel) rfl rfl rfl (by decide +kernel)
set_option maxRecDepth 65536 in
theorem w_c4 : (Jvm.Cond.code ({ cls := "java/lang/String", name := "checkIndex", desc := "(II)V" } : Jvm.MethodName) jdk_42_method_155_code (2 : Nat) (Option.none : Option Jvm.ClassFile.FieldType)).before args0 about1 = true := code_word (m := ⟨7, 3⟩) (meth := k7m3) (c := k7c3) (by decide +kernel) rfl rfl rfl (by decide +kernel)
set_option maxRecDepth 65536 in
theorem w_c5 : (Jvm.Cond.code ({ cls := "jdk/internal/util/Preconditions", name := "checkIndex", desc := "(IILjava/util/function/BiFunction;)I" } : Jvm.MethodName) jdk_41_method_11_code (3 : Nat) (Option.some Jvm.ClassFile.FieldType.int)).before args0 about1 = true := code_word (m := ⟨9, 1⟩) (meth := k9m1) (c := k9c1) (by decide +kernel) rfl rfl rfl (by decide +kernel)
set_option maxRecDepth 65536 in
theorem w_c6 : (Jvm.Cond.code ({ cls := "com/example/bracewise/bracewise/value/Numbers", name := "digitValue", desc := "(C)I" } : Jvm.MethodName) prog_92_method_35_code (1 : Nat) (Option.some Jvm.ClassFile.FieldType.int)).before args0 about1 = true := code_word (m := ⟨10, 1⟩) (meth := k10m1) (c := k10c1) (by decide +kernel) rfl rfl rfl (by decide +kernel)
def codes1 : List Jvm.Cond := [Jvm.Cond.code x code maxLocals ret, Jvm.Cond.code ({ cls := "java/lang/String", name := "charAt", desc := "(I)C" } : Jvm.MethodName) jdk_42_method_56_code (2 : Nat) (Option.some Jvm.ClassFile.FieldType.char), Jvm.Cond.code ({ cls := "java/lang/String", name := "isLatin1", desc := "()Z" } : Jvm.MethodName) jdk_42_method_154_code (1 : Nat) (Option.some Jvm.ClassFile.FieldType.boolean), Jvm.Cond.code ({ cls := "java/lang/StringLatin1", name := "charAt", desc := "([BI)C" } : Jvm.MethodName) jdk_43_method_2_code (2 : Nat) (Option.some Jvm.ClassFile.FieldType.char), Jvm.Cond.code ({ cls := "java/lang/String", name := "checkIndex", desc := "(II)V" } : Jvm.MethodName) jdk_42_method_155_code (2 : Nat) (Option.none : Option Jvm.ClassFile.FieldType), Jvm.Cond.code ({ cls := "jdk/internal/util/Preconditions", name := "checkIndex", desc := "(IILjava/util/function/BiFunction;)I" } : Jvm.MethodName) jdk_41_method_11_code (3 : Nat) (Option.some Jvm.ClassFile.FieldType.int), Jvm.Cond.code ({ cls := "com/example/bracewise/bracewise/value/Numbers", name := "digitValue", desc := "(C)I" } : Jvm.MethodName) prog_92_method_35_code (1 : Nat) (Option.some Jvm.ClassFile.FieldType.int)]
set_option maxRecDepth 65536 in
theorem codes_eq : words1.filter isCode = codes1 := rfl
theorem w_codes : ∀ c ∈ words1.filter isCode, c.before args0 about1 = true := by
  rw [codes_eq]
  intro c hc
  simp only [codes1, List.mem_cons, List.not_mem_nil, or_false] at hc
  rcases hc with rfl | rfl | rfl | rfl | rfl | rfl | rfl
  · exact w_c0
  · exact w_c1
  · exact w_c2
  · exact w_c3
  · exact w_c4
  · exact w_c5
  · exact w_c6
set_option maxRecDepth 65536 in
theorem w_t1 : (words1.take 24).all (fun c => isCode c || c.before args0 about1) = true := by decide +kernel
set_option maxRecDepth 65536 in
theorem w_t2 : (words1.drop 24).all (fun c => isCode c || c.before args0 about1) = true := by decide +kernel
theorem w_tables : (allAtoms (Jvm.Cond.code x code maxLocals ret :: tables_1)).before args0 about1 = true := by
  rw [allAtoms_all]
  show words1.all (fun c => c.before args0 about1) = true
  refine all_split ?_ w_codes
  rw [← List.take_append_drop 24 words1, List.all_append, w_t1, w_t2]
  rfl
set_option maxRecDepth 65536 in
theorem w_rest : rest_1_c.before args0 about1 = true := by decide +kernel
set_option maxRecDepth 65536 in
theorem w_case : (Jvm.Cond.and given_1 narrow_1).before args0 about1 = true := by decide +kernel
set_option maxRecDepth 65536 in
theorem w_consts : constsHeld consts_1 about1 := Jvm.Lit.constsHeldB_iff.mp (by decide +kernel)
theorem w_applies : (headSpec (Jvm.Cond.code x code maxLocals ret :: tables_1) room_1).applies x e0.platform about1 = true :=
  (Spec.applies_iff w_frames).mpr ⟨w_running, w_runnable, w_alone, w_named, w_hears, w_ripe, w_room, w_tables⟩
theorem atStart : AtStart classFile x code maxLocals ret World_1 tables_1 room_1 Calls_1 rest_1 Pre_1 launch0 p0 e0 about1 theMethod args0 below0 :=
  ⟨lists_1, trivial, launch0.admits_env _ _ _, launch0.least_env, fairChoices_fair.cas, fairChoices_fair.clock, w_frames, w_args, w_heap, w_applies, ⟨w_consts, trivial⟩, w_rest, w_case⟩
end start1
theorem witness_1 : WitnessClaimed_1 := ⟨start1.p0, start1.e0, start1.about1, start1.theMethod, start1.args0, start1.below0, start1.atStart⟩
end Jvm.Pilot.@@N@@
