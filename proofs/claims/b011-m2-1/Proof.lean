import JvmDerived
import JvmDerived.Pilot.@@N@@Statement
import JvmDerived.Pilot.@@N@@Code
set_option linter.unusedVariables false
set_option linter.unusedSimpArgs false
namespace Jvm.Pilot.@@N@@
namespace StrChars
open Jvm Sem ClassFile Op Lib Jvm.Stand Jvm.Free.XT Jvm.Free.ALB Jvm.Free.JM Jvm.Free
open Jvm.Lib.Cold (StaticIs)
def lo8 (x : Int32) : Int32 := x.toInt8.toInt32
theorem fits_lo8 (y : Int32) : fits .byte (.int (lo8 y)) = true := by
  have h1 := y.toInt8.le_toInt
  have h2 := y.toInt8.toInt_lt
  simp only [lo8, fits, Bool.and_eq_true, decide_eq_true_eq, Int32.le_iff_toInt_le, Int8.toInt_toInt32, show (-128 : Int32).toInt = -128 from by decide, show (127 : Int32).toInt = 127 from by decide]
  omega
theorem lo8_mask {x : Int32} (h0 : ¬ x < 0) (h1 : ¬ 255 < x) : lo8 x &&& 255 = x := by
  have t : ∀ k : Fin 256, lo8 (Int32.ofNat k.val) &&& 255 = Int32.ofNat k.val := by decide +kernel
  rw [Int32.lt_iff_toInt_lt] at h0 h1
  have e0 : (0 : Int32).toInt = 0 := rfl
  have e1 : (255 : Int32).toInt = 255 := rfl
  obtain ⟨k, hk⟩ : ∃ k : Nat, x.toInt = k := ⟨x.toInt.toNat, by omega⟩
  have hx : x = Int32.ofNat k := Int32.toInt_inj.mp (by rw [hk, Int32.toInt_ofNat_small (by omega)])
  rw [hx]
  exact t ⟨k, by omega⟩
end StrChars
namespace StrChars.Road
open Jvm Sem ClassFile Op Lib Jvm.Stand Jvm.Free Jvm.Free.XT
open Jvm.Lib.Cold (StaticIs)
abbrev ST : String := "java/lang/String"
end StrChars.Road
namespace StrChars
open Jvm Sem ClassFile Op Lib Jvm.Stand Jvm.Free.XT Jvm.Free.ALB Jvm.Free.JM Jvm.Free
open Jvm.Lib.Cold (StaticIs)
def hi8 (x : Int32) : Int32 := lo8 (x >>> ((8 : Int32) &&& 31))
def pairCh (u v : Int32) : Int32 := (((u &&& 255) <<< ((0 : Int32) &&& 31)) ||| ((v &&& 255) <<< ((8 : Int32) &&& 31))).toUInt32.toUInt16.toUInt32.toInt32
theorem shr0 (c : Int32) : c >>> ((0 : Int32) &&& 31) = c := by
  have e : ((0 : Int32) &&& 31) = 0 := by decide
  rw [e]
  apply Int32.toBitVec_inj.mp
  rw [Int32.toBitVec_shiftRight]
  have e1 : ((0 : Int32).toBitVec.smod 32) = 0#32 := by decide
  rw [e1, BitVec.sshiftRight_eq']
  exact BitVec.sshiftRight_zero
theorem lo8_and (x : Int32) : (lo8 x &&& 255).toBitVec.toNat = x.toBitVec.toNat % 256 := by
  have h : (lo8 x).toBitVec = (x.toBitVec.signExtend 8).signExtend 32 := by rw [lo8, Int8.toBitVec_toInt32, Int32.toBitVec_toInt8]
  rw [Int32.toBitVec_and, BitVec.toNat_and, h]
  have e : ((x.toBitVec.signExtend 8).signExtend 32).toNat % 256 = x.toBitVec.toNat % 256 := by
    rw [BitVec.toNat_signExtend]
    have hlt := x.toBitVec.isLt
    simp only [BitVec.toNat_setWidth, BitVec.toNat_signExtend]
    split <;> split <;> omega
  rw [← e]
  exact Nat.and_two_pow_sub_one_eq_mod _ 8
theorem pair_says {c : Int32} (h0 : ¬ c < 0) (h1 : ¬ 65535 < c) : pairCh (lo8 c) (hi8 c) = c := by
  rw [Int32.lt_iff_toInt_lt] at h0 h1
  have e0 : (0 : Int32).toInt = 0 := rfl
  have e1 : (65535 : Int32).toInt = 65535 := rfl
  have hc : c.toInt = c.toBitVec.toNat := by
    have := c.toBitVec.isLt
    have e : c.toInt = c.toBitVec.toInt := rfl
    rw [e] at h0 h1
    rw [e]
    rw [BitVec.toInt_eq_toNat_cond] at h0 h1 ⊢
    split at h0 <;> split <;> omega
  have hn : c.toBitVec.toNat < 65536 := by omega
  have a1 := lo8_and c
  have a2 : (hi8 c &&& 255).toBitVec.toNat = c.toBitVec.toNat / 256 := by
    rw [hi8, lo8_and]
    have e : ((8 : Int32) &&& 31) = 8 := by decide
    rw [e, Int32.toBitVec_shiftRight]
    have e2 : ((8 : Int32).toBitVec.smod 32) = 8#32 := by decide
    rw [e2, BitVec.sshiftRight_eq', BitVec.toNat_sshiftRight_of_msb_false (by rw [BitVec.msb_eq_false_iff_two_mul_lt]; omega)]
    show c.toBitVec.toNat >>> 8 % 256 = _
    rw [Nat.shiftRight_eq_div_pow]
    omega
  unfold pairCh
  apply Int32.toBitVec_inj.mp
  apply BitVec.eq_of_toNat_eq
  have f0 : ((0 : Int32) &&& 31) = 0 := by decide
  have f8 : ((8 : Int32) &&& 31) = 8 := by decide
  rw [f0, f8]
  have g : (((lo8 c &&& 255) <<< (0 : Int32)) ||| ((hi8 c &&& 255) <<< (8 : Int32))).toBitVec.toNat = c.toBitVec.toNat := by
    rw [Int32.toBitVec_or, Int32.toBitVec_shiftLeft, Int32.toBitVec_shiftLeft]
    have s0 : ((0 : Int32).toBitVec.smod 32) = 0#32 := by decide
    have s8 : ((8 : Int32).toBitVec.smod 32) = 8#32 := by decide
    rw [s0, s8, BitVec.toNat_or]
    simp only [BitVec.shiftLeft_eq', BitVec.toNat_shiftLeft, a1, a2]
    show (c.toBitVec.toNat % 256) <<< 0 % 2 ^ 32 ||| (c.toBitVec.toNat / 256) <<< 8 % 2 ^ 32 = _
    rw [Nat.shiftLeft_zero, Nat.mod_eq_of_lt (show c.toBitVec.toNat % 256 < 2 ^ 32 by omega), Nat.mod_eq_of_lt (show (c.toBitVec.toNat / 256) <<< 8 < 2 ^ 32 by rw [Nat.shiftLeft_eq]; omega), Nat.or_comm, ← Nat.shiftLeft_add_eq_or_of_lt (by omega), Nat.shiftLeft_eq]
    omega
  show BitVec.toNat (((((lo8 c &&& 255) <<< (0 : Int32)) ||| ((hi8 c &&& 255) <<< (8 : Int32))).toBitVec.setWidth 16).setWidth 32) = _
  rw [BitVec.toNat_setWidth, BitVec.toNat_setWidth, g]
  omega
end StrChars
namespace StrChars
open Jvm Sem ClassFile Op Lib Jvm.Stand Jvm.Free.XT Jvm.Free.ALB Jvm.Free.JM Jvm.Free
open Jvm.Lib.Cold (StaticIs)
theorem shr1 {n : Nat} (h : 2 * n < 2 ^ 31) : Int32.ofNat (2 * n) >>> ((1 : Int32) &&& 31) = Int32.ofNat n := by
  have e : ((1 : Int32) &&& 31) = 1 := by decide
  rw [e]
  apply Int32.toBitVec_inj.mp
  rw [Int32.toBitVec_shiftRight]
  have e1 : ((1 : Int32).toBitVec.smod 32) = 1#32 := by decide
  have hm : (BitVec.ofNat 32 (2 * n)).toNat = 2 * n := by rw [BitVec.toNat_ofNat, Nat.mod_eq_of_lt (by omega)]
  rw [e1, BitVec.sshiftRight_eq']
  apply BitVec.eq_of_toNat_eq
  show ((BitVec.ofNat 32 (2 * n)).sshiftRight 1).toNat = (BitVec.ofNat 32 n).toNat
  rw [BitVec.toNat_sshiftRight_of_msb_false (by rw [BitVec.msb_eq_false_iff_two_mul_lt, hm]; omega), hm, BitVec.toNat_ofNat, Nat.shiftRight_eq_div_pow]
  omega
def chr8 (u : Int32) : Int32 := (u &&& 255).toUInt32.toUInt16.toUInt32.toInt32
theorem chr8_lo8 {c : Int32} (h0 : ¬ c < 0) (h1 : ¬ 255 < c) : chr8 (lo8 c) = c := by
  have t : ∀ k : Fin 256, (Int32.ofNat k.val).toUInt32.toUInt16.toUInt32.toInt32 = Int32.ofNat k.val := by decide +kernel
  unfold chr8
  rw [lo8_mask h0 h1]
  rw [Int32.lt_iff_toInt_lt] at h0 h1
  have e0 : (0 : Int32).toInt = 0 := rfl
  have e1 : (255 : Int32).toInt = 255 := rfl
  obtain ⟨k, hk⟩ : ∃ k : Nat, c.toInt = k := ⟨c.toInt.toNat, by omega⟩
  have hx : c = Int32.ofNat k := Int32.toInt_inj.mp (by rw [hk, Int32.toInt_ofNat_small (by omega)])
  rw [hx]
  exact t ⟨k, by omega⟩
theorem narrow_ch {c : Int32} (h0 : ¬ c < 0) (h1 : ¬ 65535 < c) : narrow .char (.int c) = .int c := by
  have q : narrow .char (.int (pairCh (lo8 c) (hi8 c))) = .int (pairCh (lo8 c) (hi8 c)) := narrow_c _
  rwa [pair_says h0 h1] at q
def Cod (cd : Int32) (n : Nat) (f : Nat → Int32) (V : Cell) : Prop := (cd = 0 ∧ V.slots.size = n ∧ ∀ j, j < n → V.slots[j]? = some (.int (lo8 (f j))) ∧ ¬ 255 < f j) ∨ (cd = 1 ∧ V.slots.size = 2 * n ∧ (∀ j, j < n → V.slots[2 * j]? = some (.int (lo8 (f j))) ∧ V.slots[2 * j + 1]? = some (.int (hi8 (f j)))) ∧ ∃ j, j < n ∧ 255 < f j)
def Txt (x t : Addr) (V : Cell) (cd : Int32) (n : Nat) (f : Nat → Int32) (U : State) : Prop := Exact "java/lang/String" x U ∧ Has x "java/lang/String" "value" "[B" (.ref t) U ∧ Has x "java/lang/String" "coder" "B" (.int cd) U ∧ XT.Arr .byte t V U ∧ Cod cd n f V ∧ ∀ j, j < n → ¬ f j < 0 ∧ ¬ 65535 < f j
theorem Txt.mv {x t : Addr} {V : Cell} {cd : Int32} {n : Nat} {f : Nat → Int32} {U U' : State} (h : Txt x t V cd n f U) (hal : U.vm.Alike U'.vm) (hh : U'.heap = U.heap) : Txt x t V cd n f U' := ⟨h.1.mv hal hh, h.2.1.mv hal hh, h.2.2.1.mv hal hh, h.2.2.2.1.mv hal hh, h.2.2.2.2⟩
end StrChars
namespace StrChars.Road
open Jvm Sem ClassFile Op Lib Jvm.Stand Jvm.Free Jvm.Free.XT
open Jvm.Lib.Cold (StaticIs)
theorem consq {a : Array Value} {s : State} {c : Jvm.Cond} {L : List Jvm.Cond} (h0 : c.before a s = true) (h : ∀ w ∈ L, w.before a s = true) : ∀ w ∈ c :: L, w.before a s = true := fun w hw => (List.mem_cons.mp hw).elim (fun e => e ▸ h0) (h w)
def wideBytes : List Int32 → List Value
  | [] => []
  | c :: cs => .int (lo8 c) :: .int (hi8 c) :: wideBytes cs
theorem wide_lo (d : Value) : ∀ (cs : List Int32) (j : Nat), j < cs.length → (wideBytes cs).getD (2 * j) d = .int (lo8 (cs.getD j 0))
  | [], j, h => absurd h (Nat.not_lt_zero j)
  | c :: cs, 0, _ => rfl
  | c :: cs, j + 1, h => by
    have q := wide_lo d cs j (by simpa using h)
    rw [show 2 * (j + 1) = 2 * j + 1 + 1 from by omega]
    simpa [wideBytes] using q
theorem wide_hi (d : Value) : ∀ (cs : List Int32) (j : Nat), j < cs.length → (wideBytes cs).getD (2 * j + 1) d = .int (hi8 (cs.getD j 0))
  | [], j, h => absurd h (Nat.not_lt_zero j)
  | c :: cs, 0, _ => rfl
  | c :: cs, j + 1, h => by
    have q := wide_hi d cs j (by simpa using h)
    rw [show 2 * (j + 1) + 1 = 2 * j + 1 + 1 + 1 from by omega]
    simpa [wideBytes] using q
theorem low_at (d : Value) (cs : List Int32) (j : Nat) (h : j < cs.length) : (cs.map fun c => Value.int (lo8 c)).getD j d = .int (lo8 (cs.getD j 0)) := by
  simp [List.getD_eq_getElem?_getD, h]
def CodA (cs : List Int32) (cd N2 : Int32) (vs : List Value) : Prop := (cd = 0 ∧ N2 = Int32.ofNat cs.length ∧ vs = (cs.map fun c => Value.int (lo8 c)) ∧ ∀ c ∈ cs, ¬ 255 < c) ∨ (cd = 1 ∧ N2 = Int32.ofNat (2 * cs.length) ∧ vs = wideBytes cs ∧ ∃ c ∈ cs, 255 < c)
theorem CodA.cod {cs : List Int32} {cd N2 : Int32} {vs : List Value} {V : Cell} (h : CodA cs cd N2 vs) (hn : 2 * cs.length < 2 ^ 31) (hs : V.slots.size = N2.toNatClampNeg) (hv : RoadKit.Has V vs (.int 0)) : Cod cd cs.length (fun j => cs.getD j 0) V := by
  rcases h with ⟨rfl, rfl, rfl, h⟩ | ⟨rfl, rfl, rfl, c, hc, hw⟩
  · rw [n32 (by omega)] at hs
    exact Or.inl ⟨rfl, hs, fun j hj => ⟨by rw [hv j (by omega), low_at _ _ _ hj], by
      have e : cs.getD j 0 = cs[j] := by simp [List.getD_eq_getElem?_getD, hj]
      show ¬ 255 < cs.getD j 0
      rw [e]; exact h _ (List.getElem_mem _)⟩⟩
  · rw [n32 (by omega)] at hs
    obtain ⟨j, hj, rfl⟩ := List.getElem_of_mem hc
    exact Or.inr ⟨rfl, hs, fun j hj => ⟨by rw [hv _ (by omega), wide_lo _ _ _ hj], by rw [hv _ (by omega), wide_hi _ _ _ hj]⟩, j, hj, by
      have e : cs.getD j 0 = cs[j] := by simp [List.getD_eq_getElem?_getD, hj]
      show 255 < cs.getD j 0
      rw [e]; exact hw⟩
theorem strObj {Z U : State} {a0 : Array Value} {kI : Nat} (wi : (Jvm.Cond.instantiable ST kI).before a0 Z = true) (al : Z.vm.Alike U.vm) {x : Addr} {v0 c0 : Value} (E : RoadKit.Exa Z U.heap x ST) (V : RoadKit.Fld Z U.heap x ST "value" "[B" v0) (C : RoadKit.Fld Z U.heap x ST "coder" "B" c0) :
    ∃ (D : Cell) (fV fC : Field), Blank ST x D U ∧ Found ST "value" "[B" fV U ∧ Found ST "coder" "B" fC U ∧ D.slots[fV.slot]? = some v0 ∧ D.slots[fC.slot]? = some c0 ∧ RoadKit.slotOf Z ST "value" "[B" = fV.slot ∧ RoadKit.slotOf Z ST "coder" "B" = fC.slot := by
  obtain ⟨D, cfV, kV, iV, fV, hD, gV, stV, knV, obV, asV, slV⟩ := V
  obtain ⟨D', cfC, kC, iC, fC, hD', gC, stC, -, -, asC, slC⟩ := C
  cases hD.symm.trans hD'
  obtain ⟨D2, kD, e1, e2, e3, e4, e5⟩ := E
  cases hD.symm.trans e1
  obtain ⟨c2, k2, i1, i2, i3, -⟩ := Cond.instantiable_spec wi
  cases e2.symm.trans i1
  cases e3.symm.trans i2
  obtain ⟨kU, u1, u2⟩ := al.2.2 _ _ e3
  exact ⟨D, fV, fC, ⟨hD, ⟨knV, fun q hq => by rw [hq] at obV; cases obV⟩, by rw [al.findClass]; exact e2, kU, u1, by rw [u2]; exact i3, by rw [u2]; exact e5 i3⟩, ⟨SBG.found_only al ⟨cfV, kV, iV, gV⟩, stV⟩, ⟨SBG.found_only al ⟨cfC, kC, iC, gC⟩, stC⟩, slV, slC, by simp [RoadKit.slotOf, gV], by simp [RoadKit.slotOf, gC]⟩
theorem sta_is {Z U : State} (al : Z.vm.Alike U.vm) {C n d : String} {v : Value} (S : RoadKit.Sta Z U.heap C n d v) : StaticIs U C n d v := by
  obtain ⟨cfS, iS, kS, fS, st, cS, t1, t2, t3, t4, t5, t6, t7⟩ := S
  exact StaticIs.there (s := { Z with heap := U.heap }) ⟨cfS, iS, kS, fS, st, cS, t1, t2, t3, t4, t5, (fun q => by rw [q] at t6; cases t6), t7⟩ al rfl
end StrChars.Road
namespace StrChars
open Jvm Sem ClassFile Op Lib Jvm.Stand Jvm.Free.XT Jvm.Free.ALB Jvm.Free.JM Jvm.Free
open Jvm.Lib.Cold (StaticIs)
def yv (A : Cell) (i : Nat) : Int32 := match A.slots[i]? with | some (.int x) => x | _ => 0
theorem yv_get {a : Addr} {A : Cell} {U : State} (h : XT.Arr .byte a A U) (ht : Typed .byte A) {i : Nat} (hi : i < A.slots.size) : A.slots[i]? = some (.int (yv A i)) := by
  have e := Array.getElem?_eq_getElem hi
  have f := ht i _ e
  unfold yv; rw [e]
  generalize A.slots[i] = v at f
  cases v <;> simp [fits] at f ⊢
def EqC (A B : Cell) : Prop := A.slots.size = B.slots.size ∧ ∀ i, i < A.slots.size → yv A i = yv B i
def Says01 (q : Prop) (r : Option Value) (s u : State) : Prop := ∃ v : Int32, r = some (.int v) ∧ u.heap = s.heap ∧ ((v = 1 ∧ q) ∨ (v = 0 ∧ ¬ q))
theorem Says01.mv {q : Prop} : ∀ r (U U' V V' : State), U'.heap = U.heap → V.vm.Alike V'.vm → V'.heap = V.heap → Says01 q r U V → Says01 q r U' V' :=
  fun r U U' V V' h1 _ h2 ⟨v, a, b, c⟩ => ⟨v, a, by rw [h1, h2]; exact b, c⟩
namespace LEq
def yN : MethodName := ⟨"java/lang/StringLatin1", "equals", "([B[B)Z"⟩
abbrev yB : ByteArray := jdk_43_method_13_code
theorem d0 : decode yB 0 = .ok (.aload_n 0, 1) := by decide +kernel
theorem d1 : decode yB 1 = .ok (.arraylength, 1) := by decide +kernel
theorem d2 : decode yB 2 = .ok (.aload_n 1, 1) := by decide +kernel
theorem d3 : decode yB 3 = .ok (.arraylength, 1) := by decide +kernel
theorem d4 : decode yB 4 = .ok (.if_icmp (.ne) 30, 3) := by decide +kernel
theorem d7 : decode yB 7 = .ok (.iconst 0, 1) := by decide +kernel
theorem d8 : decode yB 8 = .ok (.istore_n 2, 1) := by decide +kernel
theorem d9 : decode yB 9 = .ok (.iload_n 2, 1) := by decide +kernel
theorem d10 : decode yB 10 = .ok (.aload_n 0, 1) := by decide +kernel
theorem d11 : decode yB 11 = .ok (.arraylength, 1) := by decide +kernel
theorem d12 : decode yB 12 = .ok (.if_icmp (.ge) 20, 3) := by decide +kernel
theorem d15 : decode yB 15 = .ok (.aload_n 0, 1) := by decide +kernel
theorem d16 : decode yB 16 = .ok (.iload_n 2, 1) := by decide +kernel
theorem d17 : decode yB 17 = .ok (.baload, 1) := by decide +kernel
theorem d18 : decode yB 18 = .ok (.aload_n 1, 1) := by decide +kernel
theorem d19 : decode yB 19 = .ok (.iload_n 2, 1) := by decide +kernel
theorem d20 : decode yB 20 = .ok (.baload, 1) := by decide +kernel
theorem d21 : decode yB 21 = .ok (.if_icmp (.eq) 5, 3) := by decide +kernel
theorem d24 : decode yB 24 = .ok (.iconst 0, 1) := by decide +kernel
theorem d25 : decode yB 25 = .ok (.ireturn, 1) := by decide +kernel
theorem d26 : decode yB 26 = .ok (.iinc 2 1, 3) := by decide +kernel
theorem d29 : decode yB 29 = .ok (.goto (-20), 3) := by decide +kernel
theorem d32 : decode yB 32 = .ok (.iconst 1, 1) := by decide +kernel
theorem d33 : decode yB 33 = .ok (.ireturn, 1) := by decide +kernel
theorem d34 : decode yB 34 = .ok (.iconst 0, 1) := by decide +kernel
theorem d35 : decode yB 35 = .ok (.ireturn, 1) := by decide +kernel
def site : List Cond := []
def tab : Cond := tabOf yN yB 3 (some .boolean) site
def P (a : Addr) (A : Cell) (b : Addr) (B : Cell) (args : Array Value) (s : State) : Prop := args = #[.ref a, .ref b] ∧ XT.Arr .byte a A s ∧ Typed .byte A ∧ XT.Arr .byte b B s ∧ Typed .byte B
theorem law (l : Launch) (a : Addr) (A : Cell) (b : Addr) (B : Cell) : Law l yN 2 2 0 0 yB 3 (some .boolean) site (P a A b B) (Says01 (EqC A B)) [] 0 0 := by
  refine Law.of_walk (plainFor_of_name (by decide +kernel)) (by decide +kernel) (by decide +kernel) (by decide) (fun _ _ h => by rw [h.1]; rfl) (fun _ U U' hal hh h => ⟨h.1, h.2.1.mv hal hh, h.2.2.1, h.2.2.2.1.mv hal hh, h.2.2.2.2⟩) (fun r U U' V V' h1 hal h2 h => Says01.mv r U U' V V' h1 hal h2 h) ?_
  intro p e s m args below meth c s₁ X0 hexec hbytes hml hret hlk hnm hown hh0 W hP
  obtain ⟨rfl, hA, tA, hB, tB⟩ := hP
  have a31 := hA.2.2.2
  have b31 := hB.2.2.2
  have hA0 := hA.mv X0.warmed.alike hh0
  have hB0 := hB.mv X0.warmed.alike hh0
  have c1 : Steps p.tables e below (s₁.setTop (entryFrame m #[.ref a, .ref b] 3)) (s₁.setTop (mkF m 0 #[.val (.ref a), .val (.ref b), .unset] [])) := entry rfl
  have c2 : Steps p.tables e below (s₁.setTop (entryFrame m #[.ref a, .ref b] 3)) (s₁.setTop (mkF m 4 #[.val (.ref a), .val (.ref b), .unset] [.int (Int32.ofNat B.slots.size), .int (Int32.ofNat A.slots.size)])) := c1.trans (by
    refine XS.aloadN X0.here hexec rfl (hb hbytes d0) rfl rfl ?_
    refine X0.alen hexec hA0 rfl rfl (hb hbytes d1) ?_
    refine XS.aloadN X0.here hexec rfl (hb hbytes d2) rfl rfl ?_
    refine X0.alen hexec hB0 rfl rfl (hb hbytes d3) ?_
    exact Steps.refl _)
  by_cases hs : A.slots.size = B.slots.size
  · have c3 : Steps p.tables e below (s₁.setTop (entryFrame m #[.ref a, .ref b] 3)) (s₁.setTop (mkF m 9 #[.val (.ref a), .val (.ref b), .val (.int 0)] [])) := c2.trans (by
      refine XS.icmpNo X0.here hexec rfl (hb hbytes d4) rfl (ii_ne_f (by rw [hs])) ?_
      refine iconstV X0.here hexec rfl 0 (hb hbytes d7) (by decide) ?_
      refine XS.istoreN X0.here hexec rfl (hb hbytes d8) rfl rfl ?_
      exact Steps.refl _)
    have loop : ∀ (r i : Nat), i + r = A.slots.size → (∀ j, j < i → yv A j = yv B j) → Steps p.tables e below (s₁.setTop (entryFrame m #[.ref a, .ref b] 3)) (s₁.setTop (mkF m 9 #[.val (.ref a), .val (.ref b), .val (.int (Int32.ofNat i))] [])) → ∃ (pc : Nat) (Ls : Array Slot) (v : Int32), (pc = 25 ∨ pc = 33) ∧ ((v = 1 ∧ EqC A B) ∨ (v = 0 ∧ ¬ EqC A B)) ∧ Steps p.tables e below (s₁.setTop (entryFrame m #[.ref a, .ref b] 3)) (s₁.setTop (mkF m pc Ls [.int v])) := by
      intro r
      induction r with
      | zero =>
        intro i hi he cl
        exact ⟨33, _, 1, Or.inr rfl, Or.inl ⟨rfl, hs, fun j hj => he j (by omega)⟩, cl.trans (by
          refine XS.iloadN X0.here hexec rfl (hb hbytes d9) rfl ?_
          refine XS.aloadN X0.here hexec rfl (hb hbytes d10) rfl rfl ?_
          refine X0.alen hexec hA0 rfl rfl (hb hbytes d11) ?_
          refine XS.icmpYes X0.here hexec rfl (pc0 := 12) rfl (hb hbytes d12) rfl (ii_ge_t (nlt32 (by omega) (by omega))) (by decide) rfl ?_
          refine iconstV X0.here hexec rfl 1 (hb hbytes d32) (by decide) ?_
          exact Steps.refl _)⟩
      | succ r ih =>
        intro i hi he cl
        have c4 : Steps p.tables e below (s₁.setTop (entryFrame m #[.ref a, .ref b] 3)) (s₁.setTop (mkF m 21 #[.val (.ref a), .val (.ref b), .val (.int (Int32.ofNat i))] [.int (yv B i), .int (yv A i)])) := cl.trans (by
          refine XS.iloadN X0.here hexec rfl (hb hbytes d9) rfl ?_
          refine XS.aloadN X0.here hexec rfl (hb hbytes d10) rfl rfl ?_
          refine X0.alen hexec hA0 rfl rfl (hb hbytes d11) ?_
          refine XS.icmpNo X0.here hexec rfl (hb hbytes d12) rfl (ii_ge_f (lt32 (by omega) (by omega))) ?_
          refine XS.aloadN X0.here hexec rfl (hb hbytes d15) rfl rfl ?_
          refine XS.iloadN X0.here hexec rfl (hb hbytes d16) rfl ?_
          refine X0.aget hexec hA0 rfl (yv_get hA tA (i := i) (by omega)) rfl rfl (hb hbytes d17) ?_
          refine XS.aloadN X0.here hexec rfl (hb hbytes d18) rfl rfl ?_
          refine XS.iloadN X0.here hexec rfl (hb hbytes d19) rfl ?_
          refine X0.aget hexec hB0 rfl (yv_get hB tB (i := i) (by omega)) rfl rfl (hb hbytes d20) ?_
          exact Steps.refl _)
        by_cases hv : yv A i = yv B i
        · have c5 : Steps p.tables e below (s₁.setTop (entryFrame m #[.ref a, .ref b] 3)) (s₁.setTop (mkF m 9 #[.val (.ref a), .val (.ref b), .val (.int (Int32.ofNat i + 1))] [])) := c4.trans (by
            refine XS.icmpYes X0.here hexec rfl (pc0 := 21) rfl (hb hbytes d21) rfl (ii_eq_t hv) (by decide) rfl ?_
            refine iincV X0.here hexec rfl 1 (hb hbytes d26) (by decide) rfl rfl ?_
            refine XS.goto X0.here hexec rfl (pc0 := 29) rfl (hb hbytes d29) (by decide) rfl ?_
            exact Steps.refl _)
          rw [succ32] at c5
          exact ih (i + 1) (by omega) (fun j hj => by
            by_cases e : j = i
            · rw [e]; exact hv
            · exact he j (by omega)) c5
        · exact ⟨25, _, 0, Or.inl rfl, Or.inr ⟨rfl, fun q => hv (q.2 i (by omega))⟩, c4.trans (by
            refine XS.icmpNo X0.here hexec rfl (hb hbytes d21) rfl (ii_eq_f hv) ?_
            refine iconstV X0.here hexec rfl 0 (hb hbytes d24) (by decide) ?_
            exact Steps.refl _)⟩
    obtain ⟨pc, Ls, v, hpc, hv, cz⟩ := loop A.slots.size 0 (by omega) (fun j hj => absurd hj (Nat.not_lt_zero j)) c3
    have nv : narrow .boolean (.int v) = .int v := by rcases hv with ⟨rfl, -⟩ | ⟨rfl, -⟩ <;> rfl
    rcases hpc with rfl | rfl
    · exact ⟨s₁, some (.int v), _, _, _, X0, rfl, rfl, rfl, (fun h => by cases h), ⟨v, rfl, hh0, hv⟩, fun fs hl => cz.trans (X0.ireturnOut hexec hret nv (Or.inr (Or.inl rfl)) (hb hbytes d25) hl)⟩
    · exact ⟨s₁, some (.int v), _, _, _, X0, rfl, rfl, rfl, (fun h => by cases h), ⟨v, rfl, hh0, hv⟩, fun fs hl => cz.trans (X0.ireturnOut hexec hret nv (Or.inr (Or.inl rfl)) (hb hbytes d33) hl)⟩
  · have c3 : Steps p.tables e below (s₁.setTop (entryFrame m #[.ref a, .ref b] 3)) (s₁.setTop (mkF m 35 #[.val (.ref a), .val (.ref b), .unset] [.int 0])) := c2.trans (by
      refine XS.icmpYes X0.here hexec rfl (pc0 := 4) rfl (hb hbytes d4) rfl (ii_ne_t (ne32 a31 b31 hs)) (by decide) rfl ?_
      refine iconstV X0.here hexec rfl 0 (hb hbytes d34) (by decide) ?_
      exact Steps.refl _)
    exact ⟨s₁, some (.int 0), _, _, _, X0, rfl, rfl, rfl, (fun h => by cases h), ⟨0, rfl, hh0, Or.inr ⟨rfl, fun q => hs q.1⟩⟩, fun fs hl => c3.trans (X0.ireturnOut hexec hret rfl (Or.inr (Or.inl rfl)) (hb hbytes d35) hl)⟩
end LEq
theorem Cod.ty {cd : Int32} {n : Nat} {f : Nat → Int32} {V : Cell} (h : Cod cd n f V) : Typed .byte V := fun i v hv => by
  have hi : i < V.slots.size := (Array.getElem?_eq_some_iff.mp hv).1
  rcases h with ⟨-, k1, k2⟩ | ⟨-, k1, k2, -⟩
  · rw [(k2 i (by omega)).1] at hv; cases hv; exact fits_lo8 _
  · rcases Nat.mod_two_eq_zero_or_one i with e | e
    · obtain ⟨j, rfl⟩ : ∃ j, i = 2 * j := ⟨i / 2, by omega⟩
      rw [(k2 j (by omega)).1] at hv; cases hv; exact fits_lo8 _
    · obtain ⟨j, rfl⟩ : ∃ j, i = 2 * j + 1 := ⟨i / 2, by omega⟩
      rw [(k2 j (by omega)).2] at hv; cases hv; exact fits_lo8 _
def SameT (n : Nat) (f : Nat → Int32) (k : Nat) (g : Nat → Int32) : Prop := n = k ∧ ∀ j, j < n → f j = g j
theorem lo8_inj {x y : Int32} (h0 : ¬ x < 0) (h1 : ¬ 255 < x) (k0 : ¬ y < 0) (k1 : ¬ 255 < y) (h : lo8 x = lo8 y) : x = y := by
  rw [← lo8_mask h0 h1, ← lo8_mask k0 k1, h]
theorem Cod.eqv {cd : Int32} {n k : Nat} {f g : Nat → Int32} {V V' : Cell} (h : Cod cd n f V) (h' : Cod cd k g V') (hf : ∀ j, j < n → ¬ f j < 0 ∧ ¬ 65535 < f j) (hg : ∀ j, j < k → ¬ g j < 0 ∧ ¬ 65535 < g j) : EqC V V' ↔ SameT n f k g := by
  have yvv : ∀ {W : Cell} {i : Nat} {x : Int32}, W.slots[i]? = some (.int x) → yv W i = x := fun q => by unfold yv; rw [q]
  rcases h with ⟨rfl, k1, k2⟩ | ⟨rfl, k1, k2, -⟩
  · rcases h' with ⟨-, m1, m2⟩ | ⟨e, -⟩
    · constructor
      · rintro ⟨e1, e2⟩
        refine ⟨by omega, fun j hj => ?_⟩
        have q := e2 j (by omega)
        rw [yvv (k2 j hj).1, yvv (m2 j (by omega)).1] at q
        exact lo8_inj (hf j hj).1 (k2 j hj).2 (hg j (by omega)).1 (m2 j (by omega)).2 q
      · rintro ⟨rfl, e2⟩
        refine ⟨by omega, fun j hj => ?_⟩
        rw [yvv (k2 j (by omega)).1, yvv (m2 j (by omega)).1, e2 j (by omega)]
    · exact absurd e (by decide)
  · rcases h' with ⟨e, -⟩ | ⟨-, m1, m2, -⟩
    · exact absurd e (by decide)
    · constructor
      · rintro ⟨e1, e2⟩
        refine ⟨by omega, fun j hj => ?_⟩
        have q1 := e2 (2 * j) (by omega)
        have q2 := e2 (2 * j + 1) (by omega)
        rw [yvv (k2 j hj).1, yvv (m2 j (by omega)).1] at q1
        rw [yvv (k2 j hj).2, yvv (m2 j (by omega)).2] at q2
        rw [← pair_says (hf j hj).1 (hf j hj).2, ← pair_says (hg j (by omega)).1 (hg j (by omega)).2, q1, q2]
      · rintro ⟨rfl, e2⟩
        refine ⟨by omega, fun i hi => ?_⟩
        rcases Nat.mod_two_eq_zero_or_one i with e | e
        · obtain ⟨j, rfl⟩ : ∃ j, i = 2 * j := ⟨i / 2, by omega⟩
          rw [yvv (k2 j (by omega)).1, yvv (m2 j (by omega)).1, e2 j (by omega)]
        · obtain ⟨j, rfl⟩ : ∃ j, i = 2 * j + 1 := ⟨i / 2, by omega⟩
          rw [yvv (k2 j (by omega)).2, yvv (m2 j (by omega)).2, e2 j (by omega)]
theorem Cod.dif {cd cd' : Int32} {n k : Nat} {f g : Nat → Int32} {V V' : Cell} (h : Cod cd n f V) (h' : Cod cd' k g V') (hne : ¬ cd = cd') : ¬ SameT n f k g := by
  rintro ⟨rfl, e⟩
  rcases h with ⟨rfl, -, k2⟩ | ⟨rfl, -, -, j, hj, hw⟩
  · rcases h' with ⟨rfl, -⟩ | ⟨-, -, -, j, hj, hw⟩
    · exact hne rfl
    · exact (k2 j hj).2 (by rw [e j hj]; exact hw)
  · rcases h' with ⟨-, -, m2⟩ | ⟨rfl, -⟩
    · exact (m2 j hj).2 (by rw [← e j hj]; exact hw)
    · exact hne rfl
theorem cinst {p : Program} {l : Launch} {e : Env} {R : Room} {s : State} {m : MethodId} {args : Array Value} {below : List Frame} {meth : Method} {c : Code} {T : State} {locs : List Loc} {cells slots : Nat} (X : Stand p l e R s m args below meth c T locs cells slots) (hexec : p.tables.exec = Jvm.exec) {own C : String} {index : Nat} (hown : s.vm.findClass own = some m.cls) (hlink : (Cond.classLink own index C).before args s = true) {a : Addr} (hE : Exact C a T)
    {g : JFrame} (hg : g.method = m) {rest : List Value} (hstack : g.stack = .ref a :: rest) (hdg : decode c.code g.pc = .ok (.instanceof index, 3)) :
    ∃ T', Stand p l e R s m args below meth c T' locs cells slots ∧ T'.heap = T.heap ∧ ∀ target, Steps p.tables e below (T'.setTop { g with pc := g.pc + 3, stack := .int 1 :: rest }) target → Steps p.tables e below (T.setTop g) target := by
  obtain ⟨cB, h1, D, h2, h3, h4⟩ := hE
  have h1' : s.vm.findClass C = some cB := by rw [← X.warmed.alike.findClass]; exact h1
  obtain ⟨vm', X', st⟩ := X.instanceofYes hexec hown hlink h2 h4 h1' (by rw [h3]; exact Jvm.Free.SB.assignable_self _ _) hg hstack hdg
  exact ⟨_, X', rfl, st⟩
theorem cself {p : Program} {l : Launch} {e : Env} {R : Room} {s : State} {m : MethodId} {args : Array Value} {below : List Frame} {meth : Method} {c : Code} {T : State} {locs : List Loc} {cells slots : Nat} (X : Stand p l e R s m args below meth c T locs cells slots) (hexec : p.tables.exec = Jvm.exec) {own C : String} {index : Nat} (hown : s.vm.findClass own = some m.cls) (hlink : (Cond.classLink own index C).before args s = true) {a : Addr} (hE : Exact C a T)
    {g : JFrame} (hg : g.method = m) {rest : List Value} (hstack : g.stack = .ref a :: rest) (hdg : decode c.code g.pc = .ok (.checkcast index, 3)) :
    ∃ T', Stand p l e R s m args below meth c T' locs cells slots ∧ T'.heap = T.heap ∧ ∀ target, Steps p.tables e below (T'.setTop { g with pc := g.pc + 3, stack := .ref a :: rest }) target → Steps p.tables e below (T.setTop g) target := by
  obtain ⟨cB, h1, D, h2, h3, h4⟩ := hE
  have h1' : s.vm.findClass C = some cB := by rw [← X.warmed.alike.findClass]; exact h1
  obtain ⟨vm', X', st⟩ := X.checkcastYes hexec hown hlink h2 h4 h1' (by rw [h3]; exact Jvm.Free.SB.assignable_self _ _) hg hstack hdg
  exact ⟨_, X', rfl, fun t h => st t (by rw [← hstack] at h; exact h)⟩
namespace SEq
def yN : MethodName := ⟨"java/lang/String", "equals", "(Ljava/lang/Object;)Z"⟩
abbrev yB : ByteArray := jdk_42_method_66_code
theorem d0 : decode yB 0 = .ok (.aload_n 0, 1) := by decide +kernel
theorem d1 : decode yB 1 = .ok (.aload_n 1, 1) := by decide +kernel
theorem d2 : decode yB 2 = .ok (.if_acmp (.ne) 5, 3) := by decide +kernel
theorem d5 : decode yB 5 = .ok (.iconst 1, 1) := by decide +kernel
theorem d6 : decode yB 6 = .ok (.ireturn, 1) := by decide +kernel
theorem d7 : decode yB 7 = .ok (.aload_n 1, 1) := by decide +kernel
theorem d8 : decode yB 8 = .ok (.instanceof 10, 3) := by decide +kernel
theorem d11 : decode yB 11 = .ok (.ifCond (.eq) 43, 3) := by decide +kernel
theorem d14 : decode yB 14 = .ok (.aload_n 1, 1) := by decide +kernel
theorem d15 : decode yB 15 = .ok (.checkcast 10, 3) := by decide +kernel
theorem d18 : decode yB 18 = .ok (.astore_n 2, 1) := by decide +kernel
theorem d19 : decode yB 19 = .ok (.getstatic 38, 3) := by decide +kernel
theorem d22 : decode yB 22 = .ok (.ifCond (.eq) 14, 3) := by decide +kernel
theorem d25 : decode yB 25 = .ok (.aload_n 0, 1) := by decide +kernel
theorem d26 : decode yB 26 = .ok (.getfield 15, 3) := by decide +kernel
theorem d29 : decode yB 29 = .ok (.aload_n 2, 1) := by decide +kernel
theorem d30 : decode yB 30 = .ok (.getfield 15, 3) := by decide +kernel
theorem d33 : decode yB 33 = .ok (.if_icmp (.ne) 21, 3) := by decide +kernel
theorem d36 : decode yB 36 = .ok (.aload_n 0, 1) := by decide +kernel
theorem d37 : decode yB 37 = .ok (.getfield 9, 3) := by decide +kernel
theorem d40 : decode yB 40 = .ok (.aload_n 2, 1) := by decide +kernel
theorem d41 : decode yB 41 = .ok (.getfield 9, 3) := by decide +kernel
theorem d44 : decode yB 44 = .ok (.invokestatic 541, 3) := by decide +kernel
theorem d47 : decode yB 47 = .ok (.ifCond (.eq) 7, 3) := by decide +kernel
theorem d50 : decode yB 50 = .ok (.iconst 1, 1) := by decide +kernel
theorem d51 : decode yB 51 = .ok (.goto 4, 3) := by decide +kernel
theorem d54 : decode yB 54 = .ok (.iconst 0, 1) := by decide +kernel
theorem d55 : decode yB 55 = .ok (.ireturn, 1) := by decide +kernel
def site : List Cond := [.classLink "java/lang/String" 10 "java/lang/String", .fieldLink "java/lang/String" 38 "java/lang/String" "COMPACT_STRINGS" "Z", .fieldLink "java/lang/String" 15 "java/lang/String" "coder" "B", .fieldLink "java/lang/String" 9 "java/lang/String" "value" "[B", LEq.tab] ++ staticW "java/lang/String" 541 LEq.yN
def tab : Cond := tabOf yN yB 3 (some .boolean) site
def P (x t : Addr) (V : Cell) (cd : Int32) (n : Nat) (f : Nat → Int32) (y t' : Addr) (V' : Cell) (cd' : Int32) (k : Nat) (g : Nat → Int32) (z : Int32) (args : Array Value) (s : State) : Prop := args = #[.ref x, .ref y] ∧ Txt x t V cd n f s ∧ Txt y t' V' cd' k g s ∧ StaticIs s "java/lang/String" "COMPACT_STRINGS" "Z" (.int z) ∧ ¬ z = 0
theorem law (l : Launch) (x t : Addr) (V : Cell) (cd : Int32) (n : Nat) (f : Nat → Int32) (y t' : Addr) (V' : Cell) (cd' : Int32) (k : Nat) (g : Nat → Int32) (z : Int32) : Law l yN 2 1 1 14 yB 3 (some .boolean) site (P x t V cd n f y t' V' cd' k g z) (Says01 (SameT n f k g)) [] 0 0 := by
  refine Law.of_walk (plainFor_of_name (by decide +kernel)) (by decide +kernel) (by decide +kernel) (by decide) (fun _ _ h => by rw [h.1]; rfl) (fun _ U U' hal hh h => ⟨h.1, h.2.1.mv hal hh, h.2.2.1.mv hal hh, h.2.2.2.1.there hal hh, h.2.2.2.2⟩) (fun r U U' V V' h1 hal h2 h => Says01.mv r U U' V V' h1 hal h2 h) ?_
  intro p e s m args below meth c s₁ X0 hexec hbytes hml hret hlk hnm hown hh0 W hP
  obtain ⟨rfl, hx, hy, s1, hz⟩ := hP
  have c1 : Steps p.tables e below (s₁.setTop (entryFrame m #[.ref x, .ref y] 3)) (s₁.setTop (mkF m 2 #[.val (.ref x), .val (.ref y), .unset] [.ref y, .ref x])) := Steps.trans (entry rfl) (by
    show Steps p.tables e below (s₁.setTop (mkF m 0 #[.val (.ref x), .val (.ref y), .unset] [])) _
    refine XS.aloadN X0.here hexec rfl (hb hbytes d0) rfl rfl ?_
    refine XS.aloadN X0.here hexec rfl (hb hbytes d1) rfl rfl ?_
    exact Steps.refl _)
  by_cases hxy : x = y
  · have c2 : Steps p.tables e below (s₁.setTop (entryFrame m #[.ref x, .ref y] 3)) (s₁.setTop (mkF m 6 #[.val (.ref x), .val (.ref y), .unset] [.int 1])) := c1.trans (by
      refine acmpNo X0.here hexec rfl (hb hbytes d2) rfl rfl rfl (by simp [acmp, hxy]) ?_
      refine iconstV X0.here hexec rfl 1 (hb hbytes d5) (by decide) ?_
      exact Steps.refl _)
    subst hxy
    have ec : cd = cd' := by
      obtain ⟨D, fd, a1, a2, a3⟩ := hx.2.2.1
      obtain ⟨D', fd', b1, b2, b3⟩ := hy.2.2.1
      cases a1.symm.trans b1
      obtain ⟨q1, q2, q3, q4⟩ := a2.1
      obtain ⟨r1, r2, r3, r4⟩ := b2.1
      cases q4.symm.trans r4
      cases a3.symm.trans b3; rfl
    have et : t = t' := by
      obtain ⟨D, fd, a1, a2, a3⟩ := hx.2.1
      obtain ⟨D', fd', b1, b2, b3⟩ := hy.2.1
      cases a1.symm.trans b1
      obtain ⟨q1, q2, q3, q4⟩ := a2.1
      obtain ⟨r1, r2, r3, r4⟩ := b2.1
      cases q4.symm.trans r4
      cases a3.symm.trans b3; rfl
    subst ec et
    have ev : V = V' := by cases hx.2.2.2.1.1.symm.trans hy.2.2.2.1.1; rfl
    subst ev
    have hs : SameT n f k g := (Cod.eqv hx.2.2.2.2.1 hy.2.2.2.2.1 hx.2.2.2.2.2 hy.2.2.2.2.2).mp ⟨rfl, fun _ _ => rfl⟩
    exact ⟨s₁, some (.int 1), _, _, _, X0, rfl, rfl, rfl, (fun h => by cases h), ⟨1, rfl, hh0, Or.inl ⟨rfl, hs⟩⟩, fun fs hl => c2.trans (X0.ireturnOut hexec hret rfl (Or.inr (Or.inl rfl)) (hb hbytes d6) hl)⟩
  · have c2 : Steps p.tables e below (s₁.setTop (entryFrame m #[.ref x, .ref y] 3)) (s₁.setTop (mkF m 8 #[.val (.ref x), .val (.ref y), .unset] [.ref y])) := c1.trans (by
      refine acmpYes X0.here hexec rfl (pc0 := 2) rfl (hb hbytes d2) rfl rfl rfl (by simp [acmp, hxy]) (by decide) rfl ?_
      refine XS.aloadN X0.here hexec rfl (hb hbytes d7) rfl rfl ?_
      exact Steps.refl _)
    obtain ⟨T3, X3, q3, st3⟩ := cinst X0 hexec hown (wk W (.classLink "java/lang/String" 10 "java/lang/String")) (hy.mv X0.warmed.alike hh0).1 (g := (mkF m 8 #[.val (.ref x), .val (.ref y), .unset] [.ref y])) rfl (rest := []) rfl (hb hbytes d8)
    have hh3 := q3.trans hh0
    have c4 : Steps p.tables e below (s₁.setTop (entryFrame m #[.ref x, .ref y] 3)) (T3.setTop (mkF m 15 #[.val (.ref x), .val (.ref y), .unset] [.ref y])) := (c2.trans (st3 _ (Steps.refl _))).trans (by
      refine XS.ifNo X3.here hexec rfl (hb hbytes d11) rfl (i0_eq_f (by decide)) ?_
      refine XS.aloadN X3.here hexec rfl (hb hbytes d14) rfl rfl ?_
      exact Steps.refl _)
    obtain ⟨T5, X5, q5, st5⟩ := cself X3 hexec hown (wk W (.classLink "java/lang/String" 10 "java/lang/String")) (hy.mv X3.warmed.alike hh3).1 (g := (mkF m 15 #[.val (.ref x), .val (.ref y), .unset] [.ref y])) rfl (rest := []) rfl (hb hbytes d15)
    have hh5 := q5.trans hh3
    have c6 : Steps p.tables e below (s₁.setTop (entryFrame m #[.ref x, .ref y] 3)) (T5.setTop (mkF m 19 #[.val (.ref x), .val (.ref y), .val (.ref y)] [])) := (c4.trans (st5 _ (Steps.refl _))).trans (by
      refine XS.astoreN X5.here hexec rfl (hb hbytes d18) rfl rfl rfl ?_
      exact Steps.refl _)
    obtain ⟨T7, X7, q7, st7⟩ := X5.sget hexec hown (wk W (.fieldLink "java/lang/String" 38 "java/lang/String" "COMPACT_STRINGS" "Z")) s1 (fun _ _ h => by rw [hh5]; exact h) (g := (mkF m 19 #[.val (.ref x), .val (.ref y), .val (.ref y)] [])) rfl (hb hbytes d19)
    have hh7 := q7.trans hh5
    have c8 : Steps p.tables e below (s₁.setTop (entryFrame m #[.ref x, .ref y] 3)) (T7.setTop (mkF m 26 #[.val (.ref x), .val (.ref y), .val (.ref y)] [.ref x])) := (c6.trans (st7 _ (Steps.refl _))).trans (by
      refine XS.ifNo X7.here hexec rfl (hb hbytes d22) rfl (i0_eq_f hz) ?_
      refine XS.aloadN X7.here hexec rfl (hb hbytes d25) rfl rfl ?_
      exact Steps.refl _)
    obtain ⟨T9, X9, q9, st9⟩ := X7.hget hexec hown (wk W (.fieldLink "java/lang/String" 15 "java/lang/String" "coder" "B")) (hx.mv X7.warmed.alike hh7).2.2.1 (g := (mkF m 26 #[.val (.ref x), .val (.ref y), .val (.ref y)] [.ref x])) rfl (rest := []) rfl (hb hbytes d26)
    have hh9 := q9.trans hh7
    have c10 : Steps p.tables e below (s₁.setTop (entryFrame m #[.ref x, .ref y] 3)) (T9.setTop (mkF m 30 #[.val (.ref x), .val (.ref y), .val (.ref y)] [.ref y, .int cd])) := (c8.trans (st9 _ (Steps.refl _))).trans (by
      refine XS.aloadN X9.here hexec rfl (hb hbytes d29) rfl rfl ?_
      exact Steps.refl _)
    obtain ⟨T11, X11, q11, st11⟩ := X9.hget hexec hown (wk W (.fieldLink "java/lang/String" 15 "java/lang/String" "coder" "B")) (hy.mv X9.warmed.alike hh9).2.2.1 (g := (mkF m 30 #[.val (.ref x), .val (.ref y), .val (.ref y)] [.ref y, .int cd])) rfl (rest := [.int cd]) rfl (hb hbytes d30)
    have hh11 := q11.trans hh9
    have c12 : Steps p.tables e below (s₁.setTop (entryFrame m #[.ref x, .ref y] 3)) (T11.setTop (mkF m 33 #[.val (.ref x), .val (.ref y), .val (.ref y)] [.int cd', .int cd])) := c10.trans (st11 _ (Steps.refl _))
    by_cases hcd : cd = cd'
    · subst hcd
      have c13 : Steps p.tables e below (s₁.setTop (entryFrame m #[.ref x, .ref y] 3)) (T11.setTop (mkF m 37 #[.val (.ref x), .val (.ref y), .val (.ref y)] [.ref x])) := c12.trans (by
        refine XS.icmpNo X11.here hexec rfl (hb hbytes d33) rfl (ii_ne_f rfl) ?_
        refine XS.aloadN X11.here hexec rfl (hb hbytes d36) rfl rfl ?_
        exact Steps.refl _)
      obtain ⟨T14, X14, q14, st14⟩ := X11.hget hexec hown (wk W (.fieldLink "java/lang/String" 9 "java/lang/String" "value" "[B")) (hx.mv X11.warmed.alike hh11).2.1 (g := (mkF m 37 #[.val (.ref x), .val (.ref y), .val (.ref y)] [.ref x])) rfl (rest := []) rfl (hb hbytes d37)
      have hh14 := q14.trans hh11
      have c15 : Steps p.tables e below (s₁.setTop (entryFrame m #[.ref x, .ref y] 3)) (T14.setTop (mkF m 41 #[.val (.ref x), .val (.ref y), .val (.ref y)] [.ref y, .ref t])) := (c13.trans (st14 _ (Steps.refl _))).trans (by
        refine XS.aloadN X14.here hexec rfl (hb hbytes d40) rfl rfl ?_
        exact Steps.refl _)
      obtain ⟨T16, X16, q16, st16⟩ := X14.hget hexec hown (wk W (.fieldLink "java/lang/String" 9 "java/lang/String" "value" "[B")) (hy.mv X14.warmed.alike hh14).2.1 (g := (mkF m 41 #[.val (.ref x), .val (.ref y), .val (.ref y)] [.ref y, .ref t])) rfl (rest := [.ref t]) rfl (hb hbytes d41)
      have hh16 := q16.trans hh14
      have c17 : Steps p.tables e below (s₁.setTop (entryFrame m #[.ref x, .ref y] 3)) (T16.setTop (mkF m 44 #[.val (.ref x), .val (.ref y), .val (.ref y)] [.ref t', .ref t])) := c15.trans (st16 _ (Steps.refl _))
      obtain ⟨v18, T18, X18, E18, g18⟩ := X16.callS hexec (LEq.law l t V t' V') hown (wks W (staticW "java/lang/String" 541 LEq.yN)) (wk W LEq.tab) (W := 0) (Nat.le_of_ble_eq_true rfl) (Nat.le_of_ble_eq_true rfl) (Nat.le_refl _) (Nat.le_refl _) (g := (mkF m 44 #[.val (.ref x), .val (.ref y), .val (.ref y)] [.ref t', .ref t])) rfl (by rw [hml]; rfl) c17 (argsL := [.ref t, .ref t']) (rest := []) rfl rfl (by show 2 * 0 + 0 ≤ _; decide) (hb hbytes d44) (⟨rfl, hx.2.2.2.1.mv X16.warmed.alike hh16, hx.2.2.2.2.1.ty, hy.2.2.2.1.mv X16.warmed.alike hh16, hy.2.2.2.2.1.ty⟩)
      obtain ⟨v, rfl, q18, hv⟩ := E18
      have iff := Cod.eqv hx.2.2.2.2.1 hy.2.2.2.2.1 hx.2.2.2.2.2 hy.2.2.2.2.2
      rcases hv with ⟨rfl, he⟩ | ⟨rfl, he⟩
      · have c19 : Steps p.tables e below (s₁.setTop (entryFrame m #[.ref x, .ref y] 3)) (T18.setTop (mkF m 55 #[.val (.ref x), .val (.ref y), .val (.ref y)] [.int 1])) := Steps.trans g18 (by
          refine XS.ifNo X18.here hexec rfl (hb hbytes d47) rfl (i0_eq_f (by decide)) ?_
          refine iconstV X18.here hexec rfl 1 (hb hbytes d50) (by decide) ?_
          refine XS.goto X18.here hexec rfl (pc0 := 51) rfl (hb hbytes d51) (by decide) rfl ?_
          exact Steps.refl _)
        exact ⟨T18, some (.int 1), _, _, _, X18, rfl, rfl, rfl, (fun h => by cases h), ⟨1, rfl, q18.trans hh16, Or.inl ⟨rfl, iff.mp he⟩⟩, fun fs hl => c19.trans (X18.ireturnOut hexec hret rfl (Or.inr (Or.inl rfl)) (hb hbytes d55) hl)⟩
      · have c19 : Steps p.tables e below (s₁.setTop (entryFrame m #[.ref x, .ref y] 3)) (T18.setTop (mkF m 55 #[.val (.ref x), .val (.ref y), .val (.ref y)] [.int 0])) := Steps.trans g18 (by
          refine XS.ifYes X18.here hexec rfl (pc0 := 47) rfl (hb hbytes d47) rfl (i0_eq_t rfl) (by decide) rfl ?_
          refine iconstV X18.here hexec rfl 0 (hb hbytes d54) (by decide) ?_
          exact Steps.refl _)
        exact ⟨T18, some (.int 0), _, _, _, X18, rfl, rfl, rfl, (fun h => by cases h), ⟨0, rfl, q18.trans hh16, Or.inr ⟨rfl, fun q => he (iff.mpr q)⟩⟩, fun fs hl => c19.trans (X18.ireturnOut hexec hret rfl (Or.inr (Or.inl rfl)) (hb hbytes d55) hl)⟩
    · have c13 : Steps p.tables e below (s₁.setTop (entryFrame m #[.ref x, .ref y] 3)) (T11.setTop (mkF m 55 #[.val (.ref x), .val (.ref y), .val (.ref y)] [.int 0])) := c12.trans (by
        refine XS.icmpYes X11.here hexec rfl (pc0 := 33) rfl (hb hbytes d33) rfl (ii_ne_t hcd) (by decide) rfl ?_
        refine iconstV X11.here hexec rfl 0 (hb hbytes d54) (by decide) ?_
        exact Steps.refl _)
      exact ⟨T11, some (.int 0), _, _, _, X11, rfl, rfl, rfl, (fun h => by cases h), ⟨0, rfl, hh11, Or.inr ⟨rfl, Cod.dif hx.2.2.2.2.1 hy.2.2.2.2.1 hcd⟩⟩, fun fs hl => c13.trans (X11.ireturnOut hexec hret rfl (Or.inr (Or.inl rfl)) (hb hbytes d55) hl)⟩
theorem pays {l : Launch} {R : Room} {p : Program} {e : Env} {below : List Frame} {s : State} {sargs : Array Value} {len W : Nat} (x t : Addr) (V : Cell) (cd : Int32) (n : Nat) (f : Nat → Int32) (y t' : Addr) (V' : Cell) (cd' : Int32) (k : Nat) (g : Nat → Int32) (z : Int32) (htab : tab.before sargs s = true) (hfr : 2 ≤ R.frames) (hlo : W + 28 ≤ R.locals) :
    Back l R p e below s sargs yN len W (fun A₁ a₁ => A₁.cells + 0 ≤ R.cells ∧ A₁.slots + 0 ≤ R.slots ∧ P x t V cd n f y t' V' cd' k g z a₁ A₁.U) (fun A₁ _ v₁ B₁ => Says01 (SameT n f k g) v₁ A₁.U B₁.U ∧ B₁.locs = A₁.locs ++ [] ∧ B₁.cells = A₁.cells + 0 ∧ B₁.slots = A₁.slots + 0) :=
  (law l x t V cd n f y t' V' cd' k g z).pays htab hfr (by omega)
end SEq
end StrChars
namespace StrChars.Road
open Jvm Sem ClassFile Op Lib Jvm.Stand Jvm.Free Jvm.Free.XT
open Jvm.Lib.Cold (StaticIs)
abbrev wordsEq : List Jvm.Cond := [.code SEq.yN SEq.yB 3 (some .boolean), .initialized ST, .classLink ST 10 ST, .fieldLink ST 38 ST "COMPACT_STRINGS" "Z", .fieldLink ST 15 ST "coder" "B", .fieldLink ST 9 ST "value" "[B", .methodLink ST 541 LEq.yN, .static LEq.yN, .code LEq.yN LEq.yB 3 (some .boolean), .initialized "java/lang/StringLatin1"]
theorem tabEq_of {a : Array Value} {s : State} (h : ∀ w ∈ wordsEq, w.before a s = true) : SEq.tab.before a s = true := by
  have hl : LEq.tab.before a s = true := unparts (wk h (.code LEq.yN LEq.yB 3 (some .boolean))) (wks h (.initialized LEq.yN.cls :: LEq.site))
  have q := consq hl h
  exact unparts (wk q (.code SEq.yN SEq.yB 3 (some .boolean))) (wks q (.initialized SEq.yN.cls :: SEq.site))
theorem movedEq {Z s : State} {a0 args : Array Value} (hZ : Z.Warmed39 s.vm) (hw : ∀ d ∈ wordsEq, d.before a0 Z = true) : ∀ d ∈ wordsEq, d.before args s = true := fun d hd => by
  have t : ∀ d ∈ wordsEq, (d.onTables && d.keepsFace) = true := by decide +kernel
  exact RoadKit.mv hZ (hw d hd) (t d hd)
theorem txt_of {Z U : State} {a0 : Array Value} {kI : Nat} (wi : (Jvm.Cond.instantiable ST kI).before a0 Z = true) (al : Z.vm.Alike U.vm) {x t : Addr} {kb : ClassId} {cs : List Int32} {cd N2 : Int32} {vs : List Value} (E : RoadKit.Exa Z U.heap x ST) (V : RoadKit.Fld Z U.heap x ST "value" "[B" (.ref t)) (C : RoadKit.Fld Z U.heap x ST "coder" "B" (.int cd)) (K : RoadKit.Arv Z U.heap t kb .byte N2 vs (.int 0)) (hc : CodA cs cd N2 vs) (hb : ∀ c ∈ cs, ¬ c < 0 ∧ ¬ (65535 : Int32) < c) (l2 : cs.length ≤ 4000) :
    ∃ A, Txt x t A cd cs.length (fun j => cs.getD j 0) U := by
  obtain ⟨A, K1, K2, K3, K4, K5, K6⟩ := K
  have hcod := hc.cod (by omega) K3 K5
  obtain ⟨D, fV, fC, hB, F1, F2, g1, g2, -, -⟩ := strObj wi al E V C
  exact ⟨A, ⟨_, hB.2.2.1, D, hB.1, rfl, by cases q : D.vm <;> first | rfl | exact absurd q (hB.2.1.2 _)⟩, Has.of hB F1 g1, Has.of hB F2 g2, ⟨K1.1, State.isArrayOf_alike al K1.2.1, K1.2.2, by rcases hcod with ⟨-, q, -⟩ | ⟨-, q, -⟩ <;> omega⟩, hcod, fun j hj => by
    have e : cs.getD j 0 = cs[j] := by simp [List.getD_eq_getElem?_getD, hj]
    show ¬ cs.getD j 0 < 0 ∧ ¬ 65535 < cs.getD j 0
    rw [e]; exact hb _ (List.getElem_mem _)⟩
theorem same_list (cs ds : List Int32) : SameT cs.length (fun j => cs.getD j 0) ds.length (fun j => ds.getD j 0) ↔ cs = ds := by
  constructor
  · rintro ⟨e, q⟩
    refine List.ext_getElem e fun j h1 h2 => ?_
    have := q j h1
    simpa [List.getD_eq_getElem?_getD, h1, h2] using this
  · rintro rfl
    exact ⟨rfl, fun _ _ => rfl⟩
theorem eqW {p : Program} {l : Launch} {e : Env} {R : Room} {s : State} {args : Array Value} {below : List Frame} {len W : Nat} {Z : State} {a0 : Array Value} {h : Heap} (hZ : Z.Warmed39 s.vm) (hw : ∀ d ∈ wordsEq, d.before a0 Z = true) {kI : Nat} (wi : (Jvm.Cond.instantiable ST kI).before a0 Z = true)
    {x t : Addr} {kb : ClassId} {cs : List Int32} {cd N2 : Int32} {vs : List Value} (E : RoadKit.Exa Z h x ST) (V : RoadKit.Fld Z h x ST "value" "[B" (.ref t)) (C : RoadKit.Fld Z h x ST "coder" "B" (.int cd)) (K : RoadKit.Arv Z h t kb .byte N2 vs (.int 0)) (hc : CodA cs cd N2 vs) (hb : ∀ c ∈ cs, ¬ c < 0 ∧ ¬ (65535 : Int32) < c) (l2 : cs.length ≤ 4000)
    {y t' : Addr} {kb' : ClassId} {ds : List Int32} {cd' N2' : Int32} {vs' : List Value} (E' : RoadKit.Exa Z h y ST) (V' : RoadKit.Fld Z h y ST "value" "[B" (.ref t')) (C' : RoadKit.Fld Z h y ST "coder" "B" (.int cd')) (K' : RoadKit.Arv Z h t' kb' .byte N2' vs' (.int 0)) (hc' : CodA ds cd' N2' vs') (hb' : ∀ c ∈ ds, ¬ c < 0 ∧ ¬ (65535 : Int32) < c) (l2' : ds.length ≤ 4000)
    {z : Int32} (S : RoadKit.Sta Z h ST "COMPACT_STRINGS" "Z" (.int z)) (hz : ¬ z = 0) (hfr : 2 ≤ R.frames) (hlo : W + 28 ≤ R.locals) :
    Back l R p e below s args (⟨"java/lang/String", "equals", "(Ljava/lang/Object;)Z"⟩ : MethodName) len W (fun P a => a = #[.ref x, .ref y] ∧ P.U.heap = h ∧ P.cells + 0 ≤ R.cells ∧ P.slots + 0 ≤ R.slots)
      (fun P _ v B => ∃ L, (((v = some (.int 1) ∧ cs = ds) ∨ (v = some (.int 0) ∧ ¬ cs = ds)) ∧ L = [] ∧ B.U.heap = h) ∧ B.locs = P.locs ++ L ∧ B.cells = P.cells + 0 ∧ B.slots = P.slots + 0) := by
  intro m meth c P g ig mk a X hg hsize hdg hW hn hp'
  obtain ⟨rfl, rfl, r1, r2⟩ := hp'
  have al : Z.vm.Alike P.U.vm := hZ.alike.trans X.warmed.alike
  obtain ⟨A, hx⟩ := txt_of wi al E V C K hc hb l2
  obtain ⟨A', hy⟩ := txt_of wi al E' V' C' K' hc' hb' l2'
  obtain ⟨v, B, X', ⟨⟨w, hv, hh, hq⟩, hl, hk, hs⟩, st⟩ := SEq.pays x t A cd cs.length (fun j => cs.getD j 0) y t' A' cd' ds.length (fun j => ds.getD j 0) z (tabEq_of (movedEq hZ hw)) hfr hlo m meth c P g ig mk _ X hg hsize hdg hW hn ⟨r1, r2, rfl, hx, hy, sta_is al S, hz⟩
  refine ⟨v, B, X', ⟨[], ⟨?_, rfl, hh⟩, hl, hk, hs⟩, st⟩
  rcases hq with ⟨rfl, q⟩ | ⟨rfl, q⟩
  · exact Or.inl ⟨hv, (same_list cs ds).mp q⟩
  · exact Or.inr ⟨hv, fun e => q ((same_list cs ds).mpr e)⟩
end StrChars.Road
namespace StrChars.Road
open Jvm Sem ClassFile Op Lib Jvm.Stand Jvm.Free Jvm.Free.XT
open Jvm.Lib.Cold (StaticIs)
theorem codOf {cs : List Int32} {n : Nat} (hn : cs.length = n) (hb : ∀ c ∈ cs, ¬ 255 < c) : CodA cs 0 (Int32.ofNat n) ((cs.map lo8).map Value.int) := Or.inl ⟨rfl, by rw [hn], by simp [List.map_map, Function.comp_def], hb⟩
end StrChars.Road
end Jvm.Pilot.@@N@@

namespace Jvm.Pilot.@@N@@
open Jvm Jvm.ClassFile Sem Op Lib Jvm.Free Jvm.Stand Jvm.LawKit Jvm.RoadKit Bundle Jvm.Pilot.@@N@@.Jvm.D
section OwnKit
variable {p : Program} {l : Launch} {e : Env} {R : Room} {s : State} {m : MethodId} {args : Array Value} {below : List Frame} {meth : Method} {c : Code} {T : State} {locs : List Loc} {cells slots : Nat} {Z : State} {h : Heap}
def own_Post (Q : Option Value → Heap → List Loc → Prop) (k n : Nat) (below : List Frame) (U : State) (t : State) (o : Outcome) : Prop :=
  t.status = .running ∧ Ended t below o ∧ ∃ v L, o = .returned v ∧ Q v t.heap L ∧ FrameEnd U o t L k n
def own_Fin (tb : Tables) (e : Env) (below : List Frame) (P : State → Outcome → Prop) (t0 : State) : Prop := ∃ t o, Steps tb e below t0 t ∧ P t o
theorem own_go {tb : Tables} {P : State → Outcome → Prop} {t0 t1 : State} (st : ∀ t, Steps tb e below t1 t → Steps tb e below t0 t) (q : own_Fin tb e below P t1) : own_Fin tb e below P t0 := by
  obtain ⟨t, o, h1, h2⟩ := q
  exact ⟨t, o, st _ h1, h2⟩
theorem own_retI {x : MethodName} {S : Spec} {code : ByteArray} {mx : Nat} {rt : Option FieldType} {s₁ : State} {Q : Option Value → Heap → List Loc → Prop} {kc kn : Nat} (X : Stand p l e R s m args below meth c T locs cells slots) (hx : p.tables.exec = Jvm.exec) (Bd : BodyLoose p l x S code mx rt e s m args below meth c s₁) {pc : Nat} {Ls : Array Slot} {z : Int32} {t : FieldType} {rest : List Value} (hret : meth.sig.returnType = some t) (hn : narrow t (.int z) = .int z)
    (ht : t = .int ∨ t = .boolean ∨ t = .byte ∨ t = .char ∨ t = .short) (hd : decode c.code pc = .ok (.ireturn, 1)) (hQ : Q (some (.int z)) T.heap locs) (hc : cells ≤ kc) (hs : slots ≤ kn) : own_Fin p.tables e below (own_Post Q kc kn below s) (T.setTop (mkF m pc Ls (.int z :: rest))) := by
  obtain ⟨fs, hr, hrun, hended, hW, hsame⟩ := X.leave (v := some (.int z)) (fun h => by rw [hret] at h; cases h) Bd.notSynchronized
  exact ⟨_, _, retOut X hx hret hn (Or.inl ⟨rfl, ht, z, rfl⟩) hd hr, hrun, hended, _, _, rfl, hQ, ⟨_, rfl⟩, hW, hsame.mono hc hs⟩
theorem own_retJ {x : MethodName} {S : Spec} {code : ByteArray} {mx : Nat} {rt : Option FieldType} {s₁ : State} {Q : Option Value → Heap → List Loc → Prop} {kc kn : Nat} (X : Stand p l e R s m args below meth c T locs cells slots) (hx : p.tables.exec = Jvm.exec) (Bd : BodyLoose p l x S code mx rt e s m args below meth c s₁) {pc : Nat} {Ls : Array Slot} {z : Int64} {rest : List Value} (hret : meth.sig.returnType = some .long)
    (hd : decode c.code pc = .ok (.lreturn, 1)) (hQ : Q (some (.long z)) T.heap locs) (hc : cells ≤ kc) (hs : slots ≤ kn) : own_Fin p.tables e below (own_Post Q kc kn below s) (T.setTop (mkF m pc Ls (.long z :: rest))) := by
  obtain ⟨fs, hr, hrun, hended, hW, hsame⟩ := X.leave (v := some (.long z)) (fun h => by rw [hret] at h; cases h) Bd.notSynchronized
  exact ⟨_, _, retOut X hx hret rfl (Or.inr (Or.inl ⟨rfl, rfl, z, rfl⟩)) hd hr, hrun, hended, _, _, rfl, hQ, ⟨_, rfl⟩, hW, hsame.mono hc hs⟩
theorem own_retA {x : MethodName} {S : Spec} {code : ByteArray} {mx : Nat} {rt : Option FieldType} {s₁ : State} {Q : Option Value → Heap → List Loc → Prop} {kc kn : Nat} (X : Stand p l e R s m args below meth c T locs cells slots) (hx : p.tables.exec = Jvm.exec) (Bd : BodyLoose p l x S code mx rt e s m args below meth c s₁) {pc : Nat} {Ls : Array Slot} {w : Value} {t : FieldType} {rest : List Value} (hret : meth.sig.returnType = some t) (ht : t.isReference = true) (hw : w.isRef = true) (hn : narrow t w = w)
    (hd : decode c.code pc = .ok (.areturn, 1)) (hQ : Q (some w) T.heap locs) (hc : cells ≤ kc) (hs : slots ≤ kn) : own_Fin p.tables e below (own_Post Q kc kn below s) (T.setTop (mkF m pc Ls (w :: rest))) := by
  obtain ⟨fs, hr, hrun, hended, hW, hsame⟩ := X.leave (v := some w) (fun h => by rw [hret] at h; cases h) Bd.notSynchronized
  exact ⟨_, _, retOut X hx hret hn (Or.inr (Or.inr (Or.inr (Or.inr ⟨rfl, ht, hw⟩)))) hd hr, hrun, hended, _, _, rfl, hQ, ⟨_, rfl⟩, hW, hsame.mono hc hs⟩
theorem own_ret0 {x : MethodName} {S : Spec} {code : ByteArray} {mx : Nat} {s₁ : State} {Q : Option Value → Heap → List Loc → Prop} {kc kn : Nat} (X : Stand p l e R s m args below meth c T locs cells slots) (hx : p.tables.exec = Jvm.exec) (Bd : BodyLoose p l x S code mx none e s m args below meth c s₁) {pc : Nat} {Ls : Array Slot}
    (hd : decode c.code pc = .ok (.return_, 1)) (hQ : Q none T.heap locs) (hc : cells ≤ kc) (hs : slots ≤ kn) : own_Fin p.tables e below (own_Post Q kc kn below s) (T.setTop (mkF m pc Ls [])) := by
  obtain ⟨fs, hr, hrun, hended, hW, hsame⟩ := X.leave (v := none) (fun _ => rfl) Bd.notSynchronized
  exact ⟨_, _, X.returnOut hx Bd.returns hd hr, hrun, hended, _, _, rfl, hQ, ⟨_, rfl⟩, hW, hsame.mono hc hs⟩
theorem own_alen {a : Addr} {k : ClassId} {ty : FieldType} {n : Int32} {vs : List Value} {d : Value} (X : Stand p l e R s m args below meth c T locs cells slots) (hx : p.tables.exec = Jvm.exec) (hZ : Z.Warmed39 s.vm) (eT : T.heap = h) (V : Arv Z h a k ty n vs d) {g : JFrame} (hg : g.method = m) {rest : List Value} (hs : g.stack = .ref a :: rest) (hd : decode c.code g.pc = .ok (.arraylength, 1)) (target : State)
    (q : Steps p.tables e below (T.setTop { g with pc := g.pc + 1, stack := .int n :: rest }) target) : Steps p.tables e below (T.setTop g) target := by
  obtain ⟨cl, A, -, S, M, -, -⟩ := V
  refine X.arraylength hx (by rw [eT]; exact A.1) (State.isArrayOf_alike hZ.alike A.2.1) hg hs hd _ ?_
  rw [len_of S M]; exact q
theorem own_laload {a : Addr} {k : ClassId} {n : Int32} {vs : List Value} {d : Value} (X : Stand p l e R s m args below meth c T locs cells slots) (hx : p.tables.exec = Jvm.exec) (hZ : Z.Warmed39 s.vm) (eT : T.heap = h) (V : Arv Z h a k .long n vs d) {j : Int32} (hj : ¬ j < 0 ∧ j < n) {v : Value} (hv : vs.getD j.toNatClampNeg d = v) {g : JFrame} (hg : g.method = m) {rest : List Value} (hs : g.stack = .int j :: .ref a :: rest) (hd : decode c.code g.pc = .ok (.laload, 1)) (target : State)
    (q : Steps p.tables e below (T.setTop { g with pc := g.pc + 1, stack := v :: rest }) target) : Steps p.tables e below (T.setTop g) target := by
  obtain ⟨cl, A, -, S, M, H, -⟩ := V
  exact X.laload hx (by rw [eT]; exact A.1) (State.isArrayOf_alike hZ.alike A.2.1) A.2.2 (inb_of S hj) (Has.at H (inb_of S hj) hv) hg hs hd _ q
theorem own_iaload {a : Addr} {k : ClassId} {n : Int32} {vs : List Value} {d : Value} (X : Stand p l e R s m args below meth c T locs cells slots) (hx : p.tables.exec = Jvm.exec) (hZ : Z.Warmed39 s.vm) (eT : T.heap = h) (V : Arv Z h a k .int n vs d) {j : Int32} (hj : ¬ j < 0 ∧ j < n) {v : Value} (hv : vs.getD j.toNatClampNeg d = v) {g : JFrame} (hg : g.method = m) {rest : List Value} (hs : g.stack = .int j :: .ref a :: rest) (hd : decode c.code g.pc = .ok (.iaload, 1)) (target : State)
    (q : Steps p.tables e below (T.setTop { g with pc := g.pc + 1, stack := v :: rest }) target) : Steps p.tables e below (T.setTop g) target := by
  obtain ⟨cl, A, -, S, M, H, -⟩ := V
  exact X.iaload hx (by rw [eT]; exact A.1) (State.isArrayOf_alike hZ.alike A.2.1) A.2.2 (inb_of S hj) (Has.at H (inb_of S hj) hv) hg hs hd _ q
theorem own_caload {a : Addr} {k : ClassId} {n : Int32} {vs : List Value} {d : Value} (X : Stand p l e R s m args below meth c T locs cells slots) (hx : p.tables.exec = Jvm.exec) (hZ : Z.Warmed39 s.vm) (eT : T.heap = h) (V : Arv Z h a k .char n vs d) {j : Int32} (hj : ¬ j < 0 ∧ j < n) {v : Value} (hv : vs.getD j.toNatClampNeg d = v) {g : JFrame} (hg : g.method = m) {rest : List Value} (hs : g.stack = .int j :: .ref a :: rest) (hd : decode c.code g.pc = .ok (.caload, 1)) (target : State)
    (q : Steps p.tables e below (T.setTop { g with pc := g.pc + 1, stack := v :: rest }) target) : Steps p.tables e below (T.setTop g) target := by
  obtain ⟨cl, A, -, S, M, H, -⟩ := V
  exact X.caload hx (by rw [eT]; exact A.1) (State.isArrayOf_alike hZ.alike A.2.1) A.2.2 (inb_of S hj) (Has.at H (inb_of S hj) hv) hg hs hd _ q
theorem own_baload {a : Addr} {k : ClassId} {n : Int32} {vs : List Value} {d : Value} (X : Stand p l e R s m args below meth c T locs cells slots) (hx : p.tables.exec = Jvm.exec) (hZ : Z.Warmed39 s.vm) (eT : T.heap = h) (V : Arv Z h a k .byte n vs d) {j : Int32} (hj : ¬ j < 0 ∧ j < n) {v : Value} (hv : vs.getD j.toNatClampNeg d = v) {g : JFrame} (hg : g.method = m) {rest : List Value} (hs : g.stack = .int j :: .ref a :: rest) (hd : decode c.code g.pc = .ok (.baload, 1)) (target : State)
    (q : Steps p.tables e below (T.setTop { g with pc := g.pc + 1, stack := v :: rest }) target) : Steps p.tables e below (T.setTop g) target := by
  obtain ⟨cl, A, -, S, M, H, -⟩ := V
  exact X.baloadBytes hx (by rw [eT]; exact A.1) (State.isArrayOf_alike hZ.alike A.2.1) A.2.2 (inb_of S hj) (Has.at H (inb_of S hj) hv) hg hs hd _ q
theorem own_aaload {a : Addr} {k : ClassId} {ty : FieldType} {n : Int32} {vs : List Value} {d : Value} (X : Stand p l e R s m args below meth c T locs cells slots) (hx : p.tables.exec = Jvm.exec) (hZ : Z.Warmed39 s.vm) (eT : T.heap = h) (V : Arv Z h a k ty n vs d) {j : Int32} (hj : ¬ j < 0 ∧ j < n) {v : Value} (hr : ty.isReference = true) (hv : vs.getD j.toNatClampNeg d = v) {g : JFrame} (hg : g.method = m) {rest : List Value} (hs : g.stack = .int j :: .ref a :: rest) (hd : decode c.code g.pc = .ok (.aaload, 1)) (target : State)
    (q : Steps p.tables e below (T.setTop { g with pc := g.pc + 1, stack := v :: rest }) target) : Steps p.tables e below (T.setTop g) target := by
  obtain ⟨cl, A, -, S, M, H, -⟩ := V
  exact X.aaload hx (by rw [eT]; exact A.1) (State.isArrayOf_alike hZ.alike A.2.1) hr A.2.2 (inb_of S hj) (Has.at H (inb_of S hj) hv) hg hs hd _ q
theorem own_stJ {a : Addr} {k : ClassId} {n : Int32} {vs : List Value} {d : Value} (X : Stand p l e R s m args below meth c T locs cells slots) (hx : p.tables.exec = Jvm.exec) (hZ : Z.Warmed39 s.vm) (eT : T.heap = h) (V : Arv Z h a k .long n vs d) {j : Int32} (hj : ¬ j < 0 ∧ j < n) {i : Nat} (hji : j.toNatClampNeg = i) (hi : i < vs.length) {x : Int64} {g : JFrame} (hg : g.method = m) {rest : List Value} (hs : g.stack = .long x :: .int j :: .ref a :: rest) (hd : decode c.code g.pc = .ok (.lastore, 1)) :
    ∃ T' h', Stand p l e R s m args below meth c T' (locs ++ [⟨a, j.toNatClampNeg⟩]) cells slots ∧ T'.heap = h' ∧ Wr h h' a j.toNatClampNeg (.long x) ∧ Arv Z h' a k .long n (vs.set i (.long x)) d ∧ ∀ target, Steps p.tables e below (T'.setTop { g with pc := g.pc + 1, stack := rest }) target → Steps p.tables e below (T.setTop g) target := by
  obtain ⟨cl, A, q1, S, M, H, G⟩ := V
  obtain ⟨T', h', X', e', W, st⟩ := stJ X hx hZ eT A (j := j) (inb_of S hj) hg hs hd
  exact ⟨T', h', X', e', W, Arv.set A q1 S M H G rfl W i hji hi, st⟩
theorem own_stC {a : Addr} {k : ClassId} {n : Int32} {vs : List Value} {d : Value} (X : Stand p l e R s m args below meth c T locs cells slots) (hx : p.tables.exec = Jvm.exec) (hZ : Z.Warmed39 s.vm) (eT : T.heap = h) (V : Arv Z h a k .char n vs d) {j : Int32} (hj : ¬ j < 0 ∧ j < n) {i : Nat} (hji : j.toNatClampNeg = i) (hi : i < vs.length) {x : Int32} {g : JFrame} (hg : g.method = m) {rest : List Value} (hs : g.stack = .int x :: .int j :: .ref a :: rest) (hd : decode c.code g.pc = .ok (.castore, 1)) :
    ∃ T' h', Stand p l e R s m args below meth c T' (locs ++ [⟨a, j.toNatClampNeg⟩]) cells slots ∧ T'.heap = h' ∧ Wr h h' a j.toNatClampNeg (.int (nar .char x)) ∧ Arv Z h' a k .char n (vs.set i (.int (nar .char x))) d ∧ ∀ target, Steps p.tables e below (T'.setTop { g with pc := g.pc + 1, stack := rest }) target → Steps p.tables e below (T.setTop g) target := by
  obtain ⟨cl, A, q1, S, M, H, G⟩ := V
  obtain ⟨T', h', X', e', W, st⟩ := stC X hx hZ eT A (j := j) (inb_of S hj) hg hs hd
  exact ⟨T', h', X', e', W, Arv.set A q1 S M H G (fits_nar_char _) W i hji hi, st⟩
theorem own_stB {a : Addr} {k : ClassId} {n : Int32} {vs : List Value} {d : Value} (X : Stand p l e R s m args below meth c T locs cells slots) (hx : p.tables.exec = Jvm.exec) (hZ : Z.Warmed39 s.vm) (eT : T.heap = h) (V : Arv Z h a k .byte n vs d) {j : Int32} (hj : ¬ j < 0 ∧ j < n) {i : Nat} (hji : j.toNatClampNeg = i) (hi : i < vs.length) {x : Int32} {g : JFrame} (hg : g.method = m) {rest : List Value} (hs : g.stack = .int x :: .int j :: .ref a :: rest) (hd : decode c.code g.pc = .ok (.bastore, 1)) :
    ∃ T' h', Stand p l e R s m args below meth c T' (locs ++ [⟨a, j.toNatClampNeg⟩]) cells slots ∧ T'.heap = h' ∧ Wr h h' a j.toNatClampNeg (.int (x.toInt8.toInt32)) ∧ Arv Z h' a k .byte n (vs.set i (.int (x.toInt8.toInt32))) d ∧ ∀ target, Steps p.tables e below (T'.setTop { g with pc := g.pc + 1, stack := rest }) target → Steps p.tables e below (T.setTop g) target := by
  obtain ⟨cl, A, q1, S, M, H, G⟩ := V
  obtain ⟨T', h', X', e', W, st⟩ := stB X hx hZ eT A (j := j) (inb_of S hj) hg hs hd
  exact ⟨T', h', X', e', W, Arv.set A q1 S M H G (fits_nar_byte _) W i hji hi, st⟩
theorem own_notface {C : String} {y z y' : MethodName} (hsel : (Jvm.Cond.selects C y z).before args s = true) (hc : y'.cls = z.cls) : NotFace s y' := fun r0 h0 => by
  obtain ⟨c2, r2, m2, q1, q2, q3, q4, kP, hkP, hkPi⟩ := Cond.selects_spec hsel
  have f1 := findClass_of_methodNamed h0
  have f2 := findClass_of_methodNamed q3
  rw [hc, f2] at f1
  rw [← Option.some.inj f1]
  exact ⟨kP, hkP, hkPi⟩
end OwnKit
theorem own_up (cs : List Int32) (h : ∀ c ∈ cs, ¬ c < 0 ∧ ¬ (255 : Int32) < c) : ∀ c ∈ cs, ¬ c < 0 ∧ ¬ (65535 : Int32) < c := fun c hc => ⟨(h c hc).1, fun q => (h c hc).2 (by rw [Int32.lt_iff_toInt_lt] at q ⊢; have e1 : (65535 : Int32).toInt = 65535 := rfl; have e2 : (255 : Int32).toInt = 255 := rfl; omega)⟩
theorem own_eqv {v : Option Value} {P : Prop} (h : (v = some (.int 1) ∧ P) ∨ (v = some (.int 0) ∧ ¬ P)) : ∃ z : Int32, v = some (.int z) ∧ ((z = 1 ∧ P) ∨ (z = 0 ∧ ¬ P)) := by
  rcases h with ⟨h1, h2⟩ | ⟨h1, h2⟩
  · exact ⟨1, h1, Or.inl ⟨rfl, h2⟩⟩
  · exact ⟨0, h1, Or.inr ⟨rfl, h2⟩⟩
def own_Str (Z : State) (h : Heap) (x t : Addr) (cs : List Int32) : Prop := ∃ (k : ClassId) (N cd : Int32) (vs : List Value), Exa Z h x "java/lang/String" ∧ Fld Z h x "java/lang/String" "value" "[B" (.ref t) ∧ Fld Z h x "java/lang/String" "coder" "B" (.int cd) ∧ Arv Z h t k .byte N vs (.int 0) ∧ StrChars.Road.CodA cs cd N vs ∧ (∀ c ∈ cs, ¬ c < 0 ∧ ¬ (65535 : Int32) < c) ∧ cs.length ≤ 4000
section OwnStr
variable {Z : State} {h h' : Heap} {x t a : Addr} {cs ds : List Int32} {sl : Nat} {v : Value} {ws : List Addr}
theorem own_Str.lt (F : own_Str Z h x t cs) : x < h.size := by obtain ⟨_, _, _, _, E, -⟩ := F; exact E.lt
theorem own_Str.ltt (F : own_Str Z h x t cs) : t < h.size := by obtain ⟨_, _, _, _, -, -, -, K, -⟩ := F; exact K.lt
theorem own_Str.exa (F : own_Str Z h x t cs) : Exa Z h x "java/lang/String" := by obtain ⟨_, _, _, _, E, -⟩ := F; exact E
theorem own_Str.ext (F : own_Str Z h x t cs) (E : Ext h h') : own_Str Z h' x t cs := by obtain ⟨k, N, cd, vs, f1, f2, f3, f4, r⟩ := F; exact ⟨k, N, cd, vs, f1.ext E, f2.ext E, f3.ext E, f4.ext E, r⟩
theorem own_Str.other (F : own_Str Z h x t cs) (W : Wr h h' a sl v) (n1 : x ≠ a) (n2 : t ≠ a) : own_Str Z h' x t cs := by obtain ⟨k, N, cd, vs, f1, f2, f3, f4, r⟩ := F; exact ⟨k, N, cd, vs, f1.wr W, f2.other W (Or.inl n1), f3.other W (Or.inl n1), f4.other W n2, r⟩
theorem own_Str.keep (F : own_Str Z h x t cs) (K : Keep h h' ws) (n1 : x ∉ ws) (n2 : t ∉ ws) : own_Str Z h' x t cs := by obtain ⟨k, N, cd, vs, f1, f2, f3, f4, r⟩ := F; exact ⟨k, N, cd, vs, f1.keep K, f2.keep K n1, f3.keep K n1, f4.keep K n2, r⟩
end OwnStr
theorem own_eqB {p : Program} {l : Launch} {e : Env} {R : Room} {s : State} {args : Array Value} {below : List Frame} {len W : Nat} {Z : State} {a0 : Array Value} {h : Heap} (hZ : Z.Warmed39 s.vm) (hw : ∀ d ∈ StrChars.Road.wordsEq, d.before a0 Z = true) (wi : (Jvm.Cond.instantiable "java/lang/String" 4).before a0 Z = true) {x t y t' : Addr} {cs ds : List Int32} {z : Int32} (A : own_Str Z h x t cs) (B : own_Str Z h y t' ds) (S : Sta Z h "java/lang/String" "COMPACT_STRINGS" "Z" (.int z)) (hz : ¬ z = 0) (hfr : 2 ≤ R.frames) (hlo : W + 28 ≤ R.locals) :
    Back l R p e below s args (⟨"java/lang/String", "equals", "(Ljava/lang/Object;)Z"⟩ : MethodName) len W (fun P a => a = #[.ref x, .ref y] ∧ P.U.heap = h ∧ P.cells + 0 ≤ R.cells ∧ P.slots + 0 ≤ R.slots)
      (fun P _ v B => ∃ L, (((v = some (.int 1) ∧ cs = ds) ∨ (v = some (.int 0) ∧ ¬ cs = ds)) ∧ L = [] ∧ B.U.heap = h) ∧ B.locs = P.locs ++ L ∧ B.cells = P.cells + 0 ∧ B.slots = P.slots + 0) := by
  obtain ⟨_, _, _, _, f1, f2, f3, f4, f5, f6, f7⟩ := A
  obtain ⟨_, _, _, _, g1, g2, g3, g4, g5, g6, g7⟩ := B
  exact StrChars.Road.eqW hZ hw wi f1 f2 f3 f4 f5 f6 f7 g1 g2 g3 g4 g5 g6 g7 S hz hfr hlo
section OwnKitS
variable {p : Program} {l : Launch} {e : Env} {R : Room} {s : State} {m : MethodId} {args : Array Value} {below : List Frame} {meth : Method} {c : Code} {T : State} {locs : List Loc} {cells slots : Nat} {Z : State} {h : Heap} {vm0 : Vm} {EL : List (String × Nat)} {a0 : Array Value}
def own_PostW (Z : State) (EL : List (String × Nat)) (Q : Option Value → Heap → List Loc → Prop) (k n : Nat) (below : List Frame) (U : State) (t : State) (o : Outcome) : Prop :=
  t.status = .running ∧ Ended t below o ∧ ∃ v L, o = .returned v ∧ Q v t.heap L ∧ CHr Z EL U.vm U.heap t.vm t.heap ∧ ReturnedEndW U o t L k n
theorem own_retW {x : MethodName} {S : Spec} {code : ByteArray} {mx : Nat} {rt : Option FieldType} {s₁ : State} {Q : Option Value → Heap → List Loc → Prop} {kc kn k0 : Nat} (X : Stand p l e R (s.setVm vm0) m args below meth c T locs cells slots) (hx : p.tables.exec = Jvm.exec) (Bd : BodyLoose p l x S code mx rt e s m args below meth c s₁) (hS : s.Since vm0 k0) (hk : k0 ≤ T.heap.size) {pc : Nat} {Ls : Array Slot} {w : Value} {t : FieldType} {i : Instr} {rest : List Value} (hret : meth.sig.returnType = some t) (hn : narrow t w = w)
    (hi : (i = .ireturn ∧ (t = .int ∨ t = .boolean ∨ t = .byte ∨ t = .char ∨ t = .short) ∧ ∃ z, w = .int z) ∨ (i = .lreturn ∧ t = .long ∧ ∃ z, w = .long z) ∨ (i = .dreturn ∧ t = .double ∧ ∃ z, w = .double z) ∨ (i = .freturn ∧ t = .float ∧ ∃ z, w = .float z) ∨ (i = .areturn ∧ t.isReference = true ∧ w.isRef = true))
    (hd : decode c.code pc = .ok (i, 1)) (hCR : CHr Z EL s.vm s.heap T.vm T.heap) (hQ : Q (some w) T.heap locs) (hc : cells ≤ kc) (hs : slots ≤ kn) : own_Fin p.tables e below (own_PostW Z EL Q kc kn below s) (T.setTop (mkF m pc Ls (w :: rest))) := by
  obtain ⟨fs, hr, hrun, hended, hW⟩ := X.leaveW hS hk (v := some w) (fun h => by rw [hret] at h; cases h) Bd.notSynchronized
  exact ⟨_, _, retOut X hx hret hn hi hd hr, hrun, hended, _, _, rfl, hQ, hCR, hW.1, hW.2.1, hW.2.2.1, hW.2.2.2.mono hc hs⟩
theorem own_retW0 {x : MethodName} {S : Spec} {code : ByteArray} {mx : Nat} {s₁ : State} {Q : Option Value → Heap → List Loc → Prop} {kc kn k0 : Nat} (X : Stand p l e R (s.setVm vm0) m args below meth c T locs cells slots) (hx : p.tables.exec = Jvm.exec) (Bd : BodyLoose p l x S code mx none e s m args below meth c s₁) (hS : s.Since vm0 k0) (hk : k0 ≤ T.heap.size) {pc : Nat} {Ls : Array Slot}
    (hd : decode c.code pc = .ok (.return_, 1)) (hCR : CHr Z EL s.vm s.heap T.vm T.heap) (hQ : Q none T.heap locs) (hc : cells ≤ kc) (hs : slots ≤ kn) : own_Fin p.tables e below (own_PostW Z EL Q kc kn below s) (T.setTop (mkF m pc Ls [])) := by
  obtain ⟨fs, hr, hrun, hended, hW⟩ := X.leaveW hS hk (v := none) (fun _ => rfl) Bd.notSynchronized
  exact ⟨_, _, X.returnOut hx Bd.returns hd hr, hrun, hended, _, _, rfl, hQ, hCR, hW.1, hW.2.1, hW.2.2.1, hW.2.2.2.mono hc hs⟩
theorem own_safe_null {x : Addr} (hal : Z.vm.Alike vm0) (E : Exa Z h x "java/lang/String") (F : Fld Z h x "java/lang/String" "value" "[B" .null) : Safe Z EL vm0 h x := fun B => by
  obtain ⟨cell, k, e1, e2, e3, -, -⟩ := E
  obtain ⟨p, -, u, a, -, q, -, G, rfl | rfl⟩ := B
  · cases (show h[q.sa]? = some q.sC from G.ha).symm.trans e1
    obtain ⟨cS, ⟨⟨-, -, -, ⟨c1, k1, i1, f1, -⟩, -, -, -, v1, -⟩, -⟩, -⟩ := G
    obtain ⟨cl2, cf, kf, i, f, g1, g2, -, -, -, -, g7⟩ := F
    cases (show h[q.sa]? = some q.sC from e1).symm.trans g1
    obtain ⟨k3, e4, -⟩ := State.fieldFound?_setVm (s := Z) hal g2
    have e5 := (show (Wst Z vm0 h).fieldFound? _ _ _ = _ from e4).symm.trans f1
    simp only [Option.some.injEq, Prod.mk.injEq] at e5
    rw [e5.2.2.2, v1] at g7
    simp at g7
  · cases (show h[q.sd]? = some q.SA from G.hd).symm.trans e1
    obtain ⟨cS, -, -, f, -⟩ := G
    rw [show (Wst Z vm0 h).vm = vm0 from rfl, hal.findClass] at f
    obtain ⟨k1, q1, q2⟩ := Vm.findClass_spec f
    obtain ⟨k2, q3, q4⟩ := Vm.findClass_spec e2
    cases q1.symm.trans q3
    exact absurd (q2.symm.trans q4) (by decide)
end OwnKitS
theorem own_b8 {x : Int32} : x.toInt8.toInt32.toInt8.toInt32 = x.toInt8.toInt32 := by simp
theorem own_and255 (x : Int32) : ¬ (x &&& 255) < 0 ∧ ¬ (255 : Int32) < (x &&& 255) := by
  have t : ∀ k : Fin 256, ¬ (Int32.ofNat k.val) < 0 ∧ ¬ (255 : Int32) < Int32.ofNat k.val := by decide +kernel
  have h : (x &&& 255).toBitVec.toNat < 256 := by
    simp only [Int32.toBitVec_and, BitVec.toNat_and]
    exact Nat.lt_succ_of_le Nat.and_le_right
  have e : (x &&& 255) = Int32.ofNat (x &&& 255).toBitVec.toNat := by
    apply Int32.toBitVec_inj.mp
    show _ = BitVec.ofNat 32 _
    rw [BitVec.ofNat_toNat]; simp
  rw [e]
  exact t ⟨_, h⟩
theorem own_nar255 {x : Int32} : nar .char (x &&& 255) = x &&& 255 := i2c_mask x
theorem own_and_max (x : Int32) : 0 ≤ (x &&& 2147483647).toInt := by
  have e : (2147483647 : Int32).toBitVec.msb = false := by decide
  have h : (x &&& 2147483647).toBitVec.msb = false := by rw [Int32.toBitVec_and, BitVec.msb_and, e, Bool.and_false]
  have := BitVec.toInt_eq_toNat_of_msb h
  show 0 ≤ (x &&& 2147483647).toBitVec.toInt
  omega
theorem own_mod9 (x : Int32) : (x &&& 2147483647) % 9 = 0 ∨ (x &&& 2147483647) % 9 = 1 ∨ (x &&& 2147483647) % 9 = 2 ∨ (x &&& 2147483647) % 9 = 3 ∨ (x &&& 2147483647) % 9 = 4 ∨ (x &&& 2147483647) % 9 = 5 ∨ (x &&& 2147483647) % 9 = 6 ∨ (x &&& 2147483647) % 9 = 7 ∨ (x &&& 2147483647) % 9 = 8 := by
  have e : ((x &&& 2147483647) % 9).toInt = (x &&& 2147483647).toInt.tmod 9 := by rw [Int32.toInt_mod]; rfl
  have h0 := own_and_max x
  rw [Int.tmod_eq_emod_of_nonneg h0] at e
  simp only [← Int32.toInt_inj]
  have : (0 : Int32).toInt = 0 ∧ (1 : Int32).toInt = 1 ∧ (2 : Int32).toInt = 2 ∧ (3 : Int32).toInt = 3 ∧ (4 : Int32).toInt = 4 ∧ (5 : Int32).toInt = 5 ∧ (6 : Int32).toInt = 6 ∧ (7 : Int32).toInt = 7 ∧ (8 : Int32).toInt = 8 := by decide
  omega
theorem own_ch16 (x : Int32) : ¬ x.toUInt32.toUInt16.toUInt32.toInt32 < 0 ∧ ¬ (65535 : Int32) < x.toUInt32.toUInt16.toUInt32.toInt32 := by
  have hn : (x.toUInt32.toUInt16.toUInt32.toInt32).toBitVec.toNat < 65536 := by
    show BitVec.toNat ((x.toBitVec.setWidth 16).setWidth 32) < 65536
    rw [BitVec.toNat_setWidth, BitVec.toNat_setWidth]
    omega
  generalize x.toUInt32.toUInt16.toUInt32.toInt32 = c at hn
  have hc : c.toInt = c.toBitVec.toNat := by
    have e : c.toInt = c.toBitVec.toInt := rfl
    rw [e, BitVec.toInt_eq_toNat_cond]
    split <;> omega
  rw [Int32.lt_iff_toInt_lt, Int32.lt_iff_toInt_lt]
  have e0 : (0 : Int32).toInt = 0 := rfl
  have e1 : (65535 : Int32).toInt = 65535 := rfl
  omega
theorem own_narch {c : Int32} (h : ¬ c < 0 ∧ ¬ (65535 : Int32) < c) : nar .char c = c := Value.int.inj (show Value.int (nar .char c) = .int c from StrChars.narrow_ch h.1 h.2)
theorem own_refcat {v : Value} (h : v.isRef = true) : v.category = 1 := by cases v <;> first | rfl | simp [Value.isRef] at h
theorem own_irr (x : Int32) : ¬ x < x := by rw [Int32.lt_iff_toInt_lt]; omega
theorem own_lt16 {q : Int32} (h : ¬ q < 0 ∧ ¬ (255 : Int32) < q) : q < (65536 : Int32) := by
  have h2 := h.2
  rw [Int32.lt_iff_toInt_lt] at h2 ⊢
  have e1 : (255 : Int32).toInt = 255 := rfl
  have e2 : (65536 : Int32).toInt = 65536 := rfl
  omega
theorem own_lo8i {c q : Int32} (hc : ¬ c < 0 ∧ ¬ (255 : Int32) < c) (hq : ¬ q < 0 ∧ ¬ (255 : Int32) < q) (e : c.toInt8.toInt32 = q.toInt8.toInt32) : c = q := by
  rw [← StrChars.lo8_mask hc.1 hc.2, ← StrChars.lo8_mask hq.1 hq.2]
  exact congrArg (fun z : Int32 => z &&& 255) e
theorem own_memi {cs : List Int32} {c q : Int32} (h : c ∈ cs) (e : c = q) : q ∈ cs := e ▸ h
theorem own_toI {i : Nat} (h : i ≤ 9000) : (Int32.ofNat i).toInt = i := Int32.toInt_ofNat_of_lt (by omega)
theorem own_nn {i : Nat} (h : i ≤ 9000) : ¬ Int32.ofNat i < 0 := by
  rw [Int32.lt_iff_toInt_lt, own_toI h]; have : (0 : Int32).toInt = 0 := rfl; omega
theorem own_nnL {n : Nat} (h : 0 < n ∧ n ≤ 4) : ¬ Int32.ofNat n < 0 := own_nn (by omega)
theorem own_posL {n : Nat} (h : 0 < n ∧ n ≤ 4) : (0 : Int32) < Int32.ofNat n := by
  rw [Int32.lt_iff_toInt_lt, own_toI (by omega)]; have : (0 : Int32).toInt = 0 := rfl; omega
theorem own_emN {cs : List Int32} {cd N : Int32} {vs : List Value} (h : StrChars.Road.CodA cs cd N vs) (h4 : cs.length ≤ 4000) : (N = 0 → cs = []) ∧ (¬ N = 0 → 0 < cs.length) := by
  have z : ∀ n : Nat, n ≤ 9000 → (Int32.ofNat n = 0 ↔ n = 0) := fun n hn => by
    rw [← Int32.toInt_inj, own_toI hn]; have : (0 : Int32).toInt = 0 := rfl; omega
  rcases h with ⟨-, rfl, -⟩ | ⟨-, rfl, -⟩
  · rw [z _ (by omega)]; exact ⟨fun q => List.length_eq_zero_iff.mp q, fun q => Nat.pos_of_ne_zero q⟩
  · rw [z _ (by omega)]; exact ⟨fun q => List.length_eq_zero_iff.mp (by omega), fun q => by omega⟩
theorem own_w {a0 : Array Value} {Z : State} {c : Jvm.Cond} (hw : ∀ d ∈ tables_1, d.before a0 Z = true) (i : Nat) (h : tables_1[i]? = some c) : c.before a0 Z = true := hw c (List.mem_of_getElem? h)
theorem own_s {args : Array Value} {s : State} {L : List Jvm.Cond} {c : Jvm.Cond} (hw : ∀ d ∈ L, d.before args s = true) (i : Nat) (h : L[i]? = some c) : c.value args s none s [] = some true := Cond.before_iff.mp (hw c (List.mem_of_getElem? h))
theorem own_m {α : Type} {L : List α} {c : α} (i : Nat) (h : L[i]? = some c) : c ∈ L := List.mem_of_getElem? h
theorem own_take {cs ds : List Int32} {P : Int32 → Prop} (n : Nat) (h : ∀ c ∈ cs, P c) (e : ds = cs.take n := by rfl) : ∀ c ∈ ds, P c := fun c hc => h c (List.mem_of_mem_take (e ▸ hc))
def own_id (cs : List Int32) : Prop := cs ≠ [] ∧ cs ≠ [46] ∧ cs ≠ [46, 46] ∧ (∀ c ∈ cs, ¬ c = 47) ∧ (∀ c ∈ cs, ¬ c = 0)
theorem own_take4 {n : Nat} {a b c d : Int32} : (List.take n [a, b, c, d]).length ≤ 4 := List.length_take_le' n _
theorem own_two {z w : Int32} {P : Prop} (h : (z = 1 ∧ P) ∨ (z = 0 ∧ ¬ P)) (k : (w = 1 ∧ P) ∨ (w = 0 ∧ ¬ P)) : z = w := by
  rcases h with ⟨rfl, h⟩ | ⟨rfl, h⟩ <;> rcases k with ⟨rfl, k⟩ | ⟨rfl, k⟩ <;> first | rfl | exact absurd h k | exact absurd k h
theorem own_fk {z : Int32} {P Q : Prop} (h : (z = 1 ∧ P) ∨ (z = 0 ∧ ¬ P)) (k : ¬ Q) : (z = 1 ∧ (P ∨ Q)) ∨ (z = 0 ∧ ¬ (P ∨ Q)) := h.elim (fun q => Or.inl ⟨q.1, Or.inl q.2⟩) (fun q => Or.inr ⟨q.1, fun r => r.elim q.2 k⟩)
theorem own_fs {P Q : Prop} (k : Q) : ((1 : Int32) = 1 ∧ (P ∨ Q)) ∨ ((1 : Int32) = 0 ∧ ¬ (P ∨ Q)) := Or.inl ⟨rfl, Or.inr k⟩
theorem own_z {z : Int32} {P : Prop} (h : (z = 1 ∧ P) ∨ (z = 0 ∧ ¬ P)) (k : z = 0) : ¬ P := h.elim (fun q => absurd (q.1.symm.trans k) (by decide)) (fun q => q.2)
theorem own_nz {z : Int32} {P : Prop} (h : (z = 1 ∧ P) ∨ (z = 0 ∧ ¬ P)) (k : ¬ P) : z = 0 := h.elim (fun q => absurd q.2 k) (fun q => q.1)
theorem own_exp {n : Nat} (hn : n ≤ 4) {a b c d : Int32} : ((0 : Int32) < Int32.ofNat n ∧ ¬ (Int32.ofNat n = (1 : Int32) ∧ a = 46) ∧ ¬ (Int32.ofNat n = (2 : Int32) ∧ a = 46 ∧ b = 46) ∧ ¬ ((((False ∨ ((0 : Int32) < Int32.ofNat n ∧ (a = 47 ∨ a = 0))) ∨ ((1 : Int32) < Int32.ofNat n ∧ (b = 47 ∨ b = 0))) ∨ ((2 : Int32) < Int32.ofNat n ∧ (c = 47 ∨ c = 0))) ∨ ((3 : Int32) < Int32.ofNat n ∧ (d = 47 ∨ d = 0)))) ↔ own_id (List.take n [a, b, c, d]) := by
  have l0 : ∀ i j : Nat, i ≤ 4 → j ≤ 4 → ((Int32.ofNat i < Int32.ofNat j) ↔ i < j) := fun i j hi hj => by rw [Int32.lt_iff_toInt_lt, own_toI (by omega), own_toI (by omega)]; omega
  have l1 : ∀ i j : Nat, i ≤ 4 → j ≤ 4 → ((Int32.ofNat i = Int32.ofNat j) ↔ i = j) := fun i j hi hj => by rw [← Int32.toInt_inj, own_toI (by omega), own_toI (by omega)]; omega
  have e0 := l0 0 n (by omega) hn
  have e1 := l0 1 n (by omega) hn
  have e2 := l0 2 n (by omega) hn
  have e3 := l0 3 n (by omega) hn
  have e4 := l1 n 1 hn (by omega)
  have e5 := l1 n 2 hn (by omega)
  rw [show ((0 : Int32) < Int32.ofNat n) ↔ _ from e0, show ((1 : Int32) < Int32.ofNat n) ↔ _ from e1, show ((2 : Int32) < Int32.ofNat n) ↔ _ from e2, show ((3 : Int32) < Int32.ofNat n) ↔ _ from e3, show (Int32.ofNat n = (1 : Int32)) ↔ _ from e4, show (Int32.ofNat n = (2 : Int32)) ↔ _ from e5]
  clear e0 e1 e2 e3 e4 e5 l0 l1
  obtain rfl | rfl | rfl | rfl | rfl : n = 0 ∨ n = 1 ∨ n = 2 ∨ n = 3 ∨ n = 4 := by omega
  · simp [own_id]
  all_goals (simp [own_id]; try grind)
theorem own_mod5 (x : Int32) : ∃ n : Nat, n ≤ 4 ∧ (x &&& (2147483647 : Int32)) % (5 : Int32) = Int32.ofNat n := by
  have e : ((x &&& 2147483647) % 5).toInt = (x &&& 2147483647).toInt.tmod 5 := by rw [Int32.toInt_mod]; rfl
  have h0 := own_and_max x
  rw [Int.tmod_eq_emod_of_nonneg h0] at e
  refine ⟨((x &&& 2147483647) % 5).toInt.toNat, by omega, ?_⟩
  rw [← Int32.toInt_inj, own_toI (by omega)]
  omega
theorem pn_0 : plainName "java/lang/String" = true := by first | (simp [plainName, overriddenIn]; done) | decide +kernel
theorem d4_0 : decode jdk_42_method_149_code 0 = .ok (.aload_n 0, 1) := by decide +kernel
theorem d4_1 : decode jdk_42_method_149_code 1 = .ok (.invokespecial 1, 3) := by decide +kernel
theorem d4_4 : decode jdk_42_method_149_code 4 = .ok (.iload_n 3, 1) := by decide +kernel
theorem d4_5 : decode jdk_42_method_149_code 5 = .ok (.ifCond .ne 22, 3) := by decide +kernel
theorem d4_8 : decode jdk_42_method_149_code 8 = .ok (.aload_n 0, 1) := by decide +kernel
theorem d4_9 : decode jdk_42_method_149_code 9 = .ok (.ldc 7, 2) := by decide +kernel
theorem d4_11 : decode jdk_42_method_149_code 11 = .ok (.getfield 9, 3) := by decide +kernel
theorem d4_14 : decode jdk_42_method_149_code 14 = .ok (.putfield 9, 3) := by decide +kernel
theorem d4_17 : decode jdk_42_method_149_code 17 = .ok (.aload_n 0, 1) := by decide +kernel
theorem d4_18 : decode jdk_42_method_149_code 18 = .ok (.ldc 7, 2) := by decide +kernel
theorem d4_20 : decode jdk_42_method_149_code 20 = .ok (.getfield 15, 3) := by decide +kernel
theorem d4_23 : decode jdk_42_method_149_code 23 = .ok (.putfield 15, 3) := by decide +kernel
theorem d4_26 : decode jdk_42_method_149_code 26 = .ok (.return_, 1) := by decide +kernel
theorem d3_0 : decode jdk_42_method_3_code 0 = .ok (.aload_n 0, 1) := by decide +kernel
theorem d3_1 : decode jdk_42_method_3_code 1 = .ok (.aload_n 1, 1) := by decide +kernel
theorem d3_2 : decode jdk_42_method_3_code 2 = .ok (.iconst 0, 1) := by decide +kernel
theorem d3_3 : decode jdk_42_method_3_code 3 = .ok (.aload_n 1, 1) := by decide +kernel
theorem d3_4 : decode jdk_42_method_3_code 4 = .ok (.arraylength, 1) := by decide +kernel
theorem d3_5 : decode jdk_42_method_3_code 5 = .ok (.aconst_null, 1) := by decide +kernel
theorem d3_6 : decode jdk_42_method_3_code 6 = .ok (.invokespecial 27, 3) := by decide +kernel
theorem pd_1 : parseMethodDescriptor "([CIILjava/lang/Void;)V" = some ⟨[(.array .char), .int, .int, (.object "java/lang/Void")], none⟩ := by decide +kernel
theorem d3_9 : decode jdk_42_method_3_code 9 = .ok (.return_, 1) := by decide +kernel
theorem pn_2 : plainName "java/lang/StringUTF16" = true := by first | (simp [plainName, overriddenIn]; done) | decide +kernel
theorem d30_0 : decode jdk_52_method_3_code 0 = .ok (.iload_n 0, 1) := by decide +kernel
theorem d30_1 : decode jdk_52_method_3_code 1 = .ok (.ifCond .ge 11, 3) := by decide +kernel
theorem d30_12 : decode jdk_52_method_3_code 12 = .ok (.iload_n 0, 1) := by decide +kernel
theorem d30_13 : decode jdk_52_method_3_code 13 = .ok (.ldc 20, 2) := by decide +kernel
theorem d30_15 : decode jdk_52_method_3_code 15 = .ok (.if_icmp .lt 40, 3) := by decide +kernel
theorem d30_55 : decode jdk_52_method_3_code 55 = .ok (.iload_n 0, 1) := by decide +kernel
theorem d30_56 : decode jdk_52_method_3_code 56 = .ok (.iconst 1, 1) := by decide +kernel
theorem d30_57 : decode jdk_52_method_3_code 57 = .ok (.ishl, 1) := by decide +kernel
theorem d30_58 : decode jdk_52_method_3_code 58 = .ok (.ireturn, 1) := by decide +kernel
theorem d29_0 : decode jdk_52_method_2_code 0 = .ok (.iload_n 0, 1) := by decide +kernel
theorem d29_1 : decode jdk_52_method_2_code 1 = .ok (.invokestatic 11, 3) := by decide +kernel
theorem pd_3 : parseMethodDescriptor "(I)I" = some ⟨[.int], some .int⟩ := by decide +kernel
theorem d29_4 : decode jdk_52_method_2_code 4 = .ok (.newarray .byte, 2) := by decide +kernel
theorem d29_6 : decode jdk_52_method_2_code 6 = .ok (.areturn, 1) := by decide +kernel
theorem d31_0 : decode jdk_52_method_4_code 0 = .ok (.getstatic 44, 3) := by decide +kernel
theorem d31_3 : decode jdk_52_method_4_code 3 = .ok (.ifCond .ne 25, 3) := by decide +kernel
theorem d31_28 : decode jdk_52_method_4_code 28 = .ok (.iload_n 1, 1) := by decide +kernel
theorem d31_29 : decode jdk_52_method_4_code 29 = .ok (.iconst 1, 1) := by decide +kernel
theorem d31_30 : decode jdk_52_method_4_code 30 = .ok (.ishl, 1) := by decide +kernel
theorem d31_31 : decode jdk_52_method_4_code 31 = .ok (.istore_n 1, 1) := by decide +kernel
theorem d31_32 : decode jdk_52_method_4_code 32 = .ok (.aload_n 0, 1) := by decide +kernel
theorem d31_33 : decode jdk_52_method_4_code 33 = .ok (.iload_n 1, 1) := by decide +kernel
theorem d31_34 : decode jdk_52_method_4_code 34 = .ok (.iinc 1 1, 3) := by decide +kernel
theorem d31_37 : decode jdk_52_method_4_code 37 = .ok (.iload_n 2, 1) := by decide +kernel
theorem d31_38 : decode jdk_52_method_4_code 38 = .ok (.getstatic 59, 3) := by decide +kernel
theorem d31_41 : decode jdk_52_method_4_code 41 = .ok (.ishr, 1) := by decide +kernel
theorem d31_42 : decode jdk_52_method_4_code 42 = .ok (.i2b, 1) := by decide +kernel
theorem d31_43 : decode jdk_52_method_4_code 43 = .ok (.bastore, 1) := by decide +kernel
theorem d31_44 : decode jdk_52_method_4_code 44 = .ok (.aload_n 0, 1) := by decide +kernel
theorem d31_45 : decode jdk_52_method_4_code 45 = .ok (.iload_n 1, 1) := by decide +kernel
theorem d31_46 : decode jdk_52_method_4_code 46 = .ok (.iload_n 2, 1) := by decide +kernel
theorem d31_47 : decode jdk_52_method_4_code 47 = .ok (.getstatic 63, 3) := by decide +kernel
theorem d31_50 : decode jdk_52_method_4_code 50 = .ok (.ishr, 1) := by decide +kernel
theorem d31_51 : decode jdk_52_method_4_code 51 = .ok (.i2b, 1) := by decide +kernel
theorem d31_52 : decode jdk_52_method_4_code 52 = .ok (.bastore, 1) := by decide +kernel
theorem d31_53 : decode jdk_52_method_4_code 53 = .ok (.return_, 1) := by decide +kernel
theorem d32_0 : decode jdk_52_method_5_code 0 = .ok (.getstatic 44, 3) := by decide +kernel
theorem d32_3 : decode jdk_52_method_5_code 3 = .ok (.ifCond .ne 25, 3) := by decide +kernel
theorem d32_28 : decode jdk_52_method_5_code 28 = .ok (.iload_n 1, 1) := by decide +kernel
theorem d32_29 : decode jdk_52_method_5_code 29 = .ok (.iconst 1, 1) := by decide +kernel
theorem d32_30 : decode jdk_52_method_5_code 30 = .ok (.ishl, 1) := by decide +kernel
theorem d32_31 : decode jdk_52_method_5_code 31 = .ok (.istore_n 1, 1) := by decide +kernel
theorem d32_32 : decode jdk_52_method_5_code 32 = .ok (.aload_n 0, 1) := by decide +kernel
theorem d32_33 : decode jdk_52_method_5_code 33 = .ok (.iload_n 1, 1) := by decide +kernel
theorem d32_34 : decode jdk_52_method_5_code 34 = .ok (.iinc 1 1, 3) := by decide +kernel
theorem d32_37 : decode jdk_52_method_5_code 37 = .ok (.baload, 1) := by decide +kernel
theorem d32_38 : decode jdk_52_method_5_code 38 = .ok (.sipush 255, 3) := by decide +kernel
theorem d32_41 : decode jdk_52_method_5_code 41 = .ok (.iand, 1) := by decide +kernel
theorem d32_42 : decode jdk_52_method_5_code 42 = .ok (.getstatic 59, 3) := by decide +kernel
theorem d32_45 : decode jdk_52_method_5_code 45 = .ok (.ishl, 1) := by decide +kernel
theorem d32_46 : decode jdk_52_method_5_code 46 = .ok (.aload_n 0, 1) := by decide +kernel
theorem d32_47 : decode jdk_52_method_5_code 47 = .ok (.iload_n 1, 1) := by decide +kernel
theorem d32_48 : decode jdk_52_method_5_code 48 = .ok (.baload, 1) := by decide +kernel
theorem d32_49 : decode jdk_52_method_5_code 49 = .ok (.sipush 255, 3) := by decide +kernel
theorem d32_52 : decode jdk_52_method_5_code 52 = .ok (.iand, 1) := by decide +kernel
theorem d32_53 : decode jdk_52_method_5_code 53 = .ok (.getstatic 63, 3) := by decide +kernel
theorem d32_56 : decode jdk_52_method_5_code 56 = .ok (.ishl, 1) := by decide +kernel
theorem d32_57 : decode jdk_52_method_5_code 57 = .ok (.ior, 1) := by decide +kernel
theorem d32_58 : decode jdk_52_method_5_code 58 = .ok (.i2c, 1) := by decide +kernel
theorem d32_59 : decode jdk_52_method_5_code 59 = .ok (.ireturn, 1) := by decide +kernel
theorem d28_0 : decode jdk_52_method_14_code 0 = .ok (.iload_n 2, 1) := by decide +kernel
theorem d28_1 : decode jdk_52_method_14_code 1 = .ok (.invokestatic 107, 3) := by decide +kernel
theorem pd_4 : parseMethodDescriptor "(I)[B" = some ⟨[.int], some (.array .byte)⟩ := by decide +kernel
theorem d28_4 : decode jdk_52_method_14_code 4 = .ok (.astore_n 3, 1) := by decide +kernel
theorem d28_5 : decode jdk_52_method_14_code 5 = .ok (.iconst 0, 1) := by decide +kernel
theorem d28_6 : decode jdk_52_method_14_code 6 = .ok (.istore 4, 2) := by decide +kernel
theorem d28_8 : decode jdk_52_method_14_code 8 = .ok (.iload 4, 2) := by decide +kernel
theorem d28_10 : decode jdk_52_method_14_code 10 = .ok (.iload_n 2, 1) := by decide +kernel
theorem d28_11 : decode jdk_52_method_14_code 11 = .ok (.if_icmp .ge 21, 3) := by decide +kernel
theorem d28_14 : decode jdk_52_method_14_code 14 = .ok (.aload_n 3, 1) := by decide +kernel
theorem d28_15 : decode jdk_52_method_14_code 15 = .ok (.iload 4, 2) := by decide +kernel
theorem d28_17 : decode jdk_52_method_14_code 17 = .ok (.aload_n 0, 1) := by decide +kernel
theorem d28_18 : decode jdk_52_method_14_code 18 = .ok (.iload_n 1, 1) := by decide +kernel
theorem d28_19 : decode jdk_52_method_14_code 19 = .ok (.caload, 1) := by decide +kernel
theorem d28_20 : decode jdk_52_method_14_code 20 = .ok (.invokestatic 111, 3) := by decide +kernel
theorem pd_5 : parseMethodDescriptor "([BII)V" = some ⟨[(.array .byte), .int, .int], none⟩ := by decide +kernel
theorem d28_23 : decode jdk_52_method_14_code 23 = .ok (.iinc 1 1, 3) := by decide +kernel
theorem d28_26 : decode jdk_52_method_14_code 26 = .ok (.iinc 4 1, 3) := by decide +kernel
theorem d28_29 : decode jdk_52_method_14_code 29 = .ok (.goto (-21), 3) := by decide +kernel
theorem d28_32 : decode jdk_52_method_14_code 32 = .ok (.aload_n 3, 1) := by decide +kernel
theorem d28_33 : decode jdk_52_method_14_code 33 = .ok (.areturn, 1) := by decide +kernel
theorem d9_0 : decode jdk_52_method_21_code 0 = .ok (.iconst 0, 1) := by decide +kernel
theorem d9_1 : decode jdk_52_method_21_code 1 = .ok (.istore 5, 2) := by decide +kernel
theorem d9_3 : decode jdk_52_method_21_code 3 = .ok (.iload 5, 2) := by decide +kernel
theorem d9_5 : decode jdk_52_method_21_code 5 = .ok (.iload 4, 2) := by decide +kernel
theorem d9_7 : decode jdk_52_method_21_code 7 = .ok (.if_icmp .ge 37, 3) := by decide +kernel
theorem d9_10 : decode jdk_52_method_21_code 10 = .ok (.aload_n 0, 1) := by decide +kernel
theorem d9_11 : decode jdk_52_method_21_code 11 = .ok (.iload_n 1, 1) := by decide +kernel
theorem d9_12 : decode jdk_52_method_21_code 12 = .ok (.caload, 1) := by decide +kernel
theorem d9_13 : decode jdk_52_method_21_code 13 = .ok (.istore 6, 2) := by decide +kernel
theorem d9_15 : decode jdk_52_method_21_code 15 = .ok (.iload 6, 2) := by decide +kernel
theorem d9_17 : decode jdk_52_method_21_code 17 = .ok (.sipush 255, 3) := by decide +kernel
theorem d9_20 : decode jdk_52_method_21_code 20 = .ok (.if_icmp .le 6, 3) := by decide +kernel
theorem d9_23 : decode jdk_52_method_21_code 23 = .ok (.iload 5, 2) := by decide +kernel
theorem d9_25 : decode jdk_52_method_21_code 25 = .ok (.ireturn, 1) := by decide +kernel
theorem d9_26 : decode jdk_52_method_21_code 26 = .ok (.aload_n 2, 1) := by decide +kernel
theorem d9_27 : decode jdk_52_method_21_code 27 = .ok (.iload_n 3, 1) := by decide +kernel
theorem d9_28 : decode jdk_52_method_21_code 28 = .ok (.iload 6, 2) := by decide +kernel
theorem d9_30 : decode jdk_52_method_21_code 30 = .ok (.i2b, 1) := by decide +kernel
theorem d9_31 : decode jdk_52_method_21_code 31 = .ok (.bastore, 1) := by decide +kernel
theorem d9_32 : decode jdk_52_method_21_code 32 = .ok (.iinc 1 1, 3) := by decide +kernel
theorem d9_35 : decode jdk_52_method_21_code 35 = .ok (.iinc 3 1, 3) := by decide +kernel
theorem d9_38 : decode jdk_52_method_21_code 38 = .ok (.iinc 5 1, 3) := by decide +kernel
theorem d9_41 : decode jdk_52_method_21_code 41 = .ok (.goto (-38), 3) := by decide +kernel
theorem d9_44 : decode jdk_52_method_21_code 44 = .ok (.iload 4, 2) := by decide +kernel
theorem d9_46 : decode jdk_52_method_21_code 46 = .ok (.ireturn, 1) := by decide +kernel
theorem d8_0 : decode jdk_52_method_16_code 0 = .ok (.iload_n 2, 1) := by decide +kernel
theorem d8_1 : decode jdk_52_method_16_code 1 = .ok (.newarray .byte, 2) := by decide +kernel
theorem d8_3 : decode jdk_52_method_16_code 3 = .ok (.astore_n 3, 1) := by decide +kernel
theorem d8_4 : decode jdk_52_method_16_code 4 = .ok (.aload_n 0, 1) := by decide +kernel
theorem d8_5 : decode jdk_52_method_16_code 5 = .ok (.iload_n 1, 1) := by decide +kernel
theorem d8_6 : decode jdk_52_method_16_code 6 = .ok (.aload_n 3, 1) := by decide +kernel
theorem d8_7 : decode jdk_52_method_16_code 7 = .ok (.iconst 0, 1) := by decide +kernel
theorem d8_8 : decode jdk_52_method_16_code 8 = .ok (.iload_n 2, 1) := by decide +kernel
theorem d8_9 : decode jdk_52_method_16_code 9 = .ok (.invokestatic 115, 3) := by decide +kernel
theorem pd_6 : parseMethodDescriptor "([CI[BII)I" = some ⟨[(.array .char), .int, (.array .byte), .int, .int], some .int⟩ := by decide +kernel
theorem d8_12 : decode jdk_52_method_16_code 12 = .ok (.istore 4, 2) := by decide +kernel
theorem d8_14 : decode jdk_52_method_16_code 14 = .ok (.iload 4, 2) := by decide +kernel
theorem d8_16 : decode jdk_52_method_16_code 16 = .ok (.iload_n 2, 1) := by decide +kernel
theorem d8_17 : decode jdk_52_method_16_code 17 = .ok (.if_icmp .eq 40, 3) := by decide +kernel
theorem d8_20 : decode jdk_52_method_16_code 20 = .ok (.aload_n 0, 1) := by decide +kernel
theorem d8_21 : decode jdk_52_method_16_code 21 = .ok (.iload_n 1, 1) := by decide +kernel
theorem d8_22 : decode jdk_52_method_16_code 22 = .ok (.iload_n 2, 1) := by decide +kernel
theorem d8_23 : decode jdk_52_method_16_code 23 = .ok (.invokestatic 119, 3) := by decide +kernel
theorem pd_7 : parseMethodDescriptor "([CII)[B" = some ⟨[(.array .char), .int, .int], some (.array .byte)⟩ := by decide +kernel
theorem d8_26 : decode jdk_52_method_16_code 26 = .ok (.astore 5, 2) := by decide +kernel
theorem d8_28 : decode jdk_52_method_16_code 28 = .ok (.aload 5, 2) := by decide +kernel
theorem d8_30 : decode jdk_52_method_16_code 30 = .ok (.iload 4, 2) := by decide +kernel
theorem d8_32 : decode jdk_52_method_16_code 32 = .ok (.invokestatic 71, 3) := by decide +kernel
theorem pd_8 : parseMethodDescriptor "([BI)C" = some ⟨[(.array .byte), .int], some .char⟩ := by decide +kernel
theorem d8_35 : decode jdk_52_method_16_code 35 = .ok (.sipush 255, 3) := by decide +kernel
theorem d8_38 : decode jdk_52_method_16_code 38 = .ok (.if_icmp .gt 16, 3) := by decide +kernel
theorem d8_54 : decode jdk_52_method_16_code 54 = .ok (.aload 5, 2) := by decide +kernel
theorem d8_56 : decode jdk_52_method_16_code 56 = .ok (.areturn, 1) := by decide +kernel
theorem d8_57 : decode jdk_52_method_16_code 57 = .ok (.aload_n 3, 1) := by decide +kernel
theorem d8_58 : decode jdk_52_method_16_code 58 = .ok (.areturn, 1) := by decide +kernel
theorem d10_0 : decode jdk_52_method_15_code 0 = .ok (.iload_n 1, 1) := by decide +kernel
theorem d10_1 : decode jdk_52_method_15_code 1 = .ok (.aload_n 0, 1) := by decide +kernel
theorem d10_2 : decode jdk_52_method_15_code 2 = .ok (.arraylength, 1) := by decide +kernel
theorem d10_3 : decode jdk_52_method_15_code 3 = .ok (.isub, 1) := by decide +kernel
theorem d10_4 : decode jdk_52_method_15_code 4 = .ok (.bipush 31, 2) := by decide +kernel
theorem d10_6 : decode jdk_52_method_15_code 6 = .ok (.iushr, 1) := by decide +kernel
theorem d10_7 : decode jdk_52_method_15_code 7 = .ok (.i2b, 1) := by decide +kernel
theorem d10_8 : decode jdk_52_method_15_code 8 = .ok (.ireturn, 1) := by decide +kernel
theorem d4_27 : decode jdk_42_method_149_code 27 = .ok (.getstatic 38, 3) := by decide +kernel
theorem d4_30 : decode jdk_42_method_149_code 30 = .ok (.ifCond .eq 28, 3) := by decide +kernel
theorem d4_33 : decode jdk_42_method_149_code 33 = .ok (.aload_n 1, 1) := by decide +kernel
theorem d4_34 : decode jdk_42_method_149_code 34 = .ok (.iload_n 2, 1) := by decide +kernel
theorem d4_35 : decode jdk_42_method_149_code 35 = .ok (.iload_n 3, 1) := by decide +kernel
theorem d4_36 : decode jdk_42_method_149_code 36 = .ok (.invokestatic 177, 3) := by decide +kernel
theorem d4_39 : decode jdk_42_method_149_code 39 = .ok (.astore 5, 2) := by decide +kernel
theorem d4_41 : decode jdk_42_method_149_code 41 = .ok (.aload_n 0, 1) := by decide +kernel
theorem d4_42 : decode jdk_42_method_149_code 42 = .ok (.aload 5, 2) := by decide +kernel
theorem d4_44 : decode jdk_42_method_149_code 44 = .ok (.iload_n 3, 1) := by decide +kernel
theorem d4_45 : decode jdk_42_method_149_code 45 = .ok (.invokestatic 47, 3) := by decide +kernel
theorem pd_9 : parseMethodDescriptor "([BI)B" = some ⟨[(.array .byte), .int], some .byte⟩ := by decide +kernel
theorem d4_48 : decode jdk_42_method_149_code 48 = .ok (.putfield 15, 3) := by decide +kernel
theorem d4_51 : decode jdk_42_method_149_code 51 = .ok (.aload_n 0, 1) := by decide +kernel
theorem d4_52 : decode jdk_42_method_149_code 52 = .ok (.aload 5, 2) := by decide +kernel
theorem d4_54 : decode jdk_42_method_149_code 54 = .ok (.putfield 9, 3) := by decide +kernel
theorem d4_57 : decode jdk_42_method_149_code 57 = .ok (.return_, 1) := by decide +kernel
theorem pn_10 : plainName "java/lang/StringLatin1" = true := by first | (simp [plainName, overriddenIn]; done) | decide +kernel
theorem d25_0 : decode jdk_43_method_3_code 0 = .ok (.iload_n 0, 1) := by decide +kernel
theorem d25_1 : decode jdk_43_method_3_code 1 = .ok (.sipush 255, 3) := by decide +kernel
theorem d25_4 : decode jdk_43_method_3_code 4 = .ok (.if_icmp .gt 7, 3) := by decide +kernel
theorem d25_11 : decode jdk_43_method_3_code 11 = .ok (.iconst 0, 1) := by decide +kernel
theorem d25_12 : decode jdk_43_method_3_code 12 = .ok (.ireturn, 1) := by decide +kernel
theorem d25_7 : decode jdk_43_method_3_code 7 = .ok (.iconst 1, 1) := by decide +kernel
theorem d25_8 : decode jdk_43_method_3_code 8 = .ok (.goto 4, 3) := by decide +kernel
theorem d26_0 : decode jdk_43_method_46_code 0 = .ok (.iconst 1, 1) := by decide +kernel
theorem d26_1 : decode jdk_43_method_46_code 1 = .ok (.newarray .byte, 2) := by decide +kernel
theorem d26_3 : decode jdk_43_method_46_code 3 = .ok (.dup, 1) := by decide +kernel
theorem d26_4 : decode jdk_43_method_46_code 4 = .ok (.iconst 0, 1) := by decide +kernel
theorem d26_5 : decode jdk_43_method_46_code 5 = .ok (.iload_n 0, 1) := by decide +kernel
theorem d26_6 : decode jdk_43_method_46_code 6 = .ok (.i2b, 1) := by decide +kernel
theorem d26_7 : decode jdk_43_method_46_code 7 = .ok (.bastore, 1) := by decide +kernel
theorem d26_8 : decode jdk_43_method_46_code 8 = .ok (.areturn, 1) := by decide +kernel
theorem d40_0 : decode jdk_52_method_24_code 0 = .ok (.iconst 2, 1) := by decide +kernel
theorem d40_1 : decode jdk_52_method_24_code 1 = .ok (.newarray .byte, 2) := by decide +kernel
theorem d40_3 : decode jdk_52_method_24_code 3 = .ok (.astore_n 1, 1) := by decide +kernel
theorem d40_4 : decode jdk_52_method_24_code 4 = .ok (.aload_n 1, 1) := by decide +kernel
theorem d40_5 : decode jdk_52_method_24_code 5 = .ok (.iconst 0, 1) := by decide +kernel
theorem d40_6 : decode jdk_52_method_24_code 6 = .ok (.iload_n 0, 1) := by decide +kernel
theorem d40_7 : decode jdk_52_method_24_code 7 = .ok (.invokestatic 111, 3) := by decide +kernel
theorem d40_10 : decode jdk_52_method_24_code 10 = .ok (.aload_n 1, 1) := by decide +kernel
theorem d40_11 : decode jdk_52_method_24_code 11 = .ok (.areturn, 1) := by decide +kernel
theorem d27_0 : decode jdk_42_method_151_code 0 = .ok (.aload_n 0, 1) := by decide +kernel
theorem d27_1 : decode jdk_42_method_151_code 1 = .ok (.invokespecial 1, 3) := by decide +kernel
theorem d27_4 : decode jdk_42_method_151_code 4 = .ok (.aload_n 0, 1) := by decide +kernel
theorem d27_5 : decode jdk_42_method_151_code 5 = .ok (.aload_n 1, 1) := by decide +kernel
theorem d27_6 : decode jdk_42_method_151_code 6 = .ok (.putfield 9, 3) := by decide +kernel
theorem d27_9 : decode jdk_42_method_151_code 9 = .ok (.aload_n 0, 1) := by decide +kernel
theorem d27_10 : decode jdk_42_method_151_code 10 = .ok (.iload_n 2, 1) := by decide +kernel
theorem d27_11 : decode jdk_42_method_151_code 11 = .ok (.putfield 15, 3) := by decide +kernel
theorem d27_14 : decode jdk_42_method_151_code 14 = .ok (.return_, 1) := by decide +kernel
theorem d24_0 : decode jdk_42_method_139_code 0 = .ok (.getstatic 38, 3) := by decide +kernel
theorem d24_3 : decode jdk_42_method_139_code 3 = .ok (.ifCond .eq 23, 3) := by decide +kernel
theorem d24_6 : decode jdk_42_method_139_code 6 = .ok (.iload_n 0, 1) := by decide +kernel
theorem d24_7 : decode jdk_42_method_139_code 7 = .ok (.invokestatic 1015, 3) := by decide +kernel
theorem pd_11 : parseMethodDescriptor "(C)Z" = some ⟨[.char], some .boolean⟩ := by decide +kernel
theorem d24_10 : decode jdk_42_method_139_code 10 = .ok (.ifCond .eq 16, 3) := by decide +kernel
theorem d24_13 : decode jdk_42_method_139_code 13 = .ok (.new 10, 3) := by decide +kernel
theorem d24_16 : decode jdk_42_method_139_code 16 = .ok (.dup, 1) := by decide +kernel
theorem d24_17 : decode jdk_42_method_139_code 17 = .ok (.iload_n 0, 1) := by decide +kernel
theorem d24_18 : decode jdk_42_method_139_code 18 = .ok (.invokestatic 1018, 3) := by decide +kernel
theorem pd_12 : parseMethodDescriptor "(C)[B" = some ⟨[.char], some (.array .byte)⟩ := by decide +kernel
theorem d24_21 : decode jdk_42_method_139_code 21 = .ok (.iconst 0, 1) := by decide +kernel
theorem d24_22 : decode jdk_42_method_139_code 22 = .ok (.invokespecial 209, 3) := by decide +kernel
theorem pd_13 : parseMethodDescriptor "([BB)V" = some ⟨[(.array .byte), .byte], none⟩ := by decide +kernel
theorem d24_25 : decode jdk_42_method_139_code 25 = .ok (.areturn, 1) := by decide +kernel
theorem d24_26 : decode jdk_42_method_139_code 26 = .ok (.new 10, 3) := by decide +kernel
theorem d24_29 : decode jdk_42_method_139_code 29 = .ok (.dup, 1) := by decide +kernel
theorem d24_30 : decode jdk_42_method_139_code 30 = .ok (.iload_n 0, 1) := by decide +kernel
theorem d24_31 : decode jdk_42_method_139_code 31 = .ok (.invokestatic 1021, 3) := by decide +kernel
theorem d24_34 : decode jdk_42_method_139_code 34 = .ok (.iconst 1, 1) := by decide +kernel
theorem d24_35 : decode jdk_42_method_139_code 35 = .ok (.invokespecial 209, 3) := by decide +kernel
theorem d24_38 : decode jdk_42_method_139_code 38 = .ok (.areturn, 1) := by decide +kernel
theorem d16_0 : decode jdk_42_method_154_code 0 = .ok (.getstatic 38, 3) := by decide +kernel
theorem d16_3 : decode jdk_42_method_154_code 3 = .ok (.ifCond .eq 14, 3) := by decide +kernel
theorem d16_6 : decode jdk_42_method_154_code 6 = .ok (.aload_n 0, 1) := by decide +kernel
theorem d16_7 : decode jdk_42_method_154_code 7 = .ok (.getfield 15, 3) := by decide +kernel
theorem d16_10 : decode jdk_42_method_154_code 10 = .ok (.ifCond .ne 7, 3) := by decide +kernel
theorem d16_13 : decode jdk_42_method_154_code 13 = .ok (.iconst 1, 1) := by decide +kernel
theorem d16_14 : decode jdk_42_method_154_code 14 = .ok (.goto 4, 3) := by decide +kernel
theorem d16_18 : decode jdk_42_method_154_code 18 = .ok (.ireturn, 1) := by decide +kernel
theorem d16_17 : decode jdk_42_method_154_code 17 = .ok (.iconst 0, 1) := by decide +kernel
theorem d18_0 : decode jdk_42_method_152_code 0 = .ok (.getstatic 38, 3) := by decide +kernel
theorem d18_3 : decode jdk_42_method_152_code 3 = .ok (.ifCond .eq 10, 3) := by decide +kernel
theorem d18_6 : decode jdk_42_method_152_code 6 = .ok (.aload_n 0, 1) := by decide +kernel
theorem d18_7 : decode jdk_42_method_152_code 7 = .ok (.getfield 15, 3) := by decide +kernel
theorem d18_10 : decode jdk_42_method_152_code 10 = .ok (.goto 4, 3) := by decide +kernel
theorem d18_14 : decode jdk_42_method_152_code 14 = .ok (.ireturn, 1) := by decide +kernel
theorem d17_0 : decode jdk_42_method_54_code 0 = .ok (.aload_n 0, 1) := by decide +kernel
theorem d17_1 : decode jdk_42_method_54_code 1 = .ok (.getfield 9, 3) := by decide +kernel
theorem d17_4 : decode jdk_42_method_54_code 4 = .ok (.arraylength, 1) := by decide +kernel
theorem d17_5 : decode jdk_42_method_54_code 5 = .ok (.aload_n 0, 1) := by decide +kernel
theorem d17_6 : decode jdk_42_method_54_code 6 = .ok (.invokevirtual 335, 3) := by decide +kernel
theorem pd_14 : parseMethodDescriptor "()B" = some ⟨[], some .byte⟩ := by decide +kernel
theorem d17_9 : decode jdk_42_method_54_code 9 = .ok (.ishr, 1) := by decide +kernel
theorem d17_10 : decode jdk_42_method_54_code 10 = .ok (.ireturn, 1) := by decide +kernel
theorem d20_0 : decode jdk_43_method_4_code 0 = .ok (.iload_n 0, 1) := by decide +kernel
theorem d20_1 : decode jdk_43_method_4_code 1 = .ok (.ifCond .lt 14, 3) := by decide +kernel
theorem d20_4 : decode jdk_43_method_4_code 4 = .ok (.iload_n 0, 1) := by decide +kernel
theorem d20_5 : decode jdk_43_method_4_code 5 = .ok (.sipush 255, 3) := by decide +kernel
theorem d20_8 : decode jdk_43_method_4_code 8 = .ok (.if_icmp .gt 7, 3) := by decide +kernel
theorem d20_11 : decode jdk_43_method_4_code 11 = .ok (.iconst 1, 1) := by decide +kernel
theorem d20_12 : decode jdk_43_method_4_code 12 = .ok (.goto 4, 3) := by decide +kernel
theorem d20_16 : decode jdk_43_method_4_code 16 = .ok (.ireturn, 1) := by decide +kernel
theorem d21_0 : decode jdk_29_method_65_code 0 = .ok (.iload_n 0, 1) := by decide +kernel
theorem d21_1 : decode jdk_29_method_65_code 1 = .ok (.iload_n 1, 1) := by decide +kernel
theorem d21_2 : decode jdk_29_method_65_code 2 = .ok (.if_icmp .lt 7, 3) := by decide +kernel
theorem d21_5 : decode jdk_29_method_65_code 5 = .ok (.iload_n 0, 1) := by decide +kernel
theorem d21_6 : decode jdk_29_method_65_code 6 = .ok (.goto 4, 3) := by decide +kernel
theorem d21_10 : decode jdk_29_method_65_code 10 = .ok (.ireturn, 1) := by decide +kernel
theorem d22_0 : decode jdk_29_method_69_code 0 = .ok (.iload_n 0, 1) := by decide +kernel
theorem d22_1 : decode jdk_29_method_69_code 1 = .ok (.iload_n 1, 1) := by decide +kernel
theorem d22_2 : decode jdk_29_method_69_code 2 = .ok (.if_icmp .gt 7, 3) := by decide +kernel
theorem d22_5 : decode jdk_29_method_69_code 5 = .ok (.iload_n 0, 1) := by decide +kernel
theorem d22_6 : decode jdk_29_method_69_code 6 = .ok (.goto 4, 3) := by decide +kernel
theorem d22_10 : decode jdk_29_method_69_code 10 = .ok (.ireturn, 1) := by decide +kernel
theorem pn_15 : plainName "jdk/internal/util/Preconditions" = true := by first | (simp [plainName, overriddenIn]; done) | decide +kernel
theorem d38_0 : decode jdk_41_method_12_code 0 = .ok (.iload_n 0, 1) := by decide +kernel
theorem d38_1 : decode jdk_41_method_12_code 1 = .ok (.ifCond .lt 13, 3) := by decide +kernel
theorem d38_4 : decode jdk_41_method_12_code 4 = .ok (.iload_n 0, 1) := by decide +kernel
theorem d38_5 : decode jdk_41_method_12_code 5 = .ok (.iload_n 1, 1) := by decide +kernel
theorem d38_6 : decode jdk_41_method_12_code 6 = .ok (.if_icmp .gt 8, 3) := by decide +kernel
theorem d38_9 : decode jdk_41_method_12_code 9 = .ok (.iload_n 1, 1) := by decide +kernel
theorem d38_10 : decode jdk_41_method_12_code 10 = .ok (.iload_n 2, 1) := by decide +kernel
theorem d38_11 : decode jdk_41_method_12_code 11 = .ok (.if_icmp .le 11, 3) := by decide +kernel
theorem d38_22 : decode jdk_41_method_12_code 22 = .ok (.iload_n 0, 1) := by decide +kernel
theorem d38_23 : decode jdk_41_method_12_code 23 = .ok (.ireturn, 1) := by decide +kernel
theorem d37_0 : decode jdk_42_method_158_code 0 = .ok (.iload_n 0, 1) := by decide +kernel
theorem d37_1 : decode jdk_42_method_158_code 1 = .ok (.iload_n 1, 1) := by decide +kernel
theorem d37_2 : decode jdk_42_method_158_code 2 = .ok (.iload_n 2, 1) := by decide +kernel
theorem d37_3 : decode jdk_42_method_158_code 3 = .ok (.getstatic 1053, 3) := by decide +kernel
theorem d37_6 : decode jdk_42_method_158_code 6 = .ok (.invokestatic 1062, 3) := by decide +kernel
theorem pd_16 : parseMethodDescriptor "(IIILjava/util/function/BiFunction;)I" = some ⟨[.int, .int, .int, (.object "java/util/function/BiFunction")], some .int⟩ := by decide +kernel
theorem d37_9 : decode jdk_42_method_158_code 9 = .ok (.pop, 1) := by decide +kernel
theorem d37_10 : decode jdk_42_method_158_code 10 = .ok (.return_, 1) := by decide +kernel
theorem d36_0 : decode jdk_52_method_6_code 0 = .ok (.aload_n 0, 1) := by decide +kernel
theorem d36_1 : decode jdk_52_method_6_code 1 = .ok (.arraylength, 1) := by decide +kernel
theorem d36_2 : decode jdk_52_method_6_code 2 = .ok (.iconst 1, 1) := by decide +kernel
theorem d36_3 : decode jdk_52_method_6_code 3 = .ok (.ishr, 1) := by decide +kernel
theorem d36_4 : decode jdk_52_method_6_code 4 = .ok (.ireturn, 1) := by decide +kernel
theorem d23_0 : decode jdk_43_method_23_code 0 = .ok (.iload_n 1, 1) := by decide +kernel
theorem d23_1 : decode jdk_43_method_23_code 1 = .ok (.i2b, 1) := by decide +kernel
theorem d23_2 : decode jdk_43_method_23_code 2 = .ok (.istore 4, 2) := by decide +kernel
theorem d23_4 : decode jdk_43_method_23_code 4 = .ok (.iload_n 2, 1) := by decide +kernel
theorem d23_5 : decode jdk_43_method_23_code 5 = .ok (.istore 5, 2) := by decide +kernel
theorem d23_7 : decode jdk_43_method_23_code 7 = .ok (.iload 5, 2) := by decide +kernel
theorem d23_9 : decode jdk_43_method_23_code 9 = .ok (.iload_n 3, 1) := by decide +kernel
theorem d23_10 : decode jdk_43_method_23_code 10 = .ok (.if_icmp .ge 21, 3) := by decide +kernel
theorem d23_13 : decode jdk_43_method_23_code 13 = .ok (.aload_n 0, 1) := by decide +kernel
theorem d23_14 : decode jdk_43_method_23_code 14 = .ok (.iload 5, 2) := by decide +kernel
theorem d23_16 : decode jdk_43_method_23_code 16 = .ok (.baload, 1) := by decide +kernel
theorem d23_17 : decode jdk_43_method_23_code 17 = .ok (.iload 4, 2) := by decide +kernel
theorem d23_19 : decode jdk_43_method_23_code 19 = .ok (.if_icmp .ne 6, 3) := by decide +kernel
theorem d23_22 : decode jdk_43_method_23_code 22 = .ok (.iload 5, 2) := by decide +kernel
theorem d23_24 : decode jdk_43_method_23_code 24 = .ok (.ireturn, 1) := by decide +kernel
theorem d23_25 : decode jdk_43_method_23_code 25 = .ok (.iinc 5 1, 3) := by decide +kernel
theorem d23_28 : decode jdk_43_method_23_code 28 = .ok (.goto (-21), 3) := by decide +kernel
theorem d23_31 : decode jdk_43_method_23_code 31 = .ok (.iconst (-1), 1) := by decide +kernel
theorem d23_32 : decode jdk_43_method_23_code 32 = .ok (.ireturn, 1) := by decide +kernel
theorem d39_0 : decode jdk_52_method_48_code 0 = .ok (.iload_n 2, 1) := by decide +kernel
theorem d39_1 : decode jdk_52_method_48_code 1 = .ok (.istore 4, 2) := by decide +kernel
theorem d39_3 : decode jdk_52_method_48_code 3 = .ok (.iload 4, 2) := by decide +kernel
theorem d39_5 : decode jdk_52_method_48_code 5 = .ok (.iload_n 3, 1) := by decide +kernel
theorem d39_6 : decode jdk_52_method_48_code 6 = .ok (.if_icmp .ge 22, 3) := by decide +kernel
theorem d39_9 : decode jdk_52_method_48_code 9 = .ok (.aload_n 0, 1) := by decide +kernel
theorem d39_10 : decode jdk_52_method_48_code 10 = .ok (.iload 4, 2) := by decide +kernel
theorem d39_12 : decode jdk_52_method_48_code 12 = .ok (.invokestatic 71, 3) := by decide +kernel
theorem d39_15 : decode jdk_52_method_48_code 15 = .ok (.iload_n 1, 1) := by decide +kernel
theorem d39_16 : decode jdk_52_method_48_code 16 = .ok (.if_icmp .ne 6, 3) := by decide +kernel
theorem d39_19 : decode jdk_52_method_48_code 19 = .ok (.iload 4, 2) := by decide +kernel
theorem d39_21 : decode jdk_52_method_48_code 21 = .ok (.ireturn, 1) := by decide +kernel
theorem d39_22 : decode jdk_52_method_48_code 22 = .ok (.iinc 4 1, 3) := by decide +kernel
theorem d39_25 : decode jdk_52_method_48_code 25 = .ok (.goto (-22), 3) := by decide +kernel
theorem d39_28 : decode jdk_52_method_48_code 28 = .ok (.iconst (-1), 1) := by decide +kernel
theorem d39_29 : decode jdk_52_method_48_code 29 = .ok (.ireturn, 1) := by decide +kernel
theorem d35_0 : decode jdk_52_method_93_code 0 = .ok (.iload_n 0, 1) := by decide +kernel
theorem d35_1 : decode jdk_52_method_93_code 1 = .ok (.iload_n 1, 1) := by decide +kernel
theorem d35_2 : decode jdk_52_method_93_code 2 = .ok (.aload_n 2, 1) := by decide +kernel
theorem d35_3 : decode jdk_52_method_93_code 3 = .ok (.invokestatic 48, 3) := by decide +kernel
theorem pd_17 : parseMethodDescriptor "([B)I" = some ⟨[(.array .byte)], some .int⟩ := by decide +kernel
theorem d35_6 : decode jdk_52_method_93_code 6 = .ok (.invokestatic 241, 3) := by decide +kernel
theorem pd_18 : parseMethodDescriptor "(III)V" = some ⟨[.int, .int, .int], none⟩ := by decide +kernel
theorem d35_9 : decode jdk_52_method_93_code 9 = .ok (.return_, 1) := by decide +kernel
theorem d19_0 : decode jdk_43_method_22_code 0 = .ok (.iload_n 1, 1) := by decide +kernel
theorem d19_1 : decode jdk_43_method_22_code 1 = .ok (.invokestatic 88, 3) := by decide +kernel
theorem pd_19 : parseMethodDescriptor "(I)Z" = some ⟨[.int], some .boolean⟩ := by decide +kernel
theorem d19_4 : decode jdk_43_method_22_code 4 = .ok (.ifCond .ne 5, 3) := by decide +kernel
theorem d19_9 : decode jdk_43_method_22_code 9 = .ok (.iload_n 2, 1) := by decide +kernel
theorem d19_10 : decode jdk_43_method_22_code 10 = .ok (.iconst 0, 1) := by decide +kernel
theorem d19_11 : decode jdk_43_method_22_code 11 = .ok (.invokestatic 92, 3) := by decide +kernel
theorem pd_20 : parseMethodDescriptor "(II)I" = some ⟨[.int, .int], some .int⟩ := by decide +kernel
theorem d19_14 : decode jdk_43_method_22_code 14 = .ok (.istore_n 2, 1) := by decide +kernel
theorem d19_15 : decode jdk_43_method_22_code 15 = .ok (.iload_n 3, 1) := by decide +kernel
theorem d19_16 : decode jdk_43_method_22_code 16 = .ok (.aload_n 0, 1) := by decide +kernel
theorem d19_17 : decode jdk_43_method_22_code 17 = .ok (.arraylength, 1) := by decide +kernel
theorem d19_18 : decode jdk_43_method_22_code 18 = .ok (.invokestatic 38, 3) := by decide +kernel
theorem d19_21 : decode jdk_43_method_22_code 21 = .ok (.istore_n 3, 1) := by decide +kernel
theorem d19_22 : decode jdk_43_method_22_code 22 = .ok (.iload_n 2, 1) := by decide +kernel
theorem d19_23 : decode jdk_43_method_22_code 23 = .ok (.iload_n 3, 1) := by decide +kernel
theorem d19_24 : decode jdk_43_method_22_code 24 = .ok (.if_icmp .lt 5, 3) := by decide +kernel
theorem d19_29 : decode jdk_43_method_22_code 29 = .ok (.aload_n 0, 1) := by decide +kernel
theorem d19_30 : decode jdk_43_method_22_code 30 = .ok (.iload_n 1, 1) := by decide +kernel
theorem d19_31 : decode jdk_43_method_22_code 31 = .ok (.iload_n 2, 1) := by decide +kernel
theorem d19_32 : decode jdk_43_method_22_code 32 = .ok (.iload_n 3, 1) := by decide +kernel
theorem d19_33 : decode jdk_43_method_22_code 33 = .ok (.invokestatic 95, 3) := by decide +kernel
theorem pd_21 : parseMethodDescriptor "([BIII)I" = some ⟨[(.array .byte), .int, .int, .int], some .int⟩ := by decide +kernel
theorem d19_36 : decode jdk_43_method_22_code 36 = .ok (.ireturn, 1) := by decide +kernel
theorem d34_0 : decode jdk_52_method_47_code 0 = .ok (.iload_n 2, 1) := by decide +kernel
theorem d34_1 : decode jdk_52_method_47_code 1 = .ok (.iload_n 3, 1) := by decide +kernel
theorem d34_2 : decode jdk_52_method_47_code 2 = .ok (.aload_n 0, 1) := by decide +kernel
theorem d34_3 : decode jdk_52_method_47_code 3 = .ok (.invokestatic 96, 3) := by decide +kernel
theorem pd_22 : parseMethodDescriptor "(II[B)V" = some ⟨[.int, .int, (.array .byte)], none⟩ := by decide +kernel
theorem d34_6 : decode jdk_52_method_47_code 6 = .ok (.aload_n 0, 1) := by decide +kernel
theorem d34_7 : decode jdk_52_method_47_code 7 = .ok (.iload_n 1, 1) := by decide +kernel
theorem d34_8 : decode jdk_52_method_47_code 8 = .ok (.iload_n 2, 1) := by decide +kernel
theorem d34_9 : decode jdk_52_method_47_code 9 = .ok (.iload_n 3, 1) := by decide +kernel
theorem d34_10 : decode jdk_52_method_47_code 10 = .ok (.invokestatic 244, 3) := by decide +kernel
theorem d34_13 : decode jdk_52_method_47_code 13 = .ok (.ireturn, 1) := by decide +kernel
theorem d33_0 : decode jdk_52_method_40_code 0 = .ok (.iload_n 2, 1) := by decide +kernel
theorem d33_1 : decode jdk_52_method_40_code 1 = .ok (.iconst 0, 1) := by decide +kernel
theorem d33_2 : decode jdk_52_method_40_code 2 = .ok (.invokestatic 224, 3) := by decide +kernel
theorem d33_5 : decode jdk_52_method_40_code 5 = .ok (.istore_n 2, 1) := by decide +kernel
theorem d33_6 : decode jdk_52_method_40_code 6 = .ok (.iload_n 3, 1) := by decide +kernel
theorem d33_7 : decode jdk_52_method_40_code 7 = .ok (.aload_n 0, 1) := by decide +kernel
theorem d33_8 : decode jdk_52_method_40_code 8 = .ok (.arraylength, 1) := by decide +kernel
theorem d33_9 : decode jdk_52_method_40_code 9 = .ok (.iconst 1, 1) := by decide +kernel
theorem d33_10 : decode jdk_52_method_40_code 10 = .ok (.ishr, 1) := by decide +kernel
theorem d33_11 : decode jdk_52_method_40_code 11 = .ok (.invokestatic 183, 3) := by decide +kernel
theorem d33_14 : decode jdk_52_method_40_code 14 = .ok (.istore_n 3, 1) := by decide +kernel
theorem d33_15 : decode jdk_52_method_40_code 15 = .ok (.iload_n 2, 1) := by decide +kernel
theorem d33_16 : decode jdk_52_method_40_code 16 = .ok (.iload_n 3, 1) := by decide +kernel
theorem d33_17 : decode jdk_52_method_40_code 17 = .ok (.if_icmp .lt 5, 3) := by decide +kernel
theorem d33_22 : decode jdk_52_method_40_code 22 = .ok (.iload_n 1, 1) := by decide +kernel
theorem d33_23 : decode jdk_52_method_40_code 23 = .ok (.ldc 227, 2) := by decide +kernel
theorem d33_25 : decode jdk_52_method_40_code 25 = .ok (.if_icmp .ge 11, 3) := by decide +kernel
theorem d33_28 : decode jdk_52_method_40_code 28 = .ok (.aload_n 0, 1) := by decide +kernel
theorem d33_29 : decode jdk_52_method_40_code 29 = .ok (.iload_n 1, 1) := by decide +kernel
theorem d33_30 : decode jdk_52_method_40_code 30 = .ok (.iload_n 2, 1) := by decide +kernel
theorem d33_31 : decode jdk_52_method_40_code 31 = .ok (.iload_n 3, 1) := by decide +kernel
theorem d33_32 : decode jdk_52_method_40_code 32 = .ok (.invokestatic 228, 3) := by decide +kernel
theorem d33_35 : decode jdk_52_method_40_code 35 = .ok (.ireturn, 1) := by decide +kernel
theorem d15_0 : decode jdk_42_method_80_code 0 = .ok (.aload_n 0, 1) := by decide +kernel
theorem d15_1 : decode jdk_42_method_80_code 1 = .ok (.invokevirtual 492, 3) := by decide +kernel
theorem pd_23 : parseMethodDescriptor "()Z" = some ⟨[], some .boolean⟩ := by decide +kernel
theorem d15_4 : decode jdk_42_method_80_code 4 = .ok (.ifCond .eq 19, 3) := by decide +kernel
theorem d15_7 : decode jdk_42_method_80_code 7 = .ok (.aload_n 0, 1) := by decide +kernel
theorem d15_8 : decode jdk_42_method_80_code 8 = .ok (.getfield 9, 3) := by decide +kernel
theorem d15_11 : decode jdk_42_method_80_code 11 = .ok (.iload_n 1, 1) := by decide +kernel
theorem d15_12 : decode jdk_42_method_80_code 12 = .ok (.iload_n 2, 1) := by decide +kernel
theorem d15_13 : decode jdk_42_method_80_code 13 = .ok (.aload_n 0, 1) := by decide +kernel
theorem d15_14 : decode jdk_42_method_80_code 14 = .ok (.invokevirtual 505, 3) := by decide +kernel
theorem pd_24 : parseMethodDescriptor "()I" = some ⟨[], some .int⟩ := by decide +kernel
theorem d15_17 : decode jdk_42_method_80_code 17 = .ok (.invokestatic 637, 3) := by decide +kernel
theorem d15_20 : decode jdk_42_method_80_code 20 = .ok (.goto 16, 3) := by decide +kernel
theorem d15_36 : decode jdk_42_method_80_code 36 = .ok (.ireturn, 1) := by decide +kernel
theorem d15_23 : decode jdk_42_method_80_code 23 = .ok (.aload_n 0, 1) := by decide +kernel
theorem d15_24 : decode jdk_42_method_80_code 24 = .ok (.getfield 9, 3) := by decide +kernel
theorem d15_27 : decode jdk_42_method_80_code 27 = .ok (.iload_n 1, 1) := by decide +kernel
theorem d15_28 : decode jdk_42_method_80_code 28 = .ok (.iload_n 2, 1) := by decide +kernel
theorem d15_29 : decode jdk_42_method_80_code 29 = .ok (.aload_n 0, 1) := by decide +kernel
theorem d15_30 : decode jdk_42_method_80_code 30 = .ok (.invokevirtual 505, 3) := by decide +kernel
theorem d15_33 : decode jdk_42_method_80_code 33 = .ok (.invokestatic 640, 3) := by decide +kernel
theorem d14_0 : decode jdk_42_method_79_code 0 = .ok (.aload_n 0, 1) := by decide +kernel
theorem d14_1 : decode jdk_42_method_79_code 1 = .ok (.iload_n 1, 1) := by decide +kernel
theorem d14_2 : decode jdk_42_method_79_code 2 = .ok (.iconst 0, 1) := by decide +kernel
theorem d14_3 : decode jdk_42_method_79_code 3 = .ok (.invokevirtual 633, 3) := by decide +kernel
theorem d14_6 : decode jdk_42_method_79_code 6 = .ok (.ireturn, 1) := by decide +kernel
theorem d7_0 : decode jdk_42_method_55_code 0 = .ok (.aload_n 0, 1) := by decide +kernel
theorem d7_1 : decode jdk_42_method_55_code 1 = .ok (.getfield 9, 3) := by decide +kernel
theorem d7_4 : decode jdk_42_method_55_code 4 = .ok (.arraylength, 1) := by decide +kernel
theorem d7_5 : decode jdk_42_method_55_code 5 = .ok (.ifCond .ne 7, 3) := by decide +kernel
theorem d7_8 : decode jdk_42_method_55_code 8 = .ok (.iconst 1, 1) := by decide +kernel
theorem d7_9 : decode jdk_42_method_55_code 9 = .ok (.goto 4, 3) := by decide +kernel
theorem d7_13 : decode jdk_42_method_55_code 13 = .ok (.ireturn, 1) := by decide +kernel
theorem d7_12 : decode jdk_42_method_55_code 12 = .ok (.iconst 0, 1) := by decide +kernel
theorem pn_25 : plainName "com/example/hebelwerk/hebelwerk/model/PublishedFolderIsIdPinLaw" = true := by first | (simp [plainName, overriddenIn]; done) | decide +kernel
theorem d1_0 : decode method_3_code 0 = .ok (.iload_n 0, 1) := by decide +kernel
theorem d1_1 : decode method_3_code 1 = .ok (.iconst 3, 1) := by decide +kernel
theorem d1_2 : decode method_3_code 2 = .ok (.iand, 1) := by decide +kernel
theorem d1_3 : decode method_3_code 3 = .ok (.istore_n 1, 1) := by decide +kernel
theorem d1_4 : decode method_3_code 4 = .ok (.iload_n 1, 1) := by decide +kernel
theorem d1_5 : decode method_3_code 5 = .ok (.ifCond .ne 6, 3) := by decide +kernel
theorem d1_8 : decode method_3_code 8 = .ok (.bipush 46, 2) := by decide +kernel
theorem d1_10 : decode method_3_code 10 = .ok (.ireturn, 1) := by decide +kernel
theorem d1_11 : decode method_3_code 11 = .ok (.iload_n 1, 1) := by decide +kernel
theorem d1_12 : decode method_3_code 12 = .ok (.iconst 1, 1) := by decide +kernel
theorem d1_13 : decode method_3_code 13 = .ok (.if_icmp .ne 6, 3) := by decide +kernel
theorem d1_16 : decode method_3_code 16 = .ok (.bipush 47, 2) := by decide +kernel
theorem d1_18 : decode method_3_code 18 = .ok (.ireturn, 1) := by decide +kernel
theorem d1_19 : decode method_3_code 19 = .ok (.iload_n 1, 1) := by decide +kernel
theorem d1_20 : decode method_3_code 20 = .ok (.iconst 2, 1) := by decide +kernel
theorem d1_21 : decode method_3_code 21 = .ok (.if_icmp .ne 5, 3) := by decide +kernel
theorem d1_24 : decode method_3_code 24 = .ok (.iconst 0, 1) := by decide +kernel
theorem d1_25 : decode method_3_code 25 = .ok (.ireturn, 1) := by decide +kernel
theorem d1_26 : decode method_3_code 26 = .ok (.iload_n 0, 1) := by decide +kernel
theorem d1_27 : decode method_3_code 27 = .ok (.iconst 2, 1) := by decide +kernel
theorem d1_28 : decode method_3_code 28 = .ok (.iushr, 1) := by decide +kernel
theorem d1_29 : decode method_3_code 29 = .ok (.ldc 28, 2) := by decide +kernel
theorem d1_31 : decode method_3_code 31 = .ok (.iand, 1) := by decide +kernel
theorem d1_32 : decode method_3_code 32 = .ok (.i2c, 1) := by decide +kernel
theorem d1_33 : decode method_3_code 33 = .ok (.ireturn, 1) := by decide +kernel
theorem d11_0 : decode method_4_code 0 = .ok (.iload_n 0, 1) := by decide +kernel
theorem d11_1 : decode method_4_code 1 = .ok (.bipush 47, 2) := by decide +kernel
theorem d11_3 : decode method_4_code 3 = .ok (.if_icmp .eq 7, 3) := by decide +kernel
theorem d11_10 : decode method_4_code 10 = .ok (.iconst 1, 1) := by decide +kernel
theorem d11_11 : decode method_4_code 11 = .ok (.goto 4, 3) := by decide +kernel
theorem d11_15 : decode method_4_code 15 = .ok (.ireturn, 1) := by decide +kernel
theorem d11_6 : decode method_4_code 6 = .ok (.iload_n 0, 1) := by decide +kernel
theorem d11_7 : decode method_4_code 7 = .ok (.ifCond .ne 7, 3) := by decide +kernel
theorem d11_14 : decode method_4_code 14 = .ok (.iconst 0, 1) := by decide +kernel
theorem d2_0 : decode method_5_code 0 = .ok (.iload_n 0, 1) := by decide +kernel
theorem d2_1 : decode method_5_code 1 = .ok (.ifCond .ne 14, 3) := by decide +kernel
theorem d2_4 : decode method_5_code 4 = .ok (.new 29, 3) := by decide +kernel
theorem d2_7 : decode method_5_code 7 = .ok (.dup, 1) := by decide +kernel
theorem d2_8 : decode method_5_code 8 = .ok (.iconst 0, 1) := by decide +kernel
theorem d2_9 : decode method_5_code 9 = .ok (.newarray .char, 2) := by decide +kernel
theorem d2_11 : decode method_5_code 11 = .ok (.invokespecial 31, 3) := by decide +kernel
theorem pd_26 : parseMethodDescriptor "([C)V" = some ⟨[(.array .char)], none⟩ := by decide +kernel
theorem d2_14 : decode method_5_code 14 = .ok (.areturn, 1) := by decide +kernel
theorem d2_15 : decode method_5_code 15 = .ok (.iload_n 0, 1) := by decide +kernel
theorem d2_16 : decode method_5_code 16 = .ok (.iconst 1, 1) := by decide +kernel
theorem d2_17 : decode method_5_code 17 = .ok (.if_icmp .ne 8, 3) := by decide +kernel
theorem d2_20 : decode method_5_code 20 = .ok (.iload_n 1, 1) := by decide +kernel
theorem d2_21 : decode method_5_code 21 = .ok (.invokestatic 34, 3) := by decide +kernel
theorem pd_27 : parseMethodDescriptor "(C)Ljava/lang/String;" = some ⟨[.char], some (.object "java/lang/String")⟩ := by decide +kernel
theorem d2_24 : decode method_5_code 24 = .ok (.areturn, 1) := by decide +kernel
theorem d2_25 : decode method_5_code 25 = .ok (.iload_n 0, 1) := by decide +kernel
theorem d2_26 : decode method_5_code 26 = .ok (.iconst 2, 1) := by decide +kernel
theorem d2_27 : decode method_5_code 27 = .ok (.if_icmp .ne 28, 3) := by decide +kernel
theorem d2_30 : decode method_5_code 30 = .ok (.iconst 2, 1) := by decide +kernel
theorem d2_31 : decode method_5_code 31 = .ok (.newarray .char, 2) := by decide +kernel
theorem d2_33 : decode method_5_code 33 = .ok (.astore 5, 2) := by decide +kernel
theorem d2_35 : decode method_5_code 35 = .ok (.aload 5, 2) := by decide +kernel
theorem d2_37 : decode method_5_code 37 = .ok (.iconst 0, 1) := by decide +kernel
theorem d2_38 : decode method_5_code 38 = .ok (.iload_n 1, 1) := by decide +kernel
theorem d2_39 : decode method_5_code 39 = .ok (.castore, 1) := by decide +kernel
theorem d2_40 : decode method_5_code 40 = .ok (.aload 5, 2) := by decide +kernel
theorem d2_42 : decode method_5_code 42 = .ok (.iconst 1, 1) := by decide +kernel
theorem d2_43 : decode method_5_code 43 = .ok (.iload_n 2, 1) := by decide +kernel
theorem d2_44 : decode method_5_code 44 = .ok (.castore, 1) := by decide +kernel
theorem d2_45 : decode method_5_code 45 = .ok (.new 29, 3) := by decide +kernel
theorem d2_48 : decode method_5_code 48 = .ok (.dup, 1) := by decide +kernel
theorem d2_49 : decode method_5_code 49 = .ok (.aload 5, 2) := by decide +kernel
theorem d2_51 : decode method_5_code 51 = .ok (.invokespecial 31, 3) := by decide +kernel
theorem d2_54 : decode method_5_code 54 = .ok (.areturn, 1) := by decide +kernel
theorem d2_55 : decode method_5_code 55 = .ok (.iload_n 0, 1) := by decide +kernel
theorem d2_56 : decode method_5_code 56 = .ok (.iconst 3, 1) := by decide +kernel
theorem d2_57 : decode method_5_code 57 = .ok (.if_icmp .ne 33, 3) := by decide +kernel
theorem d2_60 : decode method_5_code 60 = .ok (.iconst 3, 1) := by decide +kernel
theorem d2_61 : decode method_5_code 61 = .ok (.newarray .char, 2) := by decide +kernel
theorem d2_63 : decode method_5_code 63 = .ok (.astore 5, 2) := by decide +kernel
theorem d2_65 : decode method_5_code 65 = .ok (.aload 5, 2) := by decide +kernel
theorem d2_67 : decode method_5_code 67 = .ok (.iconst 0, 1) := by decide +kernel
theorem d2_68 : decode method_5_code 68 = .ok (.iload_n 1, 1) := by decide +kernel
theorem d2_69 : decode method_5_code 69 = .ok (.castore, 1) := by decide +kernel
theorem d2_70 : decode method_5_code 70 = .ok (.aload 5, 2) := by decide +kernel
theorem d2_72 : decode method_5_code 72 = .ok (.iconst 1, 1) := by decide +kernel
theorem d2_73 : decode method_5_code 73 = .ok (.iload_n 2, 1) := by decide +kernel
theorem d2_74 : decode method_5_code 74 = .ok (.castore, 1) := by decide +kernel
theorem d2_75 : decode method_5_code 75 = .ok (.aload 5, 2) := by decide +kernel
theorem d2_77 : decode method_5_code 77 = .ok (.iconst 2, 1) := by decide +kernel
theorem d2_78 : decode method_5_code 78 = .ok (.iload_n 3, 1) := by decide +kernel
theorem d2_79 : decode method_5_code 79 = .ok (.castore, 1) := by decide +kernel
theorem d2_80 : decode method_5_code 80 = .ok (.new 29, 3) := by decide +kernel
theorem d2_83 : decode method_5_code 83 = .ok (.dup, 1) := by decide +kernel
theorem d2_84 : decode method_5_code 84 = .ok (.aload 5, 2) := by decide +kernel
theorem d2_86 : decode method_5_code 86 = .ok (.invokespecial 31, 3) := by decide +kernel
theorem d2_89 : decode method_5_code 89 = .ok (.areturn, 1) := by decide +kernel
theorem d2_90 : decode method_5_code 90 = .ok (.iconst 4, 1) := by decide +kernel
theorem d2_91 : decode method_5_code 91 = .ok (.newarray .char, 2) := by decide +kernel
theorem d2_93 : decode method_5_code 93 = .ok (.astore 5, 2) := by decide +kernel
theorem d2_95 : decode method_5_code 95 = .ok (.aload 5, 2) := by decide +kernel
theorem d2_97 : decode method_5_code 97 = .ok (.iconst 0, 1) := by decide +kernel
theorem d2_98 : decode method_5_code 98 = .ok (.iload_n 1, 1) := by decide +kernel
theorem d2_99 : decode method_5_code 99 = .ok (.castore, 1) := by decide +kernel
theorem d2_100 : decode method_5_code 100 = .ok (.aload 5, 2) := by decide +kernel
theorem d2_102 : decode method_5_code 102 = .ok (.iconst 1, 1) := by decide +kernel
theorem d2_103 : decode method_5_code 103 = .ok (.iload_n 2, 1) := by decide +kernel
theorem d2_104 : decode method_5_code 104 = .ok (.castore, 1) := by decide +kernel
theorem d2_105 : decode method_5_code 105 = .ok (.aload 5, 2) := by decide +kernel
theorem d2_107 : decode method_5_code 107 = .ok (.iconst 2, 1) := by decide +kernel
theorem d2_108 : decode method_5_code 108 = .ok (.iload_n 3, 1) := by decide +kernel
theorem d2_109 : decode method_5_code 109 = .ok (.castore, 1) := by decide +kernel
theorem d2_110 : decode method_5_code 110 = .ok (.aload 5, 2) := by decide +kernel
theorem d2_112 : decode method_5_code 112 = .ok (.iconst 3, 1) := by decide +kernel
theorem d2_113 : decode method_5_code 113 = .ok (.iload 4, 2) := by decide +kernel
theorem d2_115 : decode method_5_code 115 = .ok (.castore, 1) := by decide +kernel
theorem d2_116 : decode method_5_code 116 = .ok (.new 29, 3) := by decide +kernel
theorem d2_119 : decode method_5_code 119 = .ok (.dup, 1) := by decide +kernel
theorem d2_120 : decode method_5_code 120 = .ok (.aload 5, 2) := by decide +kernel
theorem d2_122 : decode method_5_code 122 = .ok (.invokespecial 31, 3) := by decide +kernel
theorem d2_125 : decode method_5_code 125 = .ok (.areturn, 1) := by decide +kernel
theorem pn_28 : plainName "com/example/hebelwerk/hebelwerk/model/PublishedFolder" = true := by first | (simp [plainName, overriddenIn]; done) | decide +kernel
theorem d6_0 : decode prog_32_method_7_code 0 = .ok (.aload_n 0, 1) := by decide +kernel
theorem d6_1 : decode prog_32_method_7_code 1 = .ok (.invokevirtual 41, 3) := by decide +kernel
theorem d6_4 : decode prog_32_method_7_code 4 = .ok (.ifCond .ne 42, 3) := by decide +kernel
theorem d6_46 : decode prog_32_method_7_code 46 = .ok (.iconst 0, 1) := by decide +kernel
theorem d6_47 : decode prog_32_method_7_code 47 = .ok (.ireturn, 1) := by decide +kernel
theorem d6_7 : decode prog_32_method_7_code 7 = .ok (.aload_n 0, 1) := by decide +kernel
theorem d6_8 : decode prog_32_method_7_code 8 = .ok (.ldc 47, 2) := by decide +kernel
theorem d6_10 : decode prog_32_method_7_code 10 = .ok (.invokevirtual 49, 3) := by decide +kernel
theorem pd_29 : parseMethodDescriptor "(Ljava/lang/Object;)Z" = some ⟨[(.object "java/lang/Object")], some .boolean⟩ := by decide +kernel
theorem d6_13 : decode prog_32_method_7_code 13 = .ok (.ifCond .ne 33, 3) := by decide +kernel
theorem d6_16 : decode prog_32_method_7_code 16 = .ok (.aload_n 0, 1) := by decide +kernel
theorem d6_17 : decode prog_32_method_7_code 17 = .ok (.ldc 53, 2) := by decide +kernel
theorem d6_19 : decode prog_32_method_7_code 19 = .ok (.invokevirtual 49, 3) := by decide +kernel
theorem d6_22 : decode prog_32_method_7_code 22 = .ok (.ifCond .ne 24, 3) := by decide +kernel
theorem d6_25 : decode prog_32_method_7_code 25 = .ok (.aload_n 0, 1) := by decide +kernel
theorem d6_26 : decode prog_32_method_7_code 26 = .ok (.bipush 47, 2) := by decide +kernel
theorem d6_28 : decode prog_32_method_7_code 28 = .ok (.invokevirtual 55, 3) := by decide +kernel
theorem d6_31 : decode prog_32_method_7_code 31 = .ok (.ifCond .ge 15, 3) := by decide +kernel
theorem d6_34 : decode prog_32_method_7_code 34 = .ok (.aload_n 0, 1) := by decide +kernel
theorem d6_35 : decode prog_32_method_7_code 35 = .ok (.iconst 0, 1) := by decide +kernel
theorem d6_36 : decode prog_32_method_7_code 36 = .ok (.invokevirtual 55, 3) := by decide +kernel
theorem d6_39 : decode prog_32_method_7_code 39 = .ok (.ifCond .ge 7, 3) := by decide +kernel
theorem d6_42 : decode prog_32_method_7_code 42 = .ok (.iconst 1, 1) := by decide +kernel
theorem d6_43 : decode prog_32_method_7_code 43 = .ok (.goto 4, 3) := by decide +kernel
theorem pd_30 : parseMethodDescriptor "(I)C" = some ⟨[.int], some .char⟩ := by decide +kernel
theorem pd_31 : parseMethodDescriptor "(ICCCC)Ljava/lang/String;" = some ⟨[.int, .char, .char, .char, .char], some (.object "java/lang/String")⟩ := by decide +kernel
theorem pd_32 : parseMethodDescriptor "(Ljava/lang/String;)Z" = some ⟨[(.object "java/lang/String")], some .boolean⟩ := by decide +kernel
def Q_rm_ne0 (Z : State) (xx : Addr) (bb : Addr) (gc : Int32) (h0 : Heap) (n0 : Nat) (v : Option Value) (h : Heap) (L : List Loc) : Prop := v = none ∧ Fr n0 L ∧ Keep h0 h [xx] ∧ ∃ t, own_Str Z h xx t []
theorem ef_rm_ne0 (m : MethodId) (xx : Addr) (bb : Addr) (gc : Int32) : entryFrame m #[(.ref xx), (.ref bb), (.int (0 : Int32)), (.int (0 : Int32)), .null] 6 = mkF m 0 #[.val (.ref xx), .val (.ref bb), .val (.int (0 : Int32)), .val (.int (0 : Int32)), .val .null, .unset] [] := by first | (simp [entryFrame, mkF, argsToLocals, Value.category]; done) | rfl
set_option maxRecDepth 65536 in
set_option maxHeartbeats 40000000 in
theorem rm_ne0 (l : Launch) (Z : State) (a0 : Array Value) (hw : ∀ d ∈ tables_1, d.before a0 Z = true) (ws : List Jvm.Cond) (hEL : EW Z a0 consts_1) (xx : Addr) (bb : Addr) (gc : Int32) (h0 : Heap) (n0 : Nat) (Z0 : n0 ≤ h0.size) (E_xx : Exa Z h0 xx "java/lang/String") (V_xx : Fld Z h0 xx "java/lang/String" "value" "[B" .null) (C_xx : Fld Z h0 xx "java/lang/String" "coder" "B" (.int (0 : Int32))) (g_xx : n0 ≤ xx) (O0 : Old Z n0 h0) :
    MetFree l (⟨"java/lang/String", "<init>", "([CIILjava/lang/Void;)V"⟩ : MethodName) (head1 (Jvm.Cond.code (⟨"java/lang/String", "<init>", "([CIILjava/lang/Void;)V"⟩ : MethodName) jdk_42_method_149_code 6 none :: ws) ({ frames := 1, cells := 4, slots := 8, locals := 12 } : Room)) (fun a_ U_ => a_ = #[(.ref xx), (.ref bb), (.int (0 : Int32)), (.int (0 : Int32)), .null] ∧ Z.Warmed39 U_.vm ∧ U_.heap = h0 ∧ CHv Z consts_1 U_.vm h0) (fun _ _ _ _ _ => True) (fun _ U_ o_ V_ => ∃ v_ L_, o_ = .returned v_ ∧ (Q_rm_ne0 Z xx bb gc h0 n0) v_ V_.heap L_ ∧ CHr Z consts_1 U_.vm U_.heap V_.vm V_.heap ∧ ReturnedEndW U_ o_ V_ L_ ({ frames := 1, cells := 4, slots := 8, locals := 12 } : Room).cells ({ frames := 1, cells := 4, slots := 8, locals := 12 } : Room).slots) := by
  refine MetFree.of_bodySF (plainFor_of_name pn_0) hisR ?_
  intro p e s m args below meth c s₁ Bd hml0 hP hK
  obtain ⟨rfl, hZ, hh, CH⟩ := hP
  have hx := Bd.exec
  have hby := Bd.bytes
  have hml : c.maxLocals = 6 := hml0
  have hown : s.vm.findClass "java/lang/String" = some m.cls := findClass_of_methodNamed Bd.named
  have hnm := (name_of_methodNamed Bd.named Bd.method).1
  have wS : ∀ a ∈ Bundle.stringAtoms, a.before a0 Z = true := fun d hd => hw d ((by decide +kernel : ∀ d ∈ Bundle.stringAtoms, d ∈ tables_1) d hd)
  have X0 : Stand p l e ({ frames := 1, cells := 4, slots := 8, locals := 12 } : Room) (s.setVm s.vm) m #[(.ref xx), (.ref bb), (.int (0 : Int32)), (.int (0 : Int32)), .null] below meth c s₁ [] 0 0 := Stand.of_body Bd
  have e0 : s₁.heap = h0 := by rw [← hh, Bd.state]; rfl
  have N0 := Fr.nil n0
  have K0 : Keep h0 h0 [xx] := Keep.refl _ _
  replace hZ : Z.Warmed39 (s.setVm s.vm).vm := hZ
  replace hown : (s.setVm s.vm).vm.findClass "java/lang/String" = some m.cls := hown
  have hS : s.Since s.vm h0.size := (State.WarmedH.refl s).since _
  have hk : h0.size ≤ h0.size := Nat.le_refl _
  have CR : CHr Z consts_1 s.vm h0 s.vm h0 := CHr.refl CH
  show own_Fin p.tables e below (own_PostW Z consts_1 (Q_rm_ne0 Z xx bb gc h0 n0) ({ frames := 1, cells := 4, slots := 8, locals := 12 } : Room).cells ({ frames := 1, cells := 4, slots := 8, locals := 12 } : Room).slots below s) _
  refine own_go (fun _ q => castTop (ef_rm_ne0 m xx bb gc) q) ?_
  have S_xx := own_safe_null (EL := consts_1) hZ.alike E_xx V_xx
  refine own_go (fun _ q => XS.aloadN X0.here hx rfl (hb hby d4_0) rfl rfl q) ?_
  show own_Fin _ _ _ _ (s₁.setTop (mkF m 1 #[.val (.ref xx), .val (.ref bb), .val (.int (0 : Int32)), .val (.int (0 : Int32)), .val .null, .unset] [(.ref xx)]))
  obtain ⟨T1, X1, e1, st1⟩ := initO X0 hx hZ hown (own_w hw 20 rfl) (own_w hw 21 rfl) (own_w hw 22 rfl) e0 (g := (mkF m 1 #[.val (.ref xx), .val (.ref bb), .val (.int (0 : Int32)), .val (.int (0 : Int32)), .val .null, .unset] [(.ref xx)])) rfl (by rw [hml]; rfl) rfl (hb hby d4_1) (by decide) (W := 0) (by show 2 * 0 + _ ≤ _; exact Nat.le_of_eq rfl) (by decide)
  refine own_go st1 ?_
  refine own_go (fun _ q => XS.iloadN X1.here hx rfl (hb hby d4_4) rfl q) ?_
  show own_Fin _ _ _ _ (T1.setTop (mkF m 5 #[.val (.ref xx), .val (.ref bb), .val (.int (0 : Int32)), .val (.int (0 : Int32)), .val .null, .unset] [(.int (0 : Int32))]))
  refine own_go (fun _ q => XS.ifNo X1.here hx rfl (hb hby d4_5) rfl ((if0 _ _).trans (teq (by decide : (0 : Int32) = (0 : Int32))).2) q) ?_
  refine own_go (fun _ q => XS.aloadN X1.here hx rfl (hb hby d4_8) rfl rfl q) ?_
  show own_Fin _ _ _ _ (T1.setTop (mkF m 9 #[.val (.ref xx), .val (.ref bb), .val (.int (0 : Int32)), .val (.int (0 : Int32)), .val .null, .unset] [(.ref xx)]))
  obtain ⟨a2, T2, h2, k2, tb2, kb2, X2, e2, E2, hS, hk, hZ, hown, EA2, FC2, FV2, VB2, -, -, CR2, -, NE2, st2⟩ := ldcCH X1 hx hZ hown (own_w hw 23 rfl) wS e1 hS hk hEL (by decide) CH (vs := ((([] : List Int32).map (fun c => c.toInt8.toInt32)).map Value.int)) (z := (0 : Int32)) (by exact ⟨by decide, by decide⟩) (by decide) rfl (g := (mkF m 9 #[.val (.ref xx), .val (.ref bb), .val (.int (0 : Int32)), .val (.int (0 : Int32)), .val .null, .unset] [(.ref xx)])) rfl (hb hby d4_9) (n := 0) (by decide) (by decide) (by decide) (by decide)
  replace S_xx := CR2.safe E_xx.lt S_xx
  replace CR := CR.trans CR2
  replace CH := CR2.1
  replace E_xx := E_xx.ext E2
  replace V_xx := V_xx.ext E2
  replace C_xx := C_xx.ext E2
  replace O0 := O0.ext E2
  have K3 := K0.ext E2
  have ne4 : xx ≠ a2 := (NE2 _ S_xx).1
  have ne5 : xx ≠ tb2 := (NE2 _ S_xx).2
  refine own_go st2 ?_
  show own_Fin _ _ _ _ (T2.setTop (mkF m 11 #[.val (.ref xx), .val (.ref bb), .val (.int (0 : Int32)), .val (.int (0 : Int32)), .val .null, .unset] [(.ref a2), (.ref xx)]))
  obtain ⟨T6, X6, e6, st6⟩ := getF X2 hx hZ hown (host := "") (Or.inl (own_w hw 29 rfl)) Via.refl e2 FV2 (g := (mkF m 11 #[.val (.ref xx), .val (.ref bb), .val (.int (0 : Int32)), .val (.int (0 : Int32)), .val .null, .unset] [(.ref a2), (.ref xx)])) rfl rfl (hb hby d4_11)
  refine own_go st6 ?_
  show own_Fin _ _ _ _ (T6.setTop (mkF m 14 #[.val (.ref xx), .val (.ref bb), .val (.int (0 : Int32)), .val (.int (0 : Int32)), .val .null, .unset] [(.ref tb2), (.ref xx)]))
  obtain ⟨T7, h7, X7, e7, W7, st7⟩ := putF X6 hx hZ hown (host := "") (Or.inl (own_w hw 29 rfl)) Via.refl e6 V_xx E_xx (Or.inr ⟨(own_w hw 25 rfl), rfl, hnm⟩) (own_w hw 10 rfl) (ty := (.array .byte)) (by decide) rfl rfl (g := (mkF m 14 #[.val (.ref xx), .val (.ref bb), .val (.int (0 : Int32)), .val (.int (0 : Int32)), .val .null, .unset] [(.ref tb2), (.ref xx)])) rfl rfl (hb hby d4_14)
  have N7 := Fr.snoc X7 N0 g_xx
  replace V_xx := V_xx.same W7
  refine own_go st7 ?_
  have sa8 := S_xx
  replace S_xx := Safe.wr W7 sa8 CH S_xx
  replace CR := CR.trans (CHr.wr W7 sa8 CH)
  replace CH := CHv.wr W7 sa8 CH
  replace hk := Nat.le_trans hk (Keep.of_wr W7).1
  replace E_xx := E_xx.wr W7
  replace C_xx := C_xx.other W7 (Or.inr (slot_ne (Or.inr (own_w hw 26 rfl)) (Or.inr (own_w hw 25 rfl)) (by decide) (t := .byte) (t' := (.array .byte)) (by decide) (by decide)))
  replace O0 := O0.wr W7 g_xx
  replace EA2 := EA2.wr W7
  replace FC2 := FC2.other W7 (Or.inl (Ne.symm ne4))
  replace FV2 := FV2.other W7 (Or.inl (Ne.symm ne4))
  replace VB2 := VB2.other W7 (Ne.symm ne5)
  have K9 := K3.wr W7 (Or.inl (by simp))
  refine own_go (fun _ q => XS.aloadN X7.here hx rfl (hb hby d4_17) rfl rfl q) ?_
  show own_Fin _ _ _ _ (T7.setTop (mkF m 18 #[.val (.ref xx), .val (.ref bb), .val (.int (0 : Int32)), .val (.int (0 : Int32)), .val .null, .unset] [(.ref xx)]))
  obtain ⟨a10, T10, h10, k10, tb10, kb10, X10, e10, E10, hS, hk, hZ, hown, EA10, FC10, FV10, VB10, -, -, CR10, -, NE10, st10⟩ := ldcCH X7 hx hZ hown (own_w hw 23 rfl) wS e7 hS hk hEL (by decide) CH (vs := ((([] : List Int32).map (fun c => c.toInt8.toInt32)).map Value.int)) (z := (0 : Int32)) (by exact ⟨by decide, by decide⟩) (by decide) rfl (g := (mkF m 18 #[.val (.ref xx), .val (.ref bb), .val (.int (0 : Int32)), .val (.int (0 : Int32)), .val .null, .unset] [(.ref xx)])) rfl (hb hby d4_18) (n := 0) (by decide) (by decide) (by decide) (by decide)
  replace S_xx := CR10.safe E_xx.lt S_xx
  replace CR := CR.trans CR10
  replace CH := CR10.1
  replace E_xx := E_xx.ext E10
  replace V_xx := V_xx.ext E10
  replace C_xx := C_xx.ext E10
  replace O0 := O0.ext E10
  replace EA2 := EA2.ext E10
  replace FC2 := FC2.ext E10
  replace FV2 := FV2.ext E10
  replace VB2 := VB2.ext E10
  have K11 := K9.ext E10
  have ne12 : xx ≠ a10 := (NE10 _ S_xx).1
  have ne13 : xx ≠ tb10 := (NE10 _ S_xx).2
  refine own_go st10 ?_
  show own_Fin _ _ _ _ (T10.setTop (mkF m 20 #[.val (.ref xx), .val (.ref bb), .val (.int (0 : Int32)), .val (.int (0 : Int32)), .val .null, .unset] [(.ref a10), (.ref xx)]))
  obtain ⟨T14, X14, e14, st14⟩ := getF X10 hx hZ hown (host := "") (Or.inl (own_w hw 30 rfl)) Via.refl e10 FC10 (g := (mkF m 20 #[.val (.ref xx), .val (.ref bb), .val (.int (0 : Int32)), .val (.int (0 : Int32)), .val .null, .unset] [(.ref a10), (.ref xx)])) rfl rfl (hb hby d4_20)
  refine own_go st14 ?_
  show own_Fin _ _ _ _ (T14.setTop (mkF m 23 #[.val (.ref xx), .val (.ref bb), .val (.int (0 : Int32)), .val (.int (0 : Int32)), .val .null, .unset] [(.int (0 : Int32)), (.ref xx)]))
  obtain ⟨T15, h15, X15, e15, W15, st15⟩ := putFN X14 hx hZ hown (own_w hw 30 rfl) Via.refl e14 C_xx E_xx (Or.inr ⟨(own_w hw 26 rfl), rfl, hnm⟩) (own_w hw 10 rfl) (ty := .byte) (v' := .int (0 : Int32)) (by decide) rfl rfl (g := (mkF m 23 #[.val (.ref xx), .val (.ref bb), .val (.int (0 : Int32)), .val (.int (0 : Int32)), .val .null, .unset] [(.int (0 : Int32)), (.ref xx)])) rfl rfl (hb hby d4_23)
  have N15 := Fr.snoc X15 N7 g_xx
  replace C_xx := C_xx.same W15
  refine own_go st15 ?_
  have sa16 := S_xx
  replace S_xx := Safe.wr W15 sa16 CH S_xx
  replace CR := CR.trans (CHr.wr W15 sa16 CH)
  replace CH := CHv.wr W15 sa16 CH
  replace hk := Nat.le_trans hk (Keep.of_wr W15).1
  replace E_xx := E_xx.wr W15
  replace V_xx := V_xx.other W15 (Or.inr (slot_ne (Or.inr (own_w hw 25 rfl)) (Or.inr (own_w hw 26 rfl)) (by decide) (t := (.array .byte)) (t' := .byte) (by decide) (by decide)))
  replace O0 := O0.wr W15 g_xx
  replace EA2 := EA2.wr W15
  replace FC2 := FC2.other W15 (Or.inl (Ne.symm ne4))
  replace FV2 := FV2.other W15 (Or.inl (Ne.symm ne4))
  replace VB2 := VB2.other W15 (Ne.symm ne5)
  replace EA10 := EA10.wr W15
  replace FC10 := FC10.other W15 (Or.inl (Ne.symm ne12))
  replace FV10 := FV10.other W15 (Or.inl (Ne.symm ne12))
  replace VB10 := VB10.other W15 (Ne.symm ne13)
  have K17 := K11.wr W15 (Or.inl (by simp))
  show own_Fin _ _ _ _ (T15.setTop (mkF m 26 #[.val (.ref xx), .val (.ref bb), .val (.int (0 : Int32)), .val (.int (0 : Int32)), .val .null, .unset] []))
  have CRz : CHr Z consts_1 s.vm s.heap T15.vm T15.heap := by
    rw [hh, e15]
    exact CR.trans (CHv.at X15 hZ hEL CH)
  refine own_retW0 X15 hx Bd hS (show _ ≤ T15.heap.size by rw [e15]; exact hk) (hb hby d4_26) CRz ?_ (by decide) (by decide)
  show (Q_rm_ne0 Z xx bb gc h0 n0) none T15.heap _
  rw [e15]
  exact ⟨rfl, N15, K17, _, _, _, _, _, E_xx, V_xx, C_xx, VB2, StrChars.Road.codOf (n := 0) rfl (by decide), by decide, Nat.le_of_ble_eq_true rfl⟩
def Q_rm_ne (Z : State) (xx : Addr) (bb : Addr) (kb : ClassId) (gc : Int32) (h0 : Heap) (n0 : Nat) (v : Option Value) (h : Heap) (L : List Loc) : Prop := v = none ∧ Fr n0 L ∧ Keep h0 h [xx] ∧ ∃ t, own_Str Z h xx t []
theorem ef_rm_ne (m : MethodId) (xx : Addr) (bb : Addr) (gc : Int32) : entryFrame m #[(.ref xx), (.ref bb)] 2 = mkF m 0 #[.val (.ref xx), .val (.ref bb)] [] := by first | (simp [entryFrame, mkF, argsToLocals, Value.category]; done) | rfl
set_option maxRecDepth 65536 in
set_option maxHeartbeats 40000000 in
theorem rm_ne (l : Launch) (Z : State) (a0 : Array Value) (hw : ∀ d ∈ tables_1, d.before a0 Z = true) (ws : List Jvm.Cond) (hEL : EW Z a0 consts_1) (xx : Addr) (bb : Addr) (kb : ClassId) (gc : Int32) (h0 : Heap) (n0 : Nat) (Z0 : n0 ≤ h0.size) (E_xx : Exa Z h0 xx "java/lang/String") (V_xx : Fld Z h0 xx "java/lang/String" "value" "[B" .null) (C_xx : Fld Z h0 xx "java/lang/String" "coder" "B" (.int (0 : Int32))) (g_xx : n0 ≤ xx) (V_bb : Arv Z h0 bb kb .char (0 : Int32) [] (.int (0 : Int32))) (neb : bb ≠ xx) (O0 : Old Z n0 h0) :
    MetFree l (⟨"java/lang/String", "<init>", "([C)V"⟩ : MethodName) (head1 (Jvm.Cond.code (⟨"java/lang/String", "<init>", "([C)V"⟩ : MethodName) jdk_42_method_3_code 2 none :: ws) ({ frames := 2, cells := 4, slots := 8, locals := 29 } : Room)) (fun a_ U_ => a_ = #[(.ref xx), (.ref bb)] ∧ Z.Warmed39 U_.vm ∧ U_.heap = h0 ∧ CHv Z consts_1 U_.vm h0) (fun _ _ _ _ _ => True) (fun _ U_ o_ V_ => ∃ v_ L_, o_ = .returned v_ ∧ (Q_rm_ne Z xx bb kb gc h0 n0) v_ V_.heap L_ ∧ CHr Z consts_1 U_.vm U_.heap V_.vm V_.heap ∧ ReturnedEndW U_ o_ V_ L_ ({ frames := 2, cells := 4, slots := 8, locals := 29 } : Room).cells ({ frames := 2, cells := 4, slots := 8, locals := 29 } : Room).slots) := by
  refine MetFree.of_bodySF (plainFor_of_name pn_0) hisR ?_
  intro p e s m args below meth c s₁ Bd hml0 hP hK
  obtain ⟨rfl, hZ, hh, CH⟩ := hP
  have hx := Bd.exec
  have hby := Bd.bytes
  have hml : c.maxLocals = 2 := hml0
  have hown : s.vm.findClass "java/lang/String" = some m.cls := findClass_of_methodNamed Bd.named
  have hnm := (name_of_methodNamed Bd.named Bd.method).1
  have wS : ∀ a ∈ Bundle.stringAtoms, a.before a0 Z = true := fun d hd => hw d ((by decide +kernel : ∀ d ∈ Bundle.stringAtoms, d ∈ tables_1) d hd)
  have X0 : Stand p l e ({ frames := 2, cells := 4, slots := 8, locals := 29 } : Room) (s.setVm s.vm) m #[(.ref xx), (.ref bb)] below meth c s₁ [] 0 0 := Stand.of_body Bd
  have e0 : s₁.heap = h0 := by rw [← hh, Bd.state]; rfl
  have N0 := Fr.nil n0
  have K0 : Keep h0 h0 [xx] := Keep.refl _ _
  replace hZ : Z.Warmed39 (s.setVm s.vm).vm := hZ
  replace hown : (s.setVm s.vm).vm.findClass "java/lang/String" = some m.cls := hown
  have hS : s.Since s.vm h0.size := (State.WarmedH.refl s).since _
  have hk : h0.size ≤ h0.size := Nat.le_refl _
  have CR : CHr Z consts_1 s.vm h0 s.vm h0 := CHr.refl CH
  show own_Fin p.tables e below (own_PostW Z consts_1 (Q_rm_ne Z xx bb kb gc h0 n0) ({ frames := 2, cells := 4, slots := 8, locals := 29 } : Room).cells ({ frames := 2, cells := 4, slots := 8, locals := 29 } : Room).slots below s) _
  refine own_go (fun _ q => castTop (ef_rm_ne m xx bb gc) q) ?_
  refine own_go (fun _ q => XS.aloadN X0.here hx rfl (hb hby d3_0) rfl rfl q) ?_
  refine own_go (fun _ q => XS.aloadN X0.here hx rfl (hb hby d3_1) rfl rfl q) ?_
  refine own_go (fun _ q => XS.iconst X0.here hx rfl (hb hby d3_2) q) ?_
  refine own_go (fun _ q => XS.aloadN X0.here hx rfl (hb hby d3_3) rfl rfl q) ?_
  show own_Fin _ _ _ _ (s₁.setTop (mkF m 4 #[.val (.ref xx), .val (.ref bb)] [(.ref bb), (.int (0 : Int32)), (.ref bb), (.ref xx)]))
  refine own_go (fun _ q => own_alen X0 hx hZ e0 V_bb (g := (mkF m 4 #[.val (.ref xx), .val (.ref bb)] [(.ref bb), (.int (0 : Int32)), (.ref bb), (.ref xx)])) rfl rfl (hb hby d3_4) _ q) ?_
  refine own_go (fun _ q => XS.aconstNull X0.here hx rfl (hb hby d3_5) q) ?_
  show own_Fin _ _ _ _ (s₁.setTop (mkF m 6 #[.val (.ref xx), .val (.ref bb)] [.null, (.int (0 : Int32)), (.int (0 : Int32)), (.ref bb), (.ref xx)]))
  obtain ⟨_, _, ⟨T18, L18, k18, n18⟩, -, X18, hSn18, hgr18, ⟨Lc18, hQ18, l18, y18, z18, CR18⟩, st18⟩ := X0.specialBackS hx (y := (⟨"java/lang/String", "<init>", "([CIILjava/lang/Void;)V"⟩ : MethodName)) rfl hown (mvT hZ (own_w hw 16 rfl)) (mvT hZ (own_w hw 17 rfl)) (mvT hZ (own_w hw 19 rfl)) (by decide) (backOfSH (s := s) (W := 0) (rm_ne0 l Z a0 hw [] hEL xx bb gc h0 n0 (Nat.le_trans Z0 K0.1) E_xx V_xx C_xx g_xx O0) hZ (own_w hw 19 rfl) (own_w hw 11 rfl) (by decide) (by decide) hEL CH) (g := (mkF m 6 #[.val (.ref xx), .val (.ref bb)] [.null, (.int (0 : Int32)), (.int (0 : Int32)), (.ref bb), (.ref xx)])) rfl (by rw [hml]; rfl) (Steps.refl _) (a := xx) (argsL := [(.ref bb), (.int (0 : Int32)), (.int (0 : Int32)), .null]) (rest := []) (lenOf pd_1 rfl) rfl (by show 2 * 0 + _ ≤ _; exact Nat.le_of_eq rfl) (hb hby d3_6) (fun _ _ => ⟨rfl, e0, (by decide : 0 + 4 ≤ _), (by decide : 0 + 8 ≤ _)⟩)
  dsimp only [Pt.U, Pt.locs, Pt.cells, Pt.slots] at X18 l18 y18 z18 st18 hQ18 hSn18 hgr18 CR18
  subst l18 y18 z18
  replace hS := foldS hS (show _ ≤ s₁.heap.size by rw [e0]; exact hk) hSn18 hgr18
  replace hk : T18.heap.size ≤ T18.heap.size := Nat.le_refl _
  replace hZ : Z.Warmed39 (s.setVm T18.vm).vm := State.Warmed39.trans (t := s.setVm s.vm) hZ hSn18.1
  replace hown : (s.setVm T18.vm).vm.findClass "java/lang/String" = some m.cls := by rw [show (s.setVm T18.vm).vm = T18.vm from rfl, hSn18.1.alike.findClass]; exact hown
  replace X18 : Stand p l e ({ frames := 2, cells := 4, slots := 8, locals := 29 } : Room) (s.setVm T18.vm) m #[(.ref xx), (.ref bb)] below meth c T18 _ _ _ := X18
  replace CR := CR.trans CR18
  replace CH := CR18.1
  obtain ⟨rfl, N18q, KK18, t18, SS18⟩ := hQ18
  have N18 := Fr.app N0 N18q
  replace E_xx := E_xx.keep KK18
  replace O0 := O0.keep KK18 (allS g_xx (all0))
  replace V_bb := V_bb.keep KK18 (ninS neb nin0)
  have K19 := K0.trans KK18 (allS (Or.inl (by simp)) all0)
  refine own_go (fun _ q => st18.trans q) ?_
  show own_Fin _ _ _ _ (T18.setTop (mkF m 9 #[.val (.ref xx), .val (.ref bb)] []))
  have CRz : CHr Z consts_1 s.vm s.heap T18.vm T18.heap := by
    rw [hh]
    exact CR.trans (CHv.at X18 hZ hEL CH)
  refine own_retW0 X18 hx Bd hS hk (hb hby d3_9) CRz ?_ (by decide) (by decide)
  show (Q_rm_ne Z xx bb kb gc h0 n0) none T18.heap _
  exact ⟨rfl, N18, K19, _, SS18⟩
def Q_rm_nbl2 (Z : State) (h0 : Heap) (n0 : Nat) (v : Option Value) (h : Heap) (L : List Loc) : Prop := v = some (.int (4 : Int32)) ∧ Fr n0 L ∧ h = h0
theorem ef_rm_nbl2 (m : MethodId) : entryFrame m #[(.int (2 : Int32))] 1 = mkF m 0 #[.val (.int (2 : Int32))] [] := by first | (simp [entryFrame, mkF, argsToLocals, Value.category]; done) | rfl
set_option maxRecDepth 65536 in
set_option maxHeartbeats 40000000 in
theorem rm_nbl2 (l : Launch) (Z : State) (a0 : Array Value) (hw : ∀ d ∈ tables_1, d.before a0 Z = true) (ws : List Jvm.Cond) (h0 : Heap) (n0 : Nat) (Z0 : n0 ≤ h0.size) :
    MetFree l (⟨"java/lang/StringUTF16", "newBytesLength", "(I)I"⟩ : MethodName) (head1 (Jvm.Cond.code (⟨"java/lang/StringUTF16", "newBytesLength", "(I)I"⟩ : MethodName) jdk_52_method_3_code 1 (some .int) :: ws) ({ frames := 0, cells := 0, slots := 0, locals := 0 } : Room)) (fun a_ U_ => a_ = #[(.int (2 : Int32))] ∧ Z.Warmed39 U_.vm ∧ U_.heap = h0) (fun _ _ _ _ _ => True) (fun _ U_ o_ V_ => ∃ v_ L_, o_ = .returned v_ ∧ (Q_rm_nbl2 Z  h0 n0) v_ V_.heap L_ ∧ FrameEnd U_ o_ V_ L_ ({ frames := 0, cells := 0, slots := 0, locals := 0 } : Room).cells ({ frames := 0, cells := 0, slots := 0, locals := 0 } : Room).slots) := by
  refine MetFree.of_bodySF (plainFor_of_name pn_2) hisR ?_
  intro p e s m args below meth c s₁ Bd hml0 hP hK
  obtain ⟨rfl, hZ, hh⟩ := hP
  have hx := Bd.exec
  have hby := Bd.bytes
  have hml : c.maxLocals = 1 := hml0
  have hown : s.vm.findClass "java/lang/StringUTF16" = some m.cls := findClass_of_methodNamed Bd.named
  have hnm := (name_of_methodNamed Bd.named Bd.method).1
  have X0 : Stand p l e ({ frames := 0, cells := 0, slots := 0, locals := 0 } : Room) s m #[(.int (2 : Int32))] below meth c s₁ [] 0 0 := Stand.of_body Bd
  have e0 : s₁.heap = h0 := by rw [← hh, Bd.state]; rfl
  have N0 := Fr.nil n0
  have K0 : Keep h0 h0 [] := Keep.refl _ _
  show own_Fin p.tables e below (own_Post (Q_rm_nbl2 Z  h0 n0) ({ frames := 0, cells := 0, slots := 0, locals := 0 } : Room).cells ({ frames := 0, cells := 0, slots := 0, locals := 0 } : Room).slots below s) _
  refine own_go (fun _ q => castTop (ef_rm_nbl2 m ) q) ?_
  refine own_go (fun _ q => XS.iloadN X0.here hx rfl (hb hby d30_0) rfl q) ?_
  show own_Fin _ _ _ _ (s₁.setTop (mkF m 1 #[.val (.int (2 : Int32))] [(.int (2 : Int32))]))
  refine own_go (fun _ q => XS.ifYes X0.here hx rfl (pc0 := 1) (pc' := 12) rfl (hb hby d30_1) rfl ((if0 _ _).trans (flt (by decide : ¬ (2 : Int32) < (0 : Int32))).2.1) (by decide) (by decide) q) ?_
  refine own_go (fun _ q => XS.iloadN X0.here hx rfl (hb hby d30_12) rfl q) ?_
  show own_Fin _ _ _ _ (s₁.setTop (mkF m 13 #[.val (.int (2 : Int32))] [(.int (2 : Int32))]))
  refine own_go (fun _ q => Jvm.Stand.ldcI X0 hx hown (mvT hZ (own_w hw 128 rfl)) (g := (mkF m 13 #[.val (.int (2 : Int32))] [(.int (2 : Int32))])) rfl (hb hby d30_13) q) ?_
  show own_Fin _ _ _ _ (s₁.setTop (mkF m 15 #[.val (.int (2 : Int32))] [(.int (1073741823 : Int32)), (.int (2 : Int32))]))
  refine own_go (fun _ q => XS.icmpYes X0.here hx rfl (pc0 := 15) (pc' := 55) rfl (hb hby d30_15) rfl (tlt (by decide : (2 : Int32) < (1073741823 : Int32))).1 (by decide) (by decide) q) ?_
  refine own_go (fun _ q => XS.iloadN X0.here hx rfl (hb hby d30_55) rfl q) ?_
  refine own_go (fun _ q => XS.iconst X0.here hx rfl (hb hby d30_56) q) ?_
  show own_Fin _ _ _ _ (s₁.setTop (mkF m 57 #[.val (.int (2 : Int32))] [(.int (1 : Int32)), (.int (2 : Int32))]))
  refine own_go (fun _ q => XS.ishl X0.here hx rfl (hb hby d30_57) rfl q) ?_
  show own_Fin _ _ _ _ (s₁.setTop (mkF m 58 #[.val (.int (2 : Int32))] [(.int (4 : Int32))]))
  refine own_retI X0 hx Bd (t := .int) Bd.returns rfl (by simp) (hb hby d30_58) ?_ (by decide) (by decide)
  show (Q_rm_nbl2 Z  h0 n0) (some (.int (4 : Int32))) s₁.heap _
  rw [e0]
  exact ⟨rfl, N0, rfl⟩
def Q_rm_nbl3 (Z : State) (h0 : Heap) (n0 : Nat) (v : Option Value) (h : Heap) (L : List Loc) : Prop := v = some (.int (6 : Int32)) ∧ Fr n0 L ∧ h = h0
theorem ef_rm_nbl3 (m : MethodId) : entryFrame m #[(.int (3 : Int32))] 1 = mkF m 0 #[.val (.int (3 : Int32))] [] := by first | (simp [entryFrame, mkF, argsToLocals, Value.category]; done) | rfl
set_option maxRecDepth 65536 in
set_option maxHeartbeats 40000000 in
theorem rm_nbl3 (l : Launch) (Z : State) (a0 : Array Value) (hw : ∀ d ∈ tables_1, d.before a0 Z = true) (ws : List Jvm.Cond) (h0 : Heap) (n0 : Nat) (Z0 : n0 ≤ h0.size) :
    MetFree l (⟨"java/lang/StringUTF16", "newBytesLength", "(I)I"⟩ : MethodName) (head1 (Jvm.Cond.code (⟨"java/lang/StringUTF16", "newBytesLength", "(I)I"⟩ : MethodName) jdk_52_method_3_code 1 (some .int) :: ws) ({ frames := 0, cells := 0, slots := 0, locals := 0 } : Room)) (fun a_ U_ => a_ = #[(.int (3 : Int32))] ∧ Z.Warmed39 U_.vm ∧ U_.heap = h0) (fun _ _ _ _ _ => True) (fun _ U_ o_ V_ => ∃ v_ L_, o_ = .returned v_ ∧ (Q_rm_nbl3 Z  h0 n0) v_ V_.heap L_ ∧ FrameEnd U_ o_ V_ L_ ({ frames := 0, cells := 0, slots := 0, locals := 0 } : Room).cells ({ frames := 0, cells := 0, slots := 0, locals := 0 } : Room).slots) := by
  refine MetFree.of_bodySF (plainFor_of_name pn_2) hisR ?_
  intro p e s m args below meth c s₁ Bd hml0 hP hK
  obtain ⟨rfl, hZ, hh⟩ := hP
  have hx := Bd.exec
  have hby := Bd.bytes
  have hml : c.maxLocals = 1 := hml0
  have hown : s.vm.findClass "java/lang/StringUTF16" = some m.cls := findClass_of_methodNamed Bd.named
  have hnm := (name_of_methodNamed Bd.named Bd.method).1
  have X0 : Stand p l e ({ frames := 0, cells := 0, slots := 0, locals := 0 } : Room) s m #[(.int (3 : Int32))] below meth c s₁ [] 0 0 := Stand.of_body Bd
  have e0 : s₁.heap = h0 := by rw [← hh, Bd.state]; rfl
  have N0 := Fr.nil n0
  have K0 : Keep h0 h0 [] := Keep.refl _ _
  show own_Fin p.tables e below (own_Post (Q_rm_nbl3 Z  h0 n0) ({ frames := 0, cells := 0, slots := 0, locals := 0 } : Room).cells ({ frames := 0, cells := 0, slots := 0, locals := 0 } : Room).slots below s) _
  refine own_go (fun _ q => castTop (ef_rm_nbl3 m ) q) ?_
  refine own_go (fun _ q => XS.iloadN X0.here hx rfl (hb hby d30_0) rfl q) ?_
  show own_Fin _ _ _ _ (s₁.setTop (mkF m 1 #[.val (.int (3 : Int32))] [(.int (3 : Int32))]))
  refine own_go (fun _ q => XS.ifYes X0.here hx rfl (pc0 := 1) (pc' := 12) rfl (hb hby d30_1) rfl ((if0 _ _).trans (flt (by decide : ¬ (3 : Int32) < (0 : Int32))).2.1) (by decide) (by decide) q) ?_
  refine own_go (fun _ q => XS.iloadN X0.here hx rfl (hb hby d30_12) rfl q) ?_
  show own_Fin _ _ _ _ (s₁.setTop (mkF m 13 #[.val (.int (3 : Int32))] [(.int (3 : Int32))]))
  refine own_go (fun _ q => Jvm.Stand.ldcI X0 hx hown (mvT hZ (own_w hw 128 rfl)) (g := (mkF m 13 #[.val (.int (3 : Int32))] [(.int (3 : Int32))])) rfl (hb hby d30_13) q) ?_
  show own_Fin _ _ _ _ (s₁.setTop (mkF m 15 #[.val (.int (3 : Int32))] [(.int (1073741823 : Int32)), (.int (3 : Int32))]))
  refine own_go (fun _ q => XS.icmpYes X0.here hx rfl (pc0 := 15) (pc' := 55) rfl (hb hby d30_15) rfl (tlt (by decide : (3 : Int32) < (1073741823 : Int32))).1 (by decide) (by decide) q) ?_
  refine own_go (fun _ q => XS.iloadN X0.here hx rfl (hb hby d30_55) rfl q) ?_
  refine own_go (fun _ q => XS.iconst X0.here hx rfl (hb hby d30_56) q) ?_
  show own_Fin _ _ _ _ (s₁.setTop (mkF m 57 #[.val (.int (3 : Int32))] [(.int (1 : Int32)), (.int (3 : Int32))]))
  refine own_go (fun _ q => XS.ishl X0.here hx rfl (hb hby d30_57) rfl q) ?_
  show own_Fin _ _ _ _ (s₁.setTop (mkF m 58 #[.val (.int (3 : Int32))] [(.int (6 : Int32))]))
  refine own_retI X0 hx Bd (t := .int) Bd.returns rfl (by simp) (hb hby d30_58) ?_ (by decide) (by decide)
  show (Q_rm_nbl3 Z  h0 n0) (some (.int (6 : Int32))) s₁.heap _
  rw [e0]
  exact ⟨rfl, N0, rfl⟩
def Q_rm_nbl4 (Z : State) (h0 : Heap) (n0 : Nat) (v : Option Value) (h : Heap) (L : List Loc) : Prop := v = some (.int (8 : Int32)) ∧ Fr n0 L ∧ h = h0
theorem ef_rm_nbl4 (m : MethodId) : entryFrame m #[(.int (4 : Int32))] 1 = mkF m 0 #[.val (.int (4 : Int32))] [] := by first | (simp [entryFrame, mkF, argsToLocals, Value.category]; done) | rfl
set_option maxRecDepth 65536 in
set_option maxHeartbeats 40000000 in
theorem rm_nbl4 (l : Launch) (Z : State) (a0 : Array Value) (hw : ∀ d ∈ tables_1, d.before a0 Z = true) (ws : List Jvm.Cond) (h0 : Heap) (n0 : Nat) (Z0 : n0 ≤ h0.size) :
    MetFree l (⟨"java/lang/StringUTF16", "newBytesLength", "(I)I"⟩ : MethodName) (head1 (Jvm.Cond.code (⟨"java/lang/StringUTF16", "newBytesLength", "(I)I"⟩ : MethodName) jdk_52_method_3_code 1 (some .int) :: ws) ({ frames := 0, cells := 0, slots := 0, locals := 0 } : Room)) (fun a_ U_ => a_ = #[(.int (4 : Int32))] ∧ Z.Warmed39 U_.vm ∧ U_.heap = h0) (fun _ _ _ _ _ => True) (fun _ U_ o_ V_ => ∃ v_ L_, o_ = .returned v_ ∧ (Q_rm_nbl4 Z  h0 n0) v_ V_.heap L_ ∧ FrameEnd U_ o_ V_ L_ ({ frames := 0, cells := 0, slots := 0, locals := 0 } : Room).cells ({ frames := 0, cells := 0, slots := 0, locals := 0 } : Room).slots) := by
  refine MetFree.of_bodySF (plainFor_of_name pn_2) hisR ?_
  intro p e s m args below meth c s₁ Bd hml0 hP hK
  obtain ⟨rfl, hZ, hh⟩ := hP
  have hx := Bd.exec
  have hby := Bd.bytes
  have hml : c.maxLocals = 1 := hml0
  have hown : s.vm.findClass "java/lang/StringUTF16" = some m.cls := findClass_of_methodNamed Bd.named
  have hnm := (name_of_methodNamed Bd.named Bd.method).1
  have X0 : Stand p l e ({ frames := 0, cells := 0, slots := 0, locals := 0 } : Room) s m #[(.int (4 : Int32))] below meth c s₁ [] 0 0 := Stand.of_body Bd
  have e0 : s₁.heap = h0 := by rw [← hh, Bd.state]; rfl
  have N0 := Fr.nil n0
  have K0 : Keep h0 h0 [] := Keep.refl _ _
  show own_Fin p.tables e below (own_Post (Q_rm_nbl4 Z  h0 n0) ({ frames := 0, cells := 0, slots := 0, locals := 0 } : Room).cells ({ frames := 0, cells := 0, slots := 0, locals := 0 } : Room).slots below s) _
  refine own_go (fun _ q => castTop (ef_rm_nbl4 m ) q) ?_
  refine own_go (fun _ q => XS.iloadN X0.here hx rfl (hb hby d30_0) rfl q) ?_
  show own_Fin _ _ _ _ (s₁.setTop (mkF m 1 #[.val (.int (4 : Int32))] [(.int (4 : Int32))]))
  refine own_go (fun _ q => XS.ifYes X0.here hx rfl (pc0 := 1) (pc' := 12) rfl (hb hby d30_1) rfl ((if0 _ _).trans (flt (by decide : ¬ (4 : Int32) < (0 : Int32))).2.1) (by decide) (by decide) q) ?_
  refine own_go (fun _ q => XS.iloadN X0.here hx rfl (hb hby d30_12) rfl q) ?_
  show own_Fin _ _ _ _ (s₁.setTop (mkF m 13 #[.val (.int (4 : Int32))] [(.int (4 : Int32))]))
  refine own_go (fun _ q => Jvm.Stand.ldcI X0 hx hown (mvT hZ (own_w hw 128 rfl)) (g := (mkF m 13 #[.val (.int (4 : Int32))] [(.int (4 : Int32))])) rfl (hb hby d30_13) q) ?_
  show own_Fin _ _ _ _ (s₁.setTop (mkF m 15 #[.val (.int (4 : Int32))] [(.int (1073741823 : Int32)), (.int (4 : Int32))]))
  refine own_go (fun _ q => XS.icmpYes X0.here hx rfl (pc0 := 15) (pc' := 55) rfl (hb hby d30_15) rfl (tlt (by decide : (4 : Int32) < (1073741823 : Int32))).1 (by decide) (by decide) q) ?_
  refine own_go (fun _ q => XS.iloadN X0.here hx rfl (hb hby d30_55) rfl q) ?_
  refine own_go (fun _ q => XS.iconst X0.here hx rfl (hb hby d30_56) q) ?_
  show own_Fin _ _ _ _ (s₁.setTop (mkF m 57 #[.val (.int (4 : Int32))] [(.int (1 : Int32)), (.int (4 : Int32))]))
  refine own_go (fun _ q => XS.ishl X0.here hx rfl (hb hby d30_57) rfl q) ?_
  show own_Fin _ _ _ _ (s₁.setTop (mkF m 58 #[.val (.int (4 : Int32))] [(.int (8 : Int32))]))
  refine own_retI X0 hx Bd (t := .int) Bd.returns rfl (by simp) (hb hby d30_58) ?_ (by decide) (by decide)
  show (Q_rm_nbl4 Z  h0 n0) (some (.int (8 : Int32))) s₁.heap _
  rw [e0]
  exact ⟨rfl, N0, rfl⟩
def Q_rm_nbf2 (Z : State) (h0 : Heap) (n0 : Nat) (v : Option Value) (h : Heap) (L : List Loc) : Prop := ∃ (r : Addr) (k : ClassId), v = some (.ref r) ∧ Fr n0 L ∧ Keep h0 h [] ∧ h0.size ≤ r ∧ Arv Z h r k .byte (4 : Int32) [(.int (0 : Int32)), (.int (0 : Int32)), (.int (0 : Int32)), (.int (0 : Int32))] (.int (0 : Int32))
theorem ef_rm_nbf2 (m : MethodId) : entryFrame m #[(.int (2 : Int32))] 1 = mkF m 0 #[.val (.int (2 : Int32))] [] := by first | (simp [entryFrame, mkF, argsToLocals, Value.category]; done) | rfl
set_option maxRecDepth 65536 in
set_option maxHeartbeats 40000000 in
theorem rm_nbf2 (l : Launch) (Z : State) (a0 : Array Value) (hw : ∀ d ∈ tables_1, d.before a0 Z = true) (ws : List Jvm.Cond) (h0 : Heap) (n0 : Nat) (Z0 : n0 ≤ h0.size) :
    MetFree l (⟨"java/lang/StringUTF16", "newBytesFor", "(I)[B"⟩ : MethodName) (head1 (Jvm.Cond.code (⟨"java/lang/StringUTF16", "newBytesFor", "(I)[B"⟩ : MethodName) jdk_52_method_2_code 1 (some (.array .byte)) :: ws) ({ frames := 1, cells := 1, slots := 4, locals := 12 } : Room)) (fun a_ U_ => a_ = #[(.int (2 : Int32))] ∧ Z.Warmed39 U_.vm ∧ U_.heap = h0) (fun _ _ _ _ _ => True) (fun _ U_ o_ V_ => ∃ v_ L_, o_ = .returned v_ ∧ (Q_rm_nbf2 Z  h0 n0) v_ V_.heap L_ ∧ FrameEnd U_ o_ V_ L_ ({ frames := 1, cells := 1, slots := 4, locals := 12 } : Room).cells ({ frames := 1, cells := 1, slots := 4, locals := 12 } : Room).slots) := by
  refine MetFree.of_bodySF (plainFor_of_name pn_2) hisR ?_
  intro p e s m args below meth c s₁ Bd hml0 hP hK
  obtain ⟨rfl, hZ, hh⟩ := hP
  have hx := Bd.exec
  have hby := Bd.bytes
  have hml : c.maxLocals = 1 := hml0
  have hown : s.vm.findClass "java/lang/StringUTF16" = some m.cls := findClass_of_methodNamed Bd.named
  have hnm := (name_of_methodNamed Bd.named Bd.method).1
  have X0 : Stand p l e ({ frames := 1, cells := 1, slots := 4, locals := 12 } : Room) s m #[(.int (2 : Int32))] below meth c s₁ [] 0 0 := Stand.of_body Bd
  have e0 : s₁.heap = h0 := by rw [← hh, Bd.state]; rfl
  have N0 := Fr.nil n0
  have K0 : Keep h0 h0 [] := Keep.refl _ _
  show own_Fin p.tables e below (own_Post (Q_rm_nbf2 Z  h0 n0) ({ frames := 1, cells := 1, slots := 4, locals := 12 } : Room).cells ({ frames := 1, cells := 1, slots := 4, locals := 12 } : Room).slots below s) _
  refine own_go (fun _ q => castTop (ef_rm_nbf2 m ) q) ?_
  refine own_go (fun _ q => XS.iloadN X0.here hx rfl (hb hby d29_0) rfl q) ?_
  show own_Fin _ _ _ _ (s₁.setTop (mkF m 1 #[.val (.int (2 : Int32))] [(.int (2 : Int32))]))
  obtain ⟨_, _, ⟨T20, L20, k20, n20⟩, -, X20, ⟨Lc20, hQ20, l20, y20, z20⟩, st20⟩ := Jvm.LawKit.callS X0 hx (y := (⟨"java/lang/StringUTF16", "newBytesLength", "(I)I"⟩ : MethodName)) hown (mvT hZ (own_w hw 125 rfl)) (mvT hZ (own_w hw 126 rfl)) (mvT hZ (own_w hw 43 rfl)) (mvT hZ (own_w hw 127 rfl)) (by decide) (backOf (W := 0) (rm_nbl2 l Z a0 hw [] h0 n0 (Nat.le_trans Z0 K0.1)) hZ (own_w hw 127 rfl) (own_w hw 43 rfl) (by decide) (by decide)) (g := (mkF m 1 #[.val (.int (2 : Int32))] [(.int (2 : Int32))])) rfl (by rw [hml]; rfl) (argsL := [(.int (2 : Int32))]) (rest := []) (lenOf pd_3 rfl) rfl (by show 2 * 0 + _ ≤ _; exact Nat.le_of_eq rfl) (hb hby d29_1) (fun _ _ => ⟨rfl, e0, (by decide : 0 + 0 ≤ _), (by decide : 0 + 0 ≤ _)⟩)
  dsimp only [Pt.U, Pt.locs, Pt.cells, Pt.slots] at X20 l20 y20 z20 st20 hQ20
  subst l20 y20 z20
  obtain ⟨rfl, N20q, e20⟩ := hQ20
  have N20 := Fr.app N0 N20q
  refine own_go st20 ?_
  show own_Fin _ _ _ _ (T20.setTop (mkF m 4 #[.val (.int (2 : Int32))] [(.int (4 : Int32))]))
  obtain ⟨T21, h21, k21, X21, e21, E21, A21, st21⟩ := newP X20 hx hZ (own_w hw 24 rfl) e20 (g := (mkF m 4 #[.val (.int (2 : Int32))] [(.int (4 : Int32))])) rfl (hb hby d29_4) rfl (by decide) (cap := 4) (by decide) (by decide) (by decide) (by decide)
  obtain ⟨b21, g21⟩ : ∃ z, z = h0.size := ⟨_, rfl⟩
  rw [← g21] at A21 st21
  have sz_b21 : h0.size ≤ b21 := Nat.le_trans K0.1 (Nat.le_of_eq g21.symm)
  have g_b21 : n0 ≤ b21 := Nat.le_trans Z0 sz_b21
  have K22 := K0.ext E21
  have V21 : Arv Z h21 b21 k21 .byte (4 : Int32) [(.int (0 : Int32)), (.int (0 : Int32)), (.int (0 : Int32)), (.int (0 : Int32))] (.int (0 : Int32)) := (Arv.new A21 (by decide)).pad (pad_rep [] (.int (0 : Int32)) 4)
  refine own_go st21 ?_
  show own_Fin _ _ _ _ (T21.setTop (mkF m 6 #[.val (.int (2 : Int32))] [(.ref b21)]))
  refine own_retA X21 hx Bd (t := (.array .byte)) Bd.returns rfl rfl rfl (hb hby d29_6) ?_ (by decide) (by decide)
  show (Q_rm_nbf2 Z  h0 n0) (some (.ref b21)) T21.heap _
  rw [e21]
  exact ⟨_, _, rfl, N20, K22, sz_b21, V21⟩
def Q_rm_nbf3 (Z : State) (h0 : Heap) (n0 : Nat) (v : Option Value) (h : Heap) (L : List Loc) : Prop := ∃ (r : Addr) (k : ClassId), v = some (.ref r) ∧ Fr n0 L ∧ Keep h0 h [] ∧ h0.size ≤ r ∧ Arv Z h r k .byte (6 : Int32) [(.int (0 : Int32)), (.int (0 : Int32)), (.int (0 : Int32)), (.int (0 : Int32)), (.int (0 : Int32)), (.int (0 : Int32))] (.int (0 : Int32))
theorem ef_rm_nbf3 (m : MethodId) : entryFrame m #[(.int (3 : Int32))] 1 = mkF m 0 #[.val (.int (3 : Int32))] [] := by first | (simp [entryFrame, mkF, argsToLocals, Value.category]; done) | rfl
set_option maxRecDepth 65536 in
set_option maxHeartbeats 40000000 in
theorem rm_nbf3 (l : Launch) (Z : State) (a0 : Array Value) (hw : ∀ d ∈ tables_1, d.before a0 Z = true) (ws : List Jvm.Cond) (h0 : Heap) (n0 : Nat) (Z0 : n0 ≤ h0.size) :
    MetFree l (⟨"java/lang/StringUTF16", "newBytesFor", "(I)[B"⟩ : MethodName) (head1 (Jvm.Cond.code (⟨"java/lang/StringUTF16", "newBytesFor", "(I)[B"⟩ : MethodName) jdk_52_method_2_code 1 (some (.array .byte)) :: ws) ({ frames := 1, cells := 1, slots := 6, locals := 12 } : Room)) (fun a_ U_ => a_ = #[(.int (3 : Int32))] ∧ Z.Warmed39 U_.vm ∧ U_.heap = h0) (fun _ _ _ _ _ => True) (fun _ U_ o_ V_ => ∃ v_ L_, o_ = .returned v_ ∧ (Q_rm_nbf3 Z  h0 n0) v_ V_.heap L_ ∧ FrameEnd U_ o_ V_ L_ ({ frames := 1, cells := 1, slots := 6, locals := 12 } : Room).cells ({ frames := 1, cells := 1, slots := 6, locals := 12 } : Room).slots) := by
  refine MetFree.of_bodySF (plainFor_of_name pn_2) hisR ?_
  intro p e s m args below meth c s₁ Bd hml0 hP hK
  obtain ⟨rfl, hZ, hh⟩ := hP
  have hx := Bd.exec
  have hby := Bd.bytes
  have hml : c.maxLocals = 1 := hml0
  have hown : s.vm.findClass "java/lang/StringUTF16" = some m.cls := findClass_of_methodNamed Bd.named
  have hnm := (name_of_methodNamed Bd.named Bd.method).1
  have X0 : Stand p l e ({ frames := 1, cells := 1, slots := 6, locals := 12 } : Room) s m #[(.int (3 : Int32))] below meth c s₁ [] 0 0 := Stand.of_body Bd
  have e0 : s₁.heap = h0 := by rw [← hh, Bd.state]; rfl
  have N0 := Fr.nil n0
  have K0 : Keep h0 h0 [] := Keep.refl _ _
  show own_Fin p.tables e below (own_Post (Q_rm_nbf3 Z  h0 n0) ({ frames := 1, cells := 1, slots := 6, locals := 12 } : Room).cells ({ frames := 1, cells := 1, slots := 6, locals := 12 } : Room).slots below s) _
  refine own_go (fun _ q => castTop (ef_rm_nbf3 m ) q) ?_
  refine own_go (fun _ q => XS.iloadN X0.here hx rfl (hb hby d29_0) rfl q) ?_
  show own_Fin _ _ _ _ (s₁.setTop (mkF m 1 #[.val (.int (3 : Int32))] [(.int (3 : Int32))]))
  obtain ⟨_, _, ⟨T23, L23, k23, n23⟩, -, X23, ⟨Lc23, hQ23, l23, y23, z23⟩, st23⟩ := Jvm.LawKit.callS X0 hx (y := (⟨"java/lang/StringUTF16", "newBytesLength", "(I)I"⟩ : MethodName)) hown (mvT hZ (own_w hw 125 rfl)) (mvT hZ (own_w hw 126 rfl)) (mvT hZ (own_w hw 43 rfl)) (mvT hZ (own_w hw 127 rfl)) (by decide) (backOf (W := 0) (rm_nbl3 l Z a0 hw [] h0 n0 (Nat.le_trans Z0 K0.1)) hZ (own_w hw 127 rfl) (own_w hw 43 rfl) (by decide) (by decide)) (g := (mkF m 1 #[.val (.int (3 : Int32))] [(.int (3 : Int32))])) rfl (by rw [hml]; rfl) (argsL := [(.int (3 : Int32))]) (rest := []) (lenOf pd_3 rfl) rfl (by show 2 * 0 + _ ≤ _; exact Nat.le_of_eq rfl) (hb hby d29_1) (fun _ _ => ⟨rfl, e0, (by decide : 0 + 0 ≤ _), (by decide : 0 + 0 ≤ _)⟩)
  dsimp only [Pt.U, Pt.locs, Pt.cells, Pt.slots] at X23 l23 y23 z23 st23 hQ23
  subst l23 y23 z23
  obtain ⟨rfl, N23q, e23⟩ := hQ23
  have N23 := Fr.app N0 N23q
  refine own_go st23 ?_
  show own_Fin _ _ _ _ (T23.setTop (mkF m 4 #[.val (.int (3 : Int32))] [(.int (6 : Int32))]))
  obtain ⟨T24, h24, k24, X24, e24, E24, A24, st24⟩ := newP X23 hx hZ (own_w hw 24 rfl) e23 (g := (mkF m 4 #[.val (.int (3 : Int32))] [(.int (6 : Int32))])) rfl (hb hby d29_4) rfl (by decide) (cap := 6) (by decide) (by decide) (by decide) (by decide)
  obtain ⟨b24, g24⟩ : ∃ z, z = h0.size := ⟨_, rfl⟩
  rw [← g24] at A24 st24
  have sz_b24 : h0.size ≤ b24 := Nat.le_trans K0.1 (Nat.le_of_eq g24.symm)
  have g_b24 : n0 ≤ b24 := Nat.le_trans Z0 sz_b24
  have K25 := K0.ext E24
  have V24 : Arv Z h24 b24 k24 .byte (6 : Int32) [(.int (0 : Int32)), (.int (0 : Int32)), (.int (0 : Int32)), (.int (0 : Int32)), (.int (0 : Int32)), (.int (0 : Int32))] (.int (0 : Int32)) := (Arv.new A24 (by decide)).pad (pad_rep [] (.int (0 : Int32)) 6)
  refine own_go st24 ?_
  show own_Fin _ _ _ _ (T24.setTop (mkF m 6 #[.val (.int (3 : Int32))] [(.ref b24)]))
  refine own_retA X24 hx Bd (t := (.array .byte)) Bd.returns rfl rfl rfl (hb hby d29_6) ?_ (by decide) (by decide)
  show (Q_rm_nbf3 Z  h0 n0) (some (.ref b24)) T24.heap _
  rw [e24]
  exact ⟨_, _, rfl, N23, K25, sz_b24, V24⟩
def Q_rm_nbf4 (Z : State) (h0 : Heap) (n0 : Nat) (v : Option Value) (h : Heap) (L : List Loc) : Prop := ∃ (r : Addr) (k : ClassId), v = some (.ref r) ∧ Fr n0 L ∧ Keep h0 h [] ∧ h0.size ≤ r ∧ Arv Z h r k .byte (8 : Int32) [(.int (0 : Int32)), (.int (0 : Int32)), (.int (0 : Int32)), (.int (0 : Int32)), (.int (0 : Int32)), (.int (0 : Int32)), (.int (0 : Int32)), (.int (0 : Int32))] (.int (0 : Int32))
theorem ef_rm_nbf4 (m : MethodId) : entryFrame m #[(.int (4 : Int32))] 1 = mkF m 0 #[.val (.int (4 : Int32))] [] := by first | (simp [entryFrame, mkF, argsToLocals, Value.category]; done) | rfl
set_option maxRecDepth 65536 in
set_option maxHeartbeats 40000000 in
theorem rm_nbf4 (l : Launch) (Z : State) (a0 : Array Value) (hw : ∀ d ∈ tables_1, d.before a0 Z = true) (ws : List Jvm.Cond) (h0 : Heap) (n0 : Nat) (Z0 : n0 ≤ h0.size) :
    MetFree l (⟨"java/lang/StringUTF16", "newBytesFor", "(I)[B"⟩ : MethodName) (head1 (Jvm.Cond.code (⟨"java/lang/StringUTF16", "newBytesFor", "(I)[B"⟩ : MethodName) jdk_52_method_2_code 1 (some (.array .byte)) :: ws) ({ frames := 1, cells := 1, slots := 8, locals := 12 } : Room)) (fun a_ U_ => a_ = #[(.int (4 : Int32))] ∧ Z.Warmed39 U_.vm ∧ U_.heap = h0) (fun _ _ _ _ _ => True) (fun _ U_ o_ V_ => ∃ v_ L_, o_ = .returned v_ ∧ (Q_rm_nbf4 Z  h0 n0) v_ V_.heap L_ ∧ FrameEnd U_ o_ V_ L_ ({ frames := 1, cells := 1, slots := 8, locals := 12 } : Room).cells ({ frames := 1, cells := 1, slots := 8, locals := 12 } : Room).slots) := by
  refine MetFree.of_bodySF (plainFor_of_name pn_2) hisR ?_
  intro p e s m args below meth c s₁ Bd hml0 hP hK
  obtain ⟨rfl, hZ, hh⟩ := hP
  have hx := Bd.exec
  have hby := Bd.bytes
  have hml : c.maxLocals = 1 := hml0
  have hown : s.vm.findClass "java/lang/StringUTF16" = some m.cls := findClass_of_methodNamed Bd.named
  have hnm := (name_of_methodNamed Bd.named Bd.method).1
  have X0 : Stand p l e ({ frames := 1, cells := 1, slots := 8, locals := 12 } : Room) s m #[(.int (4 : Int32))] below meth c s₁ [] 0 0 := Stand.of_body Bd
  have e0 : s₁.heap = h0 := by rw [← hh, Bd.state]; rfl
  have N0 := Fr.nil n0
  have K0 : Keep h0 h0 [] := Keep.refl _ _
  show own_Fin p.tables e below (own_Post (Q_rm_nbf4 Z  h0 n0) ({ frames := 1, cells := 1, slots := 8, locals := 12 } : Room).cells ({ frames := 1, cells := 1, slots := 8, locals := 12 } : Room).slots below s) _
  refine own_go (fun _ q => castTop (ef_rm_nbf4 m ) q) ?_
  refine own_go (fun _ q => XS.iloadN X0.here hx rfl (hb hby d29_0) rfl q) ?_
  show own_Fin _ _ _ _ (s₁.setTop (mkF m 1 #[.val (.int (4 : Int32))] [(.int (4 : Int32))]))
  obtain ⟨_, _, ⟨T26, L26, k26, n26⟩, -, X26, ⟨Lc26, hQ26, l26, y26, z26⟩, st26⟩ := Jvm.LawKit.callS X0 hx (y := (⟨"java/lang/StringUTF16", "newBytesLength", "(I)I"⟩ : MethodName)) hown (mvT hZ (own_w hw 125 rfl)) (mvT hZ (own_w hw 126 rfl)) (mvT hZ (own_w hw 43 rfl)) (mvT hZ (own_w hw 127 rfl)) (by decide) (backOf (W := 0) (rm_nbl4 l Z a0 hw [] h0 n0 (Nat.le_trans Z0 K0.1)) hZ (own_w hw 127 rfl) (own_w hw 43 rfl) (by decide) (by decide)) (g := (mkF m 1 #[.val (.int (4 : Int32))] [(.int (4 : Int32))])) rfl (by rw [hml]; rfl) (argsL := [(.int (4 : Int32))]) (rest := []) (lenOf pd_3 rfl) rfl (by show 2 * 0 + _ ≤ _; exact Nat.le_of_eq rfl) (hb hby d29_1) (fun _ _ => ⟨rfl, e0, (by decide : 0 + 0 ≤ _), (by decide : 0 + 0 ≤ _)⟩)
  dsimp only [Pt.U, Pt.locs, Pt.cells, Pt.slots] at X26 l26 y26 z26 st26 hQ26
  subst l26 y26 z26
  obtain ⟨rfl, N26q, e26⟩ := hQ26
  have N26 := Fr.app N0 N26q
  refine own_go st26 ?_
  show own_Fin _ _ _ _ (T26.setTop (mkF m 4 #[.val (.int (4 : Int32))] [(.int (8 : Int32))]))
  obtain ⟨T27, h27, k27, X27, e27, E27, A27, st27⟩ := newP X26 hx hZ (own_w hw 24 rfl) e26 (g := (mkF m 4 #[.val (.int (4 : Int32))] [(.int (8 : Int32))])) rfl (hb hby d29_4) rfl (by decide) (cap := 8) (by decide) (by decide) (by decide) (by decide)
  obtain ⟨b27, g27⟩ : ∃ z, z = h0.size := ⟨_, rfl⟩
  rw [← g27] at A27 st27
  have sz_b27 : h0.size ≤ b27 := Nat.le_trans K0.1 (Nat.le_of_eq g27.symm)
  have g_b27 : n0 ≤ b27 := Nat.le_trans Z0 sz_b27
  have K28 := K0.ext E27
  have V27 : Arv Z h27 b27 k27 .byte (8 : Int32) [(.int (0 : Int32)), (.int (0 : Int32)), (.int (0 : Int32)), (.int (0 : Int32)), (.int (0 : Int32)), (.int (0 : Int32)), (.int (0 : Int32)), (.int (0 : Int32))] (.int (0 : Int32)) := (Arv.new A27 (by decide)).pad (pad_rep [] (.int (0 : Int32)) 8)
  refine own_go st27 ?_
  show own_Fin _ _ _ _ (T27.setTop (mkF m 6 #[.val (.int (4 : Int32))] [(.ref b27)]))
  refine own_retA X27 hx Bd (t := (.array .byte)) Bd.returns rfl rfl rfl (hb hby d29_6) ?_ (by decide) (by decide)
  show (Q_rm_nbf4 Z  h0 n0) (some (.ref b27)) T27.heap _
  rw [e27]
  exact ⟨_, _, rfl, N26, K28, sz_b27, V27⟩
def Q_rm_pc (Z : State) (bb : Addr) (kb : ClassId) (ii : Int32) (chx : Int32) (nn : Int32) (vs : List Value) (k1 : Nat) (k2 : Nat) (h0 : Heap) (n0 : Nat) (v : Option Value) (h : Heap) (L : List Loc) : Prop := v = none ∧ Fr n0 L ∧ Keep h0 h [bb] ∧ Arv Z h bb kb .byte nn ((vs.set k1 (.int (chx.toInt8.toInt32))).set k2 (.int ((chx >>> ((8 : Int32) &&& 31)).toInt8.toInt32))) (.int (0 : Int32))
theorem ef_rm_pc (m : MethodId) (bb : Addr) (ii : Int32) (chx : Int32) (nn : Int32) : entryFrame m #[(.ref bb), (.int ii), (.int chx)] 3 = mkF m 0 #[.val (.ref bb), .val (.int ii), .val (.int chx)] [] := by first | (simp [entryFrame, mkF, argsToLocals, Value.category]; done) | rfl
set_option maxRecDepth 65536 in
set_option maxHeartbeats 40000000 in
theorem rm_pc (l : Launch) (Z : State) (a0 : Array Value) (hw : ∀ d ∈ tables_1, d.before a0 Z = true) (ws : List Jvm.Cond) (bb : Addr) (kb : ClassId) (ii : Int32) (chx : Int32) (nn : Int32) (vs : List Value) (k1 : Nat) (k2 : Nat) (h0 : Heap) (n0 : Nat) (Z0 : n0 ≤ h0.size) (V_bb : Arv Z h0 bb kb .byte nn vs (.int (0 : Int32))) (g_bb : n0 ≤ bb) (hj1 : ¬ (ii <<< ((1 : Int32) &&& 31)) < 0 ∧ (ii <<< ((1 : Int32) &&& 31)) < nn) (hj2 : ¬ ((ii <<< ((1 : Int32) &&& 31)) + (1 : Int32)) < 0 ∧ ((ii <<< ((1 : Int32) &&& 31)) + (1 : Int32)) < nn) (hk1 : (ii <<< ((1 : Int32) &&& 31)).toNatClampNeg = k1) (hk2 : ((ii <<< ((1 : Int32) &&& 31)) + (1 : Int32)).toNatClampNeg = k2) (hl1 : k1 < vs.length) (hl2 : k2 < vs.length) (O0 : Old Z n0 h0) (S_A : Sta Z Z.heap "java/lang/StringUTF16" "$assertionsDisabled" "Z" (.int (1 : Int32))) (S_H : Sta Z Z.heap "java/lang/StringUTF16" "HI_BYTE_SHIFT" "I" (.int (0 : Int32))) (S_L : Sta Z Z.heap "java/lang/StringUTF16" "LO_BYTE_SHIFT" "I" (.int (8 : Int32))) :
    MetFree l (⟨"java/lang/StringUTF16", "putChar", "([BII)V"⟩ : MethodName) (head1 (Jvm.Cond.code (⟨"java/lang/StringUTF16", "putChar", "([BII)V"⟩ : MethodName) jdk_52_method_4_code 3 none :: ws) ({ frames := 0, cells := 0, slots := 0, locals := 0 } : Room)) (fun a_ U_ => a_ = #[(.ref bb), (.int ii), (.int chx)] ∧ Z.Warmed39 U_.vm ∧ U_.heap = h0) (fun _ _ _ _ _ => True) (fun _ U_ o_ V_ => ∃ v_ L_, o_ = .returned v_ ∧ (Q_rm_pc Z bb kb ii chx nn vs k1 k2 h0 n0) v_ V_.heap L_ ∧ FrameEnd U_ o_ V_ L_ ({ frames := 0, cells := 0, slots := 0, locals := 0 } : Room).cells ({ frames := 0, cells := 0, slots := 0, locals := 0 } : Room).slots) := by
  refine MetFree.of_bodySF (plainFor_of_name pn_2) hisR ?_
  intro p e s m args below meth c s₁ Bd hml0 hP hK
  obtain ⟨rfl, hZ, hh⟩ := hP
  have hx := Bd.exec
  have hby := Bd.bytes
  have hml : c.maxLocals = 3 := hml0
  have hown : s.vm.findClass "java/lang/StringUTF16" = some m.cls := findClass_of_methodNamed Bd.named
  have hnm := (name_of_methodNamed Bd.named Bd.method).1
  have X0 : Stand p l e ({ frames := 0, cells := 0, slots := 0, locals := 0 } : Room) s m #[(.ref bb), (.int ii), (.int chx)] below meth c s₁ [] 0 0 := Stand.of_body Bd
  have e0 : s₁.heap = h0 := by rw [← hh, Bd.state]; rfl
  have N0 := Fr.nil n0
  have K0 : Keep h0 h0 [bb] := Keep.refl _ _
  show own_Fin p.tables e below (own_Post (Q_rm_pc Z bb kb ii chx nn vs k1 k2 h0 n0) ({ frames := 0, cells := 0, slots := 0, locals := 0 } : Room).cells ({ frames := 0, cells := 0, slots := 0, locals := 0 } : Room).slots below s) _
  refine own_go (fun _ q => castTop (ef_rm_pc m bb ii chx nn) q) ?_
  show own_Fin _ _ _ _ (s₁.setTop (mkF m 0 #[.val (.ref bb), .val (.int ii), .val (.int chx)] []))
  obtain ⟨T29, X29, e29, st29⟩ := getS2 X0 hx hZ hown (host := "") (Or.inl (own_w hw 132 rfl)) Via.refl e0 (S_A.ext O0.2) (g := (mkF m 0 #[.val (.ref bb), .val (.int ii), .val (.int chx)] [])) rfl (hb hby d31_0)
  refine own_go st29 ?_
  show own_Fin _ _ _ _ (T29.setTop (mkF m 3 #[.val (.ref bb), .val (.int ii), .val (.int chx)] [(.int (1 : Int32))]))
  refine own_go (fun _ q => XS.ifYes X29.here hx rfl (pc0 := 3) (pc' := 28) rfl (hb hby d31_3) rfl ((if0 _ _).trans (feq (by decide : ¬ (1 : Int32) = (0 : Int32))).2) (by decide) (by decide) q) ?_
  refine own_go (fun _ q => XS.iloadN X29.here hx rfl (hb hby d31_28) rfl q) ?_
  refine own_go (fun _ q => XS.iconst X29.here hx rfl (hb hby d31_29) q) ?_
  show own_Fin _ _ _ _ (T29.setTop (mkF m 30 #[.val (.ref bb), .val (.int ii), .val (.int chx)] [(.int (1 : Int32)), (.int ii)]))
  refine own_go (fun _ q => XS.ishl X29.here hx rfl (hb hby d31_30) rfl q) ?_
  refine own_go (fun _ q => XS.istoreN X29.here hx rfl (hb hby d31_31) rfl (l' := #[.val (.ref bb), .val (.int (ii <<< ((1 : Int32) &&& 31))), .val (.int chx)]) rfl q) ?_
  refine own_go (fun _ q => XS.aloadN X29.here hx rfl (hb hby d31_32) rfl rfl q) ?_
  refine own_go (fun _ q => XS.iloadN X29.here hx rfl (hb hby d31_33) rfl q) ?_
  show own_Fin _ _ _ _ (T29.setTop (mkF m 34 #[.val (.ref bb), .val (.int (ii <<< ((1 : Int32) &&& 31))), .val (.int chx)] [(.int (ii <<< ((1 : Int32) &&& 31))), (.ref bb)]))
  refine own_go (fun _ q => XS.iinc X29.here hx rfl (hb hby d31_34) rfl (l' := #[.val (.ref bb), .val (.int ((ii <<< ((1 : Int32) &&& 31)) + (1 : Int32))), .val (.int chx)]) rfl q) ?_
  refine own_go (fun _ q => XS.iloadN X29.here hx rfl (hb hby d31_37) rfl q) ?_
  show own_Fin _ _ _ _ (T29.setTop (mkF m 38 #[.val (.ref bb), .val (.int ((ii <<< ((1 : Int32) &&& 31)) + (1 : Int32))), .val (.int chx)] [(.int chx), (.int (ii <<< ((1 : Int32) &&& 31))), (.ref bb)]))
  obtain ⟨T30, X30, e30, st30⟩ := getS2 X29 hx hZ hown (host := "") (Or.inl (own_w hw 133 rfl)) Via.refl e29 (S_H.ext O0.2) (g := (mkF m 38 #[.val (.ref bb), .val (.int ((ii <<< ((1 : Int32) &&& 31)) + (1 : Int32))), .val (.int chx)] [(.int chx), (.int (ii <<< ((1 : Int32) &&& 31))), (.ref bb)])) rfl (hb hby d31_38)
  refine own_go st30 ?_
  show own_Fin _ _ _ _ (T30.setTop (mkF m 41 #[.val (.ref bb), .val (.int ((ii <<< ((1 : Int32) &&& 31)) + (1 : Int32))), .val (.int chx)] [(.int (0 : Int32)), (.int chx), (.int (ii <<< ((1 : Int32) &&& 31))), (.ref bb)]))
  refine own_go (fun _ q => XS.ishr X30.here hx rfl (hb hby d31_41) rfl q) ?_
  show own_Fin _ _ _ _ (T30.setTop (mkF m 42 #[.val (.ref bb), .val (.int ((ii <<< ((1 : Int32) &&& 31)) + (1 : Int32))), .val (.int chx)] [(.int (chx >>> ((0 : Int32) &&& 31))), (.int (ii <<< ((1 : Int32) &&& 31))), (.ref bb)]))
  rw [StrChars.shr0]
  show own_Fin _ _ _ _ (T30.setTop (mkF m 42 #[.val (.ref bb), .val (.int ((ii <<< ((1 : Int32) &&& 31)) + (1 : Int32))), .val (.int chx)] [(.int chx), (.int (ii <<< ((1 : Int32) &&& 31))), (.ref bb)]))
  refine own_go (fun _ q => XS.i2b X30.here hx rfl (hb hby d31_42) rfl q) ?_
  show own_Fin _ _ _ _ (T30.setTop (mkF m 43 #[.val (.ref bb), .val (.int ((ii <<< ((1 : Int32) &&& 31)) + (1 : Int32))), .val (.int chx)] [(.int (chx.toInt8.toInt32)), (.int (ii <<< ((1 : Int32) &&& 31))), (.ref bb)]))
  obtain ⟨T31, h31, X31, e31, W31, V31, st31⟩ := own_stB X30 hx hZ e30 V_bb hj1 (i := k1) hk1 hl1 (g := (mkF m 43 #[.val (.ref bb), .val (.int ((ii <<< ((1 : Int32) &&& 31)) + (1 : Int32))), .val (.int chx)] [(.int (chx.toInt8.toInt32)), (.int (ii <<< ((1 : Int32) &&& 31))), (.ref bb)])) rfl rfl (hb hby d31_43)
  rw [own_b8] at V31
  replace V_bb : Arv Z h31 bb kb .byte nn (vs.set k1 (.int (chx.toInt8.toInt32))) (.int (0 : Int32)) := V31
  have N31 := Fr.snoc X31 N0 g_bb
  refine own_go st31 ?_
  replace O0 := O0.wr W31 g_bb
  have K32 := K0.wr W31 (Or.inl (by simp))
  refine own_go (fun _ q => XS.aloadN X31.here hx rfl (hb hby d31_44) rfl rfl q) ?_
  refine own_go (fun _ q => XS.iloadN X31.here hx rfl (hb hby d31_45) rfl q) ?_
  refine own_go (fun _ q => XS.iloadN X31.here hx rfl (hb hby d31_46) rfl q) ?_
  show own_Fin _ _ _ _ (T31.setTop (mkF m 47 #[.val (.ref bb), .val (.int ((ii <<< ((1 : Int32) &&& 31)) + (1 : Int32))), .val (.int chx)] [(.int chx), (.int ((ii <<< ((1 : Int32) &&& 31)) + (1 : Int32))), (.ref bb)]))
  obtain ⟨T33, X33, e33, st33⟩ := getS2 X31 hx hZ hown (host := "") (Or.inl (own_w hw 134 rfl)) Via.refl e31 (S_L.ext O0.2) (g := (mkF m 47 #[.val (.ref bb), .val (.int ((ii <<< ((1 : Int32) &&& 31)) + (1 : Int32))), .val (.int chx)] [(.int chx), (.int ((ii <<< ((1 : Int32) &&& 31)) + (1 : Int32))), (.ref bb)])) rfl (hb hby d31_47)
  refine own_go st33 ?_
  show own_Fin _ _ _ _ (T33.setTop (mkF m 50 #[.val (.ref bb), .val (.int ((ii <<< ((1 : Int32) &&& 31)) + (1 : Int32))), .val (.int chx)] [(.int (8 : Int32)), (.int chx), (.int ((ii <<< ((1 : Int32) &&& 31)) + (1 : Int32))), (.ref bb)]))
  refine own_go (fun _ q => XS.ishr X33.here hx rfl (hb hby d31_50) rfl q) ?_
  show own_Fin _ _ _ _ (T33.setTop (mkF m 51 #[.val (.ref bb), .val (.int ((ii <<< ((1 : Int32) &&& 31)) + (1 : Int32))), .val (.int chx)] [(.int (chx >>> ((8 : Int32) &&& 31))), (.int ((ii <<< ((1 : Int32) &&& 31)) + (1 : Int32))), (.ref bb)]))
  refine own_go (fun _ q => XS.i2b X33.here hx rfl (hb hby d31_51) rfl q) ?_
  show own_Fin _ _ _ _ (T33.setTop (mkF m 52 #[.val (.ref bb), .val (.int ((ii <<< ((1 : Int32) &&& 31)) + (1 : Int32))), .val (.int chx)] [(.int ((chx >>> ((8 : Int32) &&& 31)).toInt8.toInt32)), (.int ((ii <<< ((1 : Int32) &&& 31)) + (1 : Int32))), (.ref bb)]))
  obtain ⟨T34, h34, X34, e34, W34, V34, st34⟩ := own_stB X33 hx hZ e33 V_bb hj2 (i := k2) hk2 (by rw [List.length_set]; exact hl2) (g := (mkF m 52 #[.val (.ref bb), .val (.int ((ii <<< ((1 : Int32) &&& 31)) + (1 : Int32))), .val (.int chx)] [(.int ((chx >>> ((8 : Int32) &&& 31)).toInt8.toInt32)), (.int ((ii <<< ((1 : Int32) &&& 31)) + (1 : Int32))), (.ref bb)])) rfl rfl (hb hby d31_52)
  rw [own_b8] at V34
  replace V_bb : Arv Z h34 bb kb .byte nn ((vs.set k1 (.int (chx.toInt8.toInt32))).set k2 (.int ((chx >>> ((8 : Int32) &&& 31)).toInt8.toInt32))) (.int (0 : Int32)) := V34
  have N34 := Fr.snoc X34 N31 g_bb
  refine own_go st34 ?_
  replace O0 := O0.wr W34 g_bb
  have K35 := K32.wr W34 (Or.inl (by simp))
  show own_Fin _ _ _ _ (T34.setTop (mkF m 53 #[.val (.ref bb), .val (.int ((ii <<< ((1 : Int32) &&& 31)) + (1 : Int32))), .val (.int chx)] []))
  refine own_ret0 X34 hx Bd (hb hby d31_53) ?_ (by decide) (by decide)
  show (Q_rm_pc Z bb kb ii chx nn vs k1 k2 h0 n0) none T34.heap _
  rw [e34]
  exact ⟨rfl, N34, K35, V_bb⟩
def Q_rm_gc (Z : State) (bb : Addr) (kb : ClassId) (ii : Int32) (chx : Int32) (nn : Int32) (vs : List Value) (h0 : Heap) (n0 : Nat) (v : Option Value) (h : Heap) (L : List Loc) : Prop := v = some (.int chx) ∧ Fr n0 L ∧ h = h0
theorem ef_rm_gc (m : MethodId) (bb : Addr) (ii : Int32) (chx : Int32) (nn : Int32) : entryFrame m #[(.ref bb), (.int ii)] 2 = mkF m 0 #[.val (.ref bb), .val (.int ii)] [] := by first | (simp [entryFrame, mkF, argsToLocals, Value.category]; done) | rfl
set_option maxRecDepth 65536 in
set_option maxHeartbeats 40000000 in
theorem rm_gc (l : Launch) (Z : State) (a0 : Array Value) (hw : ∀ d ∈ tables_1, d.before a0 Z = true) (ws : List Jvm.Cond) (bb : Addr) (kb : ClassId) (ii : Int32) (chx : Int32) (nn : Int32) (vs : List Value) (h0 : Heap) (n0 : Nat) (Z0 : n0 ≤ h0.size) (V_bb : Arv Z h0 bb kb .byte nn vs (.int (0 : Int32))) (hj1 : ¬ (ii <<< ((1 : Int32) &&& 31)) < 0 ∧ (ii <<< ((1 : Int32) &&& 31)) < nn) (hj2 : ¬ ((ii <<< ((1 : Int32) &&& 31)) + (1 : Int32)) < 0 ∧ ((ii <<< ((1 : Int32) &&& 31)) + (1 : Int32)) < nn) (hv1 : vs.getD (ii <<< ((1 : Int32) &&& 31)).toNatClampNeg (.int (0 : Int32)) = .int (chx.toInt8.toInt32)) (hv2 : vs.getD ((ii <<< ((1 : Int32) &&& 31)) + (1 : Int32)).toNatClampNeg (.int (0 : Int32)) = .int ((chx >>> ((8 : Int32) &&& 31)).toInt8.toInt32)) (hbx : ¬ chx < 0 ∧ ¬ (65535 : Int32) < chx) (O0 : Old Z n0 h0) (S_A : Sta Z Z.heap "java/lang/StringUTF16" "$assertionsDisabled" "Z" (.int (1 : Int32))) (S_H : Sta Z Z.heap "java/lang/StringUTF16" "HI_BYTE_SHIFT" "I" (.int (0 : Int32))) (S_L : Sta Z Z.heap "java/lang/StringUTF16" "LO_BYTE_SHIFT" "I" (.int (8 : Int32))) :
    MetFree l (⟨"java/lang/StringUTF16", "getChar", "([BI)C"⟩ : MethodName) (head1 (Jvm.Cond.code (⟨"java/lang/StringUTF16", "getChar", "([BI)C"⟩ : MethodName) jdk_52_method_5_code 2 (some .char) :: ws) ({ frames := 0, cells := 0, slots := 0, locals := 0 } : Room)) (fun a_ U_ => a_ = #[(.ref bb), (.int ii)] ∧ Z.Warmed39 U_.vm ∧ U_.heap = h0) (fun _ _ _ _ _ => True) (fun _ U_ o_ V_ => ∃ v_ L_, o_ = .returned v_ ∧ (Q_rm_gc Z bb kb ii chx nn vs h0 n0) v_ V_.heap L_ ∧ FrameEnd U_ o_ V_ L_ ({ frames := 0, cells := 0, slots := 0, locals := 0 } : Room).cells ({ frames := 0, cells := 0, slots := 0, locals := 0 } : Room).slots) := by
  refine MetFree.of_bodySF (plainFor_of_name pn_2) hisR ?_
  intro p e s m args below meth c s₁ Bd hml0 hP hK
  obtain ⟨rfl, hZ, hh⟩ := hP
  have hx := Bd.exec
  have hby := Bd.bytes
  have hml : c.maxLocals = 2 := hml0
  have hown : s.vm.findClass "java/lang/StringUTF16" = some m.cls := findClass_of_methodNamed Bd.named
  have hnm := (name_of_methodNamed Bd.named Bd.method).1
  have X0 : Stand p l e ({ frames := 0, cells := 0, slots := 0, locals := 0 } : Room) s m #[(.ref bb), (.int ii)] below meth c s₁ [] 0 0 := Stand.of_body Bd
  have e0 : s₁.heap = h0 := by rw [← hh, Bd.state]; rfl
  have N0 := Fr.nil n0
  have K0 : Keep h0 h0 [] := Keep.refl _ _
  show own_Fin p.tables e below (own_Post (Q_rm_gc Z bb kb ii chx nn vs h0 n0) ({ frames := 0, cells := 0, slots := 0, locals := 0 } : Room).cells ({ frames := 0, cells := 0, slots := 0, locals := 0 } : Room).slots below s) _
  refine own_go (fun _ q => castTop (ef_rm_gc m bb ii chx nn) q) ?_
  show own_Fin _ _ _ _ (s₁.setTop (mkF m 0 #[.val (.ref bb), .val (.int ii)] []))
  obtain ⟨T36, X36, e36, st36⟩ := getS2 X0 hx hZ hown (host := "") (Or.inl (own_w hw 132 rfl)) Via.refl e0 (S_A.ext O0.2) (g := (mkF m 0 #[.val (.ref bb), .val (.int ii)] [])) rfl (hb hby d32_0)
  refine own_go st36 ?_
  show own_Fin _ _ _ _ (T36.setTop (mkF m 3 #[.val (.ref bb), .val (.int ii)] [(.int (1 : Int32))]))
  refine own_go (fun _ q => XS.ifYes X36.here hx rfl (pc0 := 3) (pc' := 28) rfl (hb hby d32_3) rfl ((if0 _ _).trans (feq (by decide : ¬ (1 : Int32) = (0 : Int32))).2) (by decide) (by decide) q) ?_
  refine own_go (fun _ q => XS.iloadN X36.here hx rfl (hb hby d32_28) rfl q) ?_
  refine own_go (fun _ q => XS.iconst X36.here hx rfl (hb hby d32_29) q) ?_
  show own_Fin _ _ _ _ (T36.setTop (mkF m 30 #[.val (.ref bb), .val (.int ii)] [(.int (1 : Int32)), (.int ii)]))
  refine own_go (fun _ q => XS.ishl X36.here hx rfl (hb hby d32_30) rfl q) ?_
  refine own_go (fun _ q => XS.istoreN X36.here hx rfl (hb hby d32_31) rfl (l' := #[.val (.ref bb), .val (.int (ii <<< ((1 : Int32) &&& 31)))]) rfl q) ?_
  refine own_go (fun _ q => XS.aloadN X36.here hx rfl (hb hby d32_32) rfl rfl q) ?_
  refine own_go (fun _ q => XS.iloadN X36.here hx rfl (hb hby d32_33) rfl q) ?_
  show own_Fin _ _ _ _ (T36.setTop (mkF m 34 #[.val (.ref bb), .val (.int (ii <<< ((1 : Int32) &&& 31)))] [(.int (ii <<< ((1 : Int32) &&& 31))), (.ref bb)]))
  refine own_go (fun _ q => XS.iinc X36.here hx rfl (hb hby d32_34) rfl (l' := #[.val (.ref bb), .val (.int ((ii <<< ((1 : Int32) &&& 31)) + (1 : Int32)))]) rfl q) ?_
  show own_Fin _ _ _ _ (T36.setTop (mkF m 37 #[.val (.ref bb), .val (.int ((ii <<< ((1 : Int32) &&& 31)) + (1 : Int32)))] [(.int (ii <<< ((1 : Int32) &&& 31))), (.ref bb)]))
  refine own_go (fun _ q => own_baload X36 hx hZ e36 V_bb hj1 (v := (.int (chx.toInt8.toInt32))) (hv1) (g := (mkF m 37 #[.val (.ref bb), .val (.int ((ii <<< ((1 : Int32) &&& 31)) + (1 : Int32)))] [(.int (ii <<< ((1 : Int32) &&& 31))), (.ref bb)])) rfl rfl (hb hby d32_37) _ q) ?_
  refine own_go (fun _ q => XS.sipush X36.here hx rfl (hb hby d32_38) q) ?_
  show own_Fin _ _ _ _ (T36.setTop (mkF m 41 #[.val (.ref bb), .val (.int ((ii <<< ((1 : Int32) &&& 31)) + (1 : Int32)))] [(.int (255 : Int32)), (.int (chx.toInt8.toInt32))]))
  refine own_go (fun _ q => XS.iand X36.here hx rfl (hb hby d32_41) rfl q) ?_
  show own_Fin _ _ _ _ (T36.setTop (mkF m 42 #[.val (.ref bb), .val (.int ((ii <<< ((1 : Int32) &&& 31)) + (1 : Int32)))] [(.int ((chx.toInt8.toInt32) &&& (255 : Int32)))]))
  obtain ⟨T37, X37, e37, st37⟩ := getS2 X36 hx hZ hown (host := "") (Or.inl (own_w hw 133 rfl)) Via.refl e36 (S_H.ext O0.2) (g := (mkF m 42 #[.val (.ref bb), .val (.int ((ii <<< ((1 : Int32) &&& 31)) + (1 : Int32)))] [(.int ((chx.toInt8.toInt32) &&& (255 : Int32)))])) rfl (hb hby d32_42)
  refine own_go st37 ?_
  show own_Fin _ _ _ _ (T37.setTop (mkF m 45 #[.val (.ref bb), .val (.int ((ii <<< ((1 : Int32) &&& 31)) + (1 : Int32)))] [(.int (0 : Int32)), (.int ((chx.toInt8.toInt32) &&& (255 : Int32)))]))
  refine own_go (fun _ q => XS.ishl X37.here hx rfl (hb hby d32_45) rfl q) ?_
  refine own_go (fun _ q => XS.aloadN X37.here hx rfl (hb hby d32_46) rfl rfl q) ?_
  refine own_go (fun _ q => XS.iloadN X37.here hx rfl (hb hby d32_47) rfl q) ?_
  show own_Fin _ _ _ _ (T37.setTop (mkF m 48 #[.val (.ref bb), .val (.int ((ii <<< ((1 : Int32) &&& 31)) + (1 : Int32)))] [(.int ((ii <<< ((1 : Int32) &&& 31)) + (1 : Int32))), (.ref bb), (.int (((chx.toInt8.toInt32) &&& (255 : Int32)) <<< ((0 : Int32) &&& 31)))]))
  refine own_go (fun _ q => own_baload X37 hx hZ e37 V_bb hj2 (v := (.int ((chx >>> ((8 : Int32) &&& 31)).toInt8.toInt32))) (hv2) (g := (mkF m 48 #[.val (.ref bb), .val (.int ((ii <<< ((1 : Int32) &&& 31)) + (1 : Int32)))] [(.int ((ii <<< ((1 : Int32) &&& 31)) + (1 : Int32))), (.ref bb), (.int (((chx.toInt8.toInt32) &&& (255 : Int32)) <<< ((0 : Int32) &&& 31)))])) rfl rfl (hb hby d32_48) _ q) ?_
  refine own_go (fun _ q => XS.sipush X37.here hx rfl (hb hby d32_49) q) ?_
  show own_Fin _ _ _ _ (T37.setTop (mkF m 52 #[.val (.ref bb), .val (.int ((ii <<< ((1 : Int32) &&& 31)) + (1 : Int32)))] [(.int (255 : Int32)), (.int ((chx >>> ((8 : Int32) &&& 31)).toInt8.toInt32)), (.int (((chx.toInt8.toInt32) &&& (255 : Int32)) <<< ((0 : Int32) &&& 31)))]))
  refine own_go (fun _ q => XS.iand X37.here hx rfl (hb hby d32_52) rfl q) ?_
  show own_Fin _ _ _ _ (T37.setTop (mkF m 53 #[.val (.ref bb), .val (.int ((ii <<< ((1 : Int32) &&& 31)) + (1 : Int32)))] [(.int (((chx >>> ((8 : Int32) &&& 31)).toInt8.toInt32) &&& (255 : Int32))), (.int (((chx.toInt8.toInt32) &&& (255 : Int32)) <<< ((0 : Int32) &&& 31)))]))
  obtain ⟨T38, X38, e38, st38⟩ := getS2 X37 hx hZ hown (host := "") (Or.inl (own_w hw 134 rfl)) Via.refl e37 (S_L.ext O0.2) (g := (mkF m 53 #[.val (.ref bb), .val (.int ((ii <<< ((1 : Int32) &&& 31)) + (1 : Int32)))] [(.int (((chx >>> ((8 : Int32) &&& 31)).toInt8.toInt32) &&& (255 : Int32))), (.int (((chx.toInt8.toInt32) &&& (255 : Int32)) <<< ((0 : Int32) &&& 31)))])) rfl (hb hby d32_53)
  refine own_go st38 ?_
  show own_Fin _ _ _ _ (T38.setTop (mkF m 56 #[.val (.ref bb), .val (.int ((ii <<< ((1 : Int32) &&& 31)) + (1 : Int32)))] [(.int (8 : Int32)), (.int (((chx >>> ((8 : Int32) &&& 31)).toInt8.toInt32) &&& (255 : Int32))), (.int (((chx.toInt8.toInt32) &&& (255 : Int32)) <<< ((0 : Int32) &&& 31)))]))
  refine own_go (fun _ q => XS.ishl X38.here hx rfl (hb hby d32_56) rfl q) ?_
  show own_Fin _ _ _ _ (T38.setTop (mkF m 57 #[.val (.ref bb), .val (.int ((ii <<< ((1 : Int32) &&& 31)) + (1 : Int32)))] [(.int ((((chx >>> ((8 : Int32) &&& 31)).toInt8.toInt32) &&& (255 : Int32)) <<< ((8 : Int32) &&& 31))), (.int (((chx.toInt8.toInt32) &&& (255 : Int32)) <<< ((0 : Int32) &&& 31)))]))
  refine own_go (fun _ q => XS.ior X38.here hx rfl (hb hby d32_57) rfl q) ?_
  show own_Fin _ _ _ _ (T38.setTop (mkF m 58 #[.val (.ref bb), .val (.int ((ii <<< ((1 : Int32) &&& 31)) + (1 : Int32)))] [(.int ((((chx.toInt8.toInt32) &&& (255 : Int32)) <<< ((0 : Int32) &&& 31)) ||| ((((chx >>> ((8 : Int32) &&& 31)).toInt8.toInt32) &&& (255 : Int32)) <<< ((8 : Int32) &&& 31))))]))
  refine own_go (fun _ q => XS.i2c X38.here hx rfl (hb hby d32_58) rfl q) ?_
  show own_Fin _ _ _ _ (T38.setTop (mkF m 59 #[.val (.ref bb), .val (.int ((ii <<< ((1 : Int32) &&& 31)) + (1 : Int32)))] [(.int (((((chx.toInt8.toInt32) &&& (255 : Int32)) <<< ((0 : Int32) &&& 31)) ||| ((((chx >>> ((8 : Int32) &&& 31)).toInt8.toInt32) &&& (255 : Int32)) <<< ((8 : Int32) &&& 31))).toUInt32.toUInt16.toUInt32.toInt32))]))
  rw [show (((((chx.toInt8.toInt32) &&& (255 : Int32)) <<< ((0 : Int32) &&& 31)) ||| ((((chx >>> ((8 : Int32) &&& 31)).toInt8.toInt32) &&& (255 : Int32)) <<< ((8 : Int32) &&& 31))).toUInt32.toUInt16.toUInt32.toInt32) = chx from StrChars.pair_says hbx.1 hbx.2]
  show own_Fin _ _ _ _ (T38.setTop (mkF m 59 #[.val (.ref bb), .val (.int ((ii <<< ((1 : Int32) &&& 31)) + (1 : Int32)))] [(.int chx)]))
  refine own_retI X38 hx Bd (t := .char) Bd.returns (StrChars.narrow_ch hbx.1 hbx.2) (by simp) (hb hby d32_59) ?_ (by decide) (by decide)
  show (Q_rm_gc Z bb kb ii chx nn vs h0 n0) (some (.int chx)) T38.heap _
  rw [e38]
  exact ⟨rfl, N0, rfl⟩
def Q_rm_tob2 (Z : State) (bb : Addr) (kb : ClassId) (ch0 : Int32) (ch1 : Int32) (h0 : Heap) (n0 : Nat) (v : Option Value) (h : Heap) (L : List Loc) : Prop := ∃ (r : Addr) (k : ClassId), v = some (.ref r) ∧ Fr n0 L ∧ Keep h0 h [] ∧ h0.size ≤ r ∧ Arv Z h r k .byte (4 : Int32) [(.int (ch0.toInt8.toInt32)), (.int ((ch0 >>> ((8 : Int32) &&& 31)).toInt8.toInt32)), (.int (ch1.toInt8.toInt32)), (.int ((ch1 >>> ((8 : Int32) &&& 31)).toInt8.toInt32))] (.int (0 : Int32))
theorem ef_rm_tob2 (m : MethodId) (bb : Addr) (ch0 : Int32) (ch1 : Int32) : entryFrame m #[(.ref bb), (.int (0 : Int32)), (.int (2 : Int32))] 5 = mkF m 0 #[.val (.ref bb), .val (.int (0 : Int32)), .val (.int (2 : Int32)), .unset, .unset] [] := by first | (simp [entryFrame, mkF, argsToLocals, Value.category]; done) | rfl
set_option maxRecDepth 65536 in
set_option maxHeartbeats 40000000 in
theorem rm_tob2 (l : Launch) (Z : State) (a0 : Array Value) (hw : ∀ d ∈ tables_1, d.before a0 Z = true) (ws : List Jvm.Cond) (bb : Addr) (kb : ClassId) (ch0 : Int32) (ch1 : Int32) (h0 : Heap) (n0 : Nat) (Z0 : n0 ≤ h0.size) (V_bb : Arv Z h0 bb kb .char (2 : Int32) [(.int ch0), (.int ch1)] (.int (0 : Int32))) (O0 : Old Z n0 h0) (S_A : Sta Z Z.heap "java/lang/StringUTF16" "$assertionsDisabled" "Z" (.int (1 : Int32))) (S_H : Sta Z Z.heap "java/lang/StringUTF16" "HI_BYTE_SHIFT" "I" (.int (0 : Int32))) (S_L : Sta Z Z.heap "java/lang/StringUTF16" "LO_BYTE_SHIFT" "I" (.int (8 : Int32))) :
    MetFree l (⟨"java/lang/StringUTF16", "toBytes", "([CII)[B"⟩ : MethodName) (head1 (Jvm.Cond.code (⟨"java/lang/StringUTF16", "toBytes", "([CII)[B"⟩ : MethodName) jdk_52_method_14_code 5 (some (.array .byte)) :: ws) ({ frames := 2, cells := 1, slots := 4, locals := 24 } : Room)) (fun a_ U_ => a_ = #[(.ref bb), (.int (0 : Int32)), (.int (2 : Int32))] ∧ Z.Warmed39 U_.vm ∧ U_.heap = h0) (fun _ _ _ _ _ => True) (fun _ U_ o_ V_ => ∃ v_ L_, o_ = .returned v_ ∧ (Q_rm_tob2 Z bb kb ch0 ch1 h0 n0) v_ V_.heap L_ ∧ FrameEnd U_ o_ V_ L_ ({ frames := 2, cells := 1, slots := 4, locals := 24 } : Room).cells ({ frames := 2, cells := 1, slots := 4, locals := 24 } : Room).slots) := by
  refine MetFree.of_bodySF (plainFor_of_name pn_2) hisR ?_
  intro p e s m args below meth c s₁ Bd hml0 hP hK
  obtain ⟨rfl, hZ, hh⟩ := hP
  have hx := Bd.exec
  have hby := Bd.bytes
  have hml : c.maxLocals = 5 := hml0
  have hown : s.vm.findClass "java/lang/StringUTF16" = some m.cls := findClass_of_methodNamed Bd.named
  have hnm := (name_of_methodNamed Bd.named Bd.method).1
  have X0 : Stand p l e ({ frames := 2, cells := 1, slots := 4, locals := 24 } : Room) s m #[(.ref bb), (.int (0 : Int32)), (.int (2 : Int32))] below meth c s₁ [] 0 0 := Stand.of_body Bd
  have e0 : s₁.heap = h0 := by rw [← hh, Bd.state]; rfl
  have N0 := Fr.nil n0
  have K0 : Keep h0 h0 [] := Keep.refl _ _
  show own_Fin p.tables e below (own_Post (Q_rm_tob2 Z bb kb ch0 ch1 h0 n0) ({ frames := 2, cells := 1, slots := 4, locals := 24 } : Room).cells ({ frames := 2, cells := 1, slots := 4, locals := 24 } : Room).slots below s) _
  refine own_go (fun _ q => castTop (ef_rm_tob2 m bb ch0 ch1) q) ?_
  refine own_go (fun _ q => XS.iloadN X0.here hx rfl (hb hby d28_0) rfl q) ?_
  show own_Fin _ _ _ _ (s₁.setTop (mkF m 1 #[.val (.ref bb), .val (.int (0 : Int32)), .val (.int (2 : Int32)), .unset, .unset] [(.int (2 : Int32))]))
  obtain ⟨_, _, ⟨T39, L39, k39, n39⟩, -, X39, ⟨Lc39, hQ39, l39, y39, z39⟩, st39⟩ := Jvm.LawKit.callS X0 hx (y := (⟨"java/lang/StringUTF16", "newBytesFor", "(I)[B"⟩ : MethodName)) hown (mvT hZ (own_w hw 122 rfl)) (mvT hZ (own_w hw 123 rfl)) (mvT hZ (own_w hw 43 rfl)) (mvT hZ (own_w hw 124 rfl)) (by decide) (backOf (W := 0) (rm_nbf2 l Z a0 hw [] h0 n0 (Nat.le_trans Z0 K0.1)) hZ (own_w hw 124 rfl) (own_w hw 43 rfl) (by decide) (by decide)) (g := (mkF m 1 #[.val (.ref bb), .val (.int (0 : Int32)), .val (.int (2 : Int32)), .unset, .unset] [(.int (2 : Int32))])) rfl (by rw [hml]; rfl) (argsL := [(.int (2 : Int32))]) (rest := []) (lenOf pd_4 rfl) rfl (by show 2 * 0 + _ ≤ _; exact Nat.le_of_eq rfl) (hb hby d28_1) (fun _ _ => ⟨rfl, e0, (by decide : 0 + 1 ≤ _), (by decide : 0 + 4 ≤ _)⟩)
  dsimp only [Pt.U, Pt.locs, Pt.cells, Pt.slots] at X39 l39 y39 z39 st39 hQ39
  subst l39 y39 z39
  obtain ⟨r39, kk39, rfl, N39q, KK39, sz39, V39⟩ := hQ39
  have N39 := Fr.app N0 N39q
  have sz_r39 : h0.size ≤ r39 := Nat.le_trans K0.1 sz39
  have g_r39 : n0 ≤ r39 := Nat.le_trans Z0 sz_r39
  have ne40 : bb ≠ r39 := Nat.ne_of_lt (Nat.lt_of_lt_of_le V_bb.lt sz39)
  replace V_bb := V_bb.keep KK39 nin0
  replace O0 := O0.keep KK39 all0
  have K41 := K0.trans KK39 all0
  refine own_go st39 ?_
  refine own_go (fun _ q => XS.astoreN X39.here hx rfl (hb hby d28_4) rfl rfl (l' := #[.val (.ref bb), .val (.int (0 : Int32)), .val (.int (2 : Int32)), .val (.ref r39), .unset]) rfl q) ?_
  refine own_go (fun _ q => XS.iconst X39.here hx rfl (hb hby d28_5) q) ?_
  refine own_go (fun _ q => XS.istore X39.here hx rfl (hb hby d28_6) rfl (l' := #[.val (.ref bb), .val (.int (0 : Int32)), .val (.int (2 : Int32)), .val (.ref r39), .val (.int (0 : Int32))]) rfl q) ?_
  refine own_go (fun _ q => XS.iload X39.here hx rfl (hb hby d28_8) rfl q) ?_
  refine own_go (fun _ q => XS.iloadN X39.here hx rfl (hb hby d28_10) rfl q) ?_
  show own_Fin _ _ _ _ (T39.setTop (mkF m 11 #[.val (.ref bb), .val (.int (0 : Int32)), .val (.int (2 : Int32)), .val (.ref r39), .val (.int (0 : Int32))] [(.int (2 : Int32)), (.int (0 : Int32))]))
  refine own_go (fun _ q => XS.icmpNo X39.here hx rfl (hb hby d28_11) rfl (tlt (by decide : (0 : Int32) < (2 : Int32))).2.1 q) ?_
  refine own_go (fun _ q => XS.aloadN X39.here hx rfl (hb hby d28_14) rfl rfl q) ?_
  refine own_go (fun _ q => XS.iload X39.here hx rfl (hb hby d28_15) rfl q) ?_
  refine own_go (fun _ q => XS.aloadN X39.here hx rfl (hb hby d28_17) rfl rfl q) ?_
  refine own_go (fun _ q => XS.iloadN X39.here hx rfl (hb hby d28_18) rfl q) ?_
  show own_Fin _ _ _ _ (T39.setTop (mkF m 19 #[.val (.ref bb), .val (.int (0 : Int32)), .val (.int (2 : Int32)), .val (.ref r39), .val (.int (0 : Int32))] [(.int (0 : Int32)), (.ref bb), (.int (0 : Int32)), (.ref r39)]))
  refine own_go (fun _ q => own_caload X39 hx hZ rfl V_bb (by decide) (v := (.int ch0)) (rfl) (g := (mkF m 19 #[.val (.ref bb), .val (.int (0 : Int32)), .val (.int (2 : Int32)), .val (.ref r39), .val (.int (0 : Int32))] [(.int (0 : Int32)), (.ref bb), (.int (0 : Int32)), (.ref r39)])) rfl rfl (hb hby d28_19) _ q) ?_
  show own_Fin _ _ _ _ (T39.setTop (mkF m 20 #[.val (.ref bb), .val (.int (0 : Int32)), .val (.int (2 : Int32)), .val (.ref r39), .val (.int (0 : Int32))] [(.int ch0), (.int (0 : Int32)), (.ref r39)]))
  obtain ⟨_, _, ⟨T42, L42, k42, n42⟩, -, X42, ⟨Lc42, hQ42, l42, y42, z42⟩, st42⟩ := Jvm.LawKit.callS X39 hx (y := (⟨"java/lang/StringUTF16", "putChar", "([BII)V"⟩ : MethodName)) hown (mvT hZ (own_w hw 129 rfl)) (mvT hZ (own_w hw 130 rfl)) (mvT hZ (own_w hw 43 rfl)) (mvT hZ (own_w hw 131 rfl)) (by decide) (backOf (W := 0) (rm_pc l Z a0 hw [] r39 kk39 (0 : Int32) ch0 (4 : Int32) [(.int (0 : Int32)), (.int (0 : Int32)), (.int (0 : Int32)), (.int (0 : Int32))] 0 1 T39.heap n0 (Nat.le_trans Z0 K41.1) V39 g_r39 (by decide) (by decide) rfl rfl (Nat.le_of_ble_eq_true rfl) (Nat.le_of_ble_eq_true rfl) O0 S_A S_H S_L) hZ (own_w hw 131 rfl) (own_w hw 43 rfl) (by decide) (by decide)) (g := (mkF m 20 #[.val (.ref bb), .val (.int (0 : Int32)), .val (.int (2 : Int32)), .val (.ref r39), .val (.int (0 : Int32))] [(.int ch0), (.int (0 : Int32)), (.ref r39)])) rfl (by rw [hml]; rfl) (argsL := [(.ref r39), (.int (0 : Int32)), (.int ch0)]) (rest := []) (lenOf pd_5 rfl) rfl (by show 2 * 0 + _ ≤ _; exact Nat.le_of_eq rfl) (hb hby d28_20) (fun _ _ => ⟨rfl, rfl, (by decide : 1 + 0 ≤ _), (by decide : 4 + 0 ≤ _)⟩)
  dsimp only [Pt.U, Pt.locs, Pt.cells, Pt.slots] at X42 l42 y42 z42 st42 hQ42
  subst l42 y42 z42
  obtain ⟨rfl, N42q, KK42, V42⟩ := hQ42
  replace V42 : Arv Z _ r39 kk39 .byte (4 : Int32) [(.int (ch0.toInt8.toInt32)), (.int ((ch0 >>> ((8 : Int32) &&& 31)).toInt8.toInt32)), (.int (0 : Int32)), (.int (0 : Int32))] (.int (0 : Int32)) := V42
  have N42 := Fr.app N39 N42q
  replace V_bb := V_bb.keep KK42 (ninS ne40 nin0)
  replace O0 := O0.keep KK42 (allS g_r39 (all0))
  have K43 := K41.trans KK42 (allS (Or.inr sz_r39) all0)
  refine own_go st42 ?_
  show own_Fin _ _ _ _ (T42.setTop (mkF m 23 #[.val (.ref bb), .val (.int (0 : Int32)), .val (.int (2 : Int32)), .val (.ref r39), .val (.int (0 : Int32))] []))
  refine own_go (fun _ q => XS.iinc X42.here hx rfl (hb hby d28_23) rfl (l' := #[.val (.ref bb), .val (.int (1 : Int32)), .val (.int (2 : Int32)), .val (.ref r39), .val (.int (0 : Int32))]) rfl q) ?_
  show own_Fin _ _ _ _ (T42.setTop (mkF m 26 #[.val (.ref bb), .val (.int (1 : Int32)), .val (.int (2 : Int32)), .val (.ref r39), .val (.int (0 : Int32))] []))
  refine own_go (fun _ q => XS.iinc X42.here hx rfl (hb hby d28_26) rfl (l' := #[.val (.ref bb), .val (.int (1 : Int32)), .val (.int (2 : Int32)), .val (.ref r39), .val (.int (1 : Int32))]) rfl q) ?_
  refine own_go (fun _ q => XS.goto X42.here hx rfl (pc0 := 29) (pc' := 8) rfl (hb hby d28_29) (by decide) (by decide) q) ?_
  refine own_go (fun _ q => XS.iload X42.here hx rfl (hb hby d28_8) rfl q) ?_
  refine own_go (fun _ q => XS.iloadN X42.here hx rfl (hb hby d28_10) rfl q) ?_
  show own_Fin _ _ _ _ (T42.setTop (mkF m 11 #[.val (.ref bb), .val (.int (1 : Int32)), .val (.int (2 : Int32)), .val (.ref r39), .val (.int (1 : Int32))] [(.int (2 : Int32)), (.int (1 : Int32))]))
  refine own_go (fun _ q => XS.icmpNo X42.here hx rfl (hb hby d28_11) rfl (tlt (by decide : (1 : Int32) < (2 : Int32))).2.1 q) ?_
  refine own_go (fun _ q => XS.aloadN X42.here hx rfl (hb hby d28_14) rfl rfl q) ?_
  refine own_go (fun _ q => XS.iload X42.here hx rfl (hb hby d28_15) rfl q) ?_
  refine own_go (fun _ q => XS.aloadN X42.here hx rfl (hb hby d28_17) rfl rfl q) ?_
  refine own_go (fun _ q => XS.iloadN X42.here hx rfl (hb hby d28_18) rfl q) ?_
  show own_Fin _ _ _ _ (T42.setTop (mkF m 19 #[.val (.ref bb), .val (.int (1 : Int32)), .val (.int (2 : Int32)), .val (.ref r39), .val (.int (1 : Int32))] [(.int (1 : Int32)), (.ref bb), (.int (1 : Int32)), (.ref r39)]))
  refine own_go (fun _ q => own_caload X42 hx hZ rfl V_bb (by decide) (v := (.int ch1)) (rfl) (g := (mkF m 19 #[.val (.ref bb), .val (.int (1 : Int32)), .val (.int (2 : Int32)), .val (.ref r39), .val (.int (1 : Int32))] [(.int (1 : Int32)), (.ref bb), (.int (1 : Int32)), (.ref r39)])) rfl rfl (hb hby d28_19) _ q) ?_
  show own_Fin _ _ _ _ (T42.setTop (mkF m 20 #[.val (.ref bb), .val (.int (1 : Int32)), .val (.int (2 : Int32)), .val (.ref r39), .val (.int (1 : Int32))] [(.int ch1), (.int (1 : Int32)), (.ref r39)]))
  obtain ⟨_, _, ⟨T44, L44, k44, n44⟩, -, X44, ⟨Lc44, hQ44, l44, y44, z44⟩, st44⟩ := Jvm.LawKit.callS X42 hx (y := (⟨"java/lang/StringUTF16", "putChar", "([BII)V"⟩ : MethodName)) hown (mvT hZ (own_w hw 129 rfl)) (mvT hZ (own_w hw 130 rfl)) (mvT hZ (own_w hw 43 rfl)) (mvT hZ (own_w hw 131 rfl)) (by decide) (backOf (W := 0) (rm_pc l Z a0 hw [] r39 kk39 (1 : Int32) ch1 (4 : Int32) [(.int (ch0.toInt8.toInt32)), (.int ((ch0 >>> ((8 : Int32) &&& 31)).toInt8.toInt32)), (.int (0 : Int32)), (.int (0 : Int32))] 2 3 T42.heap n0 (Nat.le_trans Z0 K43.1) V42 g_r39 (by decide) (by decide) rfl rfl (Nat.le_of_ble_eq_true rfl) (Nat.le_of_ble_eq_true rfl) O0 S_A S_H S_L) hZ (own_w hw 131 rfl) (own_w hw 43 rfl) (by decide) (by decide)) (g := (mkF m 20 #[.val (.ref bb), .val (.int (1 : Int32)), .val (.int (2 : Int32)), .val (.ref r39), .val (.int (1 : Int32))] [(.int ch1), (.int (1 : Int32)), (.ref r39)])) rfl (by rw [hml]; rfl) (argsL := [(.ref r39), (.int (1 : Int32)), (.int ch1)]) (rest := []) (lenOf pd_5 rfl) rfl (by show 2 * 0 + _ ≤ _; exact Nat.le_of_eq rfl) (hb hby d28_20) (fun _ _ => ⟨rfl, rfl, (by decide : 1 + 0 ≤ _), (by decide : 4 + 0 ≤ _)⟩)
  dsimp only [Pt.U, Pt.locs, Pt.cells, Pt.slots] at X44 l44 y44 z44 st44 hQ44
  subst l44 y44 z44
  obtain ⟨rfl, N44q, KK44, V44⟩ := hQ44
  replace V44 : Arv Z _ r39 kk39 .byte (4 : Int32) [(.int (ch0.toInt8.toInt32)), (.int ((ch0 >>> ((8 : Int32) &&& 31)).toInt8.toInt32)), (.int (ch1.toInt8.toInt32)), (.int ((ch1 >>> ((8 : Int32) &&& 31)).toInt8.toInt32))] (.int (0 : Int32)) := V44
  have N44 := Fr.app N42 N44q
  replace V_bb := V_bb.keep KK44 (ninS ne40 nin0)
  replace O0 := O0.keep KK44 (allS g_r39 (all0))
  have K45 := K43.trans KK44 (allS (Or.inr sz_r39) all0)
  refine own_go st44 ?_
  show own_Fin _ _ _ _ (T44.setTop (mkF m 23 #[.val (.ref bb), .val (.int (1 : Int32)), .val (.int (2 : Int32)), .val (.ref r39), .val (.int (1 : Int32))] []))
  refine own_go (fun _ q => XS.iinc X44.here hx rfl (hb hby d28_23) rfl (l' := #[.val (.ref bb), .val (.int (2 : Int32)), .val (.int (2 : Int32)), .val (.ref r39), .val (.int (1 : Int32))]) rfl q) ?_
  show own_Fin _ _ _ _ (T44.setTop (mkF m 26 #[.val (.ref bb), .val (.int (2 : Int32)), .val (.int (2 : Int32)), .val (.ref r39), .val (.int (1 : Int32))] []))
  refine own_go (fun _ q => XS.iinc X44.here hx rfl (hb hby d28_26) rfl (l' := #[.val (.ref bb), .val (.int (2 : Int32)), .val (.int (2 : Int32)), .val (.ref r39), .val (.int (2 : Int32))]) rfl q) ?_
  refine own_go (fun _ q => XS.goto X44.here hx rfl (pc0 := 29) (pc' := 8) rfl (hb hby d28_29) (by decide) (by decide) q) ?_
  refine own_go (fun _ q => XS.iload X44.here hx rfl (hb hby d28_8) rfl q) ?_
  refine own_go (fun _ q => XS.iloadN X44.here hx rfl (hb hby d28_10) rfl q) ?_
  show own_Fin _ _ _ _ (T44.setTop (mkF m 11 #[.val (.ref bb), .val (.int (2 : Int32)), .val (.int (2 : Int32)), .val (.ref r39), .val (.int (2 : Int32))] [(.int (2 : Int32)), (.int (2 : Int32))]))
  refine own_go (fun _ q => XS.icmpYes X44.here hx rfl (pc0 := 11) (pc' := 32) rfl (hb hby d28_11) rfl (flt (by decide : ¬ (2 : Int32) < (2 : Int32))).2.1 (by decide) (by decide) q) ?_
  refine own_go (fun _ q => XS.aloadN X44.here hx rfl (hb hby d28_32) rfl rfl q) ?_
  show own_Fin _ _ _ _ (T44.setTop (mkF m 33 #[.val (.ref bb), .val (.int (2 : Int32)), .val (.int (2 : Int32)), .val (.ref r39), .val (.int (2 : Int32))] [(.ref r39)]))
  refine own_retA X44 hx Bd (t := (.array .byte)) Bd.returns rfl rfl rfl (hb hby d28_33) ?_ (by decide) (by decide)
  show (Q_rm_tob2 Z bb kb ch0 ch1 h0 n0) (some (.ref r39)) T44.heap _
  exact ⟨_, _, rfl, N44, K45, sz_r39, V44⟩
def Q_rm_tob3 (Z : State) (bb : Addr) (kb : ClassId) (ch0 : Int32) (ch1 : Int32) (ch2 : Int32) (h0 : Heap) (n0 : Nat) (v : Option Value) (h : Heap) (L : List Loc) : Prop := ∃ (r : Addr) (k : ClassId), v = some (.ref r) ∧ Fr n0 L ∧ Keep h0 h [] ∧ h0.size ≤ r ∧ Arv Z h r k .byte (6 : Int32) [(.int (ch0.toInt8.toInt32)), (.int ((ch0 >>> ((8 : Int32) &&& 31)).toInt8.toInt32)), (.int (ch1.toInt8.toInt32)), (.int ((ch1 >>> ((8 : Int32) &&& 31)).toInt8.toInt32)), (.int (ch2.toInt8.toInt32)), (.int ((ch2 >>> ((8 : Int32) &&& 31)).toInt8.toInt32))] (.int (0 : Int32))
theorem ef_rm_tob3 (m : MethodId) (bb : Addr) (ch0 : Int32) (ch1 : Int32) (ch2 : Int32) : entryFrame m #[(.ref bb), (.int (0 : Int32)), (.int (3 : Int32))] 5 = mkF m 0 #[.val (.ref bb), .val (.int (0 : Int32)), .val (.int (3 : Int32)), .unset, .unset] [] := by first | (simp [entryFrame, mkF, argsToLocals, Value.category]; done) | rfl
set_option maxRecDepth 65536 in
set_option maxHeartbeats 40000000 in
theorem rm_tob3 (l : Launch) (Z : State) (a0 : Array Value) (hw : ∀ d ∈ tables_1, d.before a0 Z = true) (ws : List Jvm.Cond) (bb : Addr) (kb : ClassId) (ch0 : Int32) (ch1 : Int32) (ch2 : Int32) (h0 : Heap) (n0 : Nat) (Z0 : n0 ≤ h0.size) (V_bb : Arv Z h0 bb kb .char (3 : Int32) [(.int ch0), (.int ch1), (.int ch2)] (.int (0 : Int32))) (O0 : Old Z n0 h0) (S_A : Sta Z Z.heap "java/lang/StringUTF16" "$assertionsDisabled" "Z" (.int (1 : Int32))) (S_H : Sta Z Z.heap "java/lang/StringUTF16" "HI_BYTE_SHIFT" "I" (.int (0 : Int32))) (S_L : Sta Z Z.heap "java/lang/StringUTF16" "LO_BYTE_SHIFT" "I" (.int (8 : Int32))) :
    MetFree l (⟨"java/lang/StringUTF16", "toBytes", "([CII)[B"⟩ : MethodName) (head1 (Jvm.Cond.code (⟨"java/lang/StringUTF16", "toBytes", "([CII)[B"⟩ : MethodName) jdk_52_method_14_code 5 (some (.array .byte)) :: ws) ({ frames := 2, cells := 1, slots := 6, locals := 24 } : Room)) (fun a_ U_ => a_ = #[(.ref bb), (.int (0 : Int32)), (.int (3 : Int32))] ∧ Z.Warmed39 U_.vm ∧ U_.heap = h0) (fun _ _ _ _ _ => True) (fun _ U_ o_ V_ => ∃ v_ L_, o_ = .returned v_ ∧ (Q_rm_tob3 Z bb kb ch0 ch1 ch2 h0 n0) v_ V_.heap L_ ∧ FrameEnd U_ o_ V_ L_ ({ frames := 2, cells := 1, slots := 6, locals := 24 } : Room).cells ({ frames := 2, cells := 1, slots := 6, locals := 24 } : Room).slots) := by
  refine MetFree.of_bodySF (plainFor_of_name pn_2) hisR ?_
  intro p e s m args below meth c s₁ Bd hml0 hP hK
  obtain ⟨rfl, hZ, hh⟩ := hP
  have hx := Bd.exec
  have hby := Bd.bytes
  have hml : c.maxLocals = 5 := hml0
  have hown : s.vm.findClass "java/lang/StringUTF16" = some m.cls := findClass_of_methodNamed Bd.named
  have hnm := (name_of_methodNamed Bd.named Bd.method).1
  have X0 : Stand p l e ({ frames := 2, cells := 1, slots := 6, locals := 24 } : Room) s m #[(.ref bb), (.int (0 : Int32)), (.int (3 : Int32))] below meth c s₁ [] 0 0 := Stand.of_body Bd
  have e0 : s₁.heap = h0 := by rw [← hh, Bd.state]; rfl
  have N0 := Fr.nil n0
  have K0 : Keep h0 h0 [] := Keep.refl _ _
  show own_Fin p.tables e below (own_Post (Q_rm_tob3 Z bb kb ch0 ch1 ch2 h0 n0) ({ frames := 2, cells := 1, slots := 6, locals := 24 } : Room).cells ({ frames := 2, cells := 1, slots := 6, locals := 24 } : Room).slots below s) _
  refine own_go (fun _ q => castTop (ef_rm_tob3 m bb ch0 ch1 ch2) q) ?_
  refine own_go (fun _ q => XS.iloadN X0.here hx rfl (hb hby d28_0) rfl q) ?_
  show own_Fin _ _ _ _ (s₁.setTop (mkF m 1 #[.val (.ref bb), .val (.int (0 : Int32)), .val (.int (3 : Int32)), .unset, .unset] [(.int (3 : Int32))]))
  obtain ⟨_, _, ⟨T46, L46, k46, n46⟩, -, X46, ⟨Lc46, hQ46, l46, y46, z46⟩, st46⟩ := Jvm.LawKit.callS X0 hx (y := (⟨"java/lang/StringUTF16", "newBytesFor", "(I)[B"⟩ : MethodName)) hown (mvT hZ (own_w hw 122 rfl)) (mvT hZ (own_w hw 123 rfl)) (mvT hZ (own_w hw 43 rfl)) (mvT hZ (own_w hw 124 rfl)) (by decide) (backOf (W := 0) (rm_nbf3 l Z a0 hw [] h0 n0 (Nat.le_trans Z0 K0.1)) hZ (own_w hw 124 rfl) (own_w hw 43 rfl) (by decide) (by decide)) (g := (mkF m 1 #[.val (.ref bb), .val (.int (0 : Int32)), .val (.int (3 : Int32)), .unset, .unset] [(.int (3 : Int32))])) rfl (by rw [hml]; rfl) (argsL := [(.int (3 : Int32))]) (rest := []) (lenOf pd_4 rfl) rfl (by show 2 * 0 + _ ≤ _; exact Nat.le_of_eq rfl) (hb hby d28_1) (fun _ _ => ⟨rfl, e0, (by decide : 0 + 1 ≤ _), (by decide : 0 + 6 ≤ _)⟩)
  dsimp only [Pt.U, Pt.locs, Pt.cells, Pt.slots] at X46 l46 y46 z46 st46 hQ46
  subst l46 y46 z46
  obtain ⟨r46, kk46, rfl, N46q, KK46, sz46, V46⟩ := hQ46
  have N46 := Fr.app N0 N46q
  have sz_r46 : h0.size ≤ r46 := Nat.le_trans K0.1 sz46
  have g_r46 : n0 ≤ r46 := Nat.le_trans Z0 sz_r46
  have ne47 : bb ≠ r46 := Nat.ne_of_lt (Nat.lt_of_lt_of_le V_bb.lt sz46)
  replace V_bb := V_bb.keep KK46 nin0
  replace O0 := O0.keep KK46 all0
  have K48 := K0.trans KK46 all0
  refine own_go st46 ?_
  refine own_go (fun _ q => XS.astoreN X46.here hx rfl (hb hby d28_4) rfl rfl (l' := #[.val (.ref bb), .val (.int (0 : Int32)), .val (.int (3 : Int32)), .val (.ref r46), .unset]) rfl q) ?_
  refine own_go (fun _ q => XS.iconst X46.here hx rfl (hb hby d28_5) q) ?_
  refine own_go (fun _ q => XS.istore X46.here hx rfl (hb hby d28_6) rfl (l' := #[.val (.ref bb), .val (.int (0 : Int32)), .val (.int (3 : Int32)), .val (.ref r46), .val (.int (0 : Int32))]) rfl q) ?_
  refine own_go (fun _ q => XS.iload X46.here hx rfl (hb hby d28_8) rfl q) ?_
  refine own_go (fun _ q => XS.iloadN X46.here hx rfl (hb hby d28_10) rfl q) ?_
  show own_Fin _ _ _ _ (T46.setTop (mkF m 11 #[.val (.ref bb), .val (.int (0 : Int32)), .val (.int (3 : Int32)), .val (.ref r46), .val (.int (0 : Int32))] [(.int (3 : Int32)), (.int (0 : Int32))]))
  refine own_go (fun _ q => XS.icmpNo X46.here hx rfl (hb hby d28_11) rfl (tlt (by decide : (0 : Int32) < (3 : Int32))).2.1 q) ?_
  refine own_go (fun _ q => XS.aloadN X46.here hx rfl (hb hby d28_14) rfl rfl q) ?_
  refine own_go (fun _ q => XS.iload X46.here hx rfl (hb hby d28_15) rfl q) ?_
  refine own_go (fun _ q => XS.aloadN X46.here hx rfl (hb hby d28_17) rfl rfl q) ?_
  refine own_go (fun _ q => XS.iloadN X46.here hx rfl (hb hby d28_18) rfl q) ?_
  show own_Fin _ _ _ _ (T46.setTop (mkF m 19 #[.val (.ref bb), .val (.int (0 : Int32)), .val (.int (3 : Int32)), .val (.ref r46), .val (.int (0 : Int32))] [(.int (0 : Int32)), (.ref bb), (.int (0 : Int32)), (.ref r46)]))
  refine own_go (fun _ q => own_caload X46 hx hZ rfl V_bb (by decide) (v := (.int ch0)) (rfl) (g := (mkF m 19 #[.val (.ref bb), .val (.int (0 : Int32)), .val (.int (3 : Int32)), .val (.ref r46), .val (.int (0 : Int32))] [(.int (0 : Int32)), (.ref bb), (.int (0 : Int32)), (.ref r46)])) rfl rfl (hb hby d28_19) _ q) ?_
  show own_Fin _ _ _ _ (T46.setTop (mkF m 20 #[.val (.ref bb), .val (.int (0 : Int32)), .val (.int (3 : Int32)), .val (.ref r46), .val (.int (0 : Int32))] [(.int ch0), (.int (0 : Int32)), (.ref r46)]))
  obtain ⟨_, _, ⟨T49, L49, k49, n49⟩, -, X49, ⟨Lc49, hQ49, l49, y49, z49⟩, st49⟩ := Jvm.LawKit.callS X46 hx (y := (⟨"java/lang/StringUTF16", "putChar", "([BII)V"⟩ : MethodName)) hown (mvT hZ (own_w hw 129 rfl)) (mvT hZ (own_w hw 130 rfl)) (mvT hZ (own_w hw 43 rfl)) (mvT hZ (own_w hw 131 rfl)) (by decide) (backOf (W := 0) (rm_pc l Z a0 hw [] r46 kk46 (0 : Int32) ch0 (6 : Int32) [(.int (0 : Int32)), (.int (0 : Int32)), (.int (0 : Int32)), (.int (0 : Int32)), (.int (0 : Int32)), (.int (0 : Int32))] 0 1 T46.heap n0 (Nat.le_trans Z0 K48.1) V46 g_r46 (by decide) (by decide) rfl rfl (Nat.le_of_ble_eq_true rfl) (Nat.le_of_ble_eq_true rfl) O0 S_A S_H S_L) hZ (own_w hw 131 rfl) (own_w hw 43 rfl) (by decide) (by decide)) (g := (mkF m 20 #[.val (.ref bb), .val (.int (0 : Int32)), .val (.int (3 : Int32)), .val (.ref r46), .val (.int (0 : Int32))] [(.int ch0), (.int (0 : Int32)), (.ref r46)])) rfl (by rw [hml]; rfl) (argsL := [(.ref r46), (.int (0 : Int32)), (.int ch0)]) (rest := []) (lenOf pd_5 rfl) rfl (by show 2 * 0 + _ ≤ _; exact Nat.le_of_eq rfl) (hb hby d28_20) (fun _ _ => ⟨rfl, rfl, (by decide : 1 + 0 ≤ _), (by decide : 6 + 0 ≤ _)⟩)
  dsimp only [Pt.U, Pt.locs, Pt.cells, Pt.slots] at X49 l49 y49 z49 st49 hQ49
  subst l49 y49 z49
  obtain ⟨rfl, N49q, KK49, V49⟩ := hQ49
  replace V49 : Arv Z _ r46 kk46 .byte (6 : Int32) [(.int (ch0.toInt8.toInt32)), (.int ((ch0 >>> ((8 : Int32) &&& 31)).toInt8.toInt32)), (.int (0 : Int32)), (.int (0 : Int32)), (.int (0 : Int32)), (.int (0 : Int32))] (.int (0 : Int32)) := V49
  have N49 := Fr.app N46 N49q
  replace V_bb := V_bb.keep KK49 (ninS ne47 nin0)
  replace O0 := O0.keep KK49 (allS g_r46 (all0))
  have K50 := K48.trans KK49 (allS (Or.inr sz_r46) all0)
  refine own_go st49 ?_
  show own_Fin _ _ _ _ (T49.setTop (mkF m 23 #[.val (.ref bb), .val (.int (0 : Int32)), .val (.int (3 : Int32)), .val (.ref r46), .val (.int (0 : Int32))] []))
  refine own_go (fun _ q => XS.iinc X49.here hx rfl (hb hby d28_23) rfl (l' := #[.val (.ref bb), .val (.int (1 : Int32)), .val (.int (3 : Int32)), .val (.ref r46), .val (.int (0 : Int32))]) rfl q) ?_
  show own_Fin _ _ _ _ (T49.setTop (mkF m 26 #[.val (.ref bb), .val (.int (1 : Int32)), .val (.int (3 : Int32)), .val (.ref r46), .val (.int (0 : Int32))] []))
  refine own_go (fun _ q => XS.iinc X49.here hx rfl (hb hby d28_26) rfl (l' := #[.val (.ref bb), .val (.int (1 : Int32)), .val (.int (3 : Int32)), .val (.ref r46), .val (.int (1 : Int32))]) rfl q) ?_
  refine own_go (fun _ q => XS.goto X49.here hx rfl (pc0 := 29) (pc' := 8) rfl (hb hby d28_29) (by decide) (by decide) q) ?_
  refine own_go (fun _ q => XS.iload X49.here hx rfl (hb hby d28_8) rfl q) ?_
  refine own_go (fun _ q => XS.iloadN X49.here hx rfl (hb hby d28_10) rfl q) ?_
  show own_Fin _ _ _ _ (T49.setTop (mkF m 11 #[.val (.ref bb), .val (.int (1 : Int32)), .val (.int (3 : Int32)), .val (.ref r46), .val (.int (1 : Int32))] [(.int (3 : Int32)), (.int (1 : Int32))]))
  refine own_go (fun _ q => XS.icmpNo X49.here hx rfl (hb hby d28_11) rfl (tlt (by decide : (1 : Int32) < (3 : Int32))).2.1 q) ?_
  refine own_go (fun _ q => XS.aloadN X49.here hx rfl (hb hby d28_14) rfl rfl q) ?_
  refine own_go (fun _ q => XS.iload X49.here hx rfl (hb hby d28_15) rfl q) ?_
  refine own_go (fun _ q => XS.aloadN X49.here hx rfl (hb hby d28_17) rfl rfl q) ?_
  refine own_go (fun _ q => XS.iloadN X49.here hx rfl (hb hby d28_18) rfl q) ?_
  show own_Fin _ _ _ _ (T49.setTop (mkF m 19 #[.val (.ref bb), .val (.int (1 : Int32)), .val (.int (3 : Int32)), .val (.ref r46), .val (.int (1 : Int32))] [(.int (1 : Int32)), (.ref bb), (.int (1 : Int32)), (.ref r46)]))
  refine own_go (fun _ q => own_caload X49 hx hZ rfl V_bb (by decide) (v := (.int ch1)) (rfl) (g := (mkF m 19 #[.val (.ref bb), .val (.int (1 : Int32)), .val (.int (3 : Int32)), .val (.ref r46), .val (.int (1 : Int32))] [(.int (1 : Int32)), (.ref bb), (.int (1 : Int32)), (.ref r46)])) rfl rfl (hb hby d28_19) _ q) ?_
  show own_Fin _ _ _ _ (T49.setTop (mkF m 20 #[.val (.ref bb), .val (.int (1 : Int32)), .val (.int (3 : Int32)), .val (.ref r46), .val (.int (1 : Int32))] [(.int ch1), (.int (1 : Int32)), (.ref r46)]))
  obtain ⟨_, _, ⟨T51, L51, k51, n51⟩, -, X51, ⟨Lc51, hQ51, l51, y51, z51⟩, st51⟩ := Jvm.LawKit.callS X49 hx (y := (⟨"java/lang/StringUTF16", "putChar", "([BII)V"⟩ : MethodName)) hown (mvT hZ (own_w hw 129 rfl)) (mvT hZ (own_w hw 130 rfl)) (mvT hZ (own_w hw 43 rfl)) (mvT hZ (own_w hw 131 rfl)) (by decide) (backOf (W := 0) (rm_pc l Z a0 hw [] r46 kk46 (1 : Int32) ch1 (6 : Int32) [(.int (ch0.toInt8.toInt32)), (.int ((ch0 >>> ((8 : Int32) &&& 31)).toInt8.toInt32)), (.int (0 : Int32)), (.int (0 : Int32)), (.int (0 : Int32)), (.int (0 : Int32))] 2 3 T49.heap n0 (Nat.le_trans Z0 K50.1) V49 g_r46 (by decide) (by decide) rfl rfl (Nat.le_of_ble_eq_true rfl) (Nat.le_of_ble_eq_true rfl) O0 S_A S_H S_L) hZ (own_w hw 131 rfl) (own_w hw 43 rfl) (by decide) (by decide)) (g := (mkF m 20 #[.val (.ref bb), .val (.int (1 : Int32)), .val (.int (3 : Int32)), .val (.ref r46), .val (.int (1 : Int32))] [(.int ch1), (.int (1 : Int32)), (.ref r46)])) rfl (by rw [hml]; rfl) (argsL := [(.ref r46), (.int (1 : Int32)), (.int ch1)]) (rest := []) (lenOf pd_5 rfl) rfl (by show 2 * 0 + _ ≤ _; exact Nat.le_of_eq rfl) (hb hby d28_20) (fun _ _ => ⟨rfl, rfl, (by decide : 1 + 0 ≤ _), (by decide : 6 + 0 ≤ _)⟩)
  dsimp only [Pt.U, Pt.locs, Pt.cells, Pt.slots] at X51 l51 y51 z51 st51 hQ51
  subst l51 y51 z51
  obtain ⟨rfl, N51q, KK51, V51⟩ := hQ51
  replace V51 : Arv Z _ r46 kk46 .byte (6 : Int32) [(.int (ch0.toInt8.toInt32)), (.int ((ch0 >>> ((8 : Int32) &&& 31)).toInt8.toInt32)), (.int (ch1.toInt8.toInt32)), (.int ((ch1 >>> ((8 : Int32) &&& 31)).toInt8.toInt32)), (.int (0 : Int32)), (.int (0 : Int32))] (.int (0 : Int32)) := V51
  have N51 := Fr.app N49 N51q
  replace V_bb := V_bb.keep KK51 (ninS ne47 nin0)
  replace O0 := O0.keep KK51 (allS g_r46 (all0))
  have K52 := K50.trans KK51 (allS (Or.inr sz_r46) all0)
  refine own_go st51 ?_
  show own_Fin _ _ _ _ (T51.setTop (mkF m 23 #[.val (.ref bb), .val (.int (1 : Int32)), .val (.int (3 : Int32)), .val (.ref r46), .val (.int (1 : Int32))] []))
  refine own_go (fun _ q => XS.iinc X51.here hx rfl (hb hby d28_23) rfl (l' := #[.val (.ref bb), .val (.int (2 : Int32)), .val (.int (3 : Int32)), .val (.ref r46), .val (.int (1 : Int32))]) rfl q) ?_
  show own_Fin _ _ _ _ (T51.setTop (mkF m 26 #[.val (.ref bb), .val (.int (2 : Int32)), .val (.int (3 : Int32)), .val (.ref r46), .val (.int (1 : Int32))] []))
  refine own_go (fun _ q => XS.iinc X51.here hx rfl (hb hby d28_26) rfl (l' := #[.val (.ref bb), .val (.int (2 : Int32)), .val (.int (3 : Int32)), .val (.ref r46), .val (.int (2 : Int32))]) rfl q) ?_
  refine own_go (fun _ q => XS.goto X51.here hx rfl (pc0 := 29) (pc' := 8) rfl (hb hby d28_29) (by decide) (by decide) q) ?_
  refine own_go (fun _ q => XS.iload X51.here hx rfl (hb hby d28_8) rfl q) ?_
  refine own_go (fun _ q => XS.iloadN X51.here hx rfl (hb hby d28_10) rfl q) ?_
  show own_Fin _ _ _ _ (T51.setTop (mkF m 11 #[.val (.ref bb), .val (.int (2 : Int32)), .val (.int (3 : Int32)), .val (.ref r46), .val (.int (2 : Int32))] [(.int (3 : Int32)), (.int (2 : Int32))]))
  refine own_go (fun _ q => XS.icmpNo X51.here hx rfl (hb hby d28_11) rfl (tlt (by decide : (2 : Int32) < (3 : Int32))).2.1 q) ?_
  refine own_go (fun _ q => XS.aloadN X51.here hx rfl (hb hby d28_14) rfl rfl q) ?_
  refine own_go (fun _ q => XS.iload X51.here hx rfl (hb hby d28_15) rfl q) ?_
  refine own_go (fun _ q => XS.aloadN X51.here hx rfl (hb hby d28_17) rfl rfl q) ?_
  refine own_go (fun _ q => XS.iloadN X51.here hx rfl (hb hby d28_18) rfl q) ?_
  show own_Fin _ _ _ _ (T51.setTop (mkF m 19 #[.val (.ref bb), .val (.int (2 : Int32)), .val (.int (3 : Int32)), .val (.ref r46), .val (.int (2 : Int32))] [(.int (2 : Int32)), (.ref bb), (.int (2 : Int32)), (.ref r46)]))
  refine own_go (fun _ q => own_caload X51 hx hZ rfl V_bb (by decide) (v := (.int ch2)) (rfl) (g := (mkF m 19 #[.val (.ref bb), .val (.int (2 : Int32)), .val (.int (3 : Int32)), .val (.ref r46), .val (.int (2 : Int32))] [(.int (2 : Int32)), (.ref bb), (.int (2 : Int32)), (.ref r46)])) rfl rfl (hb hby d28_19) _ q) ?_
  show own_Fin _ _ _ _ (T51.setTop (mkF m 20 #[.val (.ref bb), .val (.int (2 : Int32)), .val (.int (3 : Int32)), .val (.ref r46), .val (.int (2 : Int32))] [(.int ch2), (.int (2 : Int32)), (.ref r46)]))
  obtain ⟨_, _, ⟨T53, L53, k53, n53⟩, -, X53, ⟨Lc53, hQ53, l53, y53, z53⟩, st53⟩ := Jvm.LawKit.callS X51 hx (y := (⟨"java/lang/StringUTF16", "putChar", "([BII)V"⟩ : MethodName)) hown (mvT hZ (own_w hw 129 rfl)) (mvT hZ (own_w hw 130 rfl)) (mvT hZ (own_w hw 43 rfl)) (mvT hZ (own_w hw 131 rfl)) (by decide) (backOf (W := 0) (rm_pc l Z a0 hw [] r46 kk46 (2 : Int32) ch2 (6 : Int32) [(.int (ch0.toInt8.toInt32)), (.int ((ch0 >>> ((8 : Int32) &&& 31)).toInt8.toInt32)), (.int (ch1.toInt8.toInt32)), (.int ((ch1 >>> ((8 : Int32) &&& 31)).toInt8.toInt32)), (.int (0 : Int32)), (.int (0 : Int32))] 4 5 T51.heap n0 (Nat.le_trans Z0 K52.1) V51 g_r46 (by decide) (by decide) rfl rfl (Nat.le_of_ble_eq_true rfl) (Nat.le_of_ble_eq_true rfl) O0 S_A S_H S_L) hZ (own_w hw 131 rfl) (own_w hw 43 rfl) (by decide) (by decide)) (g := (mkF m 20 #[.val (.ref bb), .val (.int (2 : Int32)), .val (.int (3 : Int32)), .val (.ref r46), .val (.int (2 : Int32))] [(.int ch2), (.int (2 : Int32)), (.ref r46)])) rfl (by rw [hml]; rfl) (argsL := [(.ref r46), (.int (2 : Int32)), (.int ch2)]) (rest := []) (lenOf pd_5 rfl) rfl (by show 2 * 0 + _ ≤ _; exact Nat.le_of_eq rfl) (hb hby d28_20) (fun _ _ => ⟨rfl, rfl, (by decide : 1 + 0 ≤ _), (by decide : 6 + 0 ≤ _)⟩)
  dsimp only [Pt.U, Pt.locs, Pt.cells, Pt.slots] at X53 l53 y53 z53 st53 hQ53
  subst l53 y53 z53
  obtain ⟨rfl, N53q, KK53, V53⟩ := hQ53
  replace V53 : Arv Z _ r46 kk46 .byte (6 : Int32) [(.int (ch0.toInt8.toInt32)), (.int ((ch0 >>> ((8 : Int32) &&& 31)).toInt8.toInt32)), (.int (ch1.toInt8.toInt32)), (.int ((ch1 >>> ((8 : Int32) &&& 31)).toInt8.toInt32)), (.int (ch2.toInt8.toInt32)), (.int ((ch2 >>> ((8 : Int32) &&& 31)).toInt8.toInt32))] (.int (0 : Int32)) := V53
  have N53 := Fr.app N51 N53q
  replace V_bb := V_bb.keep KK53 (ninS ne47 nin0)
  replace O0 := O0.keep KK53 (allS g_r46 (all0))
  have K54 := K52.trans KK53 (allS (Or.inr sz_r46) all0)
  refine own_go st53 ?_
  show own_Fin _ _ _ _ (T53.setTop (mkF m 23 #[.val (.ref bb), .val (.int (2 : Int32)), .val (.int (3 : Int32)), .val (.ref r46), .val (.int (2 : Int32))] []))
  refine own_go (fun _ q => XS.iinc X53.here hx rfl (hb hby d28_23) rfl (l' := #[.val (.ref bb), .val (.int (3 : Int32)), .val (.int (3 : Int32)), .val (.ref r46), .val (.int (2 : Int32))]) rfl q) ?_
  show own_Fin _ _ _ _ (T53.setTop (mkF m 26 #[.val (.ref bb), .val (.int (3 : Int32)), .val (.int (3 : Int32)), .val (.ref r46), .val (.int (2 : Int32))] []))
  refine own_go (fun _ q => XS.iinc X53.here hx rfl (hb hby d28_26) rfl (l' := #[.val (.ref bb), .val (.int (3 : Int32)), .val (.int (3 : Int32)), .val (.ref r46), .val (.int (3 : Int32))]) rfl q) ?_
  refine own_go (fun _ q => XS.goto X53.here hx rfl (pc0 := 29) (pc' := 8) rfl (hb hby d28_29) (by decide) (by decide) q) ?_
  refine own_go (fun _ q => XS.iload X53.here hx rfl (hb hby d28_8) rfl q) ?_
  refine own_go (fun _ q => XS.iloadN X53.here hx rfl (hb hby d28_10) rfl q) ?_
  show own_Fin _ _ _ _ (T53.setTop (mkF m 11 #[.val (.ref bb), .val (.int (3 : Int32)), .val (.int (3 : Int32)), .val (.ref r46), .val (.int (3 : Int32))] [(.int (3 : Int32)), (.int (3 : Int32))]))
  refine own_go (fun _ q => XS.icmpYes X53.here hx rfl (pc0 := 11) (pc' := 32) rfl (hb hby d28_11) rfl (flt (by decide : ¬ (3 : Int32) < (3 : Int32))).2.1 (by decide) (by decide) q) ?_
  refine own_go (fun _ q => XS.aloadN X53.here hx rfl (hb hby d28_32) rfl rfl q) ?_
  show own_Fin _ _ _ _ (T53.setTop (mkF m 33 #[.val (.ref bb), .val (.int (3 : Int32)), .val (.int (3 : Int32)), .val (.ref r46), .val (.int (3 : Int32))] [(.ref r46)]))
  refine own_retA X53 hx Bd (t := (.array .byte)) Bd.returns rfl rfl rfl (hb hby d28_33) ?_ (by decide) (by decide)
  show (Q_rm_tob3 Z bb kb ch0 ch1 ch2 h0 n0) (some (.ref r46)) T53.heap _
  exact ⟨_, _, rfl, N53, K54, sz_r46, V53⟩
def Q_rm_tob4 (Z : State) (bb : Addr) (kb : ClassId) (ch0 : Int32) (ch1 : Int32) (ch2 : Int32) (ch3 : Int32) (h0 : Heap) (n0 : Nat) (v : Option Value) (h : Heap) (L : List Loc) : Prop := ∃ (r : Addr) (k : ClassId), v = some (.ref r) ∧ Fr n0 L ∧ Keep h0 h [] ∧ h0.size ≤ r ∧ Arv Z h r k .byte (8 : Int32) [(.int (ch0.toInt8.toInt32)), (.int ((ch0 >>> ((8 : Int32) &&& 31)).toInt8.toInt32)), (.int (ch1.toInt8.toInt32)), (.int ((ch1 >>> ((8 : Int32) &&& 31)).toInt8.toInt32)), (.int (ch2.toInt8.toInt32)), (.int ((ch2 >>> ((8 : Int32) &&& 31)).toInt8.toInt32)), (.int (ch3.toInt8.toInt32)), (.int ((ch3 >>> ((8 : Int32) &&& 31)).toInt8.toInt32))] (.int (0 : Int32))
theorem ef_rm_tob4 (m : MethodId) (bb : Addr) (ch0 : Int32) (ch1 : Int32) (ch2 : Int32) (ch3 : Int32) : entryFrame m #[(.ref bb), (.int (0 : Int32)), (.int (4 : Int32))] 5 = mkF m 0 #[.val (.ref bb), .val (.int (0 : Int32)), .val (.int (4 : Int32)), .unset, .unset] [] := by first | (simp [entryFrame, mkF, argsToLocals, Value.category]; done) | rfl
set_option maxRecDepth 65536 in
set_option maxHeartbeats 40000000 in
theorem rm_tob4 (l : Launch) (Z : State) (a0 : Array Value) (hw : ∀ d ∈ tables_1, d.before a0 Z = true) (ws : List Jvm.Cond) (bb : Addr) (kb : ClassId) (ch0 : Int32) (ch1 : Int32) (ch2 : Int32) (ch3 : Int32) (h0 : Heap) (n0 : Nat) (Z0 : n0 ≤ h0.size) (V_bb : Arv Z h0 bb kb .char (4 : Int32) [(.int ch0), (.int ch1), (.int ch2), (.int ch3)] (.int (0 : Int32))) (O0 : Old Z n0 h0) (S_A : Sta Z Z.heap "java/lang/StringUTF16" "$assertionsDisabled" "Z" (.int (1 : Int32))) (S_H : Sta Z Z.heap "java/lang/StringUTF16" "HI_BYTE_SHIFT" "I" (.int (0 : Int32))) (S_L : Sta Z Z.heap "java/lang/StringUTF16" "LO_BYTE_SHIFT" "I" (.int (8 : Int32))) :
    MetFree l (⟨"java/lang/StringUTF16", "toBytes", "([CII)[B"⟩ : MethodName) (head1 (Jvm.Cond.code (⟨"java/lang/StringUTF16", "toBytes", "([CII)[B"⟩ : MethodName) jdk_52_method_14_code 5 (some (.array .byte)) :: ws) ({ frames := 2, cells := 1, slots := 8, locals := 24 } : Room)) (fun a_ U_ => a_ = #[(.ref bb), (.int (0 : Int32)), (.int (4 : Int32))] ∧ Z.Warmed39 U_.vm ∧ U_.heap = h0) (fun _ _ _ _ _ => True) (fun _ U_ o_ V_ => ∃ v_ L_, o_ = .returned v_ ∧ (Q_rm_tob4 Z bb kb ch0 ch1 ch2 ch3 h0 n0) v_ V_.heap L_ ∧ FrameEnd U_ o_ V_ L_ ({ frames := 2, cells := 1, slots := 8, locals := 24 } : Room).cells ({ frames := 2, cells := 1, slots := 8, locals := 24 } : Room).slots) := by
  refine MetFree.of_bodySF (plainFor_of_name pn_2) hisR ?_
  intro p e s m args below meth c s₁ Bd hml0 hP hK
  obtain ⟨rfl, hZ, hh⟩ := hP
  have hx := Bd.exec
  have hby := Bd.bytes
  have hml : c.maxLocals = 5 := hml0
  have hown : s.vm.findClass "java/lang/StringUTF16" = some m.cls := findClass_of_methodNamed Bd.named
  have hnm := (name_of_methodNamed Bd.named Bd.method).1
  have X0 : Stand p l e ({ frames := 2, cells := 1, slots := 8, locals := 24 } : Room) s m #[(.ref bb), (.int (0 : Int32)), (.int (4 : Int32))] below meth c s₁ [] 0 0 := Stand.of_body Bd
  have e0 : s₁.heap = h0 := by rw [← hh, Bd.state]; rfl
  have N0 := Fr.nil n0
  have K0 : Keep h0 h0 [] := Keep.refl _ _
  show own_Fin p.tables e below (own_Post (Q_rm_tob4 Z bb kb ch0 ch1 ch2 ch3 h0 n0) ({ frames := 2, cells := 1, slots := 8, locals := 24 } : Room).cells ({ frames := 2, cells := 1, slots := 8, locals := 24 } : Room).slots below s) _
  refine own_go (fun _ q => castTop (ef_rm_tob4 m bb ch0 ch1 ch2 ch3) q) ?_
  refine own_go (fun _ q => XS.iloadN X0.here hx rfl (hb hby d28_0) rfl q) ?_
  show own_Fin _ _ _ _ (s₁.setTop (mkF m 1 #[.val (.ref bb), .val (.int (0 : Int32)), .val (.int (4 : Int32)), .unset, .unset] [(.int (4 : Int32))]))
  obtain ⟨_, _, ⟨T55, L55, k55, n55⟩, -, X55, ⟨Lc55, hQ55, l55, y55, z55⟩, st55⟩ := Jvm.LawKit.callS X0 hx (y := (⟨"java/lang/StringUTF16", "newBytesFor", "(I)[B"⟩ : MethodName)) hown (mvT hZ (own_w hw 122 rfl)) (mvT hZ (own_w hw 123 rfl)) (mvT hZ (own_w hw 43 rfl)) (mvT hZ (own_w hw 124 rfl)) (by decide) (backOf (W := 0) (rm_nbf4 l Z a0 hw [] h0 n0 (Nat.le_trans Z0 K0.1)) hZ (own_w hw 124 rfl) (own_w hw 43 rfl) (by decide) (by decide)) (g := (mkF m 1 #[.val (.ref bb), .val (.int (0 : Int32)), .val (.int (4 : Int32)), .unset, .unset] [(.int (4 : Int32))])) rfl (by rw [hml]; rfl) (argsL := [(.int (4 : Int32))]) (rest := []) (lenOf pd_4 rfl) rfl (by show 2 * 0 + _ ≤ _; exact Nat.le_of_eq rfl) (hb hby d28_1) (fun _ _ => ⟨rfl, e0, (by decide : 0 + 1 ≤ _), (by decide : 0 + 8 ≤ _)⟩)
  dsimp only [Pt.U, Pt.locs, Pt.cells, Pt.slots] at X55 l55 y55 z55 st55 hQ55
  subst l55 y55 z55
  obtain ⟨r55, kk55, rfl, N55q, KK55, sz55, V55⟩ := hQ55
  have N55 := Fr.app N0 N55q
  have sz_r55 : h0.size ≤ r55 := Nat.le_trans K0.1 sz55
  have g_r55 : n0 ≤ r55 := Nat.le_trans Z0 sz_r55
  have ne56 : bb ≠ r55 := Nat.ne_of_lt (Nat.lt_of_lt_of_le V_bb.lt sz55)
  replace V_bb := V_bb.keep KK55 nin0
  replace O0 := O0.keep KK55 all0
  have K57 := K0.trans KK55 all0
  refine own_go st55 ?_
  refine own_go (fun _ q => XS.astoreN X55.here hx rfl (hb hby d28_4) rfl rfl (l' := #[.val (.ref bb), .val (.int (0 : Int32)), .val (.int (4 : Int32)), .val (.ref r55), .unset]) rfl q) ?_
  refine own_go (fun _ q => XS.iconst X55.here hx rfl (hb hby d28_5) q) ?_
  refine own_go (fun _ q => XS.istore X55.here hx rfl (hb hby d28_6) rfl (l' := #[.val (.ref bb), .val (.int (0 : Int32)), .val (.int (4 : Int32)), .val (.ref r55), .val (.int (0 : Int32))]) rfl q) ?_
  refine own_go (fun _ q => XS.iload X55.here hx rfl (hb hby d28_8) rfl q) ?_
  refine own_go (fun _ q => XS.iloadN X55.here hx rfl (hb hby d28_10) rfl q) ?_
  show own_Fin _ _ _ _ (T55.setTop (mkF m 11 #[.val (.ref bb), .val (.int (0 : Int32)), .val (.int (4 : Int32)), .val (.ref r55), .val (.int (0 : Int32))] [(.int (4 : Int32)), (.int (0 : Int32))]))
  refine own_go (fun _ q => XS.icmpNo X55.here hx rfl (hb hby d28_11) rfl (tlt (by decide : (0 : Int32) < (4 : Int32))).2.1 q) ?_
  refine own_go (fun _ q => XS.aloadN X55.here hx rfl (hb hby d28_14) rfl rfl q) ?_
  refine own_go (fun _ q => XS.iload X55.here hx rfl (hb hby d28_15) rfl q) ?_
  refine own_go (fun _ q => XS.aloadN X55.here hx rfl (hb hby d28_17) rfl rfl q) ?_
  refine own_go (fun _ q => XS.iloadN X55.here hx rfl (hb hby d28_18) rfl q) ?_
  show own_Fin _ _ _ _ (T55.setTop (mkF m 19 #[.val (.ref bb), .val (.int (0 : Int32)), .val (.int (4 : Int32)), .val (.ref r55), .val (.int (0 : Int32))] [(.int (0 : Int32)), (.ref bb), (.int (0 : Int32)), (.ref r55)]))
  refine own_go (fun _ q => own_caload X55 hx hZ rfl V_bb (by decide) (v := (.int ch0)) (rfl) (g := (mkF m 19 #[.val (.ref bb), .val (.int (0 : Int32)), .val (.int (4 : Int32)), .val (.ref r55), .val (.int (0 : Int32))] [(.int (0 : Int32)), (.ref bb), (.int (0 : Int32)), (.ref r55)])) rfl rfl (hb hby d28_19) _ q) ?_
  show own_Fin _ _ _ _ (T55.setTop (mkF m 20 #[.val (.ref bb), .val (.int (0 : Int32)), .val (.int (4 : Int32)), .val (.ref r55), .val (.int (0 : Int32))] [(.int ch0), (.int (0 : Int32)), (.ref r55)]))
  obtain ⟨_, _, ⟨T58, L58, k58, n58⟩, -, X58, ⟨Lc58, hQ58, l58, y58, z58⟩, st58⟩ := Jvm.LawKit.callS X55 hx (y := (⟨"java/lang/StringUTF16", "putChar", "([BII)V"⟩ : MethodName)) hown (mvT hZ (own_w hw 129 rfl)) (mvT hZ (own_w hw 130 rfl)) (mvT hZ (own_w hw 43 rfl)) (mvT hZ (own_w hw 131 rfl)) (by decide) (backOf (W := 0) (rm_pc l Z a0 hw [] r55 kk55 (0 : Int32) ch0 (8 : Int32) [(.int (0 : Int32)), (.int (0 : Int32)), (.int (0 : Int32)), (.int (0 : Int32)), (.int (0 : Int32)), (.int (0 : Int32)), (.int (0 : Int32)), (.int (0 : Int32))] 0 1 T55.heap n0 (Nat.le_trans Z0 K57.1) V55 g_r55 (by decide) (by decide) rfl rfl (Nat.le_of_ble_eq_true rfl) (Nat.le_of_ble_eq_true rfl) O0 S_A S_H S_L) hZ (own_w hw 131 rfl) (own_w hw 43 rfl) (by decide) (by decide)) (g := (mkF m 20 #[.val (.ref bb), .val (.int (0 : Int32)), .val (.int (4 : Int32)), .val (.ref r55), .val (.int (0 : Int32))] [(.int ch0), (.int (0 : Int32)), (.ref r55)])) rfl (by rw [hml]; rfl) (argsL := [(.ref r55), (.int (0 : Int32)), (.int ch0)]) (rest := []) (lenOf pd_5 rfl) rfl (by show 2 * 0 + _ ≤ _; exact Nat.le_of_eq rfl) (hb hby d28_20) (fun _ _ => ⟨rfl, rfl, (by decide : 1 + 0 ≤ _), (by decide : 8 + 0 ≤ _)⟩)
  dsimp only [Pt.U, Pt.locs, Pt.cells, Pt.slots] at X58 l58 y58 z58 st58 hQ58
  subst l58 y58 z58
  obtain ⟨rfl, N58q, KK58, V58⟩ := hQ58
  replace V58 : Arv Z _ r55 kk55 .byte (8 : Int32) [(.int (ch0.toInt8.toInt32)), (.int ((ch0 >>> ((8 : Int32) &&& 31)).toInt8.toInt32)), (.int (0 : Int32)), (.int (0 : Int32)), (.int (0 : Int32)), (.int (0 : Int32)), (.int (0 : Int32)), (.int (0 : Int32))] (.int (0 : Int32)) := V58
  have N58 := Fr.app N55 N58q
  replace V_bb := V_bb.keep KK58 (ninS ne56 nin0)
  replace O0 := O0.keep KK58 (allS g_r55 (all0))
  have K59 := K57.trans KK58 (allS (Or.inr sz_r55) all0)
  refine own_go st58 ?_
  show own_Fin _ _ _ _ (T58.setTop (mkF m 23 #[.val (.ref bb), .val (.int (0 : Int32)), .val (.int (4 : Int32)), .val (.ref r55), .val (.int (0 : Int32))] []))
  refine own_go (fun _ q => XS.iinc X58.here hx rfl (hb hby d28_23) rfl (l' := #[.val (.ref bb), .val (.int (1 : Int32)), .val (.int (4 : Int32)), .val (.ref r55), .val (.int (0 : Int32))]) rfl q) ?_
  show own_Fin _ _ _ _ (T58.setTop (mkF m 26 #[.val (.ref bb), .val (.int (1 : Int32)), .val (.int (4 : Int32)), .val (.ref r55), .val (.int (0 : Int32))] []))
  refine own_go (fun _ q => XS.iinc X58.here hx rfl (hb hby d28_26) rfl (l' := #[.val (.ref bb), .val (.int (1 : Int32)), .val (.int (4 : Int32)), .val (.ref r55), .val (.int (1 : Int32))]) rfl q) ?_
  refine own_go (fun _ q => XS.goto X58.here hx rfl (pc0 := 29) (pc' := 8) rfl (hb hby d28_29) (by decide) (by decide) q) ?_
  refine own_go (fun _ q => XS.iload X58.here hx rfl (hb hby d28_8) rfl q) ?_
  refine own_go (fun _ q => XS.iloadN X58.here hx rfl (hb hby d28_10) rfl q) ?_
  show own_Fin _ _ _ _ (T58.setTop (mkF m 11 #[.val (.ref bb), .val (.int (1 : Int32)), .val (.int (4 : Int32)), .val (.ref r55), .val (.int (1 : Int32))] [(.int (4 : Int32)), (.int (1 : Int32))]))
  refine own_go (fun _ q => XS.icmpNo X58.here hx rfl (hb hby d28_11) rfl (tlt (by decide : (1 : Int32) < (4 : Int32))).2.1 q) ?_
  refine own_go (fun _ q => XS.aloadN X58.here hx rfl (hb hby d28_14) rfl rfl q) ?_
  refine own_go (fun _ q => XS.iload X58.here hx rfl (hb hby d28_15) rfl q) ?_
  refine own_go (fun _ q => XS.aloadN X58.here hx rfl (hb hby d28_17) rfl rfl q) ?_
  refine own_go (fun _ q => XS.iloadN X58.here hx rfl (hb hby d28_18) rfl q) ?_
  show own_Fin _ _ _ _ (T58.setTop (mkF m 19 #[.val (.ref bb), .val (.int (1 : Int32)), .val (.int (4 : Int32)), .val (.ref r55), .val (.int (1 : Int32))] [(.int (1 : Int32)), (.ref bb), (.int (1 : Int32)), (.ref r55)]))
  refine own_go (fun _ q => own_caload X58 hx hZ rfl V_bb (by decide) (v := (.int ch1)) (rfl) (g := (mkF m 19 #[.val (.ref bb), .val (.int (1 : Int32)), .val (.int (4 : Int32)), .val (.ref r55), .val (.int (1 : Int32))] [(.int (1 : Int32)), (.ref bb), (.int (1 : Int32)), (.ref r55)])) rfl rfl (hb hby d28_19) _ q) ?_
  show own_Fin _ _ _ _ (T58.setTop (mkF m 20 #[.val (.ref bb), .val (.int (1 : Int32)), .val (.int (4 : Int32)), .val (.ref r55), .val (.int (1 : Int32))] [(.int ch1), (.int (1 : Int32)), (.ref r55)]))
  obtain ⟨_, _, ⟨T60, L60, k60, n60⟩, -, X60, ⟨Lc60, hQ60, l60, y60, z60⟩, st60⟩ := Jvm.LawKit.callS X58 hx (y := (⟨"java/lang/StringUTF16", "putChar", "([BII)V"⟩ : MethodName)) hown (mvT hZ (own_w hw 129 rfl)) (mvT hZ (own_w hw 130 rfl)) (mvT hZ (own_w hw 43 rfl)) (mvT hZ (own_w hw 131 rfl)) (by decide) (backOf (W := 0) (rm_pc l Z a0 hw [] r55 kk55 (1 : Int32) ch1 (8 : Int32) [(.int (ch0.toInt8.toInt32)), (.int ((ch0 >>> ((8 : Int32) &&& 31)).toInt8.toInt32)), (.int (0 : Int32)), (.int (0 : Int32)), (.int (0 : Int32)), (.int (0 : Int32)), (.int (0 : Int32)), (.int (0 : Int32))] 2 3 T58.heap n0 (Nat.le_trans Z0 K59.1) V58 g_r55 (by decide) (by decide) rfl rfl (Nat.le_of_ble_eq_true rfl) (Nat.le_of_ble_eq_true rfl) O0 S_A S_H S_L) hZ (own_w hw 131 rfl) (own_w hw 43 rfl) (by decide) (by decide)) (g := (mkF m 20 #[.val (.ref bb), .val (.int (1 : Int32)), .val (.int (4 : Int32)), .val (.ref r55), .val (.int (1 : Int32))] [(.int ch1), (.int (1 : Int32)), (.ref r55)])) rfl (by rw [hml]; rfl) (argsL := [(.ref r55), (.int (1 : Int32)), (.int ch1)]) (rest := []) (lenOf pd_5 rfl) rfl (by show 2 * 0 + _ ≤ _; exact Nat.le_of_eq rfl) (hb hby d28_20) (fun _ _ => ⟨rfl, rfl, (by decide : 1 + 0 ≤ _), (by decide : 8 + 0 ≤ _)⟩)
  dsimp only [Pt.U, Pt.locs, Pt.cells, Pt.slots] at X60 l60 y60 z60 st60 hQ60
  subst l60 y60 z60
  obtain ⟨rfl, N60q, KK60, V60⟩ := hQ60
  replace V60 : Arv Z _ r55 kk55 .byte (8 : Int32) [(.int (ch0.toInt8.toInt32)), (.int ((ch0 >>> ((8 : Int32) &&& 31)).toInt8.toInt32)), (.int (ch1.toInt8.toInt32)), (.int ((ch1 >>> ((8 : Int32) &&& 31)).toInt8.toInt32)), (.int (0 : Int32)), (.int (0 : Int32)), (.int (0 : Int32)), (.int (0 : Int32))] (.int (0 : Int32)) := V60
  have N60 := Fr.app N58 N60q
  replace V_bb := V_bb.keep KK60 (ninS ne56 nin0)
  replace O0 := O0.keep KK60 (allS g_r55 (all0))
  have K61 := K59.trans KK60 (allS (Or.inr sz_r55) all0)
  refine own_go st60 ?_
  show own_Fin _ _ _ _ (T60.setTop (mkF m 23 #[.val (.ref bb), .val (.int (1 : Int32)), .val (.int (4 : Int32)), .val (.ref r55), .val (.int (1 : Int32))] []))
  refine own_go (fun _ q => XS.iinc X60.here hx rfl (hb hby d28_23) rfl (l' := #[.val (.ref bb), .val (.int (2 : Int32)), .val (.int (4 : Int32)), .val (.ref r55), .val (.int (1 : Int32))]) rfl q) ?_
  show own_Fin _ _ _ _ (T60.setTop (mkF m 26 #[.val (.ref bb), .val (.int (2 : Int32)), .val (.int (4 : Int32)), .val (.ref r55), .val (.int (1 : Int32))] []))
  refine own_go (fun _ q => XS.iinc X60.here hx rfl (hb hby d28_26) rfl (l' := #[.val (.ref bb), .val (.int (2 : Int32)), .val (.int (4 : Int32)), .val (.ref r55), .val (.int (2 : Int32))]) rfl q) ?_
  refine own_go (fun _ q => XS.goto X60.here hx rfl (pc0 := 29) (pc' := 8) rfl (hb hby d28_29) (by decide) (by decide) q) ?_
  refine own_go (fun _ q => XS.iload X60.here hx rfl (hb hby d28_8) rfl q) ?_
  refine own_go (fun _ q => XS.iloadN X60.here hx rfl (hb hby d28_10) rfl q) ?_
  show own_Fin _ _ _ _ (T60.setTop (mkF m 11 #[.val (.ref bb), .val (.int (2 : Int32)), .val (.int (4 : Int32)), .val (.ref r55), .val (.int (2 : Int32))] [(.int (4 : Int32)), (.int (2 : Int32))]))
  refine own_go (fun _ q => XS.icmpNo X60.here hx rfl (hb hby d28_11) rfl (tlt (by decide : (2 : Int32) < (4 : Int32))).2.1 q) ?_
  refine own_go (fun _ q => XS.aloadN X60.here hx rfl (hb hby d28_14) rfl rfl q) ?_
  refine own_go (fun _ q => XS.iload X60.here hx rfl (hb hby d28_15) rfl q) ?_
  refine own_go (fun _ q => XS.aloadN X60.here hx rfl (hb hby d28_17) rfl rfl q) ?_
  refine own_go (fun _ q => XS.iloadN X60.here hx rfl (hb hby d28_18) rfl q) ?_
  show own_Fin _ _ _ _ (T60.setTop (mkF m 19 #[.val (.ref bb), .val (.int (2 : Int32)), .val (.int (4 : Int32)), .val (.ref r55), .val (.int (2 : Int32))] [(.int (2 : Int32)), (.ref bb), (.int (2 : Int32)), (.ref r55)]))
  refine own_go (fun _ q => own_caload X60 hx hZ rfl V_bb (by decide) (v := (.int ch2)) (rfl) (g := (mkF m 19 #[.val (.ref bb), .val (.int (2 : Int32)), .val (.int (4 : Int32)), .val (.ref r55), .val (.int (2 : Int32))] [(.int (2 : Int32)), (.ref bb), (.int (2 : Int32)), (.ref r55)])) rfl rfl (hb hby d28_19) _ q) ?_
  show own_Fin _ _ _ _ (T60.setTop (mkF m 20 #[.val (.ref bb), .val (.int (2 : Int32)), .val (.int (4 : Int32)), .val (.ref r55), .val (.int (2 : Int32))] [(.int ch2), (.int (2 : Int32)), (.ref r55)]))
  obtain ⟨_, _, ⟨T62, L62, k62, n62⟩, -, X62, ⟨Lc62, hQ62, l62, y62, z62⟩, st62⟩ := Jvm.LawKit.callS X60 hx (y := (⟨"java/lang/StringUTF16", "putChar", "([BII)V"⟩ : MethodName)) hown (mvT hZ (own_w hw 129 rfl)) (mvT hZ (own_w hw 130 rfl)) (mvT hZ (own_w hw 43 rfl)) (mvT hZ (own_w hw 131 rfl)) (by decide) (backOf (W := 0) (rm_pc l Z a0 hw [] r55 kk55 (2 : Int32) ch2 (8 : Int32) [(.int (ch0.toInt8.toInt32)), (.int ((ch0 >>> ((8 : Int32) &&& 31)).toInt8.toInt32)), (.int (ch1.toInt8.toInt32)), (.int ((ch1 >>> ((8 : Int32) &&& 31)).toInt8.toInt32)), (.int (0 : Int32)), (.int (0 : Int32)), (.int (0 : Int32)), (.int (0 : Int32))] 4 5 T60.heap n0 (Nat.le_trans Z0 K61.1) V60 g_r55 (by decide) (by decide) rfl rfl (Nat.le_of_ble_eq_true rfl) (Nat.le_of_ble_eq_true rfl) O0 S_A S_H S_L) hZ (own_w hw 131 rfl) (own_w hw 43 rfl) (by decide) (by decide)) (g := (mkF m 20 #[.val (.ref bb), .val (.int (2 : Int32)), .val (.int (4 : Int32)), .val (.ref r55), .val (.int (2 : Int32))] [(.int ch2), (.int (2 : Int32)), (.ref r55)])) rfl (by rw [hml]; rfl) (argsL := [(.ref r55), (.int (2 : Int32)), (.int ch2)]) (rest := []) (lenOf pd_5 rfl) rfl (by show 2 * 0 + _ ≤ _; exact Nat.le_of_eq rfl) (hb hby d28_20) (fun _ _ => ⟨rfl, rfl, (by decide : 1 + 0 ≤ _), (by decide : 8 + 0 ≤ _)⟩)
  dsimp only [Pt.U, Pt.locs, Pt.cells, Pt.slots] at X62 l62 y62 z62 st62 hQ62
  subst l62 y62 z62
  obtain ⟨rfl, N62q, KK62, V62⟩ := hQ62
  replace V62 : Arv Z _ r55 kk55 .byte (8 : Int32) [(.int (ch0.toInt8.toInt32)), (.int ((ch0 >>> ((8 : Int32) &&& 31)).toInt8.toInt32)), (.int (ch1.toInt8.toInt32)), (.int ((ch1 >>> ((8 : Int32) &&& 31)).toInt8.toInt32)), (.int (ch2.toInt8.toInt32)), (.int ((ch2 >>> ((8 : Int32) &&& 31)).toInt8.toInt32)), (.int (0 : Int32)), (.int (0 : Int32))] (.int (0 : Int32)) := V62
  have N62 := Fr.app N60 N62q
  replace V_bb := V_bb.keep KK62 (ninS ne56 nin0)
  replace O0 := O0.keep KK62 (allS g_r55 (all0))
  have K63 := K61.trans KK62 (allS (Or.inr sz_r55) all0)
  refine own_go st62 ?_
  show own_Fin _ _ _ _ (T62.setTop (mkF m 23 #[.val (.ref bb), .val (.int (2 : Int32)), .val (.int (4 : Int32)), .val (.ref r55), .val (.int (2 : Int32))] []))
  refine own_go (fun _ q => XS.iinc X62.here hx rfl (hb hby d28_23) rfl (l' := #[.val (.ref bb), .val (.int (3 : Int32)), .val (.int (4 : Int32)), .val (.ref r55), .val (.int (2 : Int32))]) rfl q) ?_
  show own_Fin _ _ _ _ (T62.setTop (mkF m 26 #[.val (.ref bb), .val (.int (3 : Int32)), .val (.int (4 : Int32)), .val (.ref r55), .val (.int (2 : Int32))] []))
  refine own_go (fun _ q => XS.iinc X62.here hx rfl (hb hby d28_26) rfl (l' := #[.val (.ref bb), .val (.int (3 : Int32)), .val (.int (4 : Int32)), .val (.ref r55), .val (.int (3 : Int32))]) rfl q) ?_
  refine own_go (fun _ q => XS.goto X62.here hx rfl (pc0 := 29) (pc' := 8) rfl (hb hby d28_29) (by decide) (by decide) q) ?_
  refine own_go (fun _ q => XS.iload X62.here hx rfl (hb hby d28_8) rfl q) ?_
  refine own_go (fun _ q => XS.iloadN X62.here hx rfl (hb hby d28_10) rfl q) ?_
  show own_Fin _ _ _ _ (T62.setTop (mkF m 11 #[.val (.ref bb), .val (.int (3 : Int32)), .val (.int (4 : Int32)), .val (.ref r55), .val (.int (3 : Int32))] [(.int (4 : Int32)), (.int (3 : Int32))]))
  refine own_go (fun _ q => XS.icmpNo X62.here hx rfl (hb hby d28_11) rfl (tlt (by decide : (3 : Int32) < (4 : Int32))).2.1 q) ?_
  refine own_go (fun _ q => XS.aloadN X62.here hx rfl (hb hby d28_14) rfl rfl q) ?_
  refine own_go (fun _ q => XS.iload X62.here hx rfl (hb hby d28_15) rfl q) ?_
  refine own_go (fun _ q => XS.aloadN X62.here hx rfl (hb hby d28_17) rfl rfl q) ?_
  refine own_go (fun _ q => XS.iloadN X62.here hx rfl (hb hby d28_18) rfl q) ?_
  show own_Fin _ _ _ _ (T62.setTop (mkF m 19 #[.val (.ref bb), .val (.int (3 : Int32)), .val (.int (4 : Int32)), .val (.ref r55), .val (.int (3 : Int32))] [(.int (3 : Int32)), (.ref bb), (.int (3 : Int32)), (.ref r55)]))
  refine own_go (fun _ q => own_caload X62 hx hZ rfl V_bb (by decide) (v := (.int ch3)) (rfl) (g := (mkF m 19 #[.val (.ref bb), .val (.int (3 : Int32)), .val (.int (4 : Int32)), .val (.ref r55), .val (.int (3 : Int32))] [(.int (3 : Int32)), (.ref bb), (.int (3 : Int32)), (.ref r55)])) rfl rfl (hb hby d28_19) _ q) ?_
  show own_Fin _ _ _ _ (T62.setTop (mkF m 20 #[.val (.ref bb), .val (.int (3 : Int32)), .val (.int (4 : Int32)), .val (.ref r55), .val (.int (3 : Int32))] [(.int ch3), (.int (3 : Int32)), (.ref r55)]))
  obtain ⟨_, _, ⟨T64, L64, k64, n64⟩, -, X64, ⟨Lc64, hQ64, l64, y64, z64⟩, st64⟩ := Jvm.LawKit.callS X62 hx (y := (⟨"java/lang/StringUTF16", "putChar", "([BII)V"⟩ : MethodName)) hown (mvT hZ (own_w hw 129 rfl)) (mvT hZ (own_w hw 130 rfl)) (mvT hZ (own_w hw 43 rfl)) (mvT hZ (own_w hw 131 rfl)) (by decide) (backOf (W := 0) (rm_pc l Z a0 hw [] r55 kk55 (3 : Int32) ch3 (8 : Int32) [(.int (ch0.toInt8.toInt32)), (.int ((ch0 >>> ((8 : Int32) &&& 31)).toInt8.toInt32)), (.int (ch1.toInt8.toInt32)), (.int ((ch1 >>> ((8 : Int32) &&& 31)).toInt8.toInt32)), (.int (ch2.toInt8.toInt32)), (.int ((ch2 >>> ((8 : Int32) &&& 31)).toInt8.toInt32)), (.int (0 : Int32)), (.int (0 : Int32))] 6 7 T62.heap n0 (Nat.le_trans Z0 K63.1) V62 g_r55 (by decide) (by decide) rfl rfl (Nat.le_of_ble_eq_true rfl) (Nat.le_of_ble_eq_true rfl) O0 S_A S_H S_L) hZ (own_w hw 131 rfl) (own_w hw 43 rfl) (by decide) (by decide)) (g := (mkF m 20 #[.val (.ref bb), .val (.int (3 : Int32)), .val (.int (4 : Int32)), .val (.ref r55), .val (.int (3 : Int32))] [(.int ch3), (.int (3 : Int32)), (.ref r55)])) rfl (by rw [hml]; rfl) (argsL := [(.ref r55), (.int (3 : Int32)), (.int ch3)]) (rest := []) (lenOf pd_5 rfl) rfl (by show 2 * 0 + _ ≤ _; exact Nat.le_of_eq rfl) (hb hby d28_20) (fun _ _ => ⟨rfl, rfl, (by decide : 1 + 0 ≤ _), (by decide : 8 + 0 ≤ _)⟩)
  dsimp only [Pt.U, Pt.locs, Pt.cells, Pt.slots] at X64 l64 y64 z64 st64 hQ64
  subst l64 y64 z64
  obtain ⟨rfl, N64q, KK64, V64⟩ := hQ64
  replace V64 : Arv Z _ r55 kk55 .byte (8 : Int32) [(.int (ch0.toInt8.toInt32)), (.int ((ch0 >>> ((8 : Int32) &&& 31)).toInt8.toInt32)), (.int (ch1.toInt8.toInt32)), (.int ((ch1 >>> ((8 : Int32) &&& 31)).toInt8.toInt32)), (.int (ch2.toInt8.toInt32)), (.int ((ch2 >>> ((8 : Int32) &&& 31)).toInt8.toInt32)), (.int (ch3.toInt8.toInt32)), (.int ((ch3 >>> ((8 : Int32) &&& 31)).toInt8.toInt32))] (.int (0 : Int32)) := V64
  have N64 := Fr.app N62 N64q
  replace V_bb := V_bb.keep KK64 (ninS ne56 nin0)
  replace O0 := O0.keep KK64 (allS g_r55 (all0))
  have K65 := K63.trans KK64 (allS (Or.inr sz_r55) all0)
  refine own_go st64 ?_
  show own_Fin _ _ _ _ (T64.setTop (mkF m 23 #[.val (.ref bb), .val (.int (3 : Int32)), .val (.int (4 : Int32)), .val (.ref r55), .val (.int (3 : Int32))] []))
  refine own_go (fun _ q => XS.iinc X64.here hx rfl (hb hby d28_23) rfl (l' := #[.val (.ref bb), .val (.int (4 : Int32)), .val (.int (4 : Int32)), .val (.ref r55), .val (.int (3 : Int32))]) rfl q) ?_
  show own_Fin _ _ _ _ (T64.setTop (mkF m 26 #[.val (.ref bb), .val (.int (4 : Int32)), .val (.int (4 : Int32)), .val (.ref r55), .val (.int (3 : Int32))] []))
  refine own_go (fun _ q => XS.iinc X64.here hx rfl (hb hby d28_26) rfl (l' := #[.val (.ref bb), .val (.int (4 : Int32)), .val (.int (4 : Int32)), .val (.ref r55), .val (.int (4 : Int32))]) rfl q) ?_
  refine own_go (fun _ q => XS.goto X64.here hx rfl (pc0 := 29) (pc' := 8) rfl (hb hby d28_29) (by decide) (by decide) q) ?_
  refine own_go (fun _ q => XS.iload X64.here hx rfl (hb hby d28_8) rfl q) ?_
  refine own_go (fun _ q => XS.iloadN X64.here hx rfl (hb hby d28_10) rfl q) ?_
  show own_Fin _ _ _ _ (T64.setTop (mkF m 11 #[.val (.ref bb), .val (.int (4 : Int32)), .val (.int (4 : Int32)), .val (.ref r55), .val (.int (4 : Int32))] [(.int (4 : Int32)), (.int (4 : Int32))]))
  refine own_go (fun _ q => XS.icmpYes X64.here hx rfl (pc0 := 11) (pc' := 32) rfl (hb hby d28_11) rfl (flt (by decide : ¬ (4 : Int32) < (4 : Int32))).2.1 (by decide) (by decide) q) ?_
  refine own_go (fun _ q => XS.aloadN X64.here hx rfl (hb hby d28_32) rfl rfl q) ?_
  show own_Fin _ _ _ _ (T64.setTop (mkF m 33 #[.val (.ref bb), .val (.int (4 : Int32)), .val (.int (4 : Int32)), .val (.ref r55), .val (.int (4 : Int32))] [(.ref r55)]))
  refine own_retA X64 hx Bd (t := (.array .byte)) Bd.returns rfl rfl rfl (hb hby d28_33) ?_ (by decide) (by decide)
  show (Q_rm_tob4 Z bb kb ch0 ch1 ch2 ch3 h0 n0) (some (.ref r55)) T64.heap _
  exact ⟨_, _, rfl, N64, K65, sz_r55, V64⟩
def Q_rm_c5_2 (Z : State) (bb : Addr) (kb : ClassId) (dd : Addr) (kd : ClassId) (ch0 : Int32) (ch1 : Int32) (h0 : Heap) (n0 : Nat) (v : Option Value) (h : Heap) (L : List Loc) : Prop := Fr n0 L ∧ Keep h0 h [dd] ∧ ((∃ ii chx : Int32, v = some (.int ii) ∧ ¬ ii = (2 : Int32) ∧ (¬ (ii <<< ((1 : Int32) &&& 31)) < 0 ∧ (ii <<< ((1 : Int32) &&& 31)) < (4 : Int32)) ∧ (¬ ((ii <<< ((1 : Int32) &&& 31)) + (1 : Int32)) < 0 ∧ ((ii <<< ((1 : Int32) &&& 31)) + (1 : Int32)) < (4 : Int32)) ∧ List.getD ([(.int (ch0.toInt8.toInt32)), (.int ((ch0 >>> ((8 : Int32) &&& 31)).toInt8.toInt32)), (.int (ch1.toInt8.toInt32)), (.int ((ch1 >>> ((8 : Int32) &&& 31)).toInt8.toInt32))] : List Value) (ii <<< ((1 : Int32) &&& 31)).toNatClampNeg (.int (0 : Int32)) = .int (chx.toInt8.toInt32) ∧ List.getD ([(.int (ch0.toInt8.toInt32)), (.int ((ch0 >>> ((8 : Int32) &&& 31)).toInt8.toInt32)), (.int (ch1.toInt8.toInt32)), (.int ((ch1 >>> ((8 : Int32) &&& 31)).toInt8.toInt32))] : List Value) ((ii <<< ((1 : Int32) &&& 31)) + (1 : Int32)).toNatClampNeg (.int (0 : Int32)) = .int ((chx >>> ((8 : Int32) &&& 31)).toInt8.toInt32) ∧ chx ∈ ([ch0, ch1] : List Int32) ∧ (255 : Int32) < chx) ∨ (v = some (.int (2 : Int32)) ∧ (∀ c ∈ ([ch0, ch1] : List Int32), ¬ (255 : Int32) < c) ∧ Arv Z h dd kd .byte (2 : Int32) [(.int (ch0.toInt8.toInt32)), (.int (ch1.toInt8.toInt32))] (.int (0 : Int32))))
theorem ef_rm_c5_2 (m : MethodId) (bb : Addr) (dd : Addr) (ch0 : Int32) (ch1 : Int32) : entryFrame m #[(.ref bb), (.int (0 : Int32)), (.ref dd), (.int (0 : Int32)), (.int (2 : Int32))] 7 = mkF m 0 #[.val (.ref bb), .val (.int (0 : Int32)), .val (.ref dd), .val (.int (0 : Int32)), .val (.int (2 : Int32)), .unset, .unset] [] := by first | (simp [entryFrame, mkF, argsToLocals, Value.category]; done) | rfl
set_option maxRecDepth 65536 in
set_option maxHeartbeats 40000000 in
theorem rm_c5_2 (l : Launch) (Z : State) (a0 : Array Value) (hw : ∀ d ∈ tables_1, d.before a0 Z = true) (ws : List Jvm.Cond) (bb : Addr) (kb : ClassId) (dd : Addr) (kd : ClassId) (ch0 : Int32) (ch1 : Int32) (h0 : Heap) (n0 : Nat) (Z0 : n0 ≤ h0.size) (V_bb : Arv Z h0 bb kb .char (2 : Int32) [(.int ch0), (.int ch1)] (.int (0 : Int32))) (V_dd : Arv Z h0 dd kd .byte (2 : Int32) [(.int (0 : Int32)), (.int (0 : Int32))] (.int (0 : Int32))) (g_dd : n0 ≤ dd) (neb : bb ≠ dd) :
    MetFree l (⟨"java/lang/StringUTF16", "compress", "([CI[BII)I"⟩ : MethodName) (head1 (Jvm.Cond.code (⟨"java/lang/StringUTF16", "compress", "([CI[BII)I"⟩ : MethodName) jdk_52_method_21_code 7 (some .int) :: ws) ({ frames := 0, cells := 0, slots := 0, locals := 0 } : Room)) (fun a_ U_ => a_ = #[(.ref bb), (.int (0 : Int32)), (.ref dd), (.int (0 : Int32)), (.int (2 : Int32))] ∧ Z.Warmed39 U_.vm ∧ U_.heap = h0) (fun _ _ _ _ _ => True) (fun _ U_ o_ V_ => ∃ v_ L_, o_ = .returned v_ ∧ (Q_rm_c5_2 Z bb kb dd kd ch0 ch1 h0 n0) v_ V_.heap L_ ∧ FrameEnd U_ o_ V_ L_ ({ frames := 0, cells := 0, slots := 0, locals := 0 } : Room).cells ({ frames := 0, cells := 0, slots := 0, locals := 0 } : Room).slots) := by
  refine MetFree.of_bodySF (plainFor_of_name pn_2) hisR ?_
  intro p e s m args below meth c s₁ Bd hml0 hP hK
  obtain ⟨rfl, hZ, hh⟩ := hP
  have hx := Bd.exec
  have hby := Bd.bytes
  have hml : c.maxLocals = 7 := hml0
  have hown : s.vm.findClass "java/lang/StringUTF16" = some m.cls := findClass_of_methodNamed Bd.named
  have hnm := (name_of_methodNamed Bd.named Bd.method).1
  have X0 : Stand p l e ({ frames := 0, cells := 0, slots := 0, locals := 0 } : Room) s m #[(.ref bb), (.int (0 : Int32)), (.ref dd), (.int (0 : Int32)), (.int (2 : Int32))] below meth c s₁ [] 0 0 := Stand.of_body Bd
  have e0 : s₁.heap = h0 := by rw [← hh, Bd.state]; rfl
  have N0 := Fr.nil n0
  have K0 : Keep h0 h0 [dd] := Keep.refl _ _
  show own_Fin p.tables e below (own_Post (Q_rm_c5_2 Z bb kb dd kd ch0 ch1 h0 n0) ({ frames := 0, cells := 0, slots := 0, locals := 0 } : Room).cells ({ frames := 0, cells := 0, slots := 0, locals := 0 } : Room).slots below s) _
  refine own_go (fun _ q => castTop (ef_rm_c5_2 m bb dd ch0 ch1) q) ?_
  refine own_go (fun _ q => XS.iconst X0.here hx rfl (hb hby d9_0) q) ?_
  refine own_go (fun _ q => XS.istore X0.here hx rfl (hb hby d9_1) rfl (l' := #[.val (.ref bb), .val (.int (0 : Int32)), .val (.ref dd), .val (.int (0 : Int32)), .val (.int (2 : Int32)), .val (.int (0 : Int32)), .unset]) rfl q) ?_
  refine own_go (fun _ q => XS.iload X0.here hx rfl (hb hby d9_3) rfl q) ?_
  refine own_go (fun _ q => XS.iload X0.here hx rfl (hb hby d9_5) rfl q) ?_
  show own_Fin _ _ _ _ (s₁.setTop (mkF m 7 #[.val (.ref bb), .val (.int (0 : Int32)), .val (.ref dd), .val (.int (0 : Int32)), .val (.int (2 : Int32)), .val (.int (0 : Int32)), .unset] [(.int (2 : Int32)), (.int (0 : Int32))]))
  refine own_go (fun _ q => XS.icmpNo X0.here hx rfl (hb hby d9_7) rfl (tlt (by decide : (0 : Int32) < (2 : Int32))).2.1 q) ?_
  refine own_go (fun _ q => XS.aloadN X0.here hx rfl (hb hby d9_10) rfl rfl q) ?_
  refine own_go (fun _ q => XS.iloadN X0.here hx rfl (hb hby d9_11) rfl q) ?_
  show own_Fin _ _ _ _ (s₁.setTop (mkF m 12 #[.val (.ref bb), .val (.int (0 : Int32)), .val (.ref dd), .val (.int (0 : Int32)), .val (.int (2 : Int32)), .val (.int (0 : Int32)), .unset] [(.int (0 : Int32)), (.ref bb)]))
  refine own_go (fun _ q => own_caload X0 hx hZ e0 V_bb (by decide) (v := (.int ch0)) (rfl) (g := (mkF m 12 #[.val (.ref bb), .val (.int (0 : Int32)), .val (.ref dd), .val (.int (0 : Int32)), .val (.int (2 : Int32)), .val (.int (0 : Int32)), .unset] [(.int (0 : Int32)), (.ref bb)])) rfl rfl (hb hby d9_12) _ q) ?_
  refine own_go (fun _ q => XS.istore X0.here hx rfl (hb hby d9_13) rfl (l' := #[.val (.ref bb), .val (.int (0 : Int32)), .val (.ref dd), .val (.int (0 : Int32)), .val (.int (2 : Int32)), .val (.int (0 : Int32)), .val (.int ch0)]) rfl q) ?_
  refine own_go (fun _ q => XS.iload X0.here hx rfl (hb hby d9_15) rfl q) ?_
  refine own_go (fun _ q => XS.sipush X0.here hx rfl (hb hby d9_17) q) ?_
  show own_Fin _ _ _ _ (s₁.setTop (mkF m 20 #[.val (.ref bb), .val (.int (0 : Int32)), .val (.ref dd), .val (.int (0 : Int32)), .val (.int (2 : Int32)), .val (.int (0 : Int32)), .val (.int ch0)] [(.int (255 : Int32)), (.int ch0)]))
  by_cases hc66 : (255 : Int32) < ch0
  · skip
    refine own_go (fun _ q => XS.icmpNo X0.here hx rfl (hb hby d9_20) rfl (tlt hc66).2.2.2 q) ?_
    refine own_go (fun _ q => XS.iload X0.here hx rfl (hb hby d9_23) rfl q) ?_
    show own_Fin _ _ _ _ (s₁.setTop (mkF m 25 #[.val (.ref bb), .val (.int (0 : Int32)), .val (.ref dd), .val (.int (0 : Int32)), .val (.int (2 : Int32)), .val (.int (0 : Int32)), .val (.int ch0)] [(.int (0 : Int32))]))
    refine own_retI X0 hx Bd (t := .int) Bd.returns rfl (by simp) (hb hby d9_25) ?_ (by decide) (by decide)
    show (Q_rm_c5_2 Z bb kb dd kd ch0 ch1 h0 n0) (some (.int (0 : Int32))) s₁.heap _
    rw [e0]
    exact ⟨N0, K0, Or.inl ⟨_, _, rfl, by decide, by decide, by decide, rfl, rfl, own_m 0 rfl, hc66⟩⟩
  · skip
    refine own_go (fun _ q => XS.icmpYes X0.here hx rfl (pc0 := 20) (pc' := 26) rfl (hb hby d9_20) rfl (flt hc66).2.2.2 (by decide) (by decide) q) ?_
    refine own_go (fun _ q => XS.aloadN X0.here hx rfl (hb hby d9_26) rfl rfl q) ?_
    refine own_go (fun _ q => XS.iloadN X0.here hx rfl (hb hby d9_27) rfl q) ?_
    refine own_go (fun _ q => XS.iload X0.here hx rfl (hb hby d9_28) rfl q) ?_
    show own_Fin _ _ _ _ (s₁.setTop (mkF m 30 #[.val (.ref bb), .val (.int (0 : Int32)), .val (.ref dd), .val (.int (0 : Int32)), .val (.int (2 : Int32)), .val (.int (0 : Int32)), .val (.int ch0)] [(.int ch0), (.int (0 : Int32)), (.ref dd)]))
    refine own_go (fun _ q => XS.i2b X0.here hx rfl (hb hby d9_30) rfl q) ?_
    show own_Fin _ _ _ _ (s₁.setTop (mkF m 31 #[.val (.ref bb), .val (.int (0 : Int32)), .val (.ref dd), .val (.int (0 : Int32)), .val (.int (2 : Int32)), .val (.int (0 : Int32)), .val (.int ch0)] [(.int (ch0.toInt8.toInt32)), (.int (0 : Int32)), (.ref dd)]))
    obtain ⟨T67, h67, X67, e67, W67, V67, st67⟩ := own_stB X0 hx hZ e0 V_dd (by decide) (i := 0) rfl (Nat.le_of_ble_eq_true rfl) (g := (mkF m 31 #[.val (.ref bb), .val (.int (0 : Int32)), .val (.ref dd), .val (.int (0 : Int32)), .val (.int (2 : Int32)), .val (.int (0 : Int32)), .val (.int ch0)] [(.int (ch0.toInt8.toInt32)), (.int (0 : Int32)), (.ref dd)])) rfl rfl (hb hby d9_31)
    rw [own_b8] at V67
    replace V_dd : Arv Z h67 dd kd .byte (2 : Int32) [(.int (ch0.toInt8.toInt32)), (.int (0 : Int32))] (.int (0 : Int32)) := V67
    have N67 := Fr.snoc X67 N0 g_dd
    refine own_go st67 ?_
    replace V_bb := V_bb.other W67 neb
    have K68 := K0.wr W67 (Or.inl (by simp))
    show own_Fin _ _ _ _ (T67.setTop (mkF m 32 #[.val (.ref bb), .val (.int (0 : Int32)), .val (.ref dd), .val (.int (0 : Int32)), .val (.int (2 : Int32)), .val (.int (0 : Int32)), .val (.int ch0)] []))
    refine own_go (fun _ q => XS.iinc X67.here hx rfl (hb hby d9_32) rfl (l' := #[.val (.ref bb), .val (.int (1 : Int32)), .val (.ref dd), .val (.int (0 : Int32)), .val (.int (2 : Int32)), .val (.int (0 : Int32)), .val (.int ch0)]) rfl q) ?_
    show own_Fin _ _ _ _ (T67.setTop (mkF m 35 #[.val (.ref bb), .val (.int (1 : Int32)), .val (.ref dd), .val (.int (0 : Int32)), .val (.int (2 : Int32)), .val (.int (0 : Int32)), .val (.int ch0)] []))
    refine own_go (fun _ q => XS.iinc X67.here hx rfl (hb hby d9_35) rfl (l' := #[.val (.ref bb), .val (.int (1 : Int32)), .val (.ref dd), .val (.int (1 : Int32)), .val (.int (2 : Int32)), .val (.int (0 : Int32)), .val (.int ch0)]) rfl q) ?_
    show own_Fin _ _ _ _ (T67.setTop (mkF m 38 #[.val (.ref bb), .val (.int (1 : Int32)), .val (.ref dd), .val (.int (1 : Int32)), .val (.int (2 : Int32)), .val (.int (0 : Int32)), .val (.int ch0)] []))
    refine own_go (fun _ q => XS.iinc X67.here hx rfl (hb hby d9_38) rfl (l' := #[.val (.ref bb), .val (.int (1 : Int32)), .val (.ref dd), .val (.int (1 : Int32)), .val (.int (2 : Int32)), .val (.int (1 : Int32)), .val (.int ch0)]) rfl q) ?_
    refine own_go (fun _ q => XS.goto X67.here hx rfl (pc0 := 41) (pc' := 3) rfl (hb hby d9_41) (by decide) (by decide) q) ?_
    refine own_go (fun _ q => XS.iload X67.here hx rfl (hb hby d9_3) rfl q) ?_
    refine own_go (fun _ q => XS.iload X67.here hx rfl (hb hby d9_5) rfl q) ?_
    show own_Fin _ _ _ _ (T67.setTop (mkF m 7 #[.val (.ref bb), .val (.int (1 : Int32)), .val (.ref dd), .val (.int (1 : Int32)), .val (.int (2 : Int32)), .val (.int (1 : Int32)), .val (.int ch0)] [(.int (2 : Int32)), (.int (1 : Int32))]))
    refine own_go (fun _ q => XS.icmpNo X67.here hx rfl (hb hby d9_7) rfl (tlt (by decide : (1 : Int32) < (2 : Int32))).2.1 q) ?_
    refine own_go (fun _ q => XS.aloadN X67.here hx rfl (hb hby d9_10) rfl rfl q) ?_
    refine own_go (fun _ q => XS.iloadN X67.here hx rfl (hb hby d9_11) rfl q) ?_
    show own_Fin _ _ _ _ (T67.setTop (mkF m 12 #[.val (.ref bb), .val (.int (1 : Int32)), .val (.ref dd), .val (.int (1 : Int32)), .val (.int (2 : Int32)), .val (.int (1 : Int32)), .val (.int ch0)] [(.int (1 : Int32)), (.ref bb)]))
    refine own_go (fun _ q => own_caload X67 hx hZ e67 V_bb (by decide) (v := (.int ch1)) (rfl) (g := (mkF m 12 #[.val (.ref bb), .val (.int (1 : Int32)), .val (.ref dd), .val (.int (1 : Int32)), .val (.int (2 : Int32)), .val (.int (1 : Int32)), .val (.int ch0)] [(.int (1 : Int32)), (.ref bb)])) rfl rfl (hb hby d9_12) _ q) ?_
    refine own_go (fun _ q => XS.istore X67.here hx rfl (hb hby d9_13) rfl (l' := #[.val (.ref bb), .val (.int (1 : Int32)), .val (.ref dd), .val (.int (1 : Int32)), .val (.int (2 : Int32)), .val (.int (1 : Int32)), .val (.int ch1)]) rfl q) ?_
    refine own_go (fun _ q => XS.iload X67.here hx rfl (hb hby d9_15) rfl q) ?_
    refine own_go (fun _ q => XS.sipush X67.here hx rfl (hb hby d9_17) q) ?_
    show own_Fin _ _ _ _ (T67.setTop (mkF m 20 #[.val (.ref bb), .val (.int (1 : Int32)), .val (.ref dd), .val (.int (1 : Int32)), .val (.int (2 : Int32)), .val (.int (1 : Int32)), .val (.int ch1)] [(.int (255 : Int32)), (.int ch1)]))
    by_cases hc69 : (255 : Int32) < ch1
    · skip
      refine own_go (fun _ q => XS.icmpNo X67.here hx rfl (hb hby d9_20) rfl (tlt hc69).2.2.2 q) ?_
      refine own_go (fun _ q => XS.iload X67.here hx rfl (hb hby d9_23) rfl q) ?_
      show own_Fin _ _ _ _ (T67.setTop (mkF m 25 #[.val (.ref bb), .val (.int (1 : Int32)), .val (.ref dd), .val (.int (1 : Int32)), .val (.int (2 : Int32)), .val (.int (1 : Int32)), .val (.int ch1)] [(.int (1 : Int32))]))
      refine own_retI X67 hx Bd (t := .int) Bd.returns rfl (by simp) (hb hby d9_25) ?_ (by decide) (by decide)
      show (Q_rm_c5_2 Z bb kb dd kd ch0 ch1 h0 n0) (some (.int (1 : Int32))) T67.heap _
      rw [e67]
      exact ⟨N67, K68, Or.inl ⟨_, _, rfl, by decide, by decide, by decide, rfl, rfl, own_m 1 rfl, hc69⟩⟩
    · skip
      refine own_go (fun _ q => XS.icmpYes X67.here hx rfl (pc0 := 20) (pc' := 26) rfl (hb hby d9_20) rfl (flt hc69).2.2.2 (by decide) (by decide) q) ?_
      refine own_go (fun _ q => XS.aloadN X67.here hx rfl (hb hby d9_26) rfl rfl q) ?_
      refine own_go (fun _ q => XS.iloadN X67.here hx rfl (hb hby d9_27) rfl q) ?_
      refine own_go (fun _ q => XS.iload X67.here hx rfl (hb hby d9_28) rfl q) ?_
      show own_Fin _ _ _ _ (T67.setTop (mkF m 30 #[.val (.ref bb), .val (.int (1 : Int32)), .val (.ref dd), .val (.int (1 : Int32)), .val (.int (2 : Int32)), .val (.int (1 : Int32)), .val (.int ch1)] [(.int ch1), (.int (1 : Int32)), (.ref dd)]))
      refine own_go (fun _ q => XS.i2b X67.here hx rfl (hb hby d9_30) rfl q) ?_
      show own_Fin _ _ _ _ (T67.setTop (mkF m 31 #[.val (.ref bb), .val (.int (1 : Int32)), .val (.ref dd), .val (.int (1 : Int32)), .val (.int (2 : Int32)), .val (.int (1 : Int32)), .val (.int ch1)] [(.int (ch1.toInt8.toInt32)), (.int (1 : Int32)), (.ref dd)]))
      obtain ⟨T70, h70, X70, e70, W70, V70, st70⟩ := own_stB X67 hx hZ e67 V_dd (by decide) (i := 1) rfl (Nat.le_of_ble_eq_true rfl) (g := (mkF m 31 #[.val (.ref bb), .val (.int (1 : Int32)), .val (.ref dd), .val (.int (1 : Int32)), .val (.int (2 : Int32)), .val (.int (1 : Int32)), .val (.int ch1)] [(.int (ch1.toInt8.toInt32)), (.int (1 : Int32)), (.ref dd)])) rfl rfl (hb hby d9_31)
      rw [own_b8] at V70
      replace V_dd : Arv Z h70 dd kd .byte (2 : Int32) [(.int (ch0.toInt8.toInt32)), (.int (ch1.toInt8.toInt32))] (.int (0 : Int32)) := V70
      have N70 := Fr.snoc X70 N67 g_dd
      refine own_go st70 ?_
      replace V_bb := V_bb.other W70 neb
      have K71 := K68.wr W70 (Or.inl (by simp))
      show own_Fin _ _ _ _ (T70.setTop (mkF m 32 #[.val (.ref bb), .val (.int (1 : Int32)), .val (.ref dd), .val (.int (1 : Int32)), .val (.int (2 : Int32)), .val (.int (1 : Int32)), .val (.int ch1)] []))
      refine own_go (fun _ q => XS.iinc X70.here hx rfl (hb hby d9_32) rfl (l' := #[.val (.ref bb), .val (.int (2 : Int32)), .val (.ref dd), .val (.int (1 : Int32)), .val (.int (2 : Int32)), .val (.int (1 : Int32)), .val (.int ch1)]) rfl q) ?_
      show own_Fin _ _ _ _ (T70.setTop (mkF m 35 #[.val (.ref bb), .val (.int (2 : Int32)), .val (.ref dd), .val (.int (1 : Int32)), .val (.int (2 : Int32)), .val (.int (1 : Int32)), .val (.int ch1)] []))
      refine own_go (fun _ q => XS.iinc X70.here hx rfl (hb hby d9_35) rfl (l' := #[.val (.ref bb), .val (.int (2 : Int32)), .val (.ref dd), .val (.int (2 : Int32)), .val (.int (2 : Int32)), .val (.int (1 : Int32)), .val (.int ch1)]) rfl q) ?_
      show own_Fin _ _ _ _ (T70.setTop (mkF m 38 #[.val (.ref bb), .val (.int (2 : Int32)), .val (.ref dd), .val (.int (2 : Int32)), .val (.int (2 : Int32)), .val (.int (1 : Int32)), .val (.int ch1)] []))
      refine own_go (fun _ q => XS.iinc X70.here hx rfl (hb hby d9_38) rfl (l' := #[.val (.ref bb), .val (.int (2 : Int32)), .val (.ref dd), .val (.int (2 : Int32)), .val (.int (2 : Int32)), .val (.int (2 : Int32)), .val (.int ch1)]) rfl q) ?_
      refine own_go (fun _ q => XS.goto X70.here hx rfl (pc0 := 41) (pc' := 3) rfl (hb hby d9_41) (by decide) (by decide) q) ?_
      refine own_go (fun _ q => XS.iload X70.here hx rfl (hb hby d9_3) rfl q) ?_
      refine own_go (fun _ q => XS.iload X70.here hx rfl (hb hby d9_5) rfl q) ?_
      show own_Fin _ _ _ _ (T70.setTop (mkF m 7 #[.val (.ref bb), .val (.int (2 : Int32)), .val (.ref dd), .val (.int (2 : Int32)), .val (.int (2 : Int32)), .val (.int (2 : Int32)), .val (.int ch1)] [(.int (2 : Int32)), (.int (2 : Int32))]))
      refine own_go (fun _ q => XS.icmpYes X70.here hx rfl (pc0 := 7) (pc' := 44) rfl (hb hby d9_7) rfl (flt (by decide : ¬ (2 : Int32) < (2 : Int32))).2.1 (by decide) (by decide) q) ?_
      refine own_go (fun _ q => XS.iload X70.here hx rfl (hb hby d9_44) rfl q) ?_
      show own_Fin _ _ _ _ (T70.setTop (mkF m 46 #[.val (.ref bb), .val (.int (2 : Int32)), .val (.ref dd), .val (.int (2 : Int32)), .val (.int (2 : Int32)), .val (.int (2 : Int32)), .val (.int ch1)] [(.int (2 : Int32))]))
      refine own_retI X70 hx Bd (t := .int) Bd.returns rfl (by simp) (hb hby d9_46) ?_ (by decide) (by decide)
      show (Q_rm_c5_2 Z bb kb dd kd ch0 ch1 h0 n0) (some (.int (2 : Int32))) T70.heap _
      rw [e70]
      refine ⟨N70, K71, Or.inr ⟨rfl, ?_, V_dd⟩⟩
      intro c hc
      simp only [List.mem_cons, List.not_mem_nil, or_false] at hc
      rcases hc with rfl | rfl
      · exact hc66
      · exact hc69
def Q_rm_c5_3 (Z : State) (bb : Addr) (kb : ClassId) (dd : Addr) (kd : ClassId) (ch0 : Int32) (ch1 : Int32) (ch2 : Int32) (h0 : Heap) (n0 : Nat) (v : Option Value) (h : Heap) (L : List Loc) : Prop := Fr n0 L ∧ Keep h0 h [dd] ∧ ((∃ ii chx : Int32, v = some (.int ii) ∧ ¬ ii = (3 : Int32) ∧ (¬ (ii <<< ((1 : Int32) &&& 31)) < 0 ∧ (ii <<< ((1 : Int32) &&& 31)) < (6 : Int32)) ∧ (¬ ((ii <<< ((1 : Int32) &&& 31)) + (1 : Int32)) < 0 ∧ ((ii <<< ((1 : Int32) &&& 31)) + (1 : Int32)) < (6 : Int32)) ∧ List.getD ([(.int (ch0.toInt8.toInt32)), (.int ((ch0 >>> ((8 : Int32) &&& 31)).toInt8.toInt32)), (.int (ch1.toInt8.toInt32)), (.int ((ch1 >>> ((8 : Int32) &&& 31)).toInt8.toInt32)), (.int (ch2.toInt8.toInt32)), (.int ((ch2 >>> ((8 : Int32) &&& 31)).toInt8.toInt32))] : List Value) (ii <<< ((1 : Int32) &&& 31)).toNatClampNeg (.int (0 : Int32)) = .int (chx.toInt8.toInt32) ∧ List.getD ([(.int (ch0.toInt8.toInt32)), (.int ((ch0 >>> ((8 : Int32) &&& 31)).toInt8.toInt32)), (.int (ch1.toInt8.toInt32)), (.int ((ch1 >>> ((8 : Int32) &&& 31)).toInt8.toInt32)), (.int (ch2.toInt8.toInt32)), (.int ((ch2 >>> ((8 : Int32) &&& 31)).toInt8.toInt32))] : List Value) ((ii <<< ((1 : Int32) &&& 31)) + (1 : Int32)).toNatClampNeg (.int (0 : Int32)) = .int ((chx >>> ((8 : Int32) &&& 31)).toInt8.toInt32) ∧ chx ∈ ([ch0, ch1, ch2] : List Int32) ∧ (255 : Int32) < chx) ∨ (v = some (.int (3 : Int32)) ∧ (∀ c ∈ ([ch0, ch1, ch2] : List Int32), ¬ (255 : Int32) < c) ∧ Arv Z h dd kd .byte (3 : Int32) [(.int (ch0.toInt8.toInt32)), (.int (ch1.toInt8.toInt32)), (.int (ch2.toInt8.toInt32))] (.int (0 : Int32))))
theorem ef_rm_c5_3 (m : MethodId) (bb : Addr) (dd : Addr) (ch0 : Int32) (ch1 : Int32) (ch2 : Int32) : entryFrame m #[(.ref bb), (.int (0 : Int32)), (.ref dd), (.int (0 : Int32)), (.int (3 : Int32))] 7 = mkF m 0 #[.val (.ref bb), .val (.int (0 : Int32)), .val (.ref dd), .val (.int (0 : Int32)), .val (.int (3 : Int32)), .unset, .unset] [] := by first | (simp [entryFrame, mkF, argsToLocals, Value.category]; done) | rfl
set_option maxRecDepth 65536 in
set_option maxHeartbeats 40000000 in
theorem rm_c5_3 (l : Launch) (Z : State) (a0 : Array Value) (hw : ∀ d ∈ tables_1, d.before a0 Z = true) (ws : List Jvm.Cond) (bb : Addr) (kb : ClassId) (dd : Addr) (kd : ClassId) (ch0 : Int32) (ch1 : Int32) (ch2 : Int32) (h0 : Heap) (n0 : Nat) (Z0 : n0 ≤ h0.size) (V_bb : Arv Z h0 bb kb .char (3 : Int32) [(.int ch0), (.int ch1), (.int ch2)] (.int (0 : Int32))) (V_dd : Arv Z h0 dd kd .byte (3 : Int32) [(.int (0 : Int32)), (.int (0 : Int32)), (.int (0 : Int32))] (.int (0 : Int32))) (g_dd : n0 ≤ dd) (neb : bb ≠ dd) :
    MetFree l (⟨"java/lang/StringUTF16", "compress", "([CI[BII)I"⟩ : MethodName) (head1 (Jvm.Cond.code (⟨"java/lang/StringUTF16", "compress", "([CI[BII)I"⟩ : MethodName) jdk_52_method_21_code 7 (some .int) :: ws) ({ frames := 0, cells := 0, slots := 0, locals := 0 } : Room)) (fun a_ U_ => a_ = #[(.ref bb), (.int (0 : Int32)), (.ref dd), (.int (0 : Int32)), (.int (3 : Int32))] ∧ Z.Warmed39 U_.vm ∧ U_.heap = h0) (fun _ _ _ _ _ => True) (fun _ U_ o_ V_ => ∃ v_ L_, o_ = .returned v_ ∧ (Q_rm_c5_3 Z bb kb dd kd ch0 ch1 ch2 h0 n0) v_ V_.heap L_ ∧ FrameEnd U_ o_ V_ L_ ({ frames := 0, cells := 0, slots := 0, locals := 0 } : Room).cells ({ frames := 0, cells := 0, slots := 0, locals := 0 } : Room).slots) := by
  refine MetFree.of_bodySF (plainFor_of_name pn_2) hisR ?_
  intro p e s m args below meth c s₁ Bd hml0 hP hK
  obtain ⟨rfl, hZ, hh⟩ := hP
  have hx := Bd.exec
  have hby := Bd.bytes
  have hml : c.maxLocals = 7 := hml0
  have hown : s.vm.findClass "java/lang/StringUTF16" = some m.cls := findClass_of_methodNamed Bd.named
  have hnm := (name_of_methodNamed Bd.named Bd.method).1
  have X0 : Stand p l e ({ frames := 0, cells := 0, slots := 0, locals := 0 } : Room) s m #[(.ref bb), (.int (0 : Int32)), (.ref dd), (.int (0 : Int32)), (.int (3 : Int32))] below meth c s₁ [] 0 0 := Stand.of_body Bd
  have e0 : s₁.heap = h0 := by rw [← hh, Bd.state]; rfl
  have N0 := Fr.nil n0
  have K0 : Keep h0 h0 [dd] := Keep.refl _ _
  show own_Fin p.tables e below (own_Post (Q_rm_c5_3 Z bb kb dd kd ch0 ch1 ch2 h0 n0) ({ frames := 0, cells := 0, slots := 0, locals := 0 } : Room).cells ({ frames := 0, cells := 0, slots := 0, locals := 0 } : Room).slots below s) _
  refine own_go (fun _ q => castTop (ef_rm_c5_3 m bb dd ch0 ch1 ch2) q) ?_
  refine own_go (fun _ q => XS.iconst X0.here hx rfl (hb hby d9_0) q) ?_
  refine own_go (fun _ q => XS.istore X0.here hx rfl (hb hby d9_1) rfl (l' := #[.val (.ref bb), .val (.int (0 : Int32)), .val (.ref dd), .val (.int (0 : Int32)), .val (.int (3 : Int32)), .val (.int (0 : Int32)), .unset]) rfl q) ?_
  refine own_go (fun _ q => XS.iload X0.here hx rfl (hb hby d9_3) rfl q) ?_
  refine own_go (fun _ q => XS.iload X0.here hx rfl (hb hby d9_5) rfl q) ?_
  show own_Fin _ _ _ _ (s₁.setTop (mkF m 7 #[.val (.ref bb), .val (.int (0 : Int32)), .val (.ref dd), .val (.int (0 : Int32)), .val (.int (3 : Int32)), .val (.int (0 : Int32)), .unset] [(.int (3 : Int32)), (.int (0 : Int32))]))
  refine own_go (fun _ q => XS.icmpNo X0.here hx rfl (hb hby d9_7) rfl (tlt (by decide : (0 : Int32) < (3 : Int32))).2.1 q) ?_
  refine own_go (fun _ q => XS.aloadN X0.here hx rfl (hb hby d9_10) rfl rfl q) ?_
  refine own_go (fun _ q => XS.iloadN X0.here hx rfl (hb hby d9_11) rfl q) ?_
  show own_Fin _ _ _ _ (s₁.setTop (mkF m 12 #[.val (.ref bb), .val (.int (0 : Int32)), .val (.ref dd), .val (.int (0 : Int32)), .val (.int (3 : Int32)), .val (.int (0 : Int32)), .unset] [(.int (0 : Int32)), (.ref bb)]))
  refine own_go (fun _ q => own_caload X0 hx hZ e0 V_bb (by decide) (v := (.int ch0)) (rfl) (g := (mkF m 12 #[.val (.ref bb), .val (.int (0 : Int32)), .val (.ref dd), .val (.int (0 : Int32)), .val (.int (3 : Int32)), .val (.int (0 : Int32)), .unset] [(.int (0 : Int32)), (.ref bb)])) rfl rfl (hb hby d9_12) _ q) ?_
  refine own_go (fun _ q => XS.istore X0.here hx rfl (hb hby d9_13) rfl (l' := #[.val (.ref bb), .val (.int (0 : Int32)), .val (.ref dd), .val (.int (0 : Int32)), .val (.int (3 : Int32)), .val (.int (0 : Int32)), .val (.int ch0)]) rfl q) ?_
  refine own_go (fun _ q => XS.iload X0.here hx rfl (hb hby d9_15) rfl q) ?_
  refine own_go (fun _ q => XS.sipush X0.here hx rfl (hb hby d9_17) q) ?_
  show own_Fin _ _ _ _ (s₁.setTop (mkF m 20 #[.val (.ref bb), .val (.int (0 : Int32)), .val (.ref dd), .val (.int (0 : Int32)), .val (.int (3 : Int32)), .val (.int (0 : Int32)), .val (.int ch0)] [(.int (255 : Int32)), (.int ch0)]))
  by_cases hc72 : (255 : Int32) < ch0
  · skip
    refine own_go (fun _ q => XS.icmpNo X0.here hx rfl (hb hby d9_20) rfl (tlt hc72).2.2.2 q) ?_
    refine own_go (fun _ q => XS.iload X0.here hx rfl (hb hby d9_23) rfl q) ?_
    show own_Fin _ _ _ _ (s₁.setTop (mkF m 25 #[.val (.ref bb), .val (.int (0 : Int32)), .val (.ref dd), .val (.int (0 : Int32)), .val (.int (3 : Int32)), .val (.int (0 : Int32)), .val (.int ch0)] [(.int (0 : Int32))]))
    refine own_retI X0 hx Bd (t := .int) Bd.returns rfl (by simp) (hb hby d9_25) ?_ (by decide) (by decide)
    show (Q_rm_c5_3 Z bb kb dd kd ch0 ch1 ch2 h0 n0) (some (.int (0 : Int32))) s₁.heap _
    rw [e0]
    exact ⟨N0, K0, Or.inl ⟨_, _, rfl, by decide, by decide, by decide, rfl, rfl, own_m 0 rfl, hc72⟩⟩
  · skip
    refine own_go (fun _ q => XS.icmpYes X0.here hx rfl (pc0 := 20) (pc' := 26) rfl (hb hby d9_20) rfl (flt hc72).2.2.2 (by decide) (by decide) q) ?_
    refine own_go (fun _ q => XS.aloadN X0.here hx rfl (hb hby d9_26) rfl rfl q) ?_
    refine own_go (fun _ q => XS.iloadN X0.here hx rfl (hb hby d9_27) rfl q) ?_
    refine own_go (fun _ q => XS.iload X0.here hx rfl (hb hby d9_28) rfl q) ?_
    show own_Fin _ _ _ _ (s₁.setTop (mkF m 30 #[.val (.ref bb), .val (.int (0 : Int32)), .val (.ref dd), .val (.int (0 : Int32)), .val (.int (3 : Int32)), .val (.int (0 : Int32)), .val (.int ch0)] [(.int ch0), (.int (0 : Int32)), (.ref dd)]))
    refine own_go (fun _ q => XS.i2b X0.here hx rfl (hb hby d9_30) rfl q) ?_
    show own_Fin _ _ _ _ (s₁.setTop (mkF m 31 #[.val (.ref bb), .val (.int (0 : Int32)), .val (.ref dd), .val (.int (0 : Int32)), .val (.int (3 : Int32)), .val (.int (0 : Int32)), .val (.int ch0)] [(.int (ch0.toInt8.toInt32)), (.int (0 : Int32)), (.ref dd)]))
    obtain ⟨T73, h73, X73, e73, W73, V73, st73⟩ := own_stB X0 hx hZ e0 V_dd (by decide) (i := 0) rfl (Nat.le_of_ble_eq_true rfl) (g := (mkF m 31 #[.val (.ref bb), .val (.int (0 : Int32)), .val (.ref dd), .val (.int (0 : Int32)), .val (.int (3 : Int32)), .val (.int (0 : Int32)), .val (.int ch0)] [(.int (ch0.toInt8.toInt32)), (.int (0 : Int32)), (.ref dd)])) rfl rfl (hb hby d9_31)
    rw [own_b8] at V73
    replace V_dd : Arv Z h73 dd kd .byte (3 : Int32) [(.int (ch0.toInt8.toInt32)), (.int (0 : Int32)), (.int (0 : Int32))] (.int (0 : Int32)) := V73
    have N73 := Fr.snoc X73 N0 g_dd
    refine own_go st73 ?_
    replace V_bb := V_bb.other W73 neb
    have K74 := K0.wr W73 (Or.inl (by simp))
    show own_Fin _ _ _ _ (T73.setTop (mkF m 32 #[.val (.ref bb), .val (.int (0 : Int32)), .val (.ref dd), .val (.int (0 : Int32)), .val (.int (3 : Int32)), .val (.int (0 : Int32)), .val (.int ch0)] []))
    refine own_go (fun _ q => XS.iinc X73.here hx rfl (hb hby d9_32) rfl (l' := #[.val (.ref bb), .val (.int (1 : Int32)), .val (.ref dd), .val (.int (0 : Int32)), .val (.int (3 : Int32)), .val (.int (0 : Int32)), .val (.int ch0)]) rfl q) ?_
    show own_Fin _ _ _ _ (T73.setTop (mkF m 35 #[.val (.ref bb), .val (.int (1 : Int32)), .val (.ref dd), .val (.int (0 : Int32)), .val (.int (3 : Int32)), .val (.int (0 : Int32)), .val (.int ch0)] []))
    refine own_go (fun _ q => XS.iinc X73.here hx rfl (hb hby d9_35) rfl (l' := #[.val (.ref bb), .val (.int (1 : Int32)), .val (.ref dd), .val (.int (1 : Int32)), .val (.int (3 : Int32)), .val (.int (0 : Int32)), .val (.int ch0)]) rfl q) ?_
    show own_Fin _ _ _ _ (T73.setTop (mkF m 38 #[.val (.ref bb), .val (.int (1 : Int32)), .val (.ref dd), .val (.int (1 : Int32)), .val (.int (3 : Int32)), .val (.int (0 : Int32)), .val (.int ch0)] []))
    refine own_go (fun _ q => XS.iinc X73.here hx rfl (hb hby d9_38) rfl (l' := #[.val (.ref bb), .val (.int (1 : Int32)), .val (.ref dd), .val (.int (1 : Int32)), .val (.int (3 : Int32)), .val (.int (1 : Int32)), .val (.int ch0)]) rfl q) ?_
    refine own_go (fun _ q => XS.goto X73.here hx rfl (pc0 := 41) (pc' := 3) rfl (hb hby d9_41) (by decide) (by decide) q) ?_
    refine own_go (fun _ q => XS.iload X73.here hx rfl (hb hby d9_3) rfl q) ?_
    refine own_go (fun _ q => XS.iload X73.here hx rfl (hb hby d9_5) rfl q) ?_
    show own_Fin _ _ _ _ (T73.setTop (mkF m 7 #[.val (.ref bb), .val (.int (1 : Int32)), .val (.ref dd), .val (.int (1 : Int32)), .val (.int (3 : Int32)), .val (.int (1 : Int32)), .val (.int ch0)] [(.int (3 : Int32)), (.int (1 : Int32))]))
    refine own_go (fun _ q => XS.icmpNo X73.here hx rfl (hb hby d9_7) rfl (tlt (by decide : (1 : Int32) < (3 : Int32))).2.1 q) ?_
    refine own_go (fun _ q => XS.aloadN X73.here hx rfl (hb hby d9_10) rfl rfl q) ?_
    refine own_go (fun _ q => XS.iloadN X73.here hx rfl (hb hby d9_11) rfl q) ?_
    show own_Fin _ _ _ _ (T73.setTop (mkF m 12 #[.val (.ref bb), .val (.int (1 : Int32)), .val (.ref dd), .val (.int (1 : Int32)), .val (.int (3 : Int32)), .val (.int (1 : Int32)), .val (.int ch0)] [(.int (1 : Int32)), (.ref bb)]))
    refine own_go (fun _ q => own_caload X73 hx hZ e73 V_bb (by decide) (v := (.int ch1)) (rfl) (g := (mkF m 12 #[.val (.ref bb), .val (.int (1 : Int32)), .val (.ref dd), .val (.int (1 : Int32)), .val (.int (3 : Int32)), .val (.int (1 : Int32)), .val (.int ch0)] [(.int (1 : Int32)), (.ref bb)])) rfl rfl (hb hby d9_12) _ q) ?_
    refine own_go (fun _ q => XS.istore X73.here hx rfl (hb hby d9_13) rfl (l' := #[.val (.ref bb), .val (.int (1 : Int32)), .val (.ref dd), .val (.int (1 : Int32)), .val (.int (3 : Int32)), .val (.int (1 : Int32)), .val (.int ch1)]) rfl q) ?_
    refine own_go (fun _ q => XS.iload X73.here hx rfl (hb hby d9_15) rfl q) ?_
    refine own_go (fun _ q => XS.sipush X73.here hx rfl (hb hby d9_17) q) ?_
    show own_Fin _ _ _ _ (T73.setTop (mkF m 20 #[.val (.ref bb), .val (.int (1 : Int32)), .val (.ref dd), .val (.int (1 : Int32)), .val (.int (3 : Int32)), .val (.int (1 : Int32)), .val (.int ch1)] [(.int (255 : Int32)), (.int ch1)]))
    by_cases hc75 : (255 : Int32) < ch1
    · skip
      refine own_go (fun _ q => XS.icmpNo X73.here hx rfl (hb hby d9_20) rfl (tlt hc75).2.2.2 q) ?_
      refine own_go (fun _ q => XS.iload X73.here hx rfl (hb hby d9_23) rfl q) ?_
      show own_Fin _ _ _ _ (T73.setTop (mkF m 25 #[.val (.ref bb), .val (.int (1 : Int32)), .val (.ref dd), .val (.int (1 : Int32)), .val (.int (3 : Int32)), .val (.int (1 : Int32)), .val (.int ch1)] [(.int (1 : Int32))]))
      refine own_retI X73 hx Bd (t := .int) Bd.returns rfl (by simp) (hb hby d9_25) ?_ (by decide) (by decide)
      show (Q_rm_c5_3 Z bb kb dd kd ch0 ch1 ch2 h0 n0) (some (.int (1 : Int32))) T73.heap _
      rw [e73]
      exact ⟨N73, K74, Or.inl ⟨_, _, rfl, by decide, by decide, by decide, rfl, rfl, own_m 1 rfl, hc75⟩⟩
    · skip
      refine own_go (fun _ q => XS.icmpYes X73.here hx rfl (pc0 := 20) (pc' := 26) rfl (hb hby d9_20) rfl (flt hc75).2.2.2 (by decide) (by decide) q) ?_
      refine own_go (fun _ q => XS.aloadN X73.here hx rfl (hb hby d9_26) rfl rfl q) ?_
      refine own_go (fun _ q => XS.iloadN X73.here hx rfl (hb hby d9_27) rfl q) ?_
      refine own_go (fun _ q => XS.iload X73.here hx rfl (hb hby d9_28) rfl q) ?_
      show own_Fin _ _ _ _ (T73.setTop (mkF m 30 #[.val (.ref bb), .val (.int (1 : Int32)), .val (.ref dd), .val (.int (1 : Int32)), .val (.int (3 : Int32)), .val (.int (1 : Int32)), .val (.int ch1)] [(.int ch1), (.int (1 : Int32)), (.ref dd)]))
      refine own_go (fun _ q => XS.i2b X73.here hx rfl (hb hby d9_30) rfl q) ?_
      show own_Fin _ _ _ _ (T73.setTop (mkF m 31 #[.val (.ref bb), .val (.int (1 : Int32)), .val (.ref dd), .val (.int (1 : Int32)), .val (.int (3 : Int32)), .val (.int (1 : Int32)), .val (.int ch1)] [(.int (ch1.toInt8.toInt32)), (.int (1 : Int32)), (.ref dd)]))
      obtain ⟨T76, h76, X76, e76, W76, V76, st76⟩ := own_stB X73 hx hZ e73 V_dd (by decide) (i := 1) rfl (Nat.le_of_ble_eq_true rfl) (g := (mkF m 31 #[.val (.ref bb), .val (.int (1 : Int32)), .val (.ref dd), .val (.int (1 : Int32)), .val (.int (3 : Int32)), .val (.int (1 : Int32)), .val (.int ch1)] [(.int (ch1.toInt8.toInt32)), (.int (1 : Int32)), (.ref dd)])) rfl rfl (hb hby d9_31)
      rw [own_b8] at V76
      replace V_dd : Arv Z h76 dd kd .byte (3 : Int32) [(.int (ch0.toInt8.toInt32)), (.int (ch1.toInt8.toInt32)), (.int (0 : Int32))] (.int (0 : Int32)) := V76
      have N76 := Fr.snoc X76 N73 g_dd
      refine own_go st76 ?_
      replace V_bb := V_bb.other W76 neb
      have K77 := K74.wr W76 (Or.inl (by simp))
      show own_Fin _ _ _ _ (T76.setTop (mkF m 32 #[.val (.ref bb), .val (.int (1 : Int32)), .val (.ref dd), .val (.int (1 : Int32)), .val (.int (3 : Int32)), .val (.int (1 : Int32)), .val (.int ch1)] []))
      refine own_go (fun _ q => XS.iinc X76.here hx rfl (hb hby d9_32) rfl (l' := #[.val (.ref bb), .val (.int (2 : Int32)), .val (.ref dd), .val (.int (1 : Int32)), .val (.int (3 : Int32)), .val (.int (1 : Int32)), .val (.int ch1)]) rfl q) ?_
      show own_Fin _ _ _ _ (T76.setTop (mkF m 35 #[.val (.ref bb), .val (.int (2 : Int32)), .val (.ref dd), .val (.int (1 : Int32)), .val (.int (3 : Int32)), .val (.int (1 : Int32)), .val (.int ch1)] []))
      refine own_go (fun _ q => XS.iinc X76.here hx rfl (hb hby d9_35) rfl (l' := #[.val (.ref bb), .val (.int (2 : Int32)), .val (.ref dd), .val (.int (2 : Int32)), .val (.int (3 : Int32)), .val (.int (1 : Int32)), .val (.int ch1)]) rfl q) ?_
      show own_Fin _ _ _ _ (T76.setTop (mkF m 38 #[.val (.ref bb), .val (.int (2 : Int32)), .val (.ref dd), .val (.int (2 : Int32)), .val (.int (3 : Int32)), .val (.int (1 : Int32)), .val (.int ch1)] []))
      refine own_go (fun _ q => XS.iinc X76.here hx rfl (hb hby d9_38) rfl (l' := #[.val (.ref bb), .val (.int (2 : Int32)), .val (.ref dd), .val (.int (2 : Int32)), .val (.int (3 : Int32)), .val (.int (2 : Int32)), .val (.int ch1)]) rfl q) ?_
      refine own_go (fun _ q => XS.goto X76.here hx rfl (pc0 := 41) (pc' := 3) rfl (hb hby d9_41) (by decide) (by decide) q) ?_
      refine own_go (fun _ q => XS.iload X76.here hx rfl (hb hby d9_3) rfl q) ?_
      refine own_go (fun _ q => XS.iload X76.here hx rfl (hb hby d9_5) rfl q) ?_
      show own_Fin _ _ _ _ (T76.setTop (mkF m 7 #[.val (.ref bb), .val (.int (2 : Int32)), .val (.ref dd), .val (.int (2 : Int32)), .val (.int (3 : Int32)), .val (.int (2 : Int32)), .val (.int ch1)] [(.int (3 : Int32)), (.int (2 : Int32))]))
      refine own_go (fun _ q => XS.icmpNo X76.here hx rfl (hb hby d9_7) rfl (tlt (by decide : (2 : Int32) < (3 : Int32))).2.1 q) ?_
      refine own_go (fun _ q => XS.aloadN X76.here hx rfl (hb hby d9_10) rfl rfl q) ?_
      refine own_go (fun _ q => XS.iloadN X76.here hx rfl (hb hby d9_11) rfl q) ?_
      show own_Fin _ _ _ _ (T76.setTop (mkF m 12 #[.val (.ref bb), .val (.int (2 : Int32)), .val (.ref dd), .val (.int (2 : Int32)), .val (.int (3 : Int32)), .val (.int (2 : Int32)), .val (.int ch1)] [(.int (2 : Int32)), (.ref bb)]))
      refine own_go (fun _ q => own_caload X76 hx hZ e76 V_bb (by decide) (v := (.int ch2)) (rfl) (g := (mkF m 12 #[.val (.ref bb), .val (.int (2 : Int32)), .val (.ref dd), .val (.int (2 : Int32)), .val (.int (3 : Int32)), .val (.int (2 : Int32)), .val (.int ch1)] [(.int (2 : Int32)), (.ref bb)])) rfl rfl (hb hby d9_12) _ q) ?_
      refine own_go (fun _ q => XS.istore X76.here hx rfl (hb hby d9_13) rfl (l' := #[.val (.ref bb), .val (.int (2 : Int32)), .val (.ref dd), .val (.int (2 : Int32)), .val (.int (3 : Int32)), .val (.int (2 : Int32)), .val (.int ch2)]) rfl q) ?_
      refine own_go (fun _ q => XS.iload X76.here hx rfl (hb hby d9_15) rfl q) ?_
      refine own_go (fun _ q => XS.sipush X76.here hx rfl (hb hby d9_17) q) ?_
      show own_Fin _ _ _ _ (T76.setTop (mkF m 20 #[.val (.ref bb), .val (.int (2 : Int32)), .val (.ref dd), .val (.int (2 : Int32)), .val (.int (3 : Int32)), .val (.int (2 : Int32)), .val (.int ch2)] [(.int (255 : Int32)), (.int ch2)]))
      by_cases hc78 : (255 : Int32) < ch2
      · skip
        refine own_go (fun _ q => XS.icmpNo X76.here hx rfl (hb hby d9_20) rfl (tlt hc78).2.2.2 q) ?_
        refine own_go (fun _ q => XS.iload X76.here hx rfl (hb hby d9_23) rfl q) ?_
        show own_Fin _ _ _ _ (T76.setTop (mkF m 25 #[.val (.ref bb), .val (.int (2 : Int32)), .val (.ref dd), .val (.int (2 : Int32)), .val (.int (3 : Int32)), .val (.int (2 : Int32)), .val (.int ch2)] [(.int (2 : Int32))]))
        refine own_retI X76 hx Bd (t := .int) Bd.returns rfl (by simp) (hb hby d9_25) ?_ (by decide) (by decide)
        show (Q_rm_c5_3 Z bb kb dd kd ch0 ch1 ch2 h0 n0) (some (.int (2 : Int32))) T76.heap _
        rw [e76]
        exact ⟨N76, K77, Or.inl ⟨_, _, rfl, by decide, by decide, by decide, rfl, rfl, own_m 2 rfl, hc78⟩⟩
      · skip
        refine own_go (fun _ q => XS.icmpYes X76.here hx rfl (pc0 := 20) (pc' := 26) rfl (hb hby d9_20) rfl (flt hc78).2.2.2 (by decide) (by decide) q) ?_
        refine own_go (fun _ q => XS.aloadN X76.here hx rfl (hb hby d9_26) rfl rfl q) ?_
        refine own_go (fun _ q => XS.iloadN X76.here hx rfl (hb hby d9_27) rfl q) ?_
        refine own_go (fun _ q => XS.iload X76.here hx rfl (hb hby d9_28) rfl q) ?_
        show own_Fin _ _ _ _ (T76.setTop (mkF m 30 #[.val (.ref bb), .val (.int (2 : Int32)), .val (.ref dd), .val (.int (2 : Int32)), .val (.int (3 : Int32)), .val (.int (2 : Int32)), .val (.int ch2)] [(.int ch2), (.int (2 : Int32)), (.ref dd)]))
        refine own_go (fun _ q => XS.i2b X76.here hx rfl (hb hby d9_30) rfl q) ?_
        show own_Fin _ _ _ _ (T76.setTop (mkF m 31 #[.val (.ref bb), .val (.int (2 : Int32)), .val (.ref dd), .val (.int (2 : Int32)), .val (.int (3 : Int32)), .val (.int (2 : Int32)), .val (.int ch2)] [(.int (ch2.toInt8.toInt32)), (.int (2 : Int32)), (.ref dd)]))
        obtain ⟨T79, h79, X79, e79, W79, V79, st79⟩ := own_stB X76 hx hZ e76 V_dd (by decide) (i := 2) rfl (Nat.le_of_ble_eq_true rfl) (g := (mkF m 31 #[.val (.ref bb), .val (.int (2 : Int32)), .val (.ref dd), .val (.int (2 : Int32)), .val (.int (3 : Int32)), .val (.int (2 : Int32)), .val (.int ch2)] [(.int (ch2.toInt8.toInt32)), (.int (2 : Int32)), (.ref dd)])) rfl rfl (hb hby d9_31)
        rw [own_b8] at V79
        replace V_dd : Arv Z h79 dd kd .byte (3 : Int32) [(.int (ch0.toInt8.toInt32)), (.int (ch1.toInt8.toInt32)), (.int (ch2.toInt8.toInt32))] (.int (0 : Int32)) := V79
        have N79 := Fr.snoc X79 N76 g_dd
        refine own_go st79 ?_
        replace V_bb := V_bb.other W79 neb
        have K80 := K77.wr W79 (Or.inl (by simp))
        show own_Fin _ _ _ _ (T79.setTop (mkF m 32 #[.val (.ref bb), .val (.int (2 : Int32)), .val (.ref dd), .val (.int (2 : Int32)), .val (.int (3 : Int32)), .val (.int (2 : Int32)), .val (.int ch2)] []))
        refine own_go (fun _ q => XS.iinc X79.here hx rfl (hb hby d9_32) rfl (l' := #[.val (.ref bb), .val (.int (3 : Int32)), .val (.ref dd), .val (.int (2 : Int32)), .val (.int (3 : Int32)), .val (.int (2 : Int32)), .val (.int ch2)]) rfl q) ?_
        show own_Fin _ _ _ _ (T79.setTop (mkF m 35 #[.val (.ref bb), .val (.int (3 : Int32)), .val (.ref dd), .val (.int (2 : Int32)), .val (.int (3 : Int32)), .val (.int (2 : Int32)), .val (.int ch2)] []))
        refine own_go (fun _ q => XS.iinc X79.here hx rfl (hb hby d9_35) rfl (l' := #[.val (.ref bb), .val (.int (3 : Int32)), .val (.ref dd), .val (.int (3 : Int32)), .val (.int (3 : Int32)), .val (.int (2 : Int32)), .val (.int ch2)]) rfl q) ?_
        show own_Fin _ _ _ _ (T79.setTop (mkF m 38 #[.val (.ref bb), .val (.int (3 : Int32)), .val (.ref dd), .val (.int (3 : Int32)), .val (.int (3 : Int32)), .val (.int (2 : Int32)), .val (.int ch2)] []))
        refine own_go (fun _ q => XS.iinc X79.here hx rfl (hb hby d9_38) rfl (l' := #[.val (.ref bb), .val (.int (3 : Int32)), .val (.ref dd), .val (.int (3 : Int32)), .val (.int (3 : Int32)), .val (.int (3 : Int32)), .val (.int ch2)]) rfl q) ?_
        refine own_go (fun _ q => XS.goto X79.here hx rfl (pc0 := 41) (pc' := 3) rfl (hb hby d9_41) (by decide) (by decide) q) ?_
        refine own_go (fun _ q => XS.iload X79.here hx rfl (hb hby d9_3) rfl q) ?_
        refine own_go (fun _ q => XS.iload X79.here hx rfl (hb hby d9_5) rfl q) ?_
        show own_Fin _ _ _ _ (T79.setTop (mkF m 7 #[.val (.ref bb), .val (.int (3 : Int32)), .val (.ref dd), .val (.int (3 : Int32)), .val (.int (3 : Int32)), .val (.int (3 : Int32)), .val (.int ch2)] [(.int (3 : Int32)), (.int (3 : Int32))]))
        refine own_go (fun _ q => XS.icmpYes X79.here hx rfl (pc0 := 7) (pc' := 44) rfl (hb hby d9_7) rfl (flt (by decide : ¬ (3 : Int32) < (3 : Int32))).2.1 (by decide) (by decide) q) ?_
        refine own_go (fun _ q => XS.iload X79.here hx rfl (hb hby d9_44) rfl q) ?_
        show own_Fin _ _ _ _ (T79.setTop (mkF m 46 #[.val (.ref bb), .val (.int (3 : Int32)), .val (.ref dd), .val (.int (3 : Int32)), .val (.int (3 : Int32)), .val (.int (3 : Int32)), .val (.int ch2)] [(.int (3 : Int32))]))
        refine own_retI X79 hx Bd (t := .int) Bd.returns rfl (by simp) (hb hby d9_46) ?_ (by decide) (by decide)
        show (Q_rm_c5_3 Z bb kb dd kd ch0 ch1 ch2 h0 n0) (some (.int (3 : Int32))) T79.heap _
        rw [e79]
        refine ⟨N79, K80, Or.inr ⟨rfl, ?_, V_dd⟩⟩
        intro c hc
        simp only [List.mem_cons, List.not_mem_nil, or_false] at hc
        rcases hc with rfl | rfl | rfl
        · exact hc72
        · exact hc75
        · exact hc78
def Q_rm_c5_4 (Z : State) (bb : Addr) (kb : ClassId) (dd : Addr) (kd : ClassId) (ch0 : Int32) (ch1 : Int32) (ch2 : Int32) (ch3 : Int32) (h0 : Heap) (n0 : Nat) (v : Option Value) (h : Heap) (L : List Loc) : Prop := Fr n0 L ∧ Keep h0 h [dd] ∧ ((∃ ii chx : Int32, v = some (.int ii) ∧ ¬ ii = (4 : Int32) ∧ (¬ (ii <<< ((1 : Int32) &&& 31)) < 0 ∧ (ii <<< ((1 : Int32) &&& 31)) < (8 : Int32)) ∧ (¬ ((ii <<< ((1 : Int32) &&& 31)) + (1 : Int32)) < 0 ∧ ((ii <<< ((1 : Int32) &&& 31)) + (1 : Int32)) < (8 : Int32)) ∧ List.getD ([(.int (ch0.toInt8.toInt32)), (.int ((ch0 >>> ((8 : Int32) &&& 31)).toInt8.toInt32)), (.int (ch1.toInt8.toInt32)), (.int ((ch1 >>> ((8 : Int32) &&& 31)).toInt8.toInt32)), (.int (ch2.toInt8.toInt32)), (.int ((ch2 >>> ((8 : Int32) &&& 31)).toInt8.toInt32)), (.int (ch3.toInt8.toInt32)), (.int ((ch3 >>> ((8 : Int32) &&& 31)).toInt8.toInt32))] : List Value) (ii <<< ((1 : Int32) &&& 31)).toNatClampNeg (.int (0 : Int32)) = .int (chx.toInt8.toInt32) ∧ List.getD ([(.int (ch0.toInt8.toInt32)), (.int ((ch0 >>> ((8 : Int32) &&& 31)).toInt8.toInt32)), (.int (ch1.toInt8.toInt32)), (.int ((ch1 >>> ((8 : Int32) &&& 31)).toInt8.toInt32)), (.int (ch2.toInt8.toInt32)), (.int ((ch2 >>> ((8 : Int32) &&& 31)).toInt8.toInt32)), (.int (ch3.toInt8.toInt32)), (.int ((ch3 >>> ((8 : Int32) &&& 31)).toInt8.toInt32))] : List Value) ((ii <<< ((1 : Int32) &&& 31)) + (1 : Int32)).toNatClampNeg (.int (0 : Int32)) = .int ((chx >>> ((8 : Int32) &&& 31)).toInt8.toInt32) ∧ chx ∈ ([ch0, ch1, ch2, ch3] : List Int32) ∧ (255 : Int32) < chx) ∨ (v = some (.int (4 : Int32)) ∧ (∀ c ∈ ([ch0, ch1, ch2, ch3] : List Int32), ¬ (255 : Int32) < c) ∧ Arv Z h dd kd .byte (4 : Int32) [(.int (ch0.toInt8.toInt32)), (.int (ch1.toInt8.toInt32)), (.int (ch2.toInt8.toInt32)), (.int (ch3.toInt8.toInt32))] (.int (0 : Int32))))
theorem ef_rm_c5_4 (m : MethodId) (bb : Addr) (dd : Addr) (ch0 : Int32) (ch1 : Int32) (ch2 : Int32) (ch3 : Int32) : entryFrame m #[(.ref bb), (.int (0 : Int32)), (.ref dd), (.int (0 : Int32)), (.int (4 : Int32))] 7 = mkF m 0 #[.val (.ref bb), .val (.int (0 : Int32)), .val (.ref dd), .val (.int (0 : Int32)), .val (.int (4 : Int32)), .unset, .unset] [] := by first | (simp [entryFrame, mkF, argsToLocals, Value.category]; done) | rfl
set_option maxRecDepth 65536 in
set_option maxHeartbeats 40000000 in
theorem rm_c5_4 (l : Launch) (Z : State) (a0 : Array Value) (hw : ∀ d ∈ tables_1, d.before a0 Z = true) (ws : List Jvm.Cond) (bb : Addr) (kb : ClassId) (dd : Addr) (kd : ClassId) (ch0 : Int32) (ch1 : Int32) (ch2 : Int32) (ch3 : Int32) (h0 : Heap) (n0 : Nat) (Z0 : n0 ≤ h0.size) (V_bb : Arv Z h0 bb kb .char (4 : Int32) [(.int ch0), (.int ch1), (.int ch2), (.int ch3)] (.int (0 : Int32))) (V_dd : Arv Z h0 dd kd .byte (4 : Int32) [(.int (0 : Int32)), (.int (0 : Int32)), (.int (0 : Int32)), (.int (0 : Int32))] (.int (0 : Int32))) (g_dd : n0 ≤ dd) (neb : bb ≠ dd) :
    MetFree l (⟨"java/lang/StringUTF16", "compress", "([CI[BII)I"⟩ : MethodName) (head1 (Jvm.Cond.code (⟨"java/lang/StringUTF16", "compress", "([CI[BII)I"⟩ : MethodName) jdk_52_method_21_code 7 (some .int) :: ws) ({ frames := 0, cells := 0, slots := 0, locals := 0 } : Room)) (fun a_ U_ => a_ = #[(.ref bb), (.int (0 : Int32)), (.ref dd), (.int (0 : Int32)), (.int (4 : Int32))] ∧ Z.Warmed39 U_.vm ∧ U_.heap = h0) (fun _ _ _ _ _ => True) (fun _ U_ o_ V_ => ∃ v_ L_, o_ = .returned v_ ∧ (Q_rm_c5_4 Z bb kb dd kd ch0 ch1 ch2 ch3 h0 n0) v_ V_.heap L_ ∧ FrameEnd U_ o_ V_ L_ ({ frames := 0, cells := 0, slots := 0, locals := 0 } : Room).cells ({ frames := 0, cells := 0, slots := 0, locals := 0 } : Room).slots) := by
  refine MetFree.of_bodySF (plainFor_of_name pn_2) hisR ?_
  intro p e s m args below meth c s₁ Bd hml0 hP hK
  obtain ⟨rfl, hZ, hh⟩ := hP
  have hx := Bd.exec
  have hby := Bd.bytes
  have hml : c.maxLocals = 7 := hml0
  have hown : s.vm.findClass "java/lang/StringUTF16" = some m.cls := findClass_of_methodNamed Bd.named
  have hnm := (name_of_methodNamed Bd.named Bd.method).1
  have X0 : Stand p l e ({ frames := 0, cells := 0, slots := 0, locals := 0 } : Room) s m #[(.ref bb), (.int (0 : Int32)), (.ref dd), (.int (0 : Int32)), (.int (4 : Int32))] below meth c s₁ [] 0 0 := Stand.of_body Bd
  have e0 : s₁.heap = h0 := by rw [← hh, Bd.state]; rfl
  have N0 := Fr.nil n0
  have K0 : Keep h0 h0 [dd] := Keep.refl _ _
  show own_Fin p.tables e below (own_Post (Q_rm_c5_4 Z bb kb dd kd ch0 ch1 ch2 ch3 h0 n0) ({ frames := 0, cells := 0, slots := 0, locals := 0 } : Room).cells ({ frames := 0, cells := 0, slots := 0, locals := 0 } : Room).slots below s) _
  refine own_go (fun _ q => castTop (ef_rm_c5_4 m bb dd ch0 ch1 ch2 ch3) q) ?_
  refine own_go (fun _ q => XS.iconst X0.here hx rfl (hb hby d9_0) q) ?_
  refine own_go (fun _ q => XS.istore X0.here hx rfl (hb hby d9_1) rfl (l' := #[.val (.ref bb), .val (.int (0 : Int32)), .val (.ref dd), .val (.int (0 : Int32)), .val (.int (4 : Int32)), .val (.int (0 : Int32)), .unset]) rfl q) ?_
  refine own_go (fun _ q => XS.iload X0.here hx rfl (hb hby d9_3) rfl q) ?_
  refine own_go (fun _ q => XS.iload X0.here hx rfl (hb hby d9_5) rfl q) ?_
  show own_Fin _ _ _ _ (s₁.setTop (mkF m 7 #[.val (.ref bb), .val (.int (0 : Int32)), .val (.ref dd), .val (.int (0 : Int32)), .val (.int (4 : Int32)), .val (.int (0 : Int32)), .unset] [(.int (4 : Int32)), (.int (0 : Int32))]))
  refine own_go (fun _ q => XS.icmpNo X0.here hx rfl (hb hby d9_7) rfl (tlt (by decide : (0 : Int32) < (4 : Int32))).2.1 q) ?_
  refine own_go (fun _ q => XS.aloadN X0.here hx rfl (hb hby d9_10) rfl rfl q) ?_
  refine own_go (fun _ q => XS.iloadN X0.here hx rfl (hb hby d9_11) rfl q) ?_
  show own_Fin _ _ _ _ (s₁.setTop (mkF m 12 #[.val (.ref bb), .val (.int (0 : Int32)), .val (.ref dd), .val (.int (0 : Int32)), .val (.int (4 : Int32)), .val (.int (0 : Int32)), .unset] [(.int (0 : Int32)), (.ref bb)]))
  refine own_go (fun _ q => own_caload X0 hx hZ e0 V_bb (by decide) (v := (.int ch0)) (rfl) (g := (mkF m 12 #[.val (.ref bb), .val (.int (0 : Int32)), .val (.ref dd), .val (.int (0 : Int32)), .val (.int (4 : Int32)), .val (.int (0 : Int32)), .unset] [(.int (0 : Int32)), (.ref bb)])) rfl rfl (hb hby d9_12) _ q) ?_
  refine own_go (fun _ q => XS.istore X0.here hx rfl (hb hby d9_13) rfl (l' := #[.val (.ref bb), .val (.int (0 : Int32)), .val (.ref dd), .val (.int (0 : Int32)), .val (.int (4 : Int32)), .val (.int (0 : Int32)), .val (.int ch0)]) rfl q) ?_
  refine own_go (fun _ q => XS.iload X0.here hx rfl (hb hby d9_15) rfl q) ?_
  refine own_go (fun _ q => XS.sipush X0.here hx rfl (hb hby d9_17) q) ?_
  show own_Fin _ _ _ _ (s₁.setTop (mkF m 20 #[.val (.ref bb), .val (.int (0 : Int32)), .val (.ref dd), .val (.int (0 : Int32)), .val (.int (4 : Int32)), .val (.int (0 : Int32)), .val (.int ch0)] [(.int (255 : Int32)), (.int ch0)]))
  by_cases hc81 : (255 : Int32) < ch0
  · skip
    refine own_go (fun _ q => XS.icmpNo X0.here hx rfl (hb hby d9_20) rfl (tlt hc81).2.2.2 q) ?_
    refine own_go (fun _ q => XS.iload X0.here hx rfl (hb hby d9_23) rfl q) ?_
    show own_Fin _ _ _ _ (s₁.setTop (mkF m 25 #[.val (.ref bb), .val (.int (0 : Int32)), .val (.ref dd), .val (.int (0 : Int32)), .val (.int (4 : Int32)), .val (.int (0 : Int32)), .val (.int ch0)] [(.int (0 : Int32))]))
    refine own_retI X0 hx Bd (t := .int) Bd.returns rfl (by simp) (hb hby d9_25) ?_ (by decide) (by decide)
    show (Q_rm_c5_4 Z bb kb dd kd ch0 ch1 ch2 ch3 h0 n0) (some (.int (0 : Int32))) s₁.heap _
    rw [e0]
    exact ⟨N0, K0, Or.inl ⟨_, _, rfl, by decide, by decide, by decide, rfl, rfl, own_m 0 rfl, hc81⟩⟩
  · skip
    refine own_go (fun _ q => XS.icmpYes X0.here hx rfl (pc0 := 20) (pc' := 26) rfl (hb hby d9_20) rfl (flt hc81).2.2.2 (by decide) (by decide) q) ?_
    refine own_go (fun _ q => XS.aloadN X0.here hx rfl (hb hby d9_26) rfl rfl q) ?_
    refine own_go (fun _ q => XS.iloadN X0.here hx rfl (hb hby d9_27) rfl q) ?_
    refine own_go (fun _ q => XS.iload X0.here hx rfl (hb hby d9_28) rfl q) ?_
    show own_Fin _ _ _ _ (s₁.setTop (mkF m 30 #[.val (.ref bb), .val (.int (0 : Int32)), .val (.ref dd), .val (.int (0 : Int32)), .val (.int (4 : Int32)), .val (.int (0 : Int32)), .val (.int ch0)] [(.int ch0), (.int (0 : Int32)), (.ref dd)]))
    refine own_go (fun _ q => XS.i2b X0.here hx rfl (hb hby d9_30) rfl q) ?_
    show own_Fin _ _ _ _ (s₁.setTop (mkF m 31 #[.val (.ref bb), .val (.int (0 : Int32)), .val (.ref dd), .val (.int (0 : Int32)), .val (.int (4 : Int32)), .val (.int (0 : Int32)), .val (.int ch0)] [(.int (ch0.toInt8.toInt32)), (.int (0 : Int32)), (.ref dd)]))
    obtain ⟨T82, h82, X82, e82, W82, V82, st82⟩ := own_stB X0 hx hZ e0 V_dd (by decide) (i := 0) rfl (Nat.le_of_ble_eq_true rfl) (g := (mkF m 31 #[.val (.ref bb), .val (.int (0 : Int32)), .val (.ref dd), .val (.int (0 : Int32)), .val (.int (4 : Int32)), .val (.int (0 : Int32)), .val (.int ch0)] [(.int (ch0.toInt8.toInt32)), (.int (0 : Int32)), (.ref dd)])) rfl rfl (hb hby d9_31)
    rw [own_b8] at V82
    replace V_dd : Arv Z h82 dd kd .byte (4 : Int32) [(.int (ch0.toInt8.toInt32)), (.int (0 : Int32)), (.int (0 : Int32)), (.int (0 : Int32))] (.int (0 : Int32)) := V82
    have N82 := Fr.snoc X82 N0 g_dd
    refine own_go st82 ?_
    replace V_bb := V_bb.other W82 neb
    have K83 := K0.wr W82 (Or.inl (by simp))
    show own_Fin _ _ _ _ (T82.setTop (mkF m 32 #[.val (.ref bb), .val (.int (0 : Int32)), .val (.ref dd), .val (.int (0 : Int32)), .val (.int (4 : Int32)), .val (.int (0 : Int32)), .val (.int ch0)] []))
    refine own_go (fun _ q => XS.iinc X82.here hx rfl (hb hby d9_32) rfl (l' := #[.val (.ref bb), .val (.int (1 : Int32)), .val (.ref dd), .val (.int (0 : Int32)), .val (.int (4 : Int32)), .val (.int (0 : Int32)), .val (.int ch0)]) rfl q) ?_
    show own_Fin _ _ _ _ (T82.setTop (mkF m 35 #[.val (.ref bb), .val (.int (1 : Int32)), .val (.ref dd), .val (.int (0 : Int32)), .val (.int (4 : Int32)), .val (.int (0 : Int32)), .val (.int ch0)] []))
    refine own_go (fun _ q => XS.iinc X82.here hx rfl (hb hby d9_35) rfl (l' := #[.val (.ref bb), .val (.int (1 : Int32)), .val (.ref dd), .val (.int (1 : Int32)), .val (.int (4 : Int32)), .val (.int (0 : Int32)), .val (.int ch0)]) rfl q) ?_
    show own_Fin _ _ _ _ (T82.setTop (mkF m 38 #[.val (.ref bb), .val (.int (1 : Int32)), .val (.ref dd), .val (.int (1 : Int32)), .val (.int (4 : Int32)), .val (.int (0 : Int32)), .val (.int ch0)] []))
    refine own_go (fun _ q => XS.iinc X82.here hx rfl (hb hby d9_38) rfl (l' := #[.val (.ref bb), .val (.int (1 : Int32)), .val (.ref dd), .val (.int (1 : Int32)), .val (.int (4 : Int32)), .val (.int (1 : Int32)), .val (.int ch0)]) rfl q) ?_
    refine own_go (fun _ q => XS.goto X82.here hx rfl (pc0 := 41) (pc' := 3) rfl (hb hby d9_41) (by decide) (by decide) q) ?_
    refine own_go (fun _ q => XS.iload X82.here hx rfl (hb hby d9_3) rfl q) ?_
    refine own_go (fun _ q => XS.iload X82.here hx rfl (hb hby d9_5) rfl q) ?_
    show own_Fin _ _ _ _ (T82.setTop (mkF m 7 #[.val (.ref bb), .val (.int (1 : Int32)), .val (.ref dd), .val (.int (1 : Int32)), .val (.int (4 : Int32)), .val (.int (1 : Int32)), .val (.int ch0)] [(.int (4 : Int32)), (.int (1 : Int32))]))
    refine own_go (fun _ q => XS.icmpNo X82.here hx rfl (hb hby d9_7) rfl (tlt (by decide : (1 : Int32) < (4 : Int32))).2.1 q) ?_
    refine own_go (fun _ q => XS.aloadN X82.here hx rfl (hb hby d9_10) rfl rfl q) ?_
    refine own_go (fun _ q => XS.iloadN X82.here hx rfl (hb hby d9_11) rfl q) ?_
    show own_Fin _ _ _ _ (T82.setTop (mkF m 12 #[.val (.ref bb), .val (.int (1 : Int32)), .val (.ref dd), .val (.int (1 : Int32)), .val (.int (4 : Int32)), .val (.int (1 : Int32)), .val (.int ch0)] [(.int (1 : Int32)), (.ref bb)]))
    refine own_go (fun _ q => own_caload X82 hx hZ e82 V_bb (by decide) (v := (.int ch1)) (rfl) (g := (mkF m 12 #[.val (.ref bb), .val (.int (1 : Int32)), .val (.ref dd), .val (.int (1 : Int32)), .val (.int (4 : Int32)), .val (.int (1 : Int32)), .val (.int ch0)] [(.int (1 : Int32)), (.ref bb)])) rfl rfl (hb hby d9_12) _ q) ?_
    refine own_go (fun _ q => XS.istore X82.here hx rfl (hb hby d9_13) rfl (l' := #[.val (.ref bb), .val (.int (1 : Int32)), .val (.ref dd), .val (.int (1 : Int32)), .val (.int (4 : Int32)), .val (.int (1 : Int32)), .val (.int ch1)]) rfl q) ?_
    refine own_go (fun _ q => XS.iload X82.here hx rfl (hb hby d9_15) rfl q) ?_
    refine own_go (fun _ q => XS.sipush X82.here hx rfl (hb hby d9_17) q) ?_
    show own_Fin _ _ _ _ (T82.setTop (mkF m 20 #[.val (.ref bb), .val (.int (1 : Int32)), .val (.ref dd), .val (.int (1 : Int32)), .val (.int (4 : Int32)), .val (.int (1 : Int32)), .val (.int ch1)] [(.int (255 : Int32)), (.int ch1)]))
    by_cases hc84 : (255 : Int32) < ch1
    · skip
      refine own_go (fun _ q => XS.icmpNo X82.here hx rfl (hb hby d9_20) rfl (tlt hc84).2.2.2 q) ?_
      refine own_go (fun _ q => XS.iload X82.here hx rfl (hb hby d9_23) rfl q) ?_
      show own_Fin _ _ _ _ (T82.setTop (mkF m 25 #[.val (.ref bb), .val (.int (1 : Int32)), .val (.ref dd), .val (.int (1 : Int32)), .val (.int (4 : Int32)), .val (.int (1 : Int32)), .val (.int ch1)] [(.int (1 : Int32))]))
      refine own_retI X82 hx Bd (t := .int) Bd.returns rfl (by simp) (hb hby d9_25) ?_ (by decide) (by decide)
      show (Q_rm_c5_4 Z bb kb dd kd ch0 ch1 ch2 ch3 h0 n0) (some (.int (1 : Int32))) T82.heap _
      rw [e82]
      exact ⟨N82, K83, Or.inl ⟨_, _, rfl, by decide, by decide, by decide, rfl, rfl, own_m 1 rfl, hc84⟩⟩
    · skip
      refine own_go (fun _ q => XS.icmpYes X82.here hx rfl (pc0 := 20) (pc' := 26) rfl (hb hby d9_20) rfl (flt hc84).2.2.2 (by decide) (by decide) q) ?_
      refine own_go (fun _ q => XS.aloadN X82.here hx rfl (hb hby d9_26) rfl rfl q) ?_
      refine own_go (fun _ q => XS.iloadN X82.here hx rfl (hb hby d9_27) rfl q) ?_
      refine own_go (fun _ q => XS.iload X82.here hx rfl (hb hby d9_28) rfl q) ?_
      show own_Fin _ _ _ _ (T82.setTop (mkF m 30 #[.val (.ref bb), .val (.int (1 : Int32)), .val (.ref dd), .val (.int (1 : Int32)), .val (.int (4 : Int32)), .val (.int (1 : Int32)), .val (.int ch1)] [(.int ch1), (.int (1 : Int32)), (.ref dd)]))
      refine own_go (fun _ q => XS.i2b X82.here hx rfl (hb hby d9_30) rfl q) ?_
      show own_Fin _ _ _ _ (T82.setTop (mkF m 31 #[.val (.ref bb), .val (.int (1 : Int32)), .val (.ref dd), .val (.int (1 : Int32)), .val (.int (4 : Int32)), .val (.int (1 : Int32)), .val (.int ch1)] [(.int (ch1.toInt8.toInt32)), (.int (1 : Int32)), (.ref dd)]))
      obtain ⟨T85, h85, X85, e85, W85, V85, st85⟩ := own_stB X82 hx hZ e82 V_dd (by decide) (i := 1) rfl (Nat.le_of_ble_eq_true rfl) (g := (mkF m 31 #[.val (.ref bb), .val (.int (1 : Int32)), .val (.ref dd), .val (.int (1 : Int32)), .val (.int (4 : Int32)), .val (.int (1 : Int32)), .val (.int ch1)] [(.int (ch1.toInt8.toInt32)), (.int (1 : Int32)), (.ref dd)])) rfl rfl (hb hby d9_31)
      rw [own_b8] at V85
      replace V_dd : Arv Z h85 dd kd .byte (4 : Int32) [(.int (ch0.toInt8.toInt32)), (.int (ch1.toInt8.toInt32)), (.int (0 : Int32)), (.int (0 : Int32))] (.int (0 : Int32)) := V85
      have N85 := Fr.snoc X85 N82 g_dd
      refine own_go st85 ?_
      replace V_bb := V_bb.other W85 neb
      have K86 := K83.wr W85 (Or.inl (by simp))
      show own_Fin _ _ _ _ (T85.setTop (mkF m 32 #[.val (.ref bb), .val (.int (1 : Int32)), .val (.ref dd), .val (.int (1 : Int32)), .val (.int (4 : Int32)), .val (.int (1 : Int32)), .val (.int ch1)] []))
      refine own_go (fun _ q => XS.iinc X85.here hx rfl (hb hby d9_32) rfl (l' := #[.val (.ref bb), .val (.int (2 : Int32)), .val (.ref dd), .val (.int (1 : Int32)), .val (.int (4 : Int32)), .val (.int (1 : Int32)), .val (.int ch1)]) rfl q) ?_
      show own_Fin _ _ _ _ (T85.setTop (mkF m 35 #[.val (.ref bb), .val (.int (2 : Int32)), .val (.ref dd), .val (.int (1 : Int32)), .val (.int (4 : Int32)), .val (.int (1 : Int32)), .val (.int ch1)] []))
      refine own_go (fun _ q => XS.iinc X85.here hx rfl (hb hby d9_35) rfl (l' := #[.val (.ref bb), .val (.int (2 : Int32)), .val (.ref dd), .val (.int (2 : Int32)), .val (.int (4 : Int32)), .val (.int (1 : Int32)), .val (.int ch1)]) rfl q) ?_
      show own_Fin _ _ _ _ (T85.setTop (mkF m 38 #[.val (.ref bb), .val (.int (2 : Int32)), .val (.ref dd), .val (.int (2 : Int32)), .val (.int (4 : Int32)), .val (.int (1 : Int32)), .val (.int ch1)] []))
      refine own_go (fun _ q => XS.iinc X85.here hx rfl (hb hby d9_38) rfl (l' := #[.val (.ref bb), .val (.int (2 : Int32)), .val (.ref dd), .val (.int (2 : Int32)), .val (.int (4 : Int32)), .val (.int (2 : Int32)), .val (.int ch1)]) rfl q) ?_
      refine own_go (fun _ q => XS.goto X85.here hx rfl (pc0 := 41) (pc' := 3) rfl (hb hby d9_41) (by decide) (by decide) q) ?_
      refine own_go (fun _ q => XS.iload X85.here hx rfl (hb hby d9_3) rfl q) ?_
      refine own_go (fun _ q => XS.iload X85.here hx rfl (hb hby d9_5) rfl q) ?_
      show own_Fin _ _ _ _ (T85.setTop (mkF m 7 #[.val (.ref bb), .val (.int (2 : Int32)), .val (.ref dd), .val (.int (2 : Int32)), .val (.int (4 : Int32)), .val (.int (2 : Int32)), .val (.int ch1)] [(.int (4 : Int32)), (.int (2 : Int32))]))
      refine own_go (fun _ q => XS.icmpNo X85.here hx rfl (hb hby d9_7) rfl (tlt (by decide : (2 : Int32) < (4 : Int32))).2.1 q) ?_
      refine own_go (fun _ q => XS.aloadN X85.here hx rfl (hb hby d9_10) rfl rfl q) ?_
      refine own_go (fun _ q => XS.iloadN X85.here hx rfl (hb hby d9_11) rfl q) ?_
      show own_Fin _ _ _ _ (T85.setTop (mkF m 12 #[.val (.ref bb), .val (.int (2 : Int32)), .val (.ref dd), .val (.int (2 : Int32)), .val (.int (4 : Int32)), .val (.int (2 : Int32)), .val (.int ch1)] [(.int (2 : Int32)), (.ref bb)]))
      refine own_go (fun _ q => own_caload X85 hx hZ e85 V_bb (by decide) (v := (.int ch2)) (rfl) (g := (mkF m 12 #[.val (.ref bb), .val (.int (2 : Int32)), .val (.ref dd), .val (.int (2 : Int32)), .val (.int (4 : Int32)), .val (.int (2 : Int32)), .val (.int ch1)] [(.int (2 : Int32)), (.ref bb)])) rfl rfl (hb hby d9_12) _ q) ?_
      refine own_go (fun _ q => XS.istore X85.here hx rfl (hb hby d9_13) rfl (l' := #[.val (.ref bb), .val (.int (2 : Int32)), .val (.ref dd), .val (.int (2 : Int32)), .val (.int (4 : Int32)), .val (.int (2 : Int32)), .val (.int ch2)]) rfl q) ?_
      refine own_go (fun _ q => XS.iload X85.here hx rfl (hb hby d9_15) rfl q) ?_
      refine own_go (fun _ q => XS.sipush X85.here hx rfl (hb hby d9_17) q) ?_
      show own_Fin _ _ _ _ (T85.setTop (mkF m 20 #[.val (.ref bb), .val (.int (2 : Int32)), .val (.ref dd), .val (.int (2 : Int32)), .val (.int (4 : Int32)), .val (.int (2 : Int32)), .val (.int ch2)] [(.int (255 : Int32)), (.int ch2)]))
      by_cases hc87 : (255 : Int32) < ch2
      · skip
        refine own_go (fun _ q => XS.icmpNo X85.here hx rfl (hb hby d9_20) rfl (tlt hc87).2.2.2 q) ?_
        refine own_go (fun _ q => XS.iload X85.here hx rfl (hb hby d9_23) rfl q) ?_
        show own_Fin _ _ _ _ (T85.setTop (mkF m 25 #[.val (.ref bb), .val (.int (2 : Int32)), .val (.ref dd), .val (.int (2 : Int32)), .val (.int (4 : Int32)), .val (.int (2 : Int32)), .val (.int ch2)] [(.int (2 : Int32))]))
        refine own_retI X85 hx Bd (t := .int) Bd.returns rfl (by simp) (hb hby d9_25) ?_ (by decide) (by decide)
        show (Q_rm_c5_4 Z bb kb dd kd ch0 ch1 ch2 ch3 h0 n0) (some (.int (2 : Int32))) T85.heap _
        rw [e85]
        exact ⟨N85, K86, Or.inl ⟨_, _, rfl, by decide, by decide, by decide, rfl, rfl, own_m 2 rfl, hc87⟩⟩
      · skip
        refine own_go (fun _ q => XS.icmpYes X85.here hx rfl (pc0 := 20) (pc' := 26) rfl (hb hby d9_20) rfl (flt hc87).2.2.2 (by decide) (by decide) q) ?_
        refine own_go (fun _ q => XS.aloadN X85.here hx rfl (hb hby d9_26) rfl rfl q) ?_
        refine own_go (fun _ q => XS.iloadN X85.here hx rfl (hb hby d9_27) rfl q) ?_
        refine own_go (fun _ q => XS.iload X85.here hx rfl (hb hby d9_28) rfl q) ?_
        show own_Fin _ _ _ _ (T85.setTop (mkF m 30 #[.val (.ref bb), .val (.int (2 : Int32)), .val (.ref dd), .val (.int (2 : Int32)), .val (.int (4 : Int32)), .val (.int (2 : Int32)), .val (.int ch2)] [(.int ch2), (.int (2 : Int32)), (.ref dd)]))
        refine own_go (fun _ q => XS.i2b X85.here hx rfl (hb hby d9_30) rfl q) ?_
        show own_Fin _ _ _ _ (T85.setTop (mkF m 31 #[.val (.ref bb), .val (.int (2 : Int32)), .val (.ref dd), .val (.int (2 : Int32)), .val (.int (4 : Int32)), .val (.int (2 : Int32)), .val (.int ch2)] [(.int (ch2.toInt8.toInt32)), (.int (2 : Int32)), (.ref dd)]))
        obtain ⟨T88, h88, X88, e88, W88, V88, st88⟩ := own_stB X85 hx hZ e85 V_dd (by decide) (i := 2) rfl (Nat.le_of_ble_eq_true rfl) (g := (mkF m 31 #[.val (.ref bb), .val (.int (2 : Int32)), .val (.ref dd), .val (.int (2 : Int32)), .val (.int (4 : Int32)), .val (.int (2 : Int32)), .val (.int ch2)] [(.int (ch2.toInt8.toInt32)), (.int (2 : Int32)), (.ref dd)])) rfl rfl (hb hby d9_31)
        rw [own_b8] at V88
        replace V_dd : Arv Z h88 dd kd .byte (4 : Int32) [(.int (ch0.toInt8.toInt32)), (.int (ch1.toInt8.toInt32)), (.int (ch2.toInt8.toInt32)), (.int (0 : Int32))] (.int (0 : Int32)) := V88
        have N88 := Fr.snoc X88 N85 g_dd
        refine own_go st88 ?_
        replace V_bb := V_bb.other W88 neb
        have K89 := K86.wr W88 (Or.inl (by simp))
        show own_Fin _ _ _ _ (T88.setTop (mkF m 32 #[.val (.ref bb), .val (.int (2 : Int32)), .val (.ref dd), .val (.int (2 : Int32)), .val (.int (4 : Int32)), .val (.int (2 : Int32)), .val (.int ch2)] []))
        refine own_go (fun _ q => XS.iinc X88.here hx rfl (hb hby d9_32) rfl (l' := #[.val (.ref bb), .val (.int (3 : Int32)), .val (.ref dd), .val (.int (2 : Int32)), .val (.int (4 : Int32)), .val (.int (2 : Int32)), .val (.int ch2)]) rfl q) ?_
        show own_Fin _ _ _ _ (T88.setTop (mkF m 35 #[.val (.ref bb), .val (.int (3 : Int32)), .val (.ref dd), .val (.int (2 : Int32)), .val (.int (4 : Int32)), .val (.int (2 : Int32)), .val (.int ch2)] []))
        refine own_go (fun _ q => XS.iinc X88.here hx rfl (hb hby d9_35) rfl (l' := #[.val (.ref bb), .val (.int (3 : Int32)), .val (.ref dd), .val (.int (3 : Int32)), .val (.int (4 : Int32)), .val (.int (2 : Int32)), .val (.int ch2)]) rfl q) ?_
        show own_Fin _ _ _ _ (T88.setTop (mkF m 38 #[.val (.ref bb), .val (.int (3 : Int32)), .val (.ref dd), .val (.int (3 : Int32)), .val (.int (4 : Int32)), .val (.int (2 : Int32)), .val (.int ch2)] []))
        refine own_go (fun _ q => XS.iinc X88.here hx rfl (hb hby d9_38) rfl (l' := #[.val (.ref bb), .val (.int (3 : Int32)), .val (.ref dd), .val (.int (3 : Int32)), .val (.int (4 : Int32)), .val (.int (3 : Int32)), .val (.int ch2)]) rfl q) ?_
        refine own_go (fun _ q => XS.goto X88.here hx rfl (pc0 := 41) (pc' := 3) rfl (hb hby d9_41) (by decide) (by decide) q) ?_
        refine own_go (fun _ q => XS.iload X88.here hx rfl (hb hby d9_3) rfl q) ?_
        refine own_go (fun _ q => XS.iload X88.here hx rfl (hb hby d9_5) rfl q) ?_
        show own_Fin _ _ _ _ (T88.setTop (mkF m 7 #[.val (.ref bb), .val (.int (3 : Int32)), .val (.ref dd), .val (.int (3 : Int32)), .val (.int (4 : Int32)), .val (.int (3 : Int32)), .val (.int ch2)] [(.int (4 : Int32)), (.int (3 : Int32))]))
        refine own_go (fun _ q => XS.icmpNo X88.here hx rfl (hb hby d9_7) rfl (tlt (by decide : (3 : Int32) < (4 : Int32))).2.1 q) ?_
        refine own_go (fun _ q => XS.aloadN X88.here hx rfl (hb hby d9_10) rfl rfl q) ?_
        refine own_go (fun _ q => XS.iloadN X88.here hx rfl (hb hby d9_11) rfl q) ?_
        show own_Fin _ _ _ _ (T88.setTop (mkF m 12 #[.val (.ref bb), .val (.int (3 : Int32)), .val (.ref dd), .val (.int (3 : Int32)), .val (.int (4 : Int32)), .val (.int (3 : Int32)), .val (.int ch2)] [(.int (3 : Int32)), (.ref bb)]))
        refine own_go (fun _ q => own_caload X88 hx hZ e88 V_bb (by decide) (v := (.int ch3)) (rfl) (g := (mkF m 12 #[.val (.ref bb), .val (.int (3 : Int32)), .val (.ref dd), .val (.int (3 : Int32)), .val (.int (4 : Int32)), .val (.int (3 : Int32)), .val (.int ch2)] [(.int (3 : Int32)), (.ref bb)])) rfl rfl (hb hby d9_12) _ q) ?_
        refine own_go (fun _ q => XS.istore X88.here hx rfl (hb hby d9_13) rfl (l' := #[.val (.ref bb), .val (.int (3 : Int32)), .val (.ref dd), .val (.int (3 : Int32)), .val (.int (4 : Int32)), .val (.int (3 : Int32)), .val (.int ch3)]) rfl q) ?_
        refine own_go (fun _ q => XS.iload X88.here hx rfl (hb hby d9_15) rfl q) ?_
        refine own_go (fun _ q => XS.sipush X88.here hx rfl (hb hby d9_17) q) ?_
        show own_Fin _ _ _ _ (T88.setTop (mkF m 20 #[.val (.ref bb), .val (.int (3 : Int32)), .val (.ref dd), .val (.int (3 : Int32)), .val (.int (4 : Int32)), .val (.int (3 : Int32)), .val (.int ch3)] [(.int (255 : Int32)), (.int ch3)]))
        by_cases hc90 : (255 : Int32) < ch3
        · skip
          refine own_go (fun _ q => XS.icmpNo X88.here hx rfl (hb hby d9_20) rfl (tlt hc90).2.2.2 q) ?_
          refine own_go (fun _ q => XS.iload X88.here hx rfl (hb hby d9_23) rfl q) ?_
          show own_Fin _ _ _ _ (T88.setTop (mkF m 25 #[.val (.ref bb), .val (.int (3 : Int32)), .val (.ref dd), .val (.int (3 : Int32)), .val (.int (4 : Int32)), .val (.int (3 : Int32)), .val (.int ch3)] [(.int (3 : Int32))]))
          refine own_retI X88 hx Bd (t := .int) Bd.returns rfl (by simp) (hb hby d9_25) ?_ (by decide) (by decide)
          show (Q_rm_c5_4 Z bb kb dd kd ch0 ch1 ch2 ch3 h0 n0) (some (.int (3 : Int32))) T88.heap _
          rw [e88]
          exact ⟨N88, K89, Or.inl ⟨_, _, rfl, by decide, by decide, by decide, rfl, rfl, own_m 3 rfl, hc90⟩⟩
        · skip
          refine own_go (fun _ q => XS.icmpYes X88.here hx rfl (pc0 := 20) (pc' := 26) rfl (hb hby d9_20) rfl (flt hc90).2.2.2 (by decide) (by decide) q) ?_
          refine own_go (fun _ q => XS.aloadN X88.here hx rfl (hb hby d9_26) rfl rfl q) ?_
          refine own_go (fun _ q => XS.iloadN X88.here hx rfl (hb hby d9_27) rfl q) ?_
          refine own_go (fun _ q => XS.iload X88.here hx rfl (hb hby d9_28) rfl q) ?_
          show own_Fin _ _ _ _ (T88.setTop (mkF m 30 #[.val (.ref bb), .val (.int (3 : Int32)), .val (.ref dd), .val (.int (3 : Int32)), .val (.int (4 : Int32)), .val (.int (3 : Int32)), .val (.int ch3)] [(.int ch3), (.int (3 : Int32)), (.ref dd)]))
          refine own_go (fun _ q => XS.i2b X88.here hx rfl (hb hby d9_30) rfl q) ?_
          show own_Fin _ _ _ _ (T88.setTop (mkF m 31 #[.val (.ref bb), .val (.int (3 : Int32)), .val (.ref dd), .val (.int (3 : Int32)), .val (.int (4 : Int32)), .val (.int (3 : Int32)), .val (.int ch3)] [(.int (ch3.toInt8.toInt32)), (.int (3 : Int32)), (.ref dd)]))
          obtain ⟨T91, h91, X91, e91, W91, V91, st91⟩ := own_stB X88 hx hZ e88 V_dd (by decide) (i := 3) rfl (Nat.le_of_ble_eq_true rfl) (g := (mkF m 31 #[.val (.ref bb), .val (.int (3 : Int32)), .val (.ref dd), .val (.int (3 : Int32)), .val (.int (4 : Int32)), .val (.int (3 : Int32)), .val (.int ch3)] [(.int (ch3.toInt8.toInt32)), (.int (3 : Int32)), (.ref dd)])) rfl rfl (hb hby d9_31)
          rw [own_b8] at V91
          replace V_dd : Arv Z h91 dd kd .byte (4 : Int32) [(.int (ch0.toInt8.toInt32)), (.int (ch1.toInt8.toInt32)), (.int (ch2.toInt8.toInt32)), (.int (ch3.toInt8.toInt32))] (.int (0 : Int32)) := V91
          have N91 := Fr.snoc X91 N88 g_dd
          refine own_go st91 ?_
          replace V_bb := V_bb.other W91 neb
          have K92 := K89.wr W91 (Or.inl (by simp))
          show own_Fin _ _ _ _ (T91.setTop (mkF m 32 #[.val (.ref bb), .val (.int (3 : Int32)), .val (.ref dd), .val (.int (3 : Int32)), .val (.int (4 : Int32)), .val (.int (3 : Int32)), .val (.int ch3)] []))
          refine own_go (fun _ q => XS.iinc X91.here hx rfl (hb hby d9_32) rfl (l' := #[.val (.ref bb), .val (.int (4 : Int32)), .val (.ref dd), .val (.int (3 : Int32)), .val (.int (4 : Int32)), .val (.int (3 : Int32)), .val (.int ch3)]) rfl q) ?_
          show own_Fin _ _ _ _ (T91.setTop (mkF m 35 #[.val (.ref bb), .val (.int (4 : Int32)), .val (.ref dd), .val (.int (3 : Int32)), .val (.int (4 : Int32)), .val (.int (3 : Int32)), .val (.int ch3)] []))
          refine own_go (fun _ q => XS.iinc X91.here hx rfl (hb hby d9_35) rfl (l' := #[.val (.ref bb), .val (.int (4 : Int32)), .val (.ref dd), .val (.int (4 : Int32)), .val (.int (4 : Int32)), .val (.int (3 : Int32)), .val (.int ch3)]) rfl q) ?_
          show own_Fin _ _ _ _ (T91.setTop (mkF m 38 #[.val (.ref bb), .val (.int (4 : Int32)), .val (.ref dd), .val (.int (4 : Int32)), .val (.int (4 : Int32)), .val (.int (3 : Int32)), .val (.int ch3)] []))
          refine own_go (fun _ q => XS.iinc X91.here hx rfl (hb hby d9_38) rfl (l' := #[.val (.ref bb), .val (.int (4 : Int32)), .val (.ref dd), .val (.int (4 : Int32)), .val (.int (4 : Int32)), .val (.int (4 : Int32)), .val (.int ch3)]) rfl q) ?_
          refine own_go (fun _ q => XS.goto X91.here hx rfl (pc0 := 41) (pc' := 3) rfl (hb hby d9_41) (by decide) (by decide) q) ?_
          refine own_go (fun _ q => XS.iload X91.here hx rfl (hb hby d9_3) rfl q) ?_
          refine own_go (fun _ q => XS.iload X91.here hx rfl (hb hby d9_5) rfl q) ?_
          show own_Fin _ _ _ _ (T91.setTop (mkF m 7 #[.val (.ref bb), .val (.int (4 : Int32)), .val (.ref dd), .val (.int (4 : Int32)), .val (.int (4 : Int32)), .val (.int (4 : Int32)), .val (.int ch3)] [(.int (4 : Int32)), (.int (4 : Int32))]))
          refine own_go (fun _ q => XS.icmpYes X91.here hx rfl (pc0 := 7) (pc' := 44) rfl (hb hby d9_7) rfl (flt (by decide : ¬ (4 : Int32) < (4 : Int32))).2.1 (by decide) (by decide) q) ?_
          refine own_go (fun _ q => XS.iload X91.here hx rfl (hb hby d9_44) rfl q) ?_
          show own_Fin _ _ _ _ (T91.setTop (mkF m 46 #[.val (.ref bb), .val (.int (4 : Int32)), .val (.ref dd), .val (.int (4 : Int32)), .val (.int (4 : Int32)), .val (.int (4 : Int32)), .val (.int ch3)] [(.int (4 : Int32))]))
          refine own_retI X91 hx Bd (t := .int) Bd.returns rfl (by simp) (hb hby d9_46) ?_ (by decide) (by decide)
          show (Q_rm_c5_4 Z bb kb dd kd ch0 ch1 ch2 ch3 h0 n0) (some (.int (4 : Int32))) T91.heap _
          rw [e91]
          refine ⟨N91, K92, Or.inr ⟨rfl, ?_, V_dd⟩⟩
          intro c hc
          simp only [List.mem_cons, List.not_mem_nil, or_false] at hc
          rcases hc with rfl | rfl | rfl | rfl
          · exact hc81
          · exact hc84
          · exact hc87
          · exact hc90
def Q_rm_c3_2 (Z : State) (bb : Addr) (kb : ClassId) (ch0 : Int32) (ch1 : Int32) (h0 : Heap) (n0 : Nat) (v : Option Value) (h : Heap) (L : List Loc) : Prop := ∃ (r : Addr) (k : ClassId), v = some (.ref r) ∧ Fr n0 L ∧ Keep h0 h [] ∧ h0.size ≤ r ∧ (((∀ c ∈ ([ch0, ch1] : List Int32), ¬ (255 : Int32) < c) ∧ Arv Z h r k .byte (2 : Int32) [(.int (ch0.toInt8.toInt32)), (.int (ch1.toInt8.toInt32))] (.int (0 : Int32))) ∨ ((∃ c ∈ ([ch0, ch1] : List Int32), (255 : Int32) < c) ∧ Arv Z h r k .byte (4 : Int32) [(.int (ch0.toInt8.toInt32)), (.int ((ch0 >>> ((8 : Int32) &&& 31)).toInt8.toInt32)), (.int (ch1.toInt8.toInt32)), (.int ((ch1 >>> ((8 : Int32) &&& 31)).toInt8.toInt32))] (.int (0 : Int32))))
theorem ef_rm_c3_2 (m : MethodId) (bb : Addr) (ch0 : Int32) (ch1 : Int32) : entryFrame m #[(.ref bb), (.int (0 : Int32)), (.int (2 : Int32))] 6 = mkF m 0 #[.val (.ref bb), .val (.int (0 : Int32)), .val (.int (2 : Int32)), .unset, .unset, .unset] [] := by first | (simp [entryFrame, mkF, argsToLocals, Value.category]; done) | rfl
set_option maxRecDepth 65536 in
set_option maxHeartbeats 40000000 in
theorem rm_c3_2 (l : Launch) (Z : State) (a0 : Array Value) (hw : ∀ d ∈ tables_1, d.before a0 Z = true) (ws : List Jvm.Cond) (bb : Addr) (kb : ClassId) (ch0 : Int32) (ch1 : Int32) (h0 : Heap) (n0 : Nat) (Z0 : n0 ≤ h0.size) (V_bb : Arv Z h0 bb kb .char (2 : Int32) [(.int ch0), (.int ch1)] (.int (0 : Int32))) (hbd : ∀ c ∈ ([ch0, ch1] : List Int32), ¬ c < 0 ∧ ¬ (65535 : Int32) < c) (O0 : Old Z n0 h0) (S_A : Sta Z Z.heap "java/lang/StringUTF16" "$assertionsDisabled" "Z" (.int (1 : Int32))) (S_H : Sta Z Z.heap "java/lang/StringUTF16" "HI_BYTE_SHIFT" "I" (.int (0 : Int32))) (S_L : Sta Z Z.heap "java/lang/StringUTF16" "LO_BYTE_SHIFT" "I" (.int (8 : Int32))) :
    MetFree l (⟨"java/lang/StringUTF16", "compress", "([CII)[B"⟩ : MethodName) (head1 (Jvm.Cond.code (⟨"java/lang/StringUTF16", "compress", "([CII)[B"⟩ : MethodName) jdk_52_method_16_code 6 (some (.array .byte)) :: ws) ({ frames := 3, cells := 2, slots := 6, locals := 40 } : Room)) (fun a_ U_ => a_ = #[(.ref bb), (.int (0 : Int32)), (.int (2 : Int32))] ∧ Z.Warmed39 U_.vm ∧ U_.heap = h0) (fun _ _ _ _ _ => True) (fun _ U_ o_ V_ => ∃ v_ L_, o_ = .returned v_ ∧ (Q_rm_c3_2 Z bb kb ch0 ch1 h0 n0) v_ V_.heap L_ ∧ FrameEnd U_ o_ V_ L_ ({ frames := 3, cells := 2, slots := 6, locals := 40 } : Room).cells ({ frames := 3, cells := 2, slots := 6, locals := 40 } : Room).slots) := by
  refine MetFree.of_bodySF (plainFor_of_name pn_2) hisR ?_
  intro p e s m args below meth c s₁ Bd hml0 hP hK
  obtain ⟨rfl, hZ, hh⟩ := hP
  have hx := Bd.exec
  have hby := Bd.bytes
  have hml : c.maxLocals = 6 := hml0
  have hown : s.vm.findClass "java/lang/StringUTF16" = some m.cls := findClass_of_methodNamed Bd.named
  have hnm := (name_of_methodNamed Bd.named Bd.method).1
  have X0 : Stand p l e ({ frames := 3, cells := 2, slots := 6, locals := 40 } : Room) s m #[(.ref bb), (.int (0 : Int32)), (.int (2 : Int32))] below meth c s₁ [] 0 0 := Stand.of_body Bd
  have e0 : s₁.heap = h0 := by rw [← hh, Bd.state]; rfl
  have N0 := Fr.nil n0
  have K0 : Keep h0 h0 [] := Keep.refl _ _
  show own_Fin p.tables e below (own_Post (Q_rm_c3_2 Z bb kb ch0 ch1 h0 n0) ({ frames := 3, cells := 2, slots := 6, locals := 40 } : Room).cells ({ frames := 3, cells := 2, slots := 6, locals := 40 } : Room).slots below s) _
  refine own_go (fun _ q => castTop (ef_rm_c3_2 m bb ch0 ch1) q) ?_
  refine own_go (fun _ q => XS.iloadN X0.here hx rfl (hb hby d8_0) rfl q) ?_
  show own_Fin _ _ _ _ (s₁.setTop (mkF m 1 #[.val (.ref bb), .val (.int (0 : Int32)), .val (.int (2 : Int32)), .unset, .unset, .unset] [(.int (2 : Int32))]))
  obtain ⟨T93, h93, k93, X93, e93, E93, A93, st93⟩ := newP X0 hx hZ (own_w hw 24 rfl) e0 (g := (mkF m 1 #[.val (.ref bb), .val (.int (0 : Int32)), .val (.int (2 : Int32)), .unset, .unset, .unset] [(.int (2 : Int32))])) rfl (hb hby d8_1) rfl (by decide) (cap := 2) (by decide) (by decide) (by decide) (by decide)
  obtain ⟨b93, g93⟩ : ∃ z, z = h0.size := ⟨_, rfl⟩
  rw [← g93] at A93 st93
  have sz_b93 : h0.size ≤ b93 := Nat.le_trans K0.1 (Nat.le_of_eq g93.symm)
  have g_b93 : n0 ≤ b93 := Nat.le_trans Z0 sz_b93
  have ne94 : bb ≠ b93 := Nat.ne_of_lt (Nat.lt_of_lt_of_le V_bb.lt (Nat.le_of_eq g93.symm))
  replace V_bb := V_bb.ext E93
  replace O0 := O0.ext E93
  have K95 := K0.ext E93
  have V93 : Arv Z h93 b93 k93 .byte (2 : Int32) [(.int (0 : Int32)), (.int (0 : Int32))] (.int (0 : Int32)) := (Arv.new A93 (by decide)).pad (pad_rep [] (.int (0 : Int32)) 2)
  refine own_go st93 ?_
  refine own_go (fun _ q => XS.astoreN X93.here hx rfl (hb hby d8_3) rfl rfl (l' := #[.val (.ref bb), .val (.int (0 : Int32)), .val (.int (2 : Int32)), .val (.ref b93), .unset, .unset]) rfl q) ?_
  refine own_go (fun _ q => XS.aloadN X93.here hx rfl (hb hby d8_4) rfl rfl q) ?_
  refine own_go (fun _ q => XS.iloadN X93.here hx rfl (hb hby d8_5) rfl q) ?_
  refine own_go (fun _ q => XS.aloadN X93.here hx rfl (hb hby d8_6) rfl rfl q) ?_
  refine own_go (fun _ q => XS.iconst X93.here hx rfl (hb hby d8_7) q) ?_
  refine own_go (fun _ q => XS.iloadN X93.here hx rfl (hb hby d8_8) rfl q) ?_
  show own_Fin _ _ _ _ (T93.setTop (mkF m 9 #[.val (.ref bb), .val (.int (0 : Int32)), .val (.int (2 : Int32)), .val (.ref b93), .unset, .unset] [(.int (2 : Int32)), (.int (0 : Int32)), (.ref b93), (.int (0 : Int32)), (.ref bb)]))
  obtain ⟨_, _, ⟨T96, L96, k96, n96⟩, -, X96, ⟨Lc96, hQ96, l96, y96, z96⟩, st96⟩ := Jvm.LawKit.callS X93 hx (y := (⟨"java/lang/StringUTF16", "compress", "([CI[BII)I"⟩ : MethodName)) hown (mvT hZ (own_w hw 45 rfl)) (mvT hZ (own_w hw 46 rfl)) (mvT hZ (own_w hw 43 rfl)) (mvT hZ (own_w hw 47 rfl)) (by decide) (backOf (W := 0) (rm_c5_2 l Z a0 hw [] bb kb b93 k93 ch0 ch1 h93 n0 (Nat.le_trans Z0 K95.1) V_bb V93 g_b93 ne94) hZ (own_w hw 47 rfl) (own_w hw 43 rfl) (by decide) (by decide)) (g := (mkF m 9 #[.val (.ref bb), .val (.int (0 : Int32)), .val (.int (2 : Int32)), .val (.ref b93), .unset, .unset] [(.int (2 : Int32)), (.int (0 : Int32)), (.ref b93), (.int (0 : Int32)), (.ref bb)])) rfl (by rw [hml]; rfl) (argsL := [(.ref bb), (.int (0 : Int32)), (.ref b93), (.int (0 : Int32)), (.int (2 : Int32))]) (rest := []) (lenOf pd_6 rfl) rfl (by show 2 * 0 + _ ≤ _; exact Nat.le_of_eq rfl) (hb hby d8_9) (fun _ _ => ⟨rfl, e93, (by decide : 1 + 0 ≤ _), (by decide : 2 + 0 ≤ _)⟩)
  dsimp only [Pt.U, Pt.locs, Pt.cells, Pt.slots] at X96 l96 y96 z96 st96 hQ96
  subst l96 y96 z96
  obtain ⟨N96q, KK96, hD96⟩ := hQ96
  have N96 := Fr.app N0 N96q
  replace V_bb := V_bb.keep KK96 (ninS ne94 nin0)
  replace O0 := O0.keep KK96 (allS g_b93 (all0))
  have K97 := K95.trans KK96 (allS (Or.inr sz_b93) all0)
  rcases hD96 with ⟨ii, chx, rfl, hne, hj1, hj2, hv1, hv2, hin, hbig⟩ | ⟨rfl, hall96, VV96⟩
  · skip
    refine own_go st96 ?_
    refine own_go (fun _ q => XS.istore X96.here hx rfl (hb hby d8_12) rfl (l' := #[.val (.ref bb), .val (.int (0 : Int32)), .val (.int (2 : Int32)), .val (.ref b93), .val (.int ii), .unset]) rfl q) ?_
    refine own_go (fun _ q => XS.iload X96.here hx rfl (hb hby d8_14) rfl q) ?_
    refine own_go (fun _ q => XS.iloadN X96.here hx rfl (hb hby d8_16) rfl q) ?_
    show own_Fin _ _ _ _ (T96.setTop (mkF m 17 #[.val (.ref bb), .val (.int (0 : Int32)), .val (.int (2 : Int32)), .val (.ref b93), .val (.int ii), .unset] [(.int (2 : Int32)), (.int ii)]))
    refine own_go (fun _ q => XS.icmpNo X96.here hx rfl (hb hby d8_17) rfl (feq hne).1 q) ?_
    refine own_go (fun _ q => XS.aloadN X96.here hx rfl (hb hby d8_20) rfl rfl q) ?_
    refine own_go (fun _ q => XS.iloadN X96.here hx rfl (hb hby d8_21) rfl q) ?_
    refine own_go (fun _ q => XS.iloadN X96.here hx rfl (hb hby d8_22) rfl q) ?_
    show own_Fin _ _ _ _ (T96.setTop (mkF m 23 #[.val (.ref bb), .val (.int (0 : Int32)), .val (.int (2 : Int32)), .val (.ref b93), .val (.int ii), .unset] [(.int (2 : Int32)), (.int (0 : Int32)), (.ref bb)]))
    obtain ⟨_, _, ⟨T98, L98, k98, n98⟩, -, X98, ⟨Lc98, hQ98, l98, y98, z98⟩, st98⟩ := Jvm.LawKit.callS X96 hx (y := (⟨"java/lang/StringUTF16", "toBytes", "([CII)[B"⟩ : MethodName)) hown (mvT hZ (own_w hw 119 rfl)) (mvT hZ (own_w hw 120 rfl)) (mvT hZ (own_w hw 43 rfl)) (mvT hZ (own_w hw 121 rfl)) (by decide) (backOf (W := 0) (rm_tob2 l Z a0 hw [] bb kb ch0 ch1 T96.heap n0 (Nat.le_trans Z0 K97.1) V_bb O0 S_A S_H S_L) hZ (own_w hw 121 rfl) (own_w hw 43 rfl) (by decide) (by decide)) (g := (mkF m 23 #[.val (.ref bb), .val (.int (0 : Int32)), .val (.int (2 : Int32)), .val (.ref b93), .val (.int ii), .unset] [(.int (2 : Int32)), (.int (0 : Int32)), (.ref bb)])) rfl (by rw [hml]; rfl) (argsL := [(.ref bb), (.int (0 : Int32)), (.int (2 : Int32))]) (rest := []) (lenOf pd_7 rfl) rfl (by show 2 * 0 + _ ≤ _; exact Nat.le_of_eq rfl) (hb hby d8_23) (fun _ _ => ⟨rfl, rfl, (by decide : 1 + 1 ≤ _), (by decide : 2 + 4 ≤ _)⟩)
    dsimp only [Pt.U, Pt.locs, Pt.cells, Pt.slots] at X98 l98 y98 z98 st98 hQ98
    subst l98 y98 z98
    obtain ⟨r98, kk98, rfl, N98q, KK98, sz98, V98⟩ := hQ98
    have N98 := Fr.app N96 N98q
    have sz_r98 : h0.size ≤ r98 := Nat.le_trans K97.1 sz98
    have g_r98 : n0 ≤ r98 := Nat.le_trans Z0 sz_r98
    have ne99 : bb ≠ r98 := Nat.ne_of_lt (Nat.lt_of_lt_of_le V_bb.lt sz98)
    replace V_bb := V_bb.keep KK98 nin0
    replace O0 := O0.keep KK98 all0
    have K100 := K97.trans KK98 all0
    refine own_go st98 ?_
    refine own_go (fun _ q => XS.astore X98.here hx rfl (hb hby d8_26) rfl rfl (l' := #[.val (.ref bb), .val (.int (0 : Int32)), .val (.int (2 : Int32)), .val (.ref b93), .val (.int ii), .val (.ref r98)]) rfl q) ?_
    refine own_go (fun _ q => XS.aload X98.here hx rfl (hb hby d8_28) rfl rfl q) ?_
    refine own_go (fun _ q => XS.iload X98.here hx rfl (hb hby d8_30) rfl q) ?_
    show own_Fin _ _ _ _ (T98.setTop (mkF m 32 #[.val (.ref bb), .val (.int (0 : Int32)), .val (.int (2 : Int32)), .val (.ref b93), .val (.int ii), .val (.ref r98)] [(.int ii), (.ref r98)]))
    obtain ⟨_, _, ⟨T101, L101, k101, n101⟩, -, X101, ⟨Lc101, hQ101, l101, y101, z101⟩, st101⟩ := Jvm.LawKit.callS X98 hx (y := (⟨"java/lang/StringUTF16", "getChar", "([BI)C"⟩ : MethodName)) hown (mvT hZ (own_w hw 135 rfl)) (mvT hZ (own_w hw 136 rfl)) (mvT hZ (own_w hw 43 rfl)) (mvT hZ (own_w hw 137 rfl)) (by decide) (backOf (W := 0) (rm_gc l Z a0 hw [] r98 kk98 ii chx (4 : Int32) [(.int (ch0.toInt8.toInt32)), (.int ((ch0 >>> ((8 : Int32) &&& 31)).toInt8.toInt32)), (.int (ch1.toInt8.toInt32)), (.int ((ch1 >>> ((8 : Int32) &&& 31)).toInt8.toInt32))] T98.heap n0 (Nat.le_trans Z0 K100.1) V98 hj1 hj2 hv1 hv2 (hbd _ hin) O0 S_A S_H S_L) hZ (own_w hw 137 rfl) (own_w hw 43 rfl) (by decide) (by decide)) (g := (mkF m 32 #[.val (.ref bb), .val (.int (0 : Int32)), .val (.int (2 : Int32)), .val (.ref b93), .val (.int ii), .val (.ref r98)] [(.int ii), (.ref r98)])) rfl (by rw [hml]; rfl) (argsL := [(.ref r98), (.int ii)]) (rest := []) (lenOf pd_8 rfl) rfl (by show 2 * 0 + _ ≤ _; exact Nat.le_of_eq rfl) (hb hby d8_32) (fun _ _ => ⟨rfl, rfl, (by decide : 2 + 0 ≤ _), (by decide : 6 + 0 ≤ _)⟩)
    dsimp only [Pt.U, Pt.locs, Pt.cells, Pt.slots] at X101 l101 y101 z101 st101 hQ101
    subst l101 y101 z101
    obtain ⟨rfl, N101q, e101⟩ := hQ101
    have N101 := Fr.app N98 N101q
    refine own_go st101 ?_
    refine own_go (fun _ q => XS.sipush X101.here hx rfl (hb hby d8_35) q) ?_
    show own_Fin _ _ _ _ (T101.setTop (mkF m 38 #[.val (.ref bb), .val (.int (0 : Int32)), .val (.int (2 : Int32)), .val (.ref b93), .val (.int ii), .val (.ref r98)] [(.int (255 : Int32)), (.int chx)]))
    refine own_go (fun _ q => XS.icmpYes X101.here hx rfl (pc0 := 38) (pc' := 54) rfl (hb hby d8_38) rfl (tlt hbig).2.2.1 (by decide) (by decide) q) ?_
    refine own_go (fun _ q => XS.aload X101.here hx rfl (hb hby d8_54) rfl rfl q) ?_
    show own_Fin _ _ _ _ (T101.setTop (mkF m 56 #[.val (.ref bb), .val (.int (0 : Int32)), .val (.int (2 : Int32)), .val (.ref b93), .val (.int ii), .val (.ref r98)] [(.ref r98)]))
    refine own_retA X101 hx Bd (t := (.array .byte)) Bd.returns rfl rfl rfl (hb hby d8_56) ?_ (by decide) (by decide)
    show (Q_rm_c3_2 Z bb kb ch0 ch1 h0 n0) (some (.ref r98)) T101.heap _
    rw [e101]
    exact ⟨_, _, rfl, N101, K100, sz_r98, Or.inr ⟨⟨_, hin, hbig⟩, V98⟩⟩
  · skip
    refine own_go st96 ?_
    refine own_go (fun _ q => XS.istore X96.here hx rfl (hb hby d8_12) rfl (l' := #[.val (.ref bb), .val (.int (0 : Int32)), .val (.int (2 : Int32)), .val (.ref b93), .val (.int (2 : Int32)), .unset]) rfl q) ?_
    refine own_go (fun _ q => XS.iload X96.here hx rfl (hb hby d8_14) rfl q) ?_
    refine own_go (fun _ q => XS.iloadN X96.here hx rfl (hb hby d8_16) rfl q) ?_
    show own_Fin _ _ _ _ (T96.setTop (mkF m 17 #[.val (.ref bb), .val (.int (0 : Int32)), .val (.int (2 : Int32)), .val (.ref b93), .val (.int (2 : Int32)), .unset] [(.int (2 : Int32)), (.int (2 : Int32))]))
    refine own_go (fun _ q => XS.icmpYes X96.here hx rfl (pc0 := 17) (pc' := 57) rfl (hb hby d8_17) rfl (teq (by decide : (2 : Int32) = (2 : Int32))).1 (by decide) (by decide) q) ?_
    refine own_go (fun _ q => XS.aloadN X96.here hx rfl (hb hby d8_57) rfl rfl q) ?_
    show own_Fin _ _ _ _ (T96.setTop (mkF m 58 #[.val (.ref bb), .val (.int (0 : Int32)), .val (.int (2 : Int32)), .val (.ref b93), .val (.int (2 : Int32)), .unset] [(.ref b93)]))
    refine own_retA X96 hx Bd (t := (.array .byte)) Bd.returns rfl rfl rfl (hb hby d8_58) ?_ (by decide) (by decide)
    show (Q_rm_c3_2 Z bb kb ch0 ch1 h0 n0) (some (.ref b93)) T96.heap _
    exact ⟨_, _, rfl, N96, K97, sz_b93, Or.inl ⟨hall96, VV96⟩⟩
def Q_rm_c3_3 (Z : State) (bb : Addr) (kb : ClassId) (ch0 : Int32) (ch1 : Int32) (ch2 : Int32) (h0 : Heap) (n0 : Nat) (v : Option Value) (h : Heap) (L : List Loc) : Prop := ∃ (r : Addr) (k : ClassId), v = some (.ref r) ∧ Fr n0 L ∧ Keep h0 h [] ∧ h0.size ≤ r ∧ (((∀ c ∈ ([ch0, ch1, ch2] : List Int32), ¬ (255 : Int32) < c) ∧ Arv Z h r k .byte (3 : Int32) [(.int (ch0.toInt8.toInt32)), (.int (ch1.toInt8.toInt32)), (.int (ch2.toInt8.toInt32))] (.int (0 : Int32))) ∨ ((∃ c ∈ ([ch0, ch1, ch2] : List Int32), (255 : Int32) < c) ∧ Arv Z h r k .byte (6 : Int32) [(.int (ch0.toInt8.toInt32)), (.int ((ch0 >>> ((8 : Int32) &&& 31)).toInt8.toInt32)), (.int (ch1.toInt8.toInt32)), (.int ((ch1 >>> ((8 : Int32) &&& 31)).toInt8.toInt32)), (.int (ch2.toInt8.toInt32)), (.int ((ch2 >>> ((8 : Int32) &&& 31)).toInt8.toInt32))] (.int (0 : Int32))))
theorem ef_rm_c3_3 (m : MethodId) (bb : Addr) (ch0 : Int32) (ch1 : Int32) (ch2 : Int32) : entryFrame m #[(.ref bb), (.int (0 : Int32)), (.int (3 : Int32))] 6 = mkF m 0 #[.val (.ref bb), .val (.int (0 : Int32)), .val (.int (3 : Int32)), .unset, .unset, .unset] [] := by first | (simp [entryFrame, mkF, argsToLocals, Value.category]; done) | rfl
set_option maxRecDepth 65536 in
set_option maxHeartbeats 40000000 in
theorem rm_c3_3 (l : Launch) (Z : State) (a0 : Array Value) (hw : ∀ d ∈ tables_1, d.before a0 Z = true) (ws : List Jvm.Cond) (bb : Addr) (kb : ClassId) (ch0 : Int32) (ch1 : Int32) (ch2 : Int32) (h0 : Heap) (n0 : Nat) (Z0 : n0 ≤ h0.size) (V_bb : Arv Z h0 bb kb .char (3 : Int32) [(.int ch0), (.int ch1), (.int ch2)] (.int (0 : Int32))) (hbd : ∀ c ∈ ([ch0, ch1, ch2] : List Int32), ¬ c < 0 ∧ ¬ (65535 : Int32) < c) (O0 : Old Z n0 h0) (S_A : Sta Z Z.heap "java/lang/StringUTF16" "$assertionsDisabled" "Z" (.int (1 : Int32))) (S_H : Sta Z Z.heap "java/lang/StringUTF16" "HI_BYTE_SHIFT" "I" (.int (0 : Int32))) (S_L : Sta Z Z.heap "java/lang/StringUTF16" "LO_BYTE_SHIFT" "I" (.int (8 : Int32))) :
    MetFree l (⟨"java/lang/StringUTF16", "compress", "([CII)[B"⟩ : MethodName) (head1 (Jvm.Cond.code (⟨"java/lang/StringUTF16", "compress", "([CII)[B"⟩ : MethodName) jdk_52_method_16_code 6 (some (.array .byte)) :: ws) ({ frames := 3, cells := 2, slots := 9, locals := 40 } : Room)) (fun a_ U_ => a_ = #[(.ref bb), (.int (0 : Int32)), (.int (3 : Int32))] ∧ Z.Warmed39 U_.vm ∧ U_.heap = h0) (fun _ _ _ _ _ => True) (fun _ U_ o_ V_ => ∃ v_ L_, o_ = .returned v_ ∧ (Q_rm_c3_3 Z bb kb ch0 ch1 ch2 h0 n0) v_ V_.heap L_ ∧ FrameEnd U_ o_ V_ L_ ({ frames := 3, cells := 2, slots := 9, locals := 40 } : Room).cells ({ frames := 3, cells := 2, slots := 9, locals := 40 } : Room).slots) := by
  refine MetFree.of_bodySF (plainFor_of_name pn_2) hisR ?_
  intro p e s m args below meth c s₁ Bd hml0 hP hK
  obtain ⟨rfl, hZ, hh⟩ := hP
  have hx := Bd.exec
  have hby := Bd.bytes
  have hml : c.maxLocals = 6 := hml0
  have hown : s.vm.findClass "java/lang/StringUTF16" = some m.cls := findClass_of_methodNamed Bd.named
  have hnm := (name_of_methodNamed Bd.named Bd.method).1
  have X0 : Stand p l e ({ frames := 3, cells := 2, slots := 9, locals := 40 } : Room) s m #[(.ref bb), (.int (0 : Int32)), (.int (3 : Int32))] below meth c s₁ [] 0 0 := Stand.of_body Bd
  have e0 : s₁.heap = h0 := by rw [← hh, Bd.state]; rfl
  have N0 := Fr.nil n0
  have K0 : Keep h0 h0 [] := Keep.refl _ _
  show own_Fin p.tables e below (own_Post (Q_rm_c3_3 Z bb kb ch0 ch1 ch2 h0 n0) ({ frames := 3, cells := 2, slots := 9, locals := 40 } : Room).cells ({ frames := 3, cells := 2, slots := 9, locals := 40 } : Room).slots below s) _
  refine own_go (fun _ q => castTop (ef_rm_c3_3 m bb ch0 ch1 ch2) q) ?_
  refine own_go (fun _ q => XS.iloadN X0.here hx rfl (hb hby d8_0) rfl q) ?_
  show own_Fin _ _ _ _ (s₁.setTop (mkF m 1 #[.val (.ref bb), .val (.int (0 : Int32)), .val (.int (3 : Int32)), .unset, .unset, .unset] [(.int (3 : Int32))]))
  obtain ⟨T102, h102, k102, X102, e102, E102, A102, st102⟩ := newP X0 hx hZ (own_w hw 24 rfl) e0 (g := (mkF m 1 #[.val (.ref bb), .val (.int (0 : Int32)), .val (.int (3 : Int32)), .unset, .unset, .unset] [(.int (3 : Int32))])) rfl (hb hby d8_1) rfl (by decide) (cap := 3) (by decide) (by decide) (by decide) (by decide)
  obtain ⟨b102, g102⟩ : ∃ z, z = h0.size := ⟨_, rfl⟩
  rw [← g102] at A102 st102
  have sz_b102 : h0.size ≤ b102 := Nat.le_trans K0.1 (Nat.le_of_eq g102.symm)
  have g_b102 : n0 ≤ b102 := Nat.le_trans Z0 sz_b102
  have ne103 : bb ≠ b102 := Nat.ne_of_lt (Nat.lt_of_lt_of_le V_bb.lt (Nat.le_of_eq g102.symm))
  replace V_bb := V_bb.ext E102
  replace O0 := O0.ext E102
  have K104 := K0.ext E102
  have V102 : Arv Z h102 b102 k102 .byte (3 : Int32) [(.int (0 : Int32)), (.int (0 : Int32)), (.int (0 : Int32))] (.int (0 : Int32)) := (Arv.new A102 (by decide)).pad (pad_rep [] (.int (0 : Int32)) 3)
  refine own_go st102 ?_
  refine own_go (fun _ q => XS.astoreN X102.here hx rfl (hb hby d8_3) rfl rfl (l' := #[.val (.ref bb), .val (.int (0 : Int32)), .val (.int (3 : Int32)), .val (.ref b102), .unset, .unset]) rfl q) ?_
  refine own_go (fun _ q => XS.aloadN X102.here hx rfl (hb hby d8_4) rfl rfl q) ?_
  refine own_go (fun _ q => XS.iloadN X102.here hx rfl (hb hby d8_5) rfl q) ?_
  refine own_go (fun _ q => XS.aloadN X102.here hx rfl (hb hby d8_6) rfl rfl q) ?_
  refine own_go (fun _ q => XS.iconst X102.here hx rfl (hb hby d8_7) q) ?_
  refine own_go (fun _ q => XS.iloadN X102.here hx rfl (hb hby d8_8) rfl q) ?_
  show own_Fin _ _ _ _ (T102.setTop (mkF m 9 #[.val (.ref bb), .val (.int (0 : Int32)), .val (.int (3 : Int32)), .val (.ref b102), .unset, .unset] [(.int (3 : Int32)), (.int (0 : Int32)), (.ref b102), (.int (0 : Int32)), (.ref bb)]))
  obtain ⟨_, _, ⟨T105, L105, k105, n105⟩, -, X105, ⟨Lc105, hQ105, l105, y105, z105⟩, st105⟩ := Jvm.LawKit.callS X102 hx (y := (⟨"java/lang/StringUTF16", "compress", "([CI[BII)I"⟩ : MethodName)) hown (mvT hZ (own_w hw 45 rfl)) (mvT hZ (own_w hw 46 rfl)) (mvT hZ (own_w hw 43 rfl)) (mvT hZ (own_w hw 47 rfl)) (by decide) (backOf (W := 0) (rm_c5_3 l Z a0 hw [] bb kb b102 k102 ch0 ch1 ch2 h102 n0 (Nat.le_trans Z0 K104.1) V_bb V102 g_b102 ne103) hZ (own_w hw 47 rfl) (own_w hw 43 rfl) (by decide) (by decide)) (g := (mkF m 9 #[.val (.ref bb), .val (.int (0 : Int32)), .val (.int (3 : Int32)), .val (.ref b102), .unset, .unset] [(.int (3 : Int32)), (.int (0 : Int32)), (.ref b102), (.int (0 : Int32)), (.ref bb)])) rfl (by rw [hml]; rfl) (argsL := [(.ref bb), (.int (0 : Int32)), (.ref b102), (.int (0 : Int32)), (.int (3 : Int32))]) (rest := []) (lenOf pd_6 rfl) rfl (by show 2 * 0 + _ ≤ _; exact Nat.le_of_eq rfl) (hb hby d8_9) (fun _ _ => ⟨rfl, e102, (by decide : 1 + 0 ≤ _), (by decide : 3 + 0 ≤ _)⟩)
  dsimp only [Pt.U, Pt.locs, Pt.cells, Pt.slots] at X105 l105 y105 z105 st105 hQ105
  subst l105 y105 z105
  obtain ⟨N105q, KK105, hD105⟩ := hQ105
  have N105 := Fr.app N0 N105q
  replace V_bb := V_bb.keep KK105 (ninS ne103 nin0)
  replace O0 := O0.keep KK105 (allS g_b102 (all0))
  have K106 := K104.trans KK105 (allS (Or.inr sz_b102) all0)
  rcases hD105 with ⟨ii, chx, rfl, hne, hj1, hj2, hv1, hv2, hin, hbig⟩ | ⟨rfl, hall105, VV105⟩
  · skip
    refine own_go st105 ?_
    refine own_go (fun _ q => XS.istore X105.here hx rfl (hb hby d8_12) rfl (l' := #[.val (.ref bb), .val (.int (0 : Int32)), .val (.int (3 : Int32)), .val (.ref b102), .val (.int ii), .unset]) rfl q) ?_
    refine own_go (fun _ q => XS.iload X105.here hx rfl (hb hby d8_14) rfl q) ?_
    refine own_go (fun _ q => XS.iloadN X105.here hx rfl (hb hby d8_16) rfl q) ?_
    show own_Fin _ _ _ _ (T105.setTop (mkF m 17 #[.val (.ref bb), .val (.int (0 : Int32)), .val (.int (3 : Int32)), .val (.ref b102), .val (.int ii), .unset] [(.int (3 : Int32)), (.int ii)]))
    refine own_go (fun _ q => XS.icmpNo X105.here hx rfl (hb hby d8_17) rfl (feq hne).1 q) ?_
    refine own_go (fun _ q => XS.aloadN X105.here hx rfl (hb hby d8_20) rfl rfl q) ?_
    refine own_go (fun _ q => XS.iloadN X105.here hx rfl (hb hby d8_21) rfl q) ?_
    refine own_go (fun _ q => XS.iloadN X105.here hx rfl (hb hby d8_22) rfl q) ?_
    show own_Fin _ _ _ _ (T105.setTop (mkF m 23 #[.val (.ref bb), .val (.int (0 : Int32)), .val (.int (3 : Int32)), .val (.ref b102), .val (.int ii), .unset] [(.int (3 : Int32)), (.int (0 : Int32)), (.ref bb)]))
    obtain ⟨_, _, ⟨T107, L107, k107, n107⟩, -, X107, ⟨Lc107, hQ107, l107, y107, z107⟩, st107⟩ := Jvm.LawKit.callS X105 hx (y := (⟨"java/lang/StringUTF16", "toBytes", "([CII)[B"⟩ : MethodName)) hown (mvT hZ (own_w hw 119 rfl)) (mvT hZ (own_w hw 120 rfl)) (mvT hZ (own_w hw 43 rfl)) (mvT hZ (own_w hw 121 rfl)) (by decide) (backOf (W := 0) (rm_tob3 l Z a0 hw [] bb kb ch0 ch1 ch2 T105.heap n0 (Nat.le_trans Z0 K106.1) V_bb O0 S_A S_H S_L) hZ (own_w hw 121 rfl) (own_w hw 43 rfl) (by decide) (by decide)) (g := (mkF m 23 #[.val (.ref bb), .val (.int (0 : Int32)), .val (.int (3 : Int32)), .val (.ref b102), .val (.int ii), .unset] [(.int (3 : Int32)), (.int (0 : Int32)), (.ref bb)])) rfl (by rw [hml]; rfl) (argsL := [(.ref bb), (.int (0 : Int32)), (.int (3 : Int32))]) (rest := []) (lenOf pd_7 rfl) rfl (by show 2 * 0 + _ ≤ _; exact Nat.le_of_eq rfl) (hb hby d8_23) (fun _ _ => ⟨rfl, rfl, (by decide : 1 + 1 ≤ _), (by decide : 3 + 6 ≤ _)⟩)
    dsimp only [Pt.U, Pt.locs, Pt.cells, Pt.slots] at X107 l107 y107 z107 st107 hQ107
    subst l107 y107 z107
    obtain ⟨r107, kk107, rfl, N107q, KK107, sz107, V107⟩ := hQ107
    have N107 := Fr.app N105 N107q
    have sz_r107 : h0.size ≤ r107 := Nat.le_trans K106.1 sz107
    have g_r107 : n0 ≤ r107 := Nat.le_trans Z0 sz_r107
    have ne108 : bb ≠ r107 := Nat.ne_of_lt (Nat.lt_of_lt_of_le V_bb.lt sz107)
    replace V_bb := V_bb.keep KK107 nin0
    replace O0 := O0.keep KK107 all0
    have K109 := K106.trans KK107 all0
    refine own_go st107 ?_
    refine own_go (fun _ q => XS.astore X107.here hx rfl (hb hby d8_26) rfl rfl (l' := #[.val (.ref bb), .val (.int (0 : Int32)), .val (.int (3 : Int32)), .val (.ref b102), .val (.int ii), .val (.ref r107)]) rfl q) ?_
    refine own_go (fun _ q => XS.aload X107.here hx rfl (hb hby d8_28) rfl rfl q) ?_
    refine own_go (fun _ q => XS.iload X107.here hx rfl (hb hby d8_30) rfl q) ?_
    show own_Fin _ _ _ _ (T107.setTop (mkF m 32 #[.val (.ref bb), .val (.int (0 : Int32)), .val (.int (3 : Int32)), .val (.ref b102), .val (.int ii), .val (.ref r107)] [(.int ii), (.ref r107)]))
    obtain ⟨_, _, ⟨T110, L110, k110, n110⟩, -, X110, ⟨Lc110, hQ110, l110, y110, z110⟩, st110⟩ := Jvm.LawKit.callS X107 hx (y := (⟨"java/lang/StringUTF16", "getChar", "([BI)C"⟩ : MethodName)) hown (mvT hZ (own_w hw 135 rfl)) (mvT hZ (own_w hw 136 rfl)) (mvT hZ (own_w hw 43 rfl)) (mvT hZ (own_w hw 137 rfl)) (by decide) (backOf (W := 0) (rm_gc l Z a0 hw [] r107 kk107 ii chx (6 : Int32) [(.int (ch0.toInt8.toInt32)), (.int ((ch0 >>> ((8 : Int32) &&& 31)).toInt8.toInt32)), (.int (ch1.toInt8.toInt32)), (.int ((ch1 >>> ((8 : Int32) &&& 31)).toInt8.toInt32)), (.int (ch2.toInt8.toInt32)), (.int ((ch2 >>> ((8 : Int32) &&& 31)).toInt8.toInt32))] T107.heap n0 (Nat.le_trans Z0 K109.1) V107 hj1 hj2 hv1 hv2 (hbd _ hin) O0 S_A S_H S_L) hZ (own_w hw 137 rfl) (own_w hw 43 rfl) (by decide) (by decide)) (g := (mkF m 32 #[.val (.ref bb), .val (.int (0 : Int32)), .val (.int (3 : Int32)), .val (.ref b102), .val (.int ii), .val (.ref r107)] [(.int ii), (.ref r107)])) rfl (by rw [hml]; rfl) (argsL := [(.ref r107), (.int ii)]) (rest := []) (lenOf pd_8 rfl) rfl (by show 2 * 0 + _ ≤ _; exact Nat.le_of_eq rfl) (hb hby d8_32) (fun _ _ => ⟨rfl, rfl, (by decide : 2 + 0 ≤ _), (by decide : 9 + 0 ≤ _)⟩)
    dsimp only [Pt.U, Pt.locs, Pt.cells, Pt.slots] at X110 l110 y110 z110 st110 hQ110
    subst l110 y110 z110
    obtain ⟨rfl, N110q, e110⟩ := hQ110
    have N110 := Fr.app N107 N110q
    refine own_go st110 ?_
    refine own_go (fun _ q => XS.sipush X110.here hx rfl (hb hby d8_35) q) ?_
    show own_Fin _ _ _ _ (T110.setTop (mkF m 38 #[.val (.ref bb), .val (.int (0 : Int32)), .val (.int (3 : Int32)), .val (.ref b102), .val (.int ii), .val (.ref r107)] [(.int (255 : Int32)), (.int chx)]))
    refine own_go (fun _ q => XS.icmpYes X110.here hx rfl (pc0 := 38) (pc' := 54) rfl (hb hby d8_38) rfl (tlt hbig).2.2.1 (by decide) (by decide) q) ?_
    refine own_go (fun _ q => XS.aload X110.here hx rfl (hb hby d8_54) rfl rfl q) ?_
    show own_Fin _ _ _ _ (T110.setTop (mkF m 56 #[.val (.ref bb), .val (.int (0 : Int32)), .val (.int (3 : Int32)), .val (.ref b102), .val (.int ii), .val (.ref r107)] [(.ref r107)]))
    refine own_retA X110 hx Bd (t := (.array .byte)) Bd.returns rfl rfl rfl (hb hby d8_56) ?_ (by decide) (by decide)
    show (Q_rm_c3_3 Z bb kb ch0 ch1 ch2 h0 n0) (some (.ref r107)) T110.heap _
    rw [e110]
    exact ⟨_, _, rfl, N110, K109, sz_r107, Or.inr ⟨⟨_, hin, hbig⟩, V107⟩⟩
  · skip
    refine own_go st105 ?_
    refine own_go (fun _ q => XS.istore X105.here hx rfl (hb hby d8_12) rfl (l' := #[.val (.ref bb), .val (.int (0 : Int32)), .val (.int (3 : Int32)), .val (.ref b102), .val (.int (3 : Int32)), .unset]) rfl q) ?_
    refine own_go (fun _ q => XS.iload X105.here hx rfl (hb hby d8_14) rfl q) ?_
    refine own_go (fun _ q => XS.iloadN X105.here hx rfl (hb hby d8_16) rfl q) ?_
    show own_Fin _ _ _ _ (T105.setTop (mkF m 17 #[.val (.ref bb), .val (.int (0 : Int32)), .val (.int (3 : Int32)), .val (.ref b102), .val (.int (3 : Int32)), .unset] [(.int (3 : Int32)), (.int (3 : Int32))]))
    refine own_go (fun _ q => XS.icmpYes X105.here hx rfl (pc0 := 17) (pc' := 57) rfl (hb hby d8_17) rfl (teq (by decide : (3 : Int32) = (3 : Int32))).1 (by decide) (by decide) q) ?_
    refine own_go (fun _ q => XS.aloadN X105.here hx rfl (hb hby d8_57) rfl rfl q) ?_
    show own_Fin _ _ _ _ (T105.setTop (mkF m 58 #[.val (.ref bb), .val (.int (0 : Int32)), .val (.int (3 : Int32)), .val (.ref b102), .val (.int (3 : Int32)), .unset] [(.ref b102)]))
    refine own_retA X105 hx Bd (t := (.array .byte)) Bd.returns rfl rfl rfl (hb hby d8_58) ?_ (by decide) (by decide)
    show (Q_rm_c3_3 Z bb kb ch0 ch1 ch2 h0 n0) (some (.ref b102)) T105.heap _
    exact ⟨_, _, rfl, N105, K106, sz_b102, Or.inl ⟨hall105, VV105⟩⟩
def Q_rm_c3_4 (Z : State) (bb : Addr) (kb : ClassId) (ch0 : Int32) (ch1 : Int32) (ch2 : Int32) (ch3 : Int32) (h0 : Heap) (n0 : Nat) (v : Option Value) (h : Heap) (L : List Loc) : Prop := ∃ (r : Addr) (k : ClassId), v = some (.ref r) ∧ Fr n0 L ∧ Keep h0 h [] ∧ h0.size ≤ r ∧ (((∀ c ∈ ([ch0, ch1, ch2, ch3] : List Int32), ¬ (255 : Int32) < c) ∧ Arv Z h r k .byte (4 : Int32) [(.int (ch0.toInt8.toInt32)), (.int (ch1.toInt8.toInt32)), (.int (ch2.toInt8.toInt32)), (.int (ch3.toInt8.toInt32))] (.int (0 : Int32))) ∨ ((∃ c ∈ ([ch0, ch1, ch2, ch3] : List Int32), (255 : Int32) < c) ∧ Arv Z h r k .byte (8 : Int32) [(.int (ch0.toInt8.toInt32)), (.int ((ch0 >>> ((8 : Int32) &&& 31)).toInt8.toInt32)), (.int (ch1.toInt8.toInt32)), (.int ((ch1 >>> ((8 : Int32) &&& 31)).toInt8.toInt32)), (.int (ch2.toInt8.toInt32)), (.int ((ch2 >>> ((8 : Int32) &&& 31)).toInt8.toInt32)), (.int (ch3.toInt8.toInt32)), (.int ((ch3 >>> ((8 : Int32) &&& 31)).toInt8.toInt32))] (.int (0 : Int32))))
theorem ef_rm_c3_4 (m : MethodId) (bb : Addr) (ch0 : Int32) (ch1 : Int32) (ch2 : Int32) (ch3 : Int32) : entryFrame m #[(.ref bb), (.int (0 : Int32)), (.int (4 : Int32))] 6 = mkF m 0 #[.val (.ref bb), .val (.int (0 : Int32)), .val (.int (4 : Int32)), .unset, .unset, .unset] [] := by first | (simp [entryFrame, mkF, argsToLocals, Value.category]; done) | rfl
set_option maxRecDepth 65536 in
set_option maxHeartbeats 40000000 in
theorem rm_c3_4 (l : Launch) (Z : State) (a0 : Array Value) (hw : ∀ d ∈ tables_1, d.before a0 Z = true) (ws : List Jvm.Cond) (bb : Addr) (kb : ClassId) (ch0 : Int32) (ch1 : Int32) (ch2 : Int32) (ch3 : Int32) (h0 : Heap) (n0 : Nat) (Z0 : n0 ≤ h0.size) (V_bb : Arv Z h0 bb kb .char (4 : Int32) [(.int ch0), (.int ch1), (.int ch2), (.int ch3)] (.int (0 : Int32))) (hbd : ∀ c ∈ ([ch0, ch1, ch2, ch3] : List Int32), ¬ c < 0 ∧ ¬ (65535 : Int32) < c) (O0 : Old Z n0 h0) (S_A : Sta Z Z.heap "java/lang/StringUTF16" "$assertionsDisabled" "Z" (.int (1 : Int32))) (S_H : Sta Z Z.heap "java/lang/StringUTF16" "HI_BYTE_SHIFT" "I" (.int (0 : Int32))) (S_L : Sta Z Z.heap "java/lang/StringUTF16" "LO_BYTE_SHIFT" "I" (.int (8 : Int32))) :
    MetFree l (⟨"java/lang/StringUTF16", "compress", "([CII)[B"⟩ : MethodName) (head1 (Jvm.Cond.code (⟨"java/lang/StringUTF16", "compress", "([CII)[B"⟩ : MethodName) jdk_52_method_16_code 6 (some (.array .byte)) :: ws) ({ frames := 3, cells := 2, slots := 12, locals := 40 } : Room)) (fun a_ U_ => a_ = #[(.ref bb), (.int (0 : Int32)), (.int (4 : Int32))] ∧ Z.Warmed39 U_.vm ∧ U_.heap = h0) (fun _ _ _ _ _ => True) (fun _ U_ o_ V_ => ∃ v_ L_, o_ = .returned v_ ∧ (Q_rm_c3_4 Z bb kb ch0 ch1 ch2 ch3 h0 n0) v_ V_.heap L_ ∧ FrameEnd U_ o_ V_ L_ ({ frames := 3, cells := 2, slots := 12, locals := 40 } : Room).cells ({ frames := 3, cells := 2, slots := 12, locals := 40 } : Room).slots) := by
  refine MetFree.of_bodySF (plainFor_of_name pn_2) hisR ?_
  intro p e s m args below meth c s₁ Bd hml0 hP hK
  obtain ⟨rfl, hZ, hh⟩ := hP
  have hx := Bd.exec
  have hby := Bd.bytes
  have hml : c.maxLocals = 6 := hml0
  have hown : s.vm.findClass "java/lang/StringUTF16" = some m.cls := findClass_of_methodNamed Bd.named
  have hnm := (name_of_methodNamed Bd.named Bd.method).1
  have X0 : Stand p l e ({ frames := 3, cells := 2, slots := 12, locals := 40 } : Room) s m #[(.ref bb), (.int (0 : Int32)), (.int (4 : Int32))] below meth c s₁ [] 0 0 := Stand.of_body Bd
  have e0 : s₁.heap = h0 := by rw [← hh, Bd.state]; rfl
  have N0 := Fr.nil n0
  have K0 : Keep h0 h0 [] := Keep.refl _ _
  show own_Fin p.tables e below (own_Post (Q_rm_c3_4 Z bb kb ch0 ch1 ch2 ch3 h0 n0) ({ frames := 3, cells := 2, slots := 12, locals := 40 } : Room).cells ({ frames := 3, cells := 2, slots := 12, locals := 40 } : Room).slots below s) _
  refine own_go (fun _ q => castTop (ef_rm_c3_4 m bb ch0 ch1 ch2 ch3) q) ?_
  refine own_go (fun _ q => XS.iloadN X0.here hx rfl (hb hby d8_0) rfl q) ?_
  show own_Fin _ _ _ _ (s₁.setTop (mkF m 1 #[.val (.ref bb), .val (.int (0 : Int32)), .val (.int (4 : Int32)), .unset, .unset, .unset] [(.int (4 : Int32))]))
  obtain ⟨T111, h111, k111, X111, e111, E111, A111, st111⟩ := newP X0 hx hZ (own_w hw 24 rfl) e0 (g := (mkF m 1 #[.val (.ref bb), .val (.int (0 : Int32)), .val (.int (4 : Int32)), .unset, .unset, .unset] [(.int (4 : Int32))])) rfl (hb hby d8_1) rfl (by decide) (cap := 4) (by decide) (by decide) (by decide) (by decide)
  obtain ⟨b111, g111⟩ : ∃ z, z = h0.size := ⟨_, rfl⟩
  rw [← g111] at A111 st111
  have sz_b111 : h0.size ≤ b111 := Nat.le_trans K0.1 (Nat.le_of_eq g111.symm)
  have g_b111 : n0 ≤ b111 := Nat.le_trans Z0 sz_b111
  have ne112 : bb ≠ b111 := Nat.ne_of_lt (Nat.lt_of_lt_of_le V_bb.lt (Nat.le_of_eq g111.symm))
  replace V_bb := V_bb.ext E111
  replace O0 := O0.ext E111
  have K113 := K0.ext E111
  have V111 : Arv Z h111 b111 k111 .byte (4 : Int32) [(.int (0 : Int32)), (.int (0 : Int32)), (.int (0 : Int32)), (.int (0 : Int32))] (.int (0 : Int32)) := (Arv.new A111 (by decide)).pad (pad_rep [] (.int (0 : Int32)) 4)
  refine own_go st111 ?_
  refine own_go (fun _ q => XS.astoreN X111.here hx rfl (hb hby d8_3) rfl rfl (l' := #[.val (.ref bb), .val (.int (0 : Int32)), .val (.int (4 : Int32)), .val (.ref b111), .unset, .unset]) rfl q) ?_
  refine own_go (fun _ q => XS.aloadN X111.here hx rfl (hb hby d8_4) rfl rfl q) ?_
  refine own_go (fun _ q => XS.iloadN X111.here hx rfl (hb hby d8_5) rfl q) ?_
  refine own_go (fun _ q => XS.aloadN X111.here hx rfl (hb hby d8_6) rfl rfl q) ?_
  refine own_go (fun _ q => XS.iconst X111.here hx rfl (hb hby d8_7) q) ?_
  refine own_go (fun _ q => XS.iloadN X111.here hx rfl (hb hby d8_8) rfl q) ?_
  show own_Fin _ _ _ _ (T111.setTop (mkF m 9 #[.val (.ref bb), .val (.int (0 : Int32)), .val (.int (4 : Int32)), .val (.ref b111), .unset, .unset] [(.int (4 : Int32)), (.int (0 : Int32)), (.ref b111), (.int (0 : Int32)), (.ref bb)]))
  obtain ⟨_, _, ⟨T114, L114, k114, n114⟩, -, X114, ⟨Lc114, hQ114, l114, y114, z114⟩, st114⟩ := Jvm.LawKit.callS X111 hx (y := (⟨"java/lang/StringUTF16", "compress", "([CI[BII)I"⟩ : MethodName)) hown (mvT hZ (own_w hw 45 rfl)) (mvT hZ (own_w hw 46 rfl)) (mvT hZ (own_w hw 43 rfl)) (mvT hZ (own_w hw 47 rfl)) (by decide) (backOf (W := 0) (rm_c5_4 l Z a0 hw [] bb kb b111 k111 ch0 ch1 ch2 ch3 h111 n0 (Nat.le_trans Z0 K113.1) V_bb V111 g_b111 ne112) hZ (own_w hw 47 rfl) (own_w hw 43 rfl) (by decide) (by decide)) (g := (mkF m 9 #[.val (.ref bb), .val (.int (0 : Int32)), .val (.int (4 : Int32)), .val (.ref b111), .unset, .unset] [(.int (4 : Int32)), (.int (0 : Int32)), (.ref b111), (.int (0 : Int32)), (.ref bb)])) rfl (by rw [hml]; rfl) (argsL := [(.ref bb), (.int (0 : Int32)), (.ref b111), (.int (0 : Int32)), (.int (4 : Int32))]) (rest := []) (lenOf pd_6 rfl) rfl (by show 2 * 0 + _ ≤ _; exact Nat.le_of_eq rfl) (hb hby d8_9) (fun _ _ => ⟨rfl, e111, (by decide : 1 + 0 ≤ _), (by decide : 4 + 0 ≤ _)⟩)
  dsimp only [Pt.U, Pt.locs, Pt.cells, Pt.slots] at X114 l114 y114 z114 st114 hQ114
  subst l114 y114 z114
  obtain ⟨N114q, KK114, hD114⟩ := hQ114
  have N114 := Fr.app N0 N114q
  replace V_bb := V_bb.keep KK114 (ninS ne112 nin0)
  replace O0 := O0.keep KK114 (allS g_b111 (all0))
  have K115 := K113.trans KK114 (allS (Or.inr sz_b111) all0)
  rcases hD114 with ⟨ii, chx, rfl, hne, hj1, hj2, hv1, hv2, hin, hbig⟩ | ⟨rfl, hall114, VV114⟩
  · skip
    refine own_go st114 ?_
    refine own_go (fun _ q => XS.istore X114.here hx rfl (hb hby d8_12) rfl (l' := #[.val (.ref bb), .val (.int (0 : Int32)), .val (.int (4 : Int32)), .val (.ref b111), .val (.int ii), .unset]) rfl q) ?_
    refine own_go (fun _ q => XS.iload X114.here hx rfl (hb hby d8_14) rfl q) ?_
    refine own_go (fun _ q => XS.iloadN X114.here hx rfl (hb hby d8_16) rfl q) ?_
    show own_Fin _ _ _ _ (T114.setTop (mkF m 17 #[.val (.ref bb), .val (.int (0 : Int32)), .val (.int (4 : Int32)), .val (.ref b111), .val (.int ii), .unset] [(.int (4 : Int32)), (.int ii)]))
    refine own_go (fun _ q => XS.icmpNo X114.here hx rfl (hb hby d8_17) rfl (feq hne).1 q) ?_
    refine own_go (fun _ q => XS.aloadN X114.here hx rfl (hb hby d8_20) rfl rfl q) ?_
    refine own_go (fun _ q => XS.iloadN X114.here hx rfl (hb hby d8_21) rfl q) ?_
    refine own_go (fun _ q => XS.iloadN X114.here hx rfl (hb hby d8_22) rfl q) ?_
    show own_Fin _ _ _ _ (T114.setTop (mkF m 23 #[.val (.ref bb), .val (.int (0 : Int32)), .val (.int (4 : Int32)), .val (.ref b111), .val (.int ii), .unset] [(.int (4 : Int32)), (.int (0 : Int32)), (.ref bb)]))
    obtain ⟨_, _, ⟨T116, L116, k116, n116⟩, -, X116, ⟨Lc116, hQ116, l116, y116, z116⟩, st116⟩ := Jvm.LawKit.callS X114 hx (y := (⟨"java/lang/StringUTF16", "toBytes", "([CII)[B"⟩ : MethodName)) hown (mvT hZ (own_w hw 119 rfl)) (mvT hZ (own_w hw 120 rfl)) (mvT hZ (own_w hw 43 rfl)) (mvT hZ (own_w hw 121 rfl)) (by decide) (backOf (W := 0) (rm_tob4 l Z a0 hw [] bb kb ch0 ch1 ch2 ch3 T114.heap n0 (Nat.le_trans Z0 K115.1) V_bb O0 S_A S_H S_L) hZ (own_w hw 121 rfl) (own_w hw 43 rfl) (by decide) (by decide)) (g := (mkF m 23 #[.val (.ref bb), .val (.int (0 : Int32)), .val (.int (4 : Int32)), .val (.ref b111), .val (.int ii), .unset] [(.int (4 : Int32)), (.int (0 : Int32)), (.ref bb)])) rfl (by rw [hml]; rfl) (argsL := [(.ref bb), (.int (0 : Int32)), (.int (4 : Int32))]) (rest := []) (lenOf pd_7 rfl) rfl (by show 2 * 0 + _ ≤ _; exact Nat.le_of_eq rfl) (hb hby d8_23) (fun _ _ => ⟨rfl, rfl, (by decide : 1 + 1 ≤ _), (by decide : 4 + 8 ≤ _)⟩)
    dsimp only [Pt.U, Pt.locs, Pt.cells, Pt.slots] at X116 l116 y116 z116 st116 hQ116
    subst l116 y116 z116
    obtain ⟨r116, kk116, rfl, N116q, KK116, sz116, V116⟩ := hQ116
    have N116 := Fr.app N114 N116q
    have sz_r116 : h0.size ≤ r116 := Nat.le_trans K115.1 sz116
    have g_r116 : n0 ≤ r116 := Nat.le_trans Z0 sz_r116
    have ne117 : bb ≠ r116 := Nat.ne_of_lt (Nat.lt_of_lt_of_le V_bb.lt sz116)
    replace V_bb := V_bb.keep KK116 nin0
    replace O0 := O0.keep KK116 all0
    have K118 := K115.trans KK116 all0
    refine own_go st116 ?_
    refine own_go (fun _ q => XS.astore X116.here hx rfl (hb hby d8_26) rfl rfl (l' := #[.val (.ref bb), .val (.int (0 : Int32)), .val (.int (4 : Int32)), .val (.ref b111), .val (.int ii), .val (.ref r116)]) rfl q) ?_
    refine own_go (fun _ q => XS.aload X116.here hx rfl (hb hby d8_28) rfl rfl q) ?_
    refine own_go (fun _ q => XS.iload X116.here hx rfl (hb hby d8_30) rfl q) ?_
    show own_Fin _ _ _ _ (T116.setTop (mkF m 32 #[.val (.ref bb), .val (.int (0 : Int32)), .val (.int (4 : Int32)), .val (.ref b111), .val (.int ii), .val (.ref r116)] [(.int ii), (.ref r116)]))
    obtain ⟨_, _, ⟨T119, L119, k119, n119⟩, -, X119, ⟨Lc119, hQ119, l119, y119, z119⟩, st119⟩ := Jvm.LawKit.callS X116 hx (y := (⟨"java/lang/StringUTF16", "getChar", "([BI)C"⟩ : MethodName)) hown (mvT hZ (own_w hw 135 rfl)) (mvT hZ (own_w hw 136 rfl)) (mvT hZ (own_w hw 43 rfl)) (mvT hZ (own_w hw 137 rfl)) (by decide) (backOf (W := 0) (rm_gc l Z a0 hw [] r116 kk116 ii chx (8 : Int32) [(.int (ch0.toInt8.toInt32)), (.int ((ch0 >>> ((8 : Int32) &&& 31)).toInt8.toInt32)), (.int (ch1.toInt8.toInt32)), (.int ((ch1 >>> ((8 : Int32) &&& 31)).toInt8.toInt32)), (.int (ch2.toInt8.toInt32)), (.int ((ch2 >>> ((8 : Int32) &&& 31)).toInt8.toInt32)), (.int (ch3.toInt8.toInt32)), (.int ((ch3 >>> ((8 : Int32) &&& 31)).toInt8.toInt32))] T116.heap n0 (Nat.le_trans Z0 K118.1) V116 hj1 hj2 hv1 hv2 (hbd _ hin) O0 S_A S_H S_L) hZ (own_w hw 137 rfl) (own_w hw 43 rfl) (by decide) (by decide)) (g := (mkF m 32 #[.val (.ref bb), .val (.int (0 : Int32)), .val (.int (4 : Int32)), .val (.ref b111), .val (.int ii), .val (.ref r116)] [(.int ii), (.ref r116)])) rfl (by rw [hml]; rfl) (argsL := [(.ref r116), (.int ii)]) (rest := []) (lenOf pd_8 rfl) rfl (by show 2 * 0 + _ ≤ _; exact Nat.le_of_eq rfl) (hb hby d8_32) (fun _ _ => ⟨rfl, rfl, (by decide : 2 + 0 ≤ _), (by decide : 12 + 0 ≤ _)⟩)
    dsimp only [Pt.U, Pt.locs, Pt.cells, Pt.slots] at X119 l119 y119 z119 st119 hQ119
    subst l119 y119 z119
    obtain ⟨rfl, N119q, e119⟩ := hQ119
    have N119 := Fr.app N116 N119q
    refine own_go st119 ?_
    refine own_go (fun _ q => XS.sipush X119.here hx rfl (hb hby d8_35) q) ?_
    show own_Fin _ _ _ _ (T119.setTop (mkF m 38 #[.val (.ref bb), .val (.int (0 : Int32)), .val (.int (4 : Int32)), .val (.ref b111), .val (.int ii), .val (.ref r116)] [(.int (255 : Int32)), (.int chx)]))
    refine own_go (fun _ q => XS.icmpYes X119.here hx rfl (pc0 := 38) (pc' := 54) rfl (hb hby d8_38) rfl (tlt hbig).2.2.1 (by decide) (by decide) q) ?_
    refine own_go (fun _ q => XS.aload X119.here hx rfl (hb hby d8_54) rfl rfl q) ?_
    show own_Fin _ _ _ _ (T119.setTop (mkF m 56 #[.val (.ref bb), .val (.int (0 : Int32)), .val (.int (4 : Int32)), .val (.ref b111), .val (.int ii), .val (.ref r116)] [(.ref r116)]))
    refine own_retA X119 hx Bd (t := (.array .byte)) Bd.returns rfl rfl rfl (hb hby d8_56) ?_ (by decide) (by decide)
    show (Q_rm_c3_4 Z bb kb ch0 ch1 ch2 ch3 h0 n0) (some (.ref r116)) T119.heap _
    rw [e119]
    exact ⟨_, _, rfl, N119, K118, sz_r116, Or.inr ⟨⟨_, hin, hbig⟩, V116⟩⟩
  · skip
    refine own_go st114 ?_
    refine own_go (fun _ q => XS.istore X114.here hx rfl (hb hby d8_12) rfl (l' := #[.val (.ref bb), .val (.int (0 : Int32)), .val (.int (4 : Int32)), .val (.ref b111), .val (.int (4 : Int32)), .unset]) rfl q) ?_
    refine own_go (fun _ q => XS.iload X114.here hx rfl (hb hby d8_14) rfl q) ?_
    refine own_go (fun _ q => XS.iloadN X114.here hx rfl (hb hby d8_16) rfl q) ?_
    show own_Fin _ _ _ _ (T114.setTop (mkF m 17 #[.val (.ref bb), .val (.int (0 : Int32)), .val (.int (4 : Int32)), .val (.ref b111), .val (.int (4 : Int32)), .unset] [(.int (4 : Int32)), (.int (4 : Int32))]))
    refine own_go (fun _ q => XS.icmpYes X114.here hx rfl (pc0 := 17) (pc' := 57) rfl (hb hby d8_17) rfl (teq (by decide : (4 : Int32) = (4 : Int32))).1 (by decide) (by decide) q) ?_
    refine own_go (fun _ q => XS.aloadN X114.here hx rfl (hb hby d8_57) rfl rfl q) ?_
    show own_Fin _ _ _ _ (T114.setTop (mkF m 58 #[.val (.ref bb), .val (.int (0 : Int32)), .val (.int (4 : Int32)), .val (.ref b111), .val (.int (4 : Int32)), .unset] [(.ref b111)]))
    refine own_retA X114 hx Bd (t := (.array .byte)) Bd.returns rfl rfl rfl (hb hby d8_58) ?_ (by decide) (by decide)
    show (Q_rm_c3_4 Z bb kb ch0 ch1 ch2 ch3 h0 n0) (some (.ref b111)) T114.heap _
    exact ⟨_, _, rfl, N114, K115, sz_b111, Or.inl ⟨hall114, VV114⟩⟩
def Q_rm_cl2_0 (Z : State) (bb : Addr) (kb : ClassId) (vs : List Value) (h0 : Heap) (n0 : Nat) (v : Option Value) (h : Heap) (L : List Loc) : Prop := v = some (.int (0 : Int32)) ∧ Fr n0 L ∧ h = h0
theorem ef_rm_cl2_0 (m : MethodId) (bb : Addr) : entryFrame m #[(.ref bb), (.int (2 : Int32))] 2 = mkF m 0 #[.val (.ref bb), .val (.int (2 : Int32))] [] := by first | (simp [entryFrame, mkF, argsToLocals, Value.category]; done) | rfl
set_option maxRecDepth 65536 in
set_option maxHeartbeats 40000000 in
theorem rm_cl2_0 (l : Launch) (Z : State) (a0 : Array Value) (hw : ∀ d ∈ tables_1, d.before a0 Z = true) (ws : List Jvm.Cond) (bb : Addr) (kb : ClassId) (vs : List Value) (h0 : Heap) (n0 : Nat) (Z0 : n0 ≤ h0.size) (V_bb : Arv Z h0 bb kb .byte (2 : Int32) vs (.int (0 : Int32))) :
    MetFree l (⟨"java/lang/StringUTF16", "coderFromArrayLen", "([BI)B"⟩ : MethodName) (head1 (Jvm.Cond.code (⟨"java/lang/StringUTF16", "coderFromArrayLen", "([BI)B"⟩ : MethodName) jdk_52_method_15_code 2 (some .byte) :: ws) ({ frames := 0, cells := 0, slots := 0, locals := 0 } : Room)) (fun a_ U_ => a_ = #[(.ref bb), (.int (2 : Int32))] ∧ Z.Warmed39 U_.vm ∧ U_.heap = h0) (fun _ _ _ _ _ => True) (fun _ U_ o_ V_ => ∃ v_ L_, o_ = .returned v_ ∧ (Q_rm_cl2_0 Z bb kb vs h0 n0) v_ V_.heap L_ ∧ FrameEnd U_ o_ V_ L_ ({ frames := 0, cells := 0, slots := 0, locals := 0 } : Room).cells ({ frames := 0, cells := 0, slots := 0, locals := 0 } : Room).slots) := by
  refine MetFree.of_bodySF (plainFor_of_name pn_2) hisR ?_
  intro p e s m args below meth c s₁ Bd hml0 hP hK
  obtain ⟨rfl, hZ, hh⟩ := hP
  have hx := Bd.exec
  have hby := Bd.bytes
  have hml : c.maxLocals = 2 := hml0
  have hown : s.vm.findClass "java/lang/StringUTF16" = some m.cls := findClass_of_methodNamed Bd.named
  have hnm := (name_of_methodNamed Bd.named Bd.method).1
  have X0 : Stand p l e ({ frames := 0, cells := 0, slots := 0, locals := 0 } : Room) s m #[(.ref bb), (.int (2 : Int32))] below meth c s₁ [] 0 0 := Stand.of_body Bd
  have e0 : s₁.heap = h0 := by rw [← hh, Bd.state]; rfl
  have N0 := Fr.nil n0
  have K0 : Keep h0 h0 [] := Keep.refl _ _
  show own_Fin p.tables e below (own_Post (Q_rm_cl2_0 Z bb kb vs h0 n0) ({ frames := 0, cells := 0, slots := 0, locals := 0 } : Room).cells ({ frames := 0, cells := 0, slots := 0, locals := 0 } : Room).slots below s) _
  refine own_go (fun _ q => castTop (ef_rm_cl2_0 m bb) q) ?_
  refine own_go (fun _ q => XS.iloadN X0.here hx rfl (hb hby d10_0) rfl q) ?_
  refine own_go (fun _ q => XS.aloadN X0.here hx rfl (hb hby d10_1) rfl rfl q) ?_
  show own_Fin _ _ _ _ (s₁.setTop (mkF m 2 #[.val (.ref bb), .val (.int (2 : Int32))] [(.ref bb), (.int (2 : Int32))]))
  refine own_go (fun _ q => own_alen X0 hx hZ e0 V_bb (g := (mkF m 2 #[.val (.ref bb), .val (.int (2 : Int32))] [(.ref bb), (.int (2 : Int32))])) rfl rfl (hb hby d10_2) _ q) ?_
  show own_Fin _ _ _ _ (s₁.setTop (mkF m 3 #[.val (.ref bb), .val (.int (2 : Int32))] [(.int (2 : Int32)), (.int (2 : Int32))]))
  refine own_go (fun _ q => XS.isub X0.here hx rfl (hb hby d10_3) rfl q) ?_
  refine own_go (fun _ q => XS.bipush X0.here hx rfl (hb hby d10_4) q) ?_
  show own_Fin _ _ _ _ (s₁.setTop (mkF m 6 #[.val (.ref bb), .val (.int (2 : Int32))] [(.int (31 : Int32)), (.int (0 : Int32))]))
  refine own_go (fun _ q => XS.iushr X0.here hx rfl (hb hby d10_6) rfl q) ?_
  show own_Fin _ _ _ _ (s₁.setTop (mkF m 7 #[.val (.ref bb), .val (.int (2 : Int32))] [(.int (((0 : Int32).toUInt32 >>> ((31 : Int32) &&& 31).toUInt32).toInt32))]))
  refine own_go (fun _ q => XS.i2b X0.here hx rfl (hb hby d10_7) rfl q) ?_
  show own_Fin _ _ _ _ (s₁.setTop (mkF m 8 #[.val (.ref bb), .val (.int (2 : Int32))] [(.int ((((0 : Int32).toUInt32 >>> ((31 : Int32) &&& 31).toUInt32).toInt32).toInt8.toInt32))]))
  rw [show ((((0 : Int32).toUInt32 >>> ((31 : Int32) &&& 31).toUInt32).toInt32).toInt8.toInt32) = (0 : Int32) from by decide]
  show own_Fin _ _ _ _ (s₁.setTop (mkF m 8 #[.val (.ref bb), .val (.int (2 : Int32))] [(.int (0 : Int32))]))
  refine own_retI X0 hx Bd (t := .byte) Bd.returns rfl (by simp) (hb hby d10_8) ?_ (by decide) (by decide)
  show (Q_rm_cl2_0 Z bb kb vs h0 n0) (some (.int (0 : Int32))) s₁.heap _
  rw [e0]
  exact ⟨rfl, N0, rfl⟩
def Q_rm_cl2_1 (Z : State) (bb : Addr) (kb : ClassId) (vs : List Value) (h0 : Heap) (n0 : Nat) (v : Option Value) (h : Heap) (L : List Loc) : Prop := v = some (.int (1 : Int32)) ∧ Fr n0 L ∧ h = h0
theorem ef_rm_cl2_1 (m : MethodId) (bb : Addr) : entryFrame m #[(.ref bb), (.int (2 : Int32))] 2 = mkF m 0 #[.val (.ref bb), .val (.int (2 : Int32))] [] := by first | (simp [entryFrame, mkF, argsToLocals, Value.category]; done) | rfl
set_option maxRecDepth 65536 in
set_option maxHeartbeats 40000000 in
theorem rm_cl2_1 (l : Launch) (Z : State) (a0 : Array Value) (hw : ∀ d ∈ tables_1, d.before a0 Z = true) (ws : List Jvm.Cond) (bb : Addr) (kb : ClassId) (vs : List Value) (h0 : Heap) (n0 : Nat) (Z0 : n0 ≤ h0.size) (V_bb : Arv Z h0 bb kb .byte (4 : Int32) vs (.int (0 : Int32))) :
    MetFree l (⟨"java/lang/StringUTF16", "coderFromArrayLen", "([BI)B"⟩ : MethodName) (head1 (Jvm.Cond.code (⟨"java/lang/StringUTF16", "coderFromArrayLen", "([BI)B"⟩ : MethodName) jdk_52_method_15_code 2 (some .byte) :: ws) ({ frames := 0, cells := 0, slots := 0, locals := 0 } : Room)) (fun a_ U_ => a_ = #[(.ref bb), (.int (2 : Int32))] ∧ Z.Warmed39 U_.vm ∧ U_.heap = h0) (fun _ _ _ _ _ => True) (fun _ U_ o_ V_ => ∃ v_ L_, o_ = .returned v_ ∧ (Q_rm_cl2_1 Z bb kb vs h0 n0) v_ V_.heap L_ ∧ FrameEnd U_ o_ V_ L_ ({ frames := 0, cells := 0, slots := 0, locals := 0 } : Room).cells ({ frames := 0, cells := 0, slots := 0, locals := 0 } : Room).slots) := by
  refine MetFree.of_bodySF (plainFor_of_name pn_2) hisR ?_
  intro p e s m args below meth c s₁ Bd hml0 hP hK
  obtain ⟨rfl, hZ, hh⟩ := hP
  have hx := Bd.exec
  have hby := Bd.bytes
  have hml : c.maxLocals = 2 := hml0
  have hown : s.vm.findClass "java/lang/StringUTF16" = some m.cls := findClass_of_methodNamed Bd.named
  have hnm := (name_of_methodNamed Bd.named Bd.method).1
  have X0 : Stand p l e ({ frames := 0, cells := 0, slots := 0, locals := 0 } : Room) s m #[(.ref bb), (.int (2 : Int32))] below meth c s₁ [] 0 0 := Stand.of_body Bd
  have e0 : s₁.heap = h0 := by rw [← hh, Bd.state]; rfl
  have N0 := Fr.nil n0
  have K0 : Keep h0 h0 [] := Keep.refl _ _
  show own_Fin p.tables e below (own_Post (Q_rm_cl2_1 Z bb kb vs h0 n0) ({ frames := 0, cells := 0, slots := 0, locals := 0 } : Room).cells ({ frames := 0, cells := 0, slots := 0, locals := 0 } : Room).slots below s) _
  refine own_go (fun _ q => castTop (ef_rm_cl2_1 m bb) q) ?_
  refine own_go (fun _ q => XS.iloadN X0.here hx rfl (hb hby d10_0) rfl q) ?_
  refine own_go (fun _ q => XS.aloadN X0.here hx rfl (hb hby d10_1) rfl rfl q) ?_
  show own_Fin _ _ _ _ (s₁.setTop (mkF m 2 #[.val (.ref bb), .val (.int (2 : Int32))] [(.ref bb), (.int (2 : Int32))]))
  refine own_go (fun _ q => own_alen X0 hx hZ e0 V_bb (g := (mkF m 2 #[.val (.ref bb), .val (.int (2 : Int32))] [(.ref bb), (.int (2 : Int32))])) rfl rfl (hb hby d10_2) _ q) ?_
  show own_Fin _ _ _ _ (s₁.setTop (mkF m 3 #[.val (.ref bb), .val (.int (2 : Int32))] [(.int (4 : Int32)), (.int (2 : Int32))]))
  refine own_go (fun _ q => XS.isub X0.here hx rfl (hb hby d10_3) rfl q) ?_
  refine own_go (fun _ q => XS.bipush X0.here hx rfl (hb hby d10_4) q) ?_
  show own_Fin _ _ _ _ (s₁.setTop (mkF m 6 #[.val (.ref bb), .val (.int (2 : Int32))] [(.int (31 : Int32)), (.int (-2 : Int32))]))
  refine own_go (fun _ q => XS.iushr X0.here hx rfl (hb hby d10_6) rfl q) ?_
  show own_Fin _ _ _ _ (s₁.setTop (mkF m 7 #[.val (.ref bb), .val (.int (2 : Int32))] [(.int (((-2 : Int32).toUInt32 >>> ((31 : Int32) &&& 31).toUInt32).toInt32))]))
  refine own_go (fun _ q => XS.i2b X0.here hx rfl (hb hby d10_7) rfl q) ?_
  show own_Fin _ _ _ _ (s₁.setTop (mkF m 8 #[.val (.ref bb), .val (.int (2 : Int32))] [(.int ((((-2 : Int32).toUInt32 >>> ((31 : Int32) &&& 31).toUInt32).toInt32).toInt8.toInt32))]))
  rw [show ((((-2 : Int32).toUInt32 >>> ((31 : Int32) &&& 31).toUInt32).toInt32).toInt8.toInt32) = (1 : Int32) from by decide]
  show own_Fin _ _ _ _ (s₁.setTop (mkF m 8 #[.val (.ref bb), .val (.int (2 : Int32))] [(.int (1 : Int32))]))
  refine own_retI X0 hx Bd (t := .byte) Bd.returns rfl (by simp) (hb hby d10_8) ?_ (by decide) (by decide)
  show (Q_rm_cl2_1 Z bb kb vs h0 n0) (some (.int (1 : Int32))) s₁.heap _
  rw [e0]
  exact ⟨rfl, N0, rfl⟩
def Q_rm_cl3_0 (Z : State) (bb : Addr) (kb : ClassId) (vs : List Value) (h0 : Heap) (n0 : Nat) (v : Option Value) (h : Heap) (L : List Loc) : Prop := v = some (.int (0 : Int32)) ∧ Fr n0 L ∧ h = h0
theorem ef_rm_cl3_0 (m : MethodId) (bb : Addr) : entryFrame m #[(.ref bb), (.int (3 : Int32))] 2 = mkF m 0 #[.val (.ref bb), .val (.int (3 : Int32))] [] := by first | (simp [entryFrame, mkF, argsToLocals, Value.category]; done) | rfl
set_option maxRecDepth 65536 in
set_option maxHeartbeats 40000000 in
theorem rm_cl3_0 (l : Launch) (Z : State) (a0 : Array Value) (hw : ∀ d ∈ tables_1, d.before a0 Z = true) (ws : List Jvm.Cond) (bb : Addr) (kb : ClassId) (vs : List Value) (h0 : Heap) (n0 : Nat) (Z0 : n0 ≤ h0.size) (V_bb : Arv Z h0 bb kb .byte (3 : Int32) vs (.int (0 : Int32))) :
    MetFree l (⟨"java/lang/StringUTF16", "coderFromArrayLen", "([BI)B"⟩ : MethodName) (head1 (Jvm.Cond.code (⟨"java/lang/StringUTF16", "coderFromArrayLen", "([BI)B"⟩ : MethodName) jdk_52_method_15_code 2 (some .byte) :: ws) ({ frames := 0, cells := 0, slots := 0, locals := 0 } : Room)) (fun a_ U_ => a_ = #[(.ref bb), (.int (3 : Int32))] ∧ Z.Warmed39 U_.vm ∧ U_.heap = h0) (fun _ _ _ _ _ => True) (fun _ U_ o_ V_ => ∃ v_ L_, o_ = .returned v_ ∧ (Q_rm_cl3_0 Z bb kb vs h0 n0) v_ V_.heap L_ ∧ FrameEnd U_ o_ V_ L_ ({ frames := 0, cells := 0, slots := 0, locals := 0 } : Room).cells ({ frames := 0, cells := 0, slots := 0, locals := 0 } : Room).slots) := by
  refine MetFree.of_bodySF (plainFor_of_name pn_2) hisR ?_
  intro p e s m args below meth c s₁ Bd hml0 hP hK
  obtain ⟨rfl, hZ, hh⟩ := hP
  have hx := Bd.exec
  have hby := Bd.bytes
  have hml : c.maxLocals = 2 := hml0
  have hown : s.vm.findClass "java/lang/StringUTF16" = some m.cls := findClass_of_methodNamed Bd.named
  have hnm := (name_of_methodNamed Bd.named Bd.method).1
  have X0 : Stand p l e ({ frames := 0, cells := 0, slots := 0, locals := 0 } : Room) s m #[(.ref bb), (.int (3 : Int32))] below meth c s₁ [] 0 0 := Stand.of_body Bd
  have e0 : s₁.heap = h0 := by rw [← hh, Bd.state]; rfl
  have N0 := Fr.nil n0
  have K0 : Keep h0 h0 [] := Keep.refl _ _
  show own_Fin p.tables e below (own_Post (Q_rm_cl3_0 Z bb kb vs h0 n0) ({ frames := 0, cells := 0, slots := 0, locals := 0 } : Room).cells ({ frames := 0, cells := 0, slots := 0, locals := 0 } : Room).slots below s) _
  refine own_go (fun _ q => castTop (ef_rm_cl3_0 m bb) q) ?_
  refine own_go (fun _ q => XS.iloadN X0.here hx rfl (hb hby d10_0) rfl q) ?_
  refine own_go (fun _ q => XS.aloadN X0.here hx rfl (hb hby d10_1) rfl rfl q) ?_
  show own_Fin _ _ _ _ (s₁.setTop (mkF m 2 #[.val (.ref bb), .val (.int (3 : Int32))] [(.ref bb), (.int (3 : Int32))]))
  refine own_go (fun _ q => own_alen X0 hx hZ e0 V_bb (g := (mkF m 2 #[.val (.ref bb), .val (.int (3 : Int32))] [(.ref bb), (.int (3 : Int32))])) rfl rfl (hb hby d10_2) _ q) ?_
  show own_Fin _ _ _ _ (s₁.setTop (mkF m 3 #[.val (.ref bb), .val (.int (3 : Int32))] [(.int (3 : Int32)), (.int (3 : Int32))]))
  refine own_go (fun _ q => XS.isub X0.here hx rfl (hb hby d10_3) rfl q) ?_
  refine own_go (fun _ q => XS.bipush X0.here hx rfl (hb hby d10_4) q) ?_
  show own_Fin _ _ _ _ (s₁.setTop (mkF m 6 #[.val (.ref bb), .val (.int (3 : Int32))] [(.int (31 : Int32)), (.int (0 : Int32))]))
  refine own_go (fun _ q => XS.iushr X0.here hx rfl (hb hby d10_6) rfl q) ?_
  show own_Fin _ _ _ _ (s₁.setTop (mkF m 7 #[.val (.ref bb), .val (.int (3 : Int32))] [(.int (((0 : Int32).toUInt32 >>> ((31 : Int32) &&& 31).toUInt32).toInt32))]))
  refine own_go (fun _ q => XS.i2b X0.here hx rfl (hb hby d10_7) rfl q) ?_
  show own_Fin _ _ _ _ (s₁.setTop (mkF m 8 #[.val (.ref bb), .val (.int (3 : Int32))] [(.int ((((0 : Int32).toUInt32 >>> ((31 : Int32) &&& 31).toUInt32).toInt32).toInt8.toInt32))]))
  rw [show ((((0 : Int32).toUInt32 >>> ((31 : Int32) &&& 31).toUInt32).toInt32).toInt8.toInt32) = (0 : Int32) from by decide]
  show own_Fin _ _ _ _ (s₁.setTop (mkF m 8 #[.val (.ref bb), .val (.int (3 : Int32))] [(.int (0 : Int32))]))
  refine own_retI X0 hx Bd (t := .byte) Bd.returns rfl (by simp) (hb hby d10_8) ?_ (by decide) (by decide)
  show (Q_rm_cl3_0 Z bb kb vs h0 n0) (some (.int (0 : Int32))) s₁.heap _
  rw [e0]
  exact ⟨rfl, N0, rfl⟩
def Q_rm_cl3_1 (Z : State) (bb : Addr) (kb : ClassId) (vs : List Value) (h0 : Heap) (n0 : Nat) (v : Option Value) (h : Heap) (L : List Loc) : Prop := v = some (.int (1 : Int32)) ∧ Fr n0 L ∧ h = h0
theorem ef_rm_cl3_1 (m : MethodId) (bb : Addr) : entryFrame m #[(.ref bb), (.int (3 : Int32))] 2 = mkF m 0 #[.val (.ref bb), .val (.int (3 : Int32))] [] := by first | (simp [entryFrame, mkF, argsToLocals, Value.category]; done) | rfl
set_option maxRecDepth 65536 in
set_option maxHeartbeats 40000000 in
theorem rm_cl3_1 (l : Launch) (Z : State) (a0 : Array Value) (hw : ∀ d ∈ tables_1, d.before a0 Z = true) (ws : List Jvm.Cond) (bb : Addr) (kb : ClassId) (vs : List Value) (h0 : Heap) (n0 : Nat) (Z0 : n0 ≤ h0.size) (V_bb : Arv Z h0 bb kb .byte (6 : Int32) vs (.int (0 : Int32))) :
    MetFree l (⟨"java/lang/StringUTF16", "coderFromArrayLen", "([BI)B"⟩ : MethodName) (head1 (Jvm.Cond.code (⟨"java/lang/StringUTF16", "coderFromArrayLen", "([BI)B"⟩ : MethodName) jdk_52_method_15_code 2 (some .byte) :: ws) ({ frames := 0, cells := 0, slots := 0, locals := 0 } : Room)) (fun a_ U_ => a_ = #[(.ref bb), (.int (3 : Int32))] ∧ Z.Warmed39 U_.vm ∧ U_.heap = h0) (fun _ _ _ _ _ => True) (fun _ U_ o_ V_ => ∃ v_ L_, o_ = .returned v_ ∧ (Q_rm_cl3_1 Z bb kb vs h0 n0) v_ V_.heap L_ ∧ FrameEnd U_ o_ V_ L_ ({ frames := 0, cells := 0, slots := 0, locals := 0 } : Room).cells ({ frames := 0, cells := 0, slots := 0, locals := 0 } : Room).slots) := by
  refine MetFree.of_bodySF (plainFor_of_name pn_2) hisR ?_
  intro p e s m args below meth c s₁ Bd hml0 hP hK
  obtain ⟨rfl, hZ, hh⟩ := hP
  have hx := Bd.exec
  have hby := Bd.bytes
  have hml : c.maxLocals = 2 := hml0
  have hown : s.vm.findClass "java/lang/StringUTF16" = some m.cls := findClass_of_methodNamed Bd.named
  have hnm := (name_of_methodNamed Bd.named Bd.method).1
  have X0 : Stand p l e ({ frames := 0, cells := 0, slots := 0, locals := 0 } : Room) s m #[(.ref bb), (.int (3 : Int32))] below meth c s₁ [] 0 0 := Stand.of_body Bd
  have e0 : s₁.heap = h0 := by rw [← hh, Bd.state]; rfl
  have N0 := Fr.nil n0
  have K0 : Keep h0 h0 [] := Keep.refl _ _
  show own_Fin p.tables e below (own_Post (Q_rm_cl3_1 Z bb kb vs h0 n0) ({ frames := 0, cells := 0, slots := 0, locals := 0 } : Room).cells ({ frames := 0, cells := 0, slots := 0, locals := 0 } : Room).slots below s) _
  refine own_go (fun _ q => castTop (ef_rm_cl3_1 m bb) q) ?_
  refine own_go (fun _ q => XS.iloadN X0.here hx rfl (hb hby d10_0) rfl q) ?_
  refine own_go (fun _ q => XS.aloadN X0.here hx rfl (hb hby d10_1) rfl rfl q) ?_
  show own_Fin _ _ _ _ (s₁.setTop (mkF m 2 #[.val (.ref bb), .val (.int (3 : Int32))] [(.ref bb), (.int (3 : Int32))]))
  refine own_go (fun _ q => own_alen X0 hx hZ e0 V_bb (g := (mkF m 2 #[.val (.ref bb), .val (.int (3 : Int32))] [(.ref bb), (.int (3 : Int32))])) rfl rfl (hb hby d10_2) _ q) ?_
  show own_Fin _ _ _ _ (s₁.setTop (mkF m 3 #[.val (.ref bb), .val (.int (3 : Int32))] [(.int (6 : Int32)), (.int (3 : Int32))]))
  refine own_go (fun _ q => XS.isub X0.here hx rfl (hb hby d10_3) rfl q) ?_
  refine own_go (fun _ q => XS.bipush X0.here hx rfl (hb hby d10_4) q) ?_
  show own_Fin _ _ _ _ (s₁.setTop (mkF m 6 #[.val (.ref bb), .val (.int (3 : Int32))] [(.int (31 : Int32)), (.int (-3 : Int32))]))
  refine own_go (fun _ q => XS.iushr X0.here hx rfl (hb hby d10_6) rfl q) ?_
  show own_Fin _ _ _ _ (s₁.setTop (mkF m 7 #[.val (.ref bb), .val (.int (3 : Int32))] [(.int (((-3 : Int32).toUInt32 >>> ((31 : Int32) &&& 31).toUInt32).toInt32))]))
  refine own_go (fun _ q => XS.i2b X0.here hx rfl (hb hby d10_7) rfl q) ?_
  show own_Fin _ _ _ _ (s₁.setTop (mkF m 8 #[.val (.ref bb), .val (.int (3 : Int32))] [(.int ((((-3 : Int32).toUInt32 >>> ((31 : Int32) &&& 31).toUInt32).toInt32).toInt8.toInt32))]))
  rw [show ((((-3 : Int32).toUInt32 >>> ((31 : Int32) &&& 31).toUInt32).toInt32).toInt8.toInt32) = (1 : Int32) from by decide]
  show own_Fin _ _ _ _ (s₁.setTop (mkF m 8 #[.val (.ref bb), .val (.int (3 : Int32))] [(.int (1 : Int32))]))
  refine own_retI X0 hx Bd (t := .byte) Bd.returns rfl (by simp) (hb hby d10_8) ?_ (by decide) (by decide)
  show (Q_rm_cl3_1 Z bb kb vs h0 n0) (some (.int (1 : Int32))) s₁.heap _
  rw [e0]
  exact ⟨rfl, N0, rfl⟩
def Q_rm_cl4_0 (Z : State) (bb : Addr) (kb : ClassId) (vs : List Value) (h0 : Heap) (n0 : Nat) (v : Option Value) (h : Heap) (L : List Loc) : Prop := v = some (.int (0 : Int32)) ∧ Fr n0 L ∧ h = h0
theorem ef_rm_cl4_0 (m : MethodId) (bb : Addr) : entryFrame m #[(.ref bb), (.int (4 : Int32))] 2 = mkF m 0 #[.val (.ref bb), .val (.int (4 : Int32))] [] := by first | (simp [entryFrame, mkF, argsToLocals, Value.category]; done) | rfl
set_option maxRecDepth 65536 in
set_option maxHeartbeats 40000000 in
theorem rm_cl4_0 (l : Launch) (Z : State) (a0 : Array Value) (hw : ∀ d ∈ tables_1, d.before a0 Z = true) (ws : List Jvm.Cond) (bb : Addr) (kb : ClassId) (vs : List Value) (h0 : Heap) (n0 : Nat) (Z0 : n0 ≤ h0.size) (V_bb : Arv Z h0 bb kb .byte (4 : Int32) vs (.int (0 : Int32))) :
    MetFree l (⟨"java/lang/StringUTF16", "coderFromArrayLen", "([BI)B"⟩ : MethodName) (head1 (Jvm.Cond.code (⟨"java/lang/StringUTF16", "coderFromArrayLen", "([BI)B"⟩ : MethodName) jdk_52_method_15_code 2 (some .byte) :: ws) ({ frames := 0, cells := 0, slots := 0, locals := 0 } : Room)) (fun a_ U_ => a_ = #[(.ref bb), (.int (4 : Int32))] ∧ Z.Warmed39 U_.vm ∧ U_.heap = h0) (fun _ _ _ _ _ => True) (fun _ U_ o_ V_ => ∃ v_ L_, o_ = .returned v_ ∧ (Q_rm_cl4_0 Z bb kb vs h0 n0) v_ V_.heap L_ ∧ FrameEnd U_ o_ V_ L_ ({ frames := 0, cells := 0, slots := 0, locals := 0 } : Room).cells ({ frames := 0, cells := 0, slots := 0, locals := 0 } : Room).slots) := by
  refine MetFree.of_bodySF (plainFor_of_name pn_2) hisR ?_
  intro p e s m args below meth c s₁ Bd hml0 hP hK
  obtain ⟨rfl, hZ, hh⟩ := hP
  have hx := Bd.exec
  have hby := Bd.bytes
  have hml : c.maxLocals = 2 := hml0
  have hown : s.vm.findClass "java/lang/StringUTF16" = some m.cls := findClass_of_methodNamed Bd.named
  have hnm := (name_of_methodNamed Bd.named Bd.method).1
  have X0 : Stand p l e ({ frames := 0, cells := 0, slots := 0, locals := 0 } : Room) s m #[(.ref bb), (.int (4 : Int32))] below meth c s₁ [] 0 0 := Stand.of_body Bd
  have e0 : s₁.heap = h0 := by rw [← hh, Bd.state]; rfl
  have N0 := Fr.nil n0
  have K0 : Keep h0 h0 [] := Keep.refl _ _
  show own_Fin p.tables e below (own_Post (Q_rm_cl4_0 Z bb kb vs h0 n0) ({ frames := 0, cells := 0, slots := 0, locals := 0 } : Room).cells ({ frames := 0, cells := 0, slots := 0, locals := 0 } : Room).slots below s) _
  refine own_go (fun _ q => castTop (ef_rm_cl4_0 m bb) q) ?_
  refine own_go (fun _ q => XS.iloadN X0.here hx rfl (hb hby d10_0) rfl q) ?_
  refine own_go (fun _ q => XS.aloadN X0.here hx rfl (hb hby d10_1) rfl rfl q) ?_
  show own_Fin _ _ _ _ (s₁.setTop (mkF m 2 #[.val (.ref bb), .val (.int (4 : Int32))] [(.ref bb), (.int (4 : Int32))]))
  refine own_go (fun _ q => own_alen X0 hx hZ e0 V_bb (g := (mkF m 2 #[.val (.ref bb), .val (.int (4 : Int32))] [(.ref bb), (.int (4 : Int32))])) rfl rfl (hb hby d10_2) _ q) ?_
  show own_Fin _ _ _ _ (s₁.setTop (mkF m 3 #[.val (.ref bb), .val (.int (4 : Int32))] [(.int (4 : Int32)), (.int (4 : Int32))]))
  refine own_go (fun _ q => XS.isub X0.here hx rfl (hb hby d10_3) rfl q) ?_
  refine own_go (fun _ q => XS.bipush X0.here hx rfl (hb hby d10_4) q) ?_
  show own_Fin _ _ _ _ (s₁.setTop (mkF m 6 #[.val (.ref bb), .val (.int (4 : Int32))] [(.int (31 : Int32)), (.int (0 : Int32))]))
  refine own_go (fun _ q => XS.iushr X0.here hx rfl (hb hby d10_6) rfl q) ?_
  show own_Fin _ _ _ _ (s₁.setTop (mkF m 7 #[.val (.ref bb), .val (.int (4 : Int32))] [(.int (((0 : Int32).toUInt32 >>> ((31 : Int32) &&& 31).toUInt32).toInt32))]))
  refine own_go (fun _ q => XS.i2b X0.here hx rfl (hb hby d10_7) rfl q) ?_
  show own_Fin _ _ _ _ (s₁.setTop (mkF m 8 #[.val (.ref bb), .val (.int (4 : Int32))] [(.int ((((0 : Int32).toUInt32 >>> ((31 : Int32) &&& 31).toUInt32).toInt32).toInt8.toInt32))]))
  rw [show ((((0 : Int32).toUInt32 >>> ((31 : Int32) &&& 31).toUInt32).toInt32).toInt8.toInt32) = (0 : Int32) from by decide]
  show own_Fin _ _ _ _ (s₁.setTop (mkF m 8 #[.val (.ref bb), .val (.int (4 : Int32))] [(.int (0 : Int32))]))
  refine own_retI X0 hx Bd (t := .byte) Bd.returns rfl (by simp) (hb hby d10_8) ?_ (by decide) (by decide)
  show (Q_rm_cl4_0 Z bb kb vs h0 n0) (some (.int (0 : Int32))) s₁.heap _
  rw [e0]
  exact ⟨rfl, N0, rfl⟩
def Q_rm_cl4_1 (Z : State) (bb : Addr) (kb : ClassId) (vs : List Value) (h0 : Heap) (n0 : Nat) (v : Option Value) (h : Heap) (L : List Loc) : Prop := v = some (.int (1 : Int32)) ∧ Fr n0 L ∧ h = h0
theorem ef_rm_cl4_1 (m : MethodId) (bb : Addr) : entryFrame m #[(.ref bb), (.int (4 : Int32))] 2 = mkF m 0 #[.val (.ref bb), .val (.int (4 : Int32))] [] := by first | (simp [entryFrame, mkF, argsToLocals, Value.category]; done) | rfl
set_option maxRecDepth 65536 in
set_option maxHeartbeats 40000000 in
theorem rm_cl4_1 (l : Launch) (Z : State) (a0 : Array Value) (hw : ∀ d ∈ tables_1, d.before a0 Z = true) (ws : List Jvm.Cond) (bb : Addr) (kb : ClassId) (vs : List Value) (h0 : Heap) (n0 : Nat) (Z0 : n0 ≤ h0.size) (V_bb : Arv Z h0 bb kb .byte (8 : Int32) vs (.int (0 : Int32))) :
    MetFree l (⟨"java/lang/StringUTF16", "coderFromArrayLen", "([BI)B"⟩ : MethodName) (head1 (Jvm.Cond.code (⟨"java/lang/StringUTF16", "coderFromArrayLen", "([BI)B"⟩ : MethodName) jdk_52_method_15_code 2 (some .byte) :: ws) ({ frames := 0, cells := 0, slots := 0, locals := 0 } : Room)) (fun a_ U_ => a_ = #[(.ref bb), (.int (4 : Int32))] ∧ Z.Warmed39 U_.vm ∧ U_.heap = h0) (fun _ _ _ _ _ => True) (fun _ U_ o_ V_ => ∃ v_ L_, o_ = .returned v_ ∧ (Q_rm_cl4_1 Z bb kb vs h0 n0) v_ V_.heap L_ ∧ FrameEnd U_ o_ V_ L_ ({ frames := 0, cells := 0, slots := 0, locals := 0 } : Room).cells ({ frames := 0, cells := 0, slots := 0, locals := 0 } : Room).slots) := by
  refine MetFree.of_bodySF (plainFor_of_name pn_2) hisR ?_
  intro p e s m args below meth c s₁ Bd hml0 hP hK
  obtain ⟨rfl, hZ, hh⟩ := hP
  have hx := Bd.exec
  have hby := Bd.bytes
  have hml : c.maxLocals = 2 := hml0
  have hown : s.vm.findClass "java/lang/StringUTF16" = some m.cls := findClass_of_methodNamed Bd.named
  have hnm := (name_of_methodNamed Bd.named Bd.method).1
  have X0 : Stand p l e ({ frames := 0, cells := 0, slots := 0, locals := 0 } : Room) s m #[(.ref bb), (.int (4 : Int32))] below meth c s₁ [] 0 0 := Stand.of_body Bd
  have e0 : s₁.heap = h0 := by rw [← hh, Bd.state]; rfl
  have N0 := Fr.nil n0
  have K0 : Keep h0 h0 [] := Keep.refl _ _
  show own_Fin p.tables e below (own_Post (Q_rm_cl4_1 Z bb kb vs h0 n0) ({ frames := 0, cells := 0, slots := 0, locals := 0 } : Room).cells ({ frames := 0, cells := 0, slots := 0, locals := 0 } : Room).slots below s) _
  refine own_go (fun _ q => castTop (ef_rm_cl4_1 m bb) q) ?_
  refine own_go (fun _ q => XS.iloadN X0.here hx rfl (hb hby d10_0) rfl q) ?_
  refine own_go (fun _ q => XS.aloadN X0.here hx rfl (hb hby d10_1) rfl rfl q) ?_
  show own_Fin _ _ _ _ (s₁.setTop (mkF m 2 #[.val (.ref bb), .val (.int (4 : Int32))] [(.ref bb), (.int (4 : Int32))]))
  refine own_go (fun _ q => own_alen X0 hx hZ e0 V_bb (g := (mkF m 2 #[.val (.ref bb), .val (.int (4 : Int32))] [(.ref bb), (.int (4 : Int32))])) rfl rfl (hb hby d10_2) _ q) ?_
  show own_Fin _ _ _ _ (s₁.setTop (mkF m 3 #[.val (.ref bb), .val (.int (4 : Int32))] [(.int (8 : Int32)), (.int (4 : Int32))]))
  refine own_go (fun _ q => XS.isub X0.here hx rfl (hb hby d10_3) rfl q) ?_
  refine own_go (fun _ q => XS.bipush X0.here hx rfl (hb hby d10_4) q) ?_
  show own_Fin _ _ _ _ (s₁.setTop (mkF m 6 #[.val (.ref bb), .val (.int (4 : Int32))] [(.int (31 : Int32)), (.int (-4 : Int32))]))
  refine own_go (fun _ q => XS.iushr X0.here hx rfl (hb hby d10_6) rfl q) ?_
  show own_Fin _ _ _ _ (s₁.setTop (mkF m 7 #[.val (.ref bb), .val (.int (4 : Int32))] [(.int (((-4 : Int32).toUInt32 >>> ((31 : Int32) &&& 31).toUInt32).toInt32))]))
  refine own_go (fun _ q => XS.i2b X0.here hx rfl (hb hby d10_7) rfl q) ?_
  show own_Fin _ _ _ _ (s₁.setTop (mkF m 8 #[.val (.ref bb), .val (.int (4 : Int32))] [(.int ((((-4 : Int32).toUInt32 >>> ((31 : Int32) &&& 31).toUInt32).toInt32).toInt8.toInt32))]))
  rw [show ((((-4 : Int32).toUInt32 >>> ((31 : Int32) &&& 31).toUInt32).toInt32).toInt8.toInt32) = (1 : Int32) from by decide]
  show own_Fin _ _ _ _ (s₁.setTop (mkF m 8 #[.val (.ref bb), .val (.int (4 : Int32))] [(.int (1 : Int32))]))
  refine own_retI X0 hx Bd (t := .byte) Bd.returns rfl (by simp) (hb hby d10_8) ?_ (by decide) (by decide)
  show (Q_rm_cl4_1 Z bb kb vs h0 n0) (some (.int (1 : Int32))) s₁.heap _
  rw [e0]
  exact ⟨rfl, N0, rfl⟩
def Q_rm_i4_2 (Z : State) (xx : Addr) (bb : Addr) (kb : ClassId) (ch0 : Int32) (ch1 : Int32) (gc : Int32) (h0 : Heap) (n0 : Nat) (v : Option Value) (h : Heap) (L : List Loc) : Prop := ∃ t, v = none ∧ Fr n0 L ∧ Keep h0 h [xx] ∧ h0.size ≤ t ∧ own_Str Z h xx t ([ch0, ch1] : List Int32)
theorem ef_rm_i4_2 (m : MethodId) (xx : Addr) (bb : Addr) (ch0 : Int32) (ch1 : Int32) (gc : Int32) : entryFrame m #[(.ref xx), (.ref bb), (.int (0 : Int32)), (.int (2 : Int32)), .null] 6 = mkF m 0 #[.val (.ref xx), .val (.ref bb), .val (.int (0 : Int32)), .val (.int (2 : Int32)), .val .null, .unset] [] := by first | (simp [entryFrame, mkF, argsToLocals, Value.category]; done) | rfl
set_option maxRecDepth 65536 in
set_option maxHeartbeats 40000000 in
theorem rm_i4_2 (l : Launch) (Z : State) (a0 : Array Value) (hw : ∀ d ∈ tables_1, d.before a0 Z = true) (ws : List Jvm.Cond) (xx : Addr) (bb : Addr) (kb : ClassId) (ch0 : Int32) (ch1 : Int32) (gc : Int32) (h0 : Heap) (n0 : Nat) (Z0 : n0 ≤ h0.size) (E_xx : Exa Z h0 xx "java/lang/String") (V_xx : Fld Z h0 xx "java/lang/String" "value" "[B" .null) (C_xx : Fld Z h0 xx "java/lang/String" "coder" "B" (.int (0 : Int32))) (g_xx : n0 ≤ xx) (V_bb : Arv Z h0 bb kb .char (2 : Int32) [(.int ch0), (.int ch1)] (.int (0 : Int32))) (hbd : ∀ c ∈ ([ch0, ch1] : List Int32), ¬ c < 0 ∧ ¬ (65535 : Int32) < c) (neb : bb ≠ xx) (S_C : Sta Z Z.heap "java/lang/String" "COMPACT_STRINGS" "Z" (.int gc)) (hcs : ¬ gc = 0) (O0 : Old Z n0 h0) (S_A : Sta Z Z.heap "java/lang/StringUTF16" "$assertionsDisabled" "Z" (.int (1 : Int32))) (S_H : Sta Z Z.heap "java/lang/StringUTF16" "HI_BYTE_SHIFT" "I" (.int (0 : Int32))) (S_L : Sta Z Z.heap "java/lang/StringUTF16" "LO_BYTE_SHIFT" "I" (.int (8 : Int32))) :
    MetFree l (⟨"java/lang/String", "<init>", "([CIILjava/lang/Void;)V"⟩ : MethodName) (head1 (Jvm.Cond.code (⟨"java/lang/String", "<init>", "([CIILjava/lang/Void;)V"⟩ : MethodName) jdk_42_method_149_code 6 none :: ws) ({ frames := 4, cells := 2, slots := 6, locals := 57 } : Room)) (fun a_ U_ => a_ = #[(.ref xx), (.ref bb), (.int (0 : Int32)), (.int (2 : Int32)), .null] ∧ Z.Warmed39 U_.vm ∧ U_.heap = h0) (fun _ _ _ _ _ => True) (fun _ U_ o_ V_ => ∃ v_ L_, o_ = .returned v_ ∧ (Q_rm_i4_2 Z xx bb kb ch0 ch1 gc h0 n0) v_ V_.heap L_ ∧ FrameEnd U_ o_ V_ L_ ({ frames := 4, cells := 2, slots := 6, locals := 57 } : Room).cells ({ frames := 4, cells := 2, slots := 6, locals := 57 } : Room).slots) := by
  refine MetFree.of_bodySF (plainFor_of_name pn_0) hisR ?_
  intro p e s m args below meth c s₁ Bd hml0 hP hK
  obtain ⟨rfl, hZ, hh⟩ := hP
  have hx := Bd.exec
  have hby := Bd.bytes
  have hml : c.maxLocals = 6 := hml0
  have hown : s.vm.findClass "java/lang/String" = some m.cls := findClass_of_methodNamed Bd.named
  have hnm := (name_of_methodNamed Bd.named Bd.method).1
  have X0 : Stand p l e ({ frames := 4, cells := 2, slots := 6, locals := 57 } : Room) s m #[(.ref xx), (.ref bb), (.int (0 : Int32)), (.int (2 : Int32)), .null] below meth c s₁ [] 0 0 := Stand.of_body Bd
  have e0 : s₁.heap = h0 := by rw [← hh, Bd.state]; rfl
  have N0 := Fr.nil n0
  have K0 : Keep h0 h0 [xx] := Keep.refl _ _
  show own_Fin p.tables e below (own_Post (Q_rm_i4_2 Z xx bb kb ch0 ch1 gc h0 n0) ({ frames := 4, cells := 2, slots := 6, locals := 57 } : Room).cells ({ frames := 4, cells := 2, slots := 6, locals := 57 } : Room).slots below s) _
  refine own_go (fun _ q => castTop (ef_rm_i4_2 m xx bb ch0 ch1 gc) q) ?_
  refine own_go (fun _ q => XS.aloadN X0.here hx rfl (hb hby d4_0) rfl rfl q) ?_
  show own_Fin _ _ _ _ (s₁.setTop (mkF m 1 #[.val (.ref xx), .val (.ref bb), .val (.int (0 : Int32)), .val (.int (2 : Int32)), .val .null, .unset] [(.ref xx)]))
  obtain ⟨T120, X120, e120, st120⟩ := initO X0 hx hZ hown (own_w hw 20 rfl) (own_w hw 21 rfl) (own_w hw 22 rfl) e0 (g := (mkF m 1 #[.val (.ref xx), .val (.ref bb), .val (.int (0 : Int32)), .val (.int (2 : Int32)), .val .null, .unset] [(.ref xx)])) rfl (by rw [hml]; rfl) rfl (hb hby d4_1) (by decide) (W := 0) (by show 2 * 0 + _ ≤ _; exact Nat.le_of_eq rfl) (by decide)
  refine own_go st120 ?_
  refine own_go (fun _ q => XS.iloadN X120.here hx rfl (hb hby d4_4) rfl q) ?_
  show own_Fin _ _ _ _ (T120.setTop (mkF m 5 #[.val (.ref xx), .val (.ref bb), .val (.int (0 : Int32)), .val (.int (2 : Int32)), .val .null, .unset] [(.int (2 : Int32))]))
  refine own_go (fun _ q => XS.ifYes X120.here hx rfl (pc0 := 5) (pc' := 27) rfl (hb hby d4_5) rfl ((if0 _ _).trans (feq (by decide : ¬ (2 : Int32) = (0 : Int32))).2) (by decide) (by decide) q) ?_
  show own_Fin _ _ _ _ (T120.setTop (mkF m 27 #[.val (.ref xx), .val (.ref bb), .val (.int (0 : Int32)), .val (.int (2 : Int32)), .val .null, .unset] []))
  obtain ⟨T121, X121, e121, st121⟩ := getS2 X120 hx hZ hown (host := "") (Or.inl (own_w hw 40 rfl)) Via.refl e120 (S_C.ext O0.2) (g := (mkF m 27 #[.val (.ref xx), .val (.ref bb), .val (.int (0 : Int32)), .val (.int (2 : Int32)), .val .null, .unset] [])) rfl (hb hby d4_27)
  refine own_go st121 ?_
  show own_Fin _ _ _ _ (T121.setTop (mkF m 30 #[.val (.ref xx), .val (.ref bb), .val (.int (0 : Int32)), .val (.int (2 : Int32)), .val .null, .unset] [(.int gc)]))
  refine own_go (fun _ q => XS.ifNo X121.here hx rfl (hb hby d4_30) rfl ((if0 _ _).trans (feq hcs).1) q) ?_
  refine own_go (fun _ q => XS.aloadN X121.here hx rfl (hb hby d4_33) rfl rfl q) ?_
  refine own_go (fun _ q => XS.iloadN X121.here hx rfl (hb hby d4_34) rfl q) ?_
  refine own_go (fun _ q => XS.iloadN X121.here hx rfl (hb hby d4_35) rfl q) ?_
  show own_Fin _ _ _ _ (T121.setTop (mkF m 36 #[.val (.ref xx), .val (.ref bb), .val (.int (0 : Int32)), .val (.int (2 : Int32)), .val .null, .unset] [(.int (2 : Int32)), (.int (0 : Int32)), (.ref bb)]))
  obtain ⟨_, _, ⟨T122, L122, k122, n122⟩, -, X122, ⟨Lc122, hQ122, l122, y122, z122⟩, st122⟩ := Jvm.LawKit.callS X121 hx (y := (⟨"java/lang/StringUTF16", "compress", "([CII)[B"⟩ : MethodName)) hown (mvT hZ (own_w hw 41 rfl)) (mvT hZ (own_w hw 42 rfl)) (mvT hZ (own_w hw 43 rfl)) (mvT hZ (own_w hw 44 rfl)) (by decide) (backOf (W := 0) (rm_c3_2 l Z a0 hw [] bb kb ch0 ch1 h0 n0 (Nat.le_trans Z0 K0.1) V_bb hbd O0 S_A S_H S_L) hZ (own_w hw 44 rfl) (own_w hw 43 rfl) (by decide) (by decide)) (g := (mkF m 36 #[.val (.ref xx), .val (.ref bb), .val (.int (0 : Int32)), .val (.int (2 : Int32)), .val .null, .unset] [(.int (2 : Int32)), (.int (0 : Int32)), (.ref bb)])) rfl (by rw [hml]; rfl) (argsL := [(.ref bb), (.int (0 : Int32)), (.int (2 : Int32))]) (rest := []) (lenOf pd_7 rfl) rfl (by show 2 * 0 + _ ≤ _; exact Nat.le_of_eq rfl) (hb hby d4_36) (fun _ _ => ⟨rfl, e121, (by decide : 0 + 2 ≤ _), (by decide : 0 + 6 ≤ _)⟩)
  dsimp only [Pt.U, Pt.locs, Pt.cells, Pt.slots] at X122 l122 y122 z122 st122 hQ122
  subst l122 y122 z122
  obtain ⟨r122, kk122, rfl, N122q, KK122, sz122, hD122⟩ := hQ122
  have N122 := Fr.app N0 N122q
  have sz_r122 : h0.size ≤ r122 := Nat.le_trans K0.1 sz122
  have g_r122 : n0 ≤ r122 := Nat.le_trans Z0 sz_r122
  have ne123 : xx ≠ r122 := Nat.ne_of_lt (Nat.lt_of_lt_of_le E_xx.lt sz122)
  have ne124 : bb ≠ r122 := Nat.ne_of_lt (Nat.lt_of_lt_of_le V_bb.lt sz122)
  replace E_xx := E_xx.keep KK122
  replace V_xx := V_xx.keep KK122 nin0
  replace C_xx := C_xx.keep KK122 nin0
  replace V_bb := V_bb.keep KK122 nin0
  replace O0 := O0.keep KK122 all0
  have K125 := K0.trans KK122 all0
  rcases hD122 with ⟨hcd122, V122⟩ | ⟨hcd122, V122⟩
  · skip
    refine own_go st122 ?_
    refine own_go (fun _ q => XS.astore X122.here hx rfl (hb hby d4_39) rfl rfl (l' := #[.val (.ref xx), .val (.ref bb), .val (.int (0 : Int32)), .val (.int (2 : Int32)), .val .null, .val (.ref r122)]) rfl q) ?_
    refine own_go (fun _ q => XS.aloadN X122.here hx rfl (hb hby d4_41) rfl rfl q) ?_
    refine own_go (fun _ q => XS.aload X122.here hx rfl (hb hby d4_42) rfl rfl q) ?_
    refine own_go (fun _ q => XS.iloadN X122.here hx rfl (hb hby d4_44) rfl q) ?_
    show own_Fin _ _ _ _ (T122.setTop (mkF m 45 #[.val (.ref xx), .val (.ref bb), .val (.int (0 : Int32)), .val (.int (2 : Int32)), .val .null, .val (.ref r122)] [(.int (2 : Int32)), (.ref r122), (.ref xx)]))
    obtain ⟨_, _, ⟨T126, L126, k126, n126⟩, -, X126, ⟨Lc126, hQ126, l126, y126, z126⟩, st126⟩ := Jvm.LawKit.callS X122 hx (y := (⟨"java/lang/StringUTF16", "coderFromArrayLen", "([BI)B"⟩ : MethodName)) hown (mvT hZ (own_w hw 48 rfl)) (mvT hZ (own_w hw 49 rfl)) (mvT hZ (own_w hw 43 rfl)) (mvT hZ (own_w hw 50 rfl)) (by decide) (backOf (W := 1) (rm_cl2_0 l Z a0 hw [] r122 kk122 [(.int (ch0.toInt8.toInt32)), (.int (ch1.toInt8.toInt32))] T122.heap n0 (Nat.le_trans Z0 K125.1) V122) hZ (own_w hw 50 rfl) (own_w hw 43 rfl) (by decide) (by decide)) (g := (mkF m 45 #[.val (.ref xx), .val (.ref bb), .val (.int (0 : Int32)), .val (.int (2 : Int32)), .val .null, .val (.ref r122)] [(.int (2 : Int32)), (.ref r122), (.ref xx)])) rfl (by rw [hml]; rfl) (argsL := [(.ref r122), (.int (2 : Int32))]) (rest := [(.ref xx)]) (lenOf pd_9 rfl) rfl (by show 2 * 0 + _ ≤ _; exact Nat.le_of_eq rfl) (hb hby d4_45) (fun _ _ => ⟨rfl, rfl, (by decide : 2 + 0 ≤ _), (by decide : 6 + 0 ≤ _)⟩)
    dsimp only [Pt.U, Pt.locs, Pt.cells, Pt.slots] at X126 l126 y126 z126 st126 hQ126
    subst l126 y126 z126
    obtain ⟨rfl, N126q, e126⟩ := hQ126
    have N126 := Fr.app N122 N126q
    refine own_go st126 ?_
    show own_Fin _ _ _ _ (T126.setTop (mkF m 48 #[.val (.ref xx), .val (.ref bb), .val (.int (0 : Int32)), .val (.int (2 : Int32)), .val .null, .val (.ref r122)] [(.int (0 : Int32)), (.ref xx)]))
    obtain ⟨T127, h127, X127, e127, W127, st127⟩ := putFN X126 hx hZ hown (own_w hw 30 rfl) Via.refl e126 C_xx E_xx (Or.inr ⟨(own_w hw 26 rfl), rfl, hnm⟩) (own_w hw 10 rfl) (ty := .byte) (v' := .int (0 : Int32)) (by decide) rfl rfl (g := (mkF m 48 #[.val (.ref xx), .val (.ref bb), .val (.int (0 : Int32)), .val (.int (2 : Int32)), .val .null, .val (.ref r122)] [(.int (0 : Int32)), (.ref xx)])) rfl rfl (hb hby d4_48)
    have N127 := Fr.snoc X127 N126 g_xx
    replace C_xx := C_xx.same W127
    refine own_go st127 ?_
    replace E_xx := E_xx.wr W127
    replace V_xx := V_xx.other W127 (Or.inr (slot_ne (Or.inr (own_w hw 25 rfl)) (Or.inr (own_w hw 26 rfl)) (by decide) (t := (.array .byte)) (t' := .byte) (by decide) (by decide)))
    replace V_bb := V_bb.other W127 neb
    replace O0 := O0.wr W127 g_xx
    replace V122 := V122.other W127 (Ne.symm ne123)
    have K128 := K125.wr W127 (Or.inl (by simp))
    refine own_go (fun _ q => XS.aloadN X127.here hx rfl (hb hby d4_51) rfl rfl q) ?_
    refine own_go (fun _ q => XS.aload X127.here hx rfl (hb hby d4_52) rfl rfl q) ?_
    show own_Fin _ _ _ _ (T127.setTop (mkF m 54 #[.val (.ref xx), .val (.ref bb), .val (.int (0 : Int32)), .val (.int (2 : Int32)), .val .null, .val (.ref r122)] [(.ref r122), (.ref xx)]))
    obtain ⟨T129, h129, X129, e129, W129, st129⟩ := putF X127 hx hZ hown (host := "") (Or.inl (own_w hw 29 rfl)) Via.refl e127 V_xx E_xx (Or.inr ⟨(own_w hw 25 rfl), rfl, hnm⟩) (own_w hw 10 rfl) (ty := (.array .byte)) (by decide) rfl rfl (g := (mkF m 54 #[.val (.ref xx), .val (.ref bb), .val (.int (0 : Int32)), .val (.int (2 : Int32)), .val .null, .val (.ref r122)] [(.ref r122), (.ref xx)])) rfl rfl (hb hby d4_54)
    have N129 := Fr.snoc X129 N127 g_xx
    replace V_xx := V_xx.same W129
    refine own_go st129 ?_
    replace E_xx := E_xx.wr W129
    replace C_xx := C_xx.other W129 (Or.inr (slot_ne (Or.inr (own_w hw 26 rfl)) (Or.inr (own_w hw 25 rfl)) (by decide) (t := .byte) (t' := (.array .byte)) (by decide) (by decide)))
    replace V_bb := V_bb.other W129 neb
    replace O0 := O0.wr W129 g_xx
    replace V122 := V122.other W129 (Ne.symm ne123)
    have K130 := K128.wr W129 (Or.inl (by simp))
    show own_Fin _ _ _ _ (T129.setTop (mkF m 57 #[.val (.ref xx), .val (.ref bb), .val (.int (0 : Int32)), .val (.int (2 : Int32)), .val .null, .val (.ref r122)] []))
    refine own_ret0 X129 hx Bd (hb hby d4_57) ?_ (by decide) (by decide)
    show (Q_rm_i4_2 Z xx bb kb ch0 ch1 gc h0 n0) none T129.heap _
    rw [e129]
    exact ⟨_, rfl, N129, K130, sz_r122, _, _, _, _, E_xx, V_xx, C_xx, V122, Or.inl ⟨rfl, rfl, rfl, hcd122⟩, hbd, Nat.le_of_ble_eq_true rfl⟩
  · skip
    refine own_go st122 ?_
    refine own_go (fun _ q => XS.astore X122.here hx rfl (hb hby d4_39) rfl rfl (l' := #[.val (.ref xx), .val (.ref bb), .val (.int (0 : Int32)), .val (.int (2 : Int32)), .val .null, .val (.ref r122)]) rfl q) ?_
    refine own_go (fun _ q => XS.aloadN X122.here hx rfl (hb hby d4_41) rfl rfl q) ?_
    refine own_go (fun _ q => XS.aload X122.here hx rfl (hb hby d4_42) rfl rfl q) ?_
    refine own_go (fun _ q => XS.iloadN X122.here hx rfl (hb hby d4_44) rfl q) ?_
    show own_Fin _ _ _ _ (T122.setTop (mkF m 45 #[.val (.ref xx), .val (.ref bb), .val (.int (0 : Int32)), .val (.int (2 : Int32)), .val .null, .val (.ref r122)] [(.int (2 : Int32)), (.ref r122), (.ref xx)]))
    obtain ⟨_, _, ⟨T131, L131, k131, n131⟩, -, X131, ⟨Lc131, hQ131, l131, y131, z131⟩, st131⟩ := Jvm.LawKit.callS X122 hx (y := (⟨"java/lang/StringUTF16", "coderFromArrayLen", "([BI)B"⟩ : MethodName)) hown (mvT hZ (own_w hw 48 rfl)) (mvT hZ (own_w hw 49 rfl)) (mvT hZ (own_w hw 43 rfl)) (mvT hZ (own_w hw 50 rfl)) (by decide) (backOf (W := 1) (rm_cl2_1 l Z a0 hw [] r122 kk122 [(.int (ch0.toInt8.toInt32)), (.int ((ch0 >>> ((8 : Int32) &&& 31)).toInt8.toInt32)), (.int (ch1.toInt8.toInt32)), (.int ((ch1 >>> ((8 : Int32) &&& 31)).toInt8.toInt32))] T122.heap n0 (Nat.le_trans Z0 K125.1) V122) hZ (own_w hw 50 rfl) (own_w hw 43 rfl) (by decide) (by decide)) (g := (mkF m 45 #[.val (.ref xx), .val (.ref bb), .val (.int (0 : Int32)), .val (.int (2 : Int32)), .val .null, .val (.ref r122)] [(.int (2 : Int32)), (.ref r122), (.ref xx)])) rfl (by rw [hml]; rfl) (argsL := [(.ref r122), (.int (2 : Int32))]) (rest := [(.ref xx)]) (lenOf pd_9 rfl) rfl (by show 2 * 0 + _ ≤ _; exact Nat.le_of_eq rfl) (hb hby d4_45) (fun _ _ => ⟨rfl, rfl, (by decide : 2 + 0 ≤ _), (by decide : 6 + 0 ≤ _)⟩)
    dsimp only [Pt.U, Pt.locs, Pt.cells, Pt.slots] at X131 l131 y131 z131 st131 hQ131
    subst l131 y131 z131
    obtain ⟨rfl, N131q, e131⟩ := hQ131
    have N131 := Fr.app N122 N131q
    refine own_go st131 ?_
    show own_Fin _ _ _ _ (T131.setTop (mkF m 48 #[.val (.ref xx), .val (.ref bb), .val (.int (0 : Int32)), .val (.int (2 : Int32)), .val .null, .val (.ref r122)] [(.int (1 : Int32)), (.ref xx)]))
    obtain ⟨T132, h132, X132, e132, W132, st132⟩ := putFN X131 hx hZ hown (own_w hw 30 rfl) Via.refl e131 C_xx E_xx (Or.inr ⟨(own_w hw 26 rfl), rfl, hnm⟩) (own_w hw 10 rfl) (ty := .byte) (v' := .int (1 : Int32)) (by decide) rfl rfl (g := (mkF m 48 #[.val (.ref xx), .val (.ref bb), .val (.int (0 : Int32)), .val (.int (2 : Int32)), .val .null, .val (.ref r122)] [(.int (1 : Int32)), (.ref xx)])) rfl rfl (hb hby d4_48)
    have N132 := Fr.snoc X132 N131 g_xx
    replace C_xx := C_xx.same W132
    refine own_go st132 ?_
    replace E_xx := E_xx.wr W132
    replace V_xx := V_xx.other W132 (Or.inr (slot_ne (Or.inr (own_w hw 25 rfl)) (Or.inr (own_w hw 26 rfl)) (by decide) (t := (.array .byte)) (t' := .byte) (by decide) (by decide)))
    replace V_bb := V_bb.other W132 neb
    replace O0 := O0.wr W132 g_xx
    replace V122 := V122.other W132 (Ne.symm ne123)
    have K133 := K125.wr W132 (Or.inl (by simp))
    refine own_go (fun _ q => XS.aloadN X132.here hx rfl (hb hby d4_51) rfl rfl q) ?_
    refine own_go (fun _ q => XS.aload X132.here hx rfl (hb hby d4_52) rfl rfl q) ?_
    show own_Fin _ _ _ _ (T132.setTop (mkF m 54 #[.val (.ref xx), .val (.ref bb), .val (.int (0 : Int32)), .val (.int (2 : Int32)), .val .null, .val (.ref r122)] [(.ref r122), (.ref xx)]))
    obtain ⟨T134, h134, X134, e134, W134, st134⟩ := putF X132 hx hZ hown (host := "") (Or.inl (own_w hw 29 rfl)) Via.refl e132 V_xx E_xx (Or.inr ⟨(own_w hw 25 rfl), rfl, hnm⟩) (own_w hw 10 rfl) (ty := (.array .byte)) (by decide) rfl rfl (g := (mkF m 54 #[.val (.ref xx), .val (.ref bb), .val (.int (0 : Int32)), .val (.int (2 : Int32)), .val .null, .val (.ref r122)] [(.ref r122), (.ref xx)])) rfl rfl (hb hby d4_54)
    have N134 := Fr.snoc X134 N132 g_xx
    replace V_xx := V_xx.same W134
    refine own_go st134 ?_
    replace E_xx := E_xx.wr W134
    replace C_xx := C_xx.other W134 (Or.inr (slot_ne (Or.inr (own_w hw 26 rfl)) (Or.inr (own_w hw 25 rfl)) (by decide) (t := .byte) (t' := (.array .byte)) (by decide) (by decide)))
    replace V_bb := V_bb.other W134 neb
    replace O0 := O0.wr W134 g_xx
    replace V122 := V122.other W134 (Ne.symm ne123)
    have K135 := K133.wr W134 (Or.inl (by simp))
    show own_Fin _ _ _ _ (T134.setTop (mkF m 57 #[.val (.ref xx), .val (.ref bb), .val (.int (0 : Int32)), .val (.int (2 : Int32)), .val .null, .val (.ref r122)] []))
    refine own_ret0 X134 hx Bd (hb hby d4_57) ?_ (by decide) (by decide)
    show (Q_rm_i4_2 Z xx bb kb ch0 ch1 gc h0 n0) none T134.heap _
    rw [e134]
    exact ⟨_, rfl, N134, K135, sz_r122, _, _, _, _, E_xx, V_xx, C_xx, V122, Or.inr ⟨rfl, rfl, rfl, hcd122⟩, hbd, Nat.le_of_ble_eq_true rfl⟩
def Q_rm_i4_3 (Z : State) (xx : Addr) (bb : Addr) (kb : ClassId) (ch0 : Int32) (ch1 : Int32) (ch2 : Int32) (gc : Int32) (h0 : Heap) (n0 : Nat) (v : Option Value) (h : Heap) (L : List Loc) : Prop := ∃ t, v = none ∧ Fr n0 L ∧ Keep h0 h [xx] ∧ h0.size ≤ t ∧ own_Str Z h xx t ([ch0, ch1, ch2] : List Int32)
theorem ef_rm_i4_3 (m : MethodId) (xx : Addr) (bb : Addr) (ch0 : Int32) (ch1 : Int32) (ch2 : Int32) (gc : Int32) : entryFrame m #[(.ref xx), (.ref bb), (.int (0 : Int32)), (.int (3 : Int32)), .null] 6 = mkF m 0 #[.val (.ref xx), .val (.ref bb), .val (.int (0 : Int32)), .val (.int (3 : Int32)), .val .null, .unset] [] := by first | (simp [entryFrame, mkF, argsToLocals, Value.category]; done) | rfl
set_option maxRecDepth 65536 in
set_option maxHeartbeats 40000000 in
theorem rm_i4_3 (l : Launch) (Z : State) (a0 : Array Value) (hw : ∀ d ∈ tables_1, d.before a0 Z = true) (ws : List Jvm.Cond) (xx : Addr) (bb : Addr) (kb : ClassId) (ch0 : Int32) (ch1 : Int32) (ch2 : Int32) (gc : Int32) (h0 : Heap) (n0 : Nat) (Z0 : n0 ≤ h0.size) (E_xx : Exa Z h0 xx "java/lang/String") (V_xx : Fld Z h0 xx "java/lang/String" "value" "[B" .null) (C_xx : Fld Z h0 xx "java/lang/String" "coder" "B" (.int (0 : Int32))) (g_xx : n0 ≤ xx) (V_bb : Arv Z h0 bb kb .char (3 : Int32) [(.int ch0), (.int ch1), (.int ch2)] (.int (0 : Int32))) (hbd : ∀ c ∈ ([ch0, ch1, ch2] : List Int32), ¬ c < 0 ∧ ¬ (65535 : Int32) < c) (neb : bb ≠ xx) (S_C : Sta Z Z.heap "java/lang/String" "COMPACT_STRINGS" "Z" (.int gc)) (hcs : ¬ gc = 0) (O0 : Old Z n0 h0) (S_A : Sta Z Z.heap "java/lang/StringUTF16" "$assertionsDisabled" "Z" (.int (1 : Int32))) (S_H : Sta Z Z.heap "java/lang/StringUTF16" "HI_BYTE_SHIFT" "I" (.int (0 : Int32))) (S_L : Sta Z Z.heap "java/lang/StringUTF16" "LO_BYTE_SHIFT" "I" (.int (8 : Int32))) :
    MetFree l (⟨"java/lang/String", "<init>", "([CIILjava/lang/Void;)V"⟩ : MethodName) (head1 (Jvm.Cond.code (⟨"java/lang/String", "<init>", "([CIILjava/lang/Void;)V"⟩ : MethodName) jdk_42_method_149_code 6 none :: ws) ({ frames := 4, cells := 2, slots := 9, locals := 57 } : Room)) (fun a_ U_ => a_ = #[(.ref xx), (.ref bb), (.int (0 : Int32)), (.int (3 : Int32)), .null] ∧ Z.Warmed39 U_.vm ∧ U_.heap = h0) (fun _ _ _ _ _ => True) (fun _ U_ o_ V_ => ∃ v_ L_, o_ = .returned v_ ∧ (Q_rm_i4_3 Z xx bb kb ch0 ch1 ch2 gc h0 n0) v_ V_.heap L_ ∧ FrameEnd U_ o_ V_ L_ ({ frames := 4, cells := 2, slots := 9, locals := 57 } : Room).cells ({ frames := 4, cells := 2, slots := 9, locals := 57 } : Room).slots) := by
  refine MetFree.of_bodySF (plainFor_of_name pn_0) hisR ?_
  intro p e s m args below meth c s₁ Bd hml0 hP hK
  obtain ⟨rfl, hZ, hh⟩ := hP
  have hx := Bd.exec
  have hby := Bd.bytes
  have hml : c.maxLocals = 6 := hml0
  have hown : s.vm.findClass "java/lang/String" = some m.cls := findClass_of_methodNamed Bd.named
  have hnm := (name_of_methodNamed Bd.named Bd.method).1
  have X0 : Stand p l e ({ frames := 4, cells := 2, slots := 9, locals := 57 } : Room) s m #[(.ref xx), (.ref bb), (.int (0 : Int32)), (.int (3 : Int32)), .null] below meth c s₁ [] 0 0 := Stand.of_body Bd
  have e0 : s₁.heap = h0 := by rw [← hh, Bd.state]; rfl
  have N0 := Fr.nil n0
  have K0 : Keep h0 h0 [xx] := Keep.refl _ _
  show own_Fin p.tables e below (own_Post (Q_rm_i4_3 Z xx bb kb ch0 ch1 ch2 gc h0 n0) ({ frames := 4, cells := 2, slots := 9, locals := 57 } : Room).cells ({ frames := 4, cells := 2, slots := 9, locals := 57 } : Room).slots below s) _
  refine own_go (fun _ q => castTop (ef_rm_i4_3 m xx bb ch0 ch1 ch2 gc) q) ?_
  refine own_go (fun _ q => XS.aloadN X0.here hx rfl (hb hby d4_0) rfl rfl q) ?_
  show own_Fin _ _ _ _ (s₁.setTop (mkF m 1 #[.val (.ref xx), .val (.ref bb), .val (.int (0 : Int32)), .val (.int (3 : Int32)), .val .null, .unset] [(.ref xx)]))
  obtain ⟨T136, X136, e136, st136⟩ := initO X0 hx hZ hown (own_w hw 20 rfl) (own_w hw 21 rfl) (own_w hw 22 rfl) e0 (g := (mkF m 1 #[.val (.ref xx), .val (.ref bb), .val (.int (0 : Int32)), .val (.int (3 : Int32)), .val .null, .unset] [(.ref xx)])) rfl (by rw [hml]; rfl) rfl (hb hby d4_1) (by decide) (W := 0) (by show 2 * 0 + _ ≤ _; exact Nat.le_of_eq rfl) (by decide)
  refine own_go st136 ?_
  refine own_go (fun _ q => XS.iloadN X136.here hx rfl (hb hby d4_4) rfl q) ?_
  show own_Fin _ _ _ _ (T136.setTop (mkF m 5 #[.val (.ref xx), .val (.ref bb), .val (.int (0 : Int32)), .val (.int (3 : Int32)), .val .null, .unset] [(.int (3 : Int32))]))
  refine own_go (fun _ q => XS.ifYes X136.here hx rfl (pc0 := 5) (pc' := 27) rfl (hb hby d4_5) rfl ((if0 _ _).trans (feq (by decide : ¬ (3 : Int32) = (0 : Int32))).2) (by decide) (by decide) q) ?_
  show own_Fin _ _ _ _ (T136.setTop (mkF m 27 #[.val (.ref xx), .val (.ref bb), .val (.int (0 : Int32)), .val (.int (3 : Int32)), .val .null, .unset] []))
  obtain ⟨T137, X137, e137, st137⟩ := getS2 X136 hx hZ hown (host := "") (Or.inl (own_w hw 40 rfl)) Via.refl e136 (S_C.ext O0.2) (g := (mkF m 27 #[.val (.ref xx), .val (.ref bb), .val (.int (0 : Int32)), .val (.int (3 : Int32)), .val .null, .unset] [])) rfl (hb hby d4_27)
  refine own_go st137 ?_
  show own_Fin _ _ _ _ (T137.setTop (mkF m 30 #[.val (.ref xx), .val (.ref bb), .val (.int (0 : Int32)), .val (.int (3 : Int32)), .val .null, .unset] [(.int gc)]))
  refine own_go (fun _ q => XS.ifNo X137.here hx rfl (hb hby d4_30) rfl ((if0 _ _).trans (feq hcs).1) q) ?_
  refine own_go (fun _ q => XS.aloadN X137.here hx rfl (hb hby d4_33) rfl rfl q) ?_
  refine own_go (fun _ q => XS.iloadN X137.here hx rfl (hb hby d4_34) rfl q) ?_
  refine own_go (fun _ q => XS.iloadN X137.here hx rfl (hb hby d4_35) rfl q) ?_
  show own_Fin _ _ _ _ (T137.setTop (mkF m 36 #[.val (.ref xx), .val (.ref bb), .val (.int (0 : Int32)), .val (.int (3 : Int32)), .val .null, .unset] [(.int (3 : Int32)), (.int (0 : Int32)), (.ref bb)]))
  obtain ⟨_, _, ⟨T138, L138, k138, n138⟩, -, X138, ⟨Lc138, hQ138, l138, y138, z138⟩, st138⟩ := Jvm.LawKit.callS X137 hx (y := (⟨"java/lang/StringUTF16", "compress", "([CII)[B"⟩ : MethodName)) hown (mvT hZ (own_w hw 41 rfl)) (mvT hZ (own_w hw 42 rfl)) (mvT hZ (own_w hw 43 rfl)) (mvT hZ (own_w hw 44 rfl)) (by decide) (backOf (W := 0) (rm_c3_3 l Z a0 hw [] bb kb ch0 ch1 ch2 h0 n0 (Nat.le_trans Z0 K0.1) V_bb hbd O0 S_A S_H S_L) hZ (own_w hw 44 rfl) (own_w hw 43 rfl) (by decide) (by decide)) (g := (mkF m 36 #[.val (.ref xx), .val (.ref bb), .val (.int (0 : Int32)), .val (.int (3 : Int32)), .val .null, .unset] [(.int (3 : Int32)), (.int (0 : Int32)), (.ref bb)])) rfl (by rw [hml]; rfl) (argsL := [(.ref bb), (.int (0 : Int32)), (.int (3 : Int32))]) (rest := []) (lenOf pd_7 rfl) rfl (by show 2 * 0 + _ ≤ _; exact Nat.le_of_eq rfl) (hb hby d4_36) (fun _ _ => ⟨rfl, e137, (by decide : 0 + 2 ≤ _), (by decide : 0 + 9 ≤ _)⟩)
  dsimp only [Pt.U, Pt.locs, Pt.cells, Pt.slots] at X138 l138 y138 z138 st138 hQ138
  subst l138 y138 z138
  obtain ⟨r138, kk138, rfl, N138q, KK138, sz138, hD138⟩ := hQ138
  have N138 := Fr.app N0 N138q
  have sz_r138 : h0.size ≤ r138 := Nat.le_trans K0.1 sz138
  have g_r138 : n0 ≤ r138 := Nat.le_trans Z0 sz_r138
  have ne139 : xx ≠ r138 := Nat.ne_of_lt (Nat.lt_of_lt_of_le E_xx.lt sz138)
  have ne140 : bb ≠ r138 := Nat.ne_of_lt (Nat.lt_of_lt_of_le V_bb.lt sz138)
  replace E_xx := E_xx.keep KK138
  replace V_xx := V_xx.keep KK138 nin0
  replace C_xx := C_xx.keep KK138 nin0
  replace V_bb := V_bb.keep KK138 nin0
  replace O0 := O0.keep KK138 all0
  have K141 := K0.trans KK138 all0
  rcases hD138 with ⟨hcd138, V138⟩ | ⟨hcd138, V138⟩
  · skip
    refine own_go st138 ?_
    refine own_go (fun _ q => XS.astore X138.here hx rfl (hb hby d4_39) rfl rfl (l' := #[.val (.ref xx), .val (.ref bb), .val (.int (0 : Int32)), .val (.int (3 : Int32)), .val .null, .val (.ref r138)]) rfl q) ?_
    refine own_go (fun _ q => XS.aloadN X138.here hx rfl (hb hby d4_41) rfl rfl q) ?_
    refine own_go (fun _ q => XS.aload X138.here hx rfl (hb hby d4_42) rfl rfl q) ?_
    refine own_go (fun _ q => XS.iloadN X138.here hx rfl (hb hby d4_44) rfl q) ?_
    show own_Fin _ _ _ _ (T138.setTop (mkF m 45 #[.val (.ref xx), .val (.ref bb), .val (.int (0 : Int32)), .val (.int (3 : Int32)), .val .null, .val (.ref r138)] [(.int (3 : Int32)), (.ref r138), (.ref xx)]))
    obtain ⟨_, _, ⟨T142, L142, k142, n142⟩, -, X142, ⟨Lc142, hQ142, l142, y142, z142⟩, st142⟩ := Jvm.LawKit.callS X138 hx (y := (⟨"java/lang/StringUTF16", "coderFromArrayLen", "([BI)B"⟩ : MethodName)) hown (mvT hZ (own_w hw 48 rfl)) (mvT hZ (own_w hw 49 rfl)) (mvT hZ (own_w hw 43 rfl)) (mvT hZ (own_w hw 50 rfl)) (by decide) (backOf (W := 1) (rm_cl3_0 l Z a0 hw [] r138 kk138 [(.int (ch0.toInt8.toInt32)), (.int (ch1.toInt8.toInt32)), (.int (ch2.toInt8.toInt32))] T138.heap n0 (Nat.le_trans Z0 K141.1) V138) hZ (own_w hw 50 rfl) (own_w hw 43 rfl) (by decide) (by decide)) (g := (mkF m 45 #[.val (.ref xx), .val (.ref bb), .val (.int (0 : Int32)), .val (.int (3 : Int32)), .val .null, .val (.ref r138)] [(.int (3 : Int32)), (.ref r138), (.ref xx)])) rfl (by rw [hml]; rfl) (argsL := [(.ref r138), (.int (3 : Int32))]) (rest := [(.ref xx)]) (lenOf pd_9 rfl) rfl (by show 2 * 0 + _ ≤ _; exact Nat.le_of_eq rfl) (hb hby d4_45) (fun _ _ => ⟨rfl, rfl, (by decide : 2 + 0 ≤ _), (by decide : 9 + 0 ≤ _)⟩)
    dsimp only [Pt.U, Pt.locs, Pt.cells, Pt.slots] at X142 l142 y142 z142 st142 hQ142
    subst l142 y142 z142
    obtain ⟨rfl, N142q, e142⟩ := hQ142
    have N142 := Fr.app N138 N142q
    refine own_go st142 ?_
    show own_Fin _ _ _ _ (T142.setTop (mkF m 48 #[.val (.ref xx), .val (.ref bb), .val (.int (0 : Int32)), .val (.int (3 : Int32)), .val .null, .val (.ref r138)] [(.int (0 : Int32)), (.ref xx)]))
    obtain ⟨T143, h143, X143, e143, W143, st143⟩ := putFN X142 hx hZ hown (own_w hw 30 rfl) Via.refl e142 C_xx E_xx (Or.inr ⟨(own_w hw 26 rfl), rfl, hnm⟩) (own_w hw 10 rfl) (ty := .byte) (v' := .int (0 : Int32)) (by decide) rfl rfl (g := (mkF m 48 #[.val (.ref xx), .val (.ref bb), .val (.int (0 : Int32)), .val (.int (3 : Int32)), .val .null, .val (.ref r138)] [(.int (0 : Int32)), (.ref xx)])) rfl rfl (hb hby d4_48)
    have N143 := Fr.snoc X143 N142 g_xx
    replace C_xx := C_xx.same W143
    refine own_go st143 ?_
    replace E_xx := E_xx.wr W143
    replace V_xx := V_xx.other W143 (Or.inr (slot_ne (Or.inr (own_w hw 25 rfl)) (Or.inr (own_w hw 26 rfl)) (by decide) (t := (.array .byte)) (t' := .byte) (by decide) (by decide)))
    replace V_bb := V_bb.other W143 neb
    replace O0 := O0.wr W143 g_xx
    replace V138 := V138.other W143 (Ne.symm ne139)
    have K144 := K141.wr W143 (Or.inl (by simp))
    refine own_go (fun _ q => XS.aloadN X143.here hx rfl (hb hby d4_51) rfl rfl q) ?_
    refine own_go (fun _ q => XS.aload X143.here hx rfl (hb hby d4_52) rfl rfl q) ?_
    show own_Fin _ _ _ _ (T143.setTop (mkF m 54 #[.val (.ref xx), .val (.ref bb), .val (.int (0 : Int32)), .val (.int (3 : Int32)), .val .null, .val (.ref r138)] [(.ref r138), (.ref xx)]))
    obtain ⟨T145, h145, X145, e145, W145, st145⟩ := putF X143 hx hZ hown (host := "") (Or.inl (own_w hw 29 rfl)) Via.refl e143 V_xx E_xx (Or.inr ⟨(own_w hw 25 rfl), rfl, hnm⟩) (own_w hw 10 rfl) (ty := (.array .byte)) (by decide) rfl rfl (g := (mkF m 54 #[.val (.ref xx), .val (.ref bb), .val (.int (0 : Int32)), .val (.int (3 : Int32)), .val .null, .val (.ref r138)] [(.ref r138), (.ref xx)])) rfl rfl (hb hby d4_54)
    have N145 := Fr.snoc X145 N143 g_xx
    replace V_xx := V_xx.same W145
    refine own_go st145 ?_
    replace E_xx := E_xx.wr W145
    replace C_xx := C_xx.other W145 (Or.inr (slot_ne (Or.inr (own_w hw 26 rfl)) (Or.inr (own_w hw 25 rfl)) (by decide) (t := .byte) (t' := (.array .byte)) (by decide) (by decide)))
    replace V_bb := V_bb.other W145 neb
    replace O0 := O0.wr W145 g_xx
    replace V138 := V138.other W145 (Ne.symm ne139)
    have K146 := K144.wr W145 (Or.inl (by simp))
    show own_Fin _ _ _ _ (T145.setTop (mkF m 57 #[.val (.ref xx), .val (.ref bb), .val (.int (0 : Int32)), .val (.int (3 : Int32)), .val .null, .val (.ref r138)] []))
    refine own_ret0 X145 hx Bd (hb hby d4_57) ?_ (by decide) (by decide)
    show (Q_rm_i4_3 Z xx bb kb ch0 ch1 ch2 gc h0 n0) none T145.heap _
    rw [e145]
    exact ⟨_, rfl, N145, K146, sz_r138, _, _, _, _, E_xx, V_xx, C_xx, V138, Or.inl ⟨rfl, rfl, rfl, hcd138⟩, hbd, Nat.le_of_ble_eq_true rfl⟩
  · skip
    refine own_go st138 ?_
    refine own_go (fun _ q => XS.astore X138.here hx rfl (hb hby d4_39) rfl rfl (l' := #[.val (.ref xx), .val (.ref bb), .val (.int (0 : Int32)), .val (.int (3 : Int32)), .val .null, .val (.ref r138)]) rfl q) ?_
    refine own_go (fun _ q => XS.aloadN X138.here hx rfl (hb hby d4_41) rfl rfl q) ?_
    refine own_go (fun _ q => XS.aload X138.here hx rfl (hb hby d4_42) rfl rfl q) ?_
    refine own_go (fun _ q => XS.iloadN X138.here hx rfl (hb hby d4_44) rfl q) ?_
    show own_Fin _ _ _ _ (T138.setTop (mkF m 45 #[.val (.ref xx), .val (.ref bb), .val (.int (0 : Int32)), .val (.int (3 : Int32)), .val .null, .val (.ref r138)] [(.int (3 : Int32)), (.ref r138), (.ref xx)]))
    obtain ⟨_, _, ⟨T147, L147, k147, n147⟩, -, X147, ⟨Lc147, hQ147, l147, y147, z147⟩, st147⟩ := Jvm.LawKit.callS X138 hx (y := (⟨"java/lang/StringUTF16", "coderFromArrayLen", "([BI)B"⟩ : MethodName)) hown (mvT hZ (own_w hw 48 rfl)) (mvT hZ (own_w hw 49 rfl)) (mvT hZ (own_w hw 43 rfl)) (mvT hZ (own_w hw 50 rfl)) (by decide) (backOf (W := 1) (rm_cl3_1 l Z a0 hw [] r138 kk138 [(.int (ch0.toInt8.toInt32)), (.int ((ch0 >>> ((8 : Int32) &&& 31)).toInt8.toInt32)), (.int (ch1.toInt8.toInt32)), (.int ((ch1 >>> ((8 : Int32) &&& 31)).toInt8.toInt32)), (.int (ch2.toInt8.toInt32)), (.int ((ch2 >>> ((8 : Int32) &&& 31)).toInt8.toInt32))] T138.heap n0 (Nat.le_trans Z0 K141.1) V138) hZ (own_w hw 50 rfl) (own_w hw 43 rfl) (by decide) (by decide)) (g := (mkF m 45 #[.val (.ref xx), .val (.ref bb), .val (.int (0 : Int32)), .val (.int (3 : Int32)), .val .null, .val (.ref r138)] [(.int (3 : Int32)), (.ref r138), (.ref xx)])) rfl (by rw [hml]; rfl) (argsL := [(.ref r138), (.int (3 : Int32))]) (rest := [(.ref xx)]) (lenOf pd_9 rfl) rfl (by show 2 * 0 + _ ≤ _; exact Nat.le_of_eq rfl) (hb hby d4_45) (fun _ _ => ⟨rfl, rfl, (by decide : 2 + 0 ≤ _), (by decide : 9 + 0 ≤ _)⟩)
    dsimp only [Pt.U, Pt.locs, Pt.cells, Pt.slots] at X147 l147 y147 z147 st147 hQ147
    subst l147 y147 z147
    obtain ⟨rfl, N147q, e147⟩ := hQ147
    have N147 := Fr.app N138 N147q
    refine own_go st147 ?_
    show own_Fin _ _ _ _ (T147.setTop (mkF m 48 #[.val (.ref xx), .val (.ref bb), .val (.int (0 : Int32)), .val (.int (3 : Int32)), .val .null, .val (.ref r138)] [(.int (1 : Int32)), (.ref xx)]))
    obtain ⟨T148, h148, X148, e148, W148, st148⟩ := putFN X147 hx hZ hown (own_w hw 30 rfl) Via.refl e147 C_xx E_xx (Or.inr ⟨(own_w hw 26 rfl), rfl, hnm⟩) (own_w hw 10 rfl) (ty := .byte) (v' := .int (1 : Int32)) (by decide) rfl rfl (g := (mkF m 48 #[.val (.ref xx), .val (.ref bb), .val (.int (0 : Int32)), .val (.int (3 : Int32)), .val .null, .val (.ref r138)] [(.int (1 : Int32)), (.ref xx)])) rfl rfl (hb hby d4_48)
    have N148 := Fr.snoc X148 N147 g_xx
    replace C_xx := C_xx.same W148
    refine own_go st148 ?_
    replace E_xx := E_xx.wr W148
    replace V_xx := V_xx.other W148 (Or.inr (slot_ne (Or.inr (own_w hw 25 rfl)) (Or.inr (own_w hw 26 rfl)) (by decide) (t := (.array .byte)) (t' := .byte) (by decide) (by decide)))
    replace V_bb := V_bb.other W148 neb
    replace O0 := O0.wr W148 g_xx
    replace V138 := V138.other W148 (Ne.symm ne139)
    have K149 := K141.wr W148 (Or.inl (by simp))
    refine own_go (fun _ q => XS.aloadN X148.here hx rfl (hb hby d4_51) rfl rfl q) ?_
    refine own_go (fun _ q => XS.aload X148.here hx rfl (hb hby d4_52) rfl rfl q) ?_
    show own_Fin _ _ _ _ (T148.setTop (mkF m 54 #[.val (.ref xx), .val (.ref bb), .val (.int (0 : Int32)), .val (.int (3 : Int32)), .val .null, .val (.ref r138)] [(.ref r138), (.ref xx)]))
    obtain ⟨T150, h150, X150, e150, W150, st150⟩ := putF X148 hx hZ hown (host := "") (Or.inl (own_w hw 29 rfl)) Via.refl e148 V_xx E_xx (Or.inr ⟨(own_w hw 25 rfl), rfl, hnm⟩) (own_w hw 10 rfl) (ty := (.array .byte)) (by decide) rfl rfl (g := (mkF m 54 #[.val (.ref xx), .val (.ref bb), .val (.int (0 : Int32)), .val (.int (3 : Int32)), .val .null, .val (.ref r138)] [(.ref r138), (.ref xx)])) rfl rfl (hb hby d4_54)
    have N150 := Fr.snoc X150 N148 g_xx
    replace V_xx := V_xx.same W150
    refine own_go st150 ?_
    replace E_xx := E_xx.wr W150
    replace C_xx := C_xx.other W150 (Or.inr (slot_ne (Or.inr (own_w hw 26 rfl)) (Or.inr (own_w hw 25 rfl)) (by decide) (t := .byte) (t' := (.array .byte)) (by decide) (by decide)))
    replace V_bb := V_bb.other W150 neb
    replace O0 := O0.wr W150 g_xx
    replace V138 := V138.other W150 (Ne.symm ne139)
    have K151 := K149.wr W150 (Or.inl (by simp))
    show own_Fin _ _ _ _ (T150.setTop (mkF m 57 #[.val (.ref xx), .val (.ref bb), .val (.int (0 : Int32)), .val (.int (3 : Int32)), .val .null, .val (.ref r138)] []))
    refine own_ret0 X150 hx Bd (hb hby d4_57) ?_ (by decide) (by decide)
    show (Q_rm_i4_3 Z xx bb kb ch0 ch1 ch2 gc h0 n0) none T150.heap _
    rw [e150]
    exact ⟨_, rfl, N150, K151, sz_r138, _, _, _, _, E_xx, V_xx, C_xx, V138, Or.inr ⟨rfl, rfl, rfl, hcd138⟩, hbd, Nat.le_of_ble_eq_true rfl⟩
def Q_rm_i4_4 (Z : State) (xx : Addr) (bb : Addr) (kb : ClassId) (ch0 : Int32) (ch1 : Int32) (ch2 : Int32) (ch3 : Int32) (gc : Int32) (h0 : Heap) (n0 : Nat) (v : Option Value) (h : Heap) (L : List Loc) : Prop := ∃ t, v = none ∧ Fr n0 L ∧ Keep h0 h [xx] ∧ h0.size ≤ t ∧ own_Str Z h xx t ([ch0, ch1, ch2, ch3] : List Int32)
theorem ef_rm_i4_4 (m : MethodId) (xx : Addr) (bb : Addr) (ch0 : Int32) (ch1 : Int32) (ch2 : Int32) (ch3 : Int32) (gc : Int32) : entryFrame m #[(.ref xx), (.ref bb), (.int (0 : Int32)), (.int (4 : Int32)), .null] 6 = mkF m 0 #[.val (.ref xx), .val (.ref bb), .val (.int (0 : Int32)), .val (.int (4 : Int32)), .val .null, .unset] [] := by first | (simp [entryFrame, mkF, argsToLocals, Value.category]; done) | rfl
set_option maxRecDepth 65536 in
set_option maxHeartbeats 40000000 in
theorem rm_i4_4 (l : Launch) (Z : State) (a0 : Array Value) (hw : ∀ d ∈ tables_1, d.before a0 Z = true) (ws : List Jvm.Cond) (xx : Addr) (bb : Addr) (kb : ClassId) (ch0 : Int32) (ch1 : Int32) (ch2 : Int32) (ch3 : Int32) (gc : Int32) (h0 : Heap) (n0 : Nat) (Z0 : n0 ≤ h0.size) (E_xx : Exa Z h0 xx "java/lang/String") (V_xx : Fld Z h0 xx "java/lang/String" "value" "[B" .null) (C_xx : Fld Z h0 xx "java/lang/String" "coder" "B" (.int (0 : Int32))) (g_xx : n0 ≤ xx) (V_bb : Arv Z h0 bb kb .char (4 : Int32) [(.int ch0), (.int ch1), (.int ch2), (.int ch3)] (.int (0 : Int32))) (hbd : ∀ c ∈ ([ch0, ch1, ch2, ch3] : List Int32), ¬ c < 0 ∧ ¬ (65535 : Int32) < c) (neb : bb ≠ xx) (S_C : Sta Z Z.heap "java/lang/String" "COMPACT_STRINGS" "Z" (.int gc)) (hcs : ¬ gc = 0) (O0 : Old Z n0 h0) (S_A : Sta Z Z.heap "java/lang/StringUTF16" "$assertionsDisabled" "Z" (.int (1 : Int32))) (S_H : Sta Z Z.heap "java/lang/StringUTF16" "HI_BYTE_SHIFT" "I" (.int (0 : Int32))) (S_L : Sta Z Z.heap "java/lang/StringUTF16" "LO_BYTE_SHIFT" "I" (.int (8 : Int32))) :
    MetFree l (⟨"java/lang/String", "<init>", "([CIILjava/lang/Void;)V"⟩ : MethodName) (head1 (Jvm.Cond.code (⟨"java/lang/String", "<init>", "([CIILjava/lang/Void;)V"⟩ : MethodName) jdk_42_method_149_code 6 none :: ws) ({ frames := 4, cells := 2, slots := 12, locals := 57 } : Room)) (fun a_ U_ => a_ = #[(.ref xx), (.ref bb), (.int (0 : Int32)), (.int (4 : Int32)), .null] ∧ Z.Warmed39 U_.vm ∧ U_.heap = h0) (fun _ _ _ _ _ => True) (fun _ U_ o_ V_ => ∃ v_ L_, o_ = .returned v_ ∧ (Q_rm_i4_4 Z xx bb kb ch0 ch1 ch2 ch3 gc h0 n0) v_ V_.heap L_ ∧ FrameEnd U_ o_ V_ L_ ({ frames := 4, cells := 2, slots := 12, locals := 57 } : Room).cells ({ frames := 4, cells := 2, slots := 12, locals := 57 } : Room).slots) := by
  refine MetFree.of_bodySF (plainFor_of_name pn_0) hisR ?_
  intro p e s m args below meth c s₁ Bd hml0 hP hK
  obtain ⟨rfl, hZ, hh⟩ := hP
  have hx := Bd.exec
  have hby := Bd.bytes
  have hml : c.maxLocals = 6 := hml0
  have hown : s.vm.findClass "java/lang/String" = some m.cls := findClass_of_methodNamed Bd.named
  have hnm := (name_of_methodNamed Bd.named Bd.method).1
  have X0 : Stand p l e ({ frames := 4, cells := 2, slots := 12, locals := 57 } : Room) s m #[(.ref xx), (.ref bb), (.int (0 : Int32)), (.int (4 : Int32)), .null] below meth c s₁ [] 0 0 := Stand.of_body Bd
  have e0 : s₁.heap = h0 := by rw [← hh, Bd.state]; rfl
  have N0 := Fr.nil n0
  have K0 : Keep h0 h0 [xx] := Keep.refl _ _
  show own_Fin p.tables e below (own_Post (Q_rm_i4_4 Z xx bb kb ch0 ch1 ch2 ch3 gc h0 n0) ({ frames := 4, cells := 2, slots := 12, locals := 57 } : Room).cells ({ frames := 4, cells := 2, slots := 12, locals := 57 } : Room).slots below s) _
  refine own_go (fun _ q => castTop (ef_rm_i4_4 m xx bb ch0 ch1 ch2 ch3 gc) q) ?_
  refine own_go (fun _ q => XS.aloadN X0.here hx rfl (hb hby d4_0) rfl rfl q) ?_
  show own_Fin _ _ _ _ (s₁.setTop (mkF m 1 #[.val (.ref xx), .val (.ref bb), .val (.int (0 : Int32)), .val (.int (4 : Int32)), .val .null, .unset] [(.ref xx)]))
  obtain ⟨T152, X152, e152, st152⟩ := initO X0 hx hZ hown (own_w hw 20 rfl) (own_w hw 21 rfl) (own_w hw 22 rfl) e0 (g := (mkF m 1 #[.val (.ref xx), .val (.ref bb), .val (.int (0 : Int32)), .val (.int (4 : Int32)), .val .null, .unset] [(.ref xx)])) rfl (by rw [hml]; rfl) rfl (hb hby d4_1) (by decide) (W := 0) (by show 2 * 0 + _ ≤ _; exact Nat.le_of_eq rfl) (by decide)
  refine own_go st152 ?_
  refine own_go (fun _ q => XS.iloadN X152.here hx rfl (hb hby d4_4) rfl q) ?_
  show own_Fin _ _ _ _ (T152.setTop (mkF m 5 #[.val (.ref xx), .val (.ref bb), .val (.int (0 : Int32)), .val (.int (4 : Int32)), .val .null, .unset] [(.int (4 : Int32))]))
  refine own_go (fun _ q => XS.ifYes X152.here hx rfl (pc0 := 5) (pc' := 27) rfl (hb hby d4_5) rfl ((if0 _ _).trans (feq (by decide : ¬ (4 : Int32) = (0 : Int32))).2) (by decide) (by decide) q) ?_
  show own_Fin _ _ _ _ (T152.setTop (mkF m 27 #[.val (.ref xx), .val (.ref bb), .val (.int (0 : Int32)), .val (.int (4 : Int32)), .val .null, .unset] []))
  obtain ⟨T153, X153, e153, st153⟩ := getS2 X152 hx hZ hown (host := "") (Or.inl (own_w hw 40 rfl)) Via.refl e152 (S_C.ext O0.2) (g := (mkF m 27 #[.val (.ref xx), .val (.ref bb), .val (.int (0 : Int32)), .val (.int (4 : Int32)), .val .null, .unset] [])) rfl (hb hby d4_27)
  refine own_go st153 ?_
  show own_Fin _ _ _ _ (T153.setTop (mkF m 30 #[.val (.ref xx), .val (.ref bb), .val (.int (0 : Int32)), .val (.int (4 : Int32)), .val .null, .unset] [(.int gc)]))
  refine own_go (fun _ q => XS.ifNo X153.here hx rfl (hb hby d4_30) rfl ((if0 _ _).trans (feq hcs).1) q) ?_
  refine own_go (fun _ q => XS.aloadN X153.here hx rfl (hb hby d4_33) rfl rfl q) ?_
  refine own_go (fun _ q => XS.iloadN X153.here hx rfl (hb hby d4_34) rfl q) ?_
  refine own_go (fun _ q => XS.iloadN X153.here hx rfl (hb hby d4_35) rfl q) ?_
  show own_Fin _ _ _ _ (T153.setTop (mkF m 36 #[.val (.ref xx), .val (.ref bb), .val (.int (0 : Int32)), .val (.int (4 : Int32)), .val .null, .unset] [(.int (4 : Int32)), (.int (0 : Int32)), (.ref bb)]))
  obtain ⟨_, _, ⟨T154, L154, k154, n154⟩, -, X154, ⟨Lc154, hQ154, l154, y154, z154⟩, st154⟩ := Jvm.LawKit.callS X153 hx (y := (⟨"java/lang/StringUTF16", "compress", "([CII)[B"⟩ : MethodName)) hown (mvT hZ (own_w hw 41 rfl)) (mvT hZ (own_w hw 42 rfl)) (mvT hZ (own_w hw 43 rfl)) (mvT hZ (own_w hw 44 rfl)) (by decide) (backOf (W := 0) (rm_c3_4 l Z a0 hw [] bb kb ch0 ch1 ch2 ch3 h0 n0 (Nat.le_trans Z0 K0.1) V_bb hbd O0 S_A S_H S_L) hZ (own_w hw 44 rfl) (own_w hw 43 rfl) (by decide) (by decide)) (g := (mkF m 36 #[.val (.ref xx), .val (.ref bb), .val (.int (0 : Int32)), .val (.int (4 : Int32)), .val .null, .unset] [(.int (4 : Int32)), (.int (0 : Int32)), (.ref bb)])) rfl (by rw [hml]; rfl) (argsL := [(.ref bb), (.int (0 : Int32)), (.int (4 : Int32))]) (rest := []) (lenOf pd_7 rfl) rfl (by show 2 * 0 + _ ≤ _; exact Nat.le_of_eq rfl) (hb hby d4_36) (fun _ _ => ⟨rfl, e153, (by decide : 0 + 2 ≤ _), (by decide : 0 + 12 ≤ _)⟩)
  dsimp only [Pt.U, Pt.locs, Pt.cells, Pt.slots] at X154 l154 y154 z154 st154 hQ154
  subst l154 y154 z154
  obtain ⟨r154, kk154, rfl, N154q, KK154, sz154, hD154⟩ := hQ154
  have N154 := Fr.app N0 N154q
  have sz_r154 : h0.size ≤ r154 := Nat.le_trans K0.1 sz154
  have g_r154 : n0 ≤ r154 := Nat.le_trans Z0 sz_r154
  have ne155 : xx ≠ r154 := Nat.ne_of_lt (Nat.lt_of_lt_of_le E_xx.lt sz154)
  have ne156 : bb ≠ r154 := Nat.ne_of_lt (Nat.lt_of_lt_of_le V_bb.lt sz154)
  replace E_xx := E_xx.keep KK154
  replace V_xx := V_xx.keep KK154 nin0
  replace C_xx := C_xx.keep KK154 nin0
  replace V_bb := V_bb.keep KK154 nin0
  replace O0 := O0.keep KK154 all0
  have K157 := K0.trans KK154 all0
  rcases hD154 with ⟨hcd154, V154⟩ | ⟨hcd154, V154⟩
  · skip
    refine own_go st154 ?_
    refine own_go (fun _ q => XS.astore X154.here hx rfl (hb hby d4_39) rfl rfl (l' := #[.val (.ref xx), .val (.ref bb), .val (.int (0 : Int32)), .val (.int (4 : Int32)), .val .null, .val (.ref r154)]) rfl q) ?_
    refine own_go (fun _ q => XS.aloadN X154.here hx rfl (hb hby d4_41) rfl rfl q) ?_
    refine own_go (fun _ q => XS.aload X154.here hx rfl (hb hby d4_42) rfl rfl q) ?_
    refine own_go (fun _ q => XS.iloadN X154.here hx rfl (hb hby d4_44) rfl q) ?_
    show own_Fin _ _ _ _ (T154.setTop (mkF m 45 #[.val (.ref xx), .val (.ref bb), .val (.int (0 : Int32)), .val (.int (4 : Int32)), .val .null, .val (.ref r154)] [(.int (4 : Int32)), (.ref r154), (.ref xx)]))
    obtain ⟨_, _, ⟨T158, L158, k158, n158⟩, -, X158, ⟨Lc158, hQ158, l158, y158, z158⟩, st158⟩ := Jvm.LawKit.callS X154 hx (y := (⟨"java/lang/StringUTF16", "coderFromArrayLen", "([BI)B"⟩ : MethodName)) hown (mvT hZ (own_w hw 48 rfl)) (mvT hZ (own_w hw 49 rfl)) (mvT hZ (own_w hw 43 rfl)) (mvT hZ (own_w hw 50 rfl)) (by decide) (backOf (W := 1) (rm_cl4_0 l Z a0 hw [] r154 kk154 [(.int (ch0.toInt8.toInt32)), (.int (ch1.toInt8.toInt32)), (.int (ch2.toInt8.toInt32)), (.int (ch3.toInt8.toInt32))] T154.heap n0 (Nat.le_trans Z0 K157.1) V154) hZ (own_w hw 50 rfl) (own_w hw 43 rfl) (by decide) (by decide)) (g := (mkF m 45 #[.val (.ref xx), .val (.ref bb), .val (.int (0 : Int32)), .val (.int (4 : Int32)), .val .null, .val (.ref r154)] [(.int (4 : Int32)), (.ref r154), (.ref xx)])) rfl (by rw [hml]; rfl) (argsL := [(.ref r154), (.int (4 : Int32))]) (rest := [(.ref xx)]) (lenOf pd_9 rfl) rfl (by show 2 * 0 + _ ≤ _; exact Nat.le_of_eq rfl) (hb hby d4_45) (fun _ _ => ⟨rfl, rfl, (by decide : 2 + 0 ≤ _), (by decide : 12 + 0 ≤ _)⟩)
    dsimp only [Pt.U, Pt.locs, Pt.cells, Pt.slots] at X158 l158 y158 z158 st158 hQ158
    subst l158 y158 z158
    obtain ⟨rfl, N158q, e158⟩ := hQ158
    have N158 := Fr.app N154 N158q
    refine own_go st158 ?_
    show own_Fin _ _ _ _ (T158.setTop (mkF m 48 #[.val (.ref xx), .val (.ref bb), .val (.int (0 : Int32)), .val (.int (4 : Int32)), .val .null, .val (.ref r154)] [(.int (0 : Int32)), (.ref xx)]))
    obtain ⟨T159, h159, X159, e159, W159, st159⟩ := putFN X158 hx hZ hown (own_w hw 30 rfl) Via.refl e158 C_xx E_xx (Or.inr ⟨(own_w hw 26 rfl), rfl, hnm⟩) (own_w hw 10 rfl) (ty := .byte) (v' := .int (0 : Int32)) (by decide) rfl rfl (g := (mkF m 48 #[.val (.ref xx), .val (.ref bb), .val (.int (0 : Int32)), .val (.int (4 : Int32)), .val .null, .val (.ref r154)] [(.int (0 : Int32)), (.ref xx)])) rfl rfl (hb hby d4_48)
    have N159 := Fr.snoc X159 N158 g_xx
    replace C_xx := C_xx.same W159
    refine own_go st159 ?_
    replace E_xx := E_xx.wr W159
    replace V_xx := V_xx.other W159 (Or.inr (slot_ne (Or.inr (own_w hw 25 rfl)) (Or.inr (own_w hw 26 rfl)) (by decide) (t := (.array .byte)) (t' := .byte) (by decide) (by decide)))
    replace V_bb := V_bb.other W159 neb
    replace O0 := O0.wr W159 g_xx
    replace V154 := V154.other W159 (Ne.symm ne155)
    have K160 := K157.wr W159 (Or.inl (by simp))
    refine own_go (fun _ q => XS.aloadN X159.here hx rfl (hb hby d4_51) rfl rfl q) ?_
    refine own_go (fun _ q => XS.aload X159.here hx rfl (hb hby d4_52) rfl rfl q) ?_
    show own_Fin _ _ _ _ (T159.setTop (mkF m 54 #[.val (.ref xx), .val (.ref bb), .val (.int (0 : Int32)), .val (.int (4 : Int32)), .val .null, .val (.ref r154)] [(.ref r154), (.ref xx)]))
    obtain ⟨T161, h161, X161, e161, W161, st161⟩ := putF X159 hx hZ hown (host := "") (Or.inl (own_w hw 29 rfl)) Via.refl e159 V_xx E_xx (Or.inr ⟨(own_w hw 25 rfl), rfl, hnm⟩) (own_w hw 10 rfl) (ty := (.array .byte)) (by decide) rfl rfl (g := (mkF m 54 #[.val (.ref xx), .val (.ref bb), .val (.int (0 : Int32)), .val (.int (4 : Int32)), .val .null, .val (.ref r154)] [(.ref r154), (.ref xx)])) rfl rfl (hb hby d4_54)
    have N161 := Fr.snoc X161 N159 g_xx
    replace V_xx := V_xx.same W161
    refine own_go st161 ?_
    replace E_xx := E_xx.wr W161
    replace C_xx := C_xx.other W161 (Or.inr (slot_ne (Or.inr (own_w hw 26 rfl)) (Or.inr (own_w hw 25 rfl)) (by decide) (t := .byte) (t' := (.array .byte)) (by decide) (by decide)))
    replace V_bb := V_bb.other W161 neb
    replace O0 := O0.wr W161 g_xx
    replace V154 := V154.other W161 (Ne.symm ne155)
    have K162 := K160.wr W161 (Or.inl (by simp))
    show own_Fin _ _ _ _ (T161.setTop (mkF m 57 #[.val (.ref xx), .val (.ref bb), .val (.int (0 : Int32)), .val (.int (4 : Int32)), .val .null, .val (.ref r154)] []))
    refine own_ret0 X161 hx Bd (hb hby d4_57) ?_ (by decide) (by decide)
    show (Q_rm_i4_4 Z xx bb kb ch0 ch1 ch2 ch3 gc h0 n0) none T161.heap _
    rw [e161]
    exact ⟨_, rfl, N161, K162, sz_r154, _, _, _, _, E_xx, V_xx, C_xx, V154, Or.inl ⟨rfl, rfl, rfl, hcd154⟩, hbd, Nat.le_of_ble_eq_true rfl⟩
  · skip
    refine own_go st154 ?_
    refine own_go (fun _ q => XS.astore X154.here hx rfl (hb hby d4_39) rfl rfl (l' := #[.val (.ref xx), .val (.ref bb), .val (.int (0 : Int32)), .val (.int (4 : Int32)), .val .null, .val (.ref r154)]) rfl q) ?_
    refine own_go (fun _ q => XS.aloadN X154.here hx rfl (hb hby d4_41) rfl rfl q) ?_
    refine own_go (fun _ q => XS.aload X154.here hx rfl (hb hby d4_42) rfl rfl q) ?_
    refine own_go (fun _ q => XS.iloadN X154.here hx rfl (hb hby d4_44) rfl q) ?_
    show own_Fin _ _ _ _ (T154.setTop (mkF m 45 #[.val (.ref xx), .val (.ref bb), .val (.int (0 : Int32)), .val (.int (4 : Int32)), .val .null, .val (.ref r154)] [(.int (4 : Int32)), (.ref r154), (.ref xx)]))
    obtain ⟨_, _, ⟨T163, L163, k163, n163⟩, -, X163, ⟨Lc163, hQ163, l163, y163, z163⟩, st163⟩ := Jvm.LawKit.callS X154 hx (y := (⟨"java/lang/StringUTF16", "coderFromArrayLen", "([BI)B"⟩ : MethodName)) hown (mvT hZ (own_w hw 48 rfl)) (mvT hZ (own_w hw 49 rfl)) (mvT hZ (own_w hw 43 rfl)) (mvT hZ (own_w hw 50 rfl)) (by decide) (backOf (W := 1) (rm_cl4_1 l Z a0 hw [] r154 kk154 [(.int (ch0.toInt8.toInt32)), (.int ((ch0 >>> ((8 : Int32) &&& 31)).toInt8.toInt32)), (.int (ch1.toInt8.toInt32)), (.int ((ch1 >>> ((8 : Int32) &&& 31)).toInt8.toInt32)), (.int (ch2.toInt8.toInt32)), (.int ((ch2 >>> ((8 : Int32) &&& 31)).toInt8.toInt32)), (.int (ch3.toInt8.toInt32)), (.int ((ch3 >>> ((8 : Int32) &&& 31)).toInt8.toInt32))] T154.heap n0 (Nat.le_trans Z0 K157.1) V154) hZ (own_w hw 50 rfl) (own_w hw 43 rfl) (by decide) (by decide)) (g := (mkF m 45 #[.val (.ref xx), .val (.ref bb), .val (.int (0 : Int32)), .val (.int (4 : Int32)), .val .null, .val (.ref r154)] [(.int (4 : Int32)), (.ref r154), (.ref xx)])) rfl (by rw [hml]; rfl) (argsL := [(.ref r154), (.int (4 : Int32))]) (rest := [(.ref xx)]) (lenOf pd_9 rfl) rfl (by show 2 * 0 + _ ≤ _; exact Nat.le_of_eq rfl) (hb hby d4_45) (fun _ _ => ⟨rfl, rfl, (by decide : 2 + 0 ≤ _), (by decide : 12 + 0 ≤ _)⟩)
    dsimp only [Pt.U, Pt.locs, Pt.cells, Pt.slots] at X163 l163 y163 z163 st163 hQ163
    subst l163 y163 z163
    obtain ⟨rfl, N163q, e163⟩ := hQ163
    have N163 := Fr.app N154 N163q
    refine own_go st163 ?_
    show own_Fin _ _ _ _ (T163.setTop (mkF m 48 #[.val (.ref xx), .val (.ref bb), .val (.int (0 : Int32)), .val (.int (4 : Int32)), .val .null, .val (.ref r154)] [(.int (1 : Int32)), (.ref xx)]))
    obtain ⟨T164, h164, X164, e164, W164, st164⟩ := putFN X163 hx hZ hown (own_w hw 30 rfl) Via.refl e163 C_xx E_xx (Or.inr ⟨(own_w hw 26 rfl), rfl, hnm⟩) (own_w hw 10 rfl) (ty := .byte) (v' := .int (1 : Int32)) (by decide) rfl rfl (g := (mkF m 48 #[.val (.ref xx), .val (.ref bb), .val (.int (0 : Int32)), .val (.int (4 : Int32)), .val .null, .val (.ref r154)] [(.int (1 : Int32)), (.ref xx)])) rfl rfl (hb hby d4_48)
    have N164 := Fr.snoc X164 N163 g_xx
    replace C_xx := C_xx.same W164
    refine own_go st164 ?_
    replace E_xx := E_xx.wr W164
    replace V_xx := V_xx.other W164 (Or.inr (slot_ne (Or.inr (own_w hw 25 rfl)) (Or.inr (own_w hw 26 rfl)) (by decide) (t := (.array .byte)) (t' := .byte) (by decide) (by decide)))
    replace V_bb := V_bb.other W164 neb
    replace O0 := O0.wr W164 g_xx
    replace V154 := V154.other W164 (Ne.symm ne155)
    have K165 := K157.wr W164 (Or.inl (by simp))
    refine own_go (fun _ q => XS.aloadN X164.here hx rfl (hb hby d4_51) rfl rfl q) ?_
    refine own_go (fun _ q => XS.aload X164.here hx rfl (hb hby d4_52) rfl rfl q) ?_
    show own_Fin _ _ _ _ (T164.setTop (mkF m 54 #[.val (.ref xx), .val (.ref bb), .val (.int (0 : Int32)), .val (.int (4 : Int32)), .val .null, .val (.ref r154)] [(.ref r154), (.ref xx)]))
    obtain ⟨T166, h166, X166, e166, W166, st166⟩ := putF X164 hx hZ hown (host := "") (Or.inl (own_w hw 29 rfl)) Via.refl e164 V_xx E_xx (Or.inr ⟨(own_w hw 25 rfl), rfl, hnm⟩) (own_w hw 10 rfl) (ty := (.array .byte)) (by decide) rfl rfl (g := (mkF m 54 #[.val (.ref xx), .val (.ref bb), .val (.int (0 : Int32)), .val (.int (4 : Int32)), .val .null, .val (.ref r154)] [(.ref r154), (.ref xx)])) rfl rfl (hb hby d4_54)
    have N166 := Fr.snoc X166 N164 g_xx
    replace V_xx := V_xx.same W166
    refine own_go st166 ?_
    replace E_xx := E_xx.wr W166
    replace C_xx := C_xx.other W166 (Or.inr (slot_ne (Or.inr (own_w hw 26 rfl)) (Or.inr (own_w hw 25 rfl)) (by decide) (t := .byte) (t' := (.array .byte)) (by decide) (by decide)))
    replace V_bb := V_bb.other W166 neb
    replace O0 := O0.wr W166 g_xx
    replace V154 := V154.other W166 (Ne.symm ne155)
    have K167 := K165.wr W166 (Or.inl (by simp))
    show own_Fin _ _ _ _ (T166.setTop (mkF m 57 #[.val (.ref xx), .val (.ref bb), .val (.int (0 : Int32)), .val (.int (4 : Int32)), .val .null, .val (.ref r154)] []))
    refine own_ret0 X166 hx Bd (hb hby d4_57) ?_ (by decide) (by decide)
    show (Q_rm_i4_4 Z xx bb kb ch0 ch1 ch2 ch3 gc h0 n0) none T166.heap _
    rw [e166]
    exact ⟨_, rfl, N166, K167, sz_r154, _, _, _, _, E_xx, V_xx, C_xx, V154, Or.inr ⟨rfl, rfl, rfl, hcd154⟩, hbd, Nat.le_of_ble_eq_true rfl⟩
def Q_rm_i1_2 (Z : State) (xx : Addr) (bb : Addr) (kb : ClassId) (ch0 : Int32) (ch1 : Int32) (gc : Int32) (h0 : Heap) (n0 : Nat) (v : Option Value) (h : Heap) (L : List Loc) : Prop := ∃ t, v = none ∧ Fr n0 L ∧ Keep h0 h [xx] ∧ h0.size ≤ t ∧ own_Str Z h xx t ([ch0, ch1] : List Int32)
theorem ef_rm_i1_2 (m : MethodId) (xx : Addr) (bb : Addr) (ch0 : Int32) (ch1 : Int32) (gc : Int32) : entryFrame m #[(.ref xx), (.ref bb)] 2 = mkF m 0 #[.val (.ref xx), .val (.ref bb)] [] := by first | (simp [entryFrame, mkF, argsToLocals, Value.category]; done) | rfl
set_option maxRecDepth 65536 in
set_option maxHeartbeats 40000000 in
theorem rm_i1_2 (l : Launch) (Z : State) (a0 : Array Value) (hw : ∀ d ∈ tables_1, d.before a0 Z = true) (ws : List Jvm.Cond) (xx : Addr) (bb : Addr) (kb : ClassId) (ch0 : Int32) (ch1 : Int32) (gc : Int32) (h0 : Heap) (n0 : Nat) (Z0 : n0 ≤ h0.size) (E_xx : Exa Z h0 xx "java/lang/String") (V_xx : Fld Z h0 xx "java/lang/String" "value" "[B" .null) (C_xx : Fld Z h0 xx "java/lang/String" "coder" "B" (.int (0 : Int32))) (g_xx : n0 ≤ xx) (V_bb : Arv Z h0 bb kb .char (2 : Int32) [(.int ch0), (.int ch1)] (.int (0 : Int32))) (hbd : ∀ c ∈ ([ch0, ch1] : List Int32), ¬ c < 0 ∧ ¬ (65535 : Int32) < c) (neb : bb ≠ xx) (S_C : Sta Z Z.heap "java/lang/String" "COMPACT_STRINGS" "Z" (.int gc)) (hcs : ¬ gc = 0) (O0 : Old Z n0 h0) (S_A : Sta Z Z.heap "java/lang/StringUTF16" "$assertionsDisabled" "Z" (.int (1 : Int32))) (S_H : Sta Z Z.heap "java/lang/StringUTF16" "HI_BYTE_SHIFT" "I" (.int (0 : Int32))) (S_L : Sta Z Z.heap "java/lang/StringUTF16" "LO_BYTE_SHIFT" "I" (.int (8 : Int32))) :
    MetFree l (⟨"java/lang/String", "<init>", "([C)V"⟩ : MethodName) (head1 (Jvm.Cond.code (⟨"java/lang/String", "<init>", "([C)V"⟩ : MethodName) jdk_42_method_3_code 2 none :: ws) ({ frames := 5, cells := 2, slots := 6, locals := 74 } : Room)) (fun a_ U_ => a_ = #[(.ref xx), (.ref bb)] ∧ Z.Warmed39 U_.vm ∧ U_.heap = h0) (fun _ _ _ _ _ => True) (fun _ U_ o_ V_ => ∃ v_ L_, o_ = .returned v_ ∧ (Q_rm_i1_2 Z xx bb kb ch0 ch1 gc h0 n0) v_ V_.heap L_ ∧ FrameEnd U_ o_ V_ L_ ({ frames := 5, cells := 2, slots := 6, locals := 74 } : Room).cells ({ frames := 5, cells := 2, slots := 6, locals := 74 } : Room).slots) := by
  refine MetFree.of_bodySF (plainFor_of_name pn_0) hisR ?_
  intro p e s m args below meth c s₁ Bd hml0 hP hK
  obtain ⟨rfl, hZ, hh⟩ := hP
  have hx := Bd.exec
  have hby := Bd.bytes
  have hml : c.maxLocals = 2 := hml0
  have hown : s.vm.findClass "java/lang/String" = some m.cls := findClass_of_methodNamed Bd.named
  have hnm := (name_of_methodNamed Bd.named Bd.method).1
  have X0 : Stand p l e ({ frames := 5, cells := 2, slots := 6, locals := 74 } : Room) s m #[(.ref xx), (.ref bb)] below meth c s₁ [] 0 0 := Stand.of_body Bd
  have e0 : s₁.heap = h0 := by rw [← hh, Bd.state]; rfl
  have N0 := Fr.nil n0
  have K0 : Keep h0 h0 [xx] := Keep.refl _ _
  show own_Fin p.tables e below (own_Post (Q_rm_i1_2 Z xx bb kb ch0 ch1 gc h0 n0) ({ frames := 5, cells := 2, slots := 6, locals := 74 } : Room).cells ({ frames := 5, cells := 2, slots := 6, locals := 74 } : Room).slots below s) _
  refine own_go (fun _ q => castTop (ef_rm_i1_2 m xx bb ch0 ch1 gc) q) ?_
  refine own_go (fun _ q => XS.aloadN X0.here hx rfl (hb hby d3_0) rfl rfl q) ?_
  refine own_go (fun _ q => XS.aloadN X0.here hx rfl (hb hby d3_1) rfl rfl q) ?_
  refine own_go (fun _ q => XS.iconst X0.here hx rfl (hb hby d3_2) q) ?_
  refine own_go (fun _ q => XS.aloadN X0.here hx rfl (hb hby d3_3) rfl rfl q) ?_
  show own_Fin _ _ _ _ (s₁.setTop (mkF m 4 #[.val (.ref xx), .val (.ref bb)] [(.ref bb), (.int (0 : Int32)), (.ref bb), (.ref xx)]))
  refine own_go (fun _ q => own_alen X0 hx hZ e0 V_bb (g := (mkF m 4 #[.val (.ref xx), .val (.ref bb)] [(.ref bb), (.int (0 : Int32)), (.ref bb), (.ref xx)])) rfl rfl (hb hby d3_4) _ q) ?_
  refine own_go (fun _ q => XS.aconstNull X0.here hx rfl (hb hby d3_5) q) ?_
  show own_Fin _ _ _ _ (s₁.setTop (mkF m 6 #[.val (.ref xx), .val (.ref bb)] [.null, (.int (2 : Int32)), (.int (0 : Int32)), (.ref bb), (.ref xx)]))
  obtain ⟨_, _, ⟨T168, L168, k168, n168⟩, -, X168, ⟨Lc168, hQ168, l168, y168, z168⟩, st168⟩ := X0.specialBack hx (y := (⟨"java/lang/String", "<init>", "([CIILjava/lang/Void;)V"⟩ : MethodName)) rfl hown (mvT hZ (own_w hw 16 rfl)) (mvT hZ (own_w hw 17 rfl)) (mvT hZ (own_w hw 19 rfl)) (by decide) (backOf (W := 0) (rm_i4_2 l Z a0 hw [] xx bb kb ch0 ch1 gc h0 n0 (Nat.le_trans Z0 K0.1) E_xx V_xx C_xx g_xx V_bb hbd neb S_C hcs O0 S_A S_H S_L) hZ (own_w hw 19 rfl) (own_w hw 11 rfl) (by decide) (by decide)) (g := (mkF m 6 #[.val (.ref xx), .val (.ref bb)] [.null, (.int (2 : Int32)), (.int (0 : Int32)), (.ref bb), (.ref xx)])) rfl (by rw [hml]; rfl) (Steps.refl _) (a := xx) (argsL := [(.ref bb), (.int (0 : Int32)), (.int (2 : Int32)), .null]) (rest := []) (lenOf pd_1 rfl) rfl (by show 2 * 0 + _ ≤ _; exact Nat.le_of_eq rfl) (hb hby d3_6) (fun _ _ => ⟨rfl, e0, (by decide : 0 + 2 ≤ _), (by decide : 0 + 6 ≤ _)⟩)
  dsimp only [Pt.U, Pt.locs, Pt.cells, Pt.slots] at X168 l168 y168 z168 st168 hQ168
  subst l168 y168 z168
  obtain ⟨t168, rfl, N168q, KK168, szt168, SS168⟩ := hQ168
  have N168 := Fr.app N0 N168q
  have sz_t168 : h0.size ≤ t168 := Nat.le_trans K0.1 szt168
  have g_t168 : n0 ≤ t168 := Nat.le_trans Z0 sz_t168
  have ne169 : xx ≠ t168 := Nat.ne_of_lt (Nat.lt_of_lt_of_le E_xx.lt szt168)
  have ne170 : bb ≠ t168 := Nat.ne_of_lt (Nat.lt_of_lt_of_le V_bb.lt szt168)
  replace E_xx := E_xx.keep KK168
  replace V_bb := V_bb.keep KK168 (ninS neb nin0)
  replace O0 := O0.keep KK168 (allS g_xx (all0))
  have K171 := K0.trans KK168 (allS (Or.inl (by simp)) all0)
  refine own_go (fun _ q => st168.trans q) ?_
  show own_Fin _ _ _ _ (T168.setTop (mkF m 9 #[.val (.ref xx), .val (.ref bb)] []))
  refine own_ret0 X168 hx Bd (hb hby d3_9) ?_ (by decide) (by decide)
  show (Q_rm_i1_2 Z xx bb kb ch0 ch1 gc h0 n0) none T168.heap _
  exact ⟨_, rfl, N168, K171, sz_t168, SS168⟩
def Q_rm_i1_3 (Z : State) (xx : Addr) (bb : Addr) (kb : ClassId) (ch0 : Int32) (ch1 : Int32) (ch2 : Int32) (gc : Int32) (h0 : Heap) (n0 : Nat) (v : Option Value) (h : Heap) (L : List Loc) : Prop := ∃ t, v = none ∧ Fr n0 L ∧ Keep h0 h [xx] ∧ h0.size ≤ t ∧ own_Str Z h xx t ([ch0, ch1, ch2] : List Int32)
theorem ef_rm_i1_3 (m : MethodId) (xx : Addr) (bb : Addr) (ch0 : Int32) (ch1 : Int32) (ch2 : Int32) (gc : Int32) : entryFrame m #[(.ref xx), (.ref bb)] 2 = mkF m 0 #[.val (.ref xx), .val (.ref bb)] [] := by first | (simp [entryFrame, mkF, argsToLocals, Value.category]; done) | rfl
set_option maxRecDepth 65536 in
set_option maxHeartbeats 40000000 in
theorem rm_i1_3 (l : Launch) (Z : State) (a0 : Array Value) (hw : ∀ d ∈ tables_1, d.before a0 Z = true) (ws : List Jvm.Cond) (xx : Addr) (bb : Addr) (kb : ClassId) (ch0 : Int32) (ch1 : Int32) (ch2 : Int32) (gc : Int32) (h0 : Heap) (n0 : Nat) (Z0 : n0 ≤ h0.size) (E_xx : Exa Z h0 xx "java/lang/String") (V_xx : Fld Z h0 xx "java/lang/String" "value" "[B" .null) (C_xx : Fld Z h0 xx "java/lang/String" "coder" "B" (.int (0 : Int32))) (g_xx : n0 ≤ xx) (V_bb : Arv Z h0 bb kb .char (3 : Int32) [(.int ch0), (.int ch1), (.int ch2)] (.int (0 : Int32))) (hbd : ∀ c ∈ ([ch0, ch1, ch2] : List Int32), ¬ c < 0 ∧ ¬ (65535 : Int32) < c) (neb : bb ≠ xx) (S_C : Sta Z Z.heap "java/lang/String" "COMPACT_STRINGS" "Z" (.int gc)) (hcs : ¬ gc = 0) (O0 : Old Z n0 h0) (S_A : Sta Z Z.heap "java/lang/StringUTF16" "$assertionsDisabled" "Z" (.int (1 : Int32))) (S_H : Sta Z Z.heap "java/lang/StringUTF16" "HI_BYTE_SHIFT" "I" (.int (0 : Int32))) (S_L : Sta Z Z.heap "java/lang/StringUTF16" "LO_BYTE_SHIFT" "I" (.int (8 : Int32))) :
    MetFree l (⟨"java/lang/String", "<init>", "([C)V"⟩ : MethodName) (head1 (Jvm.Cond.code (⟨"java/lang/String", "<init>", "([C)V"⟩ : MethodName) jdk_42_method_3_code 2 none :: ws) ({ frames := 5, cells := 2, slots := 9, locals := 74 } : Room)) (fun a_ U_ => a_ = #[(.ref xx), (.ref bb)] ∧ Z.Warmed39 U_.vm ∧ U_.heap = h0) (fun _ _ _ _ _ => True) (fun _ U_ o_ V_ => ∃ v_ L_, o_ = .returned v_ ∧ (Q_rm_i1_3 Z xx bb kb ch0 ch1 ch2 gc h0 n0) v_ V_.heap L_ ∧ FrameEnd U_ o_ V_ L_ ({ frames := 5, cells := 2, slots := 9, locals := 74 } : Room).cells ({ frames := 5, cells := 2, slots := 9, locals := 74 } : Room).slots) := by
  refine MetFree.of_bodySF (plainFor_of_name pn_0) hisR ?_
  intro p e s m args below meth c s₁ Bd hml0 hP hK
  obtain ⟨rfl, hZ, hh⟩ := hP
  have hx := Bd.exec
  have hby := Bd.bytes
  have hml : c.maxLocals = 2 := hml0
  have hown : s.vm.findClass "java/lang/String" = some m.cls := findClass_of_methodNamed Bd.named
  have hnm := (name_of_methodNamed Bd.named Bd.method).1
  have X0 : Stand p l e ({ frames := 5, cells := 2, slots := 9, locals := 74 } : Room) s m #[(.ref xx), (.ref bb)] below meth c s₁ [] 0 0 := Stand.of_body Bd
  have e0 : s₁.heap = h0 := by rw [← hh, Bd.state]; rfl
  have N0 := Fr.nil n0
  have K0 : Keep h0 h0 [xx] := Keep.refl _ _
  show own_Fin p.tables e below (own_Post (Q_rm_i1_3 Z xx bb kb ch0 ch1 ch2 gc h0 n0) ({ frames := 5, cells := 2, slots := 9, locals := 74 } : Room).cells ({ frames := 5, cells := 2, slots := 9, locals := 74 } : Room).slots below s) _
  refine own_go (fun _ q => castTop (ef_rm_i1_3 m xx bb ch0 ch1 ch2 gc) q) ?_
  refine own_go (fun _ q => XS.aloadN X0.here hx rfl (hb hby d3_0) rfl rfl q) ?_
  refine own_go (fun _ q => XS.aloadN X0.here hx rfl (hb hby d3_1) rfl rfl q) ?_
  refine own_go (fun _ q => XS.iconst X0.here hx rfl (hb hby d3_2) q) ?_
  refine own_go (fun _ q => XS.aloadN X0.here hx rfl (hb hby d3_3) rfl rfl q) ?_
  show own_Fin _ _ _ _ (s₁.setTop (mkF m 4 #[.val (.ref xx), .val (.ref bb)] [(.ref bb), (.int (0 : Int32)), (.ref bb), (.ref xx)]))
  refine own_go (fun _ q => own_alen X0 hx hZ e0 V_bb (g := (mkF m 4 #[.val (.ref xx), .val (.ref bb)] [(.ref bb), (.int (0 : Int32)), (.ref bb), (.ref xx)])) rfl rfl (hb hby d3_4) _ q) ?_
  refine own_go (fun _ q => XS.aconstNull X0.here hx rfl (hb hby d3_5) q) ?_
  show own_Fin _ _ _ _ (s₁.setTop (mkF m 6 #[.val (.ref xx), .val (.ref bb)] [.null, (.int (3 : Int32)), (.int (0 : Int32)), (.ref bb), (.ref xx)]))
  obtain ⟨_, _, ⟨T172, L172, k172, n172⟩, -, X172, ⟨Lc172, hQ172, l172, y172, z172⟩, st172⟩ := X0.specialBack hx (y := (⟨"java/lang/String", "<init>", "([CIILjava/lang/Void;)V"⟩ : MethodName)) rfl hown (mvT hZ (own_w hw 16 rfl)) (mvT hZ (own_w hw 17 rfl)) (mvT hZ (own_w hw 19 rfl)) (by decide) (backOf (W := 0) (rm_i4_3 l Z a0 hw [] xx bb kb ch0 ch1 ch2 gc h0 n0 (Nat.le_trans Z0 K0.1) E_xx V_xx C_xx g_xx V_bb hbd neb S_C hcs O0 S_A S_H S_L) hZ (own_w hw 19 rfl) (own_w hw 11 rfl) (by decide) (by decide)) (g := (mkF m 6 #[.val (.ref xx), .val (.ref bb)] [.null, (.int (3 : Int32)), (.int (0 : Int32)), (.ref bb), (.ref xx)])) rfl (by rw [hml]; rfl) (Steps.refl _) (a := xx) (argsL := [(.ref bb), (.int (0 : Int32)), (.int (3 : Int32)), .null]) (rest := []) (lenOf pd_1 rfl) rfl (by show 2 * 0 + _ ≤ _; exact Nat.le_of_eq rfl) (hb hby d3_6) (fun _ _ => ⟨rfl, e0, (by decide : 0 + 2 ≤ _), (by decide : 0 + 9 ≤ _)⟩)
  dsimp only [Pt.U, Pt.locs, Pt.cells, Pt.slots] at X172 l172 y172 z172 st172 hQ172
  subst l172 y172 z172
  obtain ⟨t172, rfl, N172q, KK172, szt172, SS172⟩ := hQ172
  have N172 := Fr.app N0 N172q
  have sz_t172 : h0.size ≤ t172 := Nat.le_trans K0.1 szt172
  have g_t172 : n0 ≤ t172 := Nat.le_trans Z0 sz_t172
  have ne173 : xx ≠ t172 := Nat.ne_of_lt (Nat.lt_of_lt_of_le E_xx.lt szt172)
  have ne174 : bb ≠ t172 := Nat.ne_of_lt (Nat.lt_of_lt_of_le V_bb.lt szt172)
  replace E_xx := E_xx.keep KK172
  replace V_bb := V_bb.keep KK172 (ninS neb nin0)
  replace O0 := O0.keep KK172 (allS g_xx (all0))
  have K175 := K0.trans KK172 (allS (Or.inl (by simp)) all0)
  refine own_go (fun _ q => st172.trans q) ?_
  show own_Fin _ _ _ _ (T172.setTop (mkF m 9 #[.val (.ref xx), .val (.ref bb)] []))
  refine own_ret0 X172 hx Bd (hb hby d3_9) ?_ (by decide) (by decide)
  show (Q_rm_i1_3 Z xx bb kb ch0 ch1 ch2 gc h0 n0) none T172.heap _
  exact ⟨_, rfl, N172, K175, sz_t172, SS172⟩
def Q_rm_i1_4 (Z : State) (xx : Addr) (bb : Addr) (kb : ClassId) (ch0 : Int32) (ch1 : Int32) (ch2 : Int32) (ch3 : Int32) (gc : Int32) (h0 : Heap) (n0 : Nat) (v : Option Value) (h : Heap) (L : List Loc) : Prop := ∃ t, v = none ∧ Fr n0 L ∧ Keep h0 h [xx] ∧ h0.size ≤ t ∧ own_Str Z h xx t ([ch0, ch1, ch2, ch3] : List Int32)
theorem ef_rm_i1_4 (m : MethodId) (xx : Addr) (bb : Addr) (ch0 : Int32) (ch1 : Int32) (ch2 : Int32) (ch3 : Int32) (gc : Int32) : entryFrame m #[(.ref xx), (.ref bb)] 2 = mkF m 0 #[.val (.ref xx), .val (.ref bb)] [] := by first | (simp [entryFrame, mkF, argsToLocals, Value.category]; done) | rfl
set_option maxRecDepth 65536 in
set_option maxHeartbeats 40000000 in
theorem rm_i1_4 (l : Launch) (Z : State) (a0 : Array Value) (hw : ∀ d ∈ tables_1, d.before a0 Z = true) (ws : List Jvm.Cond) (xx : Addr) (bb : Addr) (kb : ClassId) (ch0 : Int32) (ch1 : Int32) (ch2 : Int32) (ch3 : Int32) (gc : Int32) (h0 : Heap) (n0 : Nat) (Z0 : n0 ≤ h0.size) (E_xx : Exa Z h0 xx "java/lang/String") (V_xx : Fld Z h0 xx "java/lang/String" "value" "[B" .null) (C_xx : Fld Z h0 xx "java/lang/String" "coder" "B" (.int (0 : Int32))) (g_xx : n0 ≤ xx) (V_bb : Arv Z h0 bb kb .char (4 : Int32) [(.int ch0), (.int ch1), (.int ch2), (.int ch3)] (.int (0 : Int32))) (hbd : ∀ c ∈ ([ch0, ch1, ch2, ch3] : List Int32), ¬ c < 0 ∧ ¬ (65535 : Int32) < c) (neb : bb ≠ xx) (S_C : Sta Z Z.heap "java/lang/String" "COMPACT_STRINGS" "Z" (.int gc)) (hcs : ¬ gc = 0) (O0 : Old Z n0 h0) (S_A : Sta Z Z.heap "java/lang/StringUTF16" "$assertionsDisabled" "Z" (.int (1 : Int32))) (S_H : Sta Z Z.heap "java/lang/StringUTF16" "HI_BYTE_SHIFT" "I" (.int (0 : Int32))) (S_L : Sta Z Z.heap "java/lang/StringUTF16" "LO_BYTE_SHIFT" "I" (.int (8 : Int32))) :
    MetFree l (⟨"java/lang/String", "<init>", "([C)V"⟩ : MethodName) (head1 (Jvm.Cond.code (⟨"java/lang/String", "<init>", "([C)V"⟩ : MethodName) jdk_42_method_3_code 2 none :: ws) ({ frames := 5, cells := 2, slots := 12, locals := 74 } : Room)) (fun a_ U_ => a_ = #[(.ref xx), (.ref bb)] ∧ Z.Warmed39 U_.vm ∧ U_.heap = h0) (fun _ _ _ _ _ => True) (fun _ U_ o_ V_ => ∃ v_ L_, o_ = .returned v_ ∧ (Q_rm_i1_4 Z xx bb kb ch0 ch1 ch2 ch3 gc h0 n0) v_ V_.heap L_ ∧ FrameEnd U_ o_ V_ L_ ({ frames := 5, cells := 2, slots := 12, locals := 74 } : Room).cells ({ frames := 5, cells := 2, slots := 12, locals := 74 } : Room).slots) := by
  refine MetFree.of_bodySF (plainFor_of_name pn_0) hisR ?_
  intro p e s m args below meth c s₁ Bd hml0 hP hK
  obtain ⟨rfl, hZ, hh⟩ := hP
  have hx := Bd.exec
  have hby := Bd.bytes
  have hml : c.maxLocals = 2 := hml0
  have hown : s.vm.findClass "java/lang/String" = some m.cls := findClass_of_methodNamed Bd.named
  have hnm := (name_of_methodNamed Bd.named Bd.method).1
  have X0 : Stand p l e ({ frames := 5, cells := 2, slots := 12, locals := 74 } : Room) s m #[(.ref xx), (.ref bb)] below meth c s₁ [] 0 0 := Stand.of_body Bd
  have e0 : s₁.heap = h0 := by rw [← hh, Bd.state]; rfl
  have N0 := Fr.nil n0
  have K0 : Keep h0 h0 [xx] := Keep.refl _ _
  show own_Fin p.tables e below (own_Post (Q_rm_i1_4 Z xx bb kb ch0 ch1 ch2 ch3 gc h0 n0) ({ frames := 5, cells := 2, slots := 12, locals := 74 } : Room).cells ({ frames := 5, cells := 2, slots := 12, locals := 74 } : Room).slots below s) _
  refine own_go (fun _ q => castTop (ef_rm_i1_4 m xx bb ch0 ch1 ch2 ch3 gc) q) ?_
  refine own_go (fun _ q => XS.aloadN X0.here hx rfl (hb hby d3_0) rfl rfl q) ?_
  refine own_go (fun _ q => XS.aloadN X0.here hx rfl (hb hby d3_1) rfl rfl q) ?_
  refine own_go (fun _ q => XS.iconst X0.here hx rfl (hb hby d3_2) q) ?_
  refine own_go (fun _ q => XS.aloadN X0.here hx rfl (hb hby d3_3) rfl rfl q) ?_
  show own_Fin _ _ _ _ (s₁.setTop (mkF m 4 #[.val (.ref xx), .val (.ref bb)] [(.ref bb), (.int (0 : Int32)), (.ref bb), (.ref xx)]))
  refine own_go (fun _ q => own_alen X0 hx hZ e0 V_bb (g := (mkF m 4 #[.val (.ref xx), .val (.ref bb)] [(.ref bb), (.int (0 : Int32)), (.ref bb), (.ref xx)])) rfl rfl (hb hby d3_4) _ q) ?_
  refine own_go (fun _ q => XS.aconstNull X0.here hx rfl (hb hby d3_5) q) ?_
  show own_Fin _ _ _ _ (s₁.setTop (mkF m 6 #[.val (.ref xx), .val (.ref bb)] [.null, (.int (4 : Int32)), (.int (0 : Int32)), (.ref bb), (.ref xx)]))
  obtain ⟨_, _, ⟨T176, L176, k176, n176⟩, -, X176, ⟨Lc176, hQ176, l176, y176, z176⟩, st176⟩ := X0.specialBack hx (y := (⟨"java/lang/String", "<init>", "([CIILjava/lang/Void;)V"⟩ : MethodName)) rfl hown (mvT hZ (own_w hw 16 rfl)) (mvT hZ (own_w hw 17 rfl)) (mvT hZ (own_w hw 19 rfl)) (by decide) (backOf (W := 0) (rm_i4_4 l Z a0 hw [] xx bb kb ch0 ch1 ch2 ch3 gc h0 n0 (Nat.le_trans Z0 K0.1) E_xx V_xx C_xx g_xx V_bb hbd neb S_C hcs O0 S_A S_H S_L) hZ (own_w hw 19 rfl) (own_w hw 11 rfl) (by decide) (by decide)) (g := (mkF m 6 #[.val (.ref xx), .val (.ref bb)] [.null, (.int (4 : Int32)), (.int (0 : Int32)), (.ref bb), (.ref xx)])) rfl (by rw [hml]; rfl) (Steps.refl _) (a := xx) (argsL := [(.ref bb), (.int (0 : Int32)), (.int (4 : Int32)), .null]) (rest := []) (lenOf pd_1 rfl) rfl (by show 2 * 0 + _ ≤ _; exact Nat.le_of_eq rfl) (hb hby d3_6) (fun _ _ => ⟨rfl, e0, (by decide : 0 + 2 ≤ _), (by decide : 0 + 12 ≤ _)⟩)
  dsimp only [Pt.U, Pt.locs, Pt.cells, Pt.slots] at X176 l176 y176 z176 st176 hQ176
  subst l176 y176 z176
  obtain ⟨t176, rfl, N176q, KK176, szt176, SS176⟩ := hQ176
  have N176 := Fr.app N0 N176q
  have sz_t176 : h0.size ≤ t176 := Nat.le_trans K0.1 szt176
  have g_t176 : n0 ≤ t176 := Nat.le_trans Z0 sz_t176
  have ne177 : xx ≠ t176 := Nat.ne_of_lt (Nat.lt_of_lt_of_le E_xx.lt szt176)
  have ne178 : bb ≠ t176 := Nat.ne_of_lt (Nat.lt_of_lt_of_le V_bb.lt szt176)
  replace E_xx := E_xx.keep KK176
  replace V_bb := V_bb.keep KK176 (ninS neb nin0)
  replace O0 := O0.keep KK176 (allS g_xx (all0))
  have K179 := K0.trans KK176 (allS (Or.inl (by simp)) all0)
  refine own_go (fun _ q => st176.trans q) ?_
  show own_Fin _ _ _ _ (T176.setTop (mkF m 9 #[.val (.ref xx), .val (.ref bb)] []))
  refine own_ret0 X176 hx Bd (hb hby d3_9) ?_ (by decide) (by decide)
  show (Q_rm_i1_4 Z xx bb kb ch0 ch1 ch2 ch3 gc h0 n0) none T176.heap _
  exact ⟨_, rfl, N176, K179, sz_t176, SS176⟩
def Q_rm_can (Z : State) (chx : Int32) (h0 : Heap) (n0 : Nat) (v : Option Value) (h : Heap) (L : List Loc) : Prop := ∃ z : Int32, v = some (.int z) ∧ Fr n0 L ∧ h = h0 ∧ ((z = 1 ∧ ¬ (255 : Int32) < chx) ∨ (z = 0 ∧ (255 : Int32) < chx))
theorem ef_rm_can (m : MethodId) (chx : Int32) : entryFrame m #[(.int chx)] 1 = mkF m 0 #[.val (.int chx)] [] := by first | (simp [entryFrame, mkF, argsToLocals, Value.category]; done) | rfl
set_option maxRecDepth 65536 in
set_option maxHeartbeats 40000000 in
theorem rm_can (l : Launch) (Z : State) (a0 : Array Value) (hw : ∀ d ∈ tables_1, d.before a0 Z = true) (ws : List Jvm.Cond) (chx : Int32) (h0 : Heap) (n0 : Nat) (Z0 : n0 ≤ h0.size) :
    MetFree l (⟨"java/lang/StringLatin1", "canEncode", "(C)Z"⟩ : MethodName) (head1 (Jvm.Cond.code (⟨"java/lang/StringLatin1", "canEncode", "(C)Z"⟩ : MethodName) jdk_43_method_3_code 1 (some .boolean) :: ws) ({ frames := 0, cells := 0, slots := 0, locals := 0 } : Room)) (fun a_ U_ => a_ = #[(.int chx)] ∧ Z.Warmed39 U_.vm ∧ U_.heap = h0) (fun _ _ _ _ _ => True) (fun _ U_ o_ V_ => ∃ v_ L_, o_ = .returned v_ ∧ (Q_rm_can Z chx h0 n0) v_ V_.heap L_ ∧ FrameEnd U_ o_ V_ L_ ({ frames := 0, cells := 0, slots := 0, locals := 0 } : Room).cells ({ frames := 0, cells := 0, slots := 0, locals := 0 } : Room).slots) := by
  refine MetFree.of_bodySF (plainFor_of_name pn_10) hisR ?_
  intro p e s m args below meth c s₁ Bd hml0 hP hK
  obtain ⟨rfl, hZ, hh⟩ := hP
  have hx := Bd.exec
  have hby := Bd.bytes
  have hml : c.maxLocals = 1 := hml0
  have hown : s.vm.findClass "java/lang/StringLatin1" = some m.cls := findClass_of_methodNamed Bd.named
  have hnm := (name_of_methodNamed Bd.named Bd.method).1
  have X0 : Stand p l e ({ frames := 0, cells := 0, slots := 0, locals := 0 } : Room) s m #[(.int chx)] below meth c s₁ [] 0 0 := Stand.of_body Bd
  have e0 : s₁.heap = h0 := by rw [← hh, Bd.state]; rfl
  have N0 := Fr.nil n0
  have K0 : Keep h0 h0 [] := Keep.refl _ _
  show own_Fin p.tables e below (own_Post (Q_rm_can Z chx h0 n0) ({ frames := 0, cells := 0, slots := 0, locals := 0 } : Room).cells ({ frames := 0, cells := 0, slots := 0, locals := 0 } : Room).slots below s) _
  refine own_go (fun _ q => castTop (ef_rm_can m chx) q) ?_
  refine own_go (fun _ q => XS.iloadN X0.here hx rfl (hb hby d25_0) rfl q) ?_
  refine own_go (fun _ q => XS.sipush X0.here hx rfl (hb hby d25_1) q) ?_
  show own_Fin _ _ _ _ (s₁.setTop (mkF m 4 #[.val (.int chx)] [(.int (255 : Int32)), (.int chx)]))
  by_cases hc180 : (255 : Int32) < chx
  · skip
    refine own_go (fun _ q => XS.icmpYes X0.here hx rfl (pc0 := 4) (pc' := 11) rfl (hb hby d25_4) rfl (tlt hc180).2.2.1 (by decide) (by decide) q) ?_
    refine own_go (fun _ q => XS.iconst X0.here hx rfl (hb hby d25_11) q) ?_
    show own_Fin _ _ _ _ (s₁.setTop (mkF m 12 #[.val (.int chx)] [(.int (0 : Int32))]))
    refine own_retI X0 hx Bd (t := .boolean) Bd.returns rfl (by simp) (hb hby d25_12) ?_ (by decide) (by decide)
    show (Q_rm_can Z chx h0 n0) (some (.int (0 : Int32))) s₁.heap _
    rw [e0]
    exact ⟨_, rfl, N0, rfl, Or.inr ⟨rfl, hc180⟩⟩
  · skip
    refine own_go (fun _ q => XS.icmpNo X0.here hx rfl (hb hby d25_4) rfl (flt hc180).2.2.1 q) ?_
    refine own_go (fun _ q => XS.iconst X0.here hx rfl (hb hby d25_7) q) ?_
    refine own_go (fun _ q => XS.goto X0.here hx rfl (pc0 := 8) (pc' := 12) rfl (hb hby d25_8) (by decide) (by decide) q) ?_
    show own_Fin _ _ _ _ (s₁.setTop (mkF m 12 #[.val (.int chx)] [(.int (1 : Int32))]))
    refine own_retI X0 hx Bd (t := .boolean) Bd.returns rfl (by simp) (hb hby d25_12) ?_ (by decide) (by decide)
    show (Q_rm_can Z chx h0 n0) (some (.int (1 : Int32))) s₁.heap _
    rw [e0]
    exact ⟨_, rfl, N0, rfl, Or.inl ⟨rfl, hc180⟩⟩
def Q_rm_tbl (Z : State) (chx : Int32) (h0 : Heap) (n0 : Nat) (v : Option Value) (h : Heap) (L : List Loc) : Prop := ∃ (r : Addr) (k : ClassId), v = some (.ref r) ∧ Fr n0 L ∧ Keep h0 h [] ∧ h0.size ≤ r ∧ Arv Z h r k .byte (1 : Int32) [(.int (chx.toInt8.toInt32))] (.int (0 : Int32))
theorem ef_rm_tbl (m : MethodId) (chx : Int32) : entryFrame m #[(.int chx)] 1 = mkF m 0 #[.val (.int chx)] [] := by first | (simp [entryFrame, mkF, argsToLocals, Value.category]; done) | rfl
set_option maxRecDepth 65536 in
set_option maxHeartbeats 40000000 in
theorem rm_tbl (l : Launch) (Z : State) (a0 : Array Value) (hw : ∀ d ∈ tables_1, d.before a0 Z = true) (ws : List Jvm.Cond) (chx : Int32) (h0 : Heap) (n0 : Nat) (Z0 : n0 ≤ h0.size) :
    MetFree l (⟨"java/lang/StringLatin1", "toBytes", "(C)[B"⟩ : MethodName) (head1 (Jvm.Cond.code (⟨"java/lang/StringLatin1", "toBytes", "(C)[B"⟩ : MethodName) jdk_43_method_46_code 1 (some (.array .byte)) :: ws) ({ frames := 0, cells := 1, slots := 1, locals := 0 } : Room)) (fun a_ U_ => a_ = #[(.int chx)] ∧ Z.Warmed39 U_.vm ∧ U_.heap = h0) (fun _ _ _ _ _ => True) (fun _ U_ o_ V_ => ∃ v_ L_, o_ = .returned v_ ∧ (Q_rm_tbl Z chx h0 n0) v_ V_.heap L_ ∧ FrameEnd U_ o_ V_ L_ ({ frames := 0, cells := 1, slots := 1, locals := 0 } : Room).cells ({ frames := 0, cells := 1, slots := 1, locals := 0 } : Room).slots) := by
  refine MetFree.of_bodySF (plainFor_of_name pn_10) hisR ?_
  intro p e s m args below meth c s₁ Bd hml0 hP hK
  obtain ⟨rfl, hZ, hh⟩ := hP
  have hx := Bd.exec
  have hby := Bd.bytes
  have hml : c.maxLocals = 1 := hml0
  have hown : s.vm.findClass "java/lang/StringLatin1" = some m.cls := findClass_of_methodNamed Bd.named
  have hnm := (name_of_methodNamed Bd.named Bd.method).1
  have X0 : Stand p l e ({ frames := 0, cells := 1, slots := 1, locals := 0 } : Room) s m #[(.int chx)] below meth c s₁ [] 0 0 := Stand.of_body Bd
  have e0 : s₁.heap = h0 := by rw [← hh, Bd.state]; rfl
  have N0 := Fr.nil n0
  have K0 : Keep h0 h0 [] := Keep.refl _ _
  show own_Fin p.tables e below (own_Post (Q_rm_tbl Z chx h0 n0) ({ frames := 0, cells := 1, slots := 1, locals := 0 } : Room).cells ({ frames := 0, cells := 1, slots := 1, locals := 0 } : Room).slots below s) _
  refine own_go (fun _ q => castTop (ef_rm_tbl m chx) q) ?_
  refine own_go (fun _ q => XS.iconst X0.here hx rfl (hb hby d26_0) q) ?_
  show own_Fin _ _ _ _ (s₁.setTop (mkF m 1 #[.val (.int chx)] [(.int (1 : Int32))]))
  obtain ⟨T181, h181, k181, X181, e181, E181, A181, st181⟩ := newP X0 hx hZ (own_w hw 24 rfl) e0 (g := (mkF m 1 #[.val (.int chx)] [(.int (1 : Int32))])) rfl (hb hby d26_1) rfl (by decide) (cap := 1) (by decide) (by decide) (by decide) (by decide)
  obtain ⟨b181, g181⟩ : ∃ z, z = h0.size := ⟨_, rfl⟩
  rw [← g181] at A181 st181
  have sz_b181 : h0.size ≤ b181 := Nat.le_trans K0.1 (Nat.le_of_eq g181.symm)
  have g_b181 : n0 ≤ b181 := Nat.le_trans Z0 sz_b181
  have K182 := K0.ext E181
  have V181 : Arv Z h181 b181 k181 .byte (1 : Int32) [(.int (0 : Int32))] (.int (0 : Int32)) := (Arv.new A181 (by decide)).pad (pad_rep [] (.int (0 : Int32)) 1)
  refine own_go st181 ?_
  refine own_go (fun _ q => XS.dup X181.here hx rfl (hb hby d26_3) rfl rfl q) ?_
  refine own_go (fun _ q => XS.iconst X181.here hx rfl (hb hby d26_4) q) ?_
  refine own_go (fun _ q => XS.iloadN X181.here hx rfl (hb hby d26_5) rfl q) ?_
  show own_Fin _ _ _ _ (T181.setTop (mkF m 6 #[.val (.int chx)] [(.int chx), (.int (0 : Int32)), (.ref b181), (.ref b181)]))
  refine own_go (fun _ q => XS.i2b X181.here hx rfl (hb hby d26_6) rfl q) ?_
  show own_Fin _ _ _ _ (T181.setTop (mkF m 7 #[.val (.int chx)] [(.int (chx.toInt8.toInt32)), (.int (0 : Int32)), (.ref b181), (.ref b181)]))
  obtain ⟨T183, h183, X183, e183, W183, V183, st183⟩ := own_stB X181 hx hZ e181 V181 (by decide) (i := 0) rfl (Nat.le_of_ble_eq_true rfl) (g := (mkF m 7 #[.val (.int chx)] [(.int (chx.toInt8.toInt32)), (.int (0 : Int32)), (.ref b181), (.ref b181)])) rfl rfl (hb hby d26_7)
  rw [own_b8] at V183
  replace V181 : Arv Z h183 b181 k181 .byte (1 : Int32) [(.int (chx.toInt8.toInt32))] (.int (0 : Int32)) := V183
  have N183 := Fr.snoc X183 N0 g_b181
  refine own_go st183 ?_
  have K184 := K182.wr W183 (Or.inr sz_b181)
  show own_Fin _ _ _ _ (T183.setTop (mkF m 8 #[.val (.int chx)] [(.ref b181)]))
  refine own_retA X183 hx Bd (t := (.array .byte)) Bd.returns rfl rfl rfl (hb hby d26_8) ?_ (by decide) (by decide)
  show (Q_rm_tbl Z chx h0 n0) (some (.ref b181)) T183.heap _
  rw [e183]
  exact ⟨_, _, rfl, N183, K184, sz_b181, V181⟩
def Q_rm_tbu (Z : State) (chx : Int32) (h0 : Heap) (n0 : Nat) (v : Option Value) (h : Heap) (L : List Loc) : Prop := ∃ (r : Addr) (k : ClassId), v = some (.ref r) ∧ Fr n0 L ∧ Keep h0 h [] ∧ h0.size ≤ r ∧ Arv Z h r k .byte (2 : Int32) [(.int (chx.toInt8.toInt32)), (.int ((chx >>> ((8 : Int32) &&& 31)).toInt8.toInt32))] (.int (0 : Int32))
theorem ef_rm_tbu (m : MethodId) (chx : Int32) : entryFrame m #[(.int chx)] 2 = mkF m 0 #[.val (.int chx), .unset] [] := by first | (simp [entryFrame, mkF, argsToLocals, Value.category]; done) | rfl
set_option maxRecDepth 65536 in
set_option maxHeartbeats 40000000 in
theorem rm_tbu (l : Launch) (Z : State) (a0 : Array Value) (hw : ∀ d ∈ tables_1, d.before a0 Z = true) (ws : List Jvm.Cond) (chx : Int32) (h0 : Heap) (n0 : Nat) (Z0 : n0 ≤ h0.size) (O0 : Old Z n0 h0) (S_A : Sta Z Z.heap "java/lang/StringUTF16" "$assertionsDisabled" "Z" (.int (1 : Int32))) (S_H : Sta Z Z.heap "java/lang/StringUTF16" "HI_BYTE_SHIFT" "I" (.int (0 : Int32))) (S_L : Sta Z Z.heap "java/lang/StringUTF16" "LO_BYTE_SHIFT" "I" (.int (8 : Int32))) :
    MetFree l (⟨"java/lang/StringUTF16", "toBytes", "(C)[B"⟩ : MethodName) (head1 (Jvm.Cond.code (⟨"java/lang/StringUTF16", "toBytes", "(C)[B"⟩ : MethodName) jdk_52_method_24_code 2 (some (.array .byte)) :: ws) ({ frames := 1, cells := 1, slots := 2, locals := 14 } : Room)) (fun a_ U_ => a_ = #[(.int chx)] ∧ Z.Warmed39 U_.vm ∧ U_.heap = h0) (fun _ _ _ _ _ => True) (fun _ U_ o_ V_ => ∃ v_ L_, o_ = .returned v_ ∧ (Q_rm_tbu Z chx h0 n0) v_ V_.heap L_ ∧ FrameEnd U_ o_ V_ L_ ({ frames := 1, cells := 1, slots := 2, locals := 14 } : Room).cells ({ frames := 1, cells := 1, slots := 2, locals := 14 } : Room).slots) := by
  refine MetFree.of_bodySF (plainFor_of_name pn_2) hisR ?_
  intro p e s m args below meth c s₁ Bd hml0 hP hK
  obtain ⟨rfl, hZ, hh⟩ := hP
  have hx := Bd.exec
  have hby := Bd.bytes
  have hml : c.maxLocals = 2 := hml0
  have hown : s.vm.findClass "java/lang/StringUTF16" = some m.cls := findClass_of_methodNamed Bd.named
  have hnm := (name_of_methodNamed Bd.named Bd.method).1
  have X0 : Stand p l e ({ frames := 1, cells := 1, slots := 2, locals := 14 } : Room) s m #[(.int chx)] below meth c s₁ [] 0 0 := Stand.of_body Bd
  have e0 : s₁.heap = h0 := by rw [← hh, Bd.state]; rfl
  have N0 := Fr.nil n0
  have K0 : Keep h0 h0 [] := Keep.refl _ _
  show own_Fin p.tables e below (own_Post (Q_rm_tbu Z chx h0 n0) ({ frames := 1, cells := 1, slots := 2, locals := 14 } : Room).cells ({ frames := 1, cells := 1, slots := 2, locals := 14 } : Room).slots below s) _
  refine own_go (fun _ q => castTop (ef_rm_tbu m chx) q) ?_
  refine own_go (fun _ q => XS.iconst X0.here hx rfl (hb hby d40_0) q) ?_
  show own_Fin _ _ _ _ (s₁.setTop (mkF m 1 #[.val (.int chx), .unset] [(.int (2 : Int32))]))
  obtain ⟨T185, h185, k185, X185, e185, E185, A185, st185⟩ := newP X0 hx hZ (own_w hw 24 rfl) e0 (g := (mkF m 1 #[.val (.int chx), .unset] [(.int (2 : Int32))])) rfl (hb hby d40_1) rfl (by decide) (cap := 2) (by decide) (by decide) (by decide) (by decide)
  obtain ⟨b185, g185⟩ : ∃ z, z = h0.size := ⟨_, rfl⟩
  rw [← g185] at A185 st185
  have sz_b185 : h0.size ≤ b185 := Nat.le_trans K0.1 (Nat.le_of_eq g185.symm)
  have g_b185 : n0 ≤ b185 := Nat.le_trans Z0 sz_b185
  replace O0 := O0.ext E185
  have K186 := K0.ext E185
  have V185 : Arv Z h185 b185 k185 .byte (2 : Int32) [(.int (0 : Int32)), (.int (0 : Int32))] (.int (0 : Int32)) := (Arv.new A185 (by decide)).pad (pad_rep [] (.int (0 : Int32)) 2)
  refine own_go st185 ?_
  refine own_go (fun _ q => XS.astoreN X185.here hx rfl (hb hby d40_3) rfl rfl (l' := #[.val (.int chx), .val (.ref b185)]) rfl q) ?_
  refine own_go (fun _ q => XS.aloadN X185.here hx rfl (hb hby d40_4) rfl rfl q) ?_
  refine own_go (fun _ q => XS.iconst X185.here hx rfl (hb hby d40_5) q) ?_
  refine own_go (fun _ q => XS.iloadN X185.here hx rfl (hb hby d40_6) rfl q) ?_
  show own_Fin _ _ _ _ (T185.setTop (mkF m 7 #[.val (.int chx), .val (.ref b185)] [(.int chx), (.int (0 : Int32)), (.ref b185)]))
  obtain ⟨_, _, ⟨T187, L187, k187, n187⟩, -, X187, ⟨Lc187, hQ187, l187, y187, z187⟩, st187⟩ := Jvm.LawKit.callS X185 hx (y := (⟨"java/lang/StringUTF16", "putChar", "([BII)V"⟩ : MethodName)) hown (mvT hZ (own_w hw 129 rfl)) (mvT hZ (own_w hw 130 rfl)) (mvT hZ (own_w hw 43 rfl)) (mvT hZ (own_w hw 131 rfl)) (by decide) (backOf (W := 0) (rm_pc l Z a0 hw [] b185 k185 (0 : Int32) chx (2 : Int32) [(.int (0 : Int32)), (.int (0 : Int32))] 0 1 h185 n0 (Nat.le_trans Z0 K186.1) V185 g_b185 (by decide) (by decide) rfl rfl (Nat.le_of_ble_eq_true rfl) (Nat.le_of_ble_eq_true rfl) O0 S_A S_H S_L) hZ (own_w hw 131 rfl) (own_w hw 43 rfl) (by decide) (by decide)) (g := (mkF m 7 #[.val (.int chx), .val (.ref b185)] [(.int chx), (.int (0 : Int32)), (.ref b185)])) rfl (by rw [hml]; rfl) (argsL := [(.ref b185), (.int (0 : Int32)), (.int chx)]) (rest := []) (lenOf pd_5 rfl) rfl (by show 2 * 0 + _ ≤ _; exact Nat.le_of_eq rfl) (hb hby d40_7) (fun _ _ => ⟨rfl, e185, (by decide : 1 + 0 ≤ _), (by decide : 2 + 0 ≤ _)⟩)
  dsimp only [Pt.U, Pt.locs, Pt.cells, Pt.slots] at X187 l187 y187 z187 st187 hQ187
  subst l187 y187 z187
  obtain ⟨rfl, N187q, KK187, V187⟩ := hQ187
  replace V187 : Arv Z _ b185 k185 .byte (2 : Int32) [(.int (chx.toInt8.toInt32)), (.int ((chx >>> ((8 : Int32) &&& 31)).toInt8.toInt32))] (.int (0 : Int32)) := V187
  have N187 := Fr.app N0 N187q
  replace O0 := O0.keep KK187 (allS g_b185 (all0))
  have K188 := K186.trans KK187 (allS (Or.inr sz_b185) all0)
  refine own_go st187 ?_
  refine own_go (fun _ q => XS.aloadN X187.here hx rfl (hb hby d40_10) rfl rfl q) ?_
  show own_Fin _ _ _ _ (T187.setTop (mkF m 11 #[.val (.int chx), .val (.ref b185)] [(.ref b185)]))
  refine own_retA X187 hx Bd (t := (.array .byte)) Bd.returns rfl rfl rfl (hb hby d40_11) ?_ (by decide) (by decide)
  show (Q_rm_tbu Z chx h0 n0) (some (.ref b185)) T187.heap _
  exact ⟨_, _, rfl, N187, K188, sz_b185, V187⟩
def Q_rm_ibb0 (Z : State) (xx : Addr) (bb : Addr) (h0 : Heap) (n0 : Nat) (v : Option Value) (h : Heap) (L : List Loc) : Prop := v = none ∧ Fr n0 L ∧ Keep h0 h [xx] ∧ Fld Z h xx "java/lang/String" "value" "[B" (.ref bb) ∧ Fld Z h xx "java/lang/String" "coder" "B" (.int (0 : Int32))
theorem ef_rm_ibb0 (m : MethodId) (xx : Addr) (bb : Addr) : entryFrame m #[(.ref xx), (.ref bb), (.int (0 : Int32))] 3 = mkF m 0 #[.val (.ref xx), .val (.ref bb), .val (.int (0 : Int32))] [] := by first | (simp [entryFrame, mkF, argsToLocals, Value.category]; done) | rfl
set_option maxRecDepth 65536 in
set_option maxHeartbeats 40000000 in
theorem rm_ibb0 (l : Launch) (Z : State) (a0 : Array Value) (hw : ∀ d ∈ tables_1, d.before a0 Z = true) (ws : List Jvm.Cond) (xx : Addr) (bb : Addr) (h0 : Heap) (n0 : Nat) (Z0 : n0 ≤ h0.size) (E_xx : Exa Z h0 xx "java/lang/String") (V_xx : Fld Z h0 xx "java/lang/String" "value" "[B" .null) (C_xx : Fld Z h0 xx "java/lang/String" "coder" "B" (.int (0 : Int32))) (g_xx : n0 ≤ xx) :
    MetFree l (⟨"java/lang/String", "<init>", "([BB)V"⟩ : MethodName) (head1 (Jvm.Cond.code (⟨"java/lang/String", "<init>", "([BB)V"⟩ : MethodName) jdk_42_method_151_code 3 none :: ws) ({ frames := 1, cells := 0, slots := 0, locals := 12 } : Room)) (fun a_ U_ => a_ = #[(.ref xx), (.ref bb), (.int (0 : Int32))] ∧ Z.Warmed39 U_.vm ∧ U_.heap = h0) (fun _ _ _ _ _ => True) (fun _ U_ o_ V_ => ∃ v_ L_, o_ = .returned v_ ∧ (Q_rm_ibb0 Z xx bb h0 n0) v_ V_.heap L_ ∧ FrameEnd U_ o_ V_ L_ ({ frames := 1, cells := 0, slots := 0, locals := 12 } : Room).cells ({ frames := 1, cells := 0, slots := 0, locals := 12 } : Room).slots) := by
  refine MetFree.of_bodySF (plainFor_of_name pn_0) hisR ?_
  intro p e s m args below meth c s₁ Bd hml0 hP hK
  obtain ⟨rfl, hZ, hh⟩ := hP
  have hx := Bd.exec
  have hby := Bd.bytes
  have hml : c.maxLocals = 3 := hml0
  have hown : s.vm.findClass "java/lang/String" = some m.cls := findClass_of_methodNamed Bd.named
  have hnm := (name_of_methodNamed Bd.named Bd.method).1
  have X0 : Stand p l e ({ frames := 1, cells := 0, slots := 0, locals := 12 } : Room) s m #[(.ref xx), (.ref bb), (.int (0 : Int32))] below meth c s₁ [] 0 0 := Stand.of_body Bd
  have e0 : s₁.heap = h0 := by rw [← hh, Bd.state]; rfl
  have N0 := Fr.nil n0
  have K0 : Keep h0 h0 [xx] := Keep.refl _ _
  show own_Fin p.tables e below (own_Post (Q_rm_ibb0 Z xx bb h0 n0) ({ frames := 1, cells := 0, slots := 0, locals := 12 } : Room).cells ({ frames := 1, cells := 0, slots := 0, locals := 12 } : Room).slots below s) _
  refine own_go (fun _ q => castTop (ef_rm_ibb0 m xx bb) q) ?_
  refine own_go (fun _ q => XS.aloadN X0.here hx rfl (hb hby d27_0) rfl rfl q) ?_
  show own_Fin _ _ _ _ (s₁.setTop (mkF m 1 #[.val (.ref xx), .val (.ref bb), .val (.int (0 : Int32))] [(.ref xx)]))
  obtain ⟨T189, X189, e189, st189⟩ := initO X0 hx hZ hown (own_w hw 20 rfl) (own_w hw 21 rfl) (own_w hw 22 rfl) e0 (g := (mkF m 1 #[.val (.ref xx), .val (.ref bb), .val (.int (0 : Int32))] [(.ref xx)])) rfl (by rw [hml]; rfl) rfl (hb hby d27_1) (by decide) (W := 0) (by show 2 * 0 + _ ≤ _; exact Nat.le_of_eq rfl) (by decide)
  refine own_go st189 ?_
  refine own_go (fun _ q => XS.aloadN X189.here hx rfl (hb hby d27_4) rfl rfl q) ?_
  refine own_go (fun _ q => XS.aloadN X189.here hx rfl (hb hby d27_5) rfl rfl q) ?_
  show own_Fin _ _ _ _ (T189.setTop (mkF m 6 #[.val (.ref xx), .val (.ref bb), .val (.int (0 : Int32))] [(.ref bb), (.ref xx)]))
  obtain ⟨T190, h190, X190, e190, W190, st190⟩ := putF X189 hx hZ hown (host := "") (Or.inl (own_w hw 29 rfl)) Via.refl e189 V_xx E_xx (Or.inr ⟨(own_w hw 25 rfl), rfl, hnm⟩) (own_w hw 10 rfl) (ty := (.array .byte)) (by decide) rfl rfl (g := (mkF m 6 #[.val (.ref xx), .val (.ref bb), .val (.int (0 : Int32))] [(.ref bb), (.ref xx)])) rfl rfl (hb hby d27_6)
  have N190 := Fr.snoc X190 N0 g_xx
  replace V_xx := V_xx.same W190
  refine own_go st190 ?_
  replace E_xx := E_xx.wr W190
  replace C_xx := C_xx.other W190 (Or.inr (slot_ne (Or.inr (own_w hw 26 rfl)) (Or.inr (own_w hw 25 rfl)) (by decide) (t := .byte) (t' := (.array .byte)) (by decide) (by decide)))
  have K191 := K0.wr W190 (Or.inl (by simp))
  refine own_go (fun _ q => XS.aloadN X190.here hx rfl (hb hby d27_9) rfl rfl q) ?_
  refine own_go (fun _ q => XS.iloadN X190.here hx rfl (hb hby d27_10) rfl q) ?_
  show own_Fin _ _ _ _ (T190.setTop (mkF m 11 #[.val (.ref xx), .val (.ref bb), .val (.int (0 : Int32))] [(.int (0 : Int32)), (.ref xx)]))
  obtain ⟨T192, h192, X192, e192, W192, st192⟩ := putFN X190 hx hZ hown (own_w hw 30 rfl) Via.refl e190 C_xx E_xx (Or.inr ⟨(own_w hw 26 rfl), rfl, hnm⟩) (own_w hw 10 rfl) (ty := .byte) (v' := .int (0 : Int32)) (by decide) rfl rfl (g := (mkF m 11 #[.val (.ref xx), .val (.ref bb), .val (.int (0 : Int32))] [(.int (0 : Int32)), (.ref xx)])) rfl rfl (hb hby d27_11)
  have N192 := Fr.snoc X192 N190 g_xx
  replace C_xx := C_xx.same W192
  refine own_go st192 ?_
  replace E_xx := E_xx.wr W192
  replace V_xx := V_xx.other W192 (Or.inr (slot_ne (Or.inr (own_w hw 25 rfl)) (Or.inr (own_w hw 26 rfl)) (by decide) (t := (.array .byte)) (t' := .byte) (by decide) (by decide)))
  have K193 := K191.wr W192 (Or.inl (by simp))
  show own_Fin _ _ _ _ (T192.setTop (mkF m 14 #[.val (.ref xx), .val (.ref bb), .val (.int (0 : Int32))] []))
  refine own_ret0 X192 hx Bd (hb hby d27_14) ?_ (by decide) (by decide)
  show (Q_rm_ibb0 Z xx bb h0 n0) none T192.heap _
  rw [e192]
  exact ⟨rfl, N192, K193, V_xx, C_xx⟩
def Q_rm_ibb1 (Z : State) (xx : Addr) (bb : Addr) (h0 : Heap) (n0 : Nat) (v : Option Value) (h : Heap) (L : List Loc) : Prop := v = none ∧ Fr n0 L ∧ Keep h0 h [xx] ∧ Fld Z h xx "java/lang/String" "value" "[B" (.ref bb) ∧ Fld Z h xx "java/lang/String" "coder" "B" (.int (1 : Int32))
theorem ef_rm_ibb1 (m : MethodId) (xx : Addr) (bb : Addr) : entryFrame m #[(.ref xx), (.ref bb), (.int (1 : Int32))] 3 = mkF m 0 #[.val (.ref xx), .val (.ref bb), .val (.int (1 : Int32))] [] := by first | (simp [entryFrame, mkF, argsToLocals, Value.category]; done) | rfl
set_option maxRecDepth 65536 in
set_option maxHeartbeats 40000000 in
theorem rm_ibb1 (l : Launch) (Z : State) (a0 : Array Value) (hw : ∀ d ∈ tables_1, d.before a0 Z = true) (ws : List Jvm.Cond) (xx : Addr) (bb : Addr) (h0 : Heap) (n0 : Nat) (Z0 : n0 ≤ h0.size) (E_xx : Exa Z h0 xx "java/lang/String") (V_xx : Fld Z h0 xx "java/lang/String" "value" "[B" .null) (C_xx : Fld Z h0 xx "java/lang/String" "coder" "B" (.int (0 : Int32))) (g_xx : n0 ≤ xx) :
    MetFree l (⟨"java/lang/String", "<init>", "([BB)V"⟩ : MethodName) (head1 (Jvm.Cond.code (⟨"java/lang/String", "<init>", "([BB)V"⟩ : MethodName) jdk_42_method_151_code 3 none :: ws) ({ frames := 1, cells := 0, slots := 0, locals := 12 } : Room)) (fun a_ U_ => a_ = #[(.ref xx), (.ref bb), (.int (1 : Int32))] ∧ Z.Warmed39 U_.vm ∧ U_.heap = h0) (fun _ _ _ _ _ => True) (fun _ U_ o_ V_ => ∃ v_ L_, o_ = .returned v_ ∧ (Q_rm_ibb1 Z xx bb h0 n0) v_ V_.heap L_ ∧ FrameEnd U_ o_ V_ L_ ({ frames := 1, cells := 0, slots := 0, locals := 12 } : Room).cells ({ frames := 1, cells := 0, slots := 0, locals := 12 } : Room).slots) := by
  refine MetFree.of_bodySF (plainFor_of_name pn_0) hisR ?_
  intro p e s m args below meth c s₁ Bd hml0 hP hK
  obtain ⟨rfl, hZ, hh⟩ := hP
  have hx := Bd.exec
  have hby := Bd.bytes
  have hml : c.maxLocals = 3 := hml0
  have hown : s.vm.findClass "java/lang/String" = some m.cls := findClass_of_methodNamed Bd.named
  have hnm := (name_of_methodNamed Bd.named Bd.method).1
  have X0 : Stand p l e ({ frames := 1, cells := 0, slots := 0, locals := 12 } : Room) s m #[(.ref xx), (.ref bb), (.int (1 : Int32))] below meth c s₁ [] 0 0 := Stand.of_body Bd
  have e0 : s₁.heap = h0 := by rw [← hh, Bd.state]; rfl
  have N0 := Fr.nil n0
  have K0 : Keep h0 h0 [xx] := Keep.refl _ _
  show own_Fin p.tables e below (own_Post (Q_rm_ibb1 Z xx bb h0 n0) ({ frames := 1, cells := 0, slots := 0, locals := 12 } : Room).cells ({ frames := 1, cells := 0, slots := 0, locals := 12 } : Room).slots below s) _
  refine own_go (fun _ q => castTop (ef_rm_ibb1 m xx bb) q) ?_
  refine own_go (fun _ q => XS.aloadN X0.here hx rfl (hb hby d27_0) rfl rfl q) ?_
  show own_Fin _ _ _ _ (s₁.setTop (mkF m 1 #[.val (.ref xx), .val (.ref bb), .val (.int (1 : Int32))] [(.ref xx)]))
  obtain ⟨T194, X194, e194, st194⟩ := initO X0 hx hZ hown (own_w hw 20 rfl) (own_w hw 21 rfl) (own_w hw 22 rfl) e0 (g := (mkF m 1 #[.val (.ref xx), .val (.ref bb), .val (.int (1 : Int32))] [(.ref xx)])) rfl (by rw [hml]; rfl) rfl (hb hby d27_1) (by decide) (W := 0) (by show 2 * 0 + _ ≤ _; exact Nat.le_of_eq rfl) (by decide)
  refine own_go st194 ?_
  refine own_go (fun _ q => XS.aloadN X194.here hx rfl (hb hby d27_4) rfl rfl q) ?_
  refine own_go (fun _ q => XS.aloadN X194.here hx rfl (hb hby d27_5) rfl rfl q) ?_
  show own_Fin _ _ _ _ (T194.setTop (mkF m 6 #[.val (.ref xx), .val (.ref bb), .val (.int (1 : Int32))] [(.ref bb), (.ref xx)]))
  obtain ⟨T195, h195, X195, e195, W195, st195⟩ := putF X194 hx hZ hown (host := "") (Or.inl (own_w hw 29 rfl)) Via.refl e194 V_xx E_xx (Or.inr ⟨(own_w hw 25 rfl), rfl, hnm⟩) (own_w hw 10 rfl) (ty := (.array .byte)) (by decide) rfl rfl (g := (mkF m 6 #[.val (.ref xx), .val (.ref bb), .val (.int (1 : Int32))] [(.ref bb), (.ref xx)])) rfl rfl (hb hby d27_6)
  have N195 := Fr.snoc X195 N0 g_xx
  replace V_xx := V_xx.same W195
  refine own_go st195 ?_
  replace E_xx := E_xx.wr W195
  replace C_xx := C_xx.other W195 (Or.inr (slot_ne (Or.inr (own_w hw 26 rfl)) (Or.inr (own_w hw 25 rfl)) (by decide) (t := .byte) (t' := (.array .byte)) (by decide) (by decide)))
  have K196 := K0.wr W195 (Or.inl (by simp))
  refine own_go (fun _ q => XS.aloadN X195.here hx rfl (hb hby d27_9) rfl rfl q) ?_
  refine own_go (fun _ q => XS.iloadN X195.here hx rfl (hb hby d27_10) rfl q) ?_
  show own_Fin _ _ _ _ (T195.setTop (mkF m 11 #[.val (.ref xx), .val (.ref bb), .val (.int (1 : Int32))] [(.int (1 : Int32)), (.ref xx)]))
  obtain ⟨T197, h197, X197, e197, W197, st197⟩ := putFN X195 hx hZ hown (own_w hw 30 rfl) Via.refl e195 C_xx E_xx (Or.inr ⟨(own_w hw 26 rfl), rfl, hnm⟩) (own_w hw 10 rfl) (ty := .byte) (v' := .int (1 : Int32)) (by decide) rfl rfl (g := (mkF m 11 #[.val (.ref xx), .val (.ref bb), .val (.int (1 : Int32))] [(.int (1 : Int32)), (.ref xx)])) rfl rfl (hb hby d27_11)
  have N197 := Fr.snoc X197 N195 g_xx
  replace C_xx := C_xx.same W197
  refine own_go st197 ?_
  replace E_xx := E_xx.wr W197
  replace V_xx := V_xx.other W197 (Or.inr (slot_ne (Or.inr (own_w hw 25 rfl)) (Or.inr (own_w hw 26 rfl)) (by decide) (t := (.array .byte)) (t' := .byte) (by decide) (by decide)))
  have K198 := K196.wr W197 (Or.inl (by simp))
  show own_Fin _ _ _ _ (T197.setTop (mkF m 14 #[.val (.ref xx), .val (.ref bb), .val (.int (1 : Int32))] []))
  refine own_ret0 X197 hx Bd (hb hby d27_14) ?_ (by decide) (by decide)
  show (Q_rm_ibb1 Z xx bb h0 n0) none T197.heap _
  rw [e197]
  exact ⟨rfl, N197, K198, V_xx, C_xx⟩
def Q_rm_vo (Z : State) (chx : Int32) (gc : Int32) (h0 : Heap) (n0 : Nat) (v : Option Value) (h : Heap) (L : List Loc) : Prop := ∃ xr tr : Addr, v = some (.ref xr) ∧ Fr n0 L ∧ Keep h0 h [] ∧ h0.size ≤ xr ∧ h0.size ≤ tr ∧ own_Str Z h xr tr [chx]
theorem ef_rm_vo (m : MethodId) (chx : Int32) (gc : Int32) : entryFrame m #[(.int chx)] 1 = mkF m 0 #[.val (.int chx)] [] := by first | (simp [entryFrame, mkF, argsToLocals, Value.category]; done) | rfl
set_option maxRecDepth 65536 in
set_option maxHeartbeats 40000000 in
theorem rm_vo (l : Launch) (Z : State) (a0 : Array Value) (hw : ∀ d ∈ tables_1, d.before a0 Z = true) (ws : List Jvm.Cond) (chx : Int32) (gc : Int32) (h0 : Heap) (n0 : Nat) (Z0 : n0 ≤ h0.size) (hbx : ¬ chx < 0 ∧ ¬ (65535 : Int32) < chx) (S_C : Sta Z Z.heap "java/lang/String" "COMPACT_STRINGS" "Z" (.int gc)) (hcs : ¬ gc = 0) (O0 : Old Z n0 h0) (S_A : Sta Z Z.heap "java/lang/StringUTF16" "$assertionsDisabled" "Z" (.int (1 : Int32))) (S_H : Sta Z Z.heap "java/lang/StringUTF16" "HI_BYTE_SHIFT" "I" (.int (0 : Int32))) (S_L : Sta Z Z.heap "java/lang/StringUTF16" "LO_BYTE_SHIFT" "I" (.int (8 : Int32))) :
    MetFree l (⟨"java/lang/String", "valueOf", "(C)Ljava/lang/String;"⟩ : MethodName) (head1 (Jvm.Cond.code (⟨"java/lang/String", "valueOf", "(C)Ljava/lang/String;"⟩ : MethodName) jdk_42_method_139_code 1 (some (.object "java/lang/String")) :: ws) ({ frames := 2, cells := 2, slots := 6, locals := 29 } : Room)) (fun a_ U_ => a_ = #[(.int chx)] ∧ Z.Warmed39 U_.vm ∧ U_.heap = h0) (fun _ _ _ _ _ => True) (fun _ U_ o_ V_ => ∃ v_ L_, o_ = .returned v_ ∧ (Q_rm_vo Z chx gc h0 n0) v_ V_.heap L_ ∧ FrameEnd U_ o_ V_ L_ ({ frames := 2, cells := 2, slots := 6, locals := 29 } : Room).cells ({ frames := 2, cells := 2, slots := 6, locals := 29 } : Room).slots) := by
  refine MetFree.of_bodySF (plainFor_of_name pn_0) hisR ?_
  intro p e s m args below meth c s₁ Bd hml0 hP hK
  obtain ⟨rfl, hZ, hh⟩ := hP
  have hx := Bd.exec
  have hby := Bd.bytes
  have hml : c.maxLocals = 1 := hml0
  have hown : s.vm.findClass "java/lang/String" = some m.cls := findClass_of_methodNamed Bd.named
  have hnm := (name_of_methodNamed Bd.named Bd.method).1
  have X0 : Stand p l e ({ frames := 2, cells := 2, slots := 6, locals := 29 } : Room) s m #[(.int chx)] below meth c s₁ [] 0 0 := Stand.of_body Bd
  have e0 : s₁.heap = h0 := by rw [← hh, Bd.state]; rfl
  have N0 := Fr.nil n0
  have K0 : Keep h0 h0 [] := Keep.refl _ _
  show own_Fin p.tables e below (own_Post (Q_rm_vo Z chx gc h0 n0) ({ frames := 2, cells := 2, slots := 6, locals := 29 } : Room).cells ({ frames := 2, cells := 2, slots := 6, locals := 29 } : Room).slots below s) _
  refine own_go (fun _ q => castTop (ef_rm_vo m chx gc) q) ?_
  show own_Fin _ _ _ _ (s₁.setTop (mkF m 0 #[.val (.int chx)] []))
  obtain ⟨T199, X199, e199, st199⟩ := getS2 X0 hx hZ hown (host := "") (Or.inl (own_w hw 40 rfl)) Via.refl e0 (S_C.ext O0.2) (g := (mkF m 0 #[.val (.int chx)] [])) rfl (hb hby d24_0)
  refine own_go st199 ?_
  show own_Fin _ _ _ _ (T199.setTop (mkF m 3 #[.val (.int chx)] [(.int gc)]))
  refine own_go (fun _ q => XS.ifNo X199.here hx rfl (hb hby d24_3) rfl ((if0 _ _).trans (feq hcs).1) q) ?_
  refine own_go (fun _ q => XS.iloadN X199.here hx rfl (hb hby d24_6) rfl q) ?_
  show own_Fin _ _ _ _ (T199.setTop (mkF m 7 #[.val (.int chx)] [(.int chx)]))
  obtain ⟨_, _, ⟨T200, L200, k200, n200⟩, -, X200, ⟨Lc200, hQ200, l200, y200, z200⟩, st200⟩ := Jvm.LawKit.callS X199 hx (y := (⟨"java/lang/StringLatin1", "canEncode", "(C)Z"⟩ : MethodName)) hown (mvT hZ (own_w hw 110 rfl)) (mvT hZ (own_w hw 111 rfl)) (mvT hZ (own_w hw 63 rfl)) (mvT hZ (own_w hw 112 rfl)) (by decide) (backOf (W := 0) (rm_can l Z a0 hw [] chx h0 n0 (Nat.le_trans Z0 K0.1)) hZ (own_w hw 112 rfl) (own_w hw 63 rfl) (by decide) (by decide)) (g := (mkF m 7 #[.val (.int chx)] [(.int chx)])) rfl (by rw [hml]; rfl) (argsL := [(.int chx)]) (rest := []) (lenOf pd_11 rfl) rfl (by show 2 * 0 + _ ≤ _; exact Nat.le_of_eq rfl) (hb hby d24_7) (fun _ _ => ⟨rfl, e199, (by decide : 0 + 0 ≤ _), (by decide : 0 + 0 ≤ _)⟩)
  dsimp only [Pt.U, Pt.locs, Pt.cells, Pt.slots] at X200 l200 y200 z200 st200 hQ200
  subst l200 y200 z200
  obtain ⟨z200, rfl, N200q, e200, hz200⟩ := hQ200
  have N200 := Fr.app N0 N200q
  rcases hz200 with ⟨rfl, hh200⟩ | ⟨rfl, hh200⟩
  · skip
    refine own_go st200 ?_
    show own_Fin _ _ _ _ (T200.setTop (mkF m 10 #[.val (.int chx)] [(.int (1 : Int32))]))
    refine own_go (fun _ q => XS.ifNo X200.here hx rfl (hb hby d24_10) rfl ((if0 _ _).trans (feq (by decide : ¬ (1 : Int32) = (0 : Int32))).1) q) ?_
    show own_Fin _ _ _ _ (T200.setTop (mkF m 13 #[.val (.int chx)] []))
    obtain ⟨T201, h201, X201, e201, E201, A201, D201, -, st201⟩ := newO X200 hx hZ hown (own_w hw 60 rfl) (own_w hw 10 rfl) (own_w hw 11 rfl) e200 (g := (mkF m 13 #[.val (.int chx)] [])) rfl (hb hby d24_13) (by decide) (by decide)
    obtain ⟨b201, g201⟩ : ∃ z, z = h0.size := ⟨_, rfl⟩
    rw [← g201] at A201 D201 st201
    have sz_b201 : h0.size ≤ b201 := Nat.le_trans K0.1 (Nat.le_of_eq g201.symm)
    have g_b201 : n0 ≤ b201 := Nat.le_trans Z0 sz_b201
    replace O0 := O0.ext E201
    have K202 := K0.ext E201
    have F201_value : Fld Z h201 b201 "java/lang/String" "value" "[B" .null := D201 (Or.inr (own_w hw 25 rfl)) (ty := (.array .byte)) (by decide)
    have F201_coder : Fld Z h201 b201 "java/lang/String" "coder" "B" (.int (0 : Int32)) := D201 (Or.inr (own_w hw 26 rfl)) (ty := .byte) (by decide)
    refine own_go st201 ?_
    refine own_go (fun _ q => XS.dup X201.here hx rfl (hb hby d24_16) rfl rfl q) ?_
    refine own_go (fun _ q => XS.iloadN X201.here hx rfl (hb hby d24_17) rfl q) ?_
    show own_Fin _ _ _ _ (T201.setTop (mkF m 18 #[.val (.int chx)] [(.int chx), (.ref b201), (.ref b201)]))
    obtain ⟨_, _, ⟨T203, L203, k203, n203⟩, -, X203, ⟨Lc203, hQ203, l203, y203, z203⟩, st203⟩ := Jvm.LawKit.callS X201 hx (y := (⟨"java/lang/StringLatin1", "toBytes", "(C)[B"⟩ : MethodName)) hown (mvT hZ (own_w hw 113 rfl)) (mvT hZ (own_w hw 114 rfl)) (mvT hZ (own_w hw 63 rfl)) (mvT hZ (own_w hw 115 rfl)) (by decide) (backOf (W := 2) (rm_tbl l Z a0 hw [] chx h201 n0 (Nat.le_trans Z0 K202.1)) hZ (own_w hw 115 rfl) (own_w hw 63 rfl) (by decide) (by decide)) (g := (mkF m 18 #[.val (.int chx)] [(.int chx), (.ref b201), (.ref b201)])) rfl (by rw [hml]; rfl) (argsL := [(.int chx)]) (rest := [(.ref b201), (.ref b201)]) (lenOf pd_12 rfl) rfl (by show 2 * 0 + _ ≤ _; exact Nat.le_of_eq rfl) (hb hby d24_18) (fun _ _ => ⟨rfl, e201, (by decide : 1 + 1 ≤ _), (by decide : 4 + 1 ≤ _)⟩)
    dsimp only [Pt.U, Pt.locs, Pt.cells, Pt.slots] at X203 l203 y203 z203 st203 hQ203
    subst l203 y203 z203
    obtain ⟨r203, kk203, rfl, N203q, KK203, sz203, V203⟩ := hQ203
    have N203 := Fr.app N200 N203q
    have sz_r203 : h0.size ≤ r203 := Nat.le_trans K202.1 sz203
    have g_r203 : n0 ≤ r203 := Nat.le_trans Z0 sz_r203
    have ne204 : b201 ≠ r203 := Nat.ne_of_lt (Nat.lt_of_lt_of_le A201.lt sz203)
    replace O0 := O0.keep KK203 all0
    replace A201 := A201.keep KK203
    replace F201_value := F201_value.keep KK203 nin0
    replace F201_coder := F201_coder.keep KK203 nin0
    have K205 := K202.trans KK203 all0
    refine own_go st203 ?_
    refine own_go (fun _ q => XS.iconst X203.here hx rfl (hb hby d24_21) q) ?_
    show own_Fin _ _ _ _ (T203.setTop (mkF m 22 #[.val (.int chx)] [(.int (0 : Int32)), (.ref r203), (.ref b201), (.ref b201)]))
    obtain ⟨_, _, ⟨T206, L206, k206, n206⟩, -, X206, ⟨Lc206, hQ206, l206, y206, z206⟩, st206⟩ := X203.specialBack hx (y := (⟨"java/lang/String", "<init>", "([BB)V"⟩ : MethodName)) rfl hown (mvT hZ (own_w hw 116 rfl)) (mvT hZ (own_w hw 117 rfl)) (mvT hZ (own_w hw 118 rfl)) (by decide) (backOf (W := 1) (rm_ibb0 l Z a0 hw [] b201 r203 T203.heap n0 (Nat.le_trans Z0 K205.1) A201 F201_value F201_coder g_b201) hZ (own_w hw 118 rfl) (own_w hw 11 rfl) (by decide) (by decide)) (g := (mkF m 22 #[.val (.int chx)] [(.int (0 : Int32)), (.ref r203), (.ref b201), (.ref b201)])) rfl (by rw [hml]; rfl) (Steps.refl _) (a := b201) (argsL := [(.ref r203), (.int (0 : Int32))]) (rest := [(.ref b201)]) (lenOf pd_13 rfl) rfl (by show 2 * 0 + _ ≤ _; exact Nat.le_of_eq rfl) (hb hby d24_22) (fun _ _ => ⟨rfl, rfl, (by decide : 2 + 0 ≤ _), (by decide : 5 + 0 ≤ _)⟩)
    dsimp only [Pt.U, Pt.locs, Pt.cells, Pt.slots] at X206 l206 y206 z206 st206 hQ206
    subst l206 y206 z206
    obtain ⟨rfl, N206q, KK206, FV206, FC206⟩ := hQ206
    have N206 := Fr.app N203 N206q
    replace O0 := O0.keep KK206 (allS g_b201 (all0))
    replace A201 := A201.keep KK206
    replace V203 := V203.keep KK206 (ninS (Ne.symm ne204) nin0)
    have K207 := K205.trans KK206 (allS (Or.inr sz_b201) all0)
    refine own_go (fun _ q => st206.trans q) ?_
    show own_Fin _ _ _ _ (T206.setTop (mkF m 25 #[.val (.int chx)] [(.ref b201)]))
    refine own_retA X206 hx Bd (t := (.object "java/lang/String")) Bd.returns rfl rfl rfl (hb hby d24_25) ?_ (by decide) (by decide)
    show (Q_rm_vo Z chx gc h0 n0) (some (.ref b201)) T206.heap _
    exact ⟨_, _, rfl, N206, K207, sz_b201, sz_r203, _, _, _, _, A201, FV206, FC206, V203, Or.inl ⟨rfl, rfl, rfl, (by intro c hc; cases List.mem_singleton.mp hc; exact hh200)⟩, (by intro c hc; cases List.mem_singleton.mp hc; exact hbx), Nat.le_of_ble_eq_true rfl⟩
  · skip
    refine own_go st200 ?_
    show own_Fin _ _ _ _ (T200.setTop (mkF m 10 #[.val (.int chx)] [(.int (0 : Int32))]))
    refine own_go (fun _ q => XS.ifYes X200.here hx rfl (pc0 := 10) (pc' := 26) rfl (hb hby d24_10) rfl ((if0 _ _).trans (teq (by decide : (0 : Int32) = (0 : Int32))).1) (by decide) (by decide) q) ?_
    show own_Fin _ _ _ _ (T200.setTop (mkF m 26 #[.val (.int chx)] []))
    obtain ⟨T208, h208, X208, e208, E208, A208, D208, -, st208⟩ := newO X200 hx hZ hown (own_w hw 60 rfl) (own_w hw 10 rfl) (own_w hw 11 rfl) e200 (g := (mkF m 26 #[.val (.int chx)] [])) rfl (hb hby d24_26) (by decide) (by decide)
    obtain ⟨b208, g208⟩ : ∃ z, z = h0.size := ⟨_, rfl⟩
    rw [← g208] at A208 D208 st208
    have sz_b208 : h0.size ≤ b208 := Nat.le_trans K0.1 (Nat.le_of_eq g208.symm)
    have g_b208 : n0 ≤ b208 := Nat.le_trans Z0 sz_b208
    replace O0 := O0.ext E208
    have K209 := K0.ext E208
    have F208_value : Fld Z h208 b208 "java/lang/String" "value" "[B" .null := D208 (Or.inr (own_w hw 25 rfl)) (ty := (.array .byte)) (by decide)
    have F208_coder : Fld Z h208 b208 "java/lang/String" "coder" "B" (.int (0 : Int32)) := D208 (Or.inr (own_w hw 26 rfl)) (ty := .byte) (by decide)
    refine own_go st208 ?_
    refine own_go (fun _ q => XS.dup X208.here hx rfl (hb hby d24_29) rfl rfl q) ?_
    refine own_go (fun _ q => XS.iloadN X208.here hx rfl (hb hby d24_30) rfl q) ?_
    show own_Fin _ _ _ _ (T208.setTop (mkF m 31 #[.val (.int chx)] [(.int chx), (.ref b208), (.ref b208)]))
    obtain ⟨_, _, ⟨T210, L210, k210, n210⟩, -, X210, ⟨Lc210, hQ210, l210, y210, z210⟩, st210⟩ := Jvm.LawKit.callS X208 hx (y := (⟨"java/lang/StringUTF16", "toBytes", "(C)[B"⟩ : MethodName)) hown (mvT hZ (own_w hw 164 rfl)) (mvT hZ (own_w hw 165 rfl)) (mvT hZ (own_w hw 43 rfl)) (mvT hZ (own_w hw 166 rfl)) (by decide) (backOf (W := 2) (rm_tbu l Z a0 hw [] chx h208 n0 (Nat.le_trans Z0 K209.1) O0 S_A S_H S_L) hZ (own_w hw 166 rfl) (own_w hw 43 rfl) (by decide) (by decide)) (g := (mkF m 31 #[.val (.int chx)] [(.int chx), (.ref b208), (.ref b208)])) rfl (by rw [hml]; rfl) (argsL := [(.int chx)]) (rest := [(.ref b208), (.ref b208)]) (lenOf pd_12 rfl) rfl (by show 2 * 0 + _ ≤ _; exact Nat.le_of_eq rfl) (hb hby d24_31) (fun _ _ => ⟨rfl, e208, (by decide : 1 + 1 ≤ _), (by decide : 4 + 2 ≤ _)⟩)
    dsimp only [Pt.U, Pt.locs, Pt.cells, Pt.slots] at X210 l210 y210 z210 st210 hQ210
    subst l210 y210 z210
    obtain ⟨r210, kk210, rfl, N210q, KK210, sz210, V210⟩ := hQ210
    have N210 := Fr.app N200 N210q
    have sz_r210 : h0.size ≤ r210 := Nat.le_trans K209.1 sz210
    have g_r210 : n0 ≤ r210 := Nat.le_trans Z0 sz_r210
    have ne211 : b208 ≠ r210 := Nat.ne_of_lt (Nat.lt_of_lt_of_le A208.lt sz210)
    replace O0 := O0.keep KK210 all0
    replace A208 := A208.keep KK210
    replace F208_value := F208_value.keep KK210 nin0
    replace F208_coder := F208_coder.keep KK210 nin0
    have K212 := K209.trans KK210 all0
    refine own_go st210 ?_
    refine own_go (fun _ q => XS.iconst X210.here hx rfl (hb hby d24_34) q) ?_
    show own_Fin _ _ _ _ (T210.setTop (mkF m 35 #[.val (.int chx)] [(.int (1 : Int32)), (.ref r210), (.ref b208), (.ref b208)]))
    obtain ⟨_, _, ⟨T213, L213, k213, n213⟩, -, X213, ⟨Lc213, hQ213, l213, y213, z213⟩, st213⟩ := X210.specialBack hx (y := (⟨"java/lang/String", "<init>", "([BB)V"⟩ : MethodName)) rfl hown (mvT hZ (own_w hw 116 rfl)) (mvT hZ (own_w hw 117 rfl)) (mvT hZ (own_w hw 118 rfl)) (by decide) (backOf (W := 1) (rm_ibb1 l Z a0 hw [] b208 r210 T210.heap n0 (Nat.le_trans Z0 K212.1) A208 F208_value F208_coder g_b208) hZ (own_w hw 118 rfl) (own_w hw 11 rfl) (by decide) (by decide)) (g := (mkF m 35 #[.val (.int chx)] [(.int (1 : Int32)), (.ref r210), (.ref b208), (.ref b208)])) rfl (by rw [hml]; rfl) (Steps.refl _) (a := b208) (argsL := [(.ref r210), (.int (1 : Int32))]) (rest := [(.ref b208)]) (lenOf pd_13 rfl) rfl (by show 2 * 0 + _ ≤ _; exact Nat.le_of_eq rfl) (hb hby d24_35) (fun _ _ => ⟨rfl, rfl, (by decide : 2 + 0 ≤ _), (by decide : 6 + 0 ≤ _)⟩)
    dsimp only [Pt.U, Pt.locs, Pt.cells, Pt.slots] at X213 l213 y213 z213 st213 hQ213
    subst l213 y213 z213
    obtain ⟨rfl, N213q, KK213, FV213, FC213⟩ := hQ213
    have N213 := Fr.app N210 N213q
    replace O0 := O0.keep KK213 (allS g_b208 (all0))
    replace A208 := A208.keep KK213
    replace V210 := V210.keep KK213 (ninS (Ne.symm ne211) nin0)
    have K214 := K212.trans KK213 (allS (Or.inr sz_b208) all0)
    refine own_go (fun _ q => st213.trans q) ?_
    show own_Fin _ _ _ _ (T213.setTop (mkF m 38 #[.val (.int chx)] [(.ref b208)]))
    refine own_retA X213 hx Bd (t := (.object "java/lang/String")) Bd.returns rfl rfl rfl (hb hby d24_38) ?_ (by decide) (by decide)
    show (Q_rm_vo Z chx gc h0 n0) (some (.ref b208)) T213.heap _
    exact ⟨_, _, rfl, N213, K214, sz_b208, sz_r210, _, _, _, _, A208, FV213, FC213, V210, Or.inr ⟨rfl, rfl, rfl, ⟨_, List.mem_singleton.mpr rfl, hh200⟩⟩, (by intro c hc; cases List.mem_singleton.mp hc; exact hbx), Nat.le_of_ble_eq_true rfl⟩
def Q_rm_il0 (Z : State) (xx : Addr) (gc : Int32) (h0 : Heap) (n0 : Nat) (v : Option Value) (h : Heap) (L : List Loc) : Prop := v = some (.int (1 : Int32)) ∧ Fr n0 L ∧ h = h0
theorem ef_rm_il0 (m : MethodId) (xx : Addr) (gc : Int32) : entryFrame m #[(.ref xx)] 1 = mkF m 0 #[.val (.ref xx)] [] := by first | (simp [entryFrame, mkF, argsToLocals, Value.category]; done) | rfl
set_option maxRecDepth 65536 in
set_option maxHeartbeats 40000000 in
theorem rm_il0 (l : Launch) (Z : State) (a0 : Array Value) (hw : ∀ d ∈ tables_1, d.before a0 Z = true) (ws : List Jvm.Cond) (xx : Addr) (gc : Int32) (h0 : Heap) (n0 : Nat) (Z0 : n0 ≤ h0.size) (C_x : Fld Z h0 xx "java/lang/String" "coder" "B" (.int (0 : Int32))) (S_C : Sta Z Z.heap "java/lang/String" "COMPACT_STRINGS" "Z" (.int gc)) (hcs : ¬ gc = 0) (O0 : Old Z n0 h0) :
    MetFree l (⟨"java/lang/String", "isLatin1", "()Z"⟩ : MethodName) (head1 (Jvm.Cond.code (⟨"java/lang/String", "isLatin1", "()Z"⟩ : MethodName) jdk_42_method_154_code 1 (some .boolean) :: ws) ({ frames := 0, cells := 0, slots := 0, locals := 0 } : Room)) (fun a_ U_ => a_ = #[(.ref xx)] ∧ Z.Warmed39 U_.vm ∧ U_.heap = h0) (fun _ _ _ _ _ => True) (fun _ U_ o_ V_ => ∃ v_ L_, o_ = .returned v_ ∧ (Q_rm_il0 Z xx gc h0 n0) v_ V_.heap L_ ∧ FrameEnd U_ o_ V_ L_ ({ frames := 0, cells := 0, slots := 0, locals := 0 } : Room).cells ({ frames := 0, cells := 0, slots := 0, locals := 0 } : Room).slots) := by
  refine MetFree.of_bodySF (plainFor_of_name pn_0) hisR ?_
  intro p e s m args below meth c s₁ Bd hml0 hP hK
  obtain ⟨rfl, hZ, hh⟩ := hP
  have hx := Bd.exec
  have hby := Bd.bytes
  have hml : c.maxLocals = 1 := hml0
  have hown : s.vm.findClass "java/lang/String" = some m.cls := findClass_of_methodNamed Bd.named
  have hnm := (name_of_methodNamed Bd.named Bd.method).1
  have X0 : Stand p l e ({ frames := 0, cells := 0, slots := 0, locals := 0 } : Room) s m #[(.ref xx)] below meth c s₁ [] 0 0 := Stand.of_body Bd
  have e0 : s₁.heap = h0 := by rw [← hh, Bd.state]; rfl
  have N0 := Fr.nil n0
  have K0 : Keep h0 h0 [] := Keep.refl _ _
  show own_Fin p.tables e below (own_Post (Q_rm_il0 Z xx gc h0 n0) ({ frames := 0, cells := 0, slots := 0, locals := 0 } : Room).cells ({ frames := 0, cells := 0, slots := 0, locals := 0 } : Room).slots below s) _
  refine own_go (fun _ q => castTop (ef_rm_il0 m xx gc) q) ?_
  show own_Fin _ _ _ _ (s₁.setTop (mkF m 0 #[.val (.ref xx)] []))
  obtain ⟨T215, X215, e215, st215⟩ := getS2 X0 hx hZ hown (host := "") (Or.inl (own_w hw 40 rfl)) Via.refl e0 (S_C.ext O0.2) (g := (mkF m 0 #[.val (.ref xx)] [])) rfl (hb hby d16_0)
  refine own_go st215 ?_
  show own_Fin _ _ _ _ (T215.setTop (mkF m 3 #[.val (.ref xx)] [(.int gc)]))
  refine own_go (fun _ q => XS.ifNo X215.here hx rfl (hb hby d16_3) rfl ((if0 _ _).trans (feq hcs).1) q) ?_
  refine own_go (fun _ q => XS.aloadN X215.here hx rfl (hb hby d16_6) rfl rfl q) ?_
  show own_Fin _ _ _ _ (T215.setTop (mkF m 7 #[.val (.ref xx)] [(.ref xx)]))
  obtain ⟨T216, X216, e216, st216⟩ := getF X215 hx hZ hown (host := "") (Or.inl (own_w hw 30 rfl)) Via.refl e215 C_x (g := (mkF m 7 #[.val (.ref xx)] [(.ref xx)])) rfl rfl (hb hby d16_7)
  refine own_go st216 ?_
  show own_Fin _ _ _ _ (T216.setTop (mkF m 10 #[.val (.ref xx)] [(.int (0 : Int32))]))
  refine own_go (fun _ q => XS.ifNo X216.here hx rfl (hb hby d16_10) rfl ((if0 _ _).trans (teq (by decide : (0 : Int32) = (0 : Int32))).2) q) ?_
  refine own_go (fun _ q => XS.iconst X216.here hx rfl (hb hby d16_13) q) ?_
  refine own_go (fun _ q => XS.goto X216.here hx rfl (pc0 := 14) (pc' := 18) rfl (hb hby d16_14) (by decide) (by decide) q) ?_
  show own_Fin _ _ _ _ (T216.setTop (mkF m 18 #[.val (.ref xx)] [(.int (1 : Int32))]))
  refine own_retI X216 hx Bd (t := .boolean) Bd.returns rfl (by simp) (hb hby d16_18) ?_ (by decide) (by decide)
  show (Q_rm_il0 Z xx gc h0 n0) (some (.int (1 : Int32))) T216.heap _
  rw [e216]
  exact ⟨rfl, N0, rfl⟩
def Q_rm_il1 (Z : State) (xx : Addr) (gc : Int32) (h0 : Heap) (n0 : Nat) (v : Option Value) (h : Heap) (L : List Loc) : Prop := v = some (.int (0 : Int32)) ∧ Fr n0 L ∧ h = h0
theorem ef_rm_il1 (m : MethodId) (xx : Addr) (gc : Int32) : entryFrame m #[(.ref xx)] 1 = mkF m 0 #[.val (.ref xx)] [] := by first | (simp [entryFrame, mkF, argsToLocals, Value.category]; done) | rfl
set_option maxRecDepth 65536 in
set_option maxHeartbeats 40000000 in
theorem rm_il1 (l : Launch) (Z : State) (a0 : Array Value) (hw : ∀ d ∈ tables_1, d.before a0 Z = true) (ws : List Jvm.Cond) (xx : Addr) (gc : Int32) (h0 : Heap) (n0 : Nat) (Z0 : n0 ≤ h0.size) (C_x : Fld Z h0 xx "java/lang/String" "coder" "B" (.int (1 : Int32))) (S_C : Sta Z Z.heap "java/lang/String" "COMPACT_STRINGS" "Z" (.int gc)) (hcs : ¬ gc = 0) (O0 : Old Z n0 h0) :
    MetFree l (⟨"java/lang/String", "isLatin1", "()Z"⟩ : MethodName) (head1 (Jvm.Cond.code (⟨"java/lang/String", "isLatin1", "()Z"⟩ : MethodName) jdk_42_method_154_code 1 (some .boolean) :: ws) ({ frames := 0, cells := 0, slots := 0, locals := 0 } : Room)) (fun a_ U_ => a_ = #[(.ref xx)] ∧ Z.Warmed39 U_.vm ∧ U_.heap = h0) (fun _ _ _ _ _ => True) (fun _ U_ o_ V_ => ∃ v_ L_, o_ = .returned v_ ∧ (Q_rm_il1 Z xx gc h0 n0) v_ V_.heap L_ ∧ FrameEnd U_ o_ V_ L_ ({ frames := 0, cells := 0, slots := 0, locals := 0 } : Room).cells ({ frames := 0, cells := 0, slots := 0, locals := 0 } : Room).slots) := by
  refine MetFree.of_bodySF (plainFor_of_name pn_0) hisR ?_
  intro p e s m args below meth c s₁ Bd hml0 hP hK
  obtain ⟨rfl, hZ, hh⟩ := hP
  have hx := Bd.exec
  have hby := Bd.bytes
  have hml : c.maxLocals = 1 := hml0
  have hown : s.vm.findClass "java/lang/String" = some m.cls := findClass_of_methodNamed Bd.named
  have hnm := (name_of_methodNamed Bd.named Bd.method).1
  have X0 : Stand p l e ({ frames := 0, cells := 0, slots := 0, locals := 0 } : Room) s m #[(.ref xx)] below meth c s₁ [] 0 0 := Stand.of_body Bd
  have e0 : s₁.heap = h0 := by rw [← hh, Bd.state]; rfl
  have N0 := Fr.nil n0
  have K0 : Keep h0 h0 [] := Keep.refl _ _
  show own_Fin p.tables e below (own_Post (Q_rm_il1 Z xx gc h0 n0) ({ frames := 0, cells := 0, slots := 0, locals := 0 } : Room).cells ({ frames := 0, cells := 0, slots := 0, locals := 0 } : Room).slots below s) _
  refine own_go (fun _ q => castTop (ef_rm_il1 m xx gc) q) ?_
  show own_Fin _ _ _ _ (s₁.setTop (mkF m 0 #[.val (.ref xx)] []))
  obtain ⟨T217, X217, e217, st217⟩ := getS2 X0 hx hZ hown (host := "") (Or.inl (own_w hw 40 rfl)) Via.refl e0 (S_C.ext O0.2) (g := (mkF m 0 #[.val (.ref xx)] [])) rfl (hb hby d16_0)
  refine own_go st217 ?_
  show own_Fin _ _ _ _ (T217.setTop (mkF m 3 #[.val (.ref xx)] [(.int gc)]))
  refine own_go (fun _ q => XS.ifNo X217.here hx rfl (hb hby d16_3) rfl ((if0 _ _).trans (feq hcs).1) q) ?_
  refine own_go (fun _ q => XS.aloadN X217.here hx rfl (hb hby d16_6) rfl rfl q) ?_
  show own_Fin _ _ _ _ (T217.setTop (mkF m 7 #[.val (.ref xx)] [(.ref xx)]))
  obtain ⟨T218, X218, e218, st218⟩ := getF X217 hx hZ hown (host := "") (Or.inl (own_w hw 30 rfl)) Via.refl e217 C_x (g := (mkF m 7 #[.val (.ref xx)] [(.ref xx)])) rfl rfl (hb hby d16_7)
  refine own_go st218 ?_
  show own_Fin _ _ _ _ (T218.setTop (mkF m 10 #[.val (.ref xx)] [(.int (1 : Int32))]))
  refine own_go (fun _ q => XS.ifYes X218.here hx rfl (pc0 := 10) (pc' := 17) rfl (hb hby d16_10) rfl ((if0 _ _).trans (feq (by decide : ¬ (1 : Int32) = (0 : Int32))).2) (by decide) (by decide) q) ?_
  refine own_go (fun _ q => XS.iconst X218.here hx rfl (hb hby d16_17) q) ?_
  show own_Fin _ _ _ _ (T218.setTop (mkF m 18 #[.val (.ref xx)] [(.int (0 : Int32))]))
  refine own_retI X218 hx Bd (t := .boolean) Bd.returns rfl (by simp) (hb hby d16_18) ?_ (by decide) (by decide)
  show (Q_rm_il1 Z xx gc h0 n0) (some (.int (0 : Int32))) T218.heap _
  rw [e218]
  exact ⟨rfl, N0, rfl⟩
def Q_rm_cdr0 (Z : State) (xx : Addr) (gc : Int32) (h0 : Heap) (n0 : Nat) (v : Option Value) (h : Heap) (L : List Loc) : Prop := v = some (.int (0 : Int32)) ∧ Fr n0 L ∧ h = h0
theorem ef_rm_cdr0 (m : MethodId) (xx : Addr) (gc : Int32) : entryFrame m #[(.ref xx)] 1 = mkF m 0 #[.val (.ref xx)] [] := by first | (simp [entryFrame, mkF, argsToLocals, Value.category]; done) | rfl
set_option maxRecDepth 65536 in
set_option maxHeartbeats 40000000 in
theorem rm_cdr0 (l : Launch) (Z : State) (a0 : Array Value) (hw : ∀ d ∈ tables_1, d.before a0 Z = true) (ws : List Jvm.Cond) (xx : Addr) (gc : Int32) (h0 : Heap) (n0 : Nat) (Z0 : n0 ≤ h0.size) (C_x : Fld Z h0 xx "java/lang/String" "coder" "B" (.int (0 : Int32))) (S_C : Sta Z Z.heap "java/lang/String" "COMPACT_STRINGS" "Z" (.int gc)) (hcs : ¬ gc = 0) (O0 : Old Z n0 h0) :
    MetFree l (⟨"java/lang/String", "coder", "()B"⟩ : MethodName) (head1 (Jvm.Cond.code (⟨"java/lang/String", "coder", "()B"⟩ : MethodName) jdk_42_method_152_code 1 (some .byte) :: ws) ({ frames := 0, cells := 0, slots := 0, locals := 0 } : Room)) (fun a_ U_ => a_ = #[(.ref xx)] ∧ Z.Warmed39 U_.vm ∧ U_.heap = h0) (fun _ _ _ _ _ => True) (fun _ U_ o_ V_ => ∃ v_ L_, o_ = .returned v_ ∧ (Q_rm_cdr0 Z xx gc h0 n0) v_ V_.heap L_ ∧ FrameEnd U_ o_ V_ L_ ({ frames := 0, cells := 0, slots := 0, locals := 0 } : Room).cells ({ frames := 0, cells := 0, slots := 0, locals := 0 } : Room).slots) := by
  refine MetFree.of_bodySF (plainFor_of_name pn_0) hisR ?_
  intro p e s m args below meth c s₁ Bd hml0 hP hK
  obtain ⟨rfl, hZ, hh⟩ := hP
  have hx := Bd.exec
  have hby := Bd.bytes
  have hml : c.maxLocals = 1 := hml0
  have hown : s.vm.findClass "java/lang/String" = some m.cls := findClass_of_methodNamed Bd.named
  have hnm := (name_of_methodNamed Bd.named Bd.method).1
  have X0 : Stand p l e ({ frames := 0, cells := 0, slots := 0, locals := 0 } : Room) s m #[(.ref xx)] below meth c s₁ [] 0 0 := Stand.of_body Bd
  have e0 : s₁.heap = h0 := by rw [← hh, Bd.state]; rfl
  have N0 := Fr.nil n0
  have K0 : Keep h0 h0 [] := Keep.refl _ _
  show own_Fin p.tables e below (own_Post (Q_rm_cdr0 Z xx gc h0 n0) ({ frames := 0, cells := 0, slots := 0, locals := 0 } : Room).cells ({ frames := 0, cells := 0, slots := 0, locals := 0 } : Room).slots below s) _
  refine own_go (fun _ q => castTop (ef_rm_cdr0 m xx gc) q) ?_
  show own_Fin _ _ _ _ (s₁.setTop (mkF m 0 #[.val (.ref xx)] []))
  obtain ⟨T219, X219, e219, st219⟩ := getS2 X0 hx hZ hown (host := "") (Or.inl (own_w hw 40 rfl)) Via.refl e0 (S_C.ext O0.2) (g := (mkF m 0 #[.val (.ref xx)] [])) rfl (hb hby d18_0)
  refine own_go st219 ?_
  show own_Fin _ _ _ _ (T219.setTop (mkF m 3 #[.val (.ref xx)] [(.int gc)]))
  refine own_go (fun _ q => XS.ifNo X219.here hx rfl (hb hby d18_3) rfl ((if0 _ _).trans (feq hcs).1) q) ?_
  refine own_go (fun _ q => XS.aloadN X219.here hx rfl (hb hby d18_6) rfl rfl q) ?_
  show own_Fin _ _ _ _ (T219.setTop (mkF m 7 #[.val (.ref xx)] [(.ref xx)]))
  obtain ⟨T220, X220, e220, st220⟩ := getF X219 hx hZ hown (host := "") (Or.inl (own_w hw 30 rfl)) Via.refl e219 C_x (g := (mkF m 7 #[.val (.ref xx)] [(.ref xx)])) rfl rfl (hb hby d18_7)
  refine own_go st220 ?_
  refine own_go (fun _ q => XS.goto X220.here hx rfl (pc0 := 10) (pc' := 14) rfl (hb hby d18_10) (by decide) (by decide) q) ?_
  show own_Fin _ _ _ _ (T220.setTop (mkF m 14 #[.val (.ref xx)] [(.int (0 : Int32))]))
  refine own_retI X220 hx Bd (t := .byte) Bd.returns rfl (by simp) (hb hby d18_14) ?_ (by decide) (by decide)
  show (Q_rm_cdr0 Z xx gc h0 n0) (some (.int (0 : Int32))) T220.heap _
  rw [e220]
  exact ⟨rfl, N0, rfl⟩
def Q_rm_cdr1 (Z : State) (xx : Addr) (gc : Int32) (h0 : Heap) (n0 : Nat) (v : Option Value) (h : Heap) (L : List Loc) : Prop := v = some (.int (1 : Int32)) ∧ Fr n0 L ∧ h = h0
theorem ef_rm_cdr1 (m : MethodId) (xx : Addr) (gc : Int32) : entryFrame m #[(.ref xx)] 1 = mkF m 0 #[.val (.ref xx)] [] := by first | (simp [entryFrame, mkF, argsToLocals, Value.category]; done) | rfl
set_option maxRecDepth 65536 in
set_option maxHeartbeats 40000000 in
theorem rm_cdr1 (l : Launch) (Z : State) (a0 : Array Value) (hw : ∀ d ∈ tables_1, d.before a0 Z = true) (ws : List Jvm.Cond) (xx : Addr) (gc : Int32) (h0 : Heap) (n0 : Nat) (Z0 : n0 ≤ h0.size) (C_x : Fld Z h0 xx "java/lang/String" "coder" "B" (.int (1 : Int32))) (S_C : Sta Z Z.heap "java/lang/String" "COMPACT_STRINGS" "Z" (.int gc)) (hcs : ¬ gc = 0) (O0 : Old Z n0 h0) :
    MetFree l (⟨"java/lang/String", "coder", "()B"⟩ : MethodName) (head1 (Jvm.Cond.code (⟨"java/lang/String", "coder", "()B"⟩ : MethodName) jdk_42_method_152_code 1 (some .byte) :: ws) ({ frames := 0, cells := 0, slots := 0, locals := 0 } : Room)) (fun a_ U_ => a_ = #[(.ref xx)] ∧ Z.Warmed39 U_.vm ∧ U_.heap = h0) (fun _ _ _ _ _ => True) (fun _ U_ o_ V_ => ∃ v_ L_, o_ = .returned v_ ∧ (Q_rm_cdr1 Z xx gc h0 n0) v_ V_.heap L_ ∧ FrameEnd U_ o_ V_ L_ ({ frames := 0, cells := 0, slots := 0, locals := 0 } : Room).cells ({ frames := 0, cells := 0, slots := 0, locals := 0 } : Room).slots) := by
  refine MetFree.of_bodySF (plainFor_of_name pn_0) hisR ?_
  intro p e s m args below meth c s₁ Bd hml0 hP hK
  obtain ⟨rfl, hZ, hh⟩ := hP
  have hx := Bd.exec
  have hby := Bd.bytes
  have hml : c.maxLocals = 1 := hml0
  have hown : s.vm.findClass "java/lang/String" = some m.cls := findClass_of_methodNamed Bd.named
  have hnm := (name_of_methodNamed Bd.named Bd.method).1
  have X0 : Stand p l e ({ frames := 0, cells := 0, slots := 0, locals := 0 } : Room) s m #[(.ref xx)] below meth c s₁ [] 0 0 := Stand.of_body Bd
  have e0 : s₁.heap = h0 := by rw [← hh, Bd.state]; rfl
  have N0 := Fr.nil n0
  have K0 : Keep h0 h0 [] := Keep.refl _ _
  show own_Fin p.tables e below (own_Post (Q_rm_cdr1 Z xx gc h0 n0) ({ frames := 0, cells := 0, slots := 0, locals := 0 } : Room).cells ({ frames := 0, cells := 0, slots := 0, locals := 0 } : Room).slots below s) _
  refine own_go (fun _ q => castTop (ef_rm_cdr1 m xx gc) q) ?_
  show own_Fin _ _ _ _ (s₁.setTop (mkF m 0 #[.val (.ref xx)] []))
  obtain ⟨T221, X221, e221, st221⟩ := getS2 X0 hx hZ hown (host := "") (Or.inl (own_w hw 40 rfl)) Via.refl e0 (S_C.ext O0.2) (g := (mkF m 0 #[.val (.ref xx)] [])) rfl (hb hby d18_0)
  refine own_go st221 ?_
  show own_Fin _ _ _ _ (T221.setTop (mkF m 3 #[.val (.ref xx)] [(.int gc)]))
  refine own_go (fun _ q => XS.ifNo X221.here hx rfl (hb hby d18_3) rfl ((if0 _ _).trans (feq hcs).1) q) ?_
  refine own_go (fun _ q => XS.aloadN X221.here hx rfl (hb hby d18_6) rfl rfl q) ?_
  show own_Fin _ _ _ _ (T221.setTop (mkF m 7 #[.val (.ref xx)] [(.ref xx)]))
  obtain ⟨T222, X222, e222, st222⟩ := getF X221 hx hZ hown (host := "") (Or.inl (own_w hw 30 rfl)) Via.refl e221 C_x (g := (mkF m 7 #[.val (.ref xx)] [(.ref xx)])) rfl rfl (hb hby d18_7)
  refine own_go st222 ?_
  refine own_go (fun _ q => XS.goto X222.here hx rfl (pc0 := 10) (pc' := 14) rfl (hb hby d18_10) (by decide) (by decide) q) ?_
  show own_Fin _ _ _ _ (T222.setTop (mkF m 14 #[.val (.ref xx)] [(.int (1 : Int32))]))
  refine own_retI X222 hx Bd (t := .byte) Bd.returns rfl (by simp) (hb hby d18_14) ?_ (by decide) (by decide)
  show (Q_rm_cdr1 Z xx gc h0 n0) (some (.int (1 : Int32))) T222.heap _
  rw [e222]
  exact ⟨rfl, N0, rfl⟩
def Q_rm_len (Z : State) (xx : Addr) (tt : Addr) (cs : List Int32) (gc : Int32) (h0 : Heap) (n0 : Nat) (v : Option Value) (h : Heap) (L : List Loc) : Prop := v = some (.int (Int32.ofNat cs.length)) ∧ Fr n0 L ∧ h = h0
theorem ef_rm_len (m : MethodId) (xx : Addr) (tt : Addr) (cs : List Int32) (gc : Int32) : entryFrame m #[(.ref xx)] 1 = mkF m 0 #[.val (.ref xx)] [] := by first | (simp [entryFrame, mkF, argsToLocals, Value.category]; done) | rfl
set_option maxRecDepth 65536 in
set_option maxHeartbeats 40000000 in
theorem rm_len (l : Launch) (Z : State) (a0 : Array Value) (hw : ∀ d ∈ tables_1, d.before a0 Z = true) (ws : List Jvm.Cond) (xx : Addr) (tt : Addr) (cs : List Int32) (gc : Int32) (h0 : Heap) (n0 : Nat) (Z0 : n0 ≤ h0.size) (F_x : own_Str Z h0 xx tt cs) (S_C : Sta Z Z.heap "java/lang/String" "COMPACT_STRINGS" "Z" (.int gc)) (hcs : ¬ gc = 0) (O0 : Old Z n0 h0) :
    MetFree l (⟨"java/lang/String", "length", "()I"⟩ : MethodName) (head1 (Jvm.Cond.code (⟨"java/lang/String", "length", "()I"⟩ : MethodName) jdk_42_method_54_code 1 (some .int) :: ws) ({ frames := 1, cells := 0, slots := 0, locals := 13 } : Room)) (fun a_ U_ => a_ = #[(.ref xx)] ∧ Z.Warmed39 U_.vm ∧ U_.heap = h0) (fun _ _ _ _ _ => True) (fun _ U_ o_ V_ => ∃ v_ L_, o_ = .returned v_ ∧ (Q_rm_len Z xx tt cs gc h0 n0) v_ V_.heap L_ ∧ FrameEnd U_ o_ V_ L_ ({ frames := 1, cells := 0, slots := 0, locals := 13 } : Room).cells ({ frames := 1, cells := 0, slots := 0, locals := 13 } : Room).slots) := by
  refine MetFree.of_bodySF (plainFor_of_name pn_0) hisR ?_
  intro p e s m args below meth c s₁ Bd hml0 hP hK
  obtain ⟨rfl, hZ, hh⟩ := hP
  have hx := Bd.exec
  have hby := Bd.bytes
  have hml : c.maxLocals = 1 := hml0
  have hown : s.vm.findClass "java/lang/String" = some m.cls := findClass_of_methodNamed Bd.named
  have hnm := (name_of_methodNamed Bd.named Bd.method).1
  have X0 : Stand p l e ({ frames := 1, cells := 0, slots := 0, locals := 13 } : Room) s m #[(.ref xx)] below meth c s₁ [] 0 0 := Stand.of_body Bd
  have e0 : s₁.heap = h0 := by rw [← hh, Bd.state]; rfl
  have N0 := Fr.nil n0
  have K0 : Keep h0 h0 [] := Keep.refl _ _
  show own_Fin p.tables e below (own_Post (Q_rm_len Z xx tt cs gc h0 n0) ({ frames := 1, cells := 0, slots := 0, locals := 13 } : Room).cells ({ frames := 1, cells := 0, slots := 0, locals := 13 } : Room).slots below s) _
  refine own_go (fun _ q => castTop (ef_rm_len m xx tt cs gc) q) ?_
  show own_Fin _ _ _ _ (s₁.setTop (mkF m 0 #[.val (.ref xx)] []))
  obtain ⟨kq, Nq, cd, vs, E_x, V_x, C_x, A_x, hcod, -, h4k⟩ := F_x
  rcases hcod with ⟨rfl, rfl, rfl, hcd⟩ | ⟨rfl, rfl, rfl, hcd⟩
  · skip
    refine own_go (fun _ q => XS.aloadN X0.here hx rfl (hb hby d17_0) rfl rfl q) ?_
    show own_Fin _ _ _ _ (s₁.setTop (mkF m 1 #[.val (.ref xx)] [(.ref xx)]))
    obtain ⟨T223, X223, e223, st223⟩ := getF X0 hx hZ hown (host := "") (Or.inl (own_w hw 29 rfl)) Via.refl e0 V_x (g := (mkF m 1 #[.val (.ref xx)] [(.ref xx)])) rfl rfl (hb hby d17_1)
    refine own_go st223 ?_
    show own_Fin _ _ _ _ (T223.setTop (mkF m 4 #[.val (.ref xx)] [(.ref tt)]))
    refine own_go (fun _ q => own_alen X223 hx hZ e223 A_x (g := (mkF m 4 #[.val (.ref xx)] [(.ref tt)])) rfl rfl (hb hby d17_4) _ q) ?_
    refine own_go (fun _ q => XS.aloadN X223.here hx rfl (hb hby d17_5) rfl rfl q) ?_
    show own_Fin _ _ _ _ (T223.setTop (mkF m 6 #[.val (.ref xx)] [(.ref xx), (.int (Int32.ofNat cs.length))]))
    obtain ⟨cq224, kq224, qa224, qb224, qc224⟩ := isOf hZ e223 E_x
    obtain ⟨_, _, ⟨T224, L224, k224, n224⟩, -, X224, ⟨Lc224, hQ224, l224, y224, z224⟩, st224⟩ := X223.virtualBack hx (y := (⟨"java/lang/String", "coder", "()B"⟩ : MethodName)) (z := (⟨"java/lang/String", "coder", "()B"⟩ : MethodName)) hown (mvT hZ (own_w hw 86 rfl)) (mvT hZ (own_w hw 87 rfl)) (own_notface (args := #[]) (mvT hZ (own_w hw 38 rfl)) rfl) (mvT hZ (own_w hw 89 rfl)) (mvT hZ (own_w hw 88 rfl)) (by decide) (backOf (W := 1) (rm_cdr0 l Z a0 hw [] xx gc h0 n0 (Nat.le_trans Z0 K0.1) C_x S_C hcs O0) hZ (own_w hw 90 rfl) (own_w hw 11 rfl) (by decide) (by decide)) qa224 qc224 (g := (mkF m 6 #[.val (.ref xx)] [(.ref xx), (.int (Int32.ofNat cs.length))])) rfl (by rw [hml]; rfl) (Steps.refl _) (argsL := []) (rest := [(.int (Int32.ofNat cs.length))]) (lenOf pd_14 rfl) rfl (by show 2 * 0 + _ ≤ _; exact Nat.le_of_eq rfl) (hb hby d17_6) (fun _ _ => ⟨rfl, e223, (by decide : 0 + 0 ≤ _), (by decide : 0 + 0 ≤ _)⟩)
    dsimp only [Pt.U, Pt.locs, Pt.cells, Pt.slots] at X224 l224 y224 z224 st224 hQ224
    subst l224 y224 z224
    obtain ⟨rfl, N224q, e224⟩ := hQ224
    have N224 := Fr.app N0 N224q
    refine own_go (fun _ q => st224.trans q) ?_
    show own_Fin _ _ _ _ (T224.setTop (mkF m 9 #[.val (.ref xx)] [(.int (0 : Int32)), (.int (Int32.ofNat cs.length))]))
    refine own_go (fun _ q => XS.ishr X224.here hx rfl (hb hby d17_9) rfl q) ?_
    show own_Fin _ _ _ _ (T224.setTop (mkF m 10 #[.val (.ref xx)] [(.int ((Int32.ofNat cs.length) >>> ((0 : Int32) &&& 31)))]))
    rw [StrChars.shr0]
    show own_Fin _ _ _ _ (T224.setTop (mkF m 10 #[.val (.ref xx)] [(.int (Int32.ofNat cs.length))]))
    refine own_retI X224 hx Bd (t := .int) Bd.returns rfl (by simp) (hb hby d17_10) ?_ (by decide) (by decide)
    show (Q_rm_len Z xx tt cs gc h0 n0) (some (.int (Int32.ofNat cs.length))) T224.heap _
    rw [e224]
    exact ⟨rfl, N224, rfl⟩
  · skip
    refine own_go (fun _ q => XS.aloadN X0.here hx rfl (hb hby d17_0) rfl rfl q) ?_
    show own_Fin _ _ _ _ (s₁.setTop (mkF m 1 #[.val (.ref xx)] [(.ref xx)]))
    obtain ⟨T225, X225, e225, st225⟩ := getF X0 hx hZ hown (host := "") (Or.inl (own_w hw 29 rfl)) Via.refl e0 V_x (g := (mkF m 1 #[.val (.ref xx)] [(.ref xx)])) rfl rfl (hb hby d17_1)
    refine own_go st225 ?_
    show own_Fin _ _ _ _ (T225.setTop (mkF m 4 #[.val (.ref xx)] [(.ref tt)]))
    refine own_go (fun _ q => own_alen X225 hx hZ e225 A_x (g := (mkF m 4 #[.val (.ref xx)] [(.ref tt)])) rfl rfl (hb hby d17_4) _ q) ?_
    refine own_go (fun _ q => XS.aloadN X225.here hx rfl (hb hby d17_5) rfl rfl q) ?_
    show own_Fin _ _ _ _ (T225.setTop (mkF m 6 #[.val (.ref xx)] [(.ref xx), (.int (Int32.ofNat (2 * cs.length)))]))
    obtain ⟨cq226, kq226, qa226, qb226, qc226⟩ := isOf hZ e225 E_x
    obtain ⟨_, _, ⟨T226, L226, k226, n226⟩, -, X226, ⟨Lc226, hQ226, l226, y226, z226⟩, st226⟩ := X225.virtualBack hx (y := (⟨"java/lang/String", "coder", "()B"⟩ : MethodName)) (z := (⟨"java/lang/String", "coder", "()B"⟩ : MethodName)) hown (mvT hZ (own_w hw 86 rfl)) (mvT hZ (own_w hw 87 rfl)) (own_notface (args := #[]) (mvT hZ (own_w hw 38 rfl)) rfl) (mvT hZ (own_w hw 89 rfl)) (mvT hZ (own_w hw 88 rfl)) (by decide) (backOf (W := 1) (rm_cdr1 l Z a0 hw [] xx gc h0 n0 (Nat.le_trans Z0 K0.1) C_x S_C hcs O0) hZ (own_w hw 90 rfl) (own_w hw 11 rfl) (by decide) (by decide)) qa226 qc226 (g := (mkF m 6 #[.val (.ref xx)] [(.ref xx), (.int (Int32.ofNat (2 * cs.length)))])) rfl (by rw [hml]; rfl) (Steps.refl _) (argsL := []) (rest := [(.int (Int32.ofNat (2 * cs.length)))]) (lenOf pd_14 rfl) rfl (by show 2 * 0 + _ ≤ _; exact Nat.le_of_eq rfl) (hb hby d17_6) (fun _ _ => ⟨rfl, e225, (by decide : 0 + 0 ≤ _), (by decide : 0 + 0 ≤ _)⟩)
    dsimp only [Pt.U, Pt.locs, Pt.cells, Pt.slots] at X226 l226 y226 z226 st226 hQ226
    subst l226 y226 z226
    obtain ⟨rfl, N226q, e226⟩ := hQ226
    have N226 := Fr.app N0 N226q
    refine own_go (fun _ q => st226.trans q) ?_
    show own_Fin _ _ _ _ (T226.setTop (mkF m 9 #[.val (.ref xx)] [(.int (1 : Int32)), (.int (Int32.ofNat (2 * cs.length)))]))
    refine own_go (fun _ q => XS.ishr X226.here hx rfl (hb hby d17_9) rfl q) ?_
    show own_Fin _ _ _ _ (T226.setTop (mkF m 10 #[.val (.ref xx)] [(.int ((Int32.ofNat (2 * cs.length)) >>> ((1 : Int32) &&& 31)))]))
    rw [StrChars.shr1 (by omega)]
    show own_Fin _ _ _ _ (T226.setTop (mkF m 10 #[.val (.ref xx)] [(.int (Int32.ofNat cs.length))]))
    refine own_retI X226 hx Bd (t := .int) Bd.returns rfl (by simp) (hb hby d17_10) ?_ (by decide) (by decide)
    show (Q_rm_len Z xx tt cs gc h0 n0) (some (.int (Int32.ofNat cs.length))) T226.heap _
    rw [e226]
    exact ⟨rfl, N226, rfl⟩
def Q_rm_cani (Z : State) (qq : Int32) (h0 : Heap) (n0 : Nat) (v : Option Value) (h : Heap) (L : List Loc) : Prop := v = some (.int (1 : Int32)) ∧ Fr n0 L ∧ h = h0
theorem ef_rm_cani (m : MethodId) (qq : Int32) : entryFrame m #[(.int qq)] 1 = mkF m 0 #[.val (.int qq)] [] := by first | (simp [entryFrame, mkF, argsToLocals, Value.category]; done) | rfl
set_option maxRecDepth 65536 in
set_option maxHeartbeats 40000000 in
theorem rm_cani (l : Launch) (Z : State) (a0 : Array Value) (hw : ∀ d ∈ tables_1, d.before a0 Z = true) (ws : List Jvm.Cond) (qq : Int32) (h0 : Heap) (n0 : Nat) (Z0 : n0 ≤ h0.size) (hq : ¬ qq < 0 ∧ ¬ (255 : Int32) < qq) :
    MetFree l (⟨"java/lang/StringLatin1", "canEncode", "(I)Z"⟩ : MethodName) (head1 (Jvm.Cond.code (⟨"java/lang/StringLatin1", "canEncode", "(I)Z"⟩ : MethodName) jdk_43_method_4_code 1 (some .boolean) :: ws) ({ frames := 0, cells := 0, slots := 0, locals := 0 } : Room)) (fun a_ U_ => a_ = #[(.int qq)] ∧ Z.Warmed39 U_.vm ∧ U_.heap = h0) (fun _ _ _ _ _ => True) (fun _ U_ o_ V_ => ∃ v_ L_, o_ = .returned v_ ∧ (Q_rm_cani Z qq h0 n0) v_ V_.heap L_ ∧ FrameEnd U_ o_ V_ L_ ({ frames := 0, cells := 0, slots := 0, locals := 0 } : Room).cells ({ frames := 0, cells := 0, slots := 0, locals := 0 } : Room).slots) := by
  refine MetFree.of_bodySF (plainFor_of_name pn_10) hisR ?_
  intro p e s m args below meth c s₁ Bd hml0 hP hK
  obtain ⟨rfl, hZ, hh⟩ := hP
  have hx := Bd.exec
  have hby := Bd.bytes
  have hml : c.maxLocals = 1 := hml0
  have hown : s.vm.findClass "java/lang/StringLatin1" = some m.cls := findClass_of_methodNamed Bd.named
  have hnm := (name_of_methodNamed Bd.named Bd.method).1
  have X0 : Stand p l e ({ frames := 0, cells := 0, slots := 0, locals := 0 } : Room) s m #[(.int qq)] below meth c s₁ [] 0 0 := Stand.of_body Bd
  have e0 : s₁.heap = h0 := by rw [← hh, Bd.state]; rfl
  have N0 := Fr.nil n0
  have K0 : Keep h0 h0 [] := Keep.refl _ _
  show own_Fin p.tables e below (own_Post (Q_rm_cani Z qq h0 n0) ({ frames := 0, cells := 0, slots := 0, locals := 0 } : Room).cells ({ frames := 0, cells := 0, slots := 0, locals := 0 } : Room).slots below s) _
  refine own_go (fun _ q => castTop (ef_rm_cani m qq) q) ?_
  refine own_go (fun _ q => XS.iloadN X0.here hx rfl (hb hby d20_0) rfl q) ?_
  show own_Fin _ _ _ _ (s₁.setTop (mkF m 1 #[.val (.int qq)] [(.int qq)]))
  refine own_go (fun _ q => XS.ifNo X0.here hx rfl (hb hby d20_1) rfl ((if0 _ _).trans (flt hq.1).1) q) ?_
  refine own_go (fun _ q => XS.iloadN X0.here hx rfl (hb hby d20_4) rfl q) ?_
  refine own_go (fun _ q => XS.sipush X0.here hx rfl (hb hby d20_5) q) ?_
  show own_Fin _ _ _ _ (s₁.setTop (mkF m 8 #[.val (.int qq)] [(.int (255 : Int32)), (.int qq)]))
  refine own_go (fun _ q => XS.icmpNo X0.here hx rfl (hb hby d20_8) rfl (flt hq.2).2.2.1 q) ?_
  refine own_go (fun _ q => XS.iconst X0.here hx rfl (hb hby d20_11) q) ?_
  refine own_go (fun _ q => XS.goto X0.here hx rfl (pc0 := 12) (pc' := 16) rfl (hb hby d20_12) (by decide) (by decide) q) ?_
  show own_Fin _ _ _ _ (s₁.setTop (mkF m 16 #[.val (.int qq)] [(.int (1 : Int32))]))
  refine own_retI X0 hx Bd (t := .boolean) Bd.returns rfl (by simp) (hb hby d20_16) ?_ (by decide) (by decide)
  show (Q_rm_cani Z qq h0 n0) (some (.int (1 : Int32))) s₁.heap _
  rw [e0]
  exact ⟨rfl, N0, rfl⟩
def Q_rm_max (Z : State) (aa : Int32) (h0 : Heap) (n0 : Nat) (v : Option Value) (h : Heap) (L : List Loc) : Prop := v = some (.int aa) ∧ Fr n0 L ∧ h = h0
theorem ef_rm_max (m : MethodId) (aa : Int32) : entryFrame m #[(.int aa), (.int aa)] 2 = mkF m 0 #[.val (.int aa), .val (.int aa)] [] := by first | (simp [entryFrame, mkF, argsToLocals, Value.category]; done) | rfl
set_option maxRecDepth 65536 in
set_option maxHeartbeats 40000000 in
theorem rm_max (l : Launch) (Z : State) (a0 : Array Value) (hw : ∀ d ∈ tables_1, d.before a0 Z = true) (ws : List Jvm.Cond) (aa : Int32) (h0 : Heap) (n0 : Nat) (Z0 : n0 ≤ h0.size) :
    MetFree l (⟨"java/lang/Math", "max", "(II)I"⟩ : MethodName) (head1 (Jvm.Cond.code (⟨"java/lang/Math", "max", "(II)I"⟩ : MethodName) jdk_29_method_65_code 2 (some .int) :: ws) ({ frames := 0, cells := 0, slots := 0, locals := 0 } : Room)) (fun a_ U_ => a_ = #[(.int aa), (.int aa)] ∧ Z.Warmed39 U_.vm ∧ U_.heap = h0) (fun _ _ _ _ _ => True) (fun _ U_ o_ V_ => ∃ v_ L_, o_ = .returned v_ ∧ (Q_rm_max Z aa h0 n0) v_ V_.heap L_ ∧ FrameEnd U_ o_ V_ L_ ({ frames := 0, cells := 0, slots := 0, locals := 0 } : Room).cells ({ frames := 0, cells := 0, slots := 0, locals := 0 } : Room).slots) := by
  refine MetFree.of_bodySF (Jvm.Free.JP.mathPlain rfl (by decide +kernel)) hisR ?_
  intro p e s m args below meth c s₁ Bd hml0 hP hK
  obtain ⟨rfl, hZ, hh⟩ := hP
  have hx := Bd.exec
  have hby := Bd.bytes
  have hml : c.maxLocals = 2 := hml0
  have hown : s.vm.findClass "java/lang/Math" = some m.cls := findClass_of_methodNamed Bd.named
  have hnm := (name_of_methodNamed Bd.named Bd.method).1
  have X0 : Stand p l e ({ frames := 0, cells := 0, slots := 0, locals := 0 } : Room) s m #[(.int aa), (.int aa)] below meth c s₁ [] 0 0 := Stand.of_body Bd
  have e0 : s₁.heap = h0 := by rw [← hh, Bd.state]; rfl
  have N0 := Fr.nil n0
  have K0 : Keep h0 h0 [] := Keep.refl _ _
  show own_Fin p.tables e below (own_Post (Q_rm_max Z aa h0 n0) ({ frames := 0, cells := 0, slots := 0, locals := 0 } : Room).cells ({ frames := 0, cells := 0, slots := 0, locals := 0 } : Room).slots below s) _
  refine own_go (fun _ q => castTop (ef_rm_max m aa) q) ?_
  refine own_go (fun _ q => XS.iloadN X0.here hx rfl (hb hby d21_0) rfl q) ?_
  refine own_go (fun _ q => XS.iloadN X0.here hx rfl (hb hby d21_1) rfl q) ?_
  show own_Fin _ _ _ _ (s₁.setTop (mkF m 2 #[.val (.int aa), .val (.int aa)] [(.int aa), (.int aa)]))
  refine own_go (fun _ q => XS.icmpNo X0.here hx rfl (hb hby d21_2) rfl (flt (own_irr _)).1 q) ?_
  refine own_go (fun _ q => XS.iloadN X0.here hx rfl (hb hby d21_5) rfl q) ?_
  refine own_go (fun _ q => XS.goto X0.here hx rfl (pc0 := 6) (pc' := 10) rfl (hb hby d21_6) (by decide) (by decide) q) ?_
  show own_Fin _ _ _ _ (s₁.setTop (mkF m 10 #[.val (.int aa), .val (.int aa)] [(.int aa)]))
  refine own_retI X0 hx Bd (t := .int) Bd.returns rfl (by simp) (hb hby d21_10) ?_ (by decide) (by decide)
  show (Q_rm_max Z aa h0 n0) (some (.int aa)) s₁.heap _
  rw [e0]
  exact ⟨rfl, N0, rfl⟩
def Q_rm_min (Z : State) (aa : Int32) (h0 : Heap) (n0 : Nat) (v : Option Value) (h : Heap) (L : List Loc) : Prop := v = some (.int aa) ∧ Fr n0 L ∧ h = h0
theorem ef_rm_min (m : MethodId) (aa : Int32) : entryFrame m #[(.int aa), (.int aa)] 2 = mkF m 0 #[.val (.int aa), .val (.int aa)] [] := by first | (simp [entryFrame, mkF, argsToLocals, Value.category]; done) | rfl
set_option maxRecDepth 65536 in
set_option maxHeartbeats 40000000 in
theorem rm_min (l : Launch) (Z : State) (a0 : Array Value) (hw : ∀ d ∈ tables_1, d.before a0 Z = true) (ws : List Jvm.Cond) (aa : Int32) (h0 : Heap) (n0 : Nat) (Z0 : n0 ≤ h0.size) :
    MetFree l (⟨"java/lang/Math", "min", "(II)I"⟩ : MethodName) (head1 (Jvm.Cond.code (⟨"java/lang/Math", "min", "(II)I"⟩ : MethodName) jdk_29_method_69_code 2 (some .int) :: ws) ({ frames := 0, cells := 0, slots := 0, locals := 0 } : Room)) (fun a_ U_ => a_ = #[(.int aa), (.int aa)] ∧ Z.Warmed39 U_.vm ∧ U_.heap = h0) (fun _ _ _ _ _ => True) (fun _ U_ o_ V_ => ∃ v_ L_, o_ = .returned v_ ∧ (Q_rm_min Z aa h0 n0) v_ V_.heap L_ ∧ FrameEnd U_ o_ V_ L_ ({ frames := 0, cells := 0, slots := 0, locals := 0 } : Room).cells ({ frames := 0, cells := 0, slots := 0, locals := 0 } : Room).slots) := by
  refine MetFree.of_bodySF (Jvm.Free.JP.mathPlain rfl (by decide +kernel)) hisR ?_
  intro p e s m args below meth c s₁ Bd hml0 hP hK
  obtain ⟨rfl, hZ, hh⟩ := hP
  have hx := Bd.exec
  have hby := Bd.bytes
  have hml : c.maxLocals = 2 := hml0
  have hown : s.vm.findClass "java/lang/Math" = some m.cls := findClass_of_methodNamed Bd.named
  have hnm := (name_of_methodNamed Bd.named Bd.method).1
  have X0 : Stand p l e ({ frames := 0, cells := 0, slots := 0, locals := 0 } : Room) s m #[(.int aa), (.int aa)] below meth c s₁ [] 0 0 := Stand.of_body Bd
  have e0 : s₁.heap = h0 := by rw [← hh, Bd.state]; rfl
  have N0 := Fr.nil n0
  have K0 : Keep h0 h0 [] := Keep.refl _ _
  show own_Fin p.tables e below (own_Post (Q_rm_min Z aa h0 n0) ({ frames := 0, cells := 0, slots := 0, locals := 0 } : Room).cells ({ frames := 0, cells := 0, slots := 0, locals := 0 } : Room).slots below s) _
  refine own_go (fun _ q => castTop (ef_rm_min m aa) q) ?_
  refine own_go (fun _ q => XS.iloadN X0.here hx rfl (hb hby d22_0) rfl q) ?_
  refine own_go (fun _ q => XS.iloadN X0.here hx rfl (hb hby d22_1) rfl q) ?_
  show own_Fin _ _ _ _ (s₁.setTop (mkF m 2 #[.val (.int aa), .val (.int aa)] [(.int aa), (.int aa)]))
  refine own_go (fun _ q => XS.icmpNo X0.here hx rfl (hb hby d22_2) rfl (flt (own_irr _)).2.2.1 q) ?_
  refine own_go (fun _ q => XS.iloadN X0.here hx rfl (hb hby d22_5) rfl q) ?_
  refine own_go (fun _ q => XS.goto X0.here hx rfl (pc0 := 6) (pc' := 10) rfl (hb hby d22_6) (by decide) (by decide) q) ?_
  show own_Fin _ _ _ _ (s₁.setTop (mkF m 10 #[.val (.int aa), .val (.int aa)] [(.int aa)]))
  refine own_retI X0 hx Bd (t := .int) Bd.returns rfl (by simp) (hb hby d22_10) ?_ (by decide) (by decide)
  show (Q_rm_min Z aa h0 n0) (some (.int aa)) s₁.heap _
  rw [e0]
  exact ⟨rfl, N0, rfl⟩
def Q_rm_cft (Z : State) (nn : Int32) (gs : Value) (h0 : Heap) (n0 : Nat) (v : Option Value) (h : Heap) (L : List Loc) : Prop := v = some (.int (0 : Int32)) ∧ Fr n0 L ∧ h = h0
theorem ef_rm_cft (m : MethodId) (nn : Int32) (gs : Value) (hgs : gs.isRef = true) : entryFrame m #[(.int (0 : Int32)), (.int nn), (.int nn), gs] 4 = mkF m 0 #[.val (.int (0 : Int32)), .val (.int nn), .val (.int nn), .val gs] [] := by cases gs <;> first | (simp [entryFrame, mkF, argsToLocals, Value.category]; done) | rfl | (simp [Value.isRef] at hgs; done)
set_option maxRecDepth 65536 in
set_option maxHeartbeats 40000000 in
theorem rm_cft (l : Launch) (Z : State) (a0 : Array Value) (hw : ∀ d ∈ tables_1, d.before a0 Z = true) (ws : List Jvm.Cond) (nn : Int32) (gs : Value) (h0 : Heap) (n0 : Nat) (Z0 : n0 ≤ h0.size) (hgs : gs.isRef = true) (hn0 : ¬ nn < (0 : Int32)) :
    MetFree l (⟨"jdk/internal/util/Preconditions", "checkFromToIndex", "(IIILjava/util/function/BiFunction;)I"⟩ : MethodName) (head1 (Jvm.Cond.code (⟨"jdk/internal/util/Preconditions", "checkFromToIndex", "(IIILjava/util/function/BiFunction;)I"⟩ : MethodName) jdk_41_method_12_code 4 (some .int) :: ws) ({ frames := 0, cells := 0, slots := 0, locals := 0 } : Room)) (fun a_ U_ => a_ = #[(.int (0 : Int32)), (.int nn), (.int nn), gs] ∧ Z.Warmed39 U_.vm ∧ U_.heap = h0) (fun _ _ _ _ _ => True) (fun _ U_ o_ V_ => ∃ v_ L_, o_ = .returned v_ ∧ (Q_rm_cft Z nn gs h0 n0) v_ V_.heap L_ ∧ FrameEnd U_ o_ V_ L_ ({ frames := 0, cells := 0, slots := 0, locals := 0 } : Room).cells ({ frames := 0, cells := 0, slots := 0, locals := 0 } : Room).slots) := by
  refine MetFree.of_bodySF (plainFor_of_name pn_15) hisR ?_
  intro p e s m args below meth c s₁ Bd hml0 hP hK
  obtain ⟨rfl, hZ, hh⟩ := hP
  have hx := Bd.exec
  have hby := Bd.bytes
  have hml : c.maxLocals = 4 := hml0
  have hown : s.vm.findClass "jdk/internal/util/Preconditions" = some m.cls := findClass_of_methodNamed Bd.named
  have hnm := (name_of_methodNamed Bd.named Bd.method).1
  have X0 : Stand p l e ({ frames := 0, cells := 0, slots := 0, locals := 0 } : Room) s m #[(.int (0 : Int32)), (.int nn), (.int nn), gs] below meth c s₁ [] 0 0 := Stand.of_body Bd
  have e0 : s₁.heap = h0 := by rw [← hh, Bd.state]; rfl
  have N0 := Fr.nil n0
  have K0 : Keep h0 h0 [] := Keep.refl _ _
  show own_Fin p.tables e below (own_Post (Q_rm_cft Z nn gs h0 n0) ({ frames := 0, cells := 0, slots := 0, locals := 0 } : Room).cells ({ frames := 0, cells := 0, slots := 0, locals := 0 } : Room).slots below s) _
  refine own_go (fun _ q => castTop (ef_rm_cft m nn gs hgs) q) ?_
  refine own_go (fun _ q => XS.iloadN X0.here hx rfl (hb hby d38_0) rfl q) ?_
  show own_Fin _ _ _ _ (s₁.setTop (mkF m 1 #[.val (.int (0 : Int32)), .val (.int nn), .val (.int nn), .val gs] [(.int (0 : Int32))]))
  refine own_go (fun _ q => XS.ifNo X0.here hx rfl (hb hby d38_1) rfl ((if0 _ _).trans (flt (by decide : ¬ (0 : Int32) < (0 : Int32))).1) q) ?_
  refine own_go (fun _ q => XS.iloadN X0.here hx rfl (hb hby d38_4) rfl q) ?_
  refine own_go (fun _ q => XS.iloadN X0.here hx rfl (hb hby d38_5) rfl q) ?_
  show own_Fin _ _ _ _ (s₁.setTop (mkF m 6 #[.val (.int (0 : Int32)), .val (.int nn), .val (.int nn), .val gs] [(.int nn), (.int (0 : Int32))]))
  refine own_go (fun _ q => XS.icmpNo X0.here hx rfl (hb hby d38_6) rfl (flt hn0).2.2.1 q) ?_
  refine own_go (fun _ q => XS.iloadN X0.here hx rfl (hb hby d38_9) rfl q) ?_
  refine own_go (fun _ q => XS.iloadN X0.here hx rfl (hb hby d38_10) rfl q) ?_
  show own_Fin _ _ _ _ (s₁.setTop (mkF m 11 #[.val (.int (0 : Int32)), .val (.int nn), .val (.int nn), .val gs] [(.int nn), (.int nn)]))
  refine own_go (fun _ q => XS.icmpYes X0.here hx rfl (pc0 := 11) (pc' := 22) rfl (hb hby d38_11) rfl (flt (own_irr _)).2.2.2 (by decide) (by decide) q) ?_
  refine own_go (fun _ q => XS.iloadN X0.here hx rfl (hb hby d38_22) rfl q) ?_
  show own_Fin _ _ _ _ (s₁.setTop (mkF m 23 #[.val (.int (0 : Int32)), .val (.int nn), .val (.int nn), .val gs] [(.int (0 : Int32))]))
  refine own_retI X0 hx Bd (t := .int) Bd.returns rfl (by simp) (hb hby d38_23) ?_ (by decide) (by decide)
  show (Q_rm_cft Z nn gs h0 n0) (some (.int (0 : Int32))) s₁.heap _
  rw [e0]
  exact ⟨rfl, N0, rfl⟩
def Q_rm_scb (Z : State) (nn : Int32) (gs : Value) (h0 : Heap) (n0 : Nat) (v : Option Value) (h : Heap) (L : List Loc) : Prop := v = none ∧ Fr n0 L ∧ h = h0
theorem ef_rm_scb (m : MethodId) (nn : Int32) (gs : Value) : entryFrame m #[(.int (0 : Int32)), (.int nn), (.int nn)] 3 = mkF m 0 #[.val (.int (0 : Int32)), .val (.int nn), .val (.int nn)] [] := by first | (simp [entryFrame, mkF, argsToLocals, Value.category]; done) | rfl
set_option maxRecDepth 65536 in
set_option maxHeartbeats 40000000 in
theorem rm_scb (l : Launch) (Z : State) (a0 : Array Value) (hw : ∀ d ∈ tables_1, d.before a0 Z = true) (ws : List Jvm.Cond) (nn : Int32) (gs : Value) (h0 : Heap) (n0 : Nat) (Z0 : n0 ≤ h0.size) (hn0 : ¬ nn < (0 : Int32)) (S_F : Sta Z Z.heap "jdk/internal/util/Preconditions" "SIOOBE_FORMATTER" "Ljava/util/function/BiFunction;" gs) (hgs : gs.isRef = true) (O0 : Old Z n0 h0) :
    MetFree l (⟨"java/lang/String", "checkBoundsBeginEnd", "(III)V"⟩ : MethodName) (head1 (Jvm.Cond.code (⟨"java/lang/String", "checkBoundsBeginEnd", "(III)V"⟩ : MethodName) jdk_42_method_158_code 3 none :: ws) ({ frames := 1, cells := 0, slots := 0, locals := 15 } : Room)) (fun a_ U_ => a_ = #[(.int (0 : Int32)), (.int nn), (.int nn)] ∧ Z.Warmed39 U_.vm ∧ U_.heap = h0) (fun _ _ _ _ _ => True) (fun _ U_ o_ V_ => ∃ v_ L_, o_ = .returned v_ ∧ (Q_rm_scb Z nn gs h0 n0) v_ V_.heap L_ ∧ FrameEnd U_ o_ V_ L_ ({ frames := 1, cells := 0, slots := 0, locals := 15 } : Room).cells ({ frames := 1, cells := 0, slots := 0, locals := 15 } : Room).slots) := by
  refine MetFree.of_bodySF (plainFor_of_name pn_0) hisR ?_
  intro p e s m args below meth c s₁ Bd hml0 hP hK
  obtain ⟨rfl, hZ, hh⟩ := hP
  have hx := Bd.exec
  have hby := Bd.bytes
  have hml : c.maxLocals = 3 := hml0
  have hown : s.vm.findClass "java/lang/String" = some m.cls := findClass_of_methodNamed Bd.named
  have hnm := (name_of_methodNamed Bd.named Bd.method).1
  have X0 : Stand p l e ({ frames := 1, cells := 0, slots := 0, locals := 15 } : Room) s m #[(.int (0 : Int32)), (.int nn), (.int nn)] below meth c s₁ [] 0 0 := Stand.of_body Bd
  have e0 : s₁.heap = h0 := by rw [← hh, Bd.state]; rfl
  have N0 := Fr.nil n0
  have K0 : Keep h0 h0 [] := Keep.refl _ _
  show own_Fin p.tables e below (own_Post (Q_rm_scb Z nn gs h0 n0) ({ frames := 1, cells := 0, slots := 0, locals := 15 } : Room).cells ({ frames := 1, cells := 0, slots := 0, locals := 15 } : Room).slots below s) _
  refine own_go (fun _ q => castTop (ef_rm_scb m nn gs) q) ?_
  have hg1 := own_refcat hgs
  refine own_go (fun _ q => XS.iloadN X0.here hx rfl (hb hby d37_0) rfl q) ?_
  refine own_go (fun _ q => XS.iloadN X0.here hx rfl (hb hby d37_1) rfl q) ?_
  refine own_go (fun _ q => XS.iloadN X0.here hx rfl (hb hby d37_2) rfl q) ?_
  show own_Fin _ _ _ _ (s₁.setTop (mkF m 3 #[.val (.int (0 : Int32)), .val (.int nn), .val (.int nn)] [(.int nn), (.int nn), (.int (0 : Int32))]))
  obtain ⟨T227, X227, e227, st227⟩ := getS2 X0 hx hZ hown (host := "") (Or.inl (own_w hw 156 rfl)) Via.refl e0 (S_F.ext O0.2) (g := (mkF m 3 #[.val (.int (0 : Int32)), .val (.int nn), .val (.int nn)] [(.int nn), (.int nn), (.int (0 : Int32))])) rfl (hb hby d37_3)
  refine own_go st227 ?_
  show own_Fin _ _ _ _ (T227.setTop (mkF m 6 #[.val (.int (0 : Int32)), .val (.int nn), .val (.int nn)] [gs, (.int nn), (.int nn), (.int (0 : Int32))]))
  obtain ⟨_, _, ⟨T228, L228, k228, n228⟩, -, X228, ⟨Lc228, hQ228, l228, y228, z228⟩, st228⟩ := Jvm.LawKit.callS X227 hx (y := (⟨"jdk/internal/util/Preconditions", "checkFromToIndex", "(IIILjava/util/function/BiFunction;)I"⟩ : MethodName)) hown (mvT hZ (own_w hw 158 rfl)) (mvT hZ (own_w hw 159 rfl)) (mvT hZ (own_w hw 157 rfl)) (mvT hZ (own_w hw 160 rfl)) (by decide) (backOf (W := 0) (rm_cft l Z a0 hw [] nn gs h0 n0 (Nat.le_trans Z0 K0.1) hgs hn0) hZ (own_w hw 160 rfl) (own_w hw 157 rfl) (by decide) (by decide)) (g := (mkF m 6 #[.val (.int (0 : Int32)), .val (.int nn), .val (.int nn)] [gs, (.int nn), (.int nn), (.int (0 : Int32))])) rfl (by rw [hml]; rfl) (argsL := [(.int (0 : Int32)), (.int nn), (.int nn), gs]) (rest := []) (lenOf pd_16 rfl) rfl (by show 2 * 0 + _ ≤ _; exact Nat.le_of_eq rfl) (hb hby d37_6) (fun _ _ => ⟨rfl, e227, (by decide : 0 + 0 ≤ _), (by decide : 0 + 0 ≤ _)⟩)
  dsimp only [Pt.U, Pt.locs, Pt.cells, Pt.slots] at X228 l228 y228 z228 st228 hQ228
  subst l228 y228 z228
  obtain ⟨rfl, N228q, e228⟩ := hQ228
  have N228 := Fr.app N0 N228q
  refine own_go st228 ?_
  show own_Fin _ _ _ _ (T228.setTop (mkF m 9 #[.val (.int (0 : Int32)), .val (.int nn), .val (.int nn)] [(.int (0 : Int32))]))
  refine own_go (fun _ q => XS.pop X228.here hx rfl (hb hby d37_9) rfl rfl q) ?_
  show own_Fin _ _ _ _ (T228.setTop (mkF m 10 #[.val (.int (0 : Int32)), .val (.int nn), .val (.int nn)] []))
  refine own_ret0 X228 hx Bd (hb hby d37_10) ?_ (by decide) (by decide)
  show (Q_rm_scb Z nn gs h0 n0) none T228.heap _
  rw [e228]
  exact ⟨rfl, N228, rfl⟩
def Q_rm_ul (Z : State) (bb : Addr) (kb : ClassId) (cs : List Int32) (h0 : Heap) (n0 : Nat) (v : Option Value) (h : Heap) (L : List Loc) : Prop := v = some (.int (Int32.ofNat cs.length)) ∧ Fr n0 L ∧ h = h0
theorem ef_rm_ul (m : MethodId) (bb : Addr) (cs : List Int32) : entryFrame m #[(.ref bb)] 1 = mkF m 0 #[.val (.ref bb)] [] := by first | (simp [entryFrame, mkF, argsToLocals, Value.category]; done) | rfl
set_option maxRecDepth 65536 in
set_option maxHeartbeats 40000000 in
theorem rm_ul (l : Launch) (Z : State) (a0 : Array Value) (hw : ∀ d ∈ tables_1, d.before a0 Z = true) (ws : List Jvm.Cond) (bb : Addr) (kb : ClassId) (cs : List Int32) (h0 : Heap) (n0 : Nat) (Z0 : n0 ≤ h0.size) (V_bb : Arv Z h0 bb kb .byte (Int32.ofNat (2 * cs.length)) (StrChars.Road.wideBytes cs) (.int (0 : Int32))) (hL : 0 < cs.length ∧ cs.length ≤ 4) :
    MetFree l (⟨"java/lang/StringUTF16", "length", "([B)I"⟩ : MethodName) (head1 (Jvm.Cond.code (⟨"java/lang/StringUTF16", "length", "([B)I"⟩ : MethodName) jdk_52_method_6_code 1 (some .int) :: ws) ({ frames := 0, cells := 0, slots := 0, locals := 0 } : Room)) (fun a_ U_ => a_ = #[(.ref bb)] ∧ Z.Warmed39 U_.vm ∧ U_.heap = h0) (fun _ _ _ _ _ => True) (fun _ U_ o_ V_ => ∃ v_ L_, o_ = .returned v_ ∧ (Q_rm_ul Z bb kb cs h0 n0) v_ V_.heap L_ ∧ FrameEnd U_ o_ V_ L_ ({ frames := 0, cells := 0, slots := 0, locals := 0 } : Room).cells ({ frames := 0, cells := 0, slots := 0, locals := 0 } : Room).slots) := by
  refine MetFree.of_bodySF (plainFor_of_name pn_2) hisR ?_
  intro p e s m args below meth c s₁ Bd hml0 hP hK
  obtain ⟨rfl, hZ, hh⟩ := hP
  have hx := Bd.exec
  have hby := Bd.bytes
  have hml : c.maxLocals = 1 := hml0
  have hown : s.vm.findClass "java/lang/StringUTF16" = some m.cls := findClass_of_methodNamed Bd.named
  have hnm := (name_of_methodNamed Bd.named Bd.method).1
  have X0 : Stand p l e ({ frames := 0, cells := 0, slots := 0, locals := 0 } : Room) s m #[(.ref bb)] below meth c s₁ [] 0 0 := Stand.of_body Bd
  have e0 : s₁.heap = h0 := by rw [← hh, Bd.state]; rfl
  have N0 := Fr.nil n0
  have K0 : Keep h0 h0 [] := Keep.refl _ _
  show own_Fin p.tables e below (own_Post (Q_rm_ul Z bb kb cs h0 n0) ({ frames := 0, cells := 0, slots := 0, locals := 0 } : Room).cells ({ frames := 0, cells := 0, slots := 0, locals := 0 } : Room).slots below s) _
  refine own_go (fun _ q => castTop (ef_rm_ul m bb cs) q) ?_
  refine own_go (fun _ q => XS.aloadN X0.here hx rfl (hb hby d36_0) rfl rfl q) ?_
  show own_Fin _ _ _ _ (s₁.setTop (mkF m 1 #[.val (.ref bb)] [(.ref bb)]))
  refine own_go (fun _ q => own_alen X0 hx hZ e0 V_bb (g := (mkF m 1 #[.val (.ref bb)] [(.ref bb)])) rfl rfl (hb hby d36_1) _ q) ?_
  refine own_go (fun _ q => XS.iconst X0.here hx rfl (hb hby d36_2) q) ?_
  show own_Fin _ _ _ _ (s₁.setTop (mkF m 3 #[.val (.ref bb)] [(.int (1 : Int32)), (.int (Int32.ofNat (2 * cs.length)))]))
  refine own_go (fun _ q => XS.ishr X0.here hx rfl (hb hby d36_3) rfl q) ?_
  show own_Fin _ _ _ _ (s₁.setTop (mkF m 4 #[.val (.ref bb)] [(.int ((Int32.ofNat (2 * cs.length)) >>> ((1 : Int32) &&& 31)))]))
  rw [StrChars.shr1 (by omega)]
  show own_Fin _ _ _ _ (s₁.setTop (mkF m 4 #[.val (.ref bb)] [(.int (Int32.ofNat cs.length))]))
  refine own_retI X0 hx Bd (t := .int) Bd.returns rfl (by simp) (hb hby d36_4) ?_ (by decide) (by decide)
  show (Q_rm_ul Z bb kb cs h0 n0) (some (.int (Int32.ofNat cs.length))) s₁.heap _
  rw [e0]
  exact ⟨rfl, N0, rfl⟩
def Q_rm_lic1 (Z : State) (bb : Addr) (kb : ClassId) (qq : Int32) (ch0 : Int32) (h0 : Heap) (n0 : Nat) (v : Option Value) (h : Heap) (L : List Loc) : Prop := ∃ z : Int32, v = some (.int z) ∧ Fr n0 L ∧ h = h0 ∧ ((¬ z < 0 ∧ qq ∈ ([ch0] : List Int32)) ∨ (z < 0 ∧ qq ∉ ([ch0] : List Int32)))
theorem ef_rm_lic1 (m : MethodId) (bb : Addr) (qq : Int32) (ch0 : Int32) : entryFrame m #[(.ref bb), (.int qq), (.int (0 : Int32)), (.int (1 : Int32))] 6 = mkF m 0 #[.val (.ref bb), .val (.int qq), .val (.int (0 : Int32)), .val (.int (1 : Int32)), .unset, .unset] [] := by first | (simp [entryFrame, mkF, argsToLocals, Value.category]; done) | rfl
set_option maxRecDepth 65536 in
set_option maxHeartbeats 40000000 in
theorem rm_lic1 (l : Launch) (Z : State) (a0 : Array Value) (hw : ∀ d ∈ tables_1, d.before a0 Z = true) (ws : List Jvm.Cond) (bb : Addr) (kb : ClassId) (qq : Int32) (ch0 : Int32) (h0 : Heap) (n0 : Nat) (Z0 : n0 ≤ h0.size) (V_bb : Arv Z h0 bb kb .byte (1 : Int32) [(.int (ch0.toInt8.toInt32))] (.int (0 : Int32))) (hbd : ∀ c ∈ ([ch0] : List Int32), ¬ c < 0 ∧ ¬ (65535 : Int32) < c) (hcd : ∀ c ∈ ([ch0] : List Int32), ¬ (255 : Int32) < c) (hq : ¬ qq < 0 ∧ ¬ (255 : Int32) < qq) :
    MetFree l (⟨"java/lang/StringLatin1", "indexOfChar", "([BIII)I"⟩ : MethodName) (head1 (Jvm.Cond.code (⟨"java/lang/StringLatin1", "indexOfChar", "([BIII)I"⟩ : MethodName) jdk_43_method_23_code 6 (some .int) :: ws) ({ frames := 0, cells := 0, slots := 0, locals := 0 } : Room)) (fun a_ U_ => a_ = #[(.ref bb), (.int qq), (.int (0 : Int32)), (.int (1 : Int32))] ∧ Z.Warmed39 U_.vm ∧ U_.heap = h0) (fun _ _ _ _ _ => True) (fun _ U_ o_ V_ => ∃ v_ L_, o_ = .returned v_ ∧ (Q_rm_lic1 Z bb kb qq ch0 h0 n0) v_ V_.heap L_ ∧ FrameEnd U_ o_ V_ L_ ({ frames := 0, cells := 0, slots := 0, locals := 0 } : Room).cells ({ frames := 0, cells := 0, slots := 0, locals := 0 } : Room).slots) := by
  refine MetFree.of_bodySF (plainFor_of_name pn_10) hisR ?_
  intro p e s m args below meth c s₁ Bd hml0 hP hK
  obtain ⟨rfl, hZ, hh⟩ := hP
  have hx := Bd.exec
  have hby := Bd.bytes
  have hml : c.maxLocals = 6 := hml0
  have hown : s.vm.findClass "java/lang/StringLatin1" = some m.cls := findClass_of_methodNamed Bd.named
  have hnm := (name_of_methodNamed Bd.named Bd.method).1
  have X0 : Stand p l e ({ frames := 0, cells := 0, slots := 0, locals := 0 } : Room) s m #[(.ref bb), (.int qq), (.int (0 : Int32)), (.int (1 : Int32))] below meth c s₁ [] 0 0 := Stand.of_body Bd
  have e0 : s₁.heap = h0 := by rw [← hh, Bd.state]; rfl
  have N0 := Fr.nil n0
  have K0 : Keep h0 h0 [] := Keep.refl _ _
  show own_Fin p.tables e below (own_Post (Q_rm_lic1 Z bb kb qq ch0 h0 n0) ({ frames := 0, cells := 0, slots := 0, locals := 0 } : Room).cells ({ frames := 0, cells := 0, slots := 0, locals := 0 } : Room).slots below s) _
  refine own_go (fun _ q => castTop (ef_rm_lic1 m bb qq ch0) q) ?_
  refine own_go (fun _ q => XS.iloadN X0.here hx rfl (hb hby d23_0) rfl q) ?_
  show own_Fin _ _ _ _ (s₁.setTop (mkF m 1 #[.val (.ref bb), .val (.int qq), .val (.int (0 : Int32)), .val (.int (1 : Int32)), .unset, .unset] [(.int qq)]))
  refine own_go (fun _ q => XS.i2b X0.here hx rfl (hb hby d23_1) rfl q) ?_
  refine own_go (fun _ q => XS.istore X0.here hx rfl (hb hby d23_2) rfl (l' := #[.val (.ref bb), .val (.int qq), .val (.int (0 : Int32)), .val (.int (1 : Int32)), .val (.int (qq.toInt8.toInt32)), .unset]) rfl q) ?_
  refine own_go (fun _ q => XS.iloadN X0.here hx rfl (hb hby d23_4) rfl q) ?_
  refine own_go (fun _ q => XS.istore X0.here hx rfl (hb hby d23_5) rfl (l' := #[.val (.ref bb), .val (.int qq), .val (.int (0 : Int32)), .val (.int (1 : Int32)), .val (.int (qq.toInt8.toInt32)), .val (.int (0 : Int32))]) rfl q) ?_
  refine own_go (fun _ q => XS.iload X0.here hx rfl (hb hby d23_7) rfl q) ?_
  refine own_go (fun _ q => XS.iloadN X0.here hx rfl (hb hby d23_9) rfl q) ?_
  show own_Fin _ _ _ _ (s₁.setTop (mkF m 10 #[.val (.ref bb), .val (.int qq), .val (.int (0 : Int32)), .val (.int (1 : Int32)), .val (.int (qq.toInt8.toInt32)), .val (.int (0 : Int32))] [(.int (1 : Int32)), (.int (0 : Int32))]))
  refine own_go (fun _ q => XS.icmpNo X0.here hx rfl (hb hby d23_10) rfl (tlt (by decide : (0 : Int32) < (1 : Int32))).2.1 q) ?_
  refine own_go (fun _ q => XS.aloadN X0.here hx rfl (hb hby d23_13) rfl rfl q) ?_
  refine own_go (fun _ q => XS.iload X0.here hx rfl (hb hby d23_14) rfl q) ?_
  show own_Fin _ _ _ _ (s₁.setTop (mkF m 16 #[.val (.ref bb), .val (.int qq), .val (.int (0 : Int32)), .val (.int (1 : Int32)), .val (.int (qq.toInt8.toInt32)), .val (.int (0 : Int32))] [(.int (0 : Int32)), (.ref bb)]))
  refine own_go (fun _ q => own_baload X0 hx hZ e0 V_bb (by decide) (v := (.int (ch0.toInt8.toInt32))) (rfl) (g := (mkF m 16 #[.val (.ref bb), .val (.int qq), .val (.int (0 : Int32)), .val (.int (1 : Int32)), .val (.int (qq.toInt8.toInt32)), .val (.int (0 : Int32))] [(.int (0 : Int32)), (.ref bb)])) rfl rfl (hb hby d23_16) _ q) ?_
  refine own_go (fun _ q => XS.iload X0.here hx rfl (hb hby d23_17) rfl q) ?_
  show own_Fin _ _ _ _ (s₁.setTop (mkF m 19 #[.val (.ref bb), .val (.int qq), .val (.int (0 : Int32)), .val (.int (1 : Int32)), .val (.int (qq.toInt8.toInt32)), .val (.int (0 : Int32))] [(.int (qq.toInt8.toInt32)), (.int (ch0.toInt8.toInt32))]))
  by_cases hc229 : (ch0.toInt8.toInt32) = (qq.toInt8.toInt32)
  · skip
    refine own_go (fun _ q => XS.icmpNo X0.here hx rfl (hb hby d23_19) rfl (teq hc229).2 q) ?_
    refine own_go (fun _ q => XS.iload X0.here hx rfl (hb hby d23_22) rfl q) ?_
    show own_Fin _ _ _ _ (s₁.setTop (mkF m 24 #[.val (.ref bb), .val (.int qq), .val (.int (0 : Int32)), .val (.int (1 : Int32)), .val (.int (qq.toInt8.toInt32)), .val (.int (0 : Int32))] [(.int (0 : Int32))]))
    refine own_retI X0 hx Bd (t := .int) Bd.returns rfl (by simp) (hb hby d23_24) ?_ (by decide) (by decide)
    show (Q_rm_lic1 Z bb kb qq ch0 h0 n0) (some (.int (0 : Int32))) s₁.heap _
    rw [e0]
    exact ⟨_, rfl, N0, rfl, Or.inl ⟨by decide, own_memi (own_m 0 rfl) (own_lo8i ⟨(hbd _ (own_m 0 rfl)).1, hcd _ (own_m 0 rfl)⟩ hq hc229)⟩⟩
  · skip
    refine own_go (fun _ q => XS.icmpYes X0.here hx rfl (pc0 := 19) (pc' := 25) rfl (hb hby d23_19) rfl (feq hc229).2 (by decide) (by decide) q) ?_
    show own_Fin _ _ _ _ (s₁.setTop (mkF m 25 #[.val (.ref bb), .val (.int qq), .val (.int (0 : Int32)), .val (.int (1 : Int32)), .val (.int (qq.toInt8.toInt32)), .val (.int (0 : Int32))] []))
    refine own_go (fun _ q => XS.iinc X0.here hx rfl (hb hby d23_25) rfl (l' := #[.val (.ref bb), .val (.int qq), .val (.int (0 : Int32)), .val (.int (1 : Int32)), .val (.int (qq.toInt8.toInt32)), .val (.int (1 : Int32))]) rfl q) ?_
    refine own_go (fun _ q => XS.goto X0.here hx rfl (pc0 := 28) (pc' := 7) rfl (hb hby d23_28) (by decide) (by decide) q) ?_
    refine own_go (fun _ q => XS.iload X0.here hx rfl (hb hby d23_7) rfl q) ?_
    refine own_go (fun _ q => XS.iloadN X0.here hx rfl (hb hby d23_9) rfl q) ?_
    show own_Fin _ _ _ _ (s₁.setTop (mkF m 10 #[.val (.ref bb), .val (.int qq), .val (.int (0 : Int32)), .val (.int (1 : Int32)), .val (.int (qq.toInt8.toInt32)), .val (.int (1 : Int32))] [(.int (1 : Int32)), (.int (1 : Int32))]))
    refine own_go (fun _ q => XS.icmpYes X0.here hx rfl (pc0 := 10) (pc' := 31) rfl (hb hby d23_10) rfl (flt (by decide : ¬ (1 : Int32) < (1 : Int32))).2.1 (by decide) (by decide) q) ?_
    refine own_go (fun _ q => XS.iconst X0.here hx rfl (hb hby d23_31) q) ?_
    show own_Fin _ _ _ _ (s₁.setTop (mkF m 32 #[.val (.ref bb), .val (.int qq), .val (.int (0 : Int32)), .val (.int (1 : Int32)), .val (.int (qq.toInt8.toInt32)), .val (.int (1 : Int32))] [(.int (-1 : Int32))]))
    refine own_retI X0 hx Bd (t := .int) Bd.returns rfl (by simp) (hb hby d23_32) ?_ (by decide) (by decide)
    show (Q_rm_lic1 Z bb kb qq ch0 h0 n0) (some (.int (-1 : Int32))) s₁.heap _
    rw [e0]
    refine ⟨_, rfl, N0, rfl, Or.inr ⟨by decide, fun hm => ?_⟩⟩
    simp only [List.mem_cons, List.not_mem_nil, or_false] at hm
    rcases hm with hm
    · exact hc229 (by rw [hm])
def Q_rm_uiu1 (Z : State) (bb : Addr) (kb : ClassId) (qq : Int32) (ch0 : Int32) (h0 : Heap) (n0 : Nat) (v : Option Value) (h : Heap) (L : List Loc) : Prop := ∃ z : Int32, v = some (.int z) ∧ Fr n0 L ∧ h = h0 ∧ ((¬ z < 0 ∧ qq ∈ ([ch0] : List Int32)) ∨ (z < 0 ∧ qq ∉ ([ch0] : List Int32)))
theorem ef_rm_uiu1 (m : MethodId) (bb : Addr) (qq : Int32) (ch0 : Int32) : entryFrame m #[(.ref bb), (.int qq), (.int (0 : Int32)), (.int (1 : Int32))] 5 = mkF m 0 #[.val (.ref bb), .val (.int qq), .val (.int (0 : Int32)), .val (.int (1 : Int32)), .unset] [] := by first | (simp [entryFrame, mkF, argsToLocals, Value.category]; done) | rfl
set_option maxRecDepth 65536 in
set_option maxHeartbeats 40000000 in
theorem rm_uiu1 (l : Launch) (Z : State) (a0 : Array Value) (hw : ∀ d ∈ tables_1, d.before a0 Z = true) (ws : List Jvm.Cond) (bb : Addr) (kb : ClassId) (qq : Int32) (ch0 : Int32) (h0 : Heap) (n0 : Nat) (Z0 : n0 ≤ h0.size) (V_bb : Arv Z h0 bb kb .byte (2 : Int32) [(.int (ch0.toInt8.toInt32)), (.int ((ch0 >>> ((8 : Int32) &&& 31)).toInt8.toInt32))] (.int (0 : Int32))) (hbd : ∀ c ∈ ([ch0] : List Int32), ¬ c < 0 ∧ ¬ (65535 : Int32) < c) (hq : ¬ qq < 0 ∧ ¬ (255 : Int32) < qq) (O0 : Old Z n0 h0) (S_A : Sta Z Z.heap "java/lang/StringUTF16" "$assertionsDisabled" "Z" (.int (1 : Int32))) (S_H : Sta Z Z.heap "java/lang/StringUTF16" "HI_BYTE_SHIFT" "I" (.int (0 : Int32))) (S_L : Sta Z Z.heap "java/lang/StringUTF16" "LO_BYTE_SHIFT" "I" (.int (8 : Int32))) :
    MetFree l (⟨"java/lang/StringUTF16", "indexOfCharUnsafe", "([BIII)I"⟩ : MethodName) (head1 (Jvm.Cond.code (⟨"java/lang/StringUTF16", "indexOfCharUnsafe", "([BIII)I"⟩ : MethodName) jdk_52_method_48_code 5 (some .int) :: ws) ({ frames := 1, cells := 0, slots := 0, locals := 13 } : Room)) (fun a_ U_ => a_ = #[(.ref bb), (.int qq), (.int (0 : Int32)), (.int (1 : Int32))] ∧ Z.Warmed39 U_.vm ∧ U_.heap = h0) (fun _ _ _ _ _ => True) (fun _ U_ o_ V_ => ∃ v_ L_, o_ = .returned v_ ∧ (Q_rm_uiu1 Z bb kb qq ch0 h0 n0) v_ V_.heap L_ ∧ FrameEnd U_ o_ V_ L_ ({ frames := 1, cells := 0, slots := 0, locals := 13 } : Room).cells ({ frames := 1, cells := 0, slots := 0, locals := 13 } : Room).slots) := by
  refine MetFree.of_bodySF (plainFor_of_name pn_2) hisR ?_
  intro p e s m args below meth c s₁ Bd hml0 hP hK
  obtain ⟨rfl, hZ, hh⟩ := hP
  have hx := Bd.exec
  have hby := Bd.bytes
  have hml : c.maxLocals = 5 := hml0
  have hown : s.vm.findClass "java/lang/StringUTF16" = some m.cls := findClass_of_methodNamed Bd.named
  have hnm := (name_of_methodNamed Bd.named Bd.method).1
  have X0 : Stand p l e ({ frames := 1, cells := 0, slots := 0, locals := 13 } : Room) s m #[(.ref bb), (.int qq), (.int (0 : Int32)), (.int (1 : Int32))] below meth c s₁ [] 0 0 := Stand.of_body Bd
  have e0 : s₁.heap = h0 := by rw [← hh, Bd.state]; rfl
  have N0 := Fr.nil n0
  have K0 : Keep h0 h0 [] := Keep.refl _ _
  show own_Fin p.tables e below (own_Post (Q_rm_uiu1 Z bb kb qq ch0 h0 n0) ({ frames := 1, cells := 0, slots := 0, locals := 13 } : Room).cells ({ frames := 1, cells := 0, slots := 0, locals := 13 } : Room).slots below s) _
  refine own_go (fun _ q => castTop (ef_rm_uiu1 m bb qq ch0) q) ?_
  refine own_go (fun _ q => XS.iloadN X0.here hx rfl (hb hby d39_0) rfl q) ?_
  refine own_go (fun _ q => XS.istore X0.here hx rfl (hb hby d39_1) rfl (l' := #[.val (.ref bb), .val (.int qq), .val (.int (0 : Int32)), .val (.int (1 : Int32)), .val (.int (0 : Int32))]) rfl q) ?_
  refine own_go (fun _ q => XS.iload X0.here hx rfl (hb hby d39_3) rfl q) ?_
  refine own_go (fun _ q => XS.iloadN X0.here hx rfl (hb hby d39_5) rfl q) ?_
  show own_Fin _ _ _ _ (s₁.setTop (mkF m 6 #[.val (.ref bb), .val (.int qq), .val (.int (0 : Int32)), .val (.int (1 : Int32)), .val (.int (0 : Int32))] [(.int (1 : Int32)), (.int (0 : Int32))]))
  refine own_go (fun _ q => XS.icmpNo X0.here hx rfl (hb hby d39_6) rfl (tlt (by decide : (0 : Int32) < (1 : Int32))).2.1 q) ?_
  refine own_go (fun _ q => XS.aloadN X0.here hx rfl (hb hby d39_9) rfl rfl q) ?_
  refine own_go (fun _ q => XS.iload X0.here hx rfl (hb hby d39_10) rfl q) ?_
  show own_Fin _ _ _ _ (s₁.setTop (mkF m 12 #[.val (.ref bb), .val (.int qq), .val (.int (0 : Int32)), .val (.int (1 : Int32)), .val (.int (0 : Int32))] [(.int (0 : Int32)), (.ref bb)]))
  obtain ⟨_, _, ⟨T230, L230, k230, n230⟩, -, X230, ⟨Lc230, hQ230, l230, y230, z230⟩, st230⟩ := Jvm.LawKit.callS X0 hx (y := (⟨"java/lang/StringUTF16", "getChar", "([BI)C"⟩ : MethodName)) hown (mvT hZ (own_w hw 135 rfl)) (mvT hZ (own_w hw 136 rfl)) (mvT hZ (own_w hw 43 rfl)) (mvT hZ (own_w hw 137 rfl)) (by decide) (backOf (W := 0) (rm_gc l Z a0 hw [] bb kb (0 : Int32) ch0 (2 : Int32) [(.int (ch0.toInt8.toInt32)), (.int ((ch0 >>> ((8 : Int32) &&& 31)).toInt8.toInt32))] h0 n0 (Nat.le_trans Z0 K0.1) V_bb (by decide) (by decide) rfl rfl (hbd _ (own_m 0 rfl)) O0 S_A S_H S_L) hZ (own_w hw 137 rfl) (own_w hw 43 rfl) (by decide) (by decide)) (g := (mkF m 12 #[.val (.ref bb), .val (.int qq), .val (.int (0 : Int32)), .val (.int (1 : Int32)), .val (.int (0 : Int32))] [(.int (0 : Int32)), (.ref bb)])) rfl (by rw [hml]; rfl) (argsL := [(.ref bb), (.int (0 : Int32))]) (rest := []) (lenOf pd_8 rfl) rfl (by show 2 * 0 + _ ≤ _; exact Nat.le_of_eq rfl) (hb hby d39_12) (fun _ _ => ⟨rfl, e0, (by decide : 0 + 0 ≤ _), (by decide : 0 + 0 ≤ _)⟩)
  dsimp only [Pt.U, Pt.locs, Pt.cells, Pt.slots] at X230 l230 y230 z230 st230 hQ230
  subst l230 y230 z230
  obtain ⟨rfl, N230q, e230⟩ := hQ230
  have N230 := Fr.app N0 N230q
  refine own_go st230 ?_
  refine own_go (fun _ q => XS.iloadN X230.here hx rfl (hb hby d39_15) rfl q) ?_
  show own_Fin _ _ _ _ (T230.setTop (mkF m 16 #[.val (.ref bb), .val (.int qq), .val (.int (0 : Int32)), .val (.int (1 : Int32)), .val (.int (0 : Int32))] [(.int qq), (.int ch0)]))
  by_cases hc231 : ch0 = qq
  · skip
    refine own_go (fun _ q => XS.icmpNo X230.here hx rfl (hb hby d39_16) rfl (teq hc231).2 q) ?_
    refine own_go (fun _ q => XS.iload X230.here hx rfl (hb hby d39_19) rfl q) ?_
    show own_Fin _ _ _ _ (T230.setTop (mkF m 21 #[.val (.ref bb), .val (.int qq), .val (.int (0 : Int32)), .val (.int (1 : Int32)), .val (.int (0 : Int32))] [(.int (0 : Int32))]))
    refine own_retI X230 hx Bd (t := .int) Bd.returns rfl (by simp) (hb hby d39_21) ?_ (by decide) (by decide)
    show (Q_rm_uiu1 Z bb kb qq ch0 h0 n0) (some (.int (0 : Int32))) T230.heap _
    rw [e230]
    exact ⟨_, rfl, N230, rfl, Or.inl ⟨by decide, own_memi (own_m 0 rfl) hc231⟩⟩
  · skip
    refine own_go (fun _ q => XS.icmpYes X230.here hx rfl (pc0 := 16) (pc' := 22) rfl (hb hby d39_16) rfl (feq hc231).2 (by decide) (by decide) q) ?_
    show own_Fin _ _ _ _ (T230.setTop (mkF m 22 #[.val (.ref bb), .val (.int qq), .val (.int (0 : Int32)), .val (.int (1 : Int32)), .val (.int (0 : Int32))] []))
    refine own_go (fun _ q => XS.iinc X230.here hx rfl (hb hby d39_22) rfl (l' := #[.val (.ref bb), .val (.int qq), .val (.int (0 : Int32)), .val (.int (1 : Int32)), .val (.int (1 : Int32))]) rfl q) ?_
    refine own_go (fun _ q => XS.goto X230.here hx rfl (pc0 := 25) (pc' := 3) rfl (hb hby d39_25) (by decide) (by decide) q) ?_
    refine own_go (fun _ q => XS.iload X230.here hx rfl (hb hby d39_3) rfl q) ?_
    refine own_go (fun _ q => XS.iloadN X230.here hx rfl (hb hby d39_5) rfl q) ?_
    show own_Fin _ _ _ _ (T230.setTop (mkF m 6 #[.val (.ref bb), .val (.int qq), .val (.int (0 : Int32)), .val (.int (1 : Int32)), .val (.int (1 : Int32))] [(.int (1 : Int32)), (.int (1 : Int32))]))
    refine own_go (fun _ q => XS.icmpYes X230.here hx rfl (pc0 := 6) (pc' := 28) rfl (hb hby d39_6) rfl (flt (by decide : ¬ (1 : Int32) < (1 : Int32))).2.1 (by decide) (by decide) q) ?_
    refine own_go (fun _ q => XS.iconst X230.here hx rfl (hb hby d39_28) q) ?_
    show own_Fin _ _ _ _ (T230.setTop (mkF m 29 #[.val (.ref bb), .val (.int qq), .val (.int (0 : Int32)), .val (.int (1 : Int32)), .val (.int (1 : Int32))] [(.int (-1 : Int32))]))
    refine own_retI X230 hx Bd (t := .int) Bd.returns rfl (by simp) (hb hby d39_29) ?_ (by decide) (by decide)
    show (Q_rm_uiu1 Z bb kb qq ch0 h0 n0) (some (.int (-1 : Int32))) T230.heap _
    rw [e230]
    refine ⟨_, rfl, N230, rfl, Or.inr ⟨by decide, fun hm => ?_⟩⟩
    simp only [List.mem_cons, List.not_mem_nil, or_false] at hm
    rcases hm with hm
    · exact hc231 (by rw [hm])
def Q_rm_lic2 (Z : State) (bb : Addr) (kb : ClassId) (qq : Int32) (ch0 : Int32) (ch1 : Int32) (h0 : Heap) (n0 : Nat) (v : Option Value) (h : Heap) (L : List Loc) : Prop := ∃ z : Int32, v = some (.int z) ∧ Fr n0 L ∧ h = h0 ∧ ((¬ z < 0 ∧ qq ∈ ([ch0, ch1] : List Int32)) ∨ (z < 0 ∧ qq ∉ ([ch0, ch1] : List Int32)))
theorem ef_rm_lic2 (m : MethodId) (bb : Addr) (qq : Int32) (ch0 : Int32) (ch1 : Int32) : entryFrame m #[(.ref bb), (.int qq), (.int (0 : Int32)), (.int (2 : Int32))] 6 = mkF m 0 #[.val (.ref bb), .val (.int qq), .val (.int (0 : Int32)), .val (.int (2 : Int32)), .unset, .unset] [] := by first | (simp [entryFrame, mkF, argsToLocals, Value.category]; done) | rfl
set_option maxRecDepth 65536 in
set_option maxHeartbeats 40000000 in
theorem rm_lic2 (l : Launch) (Z : State) (a0 : Array Value) (hw : ∀ d ∈ tables_1, d.before a0 Z = true) (ws : List Jvm.Cond) (bb : Addr) (kb : ClassId) (qq : Int32) (ch0 : Int32) (ch1 : Int32) (h0 : Heap) (n0 : Nat) (Z0 : n0 ≤ h0.size) (V_bb : Arv Z h0 bb kb .byte (2 : Int32) [(.int (ch0.toInt8.toInt32)), (.int (ch1.toInt8.toInt32))] (.int (0 : Int32))) (hbd : ∀ c ∈ ([ch0, ch1] : List Int32), ¬ c < 0 ∧ ¬ (65535 : Int32) < c) (hcd : ∀ c ∈ ([ch0, ch1] : List Int32), ¬ (255 : Int32) < c) (hq : ¬ qq < 0 ∧ ¬ (255 : Int32) < qq) :
    MetFree l (⟨"java/lang/StringLatin1", "indexOfChar", "([BIII)I"⟩ : MethodName) (head1 (Jvm.Cond.code (⟨"java/lang/StringLatin1", "indexOfChar", "([BIII)I"⟩ : MethodName) jdk_43_method_23_code 6 (some .int) :: ws) ({ frames := 0, cells := 0, slots := 0, locals := 0 } : Room)) (fun a_ U_ => a_ = #[(.ref bb), (.int qq), (.int (0 : Int32)), (.int (2 : Int32))] ∧ Z.Warmed39 U_.vm ∧ U_.heap = h0) (fun _ _ _ _ _ => True) (fun _ U_ o_ V_ => ∃ v_ L_, o_ = .returned v_ ∧ (Q_rm_lic2 Z bb kb qq ch0 ch1 h0 n0) v_ V_.heap L_ ∧ FrameEnd U_ o_ V_ L_ ({ frames := 0, cells := 0, slots := 0, locals := 0 } : Room).cells ({ frames := 0, cells := 0, slots := 0, locals := 0 } : Room).slots) := by
  refine MetFree.of_bodySF (plainFor_of_name pn_10) hisR ?_
  intro p e s m args below meth c s₁ Bd hml0 hP hK
  obtain ⟨rfl, hZ, hh⟩ := hP
  have hx := Bd.exec
  have hby := Bd.bytes
  have hml : c.maxLocals = 6 := hml0
  have hown : s.vm.findClass "java/lang/StringLatin1" = some m.cls := findClass_of_methodNamed Bd.named
  have hnm := (name_of_methodNamed Bd.named Bd.method).1
  have X0 : Stand p l e ({ frames := 0, cells := 0, slots := 0, locals := 0 } : Room) s m #[(.ref bb), (.int qq), (.int (0 : Int32)), (.int (2 : Int32))] below meth c s₁ [] 0 0 := Stand.of_body Bd
  have e0 : s₁.heap = h0 := by rw [← hh, Bd.state]; rfl
  have N0 := Fr.nil n0
  have K0 : Keep h0 h0 [] := Keep.refl _ _
  show own_Fin p.tables e below (own_Post (Q_rm_lic2 Z bb kb qq ch0 ch1 h0 n0) ({ frames := 0, cells := 0, slots := 0, locals := 0 } : Room).cells ({ frames := 0, cells := 0, slots := 0, locals := 0 } : Room).slots below s) _
  refine own_go (fun _ q => castTop (ef_rm_lic2 m bb qq ch0 ch1) q) ?_
  refine own_go (fun _ q => XS.iloadN X0.here hx rfl (hb hby d23_0) rfl q) ?_
  show own_Fin _ _ _ _ (s₁.setTop (mkF m 1 #[.val (.ref bb), .val (.int qq), .val (.int (0 : Int32)), .val (.int (2 : Int32)), .unset, .unset] [(.int qq)]))
  refine own_go (fun _ q => XS.i2b X0.here hx rfl (hb hby d23_1) rfl q) ?_
  refine own_go (fun _ q => XS.istore X0.here hx rfl (hb hby d23_2) rfl (l' := #[.val (.ref bb), .val (.int qq), .val (.int (0 : Int32)), .val (.int (2 : Int32)), .val (.int (qq.toInt8.toInt32)), .unset]) rfl q) ?_
  refine own_go (fun _ q => XS.iloadN X0.here hx rfl (hb hby d23_4) rfl q) ?_
  refine own_go (fun _ q => XS.istore X0.here hx rfl (hb hby d23_5) rfl (l' := #[.val (.ref bb), .val (.int qq), .val (.int (0 : Int32)), .val (.int (2 : Int32)), .val (.int (qq.toInt8.toInt32)), .val (.int (0 : Int32))]) rfl q) ?_
  refine own_go (fun _ q => XS.iload X0.here hx rfl (hb hby d23_7) rfl q) ?_
  refine own_go (fun _ q => XS.iloadN X0.here hx rfl (hb hby d23_9) rfl q) ?_
  show own_Fin _ _ _ _ (s₁.setTop (mkF m 10 #[.val (.ref bb), .val (.int qq), .val (.int (0 : Int32)), .val (.int (2 : Int32)), .val (.int (qq.toInt8.toInt32)), .val (.int (0 : Int32))] [(.int (2 : Int32)), (.int (0 : Int32))]))
  refine own_go (fun _ q => XS.icmpNo X0.here hx rfl (hb hby d23_10) rfl (tlt (by decide : (0 : Int32) < (2 : Int32))).2.1 q) ?_
  refine own_go (fun _ q => XS.aloadN X0.here hx rfl (hb hby d23_13) rfl rfl q) ?_
  refine own_go (fun _ q => XS.iload X0.here hx rfl (hb hby d23_14) rfl q) ?_
  show own_Fin _ _ _ _ (s₁.setTop (mkF m 16 #[.val (.ref bb), .val (.int qq), .val (.int (0 : Int32)), .val (.int (2 : Int32)), .val (.int (qq.toInt8.toInt32)), .val (.int (0 : Int32))] [(.int (0 : Int32)), (.ref bb)]))
  refine own_go (fun _ q => own_baload X0 hx hZ e0 V_bb (by decide) (v := (.int (ch0.toInt8.toInt32))) (rfl) (g := (mkF m 16 #[.val (.ref bb), .val (.int qq), .val (.int (0 : Int32)), .val (.int (2 : Int32)), .val (.int (qq.toInt8.toInt32)), .val (.int (0 : Int32))] [(.int (0 : Int32)), (.ref bb)])) rfl rfl (hb hby d23_16) _ q) ?_
  refine own_go (fun _ q => XS.iload X0.here hx rfl (hb hby d23_17) rfl q) ?_
  show own_Fin _ _ _ _ (s₁.setTop (mkF m 19 #[.val (.ref bb), .val (.int qq), .val (.int (0 : Int32)), .val (.int (2 : Int32)), .val (.int (qq.toInt8.toInt32)), .val (.int (0 : Int32))] [(.int (qq.toInt8.toInt32)), (.int (ch0.toInt8.toInt32))]))
  by_cases hc232 : (ch0.toInt8.toInt32) = (qq.toInt8.toInt32)
  · skip
    refine own_go (fun _ q => XS.icmpNo X0.here hx rfl (hb hby d23_19) rfl (teq hc232).2 q) ?_
    refine own_go (fun _ q => XS.iload X0.here hx rfl (hb hby d23_22) rfl q) ?_
    show own_Fin _ _ _ _ (s₁.setTop (mkF m 24 #[.val (.ref bb), .val (.int qq), .val (.int (0 : Int32)), .val (.int (2 : Int32)), .val (.int (qq.toInt8.toInt32)), .val (.int (0 : Int32))] [(.int (0 : Int32))]))
    refine own_retI X0 hx Bd (t := .int) Bd.returns rfl (by simp) (hb hby d23_24) ?_ (by decide) (by decide)
    show (Q_rm_lic2 Z bb kb qq ch0 ch1 h0 n0) (some (.int (0 : Int32))) s₁.heap _
    rw [e0]
    exact ⟨_, rfl, N0, rfl, Or.inl ⟨by decide, own_memi (own_m 0 rfl) (own_lo8i ⟨(hbd _ (own_m 0 rfl)).1, hcd _ (own_m 0 rfl)⟩ hq hc232)⟩⟩
  · skip
    refine own_go (fun _ q => XS.icmpYes X0.here hx rfl (pc0 := 19) (pc' := 25) rfl (hb hby d23_19) rfl (feq hc232).2 (by decide) (by decide) q) ?_
    show own_Fin _ _ _ _ (s₁.setTop (mkF m 25 #[.val (.ref bb), .val (.int qq), .val (.int (0 : Int32)), .val (.int (2 : Int32)), .val (.int (qq.toInt8.toInt32)), .val (.int (0 : Int32))] []))
    refine own_go (fun _ q => XS.iinc X0.here hx rfl (hb hby d23_25) rfl (l' := #[.val (.ref bb), .val (.int qq), .val (.int (0 : Int32)), .val (.int (2 : Int32)), .val (.int (qq.toInt8.toInt32)), .val (.int (1 : Int32))]) rfl q) ?_
    refine own_go (fun _ q => XS.goto X0.here hx rfl (pc0 := 28) (pc' := 7) rfl (hb hby d23_28) (by decide) (by decide) q) ?_
    refine own_go (fun _ q => XS.iload X0.here hx rfl (hb hby d23_7) rfl q) ?_
    refine own_go (fun _ q => XS.iloadN X0.here hx rfl (hb hby d23_9) rfl q) ?_
    show own_Fin _ _ _ _ (s₁.setTop (mkF m 10 #[.val (.ref bb), .val (.int qq), .val (.int (0 : Int32)), .val (.int (2 : Int32)), .val (.int (qq.toInt8.toInt32)), .val (.int (1 : Int32))] [(.int (2 : Int32)), (.int (1 : Int32))]))
    refine own_go (fun _ q => XS.icmpNo X0.here hx rfl (hb hby d23_10) rfl (tlt (by decide : (1 : Int32) < (2 : Int32))).2.1 q) ?_
    refine own_go (fun _ q => XS.aloadN X0.here hx rfl (hb hby d23_13) rfl rfl q) ?_
    refine own_go (fun _ q => XS.iload X0.here hx rfl (hb hby d23_14) rfl q) ?_
    show own_Fin _ _ _ _ (s₁.setTop (mkF m 16 #[.val (.ref bb), .val (.int qq), .val (.int (0 : Int32)), .val (.int (2 : Int32)), .val (.int (qq.toInt8.toInt32)), .val (.int (1 : Int32))] [(.int (1 : Int32)), (.ref bb)]))
    refine own_go (fun _ q => own_baload X0 hx hZ e0 V_bb (by decide) (v := (.int (ch1.toInt8.toInt32))) (rfl) (g := (mkF m 16 #[.val (.ref bb), .val (.int qq), .val (.int (0 : Int32)), .val (.int (2 : Int32)), .val (.int (qq.toInt8.toInt32)), .val (.int (1 : Int32))] [(.int (1 : Int32)), (.ref bb)])) rfl rfl (hb hby d23_16) _ q) ?_
    refine own_go (fun _ q => XS.iload X0.here hx rfl (hb hby d23_17) rfl q) ?_
    show own_Fin _ _ _ _ (s₁.setTop (mkF m 19 #[.val (.ref bb), .val (.int qq), .val (.int (0 : Int32)), .val (.int (2 : Int32)), .val (.int (qq.toInt8.toInt32)), .val (.int (1 : Int32))] [(.int (qq.toInt8.toInt32)), (.int (ch1.toInt8.toInt32))]))
    by_cases hc233 : (ch1.toInt8.toInt32) = (qq.toInt8.toInt32)
    · skip
      refine own_go (fun _ q => XS.icmpNo X0.here hx rfl (hb hby d23_19) rfl (teq hc233).2 q) ?_
      refine own_go (fun _ q => XS.iload X0.here hx rfl (hb hby d23_22) rfl q) ?_
      show own_Fin _ _ _ _ (s₁.setTop (mkF m 24 #[.val (.ref bb), .val (.int qq), .val (.int (0 : Int32)), .val (.int (2 : Int32)), .val (.int (qq.toInt8.toInt32)), .val (.int (1 : Int32))] [(.int (1 : Int32))]))
      refine own_retI X0 hx Bd (t := .int) Bd.returns rfl (by simp) (hb hby d23_24) ?_ (by decide) (by decide)
      show (Q_rm_lic2 Z bb kb qq ch0 ch1 h0 n0) (some (.int (1 : Int32))) s₁.heap _
      rw [e0]
      exact ⟨_, rfl, N0, rfl, Or.inl ⟨by decide, own_memi (own_m 1 rfl) (own_lo8i ⟨(hbd _ (own_m 1 rfl)).1, hcd _ (own_m 1 rfl)⟩ hq hc233)⟩⟩
    · skip
      refine own_go (fun _ q => XS.icmpYes X0.here hx rfl (pc0 := 19) (pc' := 25) rfl (hb hby d23_19) rfl (feq hc233).2 (by decide) (by decide) q) ?_
      show own_Fin _ _ _ _ (s₁.setTop (mkF m 25 #[.val (.ref bb), .val (.int qq), .val (.int (0 : Int32)), .val (.int (2 : Int32)), .val (.int (qq.toInt8.toInt32)), .val (.int (1 : Int32))] []))
      refine own_go (fun _ q => XS.iinc X0.here hx rfl (hb hby d23_25) rfl (l' := #[.val (.ref bb), .val (.int qq), .val (.int (0 : Int32)), .val (.int (2 : Int32)), .val (.int (qq.toInt8.toInt32)), .val (.int (2 : Int32))]) rfl q) ?_
      refine own_go (fun _ q => XS.goto X0.here hx rfl (pc0 := 28) (pc' := 7) rfl (hb hby d23_28) (by decide) (by decide) q) ?_
      refine own_go (fun _ q => XS.iload X0.here hx rfl (hb hby d23_7) rfl q) ?_
      refine own_go (fun _ q => XS.iloadN X0.here hx rfl (hb hby d23_9) rfl q) ?_
      show own_Fin _ _ _ _ (s₁.setTop (mkF m 10 #[.val (.ref bb), .val (.int qq), .val (.int (0 : Int32)), .val (.int (2 : Int32)), .val (.int (qq.toInt8.toInt32)), .val (.int (2 : Int32))] [(.int (2 : Int32)), (.int (2 : Int32))]))
      refine own_go (fun _ q => XS.icmpYes X0.here hx rfl (pc0 := 10) (pc' := 31) rfl (hb hby d23_10) rfl (flt (by decide : ¬ (2 : Int32) < (2 : Int32))).2.1 (by decide) (by decide) q) ?_
      refine own_go (fun _ q => XS.iconst X0.here hx rfl (hb hby d23_31) q) ?_
      show own_Fin _ _ _ _ (s₁.setTop (mkF m 32 #[.val (.ref bb), .val (.int qq), .val (.int (0 : Int32)), .val (.int (2 : Int32)), .val (.int (qq.toInt8.toInt32)), .val (.int (2 : Int32))] [(.int (-1 : Int32))]))
      refine own_retI X0 hx Bd (t := .int) Bd.returns rfl (by simp) (hb hby d23_32) ?_ (by decide) (by decide)
      show (Q_rm_lic2 Z bb kb qq ch0 ch1 h0 n0) (some (.int (-1 : Int32))) s₁.heap _
      rw [e0]
      refine ⟨_, rfl, N0, rfl, Or.inr ⟨by decide, fun hm => ?_⟩⟩
      simp only [List.mem_cons, List.not_mem_nil, or_false] at hm
      rcases hm with hm | hm
      · exact hc232 (by rw [hm])
      · exact hc233 (by rw [hm])
def Q_rm_uiu2 (Z : State) (bb : Addr) (kb : ClassId) (qq : Int32) (ch0 : Int32) (ch1 : Int32) (h0 : Heap) (n0 : Nat) (v : Option Value) (h : Heap) (L : List Loc) : Prop := ∃ z : Int32, v = some (.int z) ∧ Fr n0 L ∧ h = h0 ∧ ((¬ z < 0 ∧ qq ∈ ([ch0, ch1] : List Int32)) ∨ (z < 0 ∧ qq ∉ ([ch0, ch1] : List Int32)))
theorem ef_rm_uiu2 (m : MethodId) (bb : Addr) (qq : Int32) (ch0 : Int32) (ch1 : Int32) : entryFrame m #[(.ref bb), (.int qq), (.int (0 : Int32)), (.int (2 : Int32))] 5 = mkF m 0 #[.val (.ref bb), .val (.int qq), .val (.int (0 : Int32)), .val (.int (2 : Int32)), .unset] [] := by first | (simp [entryFrame, mkF, argsToLocals, Value.category]; done) | rfl
set_option maxRecDepth 65536 in
set_option maxHeartbeats 40000000 in
theorem rm_uiu2 (l : Launch) (Z : State) (a0 : Array Value) (hw : ∀ d ∈ tables_1, d.before a0 Z = true) (ws : List Jvm.Cond) (bb : Addr) (kb : ClassId) (qq : Int32) (ch0 : Int32) (ch1 : Int32) (h0 : Heap) (n0 : Nat) (Z0 : n0 ≤ h0.size) (V_bb : Arv Z h0 bb kb .byte (4 : Int32) [(.int (ch0.toInt8.toInt32)), (.int ((ch0 >>> ((8 : Int32) &&& 31)).toInt8.toInt32)), (.int (ch1.toInt8.toInt32)), (.int ((ch1 >>> ((8 : Int32) &&& 31)).toInt8.toInt32))] (.int (0 : Int32))) (hbd : ∀ c ∈ ([ch0, ch1] : List Int32), ¬ c < 0 ∧ ¬ (65535 : Int32) < c) (hq : ¬ qq < 0 ∧ ¬ (255 : Int32) < qq) (O0 : Old Z n0 h0) (S_A : Sta Z Z.heap "java/lang/StringUTF16" "$assertionsDisabled" "Z" (.int (1 : Int32))) (S_H : Sta Z Z.heap "java/lang/StringUTF16" "HI_BYTE_SHIFT" "I" (.int (0 : Int32))) (S_L : Sta Z Z.heap "java/lang/StringUTF16" "LO_BYTE_SHIFT" "I" (.int (8 : Int32))) :
    MetFree l (⟨"java/lang/StringUTF16", "indexOfCharUnsafe", "([BIII)I"⟩ : MethodName) (head1 (Jvm.Cond.code (⟨"java/lang/StringUTF16", "indexOfCharUnsafe", "([BIII)I"⟩ : MethodName) jdk_52_method_48_code 5 (some .int) :: ws) ({ frames := 1, cells := 0, slots := 0, locals := 13 } : Room)) (fun a_ U_ => a_ = #[(.ref bb), (.int qq), (.int (0 : Int32)), (.int (2 : Int32))] ∧ Z.Warmed39 U_.vm ∧ U_.heap = h0) (fun _ _ _ _ _ => True) (fun _ U_ o_ V_ => ∃ v_ L_, o_ = .returned v_ ∧ (Q_rm_uiu2 Z bb kb qq ch0 ch1 h0 n0) v_ V_.heap L_ ∧ FrameEnd U_ o_ V_ L_ ({ frames := 1, cells := 0, slots := 0, locals := 13 } : Room).cells ({ frames := 1, cells := 0, slots := 0, locals := 13 } : Room).slots) := by
  refine MetFree.of_bodySF (plainFor_of_name pn_2) hisR ?_
  intro p e s m args below meth c s₁ Bd hml0 hP hK
  obtain ⟨rfl, hZ, hh⟩ := hP
  have hx := Bd.exec
  have hby := Bd.bytes
  have hml : c.maxLocals = 5 := hml0
  have hown : s.vm.findClass "java/lang/StringUTF16" = some m.cls := findClass_of_methodNamed Bd.named
  have hnm := (name_of_methodNamed Bd.named Bd.method).1
  have X0 : Stand p l e ({ frames := 1, cells := 0, slots := 0, locals := 13 } : Room) s m #[(.ref bb), (.int qq), (.int (0 : Int32)), (.int (2 : Int32))] below meth c s₁ [] 0 0 := Stand.of_body Bd
  have e0 : s₁.heap = h0 := by rw [← hh, Bd.state]; rfl
  have N0 := Fr.nil n0
  have K0 : Keep h0 h0 [] := Keep.refl _ _
  show own_Fin p.tables e below (own_Post (Q_rm_uiu2 Z bb kb qq ch0 ch1 h0 n0) ({ frames := 1, cells := 0, slots := 0, locals := 13 } : Room).cells ({ frames := 1, cells := 0, slots := 0, locals := 13 } : Room).slots below s) _
  refine own_go (fun _ q => castTop (ef_rm_uiu2 m bb qq ch0 ch1) q) ?_
  refine own_go (fun _ q => XS.iloadN X0.here hx rfl (hb hby d39_0) rfl q) ?_
  refine own_go (fun _ q => XS.istore X0.here hx rfl (hb hby d39_1) rfl (l' := #[.val (.ref bb), .val (.int qq), .val (.int (0 : Int32)), .val (.int (2 : Int32)), .val (.int (0 : Int32))]) rfl q) ?_
  refine own_go (fun _ q => XS.iload X0.here hx rfl (hb hby d39_3) rfl q) ?_
  refine own_go (fun _ q => XS.iloadN X0.here hx rfl (hb hby d39_5) rfl q) ?_
  show own_Fin _ _ _ _ (s₁.setTop (mkF m 6 #[.val (.ref bb), .val (.int qq), .val (.int (0 : Int32)), .val (.int (2 : Int32)), .val (.int (0 : Int32))] [(.int (2 : Int32)), (.int (0 : Int32))]))
  refine own_go (fun _ q => XS.icmpNo X0.here hx rfl (hb hby d39_6) rfl (tlt (by decide : (0 : Int32) < (2 : Int32))).2.1 q) ?_
  refine own_go (fun _ q => XS.aloadN X0.here hx rfl (hb hby d39_9) rfl rfl q) ?_
  refine own_go (fun _ q => XS.iload X0.here hx rfl (hb hby d39_10) rfl q) ?_
  show own_Fin _ _ _ _ (s₁.setTop (mkF m 12 #[.val (.ref bb), .val (.int qq), .val (.int (0 : Int32)), .val (.int (2 : Int32)), .val (.int (0 : Int32))] [(.int (0 : Int32)), (.ref bb)]))
  obtain ⟨_, _, ⟨T234, L234, k234, n234⟩, -, X234, ⟨Lc234, hQ234, l234, y234, z234⟩, st234⟩ := Jvm.LawKit.callS X0 hx (y := (⟨"java/lang/StringUTF16", "getChar", "([BI)C"⟩ : MethodName)) hown (mvT hZ (own_w hw 135 rfl)) (mvT hZ (own_w hw 136 rfl)) (mvT hZ (own_w hw 43 rfl)) (mvT hZ (own_w hw 137 rfl)) (by decide) (backOf (W := 0) (rm_gc l Z a0 hw [] bb kb (0 : Int32) ch0 (4 : Int32) [(.int (ch0.toInt8.toInt32)), (.int ((ch0 >>> ((8 : Int32) &&& 31)).toInt8.toInt32)), (.int (ch1.toInt8.toInt32)), (.int ((ch1 >>> ((8 : Int32) &&& 31)).toInt8.toInt32))] h0 n0 (Nat.le_trans Z0 K0.1) V_bb (by decide) (by decide) rfl rfl (hbd _ (own_m 0 rfl)) O0 S_A S_H S_L) hZ (own_w hw 137 rfl) (own_w hw 43 rfl) (by decide) (by decide)) (g := (mkF m 12 #[.val (.ref bb), .val (.int qq), .val (.int (0 : Int32)), .val (.int (2 : Int32)), .val (.int (0 : Int32))] [(.int (0 : Int32)), (.ref bb)])) rfl (by rw [hml]; rfl) (argsL := [(.ref bb), (.int (0 : Int32))]) (rest := []) (lenOf pd_8 rfl) rfl (by show 2 * 0 + _ ≤ _; exact Nat.le_of_eq rfl) (hb hby d39_12) (fun _ _ => ⟨rfl, e0, (by decide : 0 + 0 ≤ _), (by decide : 0 + 0 ≤ _)⟩)
  dsimp only [Pt.U, Pt.locs, Pt.cells, Pt.slots] at X234 l234 y234 z234 st234 hQ234
  subst l234 y234 z234
  obtain ⟨rfl, N234q, e234⟩ := hQ234
  have N234 := Fr.app N0 N234q
  refine own_go st234 ?_
  refine own_go (fun _ q => XS.iloadN X234.here hx rfl (hb hby d39_15) rfl q) ?_
  show own_Fin _ _ _ _ (T234.setTop (mkF m 16 #[.val (.ref bb), .val (.int qq), .val (.int (0 : Int32)), .val (.int (2 : Int32)), .val (.int (0 : Int32))] [(.int qq), (.int ch0)]))
  by_cases hc235 : ch0 = qq
  · skip
    refine own_go (fun _ q => XS.icmpNo X234.here hx rfl (hb hby d39_16) rfl (teq hc235).2 q) ?_
    refine own_go (fun _ q => XS.iload X234.here hx rfl (hb hby d39_19) rfl q) ?_
    show own_Fin _ _ _ _ (T234.setTop (mkF m 21 #[.val (.ref bb), .val (.int qq), .val (.int (0 : Int32)), .val (.int (2 : Int32)), .val (.int (0 : Int32))] [(.int (0 : Int32))]))
    refine own_retI X234 hx Bd (t := .int) Bd.returns rfl (by simp) (hb hby d39_21) ?_ (by decide) (by decide)
    show (Q_rm_uiu2 Z bb kb qq ch0 ch1 h0 n0) (some (.int (0 : Int32))) T234.heap _
    rw [e234]
    exact ⟨_, rfl, N234, rfl, Or.inl ⟨by decide, own_memi (own_m 0 rfl) hc235⟩⟩
  · skip
    refine own_go (fun _ q => XS.icmpYes X234.here hx rfl (pc0 := 16) (pc' := 22) rfl (hb hby d39_16) rfl (feq hc235).2 (by decide) (by decide) q) ?_
    show own_Fin _ _ _ _ (T234.setTop (mkF m 22 #[.val (.ref bb), .val (.int qq), .val (.int (0 : Int32)), .val (.int (2 : Int32)), .val (.int (0 : Int32))] []))
    refine own_go (fun _ q => XS.iinc X234.here hx rfl (hb hby d39_22) rfl (l' := #[.val (.ref bb), .val (.int qq), .val (.int (0 : Int32)), .val (.int (2 : Int32)), .val (.int (1 : Int32))]) rfl q) ?_
    refine own_go (fun _ q => XS.goto X234.here hx rfl (pc0 := 25) (pc' := 3) rfl (hb hby d39_25) (by decide) (by decide) q) ?_
    refine own_go (fun _ q => XS.iload X234.here hx rfl (hb hby d39_3) rfl q) ?_
    refine own_go (fun _ q => XS.iloadN X234.here hx rfl (hb hby d39_5) rfl q) ?_
    show own_Fin _ _ _ _ (T234.setTop (mkF m 6 #[.val (.ref bb), .val (.int qq), .val (.int (0 : Int32)), .val (.int (2 : Int32)), .val (.int (1 : Int32))] [(.int (2 : Int32)), (.int (1 : Int32))]))
    refine own_go (fun _ q => XS.icmpNo X234.here hx rfl (hb hby d39_6) rfl (tlt (by decide : (1 : Int32) < (2 : Int32))).2.1 q) ?_
    refine own_go (fun _ q => XS.aloadN X234.here hx rfl (hb hby d39_9) rfl rfl q) ?_
    refine own_go (fun _ q => XS.iload X234.here hx rfl (hb hby d39_10) rfl q) ?_
    show own_Fin _ _ _ _ (T234.setTop (mkF m 12 #[.val (.ref bb), .val (.int qq), .val (.int (0 : Int32)), .val (.int (2 : Int32)), .val (.int (1 : Int32))] [(.int (1 : Int32)), (.ref bb)]))
    obtain ⟨_, _, ⟨T236, L236, k236, n236⟩, -, X236, ⟨Lc236, hQ236, l236, y236, z236⟩, st236⟩ := Jvm.LawKit.callS X234 hx (y := (⟨"java/lang/StringUTF16", "getChar", "([BI)C"⟩ : MethodName)) hown (mvT hZ (own_w hw 135 rfl)) (mvT hZ (own_w hw 136 rfl)) (mvT hZ (own_w hw 43 rfl)) (mvT hZ (own_w hw 137 rfl)) (by decide) (backOf (W := 0) (rm_gc l Z a0 hw [] bb kb (1 : Int32) ch1 (4 : Int32) [(.int (ch0.toInt8.toInt32)), (.int ((ch0 >>> ((8 : Int32) &&& 31)).toInt8.toInt32)), (.int (ch1.toInt8.toInt32)), (.int ((ch1 >>> ((8 : Int32) &&& 31)).toInt8.toInt32))] h0 n0 (Nat.le_trans Z0 K0.1) V_bb (by decide) (by decide) rfl rfl (hbd _ (own_m 1 rfl)) O0 S_A S_H S_L) hZ (own_w hw 137 rfl) (own_w hw 43 rfl) (by decide) (by decide)) (g := (mkF m 12 #[.val (.ref bb), .val (.int qq), .val (.int (0 : Int32)), .val (.int (2 : Int32)), .val (.int (1 : Int32))] [(.int (1 : Int32)), (.ref bb)])) rfl (by rw [hml]; rfl) (argsL := [(.ref bb), (.int (1 : Int32))]) (rest := []) (lenOf pd_8 rfl) rfl (by show 2 * 0 + _ ≤ _; exact Nat.le_of_eq rfl) (hb hby d39_12) (fun _ _ => ⟨rfl, e234, (by decide : 0 + 0 ≤ _), (by decide : 0 + 0 ≤ _)⟩)
    dsimp only [Pt.U, Pt.locs, Pt.cells, Pt.slots] at X236 l236 y236 z236 st236 hQ236
    subst l236 y236 z236
    obtain ⟨rfl, N236q, e236⟩ := hQ236
    have N236 := Fr.app N234 N236q
    refine own_go st236 ?_
    refine own_go (fun _ q => XS.iloadN X236.here hx rfl (hb hby d39_15) rfl q) ?_
    show own_Fin _ _ _ _ (T236.setTop (mkF m 16 #[.val (.ref bb), .val (.int qq), .val (.int (0 : Int32)), .val (.int (2 : Int32)), .val (.int (1 : Int32))] [(.int qq), (.int ch1)]))
    by_cases hc237 : ch1 = qq
    · skip
      refine own_go (fun _ q => XS.icmpNo X236.here hx rfl (hb hby d39_16) rfl (teq hc237).2 q) ?_
      refine own_go (fun _ q => XS.iload X236.here hx rfl (hb hby d39_19) rfl q) ?_
      show own_Fin _ _ _ _ (T236.setTop (mkF m 21 #[.val (.ref bb), .val (.int qq), .val (.int (0 : Int32)), .val (.int (2 : Int32)), .val (.int (1 : Int32))] [(.int (1 : Int32))]))
      refine own_retI X236 hx Bd (t := .int) Bd.returns rfl (by simp) (hb hby d39_21) ?_ (by decide) (by decide)
      show (Q_rm_uiu2 Z bb kb qq ch0 ch1 h0 n0) (some (.int (1 : Int32))) T236.heap _
      rw [e236]
      exact ⟨_, rfl, N236, rfl, Or.inl ⟨by decide, own_memi (own_m 1 rfl) hc237⟩⟩
    · skip
      refine own_go (fun _ q => XS.icmpYes X236.here hx rfl (pc0 := 16) (pc' := 22) rfl (hb hby d39_16) rfl (feq hc237).2 (by decide) (by decide) q) ?_
      show own_Fin _ _ _ _ (T236.setTop (mkF m 22 #[.val (.ref bb), .val (.int qq), .val (.int (0 : Int32)), .val (.int (2 : Int32)), .val (.int (1 : Int32))] []))
      refine own_go (fun _ q => XS.iinc X236.here hx rfl (hb hby d39_22) rfl (l' := #[.val (.ref bb), .val (.int qq), .val (.int (0 : Int32)), .val (.int (2 : Int32)), .val (.int (2 : Int32))]) rfl q) ?_
      refine own_go (fun _ q => XS.goto X236.here hx rfl (pc0 := 25) (pc' := 3) rfl (hb hby d39_25) (by decide) (by decide) q) ?_
      refine own_go (fun _ q => XS.iload X236.here hx rfl (hb hby d39_3) rfl q) ?_
      refine own_go (fun _ q => XS.iloadN X236.here hx rfl (hb hby d39_5) rfl q) ?_
      show own_Fin _ _ _ _ (T236.setTop (mkF m 6 #[.val (.ref bb), .val (.int qq), .val (.int (0 : Int32)), .val (.int (2 : Int32)), .val (.int (2 : Int32))] [(.int (2 : Int32)), (.int (2 : Int32))]))
      refine own_go (fun _ q => XS.icmpYes X236.here hx rfl (pc0 := 6) (pc' := 28) rfl (hb hby d39_6) rfl (flt (by decide : ¬ (2 : Int32) < (2 : Int32))).2.1 (by decide) (by decide) q) ?_
      refine own_go (fun _ q => XS.iconst X236.here hx rfl (hb hby d39_28) q) ?_
      show own_Fin _ _ _ _ (T236.setTop (mkF m 29 #[.val (.ref bb), .val (.int qq), .val (.int (0 : Int32)), .val (.int (2 : Int32)), .val (.int (2 : Int32))] [(.int (-1 : Int32))]))
      refine own_retI X236 hx Bd (t := .int) Bd.returns rfl (by simp) (hb hby d39_29) ?_ (by decide) (by decide)
      show (Q_rm_uiu2 Z bb kb qq ch0 ch1 h0 n0) (some (.int (-1 : Int32))) T236.heap _
      rw [e236]
      refine ⟨_, rfl, N236, rfl, Or.inr ⟨by decide, fun hm => ?_⟩⟩
      simp only [List.mem_cons, List.not_mem_nil, or_false] at hm
      rcases hm with hm | hm
      · exact hc235 (by rw [hm])
      · exact hc237 (by rw [hm])
def Q_rm_lic3 (Z : State) (bb : Addr) (kb : ClassId) (qq : Int32) (ch0 : Int32) (ch1 : Int32) (ch2 : Int32) (h0 : Heap) (n0 : Nat) (v : Option Value) (h : Heap) (L : List Loc) : Prop := ∃ z : Int32, v = some (.int z) ∧ Fr n0 L ∧ h = h0 ∧ ((¬ z < 0 ∧ qq ∈ ([ch0, ch1, ch2] : List Int32)) ∨ (z < 0 ∧ qq ∉ ([ch0, ch1, ch2] : List Int32)))
theorem ef_rm_lic3 (m : MethodId) (bb : Addr) (qq : Int32) (ch0 : Int32) (ch1 : Int32) (ch2 : Int32) : entryFrame m #[(.ref bb), (.int qq), (.int (0 : Int32)), (.int (3 : Int32))] 6 = mkF m 0 #[.val (.ref bb), .val (.int qq), .val (.int (0 : Int32)), .val (.int (3 : Int32)), .unset, .unset] [] := by first | (simp [entryFrame, mkF, argsToLocals, Value.category]; done) | rfl
set_option maxRecDepth 65536 in
set_option maxHeartbeats 40000000 in
theorem rm_lic3 (l : Launch) (Z : State) (a0 : Array Value) (hw : ∀ d ∈ tables_1, d.before a0 Z = true) (ws : List Jvm.Cond) (bb : Addr) (kb : ClassId) (qq : Int32) (ch0 : Int32) (ch1 : Int32) (ch2 : Int32) (h0 : Heap) (n0 : Nat) (Z0 : n0 ≤ h0.size) (V_bb : Arv Z h0 bb kb .byte (3 : Int32) [(.int (ch0.toInt8.toInt32)), (.int (ch1.toInt8.toInt32)), (.int (ch2.toInt8.toInt32))] (.int (0 : Int32))) (hbd : ∀ c ∈ ([ch0, ch1, ch2] : List Int32), ¬ c < 0 ∧ ¬ (65535 : Int32) < c) (hcd : ∀ c ∈ ([ch0, ch1, ch2] : List Int32), ¬ (255 : Int32) < c) (hq : ¬ qq < 0 ∧ ¬ (255 : Int32) < qq) :
    MetFree l (⟨"java/lang/StringLatin1", "indexOfChar", "([BIII)I"⟩ : MethodName) (head1 (Jvm.Cond.code (⟨"java/lang/StringLatin1", "indexOfChar", "([BIII)I"⟩ : MethodName) jdk_43_method_23_code 6 (some .int) :: ws) ({ frames := 0, cells := 0, slots := 0, locals := 0 } : Room)) (fun a_ U_ => a_ = #[(.ref bb), (.int qq), (.int (0 : Int32)), (.int (3 : Int32))] ∧ Z.Warmed39 U_.vm ∧ U_.heap = h0) (fun _ _ _ _ _ => True) (fun _ U_ o_ V_ => ∃ v_ L_, o_ = .returned v_ ∧ (Q_rm_lic3 Z bb kb qq ch0 ch1 ch2 h0 n0) v_ V_.heap L_ ∧ FrameEnd U_ o_ V_ L_ ({ frames := 0, cells := 0, slots := 0, locals := 0 } : Room).cells ({ frames := 0, cells := 0, slots := 0, locals := 0 } : Room).slots) := by
  refine MetFree.of_bodySF (plainFor_of_name pn_10) hisR ?_
  intro p e s m args below meth c s₁ Bd hml0 hP hK
  obtain ⟨rfl, hZ, hh⟩ := hP
  have hx := Bd.exec
  have hby := Bd.bytes
  have hml : c.maxLocals = 6 := hml0
  have hown : s.vm.findClass "java/lang/StringLatin1" = some m.cls := findClass_of_methodNamed Bd.named
  have hnm := (name_of_methodNamed Bd.named Bd.method).1
  have X0 : Stand p l e ({ frames := 0, cells := 0, slots := 0, locals := 0 } : Room) s m #[(.ref bb), (.int qq), (.int (0 : Int32)), (.int (3 : Int32))] below meth c s₁ [] 0 0 := Stand.of_body Bd
  have e0 : s₁.heap = h0 := by rw [← hh, Bd.state]; rfl
  have N0 := Fr.nil n0
  have K0 : Keep h0 h0 [] := Keep.refl _ _
  show own_Fin p.tables e below (own_Post (Q_rm_lic3 Z bb kb qq ch0 ch1 ch2 h0 n0) ({ frames := 0, cells := 0, slots := 0, locals := 0 } : Room).cells ({ frames := 0, cells := 0, slots := 0, locals := 0 } : Room).slots below s) _
  refine own_go (fun _ q => castTop (ef_rm_lic3 m bb qq ch0 ch1 ch2) q) ?_
  refine own_go (fun _ q => XS.iloadN X0.here hx rfl (hb hby d23_0) rfl q) ?_
  show own_Fin _ _ _ _ (s₁.setTop (mkF m 1 #[.val (.ref bb), .val (.int qq), .val (.int (0 : Int32)), .val (.int (3 : Int32)), .unset, .unset] [(.int qq)]))
  refine own_go (fun _ q => XS.i2b X0.here hx rfl (hb hby d23_1) rfl q) ?_
  refine own_go (fun _ q => XS.istore X0.here hx rfl (hb hby d23_2) rfl (l' := #[.val (.ref bb), .val (.int qq), .val (.int (0 : Int32)), .val (.int (3 : Int32)), .val (.int (qq.toInt8.toInt32)), .unset]) rfl q) ?_
  refine own_go (fun _ q => XS.iloadN X0.here hx rfl (hb hby d23_4) rfl q) ?_
  refine own_go (fun _ q => XS.istore X0.here hx rfl (hb hby d23_5) rfl (l' := #[.val (.ref bb), .val (.int qq), .val (.int (0 : Int32)), .val (.int (3 : Int32)), .val (.int (qq.toInt8.toInt32)), .val (.int (0 : Int32))]) rfl q) ?_
  refine own_go (fun _ q => XS.iload X0.here hx rfl (hb hby d23_7) rfl q) ?_
  refine own_go (fun _ q => XS.iloadN X0.here hx rfl (hb hby d23_9) rfl q) ?_
  show own_Fin _ _ _ _ (s₁.setTop (mkF m 10 #[.val (.ref bb), .val (.int qq), .val (.int (0 : Int32)), .val (.int (3 : Int32)), .val (.int (qq.toInt8.toInt32)), .val (.int (0 : Int32))] [(.int (3 : Int32)), (.int (0 : Int32))]))
  refine own_go (fun _ q => XS.icmpNo X0.here hx rfl (hb hby d23_10) rfl (tlt (by decide : (0 : Int32) < (3 : Int32))).2.1 q) ?_
  refine own_go (fun _ q => XS.aloadN X0.here hx rfl (hb hby d23_13) rfl rfl q) ?_
  refine own_go (fun _ q => XS.iload X0.here hx rfl (hb hby d23_14) rfl q) ?_
  show own_Fin _ _ _ _ (s₁.setTop (mkF m 16 #[.val (.ref bb), .val (.int qq), .val (.int (0 : Int32)), .val (.int (3 : Int32)), .val (.int (qq.toInt8.toInt32)), .val (.int (0 : Int32))] [(.int (0 : Int32)), (.ref bb)]))
  refine own_go (fun _ q => own_baload X0 hx hZ e0 V_bb (by decide) (v := (.int (ch0.toInt8.toInt32))) (rfl) (g := (mkF m 16 #[.val (.ref bb), .val (.int qq), .val (.int (0 : Int32)), .val (.int (3 : Int32)), .val (.int (qq.toInt8.toInt32)), .val (.int (0 : Int32))] [(.int (0 : Int32)), (.ref bb)])) rfl rfl (hb hby d23_16) _ q) ?_
  refine own_go (fun _ q => XS.iload X0.here hx rfl (hb hby d23_17) rfl q) ?_
  show own_Fin _ _ _ _ (s₁.setTop (mkF m 19 #[.val (.ref bb), .val (.int qq), .val (.int (0 : Int32)), .val (.int (3 : Int32)), .val (.int (qq.toInt8.toInt32)), .val (.int (0 : Int32))] [(.int (qq.toInt8.toInt32)), (.int (ch0.toInt8.toInt32))]))
  by_cases hc238 : (ch0.toInt8.toInt32) = (qq.toInt8.toInt32)
  · skip
    refine own_go (fun _ q => XS.icmpNo X0.here hx rfl (hb hby d23_19) rfl (teq hc238).2 q) ?_
    refine own_go (fun _ q => XS.iload X0.here hx rfl (hb hby d23_22) rfl q) ?_
    show own_Fin _ _ _ _ (s₁.setTop (mkF m 24 #[.val (.ref bb), .val (.int qq), .val (.int (0 : Int32)), .val (.int (3 : Int32)), .val (.int (qq.toInt8.toInt32)), .val (.int (0 : Int32))] [(.int (0 : Int32))]))
    refine own_retI X0 hx Bd (t := .int) Bd.returns rfl (by simp) (hb hby d23_24) ?_ (by decide) (by decide)
    show (Q_rm_lic3 Z bb kb qq ch0 ch1 ch2 h0 n0) (some (.int (0 : Int32))) s₁.heap _
    rw [e0]
    exact ⟨_, rfl, N0, rfl, Or.inl ⟨by decide, own_memi (own_m 0 rfl) (own_lo8i ⟨(hbd _ (own_m 0 rfl)).1, hcd _ (own_m 0 rfl)⟩ hq hc238)⟩⟩
  · skip
    refine own_go (fun _ q => XS.icmpYes X0.here hx rfl (pc0 := 19) (pc' := 25) rfl (hb hby d23_19) rfl (feq hc238).2 (by decide) (by decide) q) ?_
    show own_Fin _ _ _ _ (s₁.setTop (mkF m 25 #[.val (.ref bb), .val (.int qq), .val (.int (0 : Int32)), .val (.int (3 : Int32)), .val (.int (qq.toInt8.toInt32)), .val (.int (0 : Int32))] []))
    refine own_go (fun _ q => XS.iinc X0.here hx rfl (hb hby d23_25) rfl (l' := #[.val (.ref bb), .val (.int qq), .val (.int (0 : Int32)), .val (.int (3 : Int32)), .val (.int (qq.toInt8.toInt32)), .val (.int (1 : Int32))]) rfl q) ?_
    refine own_go (fun _ q => XS.goto X0.here hx rfl (pc0 := 28) (pc' := 7) rfl (hb hby d23_28) (by decide) (by decide) q) ?_
    refine own_go (fun _ q => XS.iload X0.here hx rfl (hb hby d23_7) rfl q) ?_
    refine own_go (fun _ q => XS.iloadN X0.here hx rfl (hb hby d23_9) rfl q) ?_
    show own_Fin _ _ _ _ (s₁.setTop (mkF m 10 #[.val (.ref bb), .val (.int qq), .val (.int (0 : Int32)), .val (.int (3 : Int32)), .val (.int (qq.toInt8.toInt32)), .val (.int (1 : Int32))] [(.int (3 : Int32)), (.int (1 : Int32))]))
    refine own_go (fun _ q => XS.icmpNo X0.here hx rfl (hb hby d23_10) rfl (tlt (by decide : (1 : Int32) < (3 : Int32))).2.1 q) ?_
    refine own_go (fun _ q => XS.aloadN X0.here hx rfl (hb hby d23_13) rfl rfl q) ?_
    refine own_go (fun _ q => XS.iload X0.here hx rfl (hb hby d23_14) rfl q) ?_
    show own_Fin _ _ _ _ (s₁.setTop (mkF m 16 #[.val (.ref bb), .val (.int qq), .val (.int (0 : Int32)), .val (.int (3 : Int32)), .val (.int (qq.toInt8.toInt32)), .val (.int (1 : Int32))] [(.int (1 : Int32)), (.ref bb)]))
    refine own_go (fun _ q => own_baload X0 hx hZ e0 V_bb (by decide) (v := (.int (ch1.toInt8.toInt32))) (rfl) (g := (mkF m 16 #[.val (.ref bb), .val (.int qq), .val (.int (0 : Int32)), .val (.int (3 : Int32)), .val (.int (qq.toInt8.toInt32)), .val (.int (1 : Int32))] [(.int (1 : Int32)), (.ref bb)])) rfl rfl (hb hby d23_16) _ q) ?_
    refine own_go (fun _ q => XS.iload X0.here hx rfl (hb hby d23_17) rfl q) ?_
    show own_Fin _ _ _ _ (s₁.setTop (mkF m 19 #[.val (.ref bb), .val (.int qq), .val (.int (0 : Int32)), .val (.int (3 : Int32)), .val (.int (qq.toInt8.toInt32)), .val (.int (1 : Int32))] [(.int (qq.toInt8.toInt32)), (.int (ch1.toInt8.toInt32))]))
    by_cases hc239 : (ch1.toInt8.toInt32) = (qq.toInt8.toInt32)
    · skip
      refine own_go (fun _ q => XS.icmpNo X0.here hx rfl (hb hby d23_19) rfl (teq hc239).2 q) ?_
      refine own_go (fun _ q => XS.iload X0.here hx rfl (hb hby d23_22) rfl q) ?_
      show own_Fin _ _ _ _ (s₁.setTop (mkF m 24 #[.val (.ref bb), .val (.int qq), .val (.int (0 : Int32)), .val (.int (3 : Int32)), .val (.int (qq.toInt8.toInt32)), .val (.int (1 : Int32))] [(.int (1 : Int32))]))
      refine own_retI X0 hx Bd (t := .int) Bd.returns rfl (by simp) (hb hby d23_24) ?_ (by decide) (by decide)
      show (Q_rm_lic3 Z bb kb qq ch0 ch1 ch2 h0 n0) (some (.int (1 : Int32))) s₁.heap _
      rw [e0]
      exact ⟨_, rfl, N0, rfl, Or.inl ⟨by decide, own_memi (own_m 1 rfl) (own_lo8i ⟨(hbd _ (own_m 1 rfl)).1, hcd _ (own_m 1 rfl)⟩ hq hc239)⟩⟩
    · skip
      refine own_go (fun _ q => XS.icmpYes X0.here hx rfl (pc0 := 19) (pc' := 25) rfl (hb hby d23_19) rfl (feq hc239).2 (by decide) (by decide) q) ?_
      show own_Fin _ _ _ _ (s₁.setTop (mkF m 25 #[.val (.ref bb), .val (.int qq), .val (.int (0 : Int32)), .val (.int (3 : Int32)), .val (.int (qq.toInt8.toInt32)), .val (.int (1 : Int32))] []))
      refine own_go (fun _ q => XS.iinc X0.here hx rfl (hb hby d23_25) rfl (l' := #[.val (.ref bb), .val (.int qq), .val (.int (0 : Int32)), .val (.int (3 : Int32)), .val (.int (qq.toInt8.toInt32)), .val (.int (2 : Int32))]) rfl q) ?_
      refine own_go (fun _ q => XS.goto X0.here hx rfl (pc0 := 28) (pc' := 7) rfl (hb hby d23_28) (by decide) (by decide) q) ?_
      refine own_go (fun _ q => XS.iload X0.here hx rfl (hb hby d23_7) rfl q) ?_
      refine own_go (fun _ q => XS.iloadN X0.here hx rfl (hb hby d23_9) rfl q) ?_
      show own_Fin _ _ _ _ (s₁.setTop (mkF m 10 #[.val (.ref bb), .val (.int qq), .val (.int (0 : Int32)), .val (.int (3 : Int32)), .val (.int (qq.toInt8.toInt32)), .val (.int (2 : Int32))] [(.int (3 : Int32)), (.int (2 : Int32))]))
      refine own_go (fun _ q => XS.icmpNo X0.here hx rfl (hb hby d23_10) rfl (tlt (by decide : (2 : Int32) < (3 : Int32))).2.1 q) ?_
      refine own_go (fun _ q => XS.aloadN X0.here hx rfl (hb hby d23_13) rfl rfl q) ?_
      refine own_go (fun _ q => XS.iload X0.here hx rfl (hb hby d23_14) rfl q) ?_
      show own_Fin _ _ _ _ (s₁.setTop (mkF m 16 #[.val (.ref bb), .val (.int qq), .val (.int (0 : Int32)), .val (.int (3 : Int32)), .val (.int (qq.toInt8.toInt32)), .val (.int (2 : Int32))] [(.int (2 : Int32)), (.ref bb)]))
      refine own_go (fun _ q => own_baload X0 hx hZ e0 V_bb (by decide) (v := (.int (ch2.toInt8.toInt32))) (rfl) (g := (mkF m 16 #[.val (.ref bb), .val (.int qq), .val (.int (0 : Int32)), .val (.int (3 : Int32)), .val (.int (qq.toInt8.toInt32)), .val (.int (2 : Int32))] [(.int (2 : Int32)), (.ref bb)])) rfl rfl (hb hby d23_16) _ q) ?_
      refine own_go (fun _ q => XS.iload X0.here hx rfl (hb hby d23_17) rfl q) ?_
      show own_Fin _ _ _ _ (s₁.setTop (mkF m 19 #[.val (.ref bb), .val (.int qq), .val (.int (0 : Int32)), .val (.int (3 : Int32)), .val (.int (qq.toInt8.toInt32)), .val (.int (2 : Int32))] [(.int (qq.toInt8.toInt32)), (.int (ch2.toInt8.toInt32))]))
      by_cases hc240 : (ch2.toInt8.toInt32) = (qq.toInt8.toInt32)
      · skip
        refine own_go (fun _ q => XS.icmpNo X0.here hx rfl (hb hby d23_19) rfl (teq hc240).2 q) ?_
        refine own_go (fun _ q => XS.iload X0.here hx rfl (hb hby d23_22) rfl q) ?_
        show own_Fin _ _ _ _ (s₁.setTop (mkF m 24 #[.val (.ref bb), .val (.int qq), .val (.int (0 : Int32)), .val (.int (3 : Int32)), .val (.int (qq.toInt8.toInt32)), .val (.int (2 : Int32))] [(.int (2 : Int32))]))
        refine own_retI X0 hx Bd (t := .int) Bd.returns rfl (by simp) (hb hby d23_24) ?_ (by decide) (by decide)
        show (Q_rm_lic3 Z bb kb qq ch0 ch1 ch2 h0 n0) (some (.int (2 : Int32))) s₁.heap _
        rw [e0]
        exact ⟨_, rfl, N0, rfl, Or.inl ⟨by decide, own_memi (own_m 2 rfl) (own_lo8i ⟨(hbd _ (own_m 2 rfl)).1, hcd _ (own_m 2 rfl)⟩ hq hc240)⟩⟩
      · skip
        refine own_go (fun _ q => XS.icmpYes X0.here hx rfl (pc0 := 19) (pc' := 25) rfl (hb hby d23_19) rfl (feq hc240).2 (by decide) (by decide) q) ?_
        show own_Fin _ _ _ _ (s₁.setTop (mkF m 25 #[.val (.ref bb), .val (.int qq), .val (.int (0 : Int32)), .val (.int (3 : Int32)), .val (.int (qq.toInt8.toInt32)), .val (.int (2 : Int32))] []))
        refine own_go (fun _ q => XS.iinc X0.here hx rfl (hb hby d23_25) rfl (l' := #[.val (.ref bb), .val (.int qq), .val (.int (0 : Int32)), .val (.int (3 : Int32)), .val (.int (qq.toInt8.toInt32)), .val (.int (3 : Int32))]) rfl q) ?_
        refine own_go (fun _ q => XS.goto X0.here hx rfl (pc0 := 28) (pc' := 7) rfl (hb hby d23_28) (by decide) (by decide) q) ?_
        refine own_go (fun _ q => XS.iload X0.here hx rfl (hb hby d23_7) rfl q) ?_
        refine own_go (fun _ q => XS.iloadN X0.here hx rfl (hb hby d23_9) rfl q) ?_
        show own_Fin _ _ _ _ (s₁.setTop (mkF m 10 #[.val (.ref bb), .val (.int qq), .val (.int (0 : Int32)), .val (.int (3 : Int32)), .val (.int (qq.toInt8.toInt32)), .val (.int (3 : Int32))] [(.int (3 : Int32)), (.int (3 : Int32))]))
        refine own_go (fun _ q => XS.icmpYes X0.here hx rfl (pc0 := 10) (pc' := 31) rfl (hb hby d23_10) rfl (flt (by decide : ¬ (3 : Int32) < (3 : Int32))).2.1 (by decide) (by decide) q) ?_
        refine own_go (fun _ q => XS.iconst X0.here hx rfl (hb hby d23_31) q) ?_
        show own_Fin _ _ _ _ (s₁.setTop (mkF m 32 #[.val (.ref bb), .val (.int qq), .val (.int (0 : Int32)), .val (.int (3 : Int32)), .val (.int (qq.toInt8.toInt32)), .val (.int (3 : Int32))] [(.int (-1 : Int32))]))
        refine own_retI X0 hx Bd (t := .int) Bd.returns rfl (by simp) (hb hby d23_32) ?_ (by decide) (by decide)
        show (Q_rm_lic3 Z bb kb qq ch0 ch1 ch2 h0 n0) (some (.int (-1 : Int32))) s₁.heap _
        rw [e0]
        refine ⟨_, rfl, N0, rfl, Or.inr ⟨by decide, fun hm => ?_⟩⟩
        simp only [List.mem_cons, List.not_mem_nil, or_false] at hm
        rcases hm with hm | hm | hm
        · exact hc238 (by rw [hm])
        · exact hc239 (by rw [hm])
        · exact hc240 (by rw [hm])
def Q_rm_uiu3 (Z : State) (bb : Addr) (kb : ClassId) (qq : Int32) (ch0 : Int32) (ch1 : Int32) (ch2 : Int32) (h0 : Heap) (n0 : Nat) (v : Option Value) (h : Heap) (L : List Loc) : Prop := ∃ z : Int32, v = some (.int z) ∧ Fr n0 L ∧ h = h0 ∧ ((¬ z < 0 ∧ qq ∈ ([ch0, ch1, ch2] : List Int32)) ∨ (z < 0 ∧ qq ∉ ([ch0, ch1, ch2] : List Int32)))
theorem ef_rm_uiu3 (m : MethodId) (bb : Addr) (qq : Int32) (ch0 : Int32) (ch1 : Int32) (ch2 : Int32) : entryFrame m #[(.ref bb), (.int qq), (.int (0 : Int32)), (.int (3 : Int32))] 5 = mkF m 0 #[.val (.ref bb), .val (.int qq), .val (.int (0 : Int32)), .val (.int (3 : Int32)), .unset] [] := by first | (simp [entryFrame, mkF, argsToLocals, Value.category]; done) | rfl
set_option maxRecDepth 65536 in
set_option maxHeartbeats 40000000 in
theorem rm_uiu3 (l : Launch) (Z : State) (a0 : Array Value) (hw : ∀ d ∈ tables_1, d.before a0 Z = true) (ws : List Jvm.Cond) (bb : Addr) (kb : ClassId) (qq : Int32) (ch0 : Int32) (ch1 : Int32) (ch2 : Int32) (h0 : Heap) (n0 : Nat) (Z0 : n0 ≤ h0.size) (V_bb : Arv Z h0 bb kb .byte (6 : Int32) [(.int (ch0.toInt8.toInt32)), (.int ((ch0 >>> ((8 : Int32) &&& 31)).toInt8.toInt32)), (.int (ch1.toInt8.toInt32)), (.int ((ch1 >>> ((8 : Int32) &&& 31)).toInt8.toInt32)), (.int (ch2.toInt8.toInt32)), (.int ((ch2 >>> ((8 : Int32) &&& 31)).toInt8.toInt32))] (.int (0 : Int32))) (hbd : ∀ c ∈ ([ch0, ch1, ch2] : List Int32), ¬ c < 0 ∧ ¬ (65535 : Int32) < c) (hq : ¬ qq < 0 ∧ ¬ (255 : Int32) < qq) (O0 : Old Z n0 h0) (S_A : Sta Z Z.heap "java/lang/StringUTF16" "$assertionsDisabled" "Z" (.int (1 : Int32))) (S_H : Sta Z Z.heap "java/lang/StringUTF16" "HI_BYTE_SHIFT" "I" (.int (0 : Int32))) (S_L : Sta Z Z.heap "java/lang/StringUTF16" "LO_BYTE_SHIFT" "I" (.int (8 : Int32))) :
    MetFree l (⟨"java/lang/StringUTF16", "indexOfCharUnsafe", "([BIII)I"⟩ : MethodName) (head1 (Jvm.Cond.code (⟨"java/lang/StringUTF16", "indexOfCharUnsafe", "([BIII)I"⟩ : MethodName) jdk_52_method_48_code 5 (some .int) :: ws) ({ frames := 1, cells := 0, slots := 0, locals := 13 } : Room)) (fun a_ U_ => a_ = #[(.ref bb), (.int qq), (.int (0 : Int32)), (.int (3 : Int32))] ∧ Z.Warmed39 U_.vm ∧ U_.heap = h0) (fun _ _ _ _ _ => True) (fun _ U_ o_ V_ => ∃ v_ L_, o_ = .returned v_ ∧ (Q_rm_uiu3 Z bb kb qq ch0 ch1 ch2 h0 n0) v_ V_.heap L_ ∧ FrameEnd U_ o_ V_ L_ ({ frames := 1, cells := 0, slots := 0, locals := 13 } : Room).cells ({ frames := 1, cells := 0, slots := 0, locals := 13 } : Room).slots) := by
  refine MetFree.of_bodySF (plainFor_of_name pn_2) hisR ?_
  intro p e s m args below meth c s₁ Bd hml0 hP hK
  obtain ⟨rfl, hZ, hh⟩ := hP
  have hx := Bd.exec
  have hby := Bd.bytes
  have hml : c.maxLocals = 5 := hml0
  have hown : s.vm.findClass "java/lang/StringUTF16" = some m.cls := findClass_of_methodNamed Bd.named
  have hnm := (name_of_methodNamed Bd.named Bd.method).1
  have X0 : Stand p l e ({ frames := 1, cells := 0, slots := 0, locals := 13 } : Room) s m #[(.ref bb), (.int qq), (.int (0 : Int32)), (.int (3 : Int32))] below meth c s₁ [] 0 0 := Stand.of_body Bd
  have e0 : s₁.heap = h0 := by rw [← hh, Bd.state]; rfl
  have N0 := Fr.nil n0
  have K0 : Keep h0 h0 [] := Keep.refl _ _
  show own_Fin p.tables e below (own_Post (Q_rm_uiu3 Z bb kb qq ch0 ch1 ch2 h0 n0) ({ frames := 1, cells := 0, slots := 0, locals := 13 } : Room).cells ({ frames := 1, cells := 0, slots := 0, locals := 13 } : Room).slots below s) _
  refine own_go (fun _ q => castTop (ef_rm_uiu3 m bb qq ch0 ch1 ch2) q) ?_
  refine own_go (fun _ q => XS.iloadN X0.here hx rfl (hb hby d39_0) rfl q) ?_
  refine own_go (fun _ q => XS.istore X0.here hx rfl (hb hby d39_1) rfl (l' := #[.val (.ref bb), .val (.int qq), .val (.int (0 : Int32)), .val (.int (3 : Int32)), .val (.int (0 : Int32))]) rfl q) ?_
  refine own_go (fun _ q => XS.iload X0.here hx rfl (hb hby d39_3) rfl q) ?_
  refine own_go (fun _ q => XS.iloadN X0.here hx rfl (hb hby d39_5) rfl q) ?_
  show own_Fin _ _ _ _ (s₁.setTop (mkF m 6 #[.val (.ref bb), .val (.int qq), .val (.int (0 : Int32)), .val (.int (3 : Int32)), .val (.int (0 : Int32))] [(.int (3 : Int32)), (.int (0 : Int32))]))
  refine own_go (fun _ q => XS.icmpNo X0.here hx rfl (hb hby d39_6) rfl (tlt (by decide : (0 : Int32) < (3 : Int32))).2.1 q) ?_
  refine own_go (fun _ q => XS.aloadN X0.here hx rfl (hb hby d39_9) rfl rfl q) ?_
  refine own_go (fun _ q => XS.iload X0.here hx rfl (hb hby d39_10) rfl q) ?_
  show own_Fin _ _ _ _ (s₁.setTop (mkF m 12 #[.val (.ref bb), .val (.int qq), .val (.int (0 : Int32)), .val (.int (3 : Int32)), .val (.int (0 : Int32))] [(.int (0 : Int32)), (.ref bb)]))
  obtain ⟨_, _, ⟨T241, L241, k241, n241⟩, -, X241, ⟨Lc241, hQ241, l241, y241, z241⟩, st241⟩ := Jvm.LawKit.callS X0 hx (y := (⟨"java/lang/StringUTF16", "getChar", "([BI)C"⟩ : MethodName)) hown (mvT hZ (own_w hw 135 rfl)) (mvT hZ (own_w hw 136 rfl)) (mvT hZ (own_w hw 43 rfl)) (mvT hZ (own_w hw 137 rfl)) (by decide) (backOf (W := 0) (rm_gc l Z a0 hw [] bb kb (0 : Int32) ch0 (6 : Int32) [(.int (ch0.toInt8.toInt32)), (.int ((ch0 >>> ((8 : Int32) &&& 31)).toInt8.toInt32)), (.int (ch1.toInt8.toInt32)), (.int ((ch1 >>> ((8 : Int32) &&& 31)).toInt8.toInt32)), (.int (ch2.toInt8.toInt32)), (.int ((ch2 >>> ((8 : Int32) &&& 31)).toInt8.toInt32))] h0 n0 (Nat.le_trans Z0 K0.1) V_bb (by decide) (by decide) rfl rfl (hbd _ (own_m 0 rfl)) O0 S_A S_H S_L) hZ (own_w hw 137 rfl) (own_w hw 43 rfl) (by decide) (by decide)) (g := (mkF m 12 #[.val (.ref bb), .val (.int qq), .val (.int (0 : Int32)), .val (.int (3 : Int32)), .val (.int (0 : Int32))] [(.int (0 : Int32)), (.ref bb)])) rfl (by rw [hml]; rfl) (argsL := [(.ref bb), (.int (0 : Int32))]) (rest := []) (lenOf pd_8 rfl) rfl (by show 2 * 0 + _ ≤ _; exact Nat.le_of_eq rfl) (hb hby d39_12) (fun _ _ => ⟨rfl, e0, (by decide : 0 + 0 ≤ _), (by decide : 0 + 0 ≤ _)⟩)
  dsimp only [Pt.U, Pt.locs, Pt.cells, Pt.slots] at X241 l241 y241 z241 st241 hQ241
  subst l241 y241 z241
  obtain ⟨rfl, N241q, e241⟩ := hQ241
  have N241 := Fr.app N0 N241q
  refine own_go st241 ?_
  refine own_go (fun _ q => XS.iloadN X241.here hx rfl (hb hby d39_15) rfl q) ?_
  show own_Fin _ _ _ _ (T241.setTop (mkF m 16 #[.val (.ref bb), .val (.int qq), .val (.int (0 : Int32)), .val (.int (3 : Int32)), .val (.int (0 : Int32))] [(.int qq), (.int ch0)]))
  by_cases hc242 : ch0 = qq
  · skip
    refine own_go (fun _ q => XS.icmpNo X241.here hx rfl (hb hby d39_16) rfl (teq hc242).2 q) ?_
    refine own_go (fun _ q => XS.iload X241.here hx rfl (hb hby d39_19) rfl q) ?_
    show own_Fin _ _ _ _ (T241.setTop (mkF m 21 #[.val (.ref bb), .val (.int qq), .val (.int (0 : Int32)), .val (.int (3 : Int32)), .val (.int (0 : Int32))] [(.int (0 : Int32))]))
    refine own_retI X241 hx Bd (t := .int) Bd.returns rfl (by simp) (hb hby d39_21) ?_ (by decide) (by decide)
    show (Q_rm_uiu3 Z bb kb qq ch0 ch1 ch2 h0 n0) (some (.int (0 : Int32))) T241.heap _
    rw [e241]
    exact ⟨_, rfl, N241, rfl, Or.inl ⟨by decide, own_memi (own_m 0 rfl) hc242⟩⟩
  · skip
    refine own_go (fun _ q => XS.icmpYes X241.here hx rfl (pc0 := 16) (pc' := 22) rfl (hb hby d39_16) rfl (feq hc242).2 (by decide) (by decide) q) ?_
    show own_Fin _ _ _ _ (T241.setTop (mkF m 22 #[.val (.ref bb), .val (.int qq), .val (.int (0 : Int32)), .val (.int (3 : Int32)), .val (.int (0 : Int32))] []))
    refine own_go (fun _ q => XS.iinc X241.here hx rfl (hb hby d39_22) rfl (l' := #[.val (.ref bb), .val (.int qq), .val (.int (0 : Int32)), .val (.int (3 : Int32)), .val (.int (1 : Int32))]) rfl q) ?_
    refine own_go (fun _ q => XS.goto X241.here hx rfl (pc0 := 25) (pc' := 3) rfl (hb hby d39_25) (by decide) (by decide) q) ?_
    refine own_go (fun _ q => XS.iload X241.here hx rfl (hb hby d39_3) rfl q) ?_
    refine own_go (fun _ q => XS.iloadN X241.here hx rfl (hb hby d39_5) rfl q) ?_
    show own_Fin _ _ _ _ (T241.setTop (mkF m 6 #[.val (.ref bb), .val (.int qq), .val (.int (0 : Int32)), .val (.int (3 : Int32)), .val (.int (1 : Int32))] [(.int (3 : Int32)), (.int (1 : Int32))]))
    refine own_go (fun _ q => XS.icmpNo X241.here hx rfl (hb hby d39_6) rfl (tlt (by decide : (1 : Int32) < (3 : Int32))).2.1 q) ?_
    refine own_go (fun _ q => XS.aloadN X241.here hx rfl (hb hby d39_9) rfl rfl q) ?_
    refine own_go (fun _ q => XS.iload X241.here hx rfl (hb hby d39_10) rfl q) ?_
    show own_Fin _ _ _ _ (T241.setTop (mkF m 12 #[.val (.ref bb), .val (.int qq), .val (.int (0 : Int32)), .val (.int (3 : Int32)), .val (.int (1 : Int32))] [(.int (1 : Int32)), (.ref bb)]))
    obtain ⟨_, _, ⟨T243, L243, k243, n243⟩, -, X243, ⟨Lc243, hQ243, l243, y243, z243⟩, st243⟩ := Jvm.LawKit.callS X241 hx (y := (⟨"java/lang/StringUTF16", "getChar", "([BI)C"⟩ : MethodName)) hown (mvT hZ (own_w hw 135 rfl)) (mvT hZ (own_w hw 136 rfl)) (mvT hZ (own_w hw 43 rfl)) (mvT hZ (own_w hw 137 rfl)) (by decide) (backOf (W := 0) (rm_gc l Z a0 hw [] bb kb (1 : Int32) ch1 (6 : Int32) [(.int (ch0.toInt8.toInt32)), (.int ((ch0 >>> ((8 : Int32) &&& 31)).toInt8.toInt32)), (.int (ch1.toInt8.toInt32)), (.int ((ch1 >>> ((8 : Int32) &&& 31)).toInt8.toInt32)), (.int (ch2.toInt8.toInt32)), (.int ((ch2 >>> ((8 : Int32) &&& 31)).toInt8.toInt32))] h0 n0 (Nat.le_trans Z0 K0.1) V_bb (by decide) (by decide) rfl rfl (hbd _ (own_m 1 rfl)) O0 S_A S_H S_L) hZ (own_w hw 137 rfl) (own_w hw 43 rfl) (by decide) (by decide)) (g := (mkF m 12 #[.val (.ref bb), .val (.int qq), .val (.int (0 : Int32)), .val (.int (3 : Int32)), .val (.int (1 : Int32))] [(.int (1 : Int32)), (.ref bb)])) rfl (by rw [hml]; rfl) (argsL := [(.ref bb), (.int (1 : Int32))]) (rest := []) (lenOf pd_8 rfl) rfl (by show 2 * 0 + _ ≤ _; exact Nat.le_of_eq rfl) (hb hby d39_12) (fun _ _ => ⟨rfl, e241, (by decide : 0 + 0 ≤ _), (by decide : 0 + 0 ≤ _)⟩)
    dsimp only [Pt.U, Pt.locs, Pt.cells, Pt.slots] at X243 l243 y243 z243 st243 hQ243
    subst l243 y243 z243
    obtain ⟨rfl, N243q, e243⟩ := hQ243
    have N243 := Fr.app N241 N243q
    refine own_go st243 ?_
    refine own_go (fun _ q => XS.iloadN X243.here hx rfl (hb hby d39_15) rfl q) ?_
    show own_Fin _ _ _ _ (T243.setTop (mkF m 16 #[.val (.ref bb), .val (.int qq), .val (.int (0 : Int32)), .val (.int (3 : Int32)), .val (.int (1 : Int32))] [(.int qq), (.int ch1)]))
    by_cases hc244 : ch1 = qq
    · skip
      refine own_go (fun _ q => XS.icmpNo X243.here hx rfl (hb hby d39_16) rfl (teq hc244).2 q) ?_
      refine own_go (fun _ q => XS.iload X243.here hx rfl (hb hby d39_19) rfl q) ?_
      show own_Fin _ _ _ _ (T243.setTop (mkF m 21 #[.val (.ref bb), .val (.int qq), .val (.int (0 : Int32)), .val (.int (3 : Int32)), .val (.int (1 : Int32))] [(.int (1 : Int32))]))
      refine own_retI X243 hx Bd (t := .int) Bd.returns rfl (by simp) (hb hby d39_21) ?_ (by decide) (by decide)
      show (Q_rm_uiu3 Z bb kb qq ch0 ch1 ch2 h0 n0) (some (.int (1 : Int32))) T243.heap _
      rw [e243]
      exact ⟨_, rfl, N243, rfl, Or.inl ⟨by decide, own_memi (own_m 1 rfl) hc244⟩⟩
    · skip
      refine own_go (fun _ q => XS.icmpYes X243.here hx rfl (pc0 := 16) (pc' := 22) rfl (hb hby d39_16) rfl (feq hc244).2 (by decide) (by decide) q) ?_
      show own_Fin _ _ _ _ (T243.setTop (mkF m 22 #[.val (.ref bb), .val (.int qq), .val (.int (0 : Int32)), .val (.int (3 : Int32)), .val (.int (1 : Int32))] []))
      refine own_go (fun _ q => XS.iinc X243.here hx rfl (hb hby d39_22) rfl (l' := #[.val (.ref bb), .val (.int qq), .val (.int (0 : Int32)), .val (.int (3 : Int32)), .val (.int (2 : Int32))]) rfl q) ?_
      refine own_go (fun _ q => XS.goto X243.here hx rfl (pc0 := 25) (pc' := 3) rfl (hb hby d39_25) (by decide) (by decide) q) ?_
      refine own_go (fun _ q => XS.iload X243.here hx rfl (hb hby d39_3) rfl q) ?_
      refine own_go (fun _ q => XS.iloadN X243.here hx rfl (hb hby d39_5) rfl q) ?_
      show own_Fin _ _ _ _ (T243.setTop (mkF m 6 #[.val (.ref bb), .val (.int qq), .val (.int (0 : Int32)), .val (.int (3 : Int32)), .val (.int (2 : Int32))] [(.int (3 : Int32)), (.int (2 : Int32))]))
      refine own_go (fun _ q => XS.icmpNo X243.here hx rfl (hb hby d39_6) rfl (tlt (by decide : (2 : Int32) < (3 : Int32))).2.1 q) ?_
      refine own_go (fun _ q => XS.aloadN X243.here hx rfl (hb hby d39_9) rfl rfl q) ?_
      refine own_go (fun _ q => XS.iload X243.here hx rfl (hb hby d39_10) rfl q) ?_
      show own_Fin _ _ _ _ (T243.setTop (mkF m 12 #[.val (.ref bb), .val (.int qq), .val (.int (0 : Int32)), .val (.int (3 : Int32)), .val (.int (2 : Int32))] [(.int (2 : Int32)), (.ref bb)]))
      obtain ⟨_, _, ⟨T245, L245, k245, n245⟩, -, X245, ⟨Lc245, hQ245, l245, y245, z245⟩, st245⟩ := Jvm.LawKit.callS X243 hx (y := (⟨"java/lang/StringUTF16", "getChar", "([BI)C"⟩ : MethodName)) hown (mvT hZ (own_w hw 135 rfl)) (mvT hZ (own_w hw 136 rfl)) (mvT hZ (own_w hw 43 rfl)) (mvT hZ (own_w hw 137 rfl)) (by decide) (backOf (W := 0) (rm_gc l Z a0 hw [] bb kb (2 : Int32) ch2 (6 : Int32) [(.int (ch0.toInt8.toInt32)), (.int ((ch0 >>> ((8 : Int32) &&& 31)).toInt8.toInt32)), (.int (ch1.toInt8.toInt32)), (.int ((ch1 >>> ((8 : Int32) &&& 31)).toInt8.toInt32)), (.int (ch2.toInt8.toInt32)), (.int ((ch2 >>> ((8 : Int32) &&& 31)).toInt8.toInt32))] h0 n0 (Nat.le_trans Z0 K0.1) V_bb (by decide) (by decide) rfl rfl (hbd _ (own_m 2 rfl)) O0 S_A S_H S_L) hZ (own_w hw 137 rfl) (own_w hw 43 rfl) (by decide) (by decide)) (g := (mkF m 12 #[.val (.ref bb), .val (.int qq), .val (.int (0 : Int32)), .val (.int (3 : Int32)), .val (.int (2 : Int32))] [(.int (2 : Int32)), (.ref bb)])) rfl (by rw [hml]; rfl) (argsL := [(.ref bb), (.int (2 : Int32))]) (rest := []) (lenOf pd_8 rfl) rfl (by show 2 * 0 + _ ≤ _; exact Nat.le_of_eq rfl) (hb hby d39_12) (fun _ _ => ⟨rfl, e243, (by decide : 0 + 0 ≤ _), (by decide : 0 + 0 ≤ _)⟩)
      dsimp only [Pt.U, Pt.locs, Pt.cells, Pt.slots] at X245 l245 y245 z245 st245 hQ245
      subst l245 y245 z245
      obtain ⟨rfl, N245q, e245⟩ := hQ245
      have N245 := Fr.app N243 N245q
      refine own_go st245 ?_
      refine own_go (fun _ q => XS.iloadN X245.here hx rfl (hb hby d39_15) rfl q) ?_
      show own_Fin _ _ _ _ (T245.setTop (mkF m 16 #[.val (.ref bb), .val (.int qq), .val (.int (0 : Int32)), .val (.int (3 : Int32)), .val (.int (2 : Int32))] [(.int qq), (.int ch2)]))
      by_cases hc246 : ch2 = qq
      · skip
        refine own_go (fun _ q => XS.icmpNo X245.here hx rfl (hb hby d39_16) rfl (teq hc246).2 q) ?_
        refine own_go (fun _ q => XS.iload X245.here hx rfl (hb hby d39_19) rfl q) ?_
        show own_Fin _ _ _ _ (T245.setTop (mkF m 21 #[.val (.ref bb), .val (.int qq), .val (.int (0 : Int32)), .val (.int (3 : Int32)), .val (.int (2 : Int32))] [(.int (2 : Int32))]))
        refine own_retI X245 hx Bd (t := .int) Bd.returns rfl (by simp) (hb hby d39_21) ?_ (by decide) (by decide)
        show (Q_rm_uiu3 Z bb kb qq ch0 ch1 ch2 h0 n0) (some (.int (2 : Int32))) T245.heap _
        rw [e245]
        exact ⟨_, rfl, N245, rfl, Or.inl ⟨by decide, own_memi (own_m 2 rfl) hc246⟩⟩
      · skip
        refine own_go (fun _ q => XS.icmpYes X245.here hx rfl (pc0 := 16) (pc' := 22) rfl (hb hby d39_16) rfl (feq hc246).2 (by decide) (by decide) q) ?_
        show own_Fin _ _ _ _ (T245.setTop (mkF m 22 #[.val (.ref bb), .val (.int qq), .val (.int (0 : Int32)), .val (.int (3 : Int32)), .val (.int (2 : Int32))] []))
        refine own_go (fun _ q => XS.iinc X245.here hx rfl (hb hby d39_22) rfl (l' := #[.val (.ref bb), .val (.int qq), .val (.int (0 : Int32)), .val (.int (3 : Int32)), .val (.int (3 : Int32))]) rfl q) ?_
        refine own_go (fun _ q => XS.goto X245.here hx rfl (pc0 := 25) (pc' := 3) rfl (hb hby d39_25) (by decide) (by decide) q) ?_
        refine own_go (fun _ q => XS.iload X245.here hx rfl (hb hby d39_3) rfl q) ?_
        refine own_go (fun _ q => XS.iloadN X245.here hx rfl (hb hby d39_5) rfl q) ?_
        show own_Fin _ _ _ _ (T245.setTop (mkF m 6 #[.val (.ref bb), .val (.int qq), .val (.int (0 : Int32)), .val (.int (3 : Int32)), .val (.int (3 : Int32))] [(.int (3 : Int32)), (.int (3 : Int32))]))
        refine own_go (fun _ q => XS.icmpYes X245.here hx rfl (pc0 := 6) (pc' := 28) rfl (hb hby d39_6) rfl (flt (by decide : ¬ (3 : Int32) < (3 : Int32))).2.1 (by decide) (by decide) q) ?_
        refine own_go (fun _ q => XS.iconst X245.here hx rfl (hb hby d39_28) q) ?_
        show own_Fin _ _ _ _ (T245.setTop (mkF m 29 #[.val (.ref bb), .val (.int qq), .val (.int (0 : Int32)), .val (.int (3 : Int32)), .val (.int (3 : Int32))] [(.int (-1 : Int32))]))
        refine own_retI X245 hx Bd (t := .int) Bd.returns rfl (by simp) (hb hby d39_29) ?_ (by decide) (by decide)
        show (Q_rm_uiu3 Z bb kb qq ch0 ch1 ch2 h0 n0) (some (.int (-1 : Int32))) T245.heap _
        rw [e245]
        refine ⟨_, rfl, N245, rfl, Or.inr ⟨by decide, fun hm => ?_⟩⟩
        simp only [List.mem_cons, List.not_mem_nil, or_false] at hm
        rcases hm with hm | hm | hm
        · exact hc242 (by rw [hm])
        · exact hc244 (by rw [hm])
        · exact hc246 (by rw [hm])
def Q_rm_lic4 (Z : State) (bb : Addr) (kb : ClassId) (qq : Int32) (ch0 : Int32) (ch1 : Int32) (ch2 : Int32) (ch3 : Int32) (h0 : Heap) (n0 : Nat) (v : Option Value) (h : Heap) (L : List Loc) : Prop := ∃ z : Int32, v = some (.int z) ∧ Fr n0 L ∧ h = h0 ∧ ((¬ z < 0 ∧ qq ∈ ([ch0, ch1, ch2, ch3] : List Int32)) ∨ (z < 0 ∧ qq ∉ ([ch0, ch1, ch2, ch3] : List Int32)))
theorem ef_rm_lic4 (m : MethodId) (bb : Addr) (qq : Int32) (ch0 : Int32) (ch1 : Int32) (ch2 : Int32) (ch3 : Int32) : entryFrame m #[(.ref bb), (.int qq), (.int (0 : Int32)), (.int (4 : Int32))] 6 = mkF m 0 #[.val (.ref bb), .val (.int qq), .val (.int (0 : Int32)), .val (.int (4 : Int32)), .unset, .unset] [] := by first | (simp [entryFrame, mkF, argsToLocals, Value.category]; done) | rfl
set_option maxRecDepth 65536 in
set_option maxHeartbeats 40000000 in
theorem rm_lic4 (l : Launch) (Z : State) (a0 : Array Value) (hw : ∀ d ∈ tables_1, d.before a0 Z = true) (ws : List Jvm.Cond) (bb : Addr) (kb : ClassId) (qq : Int32) (ch0 : Int32) (ch1 : Int32) (ch2 : Int32) (ch3 : Int32) (h0 : Heap) (n0 : Nat) (Z0 : n0 ≤ h0.size) (V_bb : Arv Z h0 bb kb .byte (4 : Int32) [(.int (ch0.toInt8.toInt32)), (.int (ch1.toInt8.toInt32)), (.int (ch2.toInt8.toInt32)), (.int (ch3.toInt8.toInt32))] (.int (0 : Int32))) (hbd : ∀ c ∈ ([ch0, ch1, ch2, ch3] : List Int32), ¬ c < 0 ∧ ¬ (65535 : Int32) < c) (hcd : ∀ c ∈ ([ch0, ch1, ch2, ch3] : List Int32), ¬ (255 : Int32) < c) (hq : ¬ qq < 0 ∧ ¬ (255 : Int32) < qq) :
    MetFree l (⟨"java/lang/StringLatin1", "indexOfChar", "([BIII)I"⟩ : MethodName) (head1 (Jvm.Cond.code (⟨"java/lang/StringLatin1", "indexOfChar", "([BIII)I"⟩ : MethodName) jdk_43_method_23_code 6 (some .int) :: ws) ({ frames := 0, cells := 0, slots := 0, locals := 0 } : Room)) (fun a_ U_ => a_ = #[(.ref bb), (.int qq), (.int (0 : Int32)), (.int (4 : Int32))] ∧ Z.Warmed39 U_.vm ∧ U_.heap = h0) (fun _ _ _ _ _ => True) (fun _ U_ o_ V_ => ∃ v_ L_, o_ = .returned v_ ∧ (Q_rm_lic4 Z bb kb qq ch0 ch1 ch2 ch3 h0 n0) v_ V_.heap L_ ∧ FrameEnd U_ o_ V_ L_ ({ frames := 0, cells := 0, slots := 0, locals := 0 } : Room).cells ({ frames := 0, cells := 0, slots := 0, locals := 0 } : Room).slots) := by
  refine MetFree.of_bodySF (plainFor_of_name pn_10) hisR ?_
  intro p e s m args below meth c s₁ Bd hml0 hP hK
  obtain ⟨rfl, hZ, hh⟩ := hP
  have hx := Bd.exec
  have hby := Bd.bytes
  have hml : c.maxLocals = 6 := hml0
  have hown : s.vm.findClass "java/lang/StringLatin1" = some m.cls := findClass_of_methodNamed Bd.named
  have hnm := (name_of_methodNamed Bd.named Bd.method).1
  have X0 : Stand p l e ({ frames := 0, cells := 0, slots := 0, locals := 0 } : Room) s m #[(.ref bb), (.int qq), (.int (0 : Int32)), (.int (4 : Int32))] below meth c s₁ [] 0 0 := Stand.of_body Bd
  have e0 : s₁.heap = h0 := by rw [← hh, Bd.state]; rfl
  have N0 := Fr.nil n0
  have K0 : Keep h0 h0 [] := Keep.refl _ _
  show own_Fin p.tables e below (own_Post (Q_rm_lic4 Z bb kb qq ch0 ch1 ch2 ch3 h0 n0) ({ frames := 0, cells := 0, slots := 0, locals := 0 } : Room).cells ({ frames := 0, cells := 0, slots := 0, locals := 0 } : Room).slots below s) _
  refine own_go (fun _ q => castTop (ef_rm_lic4 m bb qq ch0 ch1 ch2 ch3) q) ?_
  refine own_go (fun _ q => XS.iloadN X0.here hx rfl (hb hby d23_0) rfl q) ?_
  show own_Fin _ _ _ _ (s₁.setTop (mkF m 1 #[.val (.ref bb), .val (.int qq), .val (.int (0 : Int32)), .val (.int (4 : Int32)), .unset, .unset] [(.int qq)]))
  refine own_go (fun _ q => XS.i2b X0.here hx rfl (hb hby d23_1) rfl q) ?_
  refine own_go (fun _ q => XS.istore X0.here hx rfl (hb hby d23_2) rfl (l' := #[.val (.ref bb), .val (.int qq), .val (.int (0 : Int32)), .val (.int (4 : Int32)), .val (.int (qq.toInt8.toInt32)), .unset]) rfl q) ?_
  refine own_go (fun _ q => XS.iloadN X0.here hx rfl (hb hby d23_4) rfl q) ?_
  refine own_go (fun _ q => XS.istore X0.here hx rfl (hb hby d23_5) rfl (l' := #[.val (.ref bb), .val (.int qq), .val (.int (0 : Int32)), .val (.int (4 : Int32)), .val (.int (qq.toInt8.toInt32)), .val (.int (0 : Int32))]) rfl q) ?_
  refine own_go (fun _ q => XS.iload X0.here hx rfl (hb hby d23_7) rfl q) ?_
  refine own_go (fun _ q => XS.iloadN X0.here hx rfl (hb hby d23_9) rfl q) ?_
  show own_Fin _ _ _ _ (s₁.setTop (mkF m 10 #[.val (.ref bb), .val (.int qq), .val (.int (0 : Int32)), .val (.int (4 : Int32)), .val (.int (qq.toInt8.toInt32)), .val (.int (0 : Int32))] [(.int (4 : Int32)), (.int (0 : Int32))]))
  refine own_go (fun _ q => XS.icmpNo X0.here hx rfl (hb hby d23_10) rfl (tlt (by decide : (0 : Int32) < (4 : Int32))).2.1 q) ?_
  refine own_go (fun _ q => XS.aloadN X0.here hx rfl (hb hby d23_13) rfl rfl q) ?_
  refine own_go (fun _ q => XS.iload X0.here hx rfl (hb hby d23_14) rfl q) ?_
  show own_Fin _ _ _ _ (s₁.setTop (mkF m 16 #[.val (.ref bb), .val (.int qq), .val (.int (0 : Int32)), .val (.int (4 : Int32)), .val (.int (qq.toInt8.toInt32)), .val (.int (0 : Int32))] [(.int (0 : Int32)), (.ref bb)]))
  refine own_go (fun _ q => own_baload X0 hx hZ e0 V_bb (by decide) (v := (.int (ch0.toInt8.toInt32))) (rfl) (g := (mkF m 16 #[.val (.ref bb), .val (.int qq), .val (.int (0 : Int32)), .val (.int (4 : Int32)), .val (.int (qq.toInt8.toInt32)), .val (.int (0 : Int32))] [(.int (0 : Int32)), (.ref bb)])) rfl rfl (hb hby d23_16) _ q) ?_
  refine own_go (fun _ q => XS.iload X0.here hx rfl (hb hby d23_17) rfl q) ?_
  show own_Fin _ _ _ _ (s₁.setTop (mkF m 19 #[.val (.ref bb), .val (.int qq), .val (.int (0 : Int32)), .val (.int (4 : Int32)), .val (.int (qq.toInt8.toInt32)), .val (.int (0 : Int32))] [(.int (qq.toInt8.toInt32)), (.int (ch0.toInt8.toInt32))]))
  by_cases hc247 : (ch0.toInt8.toInt32) = (qq.toInt8.toInt32)
  · skip
    refine own_go (fun _ q => XS.icmpNo X0.here hx rfl (hb hby d23_19) rfl (teq hc247).2 q) ?_
    refine own_go (fun _ q => XS.iload X0.here hx rfl (hb hby d23_22) rfl q) ?_
    show own_Fin _ _ _ _ (s₁.setTop (mkF m 24 #[.val (.ref bb), .val (.int qq), .val (.int (0 : Int32)), .val (.int (4 : Int32)), .val (.int (qq.toInt8.toInt32)), .val (.int (0 : Int32))] [(.int (0 : Int32))]))
    refine own_retI X0 hx Bd (t := .int) Bd.returns rfl (by simp) (hb hby d23_24) ?_ (by decide) (by decide)
    show (Q_rm_lic4 Z bb kb qq ch0 ch1 ch2 ch3 h0 n0) (some (.int (0 : Int32))) s₁.heap _
    rw [e0]
    exact ⟨_, rfl, N0, rfl, Or.inl ⟨by decide, own_memi (own_m 0 rfl) (own_lo8i ⟨(hbd _ (own_m 0 rfl)).1, hcd _ (own_m 0 rfl)⟩ hq hc247)⟩⟩
  · skip
    refine own_go (fun _ q => XS.icmpYes X0.here hx rfl (pc0 := 19) (pc' := 25) rfl (hb hby d23_19) rfl (feq hc247).2 (by decide) (by decide) q) ?_
    show own_Fin _ _ _ _ (s₁.setTop (mkF m 25 #[.val (.ref bb), .val (.int qq), .val (.int (0 : Int32)), .val (.int (4 : Int32)), .val (.int (qq.toInt8.toInt32)), .val (.int (0 : Int32))] []))
    refine own_go (fun _ q => XS.iinc X0.here hx rfl (hb hby d23_25) rfl (l' := #[.val (.ref bb), .val (.int qq), .val (.int (0 : Int32)), .val (.int (4 : Int32)), .val (.int (qq.toInt8.toInt32)), .val (.int (1 : Int32))]) rfl q) ?_
    refine own_go (fun _ q => XS.goto X0.here hx rfl (pc0 := 28) (pc' := 7) rfl (hb hby d23_28) (by decide) (by decide) q) ?_
    refine own_go (fun _ q => XS.iload X0.here hx rfl (hb hby d23_7) rfl q) ?_
    refine own_go (fun _ q => XS.iloadN X0.here hx rfl (hb hby d23_9) rfl q) ?_
    show own_Fin _ _ _ _ (s₁.setTop (mkF m 10 #[.val (.ref bb), .val (.int qq), .val (.int (0 : Int32)), .val (.int (4 : Int32)), .val (.int (qq.toInt8.toInt32)), .val (.int (1 : Int32))] [(.int (4 : Int32)), (.int (1 : Int32))]))
    refine own_go (fun _ q => XS.icmpNo X0.here hx rfl (hb hby d23_10) rfl (tlt (by decide : (1 : Int32) < (4 : Int32))).2.1 q) ?_
    refine own_go (fun _ q => XS.aloadN X0.here hx rfl (hb hby d23_13) rfl rfl q) ?_
    refine own_go (fun _ q => XS.iload X0.here hx rfl (hb hby d23_14) rfl q) ?_
    show own_Fin _ _ _ _ (s₁.setTop (mkF m 16 #[.val (.ref bb), .val (.int qq), .val (.int (0 : Int32)), .val (.int (4 : Int32)), .val (.int (qq.toInt8.toInt32)), .val (.int (1 : Int32))] [(.int (1 : Int32)), (.ref bb)]))
    refine own_go (fun _ q => own_baload X0 hx hZ e0 V_bb (by decide) (v := (.int (ch1.toInt8.toInt32))) (rfl) (g := (mkF m 16 #[.val (.ref bb), .val (.int qq), .val (.int (0 : Int32)), .val (.int (4 : Int32)), .val (.int (qq.toInt8.toInt32)), .val (.int (1 : Int32))] [(.int (1 : Int32)), (.ref bb)])) rfl rfl (hb hby d23_16) _ q) ?_
    refine own_go (fun _ q => XS.iload X0.here hx rfl (hb hby d23_17) rfl q) ?_
    show own_Fin _ _ _ _ (s₁.setTop (mkF m 19 #[.val (.ref bb), .val (.int qq), .val (.int (0 : Int32)), .val (.int (4 : Int32)), .val (.int (qq.toInt8.toInt32)), .val (.int (1 : Int32))] [(.int (qq.toInt8.toInt32)), (.int (ch1.toInt8.toInt32))]))
    by_cases hc248 : (ch1.toInt8.toInt32) = (qq.toInt8.toInt32)
    · skip
      refine own_go (fun _ q => XS.icmpNo X0.here hx rfl (hb hby d23_19) rfl (teq hc248).2 q) ?_
      refine own_go (fun _ q => XS.iload X0.here hx rfl (hb hby d23_22) rfl q) ?_
      show own_Fin _ _ _ _ (s₁.setTop (mkF m 24 #[.val (.ref bb), .val (.int qq), .val (.int (0 : Int32)), .val (.int (4 : Int32)), .val (.int (qq.toInt8.toInt32)), .val (.int (1 : Int32))] [(.int (1 : Int32))]))
      refine own_retI X0 hx Bd (t := .int) Bd.returns rfl (by simp) (hb hby d23_24) ?_ (by decide) (by decide)
      show (Q_rm_lic4 Z bb kb qq ch0 ch1 ch2 ch3 h0 n0) (some (.int (1 : Int32))) s₁.heap _
      rw [e0]
      exact ⟨_, rfl, N0, rfl, Or.inl ⟨by decide, own_memi (own_m 1 rfl) (own_lo8i ⟨(hbd _ (own_m 1 rfl)).1, hcd _ (own_m 1 rfl)⟩ hq hc248)⟩⟩
    · skip
      refine own_go (fun _ q => XS.icmpYes X0.here hx rfl (pc0 := 19) (pc' := 25) rfl (hb hby d23_19) rfl (feq hc248).2 (by decide) (by decide) q) ?_
      show own_Fin _ _ _ _ (s₁.setTop (mkF m 25 #[.val (.ref bb), .val (.int qq), .val (.int (0 : Int32)), .val (.int (4 : Int32)), .val (.int (qq.toInt8.toInt32)), .val (.int (1 : Int32))] []))
      refine own_go (fun _ q => XS.iinc X0.here hx rfl (hb hby d23_25) rfl (l' := #[.val (.ref bb), .val (.int qq), .val (.int (0 : Int32)), .val (.int (4 : Int32)), .val (.int (qq.toInt8.toInt32)), .val (.int (2 : Int32))]) rfl q) ?_
      refine own_go (fun _ q => XS.goto X0.here hx rfl (pc0 := 28) (pc' := 7) rfl (hb hby d23_28) (by decide) (by decide) q) ?_
      refine own_go (fun _ q => XS.iload X0.here hx rfl (hb hby d23_7) rfl q) ?_
      refine own_go (fun _ q => XS.iloadN X0.here hx rfl (hb hby d23_9) rfl q) ?_
      show own_Fin _ _ _ _ (s₁.setTop (mkF m 10 #[.val (.ref bb), .val (.int qq), .val (.int (0 : Int32)), .val (.int (4 : Int32)), .val (.int (qq.toInt8.toInt32)), .val (.int (2 : Int32))] [(.int (4 : Int32)), (.int (2 : Int32))]))
      refine own_go (fun _ q => XS.icmpNo X0.here hx rfl (hb hby d23_10) rfl (tlt (by decide : (2 : Int32) < (4 : Int32))).2.1 q) ?_
      refine own_go (fun _ q => XS.aloadN X0.here hx rfl (hb hby d23_13) rfl rfl q) ?_
      refine own_go (fun _ q => XS.iload X0.here hx rfl (hb hby d23_14) rfl q) ?_
      show own_Fin _ _ _ _ (s₁.setTop (mkF m 16 #[.val (.ref bb), .val (.int qq), .val (.int (0 : Int32)), .val (.int (4 : Int32)), .val (.int (qq.toInt8.toInt32)), .val (.int (2 : Int32))] [(.int (2 : Int32)), (.ref bb)]))
      refine own_go (fun _ q => own_baload X0 hx hZ e0 V_bb (by decide) (v := (.int (ch2.toInt8.toInt32))) (rfl) (g := (mkF m 16 #[.val (.ref bb), .val (.int qq), .val (.int (0 : Int32)), .val (.int (4 : Int32)), .val (.int (qq.toInt8.toInt32)), .val (.int (2 : Int32))] [(.int (2 : Int32)), (.ref bb)])) rfl rfl (hb hby d23_16) _ q) ?_
      refine own_go (fun _ q => XS.iload X0.here hx rfl (hb hby d23_17) rfl q) ?_
      show own_Fin _ _ _ _ (s₁.setTop (mkF m 19 #[.val (.ref bb), .val (.int qq), .val (.int (0 : Int32)), .val (.int (4 : Int32)), .val (.int (qq.toInt8.toInt32)), .val (.int (2 : Int32))] [(.int (qq.toInt8.toInt32)), (.int (ch2.toInt8.toInt32))]))
      by_cases hc249 : (ch2.toInt8.toInt32) = (qq.toInt8.toInt32)
      · skip
        refine own_go (fun _ q => XS.icmpNo X0.here hx rfl (hb hby d23_19) rfl (teq hc249).2 q) ?_
        refine own_go (fun _ q => XS.iload X0.here hx rfl (hb hby d23_22) rfl q) ?_
        show own_Fin _ _ _ _ (s₁.setTop (mkF m 24 #[.val (.ref bb), .val (.int qq), .val (.int (0 : Int32)), .val (.int (4 : Int32)), .val (.int (qq.toInt8.toInt32)), .val (.int (2 : Int32))] [(.int (2 : Int32))]))
        refine own_retI X0 hx Bd (t := .int) Bd.returns rfl (by simp) (hb hby d23_24) ?_ (by decide) (by decide)
        show (Q_rm_lic4 Z bb kb qq ch0 ch1 ch2 ch3 h0 n0) (some (.int (2 : Int32))) s₁.heap _
        rw [e0]
        exact ⟨_, rfl, N0, rfl, Or.inl ⟨by decide, own_memi (own_m 2 rfl) (own_lo8i ⟨(hbd _ (own_m 2 rfl)).1, hcd _ (own_m 2 rfl)⟩ hq hc249)⟩⟩
      · skip
        refine own_go (fun _ q => XS.icmpYes X0.here hx rfl (pc0 := 19) (pc' := 25) rfl (hb hby d23_19) rfl (feq hc249).2 (by decide) (by decide) q) ?_
        show own_Fin _ _ _ _ (s₁.setTop (mkF m 25 #[.val (.ref bb), .val (.int qq), .val (.int (0 : Int32)), .val (.int (4 : Int32)), .val (.int (qq.toInt8.toInt32)), .val (.int (2 : Int32))] []))
        refine own_go (fun _ q => XS.iinc X0.here hx rfl (hb hby d23_25) rfl (l' := #[.val (.ref bb), .val (.int qq), .val (.int (0 : Int32)), .val (.int (4 : Int32)), .val (.int (qq.toInt8.toInt32)), .val (.int (3 : Int32))]) rfl q) ?_
        refine own_go (fun _ q => XS.goto X0.here hx rfl (pc0 := 28) (pc' := 7) rfl (hb hby d23_28) (by decide) (by decide) q) ?_
        refine own_go (fun _ q => XS.iload X0.here hx rfl (hb hby d23_7) rfl q) ?_
        refine own_go (fun _ q => XS.iloadN X0.here hx rfl (hb hby d23_9) rfl q) ?_
        show own_Fin _ _ _ _ (s₁.setTop (mkF m 10 #[.val (.ref bb), .val (.int qq), .val (.int (0 : Int32)), .val (.int (4 : Int32)), .val (.int (qq.toInt8.toInt32)), .val (.int (3 : Int32))] [(.int (4 : Int32)), (.int (3 : Int32))]))
        refine own_go (fun _ q => XS.icmpNo X0.here hx rfl (hb hby d23_10) rfl (tlt (by decide : (3 : Int32) < (4 : Int32))).2.1 q) ?_
        refine own_go (fun _ q => XS.aloadN X0.here hx rfl (hb hby d23_13) rfl rfl q) ?_
        refine own_go (fun _ q => XS.iload X0.here hx rfl (hb hby d23_14) rfl q) ?_
        show own_Fin _ _ _ _ (s₁.setTop (mkF m 16 #[.val (.ref bb), .val (.int qq), .val (.int (0 : Int32)), .val (.int (4 : Int32)), .val (.int (qq.toInt8.toInt32)), .val (.int (3 : Int32))] [(.int (3 : Int32)), (.ref bb)]))
        refine own_go (fun _ q => own_baload X0 hx hZ e0 V_bb (by decide) (v := (.int (ch3.toInt8.toInt32))) (rfl) (g := (mkF m 16 #[.val (.ref bb), .val (.int qq), .val (.int (0 : Int32)), .val (.int (4 : Int32)), .val (.int (qq.toInt8.toInt32)), .val (.int (3 : Int32))] [(.int (3 : Int32)), (.ref bb)])) rfl rfl (hb hby d23_16) _ q) ?_
        refine own_go (fun _ q => XS.iload X0.here hx rfl (hb hby d23_17) rfl q) ?_
        show own_Fin _ _ _ _ (s₁.setTop (mkF m 19 #[.val (.ref bb), .val (.int qq), .val (.int (0 : Int32)), .val (.int (4 : Int32)), .val (.int (qq.toInt8.toInt32)), .val (.int (3 : Int32))] [(.int (qq.toInt8.toInt32)), (.int (ch3.toInt8.toInt32))]))
        by_cases hc250 : (ch3.toInt8.toInt32) = (qq.toInt8.toInt32)
        · skip
          refine own_go (fun _ q => XS.icmpNo X0.here hx rfl (hb hby d23_19) rfl (teq hc250).2 q) ?_
          refine own_go (fun _ q => XS.iload X0.here hx rfl (hb hby d23_22) rfl q) ?_
          show own_Fin _ _ _ _ (s₁.setTop (mkF m 24 #[.val (.ref bb), .val (.int qq), .val (.int (0 : Int32)), .val (.int (4 : Int32)), .val (.int (qq.toInt8.toInt32)), .val (.int (3 : Int32))] [(.int (3 : Int32))]))
          refine own_retI X0 hx Bd (t := .int) Bd.returns rfl (by simp) (hb hby d23_24) ?_ (by decide) (by decide)
          show (Q_rm_lic4 Z bb kb qq ch0 ch1 ch2 ch3 h0 n0) (some (.int (3 : Int32))) s₁.heap _
          rw [e0]
          exact ⟨_, rfl, N0, rfl, Or.inl ⟨by decide, own_memi (own_m 3 rfl) (own_lo8i ⟨(hbd _ (own_m 3 rfl)).1, hcd _ (own_m 3 rfl)⟩ hq hc250)⟩⟩
        · skip
          refine own_go (fun _ q => XS.icmpYes X0.here hx rfl (pc0 := 19) (pc' := 25) rfl (hb hby d23_19) rfl (feq hc250).2 (by decide) (by decide) q) ?_
          show own_Fin _ _ _ _ (s₁.setTop (mkF m 25 #[.val (.ref bb), .val (.int qq), .val (.int (0 : Int32)), .val (.int (4 : Int32)), .val (.int (qq.toInt8.toInt32)), .val (.int (3 : Int32))] []))
          refine own_go (fun _ q => XS.iinc X0.here hx rfl (hb hby d23_25) rfl (l' := #[.val (.ref bb), .val (.int qq), .val (.int (0 : Int32)), .val (.int (4 : Int32)), .val (.int (qq.toInt8.toInt32)), .val (.int (4 : Int32))]) rfl q) ?_
          refine own_go (fun _ q => XS.goto X0.here hx rfl (pc0 := 28) (pc' := 7) rfl (hb hby d23_28) (by decide) (by decide) q) ?_
          refine own_go (fun _ q => XS.iload X0.here hx rfl (hb hby d23_7) rfl q) ?_
          refine own_go (fun _ q => XS.iloadN X0.here hx rfl (hb hby d23_9) rfl q) ?_
          show own_Fin _ _ _ _ (s₁.setTop (mkF m 10 #[.val (.ref bb), .val (.int qq), .val (.int (0 : Int32)), .val (.int (4 : Int32)), .val (.int (qq.toInt8.toInt32)), .val (.int (4 : Int32))] [(.int (4 : Int32)), (.int (4 : Int32))]))
          refine own_go (fun _ q => XS.icmpYes X0.here hx rfl (pc0 := 10) (pc' := 31) rfl (hb hby d23_10) rfl (flt (by decide : ¬ (4 : Int32) < (4 : Int32))).2.1 (by decide) (by decide) q) ?_
          refine own_go (fun _ q => XS.iconst X0.here hx rfl (hb hby d23_31) q) ?_
          show own_Fin _ _ _ _ (s₁.setTop (mkF m 32 #[.val (.ref bb), .val (.int qq), .val (.int (0 : Int32)), .val (.int (4 : Int32)), .val (.int (qq.toInt8.toInt32)), .val (.int (4 : Int32))] [(.int (-1 : Int32))]))
          refine own_retI X0 hx Bd (t := .int) Bd.returns rfl (by simp) (hb hby d23_32) ?_ (by decide) (by decide)
          show (Q_rm_lic4 Z bb kb qq ch0 ch1 ch2 ch3 h0 n0) (some (.int (-1 : Int32))) s₁.heap _
          rw [e0]
          refine ⟨_, rfl, N0, rfl, Or.inr ⟨by decide, fun hm => ?_⟩⟩
          simp only [List.mem_cons, List.not_mem_nil, or_false] at hm
          rcases hm with hm | hm | hm | hm
          · exact hc247 (by rw [hm])
          · exact hc248 (by rw [hm])
          · exact hc249 (by rw [hm])
          · exact hc250 (by rw [hm])
def Q_rm_uiu4 (Z : State) (bb : Addr) (kb : ClassId) (qq : Int32) (ch0 : Int32) (ch1 : Int32) (ch2 : Int32) (ch3 : Int32) (h0 : Heap) (n0 : Nat) (v : Option Value) (h : Heap) (L : List Loc) : Prop := ∃ z : Int32, v = some (.int z) ∧ Fr n0 L ∧ h = h0 ∧ ((¬ z < 0 ∧ qq ∈ ([ch0, ch1, ch2, ch3] : List Int32)) ∨ (z < 0 ∧ qq ∉ ([ch0, ch1, ch2, ch3] : List Int32)))
theorem ef_rm_uiu4 (m : MethodId) (bb : Addr) (qq : Int32) (ch0 : Int32) (ch1 : Int32) (ch2 : Int32) (ch3 : Int32) : entryFrame m #[(.ref bb), (.int qq), (.int (0 : Int32)), (.int (4 : Int32))] 5 = mkF m 0 #[.val (.ref bb), .val (.int qq), .val (.int (0 : Int32)), .val (.int (4 : Int32)), .unset] [] := by first | (simp [entryFrame, mkF, argsToLocals, Value.category]; done) | rfl
set_option maxRecDepth 65536 in
set_option maxHeartbeats 40000000 in
theorem rm_uiu4 (l : Launch) (Z : State) (a0 : Array Value) (hw : ∀ d ∈ tables_1, d.before a0 Z = true) (ws : List Jvm.Cond) (bb : Addr) (kb : ClassId) (qq : Int32) (ch0 : Int32) (ch1 : Int32) (ch2 : Int32) (ch3 : Int32) (h0 : Heap) (n0 : Nat) (Z0 : n0 ≤ h0.size) (V_bb : Arv Z h0 bb kb .byte (8 : Int32) [(.int (ch0.toInt8.toInt32)), (.int ((ch0 >>> ((8 : Int32) &&& 31)).toInt8.toInt32)), (.int (ch1.toInt8.toInt32)), (.int ((ch1 >>> ((8 : Int32) &&& 31)).toInt8.toInt32)), (.int (ch2.toInt8.toInt32)), (.int ((ch2 >>> ((8 : Int32) &&& 31)).toInt8.toInt32)), (.int (ch3.toInt8.toInt32)), (.int ((ch3 >>> ((8 : Int32) &&& 31)).toInt8.toInt32))] (.int (0 : Int32))) (hbd : ∀ c ∈ ([ch0, ch1, ch2, ch3] : List Int32), ¬ c < 0 ∧ ¬ (65535 : Int32) < c) (hq : ¬ qq < 0 ∧ ¬ (255 : Int32) < qq) (O0 : Old Z n0 h0) (S_A : Sta Z Z.heap "java/lang/StringUTF16" "$assertionsDisabled" "Z" (.int (1 : Int32))) (S_H : Sta Z Z.heap "java/lang/StringUTF16" "HI_BYTE_SHIFT" "I" (.int (0 : Int32))) (S_L : Sta Z Z.heap "java/lang/StringUTF16" "LO_BYTE_SHIFT" "I" (.int (8 : Int32))) :
    MetFree l (⟨"java/lang/StringUTF16", "indexOfCharUnsafe", "([BIII)I"⟩ : MethodName) (head1 (Jvm.Cond.code (⟨"java/lang/StringUTF16", "indexOfCharUnsafe", "([BIII)I"⟩ : MethodName) jdk_52_method_48_code 5 (some .int) :: ws) ({ frames := 1, cells := 0, slots := 0, locals := 13 } : Room)) (fun a_ U_ => a_ = #[(.ref bb), (.int qq), (.int (0 : Int32)), (.int (4 : Int32))] ∧ Z.Warmed39 U_.vm ∧ U_.heap = h0) (fun _ _ _ _ _ => True) (fun _ U_ o_ V_ => ∃ v_ L_, o_ = .returned v_ ∧ (Q_rm_uiu4 Z bb kb qq ch0 ch1 ch2 ch3 h0 n0) v_ V_.heap L_ ∧ FrameEnd U_ o_ V_ L_ ({ frames := 1, cells := 0, slots := 0, locals := 13 } : Room).cells ({ frames := 1, cells := 0, slots := 0, locals := 13 } : Room).slots) := by
  refine MetFree.of_bodySF (plainFor_of_name pn_2) hisR ?_
  intro p e s m args below meth c s₁ Bd hml0 hP hK
  obtain ⟨rfl, hZ, hh⟩ := hP
  have hx := Bd.exec
  have hby := Bd.bytes
  have hml : c.maxLocals = 5 := hml0
  have hown : s.vm.findClass "java/lang/StringUTF16" = some m.cls := findClass_of_methodNamed Bd.named
  have hnm := (name_of_methodNamed Bd.named Bd.method).1
  have X0 : Stand p l e ({ frames := 1, cells := 0, slots := 0, locals := 13 } : Room) s m #[(.ref bb), (.int qq), (.int (0 : Int32)), (.int (4 : Int32))] below meth c s₁ [] 0 0 := Stand.of_body Bd
  have e0 : s₁.heap = h0 := by rw [← hh, Bd.state]; rfl
  have N0 := Fr.nil n0
  have K0 : Keep h0 h0 [] := Keep.refl _ _
  show own_Fin p.tables e below (own_Post (Q_rm_uiu4 Z bb kb qq ch0 ch1 ch2 ch3 h0 n0) ({ frames := 1, cells := 0, slots := 0, locals := 13 } : Room).cells ({ frames := 1, cells := 0, slots := 0, locals := 13 } : Room).slots below s) _
  refine own_go (fun _ q => castTop (ef_rm_uiu4 m bb qq ch0 ch1 ch2 ch3) q) ?_
  refine own_go (fun _ q => XS.iloadN X0.here hx rfl (hb hby d39_0) rfl q) ?_
  refine own_go (fun _ q => XS.istore X0.here hx rfl (hb hby d39_1) rfl (l' := #[.val (.ref bb), .val (.int qq), .val (.int (0 : Int32)), .val (.int (4 : Int32)), .val (.int (0 : Int32))]) rfl q) ?_
  refine own_go (fun _ q => XS.iload X0.here hx rfl (hb hby d39_3) rfl q) ?_
  refine own_go (fun _ q => XS.iloadN X0.here hx rfl (hb hby d39_5) rfl q) ?_
  show own_Fin _ _ _ _ (s₁.setTop (mkF m 6 #[.val (.ref bb), .val (.int qq), .val (.int (0 : Int32)), .val (.int (4 : Int32)), .val (.int (0 : Int32))] [(.int (4 : Int32)), (.int (0 : Int32))]))
  refine own_go (fun _ q => XS.icmpNo X0.here hx rfl (hb hby d39_6) rfl (tlt (by decide : (0 : Int32) < (4 : Int32))).2.1 q) ?_
  refine own_go (fun _ q => XS.aloadN X0.here hx rfl (hb hby d39_9) rfl rfl q) ?_
  refine own_go (fun _ q => XS.iload X0.here hx rfl (hb hby d39_10) rfl q) ?_
  show own_Fin _ _ _ _ (s₁.setTop (mkF m 12 #[.val (.ref bb), .val (.int qq), .val (.int (0 : Int32)), .val (.int (4 : Int32)), .val (.int (0 : Int32))] [(.int (0 : Int32)), (.ref bb)]))
  obtain ⟨_, _, ⟨T251, L251, k251, n251⟩, -, X251, ⟨Lc251, hQ251, l251, y251, z251⟩, st251⟩ := Jvm.LawKit.callS X0 hx (y := (⟨"java/lang/StringUTF16", "getChar", "([BI)C"⟩ : MethodName)) hown (mvT hZ (own_w hw 135 rfl)) (mvT hZ (own_w hw 136 rfl)) (mvT hZ (own_w hw 43 rfl)) (mvT hZ (own_w hw 137 rfl)) (by decide) (backOf (W := 0) (rm_gc l Z a0 hw [] bb kb (0 : Int32) ch0 (8 : Int32) [(.int (ch0.toInt8.toInt32)), (.int ((ch0 >>> ((8 : Int32) &&& 31)).toInt8.toInt32)), (.int (ch1.toInt8.toInt32)), (.int ((ch1 >>> ((8 : Int32) &&& 31)).toInt8.toInt32)), (.int (ch2.toInt8.toInt32)), (.int ((ch2 >>> ((8 : Int32) &&& 31)).toInt8.toInt32)), (.int (ch3.toInt8.toInt32)), (.int ((ch3 >>> ((8 : Int32) &&& 31)).toInt8.toInt32))] h0 n0 (Nat.le_trans Z0 K0.1) V_bb (by decide) (by decide) rfl rfl (hbd _ (own_m 0 rfl)) O0 S_A S_H S_L) hZ (own_w hw 137 rfl) (own_w hw 43 rfl) (by decide) (by decide)) (g := (mkF m 12 #[.val (.ref bb), .val (.int qq), .val (.int (0 : Int32)), .val (.int (4 : Int32)), .val (.int (0 : Int32))] [(.int (0 : Int32)), (.ref bb)])) rfl (by rw [hml]; rfl) (argsL := [(.ref bb), (.int (0 : Int32))]) (rest := []) (lenOf pd_8 rfl) rfl (by show 2 * 0 + _ ≤ _; exact Nat.le_of_eq rfl) (hb hby d39_12) (fun _ _ => ⟨rfl, e0, (by decide : 0 + 0 ≤ _), (by decide : 0 + 0 ≤ _)⟩)
  dsimp only [Pt.U, Pt.locs, Pt.cells, Pt.slots] at X251 l251 y251 z251 st251 hQ251
  subst l251 y251 z251
  obtain ⟨rfl, N251q, e251⟩ := hQ251
  have N251 := Fr.app N0 N251q
  refine own_go st251 ?_
  refine own_go (fun _ q => XS.iloadN X251.here hx rfl (hb hby d39_15) rfl q) ?_
  show own_Fin _ _ _ _ (T251.setTop (mkF m 16 #[.val (.ref bb), .val (.int qq), .val (.int (0 : Int32)), .val (.int (4 : Int32)), .val (.int (0 : Int32))] [(.int qq), (.int ch0)]))
  by_cases hc252 : ch0 = qq
  · skip
    refine own_go (fun _ q => XS.icmpNo X251.here hx rfl (hb hby d39_16) rfl (teq hc252).2 q) ?_
    refine own_go (fun _ q => XS.iload X251.here hx rfl (hb hby d39_19) rfl q) ?_
    show own_Fin _ _ _ _ (T251.setTop (mkF m 21 #[.val (.ref bb), .val (.int qq), .val (.int (0 : Int32)), .val (.int (4 : Int32)), .val (.int (0 : Int32))] [(.int (0 : Int32))]))
    refine own_retI X251 hx Bd (t := .int) Bd.returns rfl (by simp) (hb hby d39_21) ?_ (by decide) (by decide)
    show (Q_rm_uiu4 Z bb kb qq ch0 ch1 ch2 ch3 h0 n0) (some (.int (0 : Int32))) T251.heap _
    rw [e251]
    exact ⟨_, rfl, N251, rfl, Or.inl ⟨by decide, own_memi (own_m 0 rfl) hc252⟩⟩
  · skip
    refine own_go (fun _ q => XS.icmpYes X251.here hx rfl (pc0 := 16) (pc' := 22) rfl (hb hby d39_16) rfl (feq hc252).2 (by decide) (by decide) q) ?_
    show own_Fin _ _ _ _ (T251.setTop (mkF m 22 #[.val (.ref bb), .val (.int qq), .val (.int (0 : Int32)), .val (.int (4 : Int32)), .val (.int (0 : Int32))] []))
    refine own_go (fun _ q => XS.iinc X251.here hx rfl (hb hby d39_22) rfl (l' := #[.val (.ref bb), .val (.int qq), .val (.int (0 : Int32)), .val (.int (4 : Int32)), .val (.int (1 : Int32))]) rfl q) ?_
    refine own_go (fun _ q => XS.goto X251.here hx rfl (pc0 := 25) (pc' := 3) rfl (hb hby d39_25) (by decide) (by decide) q) ?_
    refine own_go (fun _ q => XS.iload X251.here hx rfl (hb hby d39_3) rfl q) ?_
    refine own_go (fun _ q => XS.iloadN X251.here hx rfl (hb hby d39_5) rfl q) ?_
    show own_Fin _ _ _ _ (T251.setTop (mkF m 6 #[.val (.ref bb), .val (.int qq), .val (.int (0 : Int32)), .val (.int (4 : Int32)), .val (.int (1 : Int32))] [(.int (4 : Int32)), (.int (1 : Int32))]))
    refine own_go (fun _ q => XS.icmpNo X251.here hx rfl (hb hby d39_6) rfl (tlt (by decide : (1 : Int32) < (4 : Int32))).2.1 q) ?_
    refine own_go (fun _ q => XS.aloadN X251.here hx rfl (hb hby d39_9) rfl rfl q) ?_
    refine own_go (fun _ q => XS.iload X251.here hx rfl (hb hby d39_10) rfl q) ?_
    show own_Fin _ _ _ _ (T251.setTop (mkF m 12 #[.val (.ref bb), .val (.int qq), .val (.int (0 : Int32)), .val (.int (4 : Int32)), .val (.int (1 : Int32))] [(.int (1 : Int32)), (.ref bb)]))
    obtain ⟨_, _, ⟨T253, L253, k253, n253⟩, -, X253, ⟨Lc253, hQ253, l253, y253, z253⟩, st253⟩ := Jvm.LawKit.callS X251 hx (y := (⟨"java/lang/StringUTF16", "getChar", "([BI)C"⟩ : MethodName)) hown (mvT hZ (own_w hw 135 rfl)) (mvT hZ (own_w hw 136 rfl)) (mvT hZ (own_w hw 43 rfl)) (mvT hZ (own_w hw 137 rfl)) (by decide) (backOf (W := 0) (rm_gc l Z a0 hw [] bb kb (1 : Int32) ch1 (8 : Int32) [(.int (ch0.toInt8.toInt32)), (.int ((ch0 >>> ((8 : Int32) &&& 31)).toInt8.toInt32)), (.int (ch1.toInt8.toInt32)), (.int ((ch1 >>> ((8 : Int32) &&& 31)).toInt8.toInt32)), (.int (ch2.toInt8.toInt32)), (.int ((ch2 >>> ((8 : Int32) &&& 31)).toInt8.toInt32)), (.int (ch3.toInt8.toInt32)), (.int ((ch3 >>> ((8 : Int32) &&& 31)).toInt8.toInt32))] h0 n0 (Nat.le_trans Z0 K0.1) V_bb (by decide) (by decide) rfl rfl (hbd _ (own_m 1 rfl)) O0 S_A S_H S_L) hZ (own_w hw 137 rfl) (own_w hw 43 rfl) (by decide) (by decide)) (g := (mkF m 12 #[.val (.ref bb), .val (.int qq), .val (.int (0 : Int32)), .val (.int (4 : Int32)), .val (.int (1 : Int32))] [(.int (1 : Int32)), (.ref bb)])) rfl (by rw [hml]; rfl) (argsL := [(.ref bb), (.int (1 : Int32))]) (rest := []) (lenOf pd_8 rfl) rfl (by show 2 * 0 + _ ≤ _; exact Nat.le_of_eq rfl) (hb hby d39_12) (fun _ _ => ⟨rfl, e251, (by decide : 0 + 0 ≤ _), (by decide : 0 + 0 ≤ _)⟩)
    dsimp only [Pt.U, Pt.locs, Pt.cells, Pt.slots] at X253 l253 y253 z253 st253 hQ253
    subst l253 y253 z253
    obtain ⟨rfl, N253q, e253⟩ := hQ253
    have N253 := Fr.app N251 N253q
    refine own_go st253 ?_
    refine own_go (fun _ q => XS.iloadN X253.here hx rfl (hb hby d39_15) rfl q) ?_
    show own_Fin _ _ _ _ (T253.setTop (mkF m 16 #[.val (.ref bb), .val (.int qq), .val (.int (0 : Int32)), .val (.int (4 : Int32)), .val (.int (1 : Int32))] [(.int qq), (.int ch1)]))
    by_cases hc254 : ch1 = qq
    · skip
      refine own_go (fun _ q => XS.icmpNo X253.here hx rfl (hb hby d39_16) rfl (teq hc254).2 q) ?_
      refine own_go (fun _ q => XS.iload X253.here hx rfl (hb hby d39_19) rfl q) ?_
      show own_Fin _ _ _ _ (T253.setTop (mkF m 21 #[.val (.ref bb), .val (.int qq), .val (.int (0 : Int32)), .val (.int (4 : Int32)), .val (.int (1 : Int32))] [(.int (1 : Int32))]))
      refine own_retI X253 hx Bd (t := .int) Bd.returns rfl (by simp) (hb hby d39_21) ?_ (by decide) (by decide)
      show (Q_rm_uiu4 Z bb kb qq ch0 ch1 ch2 ch3 h0 n0) (some (.int (1 : Int32))) T253.heap _
      rw [e253]
      exact ⟨_, rfl, N253, rfl, Or.inl ⟨by decide, own_memi (own_m 1 rfl) hc254⟩⟩
    · skip
      refine own_go (fun _ q => XS.icmpYes X253.here hx rfl (pc0 := 16) (pc' := 22) rfl (hb hby d39_16) rfl (feq hc254).2 (by decide) (by decide) q) ?_
      show own_Fin _ _ _ _ (T253.setTop (mkF m 22 #[.val (.ref bb), .val (.int qq), .val (.int (0 : Int32)), .val (.int (4 : Int32)), .val (.int (1 : Int32))] []))
      refine own_go (fun _ q => XS.iinc X253.here hx rfl (hb hby d39_22) rfl (l' := #[.val (.ref bb), .val (.int qq), .val (.int (0 : Int32)), .val (.int (4 : Int32)), .val (.int (2 : Int32))]) rfl q) ?_
      refine own_go (fun _ q => XS.goto X253.here hx rfl (pc0 := 25) (pc' := 3) rfl (hb hby d39_25) (by decide) (by decide) q) ?_
      refine own_go (fun _ q => XS.iload X253.here hx rfl (hb hby d39_3) rfl q) ?_
      refine own_go (fun _ q => XS.iloadN X253.here hx rfl (hb hby d39_5) rfl q) ?_
      show own_Fin _ _ _ _ (T253.setTop (mkF m 6 #[.val (.ref bb), .val (.int qq), .val (.int (0 : Int32)), .val (.int (4 : Int32)), .val (.int (2 : Int32))] [(.int (4 : Int32)), (.int (2 : Int32))]))
      refine own_go (fun _ q => XS.icmpNo X253.here hx rfl (hb hby d39_6) rfl (tlt (by decide : (2 : Int32) < (4 : Int32))).2.1 q) ?_
      refine own_go (fun _ q => XS.aloadN X253.here hx rfl (hb hby d39_9) rfl rfl q) ?_
      refine own_go (fun _ q => XS.iload X253.here hx rfl (hb hby d39_10) rfl q) ?_
      show own_Fin _ _ _ _ (T253.setTop (mkF m 12 #[.val (.ref bb), .val (.int qq), .val (.int (0 : Int32)), .val (.int (4 : Int32)), .val (.int (2 : Int32))] [(.int (2 : Int32)), (.ref bb)]))
      obtain ⟨_, _, ⟨T255, L255, k255, n255⟩, -, X255, ⟨Lc255, hQ255, l255, y255, z255⟩, st255⟩ := Jvm.LawKit.callS X253 hx (y := (⟨"java/lang/StringUTF16", "getChar", "([BI)C"⟩ : MethodName)) hown (mvT hZ (own_w hw 135 rfl)) (mvT hZ (own_w hw 136 rfl)) (mvT hZ (own_w hw 43 rfl)) (mvT hZ (own_w hw 137 rfl)) (by decide) (backOf (W := 0) (rm_gc l Z a0 hw [] bb kb (2 : Int32) ch2 (8 : Int32) [(.int (ch0.toInt8.toInt32)), (.int ((ch0 >>> ((8 : Int32) &&& 31)).toInt8.toInt32)), (.int (ch1.toInt8.toInt32)), (.int ((ch1 >>> ((8 : Int32) &&& 31)).toInt8.toInt32)), (.int (ch2.toInt8.toInt32)), (.int ((ch2 >>> ((8 : Int32) &&& 31)).toInt8.toInt32)), (.int (ch3.toInt8.toInt32)), (.int ((ch3 >>> ((8 : Int32) &&& 31)).toInt8.toInt32))] h0 n0 (Nat.le_trans Z0 K0.1) V_bb (by decide) (by decide) rfl rfl (hbd _ (own_m 2 rfl)) O0 S_A S_H S_L) hZ (own_w hw 137 rfl) (own_w hw 43 rfl) (by decide) (by decide)) (g := (mkF m 12 #[.val (.ref bb), .val (.int qq), .val (.int (0 : Int32)), .val (.int (4 : Int32)), .val (.int (2 : Int32))] [(.int (2 : Int32)), (.ref bb)])) rfl (by rw [hml]; rfl) (argsL := [(.ref bb), (.int (2 : Int32))]) (rest := []) (lenOf pd_8 rfl) rfl (by show 2 * 0 + _ ≤ _; exact Nat.le_of_eq rfl) (hb hby d39_12) (fun _ _ => ⟨rfl, e253, (by decide : 0 + 0 ≤ _), (by decide : 0 + 0 ≤ _)⟩)
      dsimp only [Pt.U, Pt.locs, Pt.cells, Pt.slots] at X255 l255 y255 z255 st255 hQ255
      subst l255 y255 z255
      obtain ⟨rfl, N255q, e255⟩ := hQ255
      have N255 := Fr.app N253 N255q
      refine own_go st255 ?_
      refine own_go (fun _ q => XS.iloadN X255.here hx rfl (hb hby d39_15) rfl q) ?_
      show own_Fin _ _ _ _ (T255.setTop (mkF m 16 #[.val (.ref bb), .val (.int qq), .val (.int (0 : Int32)), .val (.int (4 : Int32)), .val (.int (2 : Int32))] [(.int qq), (.int ch2)]))
      by_cases hc256 : ch2 = qq
      · skip
        refine own_go (fun _ q => XS.icmpNo X255.here hx rfl (hb hby d39_16) rfl (teq hc256).2 q) ?_
        refine own_go (fun _ q => XS.iload X255.here hx rfl (hb hby d39_19) rfl q) ?_
        show own_Fin _ _ _ _ (T255.setTop (mkF m 21 #[.val (.ref bb), .val (.int qq), .val (.int (0 : Int32)), .val (.int (4 : Int32)), .val (.int (2 : Int32))] [(.int (2 : Int32))]))
        refine own_retI X255 hx Bd (t := .int) Bd.returns rfl (by simp) (hb hby d39_21) ?_ (by decide) (by decide)
        show (Q_rm_uiu4 Z bb kb qq ch0 ch1 ch2 ch3 h0 n0) (some (.int (2 : Int32))) T255.heap _
        rw [e255]
        exact ⟨_, rfl, N255, rfl, Or.inl ⟨by decide, own_memi (own_m 2 rfl) hc256⟩⟩
      · skip
        refine own_go (fun _ q => XS.icmpYes X255.here hx rfl (pc0 := 16) (pc' := 22) rfl (hb hby d39_16) rfl (feq hc256).2 (by decide) (by decide) q) ?_
        show own_Fin _ _ _ _ (T255.setTop (mkF m 22 #[.val (.ref bb), .val (.int qq), .val (.int (0 : Int32)), .val (.int (4 : Int32)), .val (.int (2 : Int32))] []))
        refine own_go (fun _ q => XS.iinc X255.here hx rfl (hb hby d39_22) rfl (l' := #[.val (.ref bb), .val (.int qq), .val (.int (0 : Int32)), .val (.int (4 : Int32)), .val (.int (3 : Int32))]) rfl q) ?_
        refine own_go (fun _ q => XS.goto X255.here hx rfl (pc0 := 25) (pc' := 3) rfl (hb hby d39_25) (by decide) (by decide) q) ?_
        refine own_go (fun _ q => XS.iload X255.here hx rfl (hb hby d39_3) rfl q) ?_
        refine own_go (fun _ q => XS.iloadN X255.here hx rfl (hb hby d39_5) rfl q) ?_
        show own_Fin _ _ _ _ (T255.setTop (mkF m 6 #[.val (.ref bb), .val (.int qq), .val (.int (0 : Int32)), .val (.int (4 : Int32)), .val (.int (3 : Int32))] [(.int (4 : Int32)), (.int (3 : Int32))]))
        refine own_go (fun _ q => XS.icmpNo X255.here hx rfl (hb hby d39_6) rfl (tlt (by decide : (3 : Int32) < (4 : Int32))).2.1 q) ?_
        refine own_go (fun _ q => XS.aloadN X255.here hx rfl (hb hby d39_9) rfl rfl q) ?_
        refine own_go (fun _ q => XS.iload X255.here hx rfl (hb hby d39_10) rfl q) ?_
        show own_Fin _ _ _ _ (T255.setTop (mkF m 12 #[.val (.ref bb), .val (.int qq), .val (.int (0 : Int32)), .val (.int (4 : Int32)), .val (.int (3 : Int32))] [(.int (3 : Int32)), (.ref bb)]))
        obtain ⟨_, _, ⟨T257, L257, k257, n257⟩, -, X257, ⟨Lc257, hQ257, l257, y257, z257⟩, st257⟩ := Jvm.LawKit.callS X255 hx (y := (⟨"java/lang/StringUTF16", "getChar", "([BI)C"⟩ : MethodName)) hown (mvT hZ (own_w hw 135 rfl)) (mvT hZ (own_w hw 136 rfl)) (mvT hZ (own_w hw 43 rfl)) (mvT hZ (own_w hw 137 rfl)) (by decide) (backOf (W := 0) (rm_gc l Z a0 hw [] bb kb (3 : Int32) ch3 (8 : Int32) [(.int (ch0.toInt8.toInt32)), (.int ((ch0 >>> ((8 : Int32) &&& 31)).toInt8.toInt32)), (.int (ch1.toInt8.toInt32)), (.int ((ch1 >>> ((8 : Int32) &&& 31)).toInt8.toInt32)), (.int (ch2.toInt8.toInt32)), (.int ((ch2 >>> ((8 : Int32) &&& 31)).toInt8.toInt32)), (.int (ch3.toInt8.toInt32)), (.int ((ch3 >>> ((8 : Int32) &&& 31)).toInt8.toInt32))] h0 n0 (Nat.le_trans Z0 K0.1) V_bb (by decide) (by decide) rfl rfl (hbd _ (own_m 3 rfl)) O0 S_A S_H S_L) hZ (own_w hw 137 rfl) (own_w hw 43 rfl) (by decide) (by decide)) (g := (mkF m 12 #[.val (.ref bb), .val (.int qq), .val (.int (0 : Int32)), .val (.int (4 : Int32)), .val (.int (3 : Int32))] [(.int (3 : Int32)), (.ref bb)])) rfl (by rw [hml]; rfl) (argsL := [(.ref bb), (.int (3 : Int32))]) (rest := []) (lenOf pd_8 rfl) rfl (by show 2 * 0 + _ ≤ _; exact Nat.le_of_eq rfl) (hb hby d39_12) (fun _ _ => ⟨rfl, e255, (by decide : 0 + 0 ≤ _), (by decide : 0 + 0 ≤ _)⟩)
        dsimp only [Pt.U, Pt.locs, Pt.cells, Pt.slots] at X257 l257 y257 z257 st257 hQ257
        subst l257 y257 z257
        obtain ⟨rfl, N257q, e257⟩ := hQ257
        have N257 := Fr.app N255 N257q
        refine own_go st257 ?_
        refine own_go (fun _ q => XS.iloadN X257.here hx rfl (hb hby d39_15) rfl q) ?_
        show own_Fin _ _ _ _ (T257.setTop (mkF m 16 #[.val (.ref bb), .val (.int qq), .val (.int (0 : Int32)), .val (.int (4 : Int32)), .val (.int (3 : Int32))] [(.int qq), (.int ch3)]))
        by_cases hc258 : ch3 = qq
        · skip
          refine own_go (fun _ q => XS.icmpNo X257.here hx rfl (hb hby d39_16) rfl (teq hc258).2 q) ?_
          refine own_go (fun _ q => XS.iload X257.here hx rfl (hb hby d39_19) rfl q) ?_
          show own_Fin _ _ _ _ (T257.setTop (mkF m 21 #[.val (.ref bb), .val (.int qq), .val (.int (0 : Int32)), .val (.int (4 : Int32)), .val (.int (3 : Int32))] [(.int (3 : Int32))]))
          refine own_retI X257 hx Bd (t := .int) Bd.returns rfl (by simp) (hb hby d39_21) ?_ (by decide) (by decide)
          show (Q_rm_uiu4 Z bb kb qq ch0 ch1 ch2 ch3 h0 n0) (some (.int (3 : Int32))) T257.heap _
          rw [e257]
          exact ⟨_, rfl, N257, rfl, Or.inl ⟨by decide, own_memi (own_m 3 rfl) hc258⟩⟩
        · skip
          refine own_go (fun _ q => XS.icmpYes X257.here hx rfl (pc0 := 16) (pc' := 22) rfl (hb hby d39_16) rfl (feq hc258).2 (by decide) (by decide) q) ?_
          show own_Fin _ _ _ _ (T257.setTop (mkF m 22 #[.val (.ref bb), .val (.int qq), .val (.int (0 : Int32)), .val (.int (4 : Int32)), .val (.int (3 : Int32))] []))
          refine own_go (fun _ q => XS.iinc X257.here hx rfl (hb hby d39_22) rfl (l' := #[.val (.ref bb), .val (.int qq), .val (.int (0 : Int32)), .val (.int (4 : Int32)), .val (.int (4 : Int32))]) rfl q) ?_
          refine own_go (fun _ q => XS.goto X257.here hx rfl (pc0 := 25) (pc' := 3) rfl (hb hby d39_25) (by decide) (by decide) q) ?_
          refine own_go (fun _ q => XS.iload X257.here hx rfl (hb hby d39_3) rfl q) ?_
          refine own_go (fun _ q => XS.iloadN X257.here hx rfl (hb hby d39_5) rfl q) ?_
          show own_Fin _ _ _ _ (T257.setTop (mkF m 6 #[.val (.ref bb), .val (.int qq), .val (.int (0 : Int32)), .val (.int (4 : Int32)), .val (.int (4 : Int32))] [(.int (4 : Int32)), (.int (4 : Int32))]))
          refine own_go (fun _ q => XS.icmpYes X257.here hx rfl (pc0 := 6) (pc' := 28) rfl (hb hby d39_6) rfl (flt (by decide : ¬ (4 : Int32) < (4 : Int32))).2.1 (by decide) (by decide) q) ?_
          refine own_go (fun _ q => XS.iconst X257.here hx rfl (hb hby d39_28) q) ?_
          show own_Fin _ _ _ _ (T257.setTop (mkF m 29 #[.val (.ref bb), .val (.int qq), .val (.int (0 : Int32)), .val (.int (4 : Int32)), .val (.int (4 : Int32))] [(.int (-1 : Int32))]))
          refine own_retI X257 hx Bd (t := .int) Bd.returns rfl (by simp) (hb hby d39_29) ?_ (by decide) (by decide)
          show (Q_rm_uiu4 Z bb kb qq ch0 ch1 ch2 ch3 h0 n0) (some (.int (-1 : Int32))) T257.heap _
          rw [e257]
          refine ⟨_, rfl, N257, rfl, Or.inr ⟨by decide, fun hm => ?_⟩⟩
          simp only [List.mem_cons, List.not_mem_nil, or_false] at hm
          rcases hm with hm | hm | hm | hm
          · exact hc252 (by rw [hm])
          · exact hc254 (by rw [hm])
          · exact hc256 (by rw [hm])
          · exact hc258 (by rw [hm])
def Q_rm_lic (Z : State) (bb : Addr) (kb : ClassId) (qq : Int32) (cs : List Int32) (h0 : Heap) (n0 : Nat) (v : Option Value) (h : Heap) (L : List Loc) : Prop := ∃ z : Int32, v = some (.int z) ∧ Fr n0 L ∧ h = h0 ∧ ((¬ z < 0 ∧ qq ∈ cs) ∨ (z < 0 ∧ qq ∉ cs))
set_option maxRecDepth 65536 in
set_option maxHeartbeats 40000000 in
theorem rm_lic (l : Launch) (Z : State) (a0 : Array Value) (hw : ∀ d ∈ tables_1, d.before a0 Z = true) (ws : List Jvm.Cond) (bb : Addr) (kb : ClassId) (qq : Int32) (cs : List Int32) (h0 : Heap) (n0 : Nat) (Z0 : n0 ≤ h0.size) (V_bb : Arv Z h0 bb kb .byte (Int32.ofNat cs.length) (cs.map fun c => Value.int (StrChars.lo8 c)) (.int (0 : Int32))) (hbd : ∀ c ∈ cs, ¬ c < 0 ∧ ¬ (65535 : Int32) < c) (hcd : ∀ c ∈ cs, ¬ (255 : Int32) < c) (hL : 0 < cs.length ∧ cs.length ≤ 4) (hq : ¬ qq < 0 ∧ ¬ (255 : Int32) < qq) :
    MetFree l (⟨"java/lang/StringLatin1", "indexOfChar", "([BIII)I"⟩ : MethodName) (head1 (Jvm.Cond.code (⟨"java/lang/StringLatin1", "indexOfChar", "([BIII)I"⟩ : MethodName) jdk_43_method_23_code 6 (some .int) :: ws) ({ frames := 0, cells := 0, slots := 0, locals := 0 } : Room)) (fun a_ U_ => a_ = #[(.ref bb), (.int qq), (.int (0 : Int32)), (.int (Int32.ofNat cs.length))] ∧ Z.Warmed39 U_.vm ∧ U_.heap = h0) (fun _ _ _ _ _ => True) (fun _ U_ o_ V_ => ∃ v_ L_, o_ = .returned v_ ∧ (Q_rm_lic Z bb kb qq cs h0 n0) v_ V_.heap L_ ∧ FrameEnd U_ o_ V_ L_ ({ frames := 0, cells := 0, slots := 0, locals := 0 } : Room).cells ({ frames := 0, cells := 0, slots := 0, locals := 0 } : Room).slots) := by
  obtain ⟨hl1, hl4⟩ := hL
  rcases cs with _ | ⟨ch0, _ | ⟨ch1, _ | ⟨ch2, _ | ⟨ch3, _ | ⟨ch4, tl⟩⟩⟩⟩⟩
  · exact absurd hl1 (Nat.lt_irrefl 0)
  · exact rm_lic1 l Z a0 hw ws bb kb qq ch0 h0 n0 Z0 V_bb hbd hcd hq
  · exact rm_lic2 l Z a0 hw ws bb kb qq ch0 ch1 h0 n0 Z0 V_bb hbd hcd hq
  · exact rm_lic3 l Z a0 hw ws bb kb qq ch0 ch1 ch2 h0 n0 Z0 V_bb hbd hcd hq
  · exact rm_lic4 l Z a0 hw ws bb kb qq ch0 ch1 ch2 ch3 h0 n0 Z0 V_bb hbd hcd hq
  · exact absurd hl4 (by simp only [List.length_cons]; omega)
def Q_rm_uiu (Z : State) (bb : Addr) (kb : ClassId) (qq : Int32) (cs : List Int32) (h0 : Heap) (n0 : Nat) (v : Option Value) (h : Heap) (L : List Loc) : Prop := ∃ z : Int32, v = some (.int z) ∧ Fr n0 L ∧ h = h0 ∧ ((¬ z < 0 ∧ qq ∈ cs) ∨ (z < 0 ∧ qq ∉ cs))
set_option maxRecDepth 65536 in
set_option maxHeartbeats 40000000 in
theorem rm_uiu (l : Launch) (Z : State) (a0 : Array Value) (hw : ∀ d ∈ tables_1, d.before a0 Z = true) (ws : List Jvm.Cond) (bb : Addr) (kb : ClassId) (qq : Int32) (cs : List Int32) (h0 : Heap) (n0 : Nat) (Z0 : n0 ≤ h0.size) (V_bb : Arv Z h0 bb kb .byte (Int32.ofNat (2 * cs.length)) (StrChars.Road.wideBytes cs) (.int (0 : Int32))) (hbd : ∀ c ∈ cs, ¬ c < 0 ∧ ¬ (65535 : Int32) < c) (hL : 0 < cs.length ∧ cs.length ≤ 4) (hq : ¬ qq < 0 ∧ ¬ (255 : Int32) < qq) (O0 : Old Z n0 h0) (S_A : Sta Z Z.heap "java/lang/StringUTF16" "$assertionsDisabled" "Z" (.int (1 : Int32))) (S_H : Sta Z Z.heap "java/lang/StringUTF16" "HI_BYTE_SHIFT" "I" (.int (0 : Int32))) (S_L : Sta Z Z.heap "java/lang/StringUTF16" "LO_BYTE_SHIFT" "I" (.int (8 : Int32))) :
    MetFree l (⟨"java/lang/StringUTF16", "indexOfCharUnsafe", "([BIII)I"⟩ : MethodName) (head1 (Jvm.Cond.code (⟨"java/lang/StringUTF16", "indexOfCharUnsafe", "([BIII)I"⟩ : MethodName) jdk_52_method_48_code 5 (some .int) :: ws) ({ frames := 1, cells := 0, slots := 0, locals := 13 } : Room)) (fun a_ U_ => a_ = #[(.ref bb), (.int qq), (.int (0 : Int32)), (.int (Int32.ofNat cs.length))] ∧ Z.Warmed39 U_.vm ∧ U_.heap = h0) (fun _ _ _ _ _ => True) (fun _ U_ o_ V_ => ∃ v_ L_, o_ = .returned v_ ∧ (Q_rm_uiu Z bb kb qq cs h0 n0) v_ V_.heap L_ ∧ FrameEnd U_ o_ V_ L_ ({ frames := 1, cells := 0, slots := 0, locals := 13 } : Room).cells ({ frames := 1, cells := 0, slots := 0, locals := 13 } : Room).slots) := by
  obtain ⟨hl1, hl4⟩ := hL
  rcases cs with _ | ⟨ch0, _ | ⟨ch1, _ | ⟨ch2, _ | ⟨ch3, _ | ⟨ch4, tl⟩⟩⟩⟩⟩
  · exact absurd hl1 (Nat.lt_irrefl 0)
  · exact rm_uiu1 l Z a0 hw ws bb kb qq ch0 h0 n0 Z0 V_bb hbd hq O0 S_A S_H S_L
  · exact rm_uiu2 l Z a0 hw ws bb kb qq ch0 ch1 h0 n0 Z0 V_bb hbd hq O0 S_A S_H S_L
  · exact rm_uiu3 l Z a0 hw ws bb kb qq ch0 ch1 ch2 h0 n0 Z0 V_bb hbd hq O0 S_A S_H S_L
  · exact rm_uiu4 l Z a0 hw ws bb kb qq ch0 ch1 ch2 ch3 h0 n0 Z0 V_bb hbd hq O0 S_A S_H S_L
  · exact absurd hl4 (by simp only [List.length_cons]; omega)
def Q_rm_ucb (Z : State) (bb : Addr) (kb : ClassId) (cs : List Int32) (gs : Value) (h0 : Heap) (n0 : Nat) (v : Option Value) (h : Heap) (L : List Loc) : Prop := v = none ∧ Fr n0 L ∧ h = h0
theorem ef_rm_ucb (m : MethodId) (bb : Addr) (cs : List Int32) (gs : Value) : entryFrame m #[(.int (0 : Int32)), (.int (Int32.ofNat cs.length)), (.ref bb)] 3 = mkF m 0 #[.val (.int (0 : Int32)), .val (.int (Int32.ofNat cs.length)), .val (.ref bb)] [] := by first | (simp [entryFrame, mkF, argsToLocals, Value.category]; done) | rfl
set_option maxRecDepth 65536 in
set_option maxHeartbeats 40000000 in
theorem rm_ucb (l : Launch) (Z : State) (a0 : Array Value) (hw : ∀ d ∈ tables_1, d.before a0 Z = true) (ws : List Jvm.Cond) (bb : Addr) (kb : ClassId) (cs : List Int32) (gs : Value) (h0 : Heap) (n0 : Nat) (Z0 : n0 ≤ h0.size) (V_bb : Arv Z h0 bb kb .byte (Int32.ofNat (2 * cs.length)) (StrChars.Road.wideBytes cs) (.int (0 : Int32))) (hL : 0 < cs.length ∧ cs.length ≤ 4) (S_F : Sta Z Z.heap "jdk/internal/util/Preconditions" "SIOOBE_FORMATTER" "Ljava/util/function/BiFunction;" gs) (hgs : gs.isRef = true) (O0 : Old Z n0 h0) :
    MetFree l (⟨"java/lang/StringUTF16", "checkBoundsBeginEnd", "(II[B)V"⟩ : MethodName) (head1 (Jvm.Cond.code (⟨"java/lang/StringUTF16", "checkBoundsBeginEnd", "(II[B)V"⟩ : MethodName) jdk_52_method_93_code 3 none :: ws) ({ frames := 2, cells := 0, slots := 0, locals := 29 } : Room)) (fun a_ U_ => a_ = #[(.int (0 : Int32)), (.int (Int32.ofNat cs.length)), (.ref bb)] ∧ Z.Warmed39 U_.vm ∧ U_.heap = h0) (fun _ _ _ _ _ => True) (fun _ U_ o_ V_ => ∃ v_ L_, o_ = .returned v_ ∧ (Q_rm_ucb Z bb kb cs gs h0 n0) v_ V_.heap L_ ∧ FrameEnd U_ o_ V_ L_ ({ frames := 2, cells := 0, slots := 0, locals := 29 } : Room).cells ({ frames := 2, cells := 0, slots := 0, locals := 29 } : Room).slots) := by
  refine MetFree.of_bodySF (plainFor_of_name pn_2) hisR ?_
  intro p e s m args below meth c s₁ Bd hml0 hP hK
  obtain ⟨rfl, hZ, hh⟩ := hP
  have hx := Bd.exec
  have hby := Bd.bytes
  have hml : c.maxLocals = 3 := hml0
  have hown : s.vm.findClass "java/lang/StringUTF16" = some m.cls := findClass_of_methodNamed Bd.named
  have hnm := (name_of_methodNamed Bd.named Bd.method).1
  have X0 : Stand p l e ({ frames := 2, cells := 0, slots := 0, locals := 29 } : Room) s m #[(.int (0 : Int32)), (.int (Int32.ofNat cs.length)), (.ref bb)] below meth c s₁ [] 0 0 := Stand.of_body Bd
  have e0 : s₁.heap = h0 := by rw [← hh, Bd.state]; rfl
  have N0 := Fr.nil n0
  have K0 : Keep h0 h0 [] := Keep.refl _ _
  show own_Fin p.tables e below (own_Post (Q_rm_ucb Z bb kb cs gs h0 n0) ({ frames := 2, cells := 0, slots := 0, locals := 29 } : Room).cells ({ frames := 2, cells := 0, slots := 0, locals := 29 } : Room).slots below s) _
  refine own_go (fun _ q => castTop (ef_rm_ucb m bb cs gs) q) ?_
  refine own_go (fun _ q => XS.iloadN X0.here hx rfl (hb hby d35_0) rfl q) ?_
  refine own_go (fun _ q => XS.iloadN X0.here hx rfl (hb hby d35_1) rfl q) ?_
  refine own_go (fun _ q => XS.aloadN X0.here hx rfl (hb hby d35_2) rfl rfl q) ?_
  show own_Fin _ _ _ _ (s₁.setTop (mkF m 3 #[.val (.int (0 : Int32)), .val (.int (Int32.ofNat cs.length)), .val (.ref bb)] [(.ref bb), (.int (Int32.ofNat cs.length)), (.int (0 : Int32))]))
  obtain ⟨_, _, ⟨T259, L259, k259, n259⟩, -, X259, ⟨Lc259, hQ259, l259, y259, z259⟩, st259⟩ := Jvm.LawKit.callS X0 hx (y := (⟨"java/lang/StringUTF16", "length", "([B)I"⟩ : MethodName)) hown (mvT hZ (own_w hw 150 rfl)) (mvT hZ (own_w hw 151 rfl)) (mvT hZ (own_w hw 43 rfl)) (mvT hZ (own_w hw 152 rfl)) (by decide) (backOf (W := 2) (rm_ul l Z a0 hw [] bb kb cs h0 n0 (Nat.le_trans Z0 K0.1) V_bb hL) hZ (own_w hw 152 rfl) (own_w hw 43 rfl) (by decide) (by decide)) (g := (mkF m 3 #[.val (.int (0 : Int32)), .val (.int (Int32.ofNat cs.length)), .val (.ref bb)] [(.ref bb), (.int (Int32.ofNat cs.length)), (.int (0 : Int32))])) rfl (by rw [hml]; rfl) (argsL := [(.ref bb)]) (rest := [(.int (Int32.ofNat cs.length)), (.int (0 : Int32))]) (lenOf pd_17 rfl) rfl (by show 2 * 0 + _ ≤ _; exact Nat.le_of_eq rfl) (hb hby d35_3) (fun _ _ => ⟨rfl, e0, (by decide : 0 + 0 ≤ _), (by decide : 0 + 0 ≤ _)⟩)
  dsimp only [Pt.U, Pt.locs, Pt.cells, Pt.slots] at X259 l259 y259 z259 st259 hQ259
  subst l259 y259 z259
  obtain ⟨rfl, N259q, e259⟩ := hQ259
  have N259 := Fr.app N0 N259q
  refine own_go st259 ?_
  show own_Fin _ _ _ _ (T259.setTop (mkF m 6 #[.val (.int (0 : Int32)), .val (.int (Int32.ofNat cs.length)), .val (.ref bb)] [(.int (Int32.ofNat cs.length)), (.int (Int32.ofNat cs.length)), (.int (0 : Int32))]))
  obtain ⟨_, _, ⟨T260, L260, k260, n260⟩, -, X260, ⟨Lc260, hQ260, l260, y260, z260⟩, st260⟩ := Jvm.LawKit.callS X259 hx (y := (⟨"java/lang/String", "checkBoundsBeginEnd", "(III)V"⟩ : MethodName)) hown (mvT hZ (own_w hw 153 rfl)) (mvT hZ (own_w hw 154 rfl)) (mvT hZ (own_w hw 11 rfl)) (mvT hZ (own_w hw 155 rfl)) (by decide) (backOf (W := 0) (rm_scb l Z a0 hw [] (Int32.ofNat cs.length) gs h0 n0 (Nat.le_trans Z0 K0.1) (own_nnL hL) S_F hgs O0) hZ (own_w hw 155 rfl) (own_w hw 11 rfl) (by decide) (by decide)) (g := (mkF m 6 #[.val (.int (0 : Int32)), .val (.int (Int32.ofNat cs.length)), .val (.ref bb)] [(.int (Int32.ofNat cs.length)), (.int (Int32.ofNat cs.length)), (.int (0 : Int32))])) rfl (by rw [hml]; rfl) (argsL := [(.int (0 : Int32)), (.int (Int32.ofNat cs.length)), (.int (Int32.ofNat cs.length))]) (rest := []) (lenOf pd_18 rfl) rfl (by show 2 * 0 + _ ≤ _; exact Nat.le_of_eq rfl) (hb hby d35_6) (fun _ _ => ⟨rfl, e259, (by decide : 0 + 0 ≤ _), (by decide : 0 + 0 ≤ _)⟩)
  dsimp only [Pt.U, Pt.locs, Pt.cells, Pt.slots] at X260 l260 y260 z260 st260 hQ260
  subst l260 y260 z260
  obtain ⟨rfl, N260q, e260⟩ := hQ260
  have N260 := Fr.app N259 N260q
  refine own_go st260 ?_
  show own_Fin _ _ _ _ (T260.setTop (mkF m 9 #[.val (.int (0 : Int32)), .val (.int (Int32.ofNat cs.length)), .val (.ref bb)] []))
  refine own_ret0 X260 hx Bd (hb hby d35_9) ?_ (by decide) (by decide)
  show (Q_rm_ucb Z bb kb cs gs h0 n0) none T260.heap _
  rw [e260]
  exact ⟨rfl, N260, rfl⟩
def Q_rm_li (Z : State) (bb : Addr) (kb : ClassId) (qq : Int32) (cs : List Int32) (h0 : Heap) (n0 : Nat) (v : Option Value) (h : Heap) (L : List Loc) : Prop := ∃ z : Int32, v = some (.int z) ∧ Fr n0 L ∧ h = h0 ∧ ((¬ z < 0 ∧ qq ∈ cs) ∨ (z < 0 ∧ qq ∉ cs))
theorem ef_rm_li (m : MethodId) (bb : Addr) (qq : Int32) (cs : List Int32) : entryFrame m #[(.ref bb), (.int qq), (.int (0 : Int32)), (.int (Int32.ofNat cs.length))] 4 = mkF m 0 #[.val (.ref bb), .val (.int qq), .val (.int (0 : Int32)), .val (.int (Int32.ofNat cs.length))] [] := by first | (simp [entryFrame, mkF, argsToLocals, Value.category]; done) | rfl
set_option maxRecDepth 65536 in
set_option maxHeartbeats 40000000 in
theorem rm_li (l : Launch) (Z : State) (a0 : Array Value) (hw : ∀ d ∈ tables_1, d.before a0 Z = true) (ws : List Jvm.Cond) (bb : Addr) (kb : ClassId) (qq : Int32) (cs : List Int32) (h0 : Heap) (n0 : Nat) (Z0 : n0 ≤ h0.size) (V_bb : Arv Z h0 bb kb .byte (Int32.ofNat cs.length) (cs.map fun c => Value.int (StrChars.lo8 c)) (.int (0 : Int32))) (hbd : ∀ c ∈ cs, ¬ c < 0 ∧ ¬ (65535 : Int32) < c) (hcd : ∀ c ∈ cs, ¬ (255 : Int32) < c) (hL : 0 < cs.length ∧ cs.length ≤ 4) (hq : ¬ qq < 0 ∧ ¬ (255 : Int32) < qq) :
    MetFree l (⟨"java/lang/StringLatin1", "indexOf", "([BIII)I"⟩ : MethodName) (head1 (Jvm.Cond.code (⟨"java/lang/StringLatin1", "indexOf", "([BIII)I"⟩ : MethodName) jdk_43_method_22_code 4 (some .int) :: ws) ({ frames := 1, cells := 0, slots := 0, locals := 17 } : Room)) (fun a_ U_ => a_ = #[(.ref bb), (.int qq), (.int (0 : Int32)), (.int (Int32.ofNat cs.length))] ∧ Z.Warmed39 U_.vm ∧ U_.heap = h0) (fun _ _ _ _ _ => True) (fun _ U_ o_ V_ => ∃ v_ L_, o_ = .returned v_ ∧ (Q_rm_li Z bb kb qq cs h0 n0) v_ V_.heap L_ ∧ FrameEnd U_ o_ V_ L_ ({ frames := 1, cells := 0, slots := 0, locals := 17 } : Room).cells ({ frames := 1, cells := 0, slots := 0, locals := 17 } : Room).slots) := by
  refine MetFree.of_bodySF (plainFor_of_name pn_10) hisR ?_
  intro p e s m args below meth c s₁ Bd hml0 hP hK
  obtain ⟨rfl, hZ, hh⟩ := hP
  have hx := Bd.exec
  have hby := Bd.bytes
  have hml : c.maxLocals = 4 := hml0
  have hown : s.vm.findClass "java/lang/StringLatin1" = some m.cls := findClass_of_methodNamed Bd.named
  have hnm := (name_of_methodNamed Bd.named Bd.method).1
  have X0 : Stand p l e ({ frames := 1, cells := 0, slots := 0, locals := 17 } : Room) s m #[(.ref bb), (.int qq), (.int (0 : Int32)), (.int (Int32.ofNat cs.length))] below meth c s₁ [] 0 0 := Stand.of_body Bd
  have e0 : s₁.heap = h0 := by rw [← hh, Bd.state]; rfl
  have N0 := Fr.nil n0
  have K0 : Keep h0 h0 [] := Keep.refl _ _
  show own_Fin p.tables e below (own_Post (Q_rm_li Z bb kb qq cs h0 n0) ({ frames := 1, cells := 0, slots := 0, locals := 17 } : Room).cells ({ frames := 1, cells := 0, slots := 0, locals := 17 } : Room).slots below s) _
  refine own_go (fun _ q => castTop (ef_rm_li m bb qq cs) q) ?_
  refine own_go (fun _ q => XS.iloadN X0.here hx rfl (hb hby d19_0) rfl q) ?_
  show own_Fin _ _ _ _ (s₁.setTop (mkF m 1 #[.val (.ref bb), .val (.int qq), .val (.int (0 : Int32)), .val (.int (Int32.ofNat cs.length))] [(.int qq)]))
  obtain ⟨_, _, ⟨T261, L261, k261, n261⟩, -, X261, ⟨Lc261, hQ261, l261, y261, z261⟩, st261⟩ := Jvm.LawKit.callS X0 hx (y := (⟨"java/lang/StringLatin1", "canEncode", "(I)Z"⟩ : MethodName)) hown (mvT hZ (own_w hw 94 rfl)) (mvT hZ (own_w hw 95 rfl)) (mvT hZ (own_w hw 63 rfl)) (mvT hZ (own_w hw 96 rfl)) (by decide) (backOf (W := 0) (rm_cani l Z a0 hw [] qq  h0 n0 (Nat.le_trans Z0 K0.1) hq) hZ (own_w hw 96 rfl) (own_w hw 63 rfl) (by decide) (by decide)) (g := (mkF m 1 #[.val (.ref bb), .val (.int qq), .val (.int (0 : Int32)), .val (.int (Int32.ofNat cs.length))] [(.int qq)])) rfl (by rw [hml]; rfl) (argsL := [(.int qq)]) (rest := []) (lenOf pd_19 rfl) rfl (by show 2 * 0 + _ ≤ _; exact Nat.le_of_eq rfl) (hb hby d19_1) (fun _ _ => ⟨rfl, e0, (by decide : 0 + 0 ≤ _), (by decide : 0 + 0 ≤ _)⟩)
  dsimp only [Pt.U, Pt.locs, Pt.cells, Pt.slots] at X261 l261 y261 z261 st261 hQ261
  subst l261 y261 z261
  obtain ⟨rfl, N261q, e261⟩ := hQ261
  have N261 := Fr.app N0 N261q
  refine own_go st261 ?_
  show own_Fin _ _ _ _ (T261.setTop (mkF m 4 #[.val (.ref bb), .val (.int qq), .val (.int (0 : Int32)), .val (.int (Int32.ofNat cs.length))] [(.int (1 : Int32))]))
  refine own_go (fun _ q => XS.ifYes X261.here hx rfl (pc0 := 4) (pc' := 9) rfl (hb hby d19_4) rfl ((if0 _ _).trans (feq (by decide : ¬ (1 : Int32) = (0 : Int32))).2) (by decide) (by decide) q) ?_
  refine own_go (fun _ q => XS.iloadN X261.here hx rfl (hb hby d19_9) rfl q) ?_
  refine own_go (fun _ q => XS.iconst X261.here hx rfl (hb hby d19_10) q) ?_
  show own_Fin _ _ _ _ (T261.setTop (mkF m 11 #[.val (.ref bb), .val (.int qq), .val (.int (0 : Int32)), .val (.int (Int32.ofNat cs.length))] [(.int (0 : Int32)), (.int (0 : Int32))]))
  obtain ⟨_, _, ⟨T262, L262, k262, n262⟩, -, X262, ⟨Lc262, hQ262, l262, y262, z262⟩, st262⟩ := Jvm.LawKit.callS X261 hx (y := (⟨"java/lang/Math", "max", "(II)I"⟩ : MethodName)) hown (mvT hZ (own_w hw 97 rfl)) (mvT hZ (own_w hw 98 rfl)) (mvT hZ (own_w hw 99 rfl)) (mvT hZ (own_w hw 100 rfl)) (by decide) (backOf (W := 0) (rm_max l Z a0 hw [] (0 : Int32) h0 n0 (Nat.le_trans Z0 K0.1)) hZ (own_w hw 100 rfl) (own_w hw 99 rfl) (by decide) (by decide)) (g := (mkF m 11 #[.val (.ref bb), .val (.int qq), .val (.int (0 : Int32)), .val (.int (Int32.ofNat cs.length))] [(.int (0 : Int32)), (.int (0 : Int32))])) rfl (by rw [hml]; rfl) (argsL := [(.int (0 : Int32)), (.int (0 : Int32))]) (rest := []) (lenOf pd_20 rfl) rfl (by show 2 * 0 + _ ≤ _; exact Nat.le_of_eq rfl) (hb hby d19_11) (fun _ _ => ⟨rfl, e261, (by decide : 0 + 0 ≤ _), (by decide : 0 + 0 ≤ _)⟩)
  dsimp only [Pt.U, Pt.locs, Pt.cells, Pt.slots] at X262 l262 y262 z262 st262 hQ262
  subst l262 y262 z262
  obtain ⟨rfl, N262q, e262⟩ := hQ262
  have N262 := Fr.app N261 N262q
  refine own_go st262 ?_
  refine own_go (fun _ q => XS.istoreN X262.here hx rfl (hb hby d19_14) rfl (l' := #[.val (.ref bb), .val (.int qq), .val (.int (0 : Int32)), .val (.int (Int32.ofNat cs.length))]) rfl q) ?_
  refine own_go (fun _ q => XS.iloadN X262.here hx rfl (hb hby d19_15) rfl q) ?_
  refine own_go (fun _ q => XS.aloadN X262.here hx rfl (hb hby d19_16) rfl rfl q) ?_
  show own_Fin _ _ _ _ (T262.setTop (mkF m 17 #[.val (.ref bb), .val (.int qq), .val (.int (0 : Int32)), .val (.int (Int32.ofNat cs.length))] [(.ref bb), (.int (Int32.ofNat cs.length))]))
  refine own_go (fun _ q => own_alen X262 hx hZ e262 V_bb (g := (mkF m 17 #[.val (.ref bb), .val (.int qq), .val (.int (0 : Int32)), .val (.int (Int32.ofNat cs.length))] [(.ref bb), (.int (Int32.ofNat cs.length))])) rfl rfl (hb hby d19_17) _ q) ?_
  show own_Fin _ _ _ _ (T262.setTop (mkF m 18 #[.val (.ref bb), .val (.int qq), .val (.int (0 : Int32)), .val (.int (Int32.ofNat cs.length))] [(.int (Int32.ofNat cs.length)), (.int (Int32.ofNat cs.length))]))
  obtain ⟨_, _, ⟨T263, L263, k263, n263⟩, -, X263, ⟨Lc263, hQ263, l263, y263, z263⟩, st263⟩ := Jvm.LawKit.callS X262 hx (y := (⟨"java/lang/Math", "min", "(II)I"⟩ : MethodName)) hown (mvT hZ (own_w hw 101 rfl)) (mvT hZ (own_w hw 102 rfl)) (mvT hZ (own_w hw 99 rfl)) (mvT hZ (own_w hw 103 rfl)) (by decide) (backOf (W := 0) (rm_min l Z a0 hw [] (Int32.ofNat cs.length) h0 n0 (Nat.le_trans Z0 K0.1)) hZ (own_w hw 103 rfl) (own_w hw 99 rfl) (by decide) (by decide)) (g := (mkF m 18 #[.val (.ref bb), .val (.int qq), .val (.int (0 : Int32)), .val (.int (Int32.ofNat cs.length))] [(.int (Int32.ofNat cs.length)), (.int (Int32.ofNat cs.length))])) rfl (by rw [hml]; rfl) (argsL := [(.int (Int32.ofNat cs.length)), (.int (Int32.ofNat cs.length))]) (rest := []) (lenOf pd_20 rfl) rfl (by show 2 * 0 + _ ≤ _; exact Nat.le_of_eq rfl) (hb hby d19_18) (fun _ _ => ⟨rfl, e262, (by decide : 0 + 0 ≤ _), (by decide : 0 + 0 ≤ _)⟩)
  dsimp only [Pt.U, Pt.locs, Pt.cells, Pt.slots] at X263 l263 y263 z263 st263 hQ263
  subst l263 y263 z263
  obtain ⟨rfl, N263q, e263⟩ := hQ263
  have N263 := Fr.app N262 N263q
  refine own_go st263 ?_
  refine own_go (fun _ q => XS.istoreN X263.here hx rfl (hb hby d19_21) rfl (l' := #[.val (.ref bb), .val (.int qq), .val (.int (0 : Int32)), .val (.int (Int32.ofNat cs.length))]) rfl q) ?_
  refine own_go (fun _ q => XS.iloadN X263.here hx rfl (hb hby d19_22) rfl q) ?_
  refine own_go (fun _ q => XS.iloadN X263.here hx rfl (hb hby d19_23) rfl q) ?_
  show own_Fin _ _ _ _ (T263.setTop (mkF m 24 #[.val (.ref bb), .val (.int qq), .val (.int (0 : Int32)), .val (.int (Int32.ofNat cs.length))] [(.int (Int32.ofNat cs.length)), (.int (0 : Int32))]))
  refine own_go (fun _ q => XS.icmpYes X263.here hx rfl (pc0 := 24) (pc' := 29) rfl (hb hby d19_24) rfl (tlt (own_posL hL)).1 (by decide) (by decide) q) ?_
  refine own_go (fun _ q => XS.aloadN X263.here hx rfl (hb hby d19_29) rfl rfl q) ?_
  refine own_go (fun _ q => XS.iloadN X263.here hx rfl (hb hby d19_30) rfl q) ?_
  refine own_go (fun _ q => XS.iloadN X263.here hx rfl (hb hby d19_31) rfl q) ?_
  refine own_go (fun _ q => XS.iloadN X263.here hx rfl (hb hby d19_32) rfl q) ?_
  show own_Fin _ _ _ _ (T263.setTop (mkF m 33 #[.val (.ref bb), .val (.int qq), .val (.int (0 : Int32)), .val (.int (Int32.ofNat cs.length))] [(.int (Int32.ofNat cs.length)), (.int (0 : Int32)), (.int qq), (.ref bb)]))
  obtain ⟨_, _, ⟨T264, L264, k264, n264⟩, -, X264, ⟨Lc264, hQ264, l264, y264, z264⟩, st264⟩ := Jvm.LawKit.callS X263 hx (y := (⟨"java/lang/StringLatin1", "indexOfChar", "([BIII)I"⟩ : MethodName)) hown (mvT hZ (own_w hw 104 rfl)) (mvT hZ (own_w hw 105 rfl)) (mvT hZ (own_w hw 63 rfl)) (mvT hZ (own_w hw 106 rfl)) (by decide) (backOf (W := 0) (rm_lic l Z a0 hw [] bb kb qq cs h0 n0 (Nat.le_trans Z0 K0.1) V_bb hbd hcd hL hq) hZ (own_w hw 106 rfl) (own_w hw 63 rfl) (by decide) (by decide)) (g := (mkF m 33 #[.val (.ref bb), .val (.int qq), .val (.int (0 : Int32)), .val (.int (Int32.ofNat cs.length))] [(.int (Int32.ofNat cs.length)), (.int (0 : Int32)), (.int qq), (.ref bb)])) rfl (by rw [hml]; rfl) (argsL := [(.ref bb), (.int qq), (.int (0 : Int32)), (.int (Int32.ofNat cs.length))]) (rest := []) (lenOf pd_21 rfl) rfl (by show 2 * 0 + _ ≤ _; exact Nat.le_of_eq rfl) (hb hby d19_33) (fun _ _ => ⟨rfl, e263, (by decide : 0 + 0 ≤ _), (by decide : 0 + 0 ≤ _)⟩)
  dsimp only [Pt.U, Pt.locs, Pt.cells, Pt.slots] at X264 l264 y264 z264 st264 hQ264
  subst l264 y264 z264
  obtain ⟨z264, rfl, N264q, e264, hz264⟩ := hQ264
  have N264 := Fr.app N263 N264q
  refine own_go st264 ?_
  show own_Fin _ _ _ _ (T264.setTop (mkF m 36 #[.val (.ref bb), .val (.int qq), .val (.int (0 : Int32)), .val (.int (Int32.ofNat cs.length))] [(.int z264)]))
  refine own_retI X264 hx Bd (t := .int) Bd.returns rfl (by simp) (hb hby d19_36) ?_ (by decide) (by decide)
  show (Q_rm_li Z bb kb qq cs h0 n0) (some (.int z264)) T264.heap _
  rw [e264]
  exact ⟨_, rfl, N264, rfl, hz264⟩
def Q_rm_uic (Z : State) (bb : Addr) (kb : ClassId) (qq : Int32) (cs : List Int32) (gs : Value) (h0 : Heap) (n0 : Nat) (v : Option Value) (h : Heap) (L : List Loc) : Prop := ∃ z : Int32, v = some (.int z) ∧ Fr n0 L ∧ h = h0 ∧ ((¬ z < 0 ∧ qq ∈ cs) ∨ (z < 0 ∧ qq ∉ cs))
theorem ef_rm_uic (m : MethodId) (bb : Addr) (qq : Int32) (cs : List Int32) (gs : Value) : entryFrame m #[(.ref bb), (.int qq), (.int (0 : Int32)), (.int (Int32.ofNat cs.length))] 4 = mkF m 0 #[.val (.ref bb), .val (.int qq), .val (.int (0 : Int32)), .val (.int (Int32.ofNat cs.length))] [] := by first | (simp [entryFrame, mkF, argsToLocals, Value.category]; done) | rfl
set_option maxRecDepth 65536 in
set_option maxHeartbeats 40000000 in
theorem rm_uic (l : Launch) (Z : State) (a0 : Array Value) (hw : ∀ d ∈ tables_1, d.before a0 Z = true) (ws : List Jvm.Cond) (bb : Addr) (kb : ClassId) (qq : Int32) (cs : List Int32) (gs : Value) (h0 : Heap) (n0 : Nat) (Z0 : n0 ≤ h0.size) (V_bb : Arv Z h0 bb kb .byte (Int32.ofNat (2 * cs.length)) (StrChars.Road.wideBytes cs) (.int (0 : Int32))) (hbd : ∀ c ∈ cs, ¬ c < 0 ∧ ¬ (65535 : Int32) < c) (hL : 0 < cs.length ∧ cs.length ≤ 4) (hq : ¬ qq < 0 ∧ ¬ (255 : Int32) < qq) (S_F : Sta Z Z.heap "jdk/internal/util/Preconditions" "SIOOBE_FORMATTER" "Ljava/util/function/BiFunction;" gs) (hgs : gs.isRef = true) (O0 : Old Z n0 h0) (S_A : Sta Z Z.heap "java/lang/StringUTF16" "$assertionsDisabled" "Z" (.int (1 : Int32))) (S_H : Sta Z Z.heap "java/lang/StringUTF16" "HI_BYTE_SHIFT" "I" (.int (0 : Int32))) (S_L : Sta Z Z.heap "java/lang/StringUTF16" "LO_BYTE_SHIFT" "I" (.int (8 : Int32))) :
    MetFree l (⟨"java/lang/StringUTF16", "indexOfChar", "([BIII)I"⟩ : MethodName) (head1 (Jvm.Cond.code (⟨"java/lang/StringUTF16", "indexOfChar", "([BIII)I"⟩ : MethodName) jdk_52_method_47_code 4 (some .int) :: ws) ({ frames := 3, cells := 0, slots := 0, locals := 43 } : Room)) (fun a_ U_ => a_ = #[(.ref bb), (.int qq), (.int (0 : Int32)), (.int (Int32.ofNat cs.length))] ∧ Z.Warmed39 U_.vm ∧ U_.heap = h0) (fun _ _ _ _ _ => True) (fun _ U_ o_ V_ => ∃ v_ L_, o_ = .returned v_ ∧ (Q_rm_uic Z bb kb qq cs gs h0 n0) v_ V_.heap L_ ∧ FrameEnd U_ o_ V_ L_ ({ frames := 3, cells := 0, slots := 0, locals := 43 } : Room).cells ({ frames := 3, cells := 0, slots := 0, locals := 43 } : Room).slots) := by
  refine MetFree.of_bodySF (plainFor_of_name pn_2) hisR ?_
  intro p e s m args below meth c s₁ Bd hml0 hP hK
  obtain ⟨rfl, hZ, hh⟩ := hP
  have hx := Bd.exec
  have hby := Bd.bytes
  have hml : c.maxLocals = 4 := hml0
  have hown : s.vm.findClass "java/lang/StringUTF16" = some m.cls := findClass_of_methodNamed Bd.named
  have hnm := (name_of_methodNamed Bd.named Bd.method).1
  have X0 : Stand p l e ({ frames := 3, cells := 0, slots := 0, locals := 43 } : Room) s m #[(.ref bb), (.int qq), (.int (0 : Int32)), (.int (Int32.ofNat cs.length))] below meth c s₁ [] 0 0 := Stand.of_body Bd
  have e0 : s₁.heap = h0 := by rw [← hh, Bd.state]; rfl
  have N0 := Fr.nil n0
  have K0 : Keep h0 h0 [] := Keep.refl _ _
  show own_Fin p.tables e below (own_Post (Q_rm_uic Z bb kb qq cs gs h0 n0) ({ frames := 3, cells := 0, slots := 0, locals := 43 } : Room).cells ({ frames := 3, cells := 0, slots := 0, locals := 43 } : Room).slots below s) _
  refine own_go (fun _ q => castTop (ef_rm_uic m bb qq cs gs) q) ?_
  refine own_go (fun _ q => XS.iloadN X0.here hx rfl (hb hby d34_0) rfl q) ?_
  refine own_go (fun _ q => XS.iloadN X0.here hx rfl (hb hby d34_1) rfl q) ?_
  refine own_go (fun _ q => XS.aloadN X0.here hx rfl (hb hby d34_2) rfl rfl q) ?_
  show own_Fin _ _ _ _ (s₁.setTop (mkF m 3 #[.val (.ref bb), .val (.int qq), .val (.int (0 : Int32)), .val (.int (Int32.ofNat cs.length))] [(.ref bb), (.int (Int32.ofNat cs.length)), (.int (0 : Int32))]))
  obtain ⟨_, _, ⟨T265, L265, k265, n265⟩, -, X265, ⟨Lc265, hQ265, l265, y265, z265⟩, st265⟩ := Jvm.LawKit.callS X0 hx (y := (⟨"java/lang/StringUTF16", "checkBoundsBeginEnd", "(II[B)V"⟩ : MethodName)) hown (mvT hZ (own_w hw 147 rfl)) (mvT hZ (own_w hw 148 rfl)) (mvT hZ (own_w hw 43 rfl)) (mvT hZ (own_w hw 149 rfl)) (by decide) (backOf (W := 0) (rm_ucb l Z a0 hw [] bb kb cs gs h0 n0 (Nat.le_trans Z0 K0.1) V_bb hL S_F hgs O0) hZ (own_w hw 149 rfl) (own_w hw 43 rfl) (by decide) (by decide)) (g := (mkF m 3 #[.val (.ref bb), .val (.int qq), .val (.int (0 : Int32)), .val (.int (Int32.ofNat cs.length))] [(.ref bb), (.int (Int32.ofNat cs.length)), (.int (0 : Int32))])) rfl (by rw [hml]; rfl) (argsL := [(.int (0 : Int32)), (.int (Int32.ofNat cs.length)), (.ref bb)]) (rest := []) (lenOf pd_22 rfl) rfl (by show 2 * 0 + _ ≤ _; exact Nat.le_of_eq rfl) (hb hby d34_3) (fun _ _ => ⟨rfl, e0, (by decide : 0 + 0 ≤ _), (by decide : 0 + 0 ≤ _)⟩)
  dsimp only [Pt.U, Pt.locs, Pt.cells, Pt.slots] at X265 l265 y265 z265 st265 hQ265
  subst l265 y265 z265
  obtain ⟨rfl, N265q, e265⟩ := hQ265
  have N265 := Fr.app N0 N265q
  refine own_go st265 ?_
  refine own_go (fun _ q => XS.aloadN X265.here hx rfl (hb hby d34_6) rfl rfl q) ?_
  refine own_go (fun _ q => XS.iloadN X265.here hx rfl (hb hby d34_7) rfl q) ?_
  refine own_go (fun _ q => XS.iloadN X265.here hx rfl (hb hby d34_8) rfl q) ?_
  refine own_go (fun _ q => XS.iloadN X265.here hx rfl (hb hby d34_9) rfl q) ?_
  show own_Fin _ _ _ _ (T265.setTop (mkF m 10 #[.val (.ref bb), .val (.int qq), .val (.int (0 : Int32)), .val (.int (Int32.ofNat cs.length))] [(.int (Int32.ofNat cs.length)), (.int (0 : Int32)), (.int qq), (.ref bb)]))
  obtain ⟨_, _, ⟨T266, L266, k266, n266⟩, -, X266, ⟨Lc266, hQ266, l266, y266, z266⟩, st266⟩ := Jvm.LawKit.callS X265 hx (y := (⟨"java/lang/StringUTF16", "indexOfCharUnsafe", "([BIII)I"⟩ : MethodName)) hown (mvT hZ (own_w hw 161 rfl)) (mvT hZ (own_w hw 162 rfl)) (mvT hZ (own_w hw 43 rfl)) (mvT hZ (own_w hw 163 rfl)) (by decide) (backOf (W := 0) (rm_uiu l Z a0 hw [] bb kb qq cs h0 n0 (Nat.le_trans Z0 K0.1) V_bb hbd hL hq O0 S_A S_H S_L) hZ (own_w hw 163 rfl) (own_w hw 43 rfl) (by decide) (by decide)) (g := (mkF m 10 #[.val (.ref bb), .val (.int qq), .val (.int (0 : Int32)), .val (.int (Int32.ofNat cs.length))] [(.int (Int32.ofNat cs.length)), (.int (0 : Int32)), (.int qq), (.ref bb)])) rfl (by rw [hml]; rfl) (argsL := [(.ref bb), (.int qq), (.int (0 : Int32)), (.int (Int32.ofNat cs.length))]) (rest := []) (lenOf pd_21 rfl) rfl (by show 2 * 0 + _ ≤ _; exact Nat.le_of_eq rfl) (hb hby d34_10) (fun _ _ => ⟨rfl, e265, (by decide : 0 + 0 ≤ _), (by decide : 0 + 0 ≤ _)⟩)
  dsimp only [Pt.U, Pt.locs, Pt.cells, Pt.slots] at X266 l266 y266 z266 st266 hQ266
  subst l266 y266 z266
  obtain ⟨z266, rfl, N266q, e266, hz266⟩ := hQ266
  have N266 := Fr.app N265 N266q
  refine own_go st266 ?_
  show own_Fin _ _ _ _ (T266.setTop (mkF m 13 #[.val (.ref bb), .val (.int qq), .val (.int (0 : Int32)), .val (.int (Int32.ofNat cs.length))] [(.int z266)]))
  refine own_retI X266 hx Bd (t := .int) Bd.returns rfl (by simp) (hb hby d34_13) ?_ (by decide) (by decide)
  show (Q_rm_uic Z bb kb qq cs gs h0 n0) (some (.int z266)) T266.heap _
  rw [e266]
  exact ⟨_, rfl, N266, rfl, hz266⟩
def Q_rm_ui (Z : State) (bb : Addr) (kb : ClassId) (qq : Int32) (cs : List Int32) (gs : Value) (h0 : Heap) (n0 : Nat) (v : Option Value) (h : Heap) (L : List Loc) : Prop := ∃ z : Int32, v = some (.int z) ∧ Fr n0 L ∧ h = h0 ∧ ((¬ z < 0 ∧ qq ∈ cs) ∨ (z < 0 ∧ qq ∉ cs))
theorem ef_rm_ui (m : MethodId) (bb : Addr) (qq : Int32) (cs : List Int32) (gs : Value) : entryFrame m #[(.ref bb), (.int qq), (.int (0 : Int32)), (.int (Int32.ofNat cs.length))] 4 = mkF m 0 #[.val (.ref bb), .val (.int qq), .val (.int (0 : Int32)), .val (.int (Int32.ofNat cs.length))] [] := by first | (simp [entryFrame, mkF, argsToLocals, Value.category]; done) | rfl
set_option maxRecDepth 65536 in
set_option maxHeartbeats 40000000 in
theorem rm_ui (l : Launch) (Z : State) (a0 : Array Value) (hw : ∀ d ∈ tables_1, d.before a0 Z = true) (ws : List Jvm.Cond) (bb : Addr) (kb : ClassId) (qq : Int32) (cs : List Int32) (gs : Value) (h0 : Heap) (n0 : Nat) (Z0 : n0 ≤ h0.size) (V_bb : Arv Z h0 bb kb .byte (Int32.ofNat (2 * cs.length)) (StrChars.Road.wideBytes cs) (.int (0 : Int32))) (hbd : ∀ c ∈ cs, ¬ c < 0 ∧ ¬ (65535 : Int32) < c) (hL : 0 < cs.length ∧ cs.length ≤ 4) (hq : ¬ qq < 0 ∧ ¬ (255 : Int32) < qq) (S_F : Sta Z Z.heap "jdk/internal/util/Preconditions" "SIOOBE_FORMATTER" "Ljava/util/function/BiFunction;" gs) (hgs : gs.isRef = true) (O0 : Old Z n0 h0) (S_A : Sta Z Z.heap "java/lang/StringUTF16" "$assertionsDisabled" "Z" (.int (1 : Int32))) (S_H : Sta Z Z.heap "java/lang/StringUTF16" "HI_BYTE_SHIFT" "I" (.int (0 : Int32))) (S_L : Sta Z Z.heap "java/lang/StringUTF16" "LO_BYTE_SHIFT" "I" (.int (8 : Int32))) :
    MetFree l (⟨"java/lang/StringUTF16", "indexOf", "([BIII)I"⟩ : MethodName) (head1 (Jvm.Cond.code (⟨"java/lang/StringUTF16", "indexOf", "([BIII)I"⟩ : MethodName) jdk_52_method_40_code 4 (some .int) :: ws) ({ frames := 4, cells := 0, slots := 0, locals := 58 } : Room)) (fun a_ U_ => a_ = #[(.ref bb), (.int qq), (.int (0 : Int32)), (.int (Int32.ofNat cs.length))] ∧ Z.Warmed39 U_.vm ∧ U_.heap = h0) (fun _ _ _ _ _ => True) (fun _ U_ o_ V_ => ∃ v_ L_, o_ = .returned v_ ∧ (Q_rm_ui Z bb kb qq cs gs h0 n0) v_ V_.heap L_ ∧ FrameEnd U_ o_ V_ L_ ({ frames := 4, cells := 0, slots := 0, locals := 58 } : Room).cells ({ frames := 4, cells := 0, slots := 0, locals := 58 } : Room).slots) := by
  refine MetFree.of_bodySF (plainFor_of_name pn_2) hisR ?_
  intro p e s m args below meth c s₁ Bd hml0 hP hK
  obtain ⟨rfl, hZ, hh⟩ := hP
  have hx := Bd.exec
  have hby := Bd.bytes
  have hml : c.maxLocals = 4 := hml0
  have hown : s.vm.findClass "java/lang/StringUTF16" = some m.cls := findClass_of_methodNamed Bd.named
  have hnm := (name_of_methodNamed Bd.named Bd.method).1
  have X0 : Stand p l e ({ frames := 4, cells := 0, slots := 0, locals := 58 } : Room) s m #[(.ref bb), (.int qq), (.int (0 : Int32)), (.int (Int32.ofNat cs.length))] below meth c s₁ [] 0 0 := Stand.of_body Bd
  have e0 : s₁.heap = h0 := by rw [← hh, Bd.state]; rfl
  have N0 := Fr.nil n0
  have K0 : Keep h0 h0 [] := Keep.refl _ _
  show own_Fin p.tables e below (own_Post (Q_rm_ui Z bb kb qq cs gs h0 n0) ({ frames := 4, cells := 0, slots := 0, locals := 58 } : Room).cells ({ frames := 4, cells := 0, slots := 0, locals := 58 } : Room).slots below s) _
  refine own_go (fun _ q => castTop (ef_rm_ui m bb qq cs gs) q) ?_
  refine own_go (fun _ q => XS.iloadN X0.here hx rfl (hb hby d33_0) rfl q) ?_
  refine own_go (fun _ q => XS.iconst X0.here hx rfl (hb hby d33_1) q) ?_
  show own_Fin _ _ _ _ (s₁.setTop (mkF m 2 #[.val (.ref bb), .val (.int qq), .val (.int (0 : Int32)), .val (.int (Int32.ofNat cs.length))] [(.int (0 : Int32)), (.int (0 : Int32))]))
  obtain ⟨_, _, ⟨T267, L267, k267, n267⟩, -, X267, ⟨Lc267, hQ267, l267, y267, z267⟩, st267⟩ := Jvm.LawKit.callS X0 hx (y := (⟨"java/lang/Math", "max", "(II)I"⟩ : MethodName)) hown (mvT hZ (own_w hw 141 rfl)) (mvT hZ (own_w hw 98 rfl)) (mvT hZ (own_w hw 99 rfl)) (mvT hZ (own_w hw 100 rfl)) (by decide) (backOf (W := 0) (rm_max l Z a0 hw [] (0 : Int32) h0 n0 (Nat.le_trans Z0 K0.1)) hZ (own_w hw 100 rfl) (own_w hw 99 rfl) (by decide) (by decide)) (g := (mkF m 2 #[.val (.ref bb), .val (.int qq), .val (.int (0 : Int32)), .val (.int (Int32.ofNat cs.length))] [(.int (0 : Int32)), (.int (0 : Int32))])) rfl (by rw [hml]; rfl) (argsL := [(.int (0 : Int32)), (.int (0 : Int32))]) (rest := []) (lenOf pd_20 rfl) rfl (by show 2 * 0 + _ ≤ _; exact Nat.le_of_eq rfl) (hb hby d33_2) (fun _ _ => ⟨rfl, e0, (by decide : 0 + 0 ≤ _), (by decide : 0 + 0 ≤ _)⟩)
  dsimp only [Pt.U, Pt.locs, Pt.cells, Pt.slots] at X267 l267 y267 z267 st267 hQ267
  subst l267 y267 z267
  obtain ⟨rfl, N267q, e267⟩ := hQ267
  have N267 := Fr.app N0 N267q
  refine own_go st267 ?_
  refine own_go (fun _ q => XS.istoreN X267.here hx rfl (hb hby d33_5) rfl (l' := #[.val (.ref bb), .val (.int qq), .val (.int (0 : Int32)), .val (.int (Int32.ofNat cs.length))]) rfl q) ?_
  refine own_go (fun _ q => XS.iloadN X267.here hx rfl (hb hby d33_6) rfl q) ?_
  refine own_go (fun _ q => XS.aloadN X267.here hx rfl (hb hby d33_7) rfl rfl q) ?_
  show own_Fin _ _ _ _ (T267.setTop (mkF m 8 #[.val (.ref bb), .val (.int qq), .val (.int (0 : Int32)), .val (.int (Int32.ofNat cs.length))] [(.ref bb), (.int (Int32.ofNat cs.length))]))
  refine own_go (fun _ q => own_alen X267 hx hZ e267 V_bb (g := (mkF m 8 #[.val (.ref bb), .val (.int qq), .val (.int (0 : Int32)), .val (.int (Int32.ofNat cs.length))] [(.ref bb), (.int (Int32.ofNat cs.length))])) rfl rfl (hb hby d33_8) _ q) ?_
  refine own_go (fun _ q => XS.iconst X267.here hx rfl (hb hby d33_9) q) ?_
  show own_Fin _ _ _ _ (T267.setTop (mkF m 10 #[.val (.ref bb), .val (.int qq), .val (.int (0 : Int32)), .val (.int (Int32.ofNat cs.length))] [(.int (1 : Int32)), (.int (Int32.ofNat (2 * cs.length))), (.int (Int32.ofNat cs.length))]))
  refine own_go (fun _ q => XS.ishr X267.here hx rfl (hb hby d33_10) rfl q) ?_
  show own_Fin _ _ _ _ (T267.setTop (mkF m 11 #[.val (.ref bb), .val (.int qq), .val (.int (0 : Int32)), .val (.int (Int32.ofNat cs.length))] [(.int ((Int32.ofNat (2 * cs.length)) >>> ((1 : Int32) &&& 31))), (.int (Int32.ofNat cs.length))]))
  rw [StrChars.shr1 (by omega)]
  show own_Fin _ _ _ _ (T267.setTop (mkF m 11 #[.val (.ref bb), .val (.int qq), .val (.int (0 : Int32)), .val (.int (Int32.ofNat cs.length))] [(.int (Int32.ofNat cs.length)), (.int (Int32.ofNat cs.length))]))
  obtain ⟨_, _, ⟨T268, L268, k268, n268⟩, -, X268, ⟨Lc268, hQ268, l268, y268, z268⟩, st268⟩ := Jvm.LawKit.callS X267 hx (y := (⟨"java/lang/Math", "min", "(II)I"⟩ : MethodName)) hown (mvT hZ (own_w hw 142 rfl)) (mvT hZ (own_w hw 102 rfl)) (mvT hZ (own_w hw 99 rfl)) (mvT hZ (own_w hw 103 rfl)) (by decide) (backOf (W := 0) (rm_min l Z a0 hw [] (Int32.ofNat cs.length) h0 n0 (Nat.le_trans Z0 K0.1)) hZ (own_w hw 103 rfl) (own_w hw 99 rfl) (by decide) (by decide)) (g := (mkF m 11 #[.val (.ref bb), .val (.int qq), .val (.int (0 : Int32)), .val (.int (Int32.ofNat cs.length))] [(.int (Int32.ofNat cs.length)), (.int (Int32.ofNat cs.length))])) rfl (by rw [hml]; rfl) (argsL := [(.int (Int32.ofNat cs.length)), (.int (Int32.ofNat cs.length))]) (rest := []) (lenOf pd_20 rfl) rfl (by show 2 * 0 + _ ≤ _; exact Nat.le_of_eq rfl) (hb hby d33_11) (fun _ _ => ⟨rfl, e267, (by decide : 0 + 0 ≤ _), (by decide : 0 + 0 ≤ _)⟩)
  dsimp only [Pt.U, Pt.locs, Pt.cells, Pt.slots] at X268 l268 y268 z268 st268 hQ268
  subst l268 y268 z268
  obtain ⟨rfl, N268q, e268⟩ := hQ268
  have N268 := Fr.app N267 N268q
  refine own_go st268 ?_
  refine own_go (fun _ q => XS.istoreN X268.here hx rfl (hb hby d33_14) rfl (l' := #[.val (.ref bb), .val (.int qq), .val (.int (0 : Int32)), .val (.int (Int32.ofNat cs.length))]) rfl q) ?_
  refine own_go (fun _ q => XS.iloadN X268.here hx rfl (hb hby d33_15) rfl q) ?_
  refine own_go (fun _ q => XS.iloadN X268.here hx rfl (hb hby d33_16) rfl q) ?_
  show own_Fin _ _ _ _ (T268.setTop (mkF m 17 #[.val (.ref bb), .val (.int qq), .val (.int (0 : Int32)), .val (.int (Int32.ofNat cs.length))] [(.int (Int32.ofNat cs.length)), (.int (0 : Int32))]))
  refine own_go (fun _ q => XS.icmpYes X268.here hx rfl (pc0 := 17) (pc' := 22) rfl (hb hby d33_17) rfl (tlt (own_posL hL)).1 (by decide) (by decide) q) ?_
  refine own_go (fun _ q => XS.iloadN X268.here hx rfl (hb hby d33_22) rfl q) ?_
  show own_Fin _ _ _ _ (T268.setTop (mkF m 23 #[.val (.ref bb), .val (.int qq), .val (.int (0 : Int32)), .val (.int (Int32.ofNat cs.length))] [(.int qq)]))
  refine own_go (fun _ q => Jvm.Stand.ldcI X268 hx hown (mvT hZ (own_w hw 143 rfl)) (g := (mkF m 23 #[.val (.ref bb), .val (.int qq), .val (.int (0 : Int32)), .val (.int (Int32.ofNat cs.length))] [(.int qq)])) rfl (hb hby d33_23) q) ?_
  show own_Fin _ _ _ _ (T268.setTop (mkF m 25 #[.val (.ref bb), .val (.int qq), .val (.int (0 : Int32)), .val (.int (Int32.ofNat cs.length))] [(.int (65536 : Int32)), (.int qq)]))
  refine own_go (fun _ q => XS.icmpNo X268.here hx rfl (hb hby d33_25) rfl (tlt (own_lt16 hq)).2.1 q) ?_
  refine own_go (fun _ q => XS.aloadN X268.here hx rfl (hb hby d33_28) rfl rfl q) ?_
  refine own_go (fun _ q => XS.iloadN X268.here hx rfl (hb hby d33_29) rfl q) ?_
  refine own_go (fun _ q => XS.iloadN X268.here hx rfl (hb hby d33_30) rfl q) ?_
  refine own_go (fun _ q => XS.iloadN X268.here hx rfl (hb hby d33_31) rfl q) ?_
  show own_Fin _ _ _ _ (T268.setTop (mkF m 32 #[.val (.ref bb), .val (.int qq), .val (.int (0 : Int32)), .val (.int (Int32.ofNat cs.length))] [(.int (Int32.ofNat cs.length)), (.int (0 : Int32)), (.int qq), (.ref bb)]))
  obtain ⟨_, _, ⟨T269, L269, k269, n269⟩, -, X269, ⟨Lc269, hQ269, l269, y269, z269⟩, st269⟩ := Jvm.LawKit.callS X268 hx (y := (⟨"java/lang/StringUTF16", "indexOfChar", "([BIII)I"⟩ : MethodName)) hown (mvT hZ (own_w hw 144 rfl)) (mvT hZ (own_w hw 145 rfl)) (mvT hZ (own_w hw 43 rfl)) (mvT hZ (own_w hw 146 rfl)) (by decide) (backOf (W := 0) (rm_uic l Z a0 hw [] bb kb qq cs gs h0 n0 (Nat.le_trans Z0 K0.1) V_bb hbd hL hq S_F hgs O0 S_A S_H S_L) hZ (own_w hw 146 rfl) (own_w hw 43 rfl) (by decide) (by decide)) (g := (mkF m 32 #[.val (.ref bb), .val (.int qq), .val (.int (0 : Int32)), .val (.int (Int32.ofNat cs.length))] [(.int (Int32.ofNat cs.length)), (.int (0 : Int32)), (.int qq), (.ref bb)])) rfl (by rw [hml]; rfl) (argsL := [(.ref bb), (.int qq), (.int (0 : Int32)), (.int (Int32.ofNat cs.length))]) (rest := []) (lenOf pd_21 rfl) rfl (by show 2 * 0 + _ ≤ _; exact Nat.le_of_eq rfl) (hb hby d33_32) (fun _ _ => ⟨rfl, e268, (by decide : 0 + 0 ≤ _), (by decide : 0 + 0 ≤ _)⟩)
  dsimp only [Pt.U, Pt.locs, Pt.cells, Pt.slots] at X269 l269 y269 z269 st269 hQ269
  subst l269 y269 z269
  obtain ⟨z269, rfl, N269q, e269, hz269⟩ := hQ269
  have N269 := Fr.app N268 N269q
  refine own_go st269 ?_
  show own_Fin _ _ _ _ (T269.setTop (mkF m 35 #[.val (.ref bb), .val (.int qq), .val (.int (0 : Int32)), .val (.int (Int32.ofNat cs.length))] [(.int z269)]))
  refine own_retI X269 hx Bd (t := .int) Bd.returns rfl (by simp) (hb hby d33_35) ?_ (by decide) (by decide)
  show (Q_rm_ui Z bb kb qq cs gs h0 n0) (some (.int z269)) T269.heap _
  rw [e269]
  exact ⟨_, rfl, N269, rfl, hz269⟩
def Q_rm_si2 (Z : State) (xx : Addr) (tt : Addr) (qq : Int32) (cs : List Int32) (gc : Int32) (gs : Value) (h0 : Heap) (n0 : Nat) (v : Option Value) (h : Heap) (L : List Loc) : Prop := ∃ z : Int32, v = some (.int z) ∧ Fr n0 L ∧ h = h0 ∧ ((¬ z < 0 ∧ qq ∈ cs) ∨ (z < 0 ∧ qq ∉ cs))
theorem ef_rm_si2 (m : MethodId) (xx : Addr) (tt : Addr) (qq : Int32) (cs : List Int32) (gc : Int32) (gs : Value) : entryFrame m #[(.ref xx), (.int qq), (.int (0 : Int32))] 3 = mkF m 0 #[.val (.ref xx), .val (.int qq), .val (.int (0 : Int32))] [] := by first | (simp [entryFrame, mkF, argsToLocals, Value.category]; done) | rfl
set_option maxRecDepth 65536 in
set_option maxHeartbeats 40000000 in
theorem rm_si2 (l : Launch) (Z : State) (a0 : Array Value) (hw : ∀ d ∈ tables_1, d.before a0 Z = true) (ws : List Jvm.Cond) (xx : Addr) (tt : Addr) (qq : Int32) (cs : List Int32) (gc : Int32) (gs : Value) (h0 : Heap) (n0 : Nat) (Z0 : n0 ≤ h0.size) (F_x : own_Str Z h0 xx tt cs) (hL : 0 < cs.length ∧ cs.length ≤ 4) (hq : ¬ qq < 0 ∧ ¬ (255 : Int32) < qq) (S_F : Sta Z Z.heap "jdk/internal/util/Preconditions" "SIOOBE_FORMATTER" "Ljava/util/function/BiFunction;" gs) (hgs : gs.isRef = true) (S_C : Sta Z Z.heap "java/lang/String" "COMPACT_STRINGS" "Z" (.int gc)) (hcs : ¬ gc = 0) (O0 : Old Z n0 h0) (S_A : Sta Z Z.heap "java/lang/StringUTF16" "$assertionsDisabled" "Z" (.int (1 : Int32))) (S_H : Sta Z Z.heap "java/lang/StringUTF16" "HI_BYTE_SHIFT" "I" (.int (0 : Int32))) (S_L : Sta Z Z.heap "java/lang/StringUTF16" "LO_BYTE_SHIFT" "I" (.int (8 : Int32))) :
    MetFree l (⟨"java/lang/String", "indexOf", "(II)I"⟩ : MethodName) (head1 (Jvm.Cond.code (⟨"java/lang/String", "indexOf", "(II)I"⟩ : MethodName) jdk_42_method_80_code 3 (some .int) :: ws) ({ frames := 5, cells := 0, slots := 0, locals := 73 } : Room)) (fun a_ U_ => a_ = #[(.ref xx), (.int qq), (.int (0 : Int32))] ∧ Z.Warmed39 U_.vm ∧ U_.heap = h0) (fun _ _ _ _ _ => True) (fun _ U_ o_ V_ => ∃ v_ L_, o_ = .returned v_ ∧ (Q_rm_si2 Z xx tt qq cs gc gs h0 n0) v_ V_.heap L_ ∧ FrameEnd U_ o_ V_ L_ ({ frames := 5, cells := 0, slots := 0, locals := 73 } : Room).cells ({ frames := 5, cells := 0, slots := 0, locals := 73 } : Room).slots) := by
  refine MetFree.of_bodySF (plainFor_of_name pn_0) hisR ?_
  intro p e s m args below meth c s₁ Bd hml0 hP hK
  obtain ⟨rfl, hZ, hh⟩ := hP
  have hx := Bd.exec
  have hby := Bd.bytes
  have hml : c.maxLocals = 3 := hml0
  have hown : s.vm.findClass "java/lang/String" = some m.cls := findClass_of_methodNamed Bd.named
  have hnm := (name_of_methodNamed Bd.named Bd.method).1
  have X0 : Stand p l e ({ frames := 5, cells := 0, slots := 0, locals := 73 } : Room) s m #[(.ref xx), (.int qq), (.int (0 : Int32))] below meth c s₁ [] 0 0 := Stand.of_body Bd
  have e0 : s₁.heap = h0 := by rw [← hh, Bd.state]; rfl
  have N0 := Fr.nil n0
  have K0 : Keep h0 h0 [] := Keep.refl _ _
  show own_Fin p.tables e below (own_Post (Q_rm_si2 Z xx tt qq cs gc gs h0 n0) ({ frames := 5, cells := 0, slots := 0, locals := 73 } : Room).cells ({ frames := 5, cells := 0, slots := 0, locals := 73 } : Room).slots below s) _
  refine own_go (fun _ q => castTop (ef_rm_si2 m xx tt qq cs gc gs) q) ?_
  show own_Fin _ _ _ _ (s₁.setTop (mkF m 0 #[.val (.ref xx), .val (.int qq), .val (.int (0 : Int32))] []))
  have F_y := F_x
  obtain ⟨kq, Nq, cd, vs, E_x, V_x, C_x, A_x, hcod, hbd, -⟩ := F_y
  rcases hcod with ⟨rfl, rfl, rfl, hcd⟩ | ⟨rfl, rfl, rfl, hcd⟩
  · skip
    refine own_go (fun _ q => XS.aloadN X0.here hx rfl (hb hby d15_0) rfl rfl q) ?_
    show own_Fin _ _ _ _ (s₁.setTop (mkF m 1 #[.val (.ref xx), .val (.int qq), .val (.int (0 : Int32))] [(.ref xx)]))
    obtain ⟨cq270, kq270, qa270, qb270, qc270⟩ := isOf hZ e0 E_x
    obtain ⟨_, _, ⟨T270, L270, k270, n270⟩, -, X270, ⟨Lc270, hQ270, l270, y270, z270⟩, st270⟩ := X0.virtualBack hx (y := (⟨"java/lang/String", "isLatin1", "()Z"⟩ : MethodName)) (z := (⟨"java/lang/String", "isLatin1", "()Z"⟩ : MethodName)) hown (mvT hZ (own_w hw 76 rfl)) (mvT hZ (own_w hw 77 rfl)) (own_notface (args := #[]) (mvT hZ (own_w hw 38 rfl)) rfl) (mvT hZ (own_w hw 79 rfl)) (mvT hZ (own_w hw 78 rfl)) (by decide) (backOf (W := 0) (rm_il0 l Z a0 hw [] xx gc h0 n0 (Nat.le_trans Z0 K0.1) C_x S_C hcs O0) hZ (own_w hw 80 rfl) (own_w hw 11 rfl) (by decide) (by decide)) qa270 qc270 (g := (mkF m 1 #[.val (.ref xx), .val (.int qq), .val (.int (0 : Int32))] [(.ref xx)])) rfl (by rw [hml]; rfl) (Steps.refl _) (argsL := []) (rest := []) (lenOf pd_23 rfl) rfl (by show 2 * 0 + _ ≤ _; exact Nat.le_of_eq rfl) (hb hby d15_1) (fun _ _ => ⟨rfl, e0, (by decide : 0 + 0 ≤ _), (by decide : 0 + 0 ≤ _)⟩)
    dsimp only [Pt.U, Pt.locs, Pt.cells, Pt.slots] at X270 l270 y270 z270 st270 hQ270
    subst l270 y270 z270
    obtain ⟨rfl, N270q, e270⟩ := hQ270
    have N270 := Fr.app N0 N270q
    refine own_go (fun _ q => st270.trans q) ?_
    show own_Fin _ _ _ _ (T270.setTop (mkF m 4 #[.val (.ref xx), .val (.int qq), .val (.int (0 : Int32))] [(.int (1 : Int32))]))
    refine own_go (fun _ q => XS.ifNo X270.here hx rfl (hb hby d15_4) rfl ((if0 _ _).trans (feq (by decide : ¬ (1 : Int32) = (0 : Int32))).1) q) ?_
    refine own_go (fun _ q => XS.aloadN X270.here hx rfl (hb hby d15_7) rfl rfl q) ?_
    show own_Fin _ _ _ _ (T270.setTop (mkF m 8 #[.val (.ref xx), .val (.int qq), .val (.int (0 : Int32))] [(.ref xx)]))
    obtain ⟨T271, X271, e271, st271⟩ := getF X270 hx hZ hown (host := "") (Or.inl (own_w hw 29 rfl)) Via.refl e270 V_x (g := (mkF m 8 #[.val (.ref xx), .val (.int qq), .val (.int (0 : Int32))] [(.ref xx)])) rfl rfl (hb hby d15_8)
    refine own_go st271 ?_
    refine own_go (fun _ q => XS.iloadN X271.here hx rfl (hb hby d15_11) rfl q) ?_
    refine own_go (fun _ q => XS.iloadN X271.here hx rfl (hb hby d15_12) rfl q) ?_
    refine own_go (fun _ q => XS.aloadN X271.here hx rfl (hb hby d15_13) rfl rfl q) ?_
    show own_Fin _ _ _ _ (T271.setTop (mkF m 14 #[.val (.ref xx), .val (.int qq), .val (.int (0 : Int32))] [(.ref xx), (.int (0 : Int32)), (.int qq), (.ref tt)]))
    obtain ⟨cq272, kq272, qa272, qb272, qc272⟩ := isOf hZ e271 E_x
    obtain ⟨_, _, ⟨T272, L272, k272, n272⟩, -, X272, ⟨Lc272, hQ272, l272, y272, z272⟩, st272⟩ := X271.virtualBack hx (y := (⟨"java/lang/String", "length", "()I"⟩ : MethodName)) (z := (⟨"java/lang/String", "length", "()I"⟩ : MethodName)) hown (mvT hZ (own_w hw 81 rfl)) (mvT hZ (own_w hw 82 rfl)) (own_notface (args := #[]) (mvT hZ (own_w hw 38 rfl)) rfl) (mvT hZ (own_w hw 84 rfl)) (mvT hZ (own_w hw 83 rfl)) (by decide) (backOf (W := 3) (rm_len l Z a0 hw [] xx tt cs gc h0 n0 (Nat.le_trans Z0 K0.1) F_x S_C hcs O0) hZ (own_w hw 85 rfl) (own_w hw 11 rfl) (by decide) (by decide)) qa272 qc272 (g := (mkF m 14 #[.val (.ref xx), .val (.int qq), .val (.int (0 : Int32))] [(.ref xx), (.int (0 : Int32)), (.int qq), (.ref tt)])) rfl (by rw [hml]; rfl) (Steps.refl _) (argsL := []) (rest := [(.int (0 : Int32)), (.int qq), (.ref tt)]) (lenOf pd_24 rfl) rfl (by show 2 * 0 + _ ≤ _; exact Nat.le_of_eq rfl) (hb hby d15_14) (fun _ _ => ⟨rfl, e271, (by decide : 0 + 0 ≤ _), (by decide : 0 + 0 ≤ _)⟩)
    dsimp only [Pt.U, Pt.locs, Pt.cells, Pt.slots] at X272 l272 y272 z272 st272 hQ272
    subst l272 y272 z272
    obtain ⟨rfl, N272q, e272⟩ := hQ272
    have N272 := Fr.app N270 N272q
    refine own_go (fun _ q => st272.trans q) ?_
    show own_Fin _ _ _ _ (T272.setTop (mkF m 17 #[.val (.ref xx), .val (.int qq), .val (.int (0 : Int32))] [(.int (Int32.ofNat cs.length)), (.int (0 : Int32)), (.int qq), (.ref tt)]))
    obtain ⟨_, _, ⟨T273, L273, k273, n273⟩, -, X273, ⟨Lc273, hQ273, l273, y273, z273⟩, st273⟩ := Jvm.LawKit.callS X272 hx (y := (⟨"java/lang/StringLatin1", "indexOf", "([BIII)I"⟩ : MethodName)) hown (mvT hZ (own_w hw 91 rfl)) (mvT hZ (own_w hw 92 rfl)) (mvT hZ (own_w hw 63 rfl)) (mvT hZ (own_w hw 93 rfl)) (by decide) (backOf (W := 0) (rm_li l Z a0 hw [] tt kq qq cs h0 n0 (Nat.le_trans Z0 K0.1) A_x hbd hcd hL hq) hZ (own_w hw 93 rfl) (own_w hw 63 rfl) (by decide) (by decide)) (g := (mkF m 17 #[.val (.ref xx), .val (.int qq), .val (.int (0 : Int32))] [(.int (Int32.ofNat cs.length)), (.int (0 : Int32)), (.int qq), (.ref tt)])) rfl (by rw [hml]; rfl) (argsL := [(.ref tt), (.int qq), (.int (0 : Int32)), (.int (Int32.ofNat cs.length))]) (rest := []) (lenOf pd_21 rfl) rfl (by show 2 * 0 + _ ≤ _; exact Nat.le_of_eq rfl) (hb hby d15_17) (fun _ _ => ⟨rfl, e272, (by decide : 0 + 0 ≤ _), (by decide : 0 + 0 ≤ _)⟩)
    dsimp only [Pt.U, Pt.locs, Pt.cells, Pt.slots] at X273 l273 y273 z273 st273 hQ273
    subst l273 y273 z273
    obtain ⟨z273, rfl, N273q, e273, hz273⟩ := hQ273
    have N273 := Fr.app N272 N273q
    refine own_go st273 ?_
    refine own_go (fun _ q => XS.goto X273.here hx rfl (pc0 := 20) (pc' := 36) rfl (hb hby d15_20) (by decide) (by decide) q) ?_
    show own_Fin _ _ _ _ (T273.setTop (mkF m 36 #[.val (.ref xx), .val (.int qq), .val (.int (0 : Int32))] [(.int z273)]))
    refine own_retI X273 hx Bd (t := .int) Bd.returns rfl (by simp) (hb hby d15_36) ?_ (by decide) (by decide)
    show (Q_rm_si2 Z xx tt qq cs gc gs h0 n0) (some (.int z273)) T273.heap _
    rw [e273]
    exact ⟨_, rfl, N273, rfl, hz273⟩
  · skip
    refine own_go (fun _ q => XS.aloadN X0.here hx rfl (hb hby d15_0) rfl rfl q) ?_
    show own_Fin _ _ _ _ (s₁.setTop (mkF m 1 #[.val (.ref xx), .val (.int qq), .val (.int (0 : Int32))] [(.ref xx)]))
    obtain ⟨cq274, kq274, qa274, qb274, qc274⟩ := isOf hZ e0 E_x
    obtain ⟨_, _, ⟨T274, L274, k274, n274⟩, -, X274, ⟨Lc274, hQ274, l274, y274, z274⟩, st274⟩ := X0.virtualBack hx (y := (⟨"java/lang/String", "isLatin1", "()Z"⟩ : MethodName)) (z := (⟨"java/lang/String", "isLatin1", "()Z"⟩ : MethodName)) hown (mvT hZ (own_w hw 76 rfl)) (mvT hZ (own_w hw 77 rfl)) (own_notface (args := #[]) (mvT hZ (own_w hw 38 rfl)) rfl) (mvT hZ (own_w hw 79 rfl)) (mvT hZ (own_w hw 78 rfl)) (by decide) (backOf (W := 0) (rm_il1 l Z a0 hw [] xx gc h0 n0 (Nat.le_trans Z0 K0.1) C_x S_C hcs O0) hZ (own_w hw 80 rfl) (own_w hw 11 rfl) (by decide) (by decide)) qa274 qc274 (g := (mkF m 1 #[.val (.ref xx), .val (.int qq), .val (.int (0 : Int32))] [(.ref xx)])) rfl (by rw [hml]; rfl) (Steps.refl _) (argsL := []) (rest := []) (lenOf pd_23 rfl) rfl (by show 2 * 0 + _ ≤ _; exact Nat.le_of_eq rfl) (hb hby d15_1) (fun _ _ => ⟨rfl, e0, (by decide : 0 + 0 ≤ _), (by decide : 0 + 0 ≤ _)⟩)
    dsimp only [Pt.U, Pt.locs, Pt.cells, Pt.slots] at X274 l274 y274 z274 st274 hQ274
    subst l274 y274 z274
    obtain ⟨rfl, N274q, e274⟩ := hQ274
    have N274 := Fr.app N0 N274q
    refine own_go (fun _ q => st274.trans q) ?_
    show own_Fin _ _ _ _ (T274.setTop (mkF m 4 #[.val (.ref xx), .val (.int qq), .val (.int (0 : Int32))] [(.int (0 : Int32))]))
    refine own_go (fun _ q => XS.ifYes X274.here hx rfl (pc0 := 4) (pc' := 23) rfl (hb hby d15_4) rfl ((if0 _ _).trans (teq (by decide : (0 : Int32) = (0 : Int32))).1) (by decide) (by decide) q) ?_
    refine own_go (fun _ q => XS.aloadN X274.here hx rfl (hb hby d15_23) rfl rfl q) ?_
    show own_Fin _ _ _ _ (T274.setTop (mkF m 24 #[.val (.ref xx), .val (.int qq), .val (.int (0 : Int32))] [(.ref xx)]))
    obtain ⟨T275, X275, e275, st275⟩ := getF X274 hx hZ hown (host := "") (Or.inl (own_w hw 29 rfl)) Via.refl e274 V_x (g := (mkF m 24 #[.val (.ref xx), .val (.int qq), .val (.int (0 : Int32))] [(.ref xx)])) rfl rfl (hb hby d15_24)
    refine own_go st275 ?_
    refine own_go (fun _ q => XS.iloadN X275.here hx rfl (hb hby d15_27) rfl q) ?_
    refine own_go (fun _ q => XS.iloadN X275.here hx rfl (hb hby d15_28) rfl q) ?_
    refine own_go (fun _ q => XS.aloadN X275.here hx rfl (hb hby d15_29) rfl rfl q) ?_
    show own_Fin _ _ _ _ (T275.setTop (mkF m 30 #[.val (.ref xx), .val (.int qq), .val (.int (0 : Int32))] [(.ref xx), (.int (0 : Int32)), (.int qq), (.ref tt)]))
    obtain ⟨cq276, kq276, qa276, qb276, qc276⟩ := isOf hZ e275 E_x
    obtain ⟨_, _, ⟨T276, L276, k276, n276⟩, -, X276, ⟨Lc276, hQ276, l276, y276, z276⟩, st276⟩ := X275.virtualBack hx (y := (⟨"java/lang/String", "length", "()I"⟩ : MethodName)) (z := (⟨"java/lang/String", "length", "()I"⟩ : MethodName)) hown (mvT hZ (own_w hw 81 rfl)) (mvT hZ (own_w hw 82 rfl)) (own_notface (args := #[]) (mvT hZ (own_w hw 38 rfl)) rfl) (mvT hZ (own_w hw 84 rfl)) (mvT hZ (own_w hw 83 rfl)) (by decide) (backOf (W := 3) (rm_len l Z a0 hw [] xx tt cs gc h0 n0 (Nat.le_trans Z0 K0.1) F_x S_C hcs O0) hZ (own_w hw 85 rfl) (own_w hw 11 rfl) (by decide) (by decide)) qa276 qc276 (g := (mkF m 30 #[.val (.ref xx), .val (.int qq), .val (.int (0 : Int32))] [(.ref xx), (.int (0 : Int32)), (.int qq), (.ref tt)])) rfl (by rw [hml]; rfl) (Steps.refl _) (argsL := []) (rest := [(.int (0 : Int32)), (.int qq), (.ref tt)]) (lenOf pd_24 rfl) rfl (by show 2 * 0 + _ ≤ _; exact Nat.le_of_eq rfl) (hb hby d15_30) (fun _ _ => ⟨rfl, e275, (by decide : 0 + 0 ≤ _), (by decide : 0 + 0 ≤ _)⟩)
    dsimp only [Pt.U, Pt.locs, Pt.cells, Pt.slots] at X276 l276 y276 z276 st276 hQ276
    subst l276 y276 z276
    obtain ⟨rfl, N276q, e276⟩ := hQ276
    have N276 := Fr.app N274 N276q
    refine own_go (fun _ q => st276.trans q) ?_
    show own_Fin _ _ _ _ (T276.setTop (mkF m 33 #[.val (.ref xx), .val (.int qq), .val (.int (0 : Int32))] [(.int (Int32.ofNat cs.length)), (.int (0 : Int32)), (.int qq), (.ref tt)]))
    obtain ⟨_, _, ⟨T277, L277, k277, n277⟩, -, X277, ⟨Lc277, hQ277, l277, y277, z277⟩, st277⟩ := Jvm.LawKit.callS X276 hx (y := (⟨"java/lang/StringUTF16", "indexOf", "([BIII)I"⟩ : MethodName)) hown (mvT hZ (own_w hw 138 rfl)) (mvT hZ (own_w hw 139 rfl)) (mvT hZ (own_w hw 43 rfl)) (mvT hZ (own_w hw 140 rfl)) (by decide) (backOf (W := 0) (rm_ui l Z a0 hw [] tt kq qq cs gs h0 n0 (Nat.le_trans Z0 K0.1) A_x hbd hL hq S_F hgs O0 S_A S_H S_L) hZ (own_w hw 140 rfl) (own_w hw 43 rfl) (by decide) (by decide)) (g := (mkF m 33 #[.val (.ref xx), .val (.int qq), .val (.int (0 : Int32))] [(.int (Int32.ofNat cs.length)), (.int (0 : Int32)), (.int qq), (.ref tt)])) rfl (by rw [hml]; rfl) (argsL := [(.ref tt), (.int qq), (.int (0 : Int32)), (.int (Int32.ofNat cs.length))]) (rest := []) (lenOf pd_21 rfl) rfl (by show 2 * 0 + _ ≤ _; exact Nat.le_of_eq rfl) (hb hby d15_33) (fun _ _ => ⟨rfl, e276, (by decide : 0 + 0 ≤ _), (by decide : 0 + 0 ≤ _)⟩)
    dsimp only [Pt.U, Pt.locs, Pt.cells, Pt.slots] at X277 l277 y277 z277 st277 hQ277
    subst l277 y277 z277
    obtain ⟨z277, rfl, N277q, e277, hz277⟩ := hQ277
    have N277 := Fr.app N276 N277q
    refine own_go st277 ?_
    show own_Fin _ _ _ _ (T277.setTop (mkF m 36 #[.val (.ref xx), .val (.int qq), .val (.int (0 : Int32))] [(.int z277)]))
    refine own_retI X277 hx Bd (t := .int) Bd.returns rfl (by simp) (hb hby d15_36) ?_ (by decide) (by decide)
    show (Q_rm_si2 Z xx tt qq cs gc gs h0 n0) (some (.int z277)) T277.heap _
    rw [e277]
    exact ⟨_, rfl, N277, rfl, hz277⟩
def Q_rm_si1 (Z : State) (xx : Addr) (tt : Addr) (qq : Int32) (cs : List Int32) (gc : Int32) (gs : Value) (h0 : Heap) (n0 : Nat) (v : Option Value) (h : Heap) (L : List Loc) : Prop := ∃ z : Int32, v = some (.int z) ∧ Fr n0 L ∧ h = h0 ∧ ((¬ z < 0 ∧ qq ∈ cs) ∨ (z < 0 ∧ qq ∉ cs))
theorem ef_rm_si1 (m : MethodId) (xx : Addr) (tt : Addr) (qq : Int32) (cs : List Int32) (gc : Int32) (gs : Value) : entryFrame m #[(.ref xx), (.int qq)] 2 = mkF m 0 #[.val (.ref xx), .val (.int qq)] [] := by first | (simp [entryFrame, mkF, argsToLocals, Value.category]; done) | rfl
set_option maxRecDepth 65536 in
set_option maxHeartbeats 40000000 in
theorem rm_si1 (l : Launch) (Z : State) (a0 : Array Value) (hw : ∀ d ∈ tables_1, d.before a0 Z = true) (ws : List Jvm.Cond) (xx : Addr) (tt : Addr) (qq : Int32) (cs : List Int32) (gc : Int32) (gs : Value) (h0 : Heap) (n0 : Nat) (Z0 : n0 ≤ h0.size) (F_x : own_Str Z h0 xx tt cs) (hL : 0 < cs.length ∧ cs.length ≤ 4) (hq : ¬ qq < 0 ∧ ¬ (255 : Int32) < qq) (S_F : Sta Z Z.heap "jdk/internal/util/Preconditions" "SIOOBE_FORMATTER" "Ljava/util/function/BiFunction;" gs) (hgs : gs.isRef = true) (S_C : Sta Z Z.heap "java/lang/String" "COMPACT_STRINGS" "Z" (.int gc)) (hcs : ¬ gc = 0) (O0 : Old Z n0 h0) (S_A : Sta Z Z.heap "java/lang/StringUTF16" "$assertionsDisabled" "Z" (.int (1 : Int32))) (S_H : Sta Z Z.heap "java/lang/StringUTF16" "HI_BYTE_SHIFT" "I" (.int (0 : Int32))) (S_L : Sta Z Z.heap "java/lang/StringUTF16" "LO_BYTE_SHIFT" "I" (.int (8 : Int32))) :
    MetFree l (⟨"java/lang/String", "indexOf", "(I)I"⟩ : MethodName) (head1 (Jvm.Cond.code (⟨"java/lang/String", "indexOf", "(I)I"⟩ : MethodName) jdk_42_method_79_code 2 (some .int) :: ws) ({ frames := 6, cells := 0, slots := 0, locals := 87 } : Room)) (fun a_ U_ => a_ = #[(.ref xx), (.int qq)] ∧ Z.Warmed39 U_.vm ∧ U_.heap = h0) (fun _ _ _ _ _ => True) (fun _ U_ o_ V_ => ∃ v_ L_, o_ = .returned v_ ∧ (Q_rm_si1 Z xx tt qq cs gc gs h0 n0) v_ V_.heap L_ ∧ FrameEnd U_ o_ V_ L_ ({ frames := 6, cells := 0, slots := 0, locals := 87 } : Room).cells ({ frames := 6, cells := 0, slots := 0, locals := 87 } : Room).slots) := by
  refine MetFree.of_bodySF (plainFor_of_name pn_0) hisR ?_
  intro p e s m args below meth c s₁ Bd hml0 hP hK
  obtain ⟨rfl, hZ, hh⟩ := hP
  have hx := Bd.exec
  have hby := Bd.bytes
  have hml : c.maxLocals = 2 := hml0
  have hown : s.vm.findClass "java/lang/String" = some m.cls := findClass_of_methodNamed Bd.named
  have hnm := (name_of_methodNamed Bd.named Bd.method).1
  have X0 : Stand p l e ({ frames := 6, cells := 0, slots := 0, locals := 87 } : Room) s m #[(.ref xx), (.int qq)] below meth c s₁ [] 0 0 := Stand.of_body Bd
  have e0 : s₁.heap = h0 := by rw [← hh, Bd.state]; rfl
  have N0 := Fr.nil n0
  have K0 : Keep h0 h0 [] := Keep.refl _ _
  show own_Fin p.tables e below (own_Post (Q_rm_si1 Z xx tt qq cs gc gs h0 n0) ({ frames := 6, cells := 0, slots := 0, locals := 87 } : Room).cells ({ frames := 6, cells := 0, slots := 0, locals := 87 } : Room).slots below s) _
  refine own_go (fun _ q => castTop (ef_rm_si1 m xx tt qq cs gc gs) q) ?_
  refine own_go (fun _ q => XS.aloadN X0.here hx rfl (hb hby d14_0) rfl rfl q) ?_
  refine own_go (fun _ q => XS.iloadN X0.here hx rfl (hb hby d14_1) rfl q) ?_
  refine own_go (fun _ q => XS.iconst X0.here hx rfl (hb hby d14_2) q) ?_
  show own_Fin _ _ _ _ (s₁.setTop (mkF m 3 #[.val (.ref xx), .val (.int qq)] [(.int (0 : Int32)), (.int qq), (.ref xx)]))
  obtain ⟨cq278, kq278, qa278, qb278, qc278⟩ := isOf hZ e0 F_x.exa
  obtain ⟨_, _, ⟨T278, L278, k278, n278⟩, -, X278, ⟨Lc278, hQ278, l278, y278, z278⟩, st278⟩ := X0.virtualBack hx (y := (⟨"java/lang/String", "indexOf", "(II)I"⟩ : MethodName)) (z := (⟨"java/lang/String", "indexOf", "(II)I"⟩ : MethodName)) hown (mvT hZ (own_w hw 71 rfl)) (mvT hZ (own_w hw 72 rfl)) (own_notface (args := #[]) (mvT hZ (own_w hw 38 rfl)) rfl) (mvT hZ (own_w hw 74 rfl)) (mvT hZ (own_w hw 73 rfl)) (by decide) (backOf (W := 0) (rm_si2 l Z a0 hw [] xx tt qq cs gc gs h0 n0 (Nat.le_trans Z0 K0.1) F_x hL hq S_F hgs S_C hcs O0 S_A S_H S_L) hZ (own_w hw 75 rfl) (own_w hw 11 rfl) (by decide) (by decide)) qa278 qc278 (g := (mkF m 3 #[.val (.ref xx), .val (.int qq)] [(.int (0 : Int32)), (.int qq), (.ref xx)])) rfl (by rw [hml]; rfl) (Steps.refl _) (argsL := [(.int qq), (.int (0 : Int32))]) (rest := []) (lenOf pd_20 rfl) rfl (by show 2 * 0 + _ ≤ _; exact Nat.le_of_eq rfl) (hb hby d14_3) (fun _ _ => ⟨rfl, e0, (by decide : 0 + 0 ≤ _), (by decide : 0 + 0 ≤ _)⟩)
  dsimp only [Pt.U, Pt.locs, Pt.cells, Pt.slots] at X278 l278 y278 z278 st278 hQ278
  subst l278 y278 z278
  obtain ⟨z278, rfl, N278q, e278, hz278⟩ := hQ278
  have N278 := Fr.app N0 N278q
  refine own_go (fun _ q => st278.trans q) ?_
  show own_Fin _ _ _ _ (T278.setTop (mkF m 6 #[.val (.ref xx), .val (.int qq)] [(.int z278)]))
  refine own_retI X278 hx Bd (t := .int) Bd.returns rfl (by simp) (hb hby d14_6) ?_ (by decide) (by decide)
  show (Q_rm_si1 Z xx tt qq cs gc gs h0 n0) (some (.int z278)) T278.heap _
  rw [e278]
  exact ⟨_, rfl, N278, rfl, hz278⟩
def Q_rm_em (Z : State) (xx : Addr) (tt : Addr) (cs : List Int32) (h0 : Heap) (n0 : Nat) (v : Option Value) (h : Heap) (L : List Loc) : Prop := ∃ z : Int32, v = some (.int z) ∧ Fr n0 L ∧ h = h0 ∧ ((z = 1 ∧ cs = []) ∨ (z = 0 ∧ 0 < cs.length))
theorem ef_rm_em (m : MethodId) (xx : Addr) (tt : Addr) (cs : List Int32) : entryFrame m #[(.ref xx)] 1 = mkF m 0 #[.val (.ref xx)] [] := by first | (simp [entryFrame, mkF, argsToLocals, Value.category]; done) | rfl
set_option maxRecDepth 65536 in
set_option maxHeartbeats 40000000 in
theorem rm_em (l : Launch) (Z : State) (a0 : Array Value) (hw : ∀ d ∈ tables_1, d.before a0 Z = true) (ws : List Jvm.Cond) (xx : Addr) (tt : Addr) (cs : List Int32) (h0 : Heap) (n0 : Nat) (Z0 : n0 ≤ h0.size) (F_x : own_Str Z h0 xx tt cs) :
    MetFree l (⟨"java/lang/String", "isEmpty", "()Z"⟩ : MethodName) (head1 (Jvm.Cond.code (⟨"java/lang/String", "isEmpty", "()Z"⟩ : MethodName) jdk_42_method_55_code 1 (some .boolean) :: ws) ({ frames := 0, cells := 0, slots := 0, locals := 0 } : Room)) (fun a_ U_ => a_ = #[(.ref xx)] ∧ Z.Warmed39 U_.vm ∧ U_.heap = h0) (fun _ _ _ _ _ => True) (fun _ U_ o_ V_ => ∃ v_ L_, o_ = .returned v_ ∧ (Q_rm_em Z xx tt cs h0 n0) v_ V_.heap L_ ∧ FrameEnd U_ o_ V_ L_ ({ frames := 0, cells := 0, slots := 0, locals := 0 } : Room).cells ({ frames := 0, cells := 0, slots := 0, locals := 0 } : Room).slots) := by
  refine MetFree.of_bodySF (plainFor_of_name pn_0) hisR ?_
  intro p e s m args below meth c s₁ Bd hml0 hP hK
  obtain ⟨rfl, hZ, hh⟩ := hP
  have hx := Bd.exec
  have hby := Bd.bytes
  have hml : c.maxLocals = 1 := hml0
  have hown : s.vm.findClass "java/lang/String" = some m.cls := findClass_of_methodNamed Bd.named
  have hnm := (name_of_methodNamed Bd.named Bd.method).1
  have X0 : Stand p l e ({ frames := 0, cells := 0, slots := 0, locals := 0 } : Room) s m #[(.ref xx)] below meth c s₁ [] 0 0 := Stand.of_body Bd
  have e0 : s₁.heap = h0 := by rw [← hh, Bd.state]; rfl
  have N0 := Fr.nil n0
  have K0 : Keep h0 h0 [] := Keep.refl _ _
  show own_Fin p.tables e below (own_Post (Q_rm_em Z xx tt cs h0 n0) ({ frames := 0, cells := 0, slots := 0, locals := 0 } : Room).cells ({ frames := 0, cells := 0, slots := 0, locals := 0 } : Room).slots below s) _
  refine own_go (fun _ q => castTop (ef_rm_em m xx tt cs) q) ?_
  show own_Fin _ _ _ _ (s₁.setTop (mkF m 0 #[.val (.ref xx)] []))
  obtain ⟨kq, Nq, cd, vs, E_x, V_x, C_x, A_x, hcod, hbd, h4k⟩ := F_x
  have hNz := own_emN hcod h4k
  refine own_go (fun _ q => XS.aloadN X0.here hx rfl (hb hby d7_0) rfl rfl q) ?_
  show own_Fin _ _ _ _ (s₁.setTop (mkF m 1 #[.val (.ref xx)] [(.ref xx)]))
  obtain ⟨T279, X279, e279, st279⟩ := getF X0 hx hZ hown (host := "") (Or.inl (own_w hw 29 rfl)) Via.refl e0 V_x (g := (mkF m 1 #[.val (.ref xx)] [(.ref xx)])) rfl rfl (hb hby d7_1)
  refine own_go st279 ?_
  show own_Fin _ _ _ _ (T279.setTop (mkF m 4 #[.val (.ref xx)] [(.ref tt)]))
  refine own_go (fun _ q => own_alen X279 hx hZ e279 A_x (g := (mkF m 4 #[.val (.ref xx)] [(.ref tt)])) rfl rfl (hb hby d7_4) _ q) ?_
  show own_Fin _ _ _ _ (T279.setTop (mkF m 5 #[.val (.ref xx)] [(.int Nq)]))
  by_cases hc280 : Nq = (0 : Int32)
  · skip
    refine own_go (fun _ q => XS.ifNo X279.here hx rfl (hb hby d7_5) rfl ((if0 _ _).trans (teq hc280).2) q) ?_
    refine own_go (fun _ q => XS.iconst X279.here hx rfl (hb hby d7_8) q) ?_
    refine own_go (fun _ q => XS.goto X279.here hx rfl (pc0 := 9) (pc' := 13) rfl (hb hby d7_9) (by decide) (by decide) q) ?_
    show own_Fin _ _ _ _ (T279.setTop (mkF m 13 #[.val (.ref xx)] [(.int (1 : Int32))]))
    refine own_retI X279 hx Bd (t := .boolean) Bd.returns rfl (by simp) (hb hby d7_13) ?_ (by decide) (by decide)
    show (Q_rm_em Z xx tt cs h0 n0) (some (.int (1 : Int32))) T279.heap _
    rw [e279]
    exact ⟨_, rfl, N0, rfl, Or.inl ⟨rfl, hNz.1 hc280⟩⟩
  · skip
    refine own_go (fun _ q => XS.ifYes X279.here hx rfl (pc0 := 5) (pc' := 12) rfl (hb hby d7_5) rfl ((if0 _ _).trans (feq hc280).2) (by decide) (by decide) q) ?_
    refine own_go (fun _ q => XS.iconst X279.here hx rfl (hb hby d7_12) q) ?_
    show own_Fin _ _ _ _ (T279.setTop (mkF m 13 #[.val (.ref xx)] [(.int (0 : Int32))]))
    refine own_retI X279 hx Bd (t := .boolean) Bd.returns rfl (by simp) (hb hby d7_13) ?_ (by decide) (by decide)
    show (Q_rm_em Z xx tt cs h0 n0) (some (.int (0 : Int32))) T279.heap _
    rw [e279]
    exact ⟨_, rfl, N0, rfl, Or.inr ⟨rfl, hNz.2 hc280⟩⟩
def Q_rm_dr (Z : State) (xa : Int32) (h0 : Heap) (n0 : Nat) (v : Option Value) (h : Heap) (L : List Loc) : Prop := ∃ z : Int32, v = some (.int z) ∧ Fr n0 L ∧ h = h0 ∧ ¬ z < 0 ∧ ¬ (65535 : Int32) < z
theorem ef_rm_dr (m : MethodId) (xa : Int32) : entryFrame m #[(.int xa)] 2 = mkF m 0 #[.val (.int xa), .unset] [] := by first | (simp [entryFrame, mkF, argsToLocals, Value.category]; done) | rfl
set_option maxRecDepth 65536 in
set_option maxHeartbeats 40000000 in
theorem rm_dr (l : Launch) (Z : State) (a0 : Array Value) (hw : ∀ d ∈ tables_1, d.before a0 Z = true) (ws : List Jvm.Cond) (xa : Int32) (h0 : Heap) (n0 : Nat) (Z0 : n0 ≤ h0.size) :
    MetFree l (⟨"com/example/hebelwerk/hebelwerk/model/PublishedFolderIsIdPinLaw", "draw", "(I)C"⟩ : MethodName) (head1 (Jvm.Cond.code (⟨"com/example/hebelwerk/hebelwerk/model/PublishedFolderIsIdPinLaw", "draw", "(I)C"⟩ : MethodName) method_3_code 2 (some .char) :: ws) ({ frames := 0, cells := 0, slots := 0, locals := 0 } : Room)) (fun a_ U_ => a_ = #[(.int xa)] ∧ Z.Warmed39 U_.vm ∧ U_.heap = h0) (fun _ _ _ _ _ => True) (fun _ U_ o_ V_ => ∃ v_ L_, o_ = .returned v_ ∧ (Q_rm_dr Z xa h0 n0) v_ V_.heap L_ ∧ FrameEnd U_ o_ V_ L_ ({ frames := 0, cells := 0, slots := 0, locals := 0 } : Room).cells ({ frames := 0, cells := 0, slots := 0, locals := 0 } : Room).slots) := by
  refine MetFree.of_bodySF (plainFor_of_name pn_25) hisR ?_
  intro p e s m args below meth c s₁ Bd hml0 hP hK
  obtain ⟨rfl, hZ, hh⟩ := hP
  have hx := Bd.exec
  have hby := Bd.bytes
  have hml : c.maxLocals = 2 := hml0
  have hown : s.vm.findClass "com/example/hebelwerk/hebelwerk/model/PublishedFolderIsIdPinLaw" = some m.cls := findClass_of_methodNamed Bd.named
  have hnm := (name_of_methodNamed Bd.named Bd.method).1
  have X0 : Stand p l e ({ frames := 0, cells := 0, slots := 0, locals := 0 } : Room) s m #[(.int xa)] below meth c s₁ [] 0 0 := Stand.of_body Bd
  have e0 : s₁.heap = h0 := by rw [← hh, Bd.state]; rfl
  have N0 := Fr.nil n0
  have K0 : Keep h0 h0 [] := Keep.refl _ _
  show own_Fin p.tables e below (own_Post (Q_rm_dr Z xa h0 n0) ({ frames := 0, cells := 0, slots := 0, locals := 0 } : Room).cells ({ frames := 0, cells := 0, slots := 0, locals := 0 } : Room).slots below s) _
  refine own_go (fun _ q => castTop (ef_rm_dr m xa) q) ?_
  refine own_go (fun _ q => XS.iloadN X0.here hx rfl (hb hby d1_0) rfl q) ?_
  refine own_go (fun _ q => XS.iconst X0.here hx rfl (hb hby d1_1) q) ?_
  show own_Fin _ _ _ _ (s₁.setTop (mkF m 2 #[.val (.int xa), .unset] [(.int (3 : Int32)), (.int xa)]))
  refine own_go (fun _ q => XS.iand X0.here hx rfl (hb hby d1_2) rfl q) ?_
  refine own_go (fun _ q => XS.istoreN X0.here hx rfl (hb hby d1_3) rfl (l' := #[.val (.int xa), .val (.int (xa &&& (3 : Int32)))]) rfl q) ?_
  refine own_go (fun _ q => XS.iloadN X0.here hx rfl (hb hby d1_4) rfl q) ?_
  show own_Fin _ _ _ _ (s₁.setTop (mkF m 5 #[.val (.int xa), .val (.int (xa &&& (3 : Int32)))] [(.int (xa &&& (3 : Int32)))]))
  by_cases hc281 : (xa &&& (3 : Int32)) = (0 : Int32)
  · skip
    refine own_go (fun _ q => XS.ifNo X0.here hx rfl (hb hby d1_5) rfl ((if0 _ _).trans (teq hc281).2) q) ?_
    refine own_go (fun _ q => XS.bipush X0.here hx rfl (hb hby d1_8) q) ?_
    show own_Fin _ _ _ _ (s₁.setTop (mkF m 10 #[.val (.int xa), .val (.int (xa &&& (3 : Int32)))] [(.int (46 : Int32))]))
    refine own_retI X0 hx Bd (t := .char) Bd.returns rfl (by simp) (hb hby d1_10) ?_ (by decide) (by decide)
    show (Q_rm_dr Z xa h0 n0) (some (.int (46 : Int32))) s₁.heap _
    rw [e0]
    exact ⟨_, rfl, N0, rfl, by decide⟩
  · skip
    refine own_go (fun _ q => XS.ifYes X0.here hx rfl (pc0 := 5) (pc' := 11) rfl (hb hby d1_5) rfl ((if0 _ _).trans (feq hc281).2) (by decide) (by decide) q) ?_
    refine own_go (fun _ q => XS.iloadN X0.here hx rfl (hb hby d1_11) rfl q) ?_
    refine own_go (fun _ q => XS.iconst X0.here hx rfl (hb hby d1_12) q) ?_
    show own_Fin _ _ _ _ (s₁.setTop (mkF m 13 #[.val (.int xa), .val (.int (xa &&& (3 : Int32)))] [(.int (1 : Int32)), (.int (xa &&& (3 : Int32)))]))
    by_cases hc282 : (xa &&& (3 : Int32)) = (1 : Int32)
    · skip
      refine own_go (fun _ q => XS.icmpNo X0.here hx rfl (hb hby d1_13) rfl (teq hc282).2 q) ?_
      refine own_go (fun _ q => XS.bipush X0.here hx rfl (hb hby d1_16) q) ?_
      show own_Fin _ _ _ _ (s₁.setTop (mkF m 18 #[.val (.int xa), .val (.int (xa &&& (3 : Int32)))] [(.int (47 : Int32))]))
      refine own_retI X0 hx Bd (t := .char) Bd.returns rfl (by simp) (hb hby d1_18) ?_ (by decide) (by decide)
      show (Q_rm_dr Z xa h0 n0) (some (.int (47 : Int32))) s₁.heap _
      rw [e0]
      exact ⟨_, rfl, N0, rfl, by decide⟩
    · skip
      refine own_go (fun _ q => XS.icmpYes X0.here hx rfl (pc0 := 13) (pc' := 19) rfl (hb hby d1_13) rfl (feq hc282).2 (by decide) (by decide) q) ?_
      refine own_go (fun _ q => XS.iloadN X0.here hx rfl (hb hby d1_19) rfl q) ?_
      refine own_go (fun _ q => XS.iconst X0.here hx rfl (hb hby d1_20) q) ?_
      show own_Fin _ _ _ _ (s₁.setTop (mkF m 21 #[.val (.int xa), .val (.int (xa &&& (3 : Int32)))] [(.int (2 : Int32)), (.int (xa &&& (3 : Int32)))]))
      by_cases hc283 : (xa &&& (3 : Int32)) = (2 : Int32)
      · skip
        refine own_go (fun _ q => XS.icmpNo X0.here hx rfl (hb hby d1_21) rfl (teq hc283).2 q) ?_
        refine own_go (fun _ q => XS.iconst X0.here hx rfl (hb hby d1_24) q) ?_
        show own_Fin _ _ _ _ (s₁.setTop (mkF m 25 #[.val (.int xa), .val (.int (xa &&& (3 : Int32)))] [(.int (0 : Int32))]))
        refine own_retI X0 hx Bd (t := .char) Bd.returns rfl (by simp) (hb hby d1_25) ?_ (by decide) (by decide)
        show (Q_rm_dr Z xa h0 n0) (some (.int (0 : Int32))) s₁.heap _
        rw [e0]
        exact ⟨_, rfl, N0, rfl, by decide⟩
      · skip
        refine own_go (fun _ q => XS.icmpYes X0.here hx rfl (pc0 := 21) (pc' := 26) rfl (hb hby d1_21) rfl (feq hc283).2 (by decide) (by decide) q) ?_
        refine own_go (fun _ q => XS.iloadN X0.here hx rfl (hb hby d1_26) rfl q) ?_
        refine own_go (fun _ q => XS.iconst X0.here hx rfl (hb hby d1_27) q) ?_
        show own_Fin _ _ _ _ (s₁.setTop (mkF m 28 #[.val (.int xa), .val (.int (xa &&& (3 : Int32)))] [(.int (2 : Int32)), (.int xa)]))
        refine own_go (fun _ q => XS.iushr X0.here hx rfl (hb hby d1_28) rfl q) ?_
        show own_Fin _ _ _ _ (s₁.setTop (mkF m 29 #[.val (.int xa), .val (.int (xa &&& (3 : Int32)))] [(.int ((xa.toUInt32 >>> ((2 : Int32) &&& 31).toUInt32).toInt32))]))
        refine own_go (fun _ q => Jvm.Stand.ldcI X0 hx hown (mvT hZ (own_w hw 5 rfl)) (g := (mkF m 29 #[.val (.int xa), .val (.int (xa &&& (3 : Int32)))] [(.int ((xa.toUInt32 >>> ((2 : Int32) &&& 31).toUInt32).toInt32))])) rfl (hb hby d1_29) q) ?_
        show own_Fin _ _ _ _ (s₁.setTop (mkF m 31 #[.val (.int xa), .val (.int (xa &&& (3 : Int32)))] [(.int (65535 : Int32)), (.int ((xa.toUInt32 >>> ((2 : Int32) &&& 31).toUInt32).toInt32))]))
        refine own_go (fun _ q => XS.iand X0.here hx rfl (hb hby d1_31) rfl q) ?_
        show own_Fin _ _ _ _ (s₁.setTop (mkF m 32 #[.val (.int xa), .val (.int (xa &&& (3 : Int32)))] [(.int (((xa.toUInt32 >>> ((2 : Int32) &&& 31).toUInt32).toInt32) &&& (65535 : Int32)))]))
        refine own_go (fun _ q => XS.i2c X0.here hx rfl (hb hby d1_32) rfl q) ?_
        show own_Fin _ _ _ _ (s₁.setTop (mkF m 33 #[.val (.int xa), .val (.int (xa &&& (3 : Int32)))] [(.int ((((xa.toUInt32 >>> ((2 : Int32) &&& 31).toUInt32).toInt32) &&& (65535 : Int32)).toUInt32.toUInt16.toUInt32.toInt32))]))
        refine own_retI X0 hx Bd (t := .char) Bd.returns (StrChars.narrow_ch (own_ch16 _).1 (own_ch16 _).2) (by simp) (hb hby d1_33) ?_ (by decide) (by decide)
        show (Q_rm_dr Z xa h0 n0) (some (.int ((((xa.toUInt32 >>> ((2 : Int32) &&& 31).toUInt32).toInt32) &&& (65535 : Int32)).toUInt32.toUInt16.toUInt32.toInt32))) s₁.heap _
        rw [e0]
        exact ⟨_, rfl, N0, rfl, own_ch16 _⟩
def Q_rm_bad (Z : State) (chx : Int32) (h0 : Heap) (n0 : Nat) (v : Option Value) (h : Heap) (L : List Loc) : Prop := ∃ z : Int32, v = some (.int z) ∧ Fr n0 L ∧ h = h0 ∧ ((z = 1 ∧ (chx = 47 ∨ chx = 0)) ∨ (z = 0 ∧ ¬ (chx = 47 ∨ chx = 0)))
theorem ef_rm_bad (m : MethodId) (chx : Int32) : entryFrame m #[(.int chx)] 1 = mkF m 0 #[.val (.int chx)] [] := by first | (simp [entryFrame, mkF, argsToLocals, Value.category]; done) | rfl
set_option maxRecDepth 65536 in
set_option maxHeartbeats 40000000 in
theorem rm_bad (l : Launch) (Z : State) (a0 : Array Value) (hw : ∀ d ∈ tables_1, d.before a0 Z = true) (ws : List Jvm.Cond) (chx : Int32) (h0 : Heap) (n0 : Nat) (Z0 : n0 ≤ h0.size) :
    MetFree l (⟨"com/example/hebelwerk/hebelwerk/model/PublishedFolderIsIdPinLaw", "bad", "(C)Z"⟩ : MethodName) (head1 (Jvm.Cond.code (⟨"com/example/hebelwerk/hebelwerk/model/PublishedFolderIsIdPinLaw", "bad", "(C)Z"⟩ : MethodName) method_4_code 1 (some .boolean) :: ws) ({ frames := 0, cells := 0, slots := 0, locals := 0 } : Room)) (fun a_ U_ => a_ = #[(.int chx)] ∧ Z.Warmed39 U_.vm ∧ U_.heap = h0) (fun _ _ _ _ _ => True) (fun _ U_ o_ V_ => ∃ v_ L_, o_ = .returned v_ ∧ (Q_rm_bad Z chx h0 n0) v_ V_.heap L_ ∧ FrameEnd U_ o_ V_ L_ ({ frames := 0, cells := 0, slots := 0, locals := 0 } : Room).cells ({ frames := 0, cells := 0, slots := 0, locals := 0 } : Room).slots) := by
  refine MetFree.of_bodySF (plainFor_of_name pn_25) hisR ?_
  intro p e s m args below meth c s₁ Bd hml0 hP hK
  obtain ⟨rfl, hZ, hh⟩ := hP
  have hx := Bd.exec
  have hby := Bd.bytes
  have hml : c.maxLocals = 1 := hml0
  have hown : s.vm.findClass "com/example/hebelwerk/hebelwerk/model/PublishedFolderIsIdPinLaw" = some m.cls := findClass_of_methodNamed Bd.named
  have hnm := (name_of_methodNamed Bd.named Bd.method).1
  have X0 : Stand p l e ({ frames := 0, cells := 0, slots := 0, locals := 0 } : Room) s m #[(.int chx)] below meth c s₁ [] 0 0 := Stand.of_body Bd
  have e0 : s₁.heap = h0 := by rw [← hh, Bd.state]; rfl
  have N0 := Fr.nil n0
  have K0 : Keep h0 h0 [] := Keep.refl _ _
  show own_Fin p.tables e below (own_Post (Q_rm_bad Z chx h0 n0) ({ frames := 0, cells := 0, slots := 0, locals := 0 } : Room).cells ({ frames := 0, cells := 0, slots := 0, locals := 0 } : Room).slots below s) _
  refine own_go (fun _ q => castTop (ef_rm_bad m chx) q) ?_
  refine own_go (fun _ q => XS.iloadN X0.here hx rfl (hb hby d11_0) rfl q) ?_
  refine own_go (fun _ q => XS.bipush X0.here hx rfl (hb hby d11_1) q) ?_
  show own_Fin _ _ _ _ (s₁.setTop (mkF m 3 #[.val (.int chx)] [(.int (47 : Int32)), (.int chx)]))
  by_cases hc284 : chx = (47 : Int32)
  · skip
    refine own_go (fun _ q => XS.icmpYes X0.here hx rfl (pc0 := 3) (pc' := 10) rfl (hb hby d11_3) rfl (teq hc284).1 (by decide) (by decide) q) ?_
    refine own_go (fun _ q => XS.iconst X0.here hx rfl (hb hby d11_10) q) ?_
    refine own_go (fun _ q => XS.goto X0.here hx rfl (pc0 := 11) (pc' := 15) rfl (hb hby d11_11) (by decide) (by decide) q) ?_
    show own_Fin _ _ _ _ (s₁.setTop (mkF m 15 #[.val (.int chx)] [(.int (1 : Int32))]))
    refine own_retI X0 hx Bd (t := .boolean) Bd.returns rfl (by simp) (hb hby d11_15) ?_ (by decide) (by decide)
    show (Q_rm_bad Z chx h0 n0) (some (.int (1 : Int32))) s₁.heap _
    rw [e0]
    exact ⟨_, rfl, N0, rfl, Or.inl ⟨rfl, Or.inl hc284⟩⟩
  · skip
    refine own_go (fun _ q => XS.icmpNo X0.here hx rfl (hb hby d11_3) rfl (feq hc284).1 q) ?_
    refine own_go (fun _ q => XS.iloadN X0.here hx rfl (hb hby d11_6) rfl q) ?_
    show own_Fin _ _ _ _ (s₁.setTop (mkF m 7 #[.val (.int chx)] [(.int chx)]))
    by_cases hc285 : chx = (0 : Int32)
    · skip
      refine own_go (fun _ q => XS.ifNo X0.here hx rfl (hb hby d11_7) rfl ((if0 _ _).trans (teq hc285).2) q) ?_
      refine own_go (fun _ q => XS.iconst X0.here hx rfl (hb hby d11_10) q) ?_
      refine own_go (fun _ q => XS.goto X0.here hx rfl (pc0 := 11) (pc' := 15) rfl (hb hby d11_11) (by decide) (by decide) q) ?_
      show own_Fin _ _ _ _ (s₁.setTop (mkF m 15 #[.val (.int chx)] [(.int (1 : Int32))]))
      refine own_retI X0 hx Bd (t := .boolean) Bd.returns rfl (by simp) (hb hby d11_15) ?_ (by decide) (by decide)
      show (Q_rm_bad Z chx h0 n0) (some (.int (1 : Int32))) s₁.heap _
      rw [e0]
      exact ⟨_, rfl, N0, rfl, Or.inl ⟨rfl, Or.inr hc285⟩⟩
    · skip
      refine own_go (fun _ q => XS.ifYes X0.here hx rfl (pc0 := 7) (pc' := 14) rfl (hb hby d11_7) rfl ((if0 _ _).trans (feq hc285).2) (by decide) (by decide) q) ?_
      refine own_go (fun _ q => XS.iconst X0.here hx rfl (hb hby d11_14) q) ?_
      show own_Fin _ _ _ _ (s₁.setTop (mkF m 15 #[.val (.int chx)] [(.int (0 : Int32))]))
      refine own_retI X0 hx Bd (t := .boolean) Bd.returns rfl (by simp) (hb hby d11_15) ?_ (by decide) (by decide)
      show (Q_rm_bad Z chx h0 n0) (some (.int (0 : Int32))) s₁.heap _
      rw [e0]
      exact ⟨_, rfl, N0, rfl, Or.inr ⟨rfl, fun q => q.elim hc284 hc285⟩⟩
def Q_rm_tx0 (Z : State) (ch0 : Int32) (ch1 : Int32) (ch2 : Int32) (ch3 : Int32) (gc : Int32) (h0 : Heap) (n0 : Nat) (v : Option Value) (h : Heap) (L : List Loc) : Prop := ∃ x t, v = some (.ref x) ∧ Fr n0 L ∧ Keep h0 h [] ∧ own_Str Z h x t ([] : List Int32)
theorem ef_rm_tx0 (m : MethodId) (ch0 : Int32) (ch1 : Int32) (ch2 : Int32) (ch3 : Int32) (gc : Int32) : entryFrame m #[(.int (0 : Int32)), (.int ch0), (.int ch1), (.int ch2), (.int ch3)] 6 = mkF m 0 #[.val (.int (0 : Int32)), .val (.int ch0), .val (.int ch1), .val (.int ch2), .val (.int ch3), .unset] [] := by first | (simp [entryFrame, mkF, argsToLocals, Value.category]; done) | rfl
set_option maxRecDepth 65536 in
set_option maxHeartbeats 40000000 in
theorem rm_tx0 (l : Launch) (Z : State) (a0 : Array Value) (hw : ∀ d ∈ tables_1, d.before a0 Z = true) (ws : List Jvm.Cond) (hEL : EW Z a0 consts_1) (ch0 : Int32) (ch1 : Int32) (ch2 : Int32) (ch3 : Int32) (gc : Int32) (h0 : Heap) (n0 : Nat) (Z0 : n0 ≤ h0.size) (hb4 : ∀ c ∈ ([ch0, ch1, ch2, ch3] : List Int32), ¬ c < 0 ∧ ¬ (65535 : Int32) < c) (S_C : Sta Z Z.heap "java/lang/String" "COMPACT_STRINGS" "Z" (.int gc)) (hcs : ¬ gc = 0) (O0 : Old Z n0 h0) (S_A : Sta Z Z.heap "java/lang/StringUTF16" "$assertionsDisabled" "Z" (.int (1 : Int32))) (S_H : Sta Z Z.heap "java/lang/StringUTF16" "HI_BYTE_SHIFT" "I" (.int (0 : Int32))) (S_L : Sta Z Z.heap "java/lang/StringUTF16" "LO_BYTE_SHIFT" "I" (.int (8 : Int32))) :
    MetFree l (⟨"com/example/hebelwerk/hebelwerk/model/PublishedFolderIsIdPinLaw", "text", "(ICCCC)Ljava/lang/String;"⟩ : MethodName) (head1 (Jvm.Cond.code (⟨"com/example/hebelwerk/hebelwerk/model/PublishedFolderIsIdPinLaw", "text", "(ICCCC)Ljava/lang/String;"⟩ : MethodName) method_5_code 6 (some (.object "java/lang/String")) :: ws) ({ frames := 6, cells := 6, slots := 20, locals := 88 } : Room)) (fun a_ U_ => a_ = #[(.int (0 : Int32)), (.int ch0), (.int ch1), (.int ch2), (.int ch3)] ∧ Z.Warmed39 U_.vm ∧ U_.heap = h0 ∧ CHv Z consts_1 U_.vm h0) (fun _ _ _ _ _ => True) (fun _ U_ o_ V_ => ∃ v_ L_, o_ = .returned v_ ∧ (Q_rm_tx0 Z ch0 ch1 ch2 ch3 gc h0 n0) v_ V_.heap L_ ∧ CHr Z consts_1 U_.vm U_.heap V_.vm V_.heap ∧ ReturnedEndW U_ o_ V_ L_ ({ frames := 6, cells := 6, slots := 20, locals := 88 } : Room).cells ({ frames := 6, cells := 6, slots := 20, locals := 88 } : Room).slots) := by
  refine MetFree.of_bodySF (plainFor_of_name pn_25) hisR ?_
  intro p e s m args below meth c s₁ Bd hml0 hP hK
  obtain ⟨rfl, hZ, hh, CH⟩ := hP
  have hx := Bd.exec
  have hby := Bd.bytes
  have hml : c.maxLocals = 6 := hml0
  have hown : s.vm.findClass "com/example/hebelwerk/hebelwerk/model/PublishedFolderIsIdPinLaw" = some m.cls := findClass_of_methodNamed Bd.named
  have hnm := (name_of_methodNamed Bd.named Bd.method).1
  have wS : ∀ a ∈ Bundle.stringAtoms, a.before a0 Z = true := fun d hd => hw d ((by decide +kernel : ∀ d ∈ Bundle.stringAtoms, d ∈ tables_1) d hd)
  have X0 : Stand p l e ({ frames := 6, cells := 6, slots := 20, locals := 88 } : Room) (s.setVm s.vm) m #[(.int (0 : Int32)), (.int ch0), (.int ch1), (.int ch2), (.int ch3)] below meth c s₁ [] 0 0 := Stand.of_body Bd
  have e0 : s₁.heap = h0 := by rw [← hh, Bd.state]; rfl
  have N0 := Fr.nil n0
  have K0 : Keep h0 h0 [] := Keep.refl _ _
  replace hZ : Z.Warmed39 (s.setVm s.vm).vm := hZ
  replace hown : (s.setVm s.vm).vm.findClass "com/example/hebelwerk/hebelwerk/model/PublishedFolderIsIdPinLaw" = some m.cls := hown
  have hS : s.Since s.vm h0.size := (State.WarmedH.refl s).since _
  have hk : h0.size ≤ h0.size := Nat.le_refl _
  have CR : CHr Z consts_1 s.vm h0 s.vm h0 := CHr.refl CH
  show own_Fin p.tables e below (own_PostW Z consts_1 (Q_rm_tx0 Z ch0 ch1 ch2 ch3 gc h0 n0) ({ frames := 6, cells := 6, slots := 20, locals := 88 } : Room).cells ({ frames := 6, cells := 6, slots := 20, locals := 88 } : Room).slots below s) _
  refine own_go (fun _ q => castTop (ef_rm_tx0 m ch0 ch1 ch2 ch3 gc) q) ?_
  refine own_go (fun _ q => XS.iloadN X0.here hx rfl (hb hby d2_0) rfl q) ?_
  show own_Fin _ _ _ _ (s₁.setTop (mkF m 1 #[.val (.int (0 : Int32)), .val (.int ch0), .val (.int ch1), .val (.int ch2), .val (.int ch3), .unset] [(.int (0 : Int32))]))
  refine own_go (fun _ q => XS.ifNo X0.here hx rfl (hb hby d2_1) rfl ((if0 _ _).trans (teq (by decide : (0 : Int32) = (0 : Int32))).2) q) ?_
  show own_Fin _ _ _ _ (s₁.setTop (mkF m 4 #[.val (.int (0 : Int32)), .val (.int ch0), .val (.int ch1), .val (.int ch2), .val (.int ch3), .unset] []))
  obtain ⟨T286, h286, X286, e286, E286, A286, D286, -, st286⟩ := newO X0 hx hZ hown (own_w hw 9 rfl) (own_w hw 10 rfl) (own_w hw 11 rfl) e0 (g := (mkF m 4 #[.val (.int (0 : Int32)), .val (.int ch0), .val (.int ch1), .val (.int ch2), .val (.int ch3), .unset] [])) rfl (hb hby d2_4) (by decide) (by decide)
  obtain ⟨b286, g286⟩ : ∃ z, z = h0.size := ⟨_, rfl⟩
  rw [← g286] at A286 D286 st286
  have sz_b286 : h0.size ≤ b286 := Nat.le_trans K0.1 (Nat.le_of_eq g286.symm)
  have g_b286 : n0 ≤ b286 := Nat.le_trans Z0 sz_b286
  have S_b286 := Safe.new (Z := Z) (EL := consts_1) (vm := s.vm) (Nat.le_of_eq g286.symm)
  replace S_b286 := Safe.ext E286 CH S_b286
  replace CR := CR.trans (CHr.ext E286 CH)
  replace CH := CH.ext E286
  replace hk := Nat.le_trans hk E286.1
  replace O0 := O0.ext E286
  have K287 := K0.ext E286
  have F286_value : Fld Z h286 b286 "java/lang/String" "value" "[B" .null := D286 (Or.inr (own_w hw 25 rfl)) (ty := (.array .byte)) (by decide)
  have F286_coder : Fld Z h286 b286 "java/lang/String" "coder" "B" (.int (0 : Int32)) := D286 (Or.inr (own_w hw 26 rfl)) (ty := .byte) (by decide)
  refine own_go st286 ?_
  refine own_go (fun _ q => XS.dup X286.here hx rfl (hb hby d2_7) rfl rfl q) ?_
  refine own_go (fun _ q => XS.iconst X286.here hx rfl (hb hby d2_8) q) ?_
  show own_Fin _ _ _ _ (T286.setTop (mkF m 9 #[.val (.int (0 : Int32)), .val (.int ch0), .val (.int ch1), .val (.int ch2), .val (.int ch3), .unset] [(.int (0 : Int32)), (.ref b286), (.ref b286)]))
  obtain ⟨T288, h288, k288, X288, e288, E288, A288, st288⟩ := newP X286 hx hZ (own_w hw 12 rfl) e286 (g := (mkF m 9 #[.val (.int (0 : Int32)), .val (.int ch0), .val (.int ch1), .val (.int ch2), .val (.int ch3), .unset] [(.int (0 : Int32)), (.ref b286), (.ref b286)])) rfl (hb hby d2_9) rfl (by decide) (cap := 0) (by decide) (by decide) (by decide) (by decide)
  obtain ⟨b288, g288⟩ : ∃ z, z = h286.size := ⟨_, rfl⟩
  rw [← g288] at A288 st288
  have sz_b288 : h0.size ≤ b288 := Nat.le_trans K287.1 (Nat.le_of_eq g288.symm)
  have g_b288 : n0 ≤ b288 := Nat.le_trans Z0 sz_b288
  have ne289 : b286 ≠ b288 := Nat.ne_of_lt (Nat.lt_of_lt_of_le A286.lt (Nat.le_of_eq g288.symm))
  have S_b288 := Safe.new (Z := Z) (EL := consts_1) (vm := s.vm) (Nat.le_of_eq g288.symm)
  replace S_b286 := Safe.ext E288 CH S_b286
  replace S_b288 := Safe.ext E288 CH S_b288
  replace CR := CR.trans (CHr.ext E288 CH)
  replace CH := CH.ext E288
  replace hk := Nat.le_trans hk E288.1
  replace O0 := O0.ext E288
  replace A286 := A286.ext E288
  replace F286_value := F286_value.ext E288
  replace F286_coder := F286_coder.ext E288
  have K290 := K287.ext E288
  have V288 : Arv Z h288 b288 k288 .char (0 : Int32) [] (.int (0 : Int32)) := (Arv.new A288 (by decide)).pad (pad_rep [] (.int (0 : Int32)) 0)
  refine own_go st288 ?_
  show own_Fin _ _ _ _ (T288.setTop (mkF m 11 #[.val (.int (0 : Int32)), .val (.int ch0), .val (.int ch1), .val (.int ch2), .val (.int ch3), .unset] [(.ref b288), (.ref b286), (.ref b286)]))
  obtain ⟨_, _, ⟨T291, L291, k291, n291⟩, -, X291, hSn291, hgr291, ⟨Lc291, hQ291, l291, y291, z291, CR291⟩, st291⟩ := X288.specialBackS hx (y := (⟨"java/lang/String", "<init>", "([C)V"⟩ : MethodName)) rfl hown (mvT hZ (own_w hw 13 rfl)) (mvT hZ (own_w hw 14 rfl)) (mvT hZ (own_w hw 15 rfl)) (by decide) (backOfSH (s := s) (W := 1) (rm_ne l Z a0 hw [] hEL b286 b288 k288 gc h288 n0 (Nat.le_trans Z0 K290.1) A286 F286_value F286_coder g_b286 V288 (Ne.symm ne289) O0) hZ (own_w hw 15 rfl) (own_w hw 11 rfl) (by decide) (by decide) hEL CH) (g := (mkF m 11 #[.val (.int (0 : Int32)), .val (.int ch0), .val (.int ch1), .val (.int ch2), .val (.int ch3), .unset] [(.ref b288), (.ref b286), (.ref b286)])) rfl (by rw [hml]; rfl) (Steps.refl _) (a := b286) (argsL := [(.ref b288)]) (rest := [(.ref b286)]) (lenOf pd_26 rfl) rfl (by show 2 * 0 + _ ≤ _; exact Nat.le_of_eq rfl) (hb hby d2_11) (fun _ _ => ⟨rfl, e288, (by decide : 2 + 4 ≤ _), (by decide : 4 + 8 ≤ _)⟩)
  dsimp only [Pt.U, Pt.locs, Pt.cells, Pt.slots] at X291 l291 y291 z291 st291 hQ291 hSn291 hgr291 CR291
  subst l291 y291 z291
  replace hS := foldS hS (show _ ≤ T288.heap.size by rw [e288]; exact hk) hSn291 hgr291
  replace hk : T291.heap.size ≤ T291.heap.size := Nat.le_refl _
  replace hZ : Z.Warmed39 (s.setVm T291.vm).vm := State.Warmed39.trans (t := s.setVm s.vm) hZ hSn291.1
  replace hown : (s.setVm T291.vm).vm.findClass "com/example/hebelwerk/hebelwerk/model/PublishedFolderIsIdPinLaw" = some m.cls := by rw [show (s.setVm T291.vm).vm = T291.vm from rfl, hSn291.1.alike.findClass]; exact hown
  replace X291 : Stand p l e ({ frames := 6, cells := 6, slots := 20, locals := 88 } : Room) (s.setVm T291.vm) m #[(.int (0 : Int32)), (.int ch0), (.int ch1), (.int ch2), (.int ch3)] below meth c T291 _ _ _ := X291
  replace S_b286 := CR291.safe A286.lt S_b286
  replace S_b288 := CR291.safe V288.lt S_b288
  replace CR := CR.trans CR291
  replace CH := CR291.1
  obtain ⟨rfl, N291q, KK291, t291, SS291⟩ := hQ291
  have N291 := Fr.app N0 N291q
  replace O0 := O0.keep KK291 (allS g_b286 (all0))
  replace A286 := A286.keep KK291
  replace V288 := V288.keep KK291 (ninS (Ne.symm ne289) nin0)
  have K292 := K290.trans KK291 (allS (Or.inr sz_b286) all0)
  refine own_go (fun _ q => st291.trans q) ?_
  show own_Fin _ _ _ _ (T291.setTop (mkF m 14 #[.val (.int (0 : Int32)), .val (.int ch0), .val (.int ch1), .val (.int ch2), .val (.int ch3), .unset] [(.ref b286)]))
  have CRz : CHr Z consts_1 s.vm s.heap T291.vm T291.heap := by
    rw [hh]
    exact CR.trans (CHv.at X291 hZ hEL CH)
  refine own_retW X291 hx Bd hS hk (t := (.object "java/lang/String")) Bd.returns rfl (Or.inr (Or.inr (Or.inr (Or.inr ⟨rfl, rfl, rfl⟩)))) (hb hby d2_14) CRz ?_ (by decide) (by decide)
  show (Q_rm_tx0 Z ch0 ch1 ch2 ch3 gc h0 n0) (some (.ref b286)) T291.heap _
  exact ⟨_, _, rfl, N291, K292, SS291⟩
def Q_rm_tx1 (Z : State) (ch0 : Int32) (ch1 : Int32) (ch2 : Int32) (ch3 : Int32) (gc : Int32) (h0 : Heap) (n0 : Nat) (v : Option Value) (h : Heap) (L : List Loc) : Prop := ∃ x t, v = some (.ref x) ∧ Fr n0 L ∧ Keep h0 h [] ∧ own_Str Z h x t ([ch0] : List Int32)
theorem ef_rm_tx1 (m : MethodId) (ch0 : Int32) (ch1 : Int32) (ch2 : Int32) (ch3 : Int32) (gc : Int32) : entryFrame m #[(.int (1 : Int32)), (.int ch0), (.int ch1), (.int ch2), (.int ch3)] 6 = mkF m 0 #[.val (.int (1 : Int32)), .val (.int ch0), .val (.int ch1), .val (.int ch2), .val (.int ch3), .unset] [] := by first | (simp [entryFrame, mkF, argsToLocals, Value.category]; done) | rfl
set_option maxRecDepth 65536 in
set_option maxHeartbeats 40000000 in
theorem rm_tx1 (l : Launch) (Z : State) (a0 : Array Value) (hw : ∀ d ∈ tables_1, d.before a0 Z = true) (ws : List Jvm.Cond) (hEL : EW Z a0 consts_1) (ch0 : Int32) (ch1 : Int32) (ch2 : Int32) (ch3 : Int32) (gc : Int32) (h0 : Heap) (n0 : Nat) (Z0 : n0 ≤ h0.size) (hb4 : ∀ c ∈ ([ch0, ch1, ch2, ch3] : List Int32), ¬ c < 0 ∧ ¬ (65535 : Int32) < c) (S_C : Sta Z Z.heap "java/lang/String" "COMPACT_STRINGS" "Z" (.int gc)) (hcs : ¬ gc = 0) (O0 : Old Z n0 h0) (S_A : Sta Z Z.heap "java/lang/StringUTF16" "$assertionsDisabled" "Z" (.int (1 : Int32))) (S_H : Sta Z Z.heap "java/lang/StringUTF16" "HI_BYTE_SHIFT" "I" (.int (0 : Int32))) (S_L : Sta Z Z.heap "java/lang/StringUTF16" "LO_BYTE_SHIFT" "I" (.int (8 : Int32))) :
    MetFree l (⟨"com/example/hebelwerk/hebelwerk/model/PublishedFolderIsIdPinLaw", "text", "(ICCCC)Ljava/lang/String;"⟩ : MethodName) (head1 (Jvm.Cond.code (⟨"com/example/hebelwerk/hebelwerk/model/PublishedFolderIsIdPinLaw", "text", "(ICCCC)Ljava/lang/String;"⟩ : MethodName) method_5_code 6 (some (.object "java/lang/String")) :: ws) ({ frames := 6, cells := 6, slots := 20, locals := 88 } : Room)) (fun a_ U_ => a_ = #[(.int (1 : Int32)), (.int ch0), (.int ch1), (.int ch2), (.int ch3)] ∧ Z.Warmed39 U_.vm ∧ U_.heap = h0 ∧ CHv Z consts_1 U_.vm h0) (fun _ _ _ _ _ => True) (fun _ U_ o_ V_ => ∃ v_ L_, o_ = .returned v_ ∧ (Q_rm_tx1 Z ch0 ch1 ch2 ch3 gc h0 n0) v_ V_.heap L_ ∧ CHr Z consts_1 U_.vm U_.heap V_.vm V_.heap ∧ ReturnedEndW U_ o_ V_ L_ ({ frames := 6, cells := 6, slots := 20, locals := 88 } : Room).cells ({ frames := 6, cells := 6, slots := 20, locals := 88 } : Room).slots) := by
  refine MetFree.of_bodySF (plainFor_of_name pn_25) hisR ?_
  intro p e s m args below meth c s₁ Bd hml0 hP hK
  obtain ⟨rfl, hZ, hh, CH⟩ := hP
  have hx := Bd.exec
  have hby := Bd.bytes
  have hml : c.maxLocals = 6 := hml0
  have hown : s.vm.findClass "com/example/hebelwerk/hebelwerk/model/PublishedFolderIsIdPinLaw" = some m.cls := findClass_of_methodNamed Bd.named
  have hnm := (name_of_methodNamed Bd.named Bd.method).1
  have wS : ∀ a ∈ Bundle.stringAtoms, a.before a0 Z = true := fun d hd => hw d ((by decide +kernel : ∀ d ∈ Bundle.stringAtoms, d ∈ tables_1) d hd)
  have X0 : Stand p l e ({ frames := 6, cells := 6, slots := 20, locals := 88 } : Room) (s.setVm s.vm) m #[(.int (1 : Int32)), (.int ch0), (.int ch1), (.int ch2), (.int ch3)] below meth c s₁ [] 0 0 := Stand.of_body Bd
  have e0 : s₁.heap = h0 := by rw [← hh, Bd.state]; rfl
  have N0 := Fr.nil n0
  have K0 : Keep h0 h0 [] := Keep.refl _ _
  replace hZ : Z.Warmed39 (s.setVm s.vm).vm := hZ
  replace hown : (s.setVm s.vm).vm.findClass "com/example/hebelwerk/hebelwerk/model/PublishedFolderIsIdPinLaw" = some m.cls := hown
  have hS : s.Since s.vm h0.size := (State.WarmedH.refl s).since _
  have hk : h0.size ≤ h0.size := Nat.le_refl _
  have CR : CHr Z consts_1 s.vm h0 s.vm h0 := CHr.refl CH
  show own_Fin p.tables e below (own_PostW Z consts_1 (Q_rm_tx1 Z ch0 ch1 ch2 ch3 gc h0 n0) ({ frames := 6, cells := 6, slots := 20, locals := 88 } : Room).cells ({ frames := 6, cells := 6, slots := 20, locals := 88 } : Room).slots below s) _
  refine own_go (fun _ q => castTop (ef_rm_tx1 m ch0 ch1 ch2 ch3 gc) q) ?_
  refine own_go (fun _ q => XS.iloadN X0.here hx rfl (hb hby d2_0) rfl q) ?_
  show own_Fin _ _ _ _ (s₁.setTop (mkF m 1 #[.val (.int (1 : Int32)), .val (.int ch0), .val (.int ch1), .val (.int ch2), .val (.int ch3), .unset] [(.int (1 : Int32))]))
  refine own_go (fun _ q => XS.ifYes X0.here hx rfl (pc0 := 1) (pc' := 15) rfl (hb hby d2_1) rfl ((if0 _ _).trans (feq (by decide : ¬ (1 : Int32) = (0 : Int32))).2) (by decide) (by decide) q) ?_
  refine own_go (fun _ q => XS.iloadN X0.here hx rfl (hb hby d2_15) rfl q) ?_
  refine own_go (fun _ q => XS.iconst X0.here hx rfl (hb hby d2_16) q) ?_
  show own_Fin _ _ _ _ (s₁.setTop (mkF m 17 #[.val (.int (1 : Int32)), .val (.int ch0), .val (.int ch1), .val (.int ch2), .val (.int ch3), .unset] [(.int (1 : Int32)), (.int (1 : Int32))]))
  refine own_go (fun _ q => XS.icmpNo X0.here hx rfl (hb hby d2_17) rfl (teq (by decide : (1 : Int32) = (1 : Int32))).2 q) ?_
  refine own_go (fun _ q => XS.iloadN X0.here hx rfl (hb hby d2_20) rfl q) ?_
  show own_Fin _ _ _ _ (s₁.setTop (mkF m 21 #[.val (.int (1 : Int32)), .val (.int ch0), .val (.int ch1), .val (.int ch2), .val (.int ch3), .unset] [(.int ch0)]))
  obtain ⟨_, _, ⟨T293, L293, k293, n293⟩, -, X293, ⟨Lc293, hQ293, l293, y293, z293⟩, st293⟩ := Jvm.LawKit.callS X0 hx (y := (⟨"java/lang/String", "valueOf", "(C)Ljava/lang/String;"⟩ : MethodName)) hown (mvT hZ (own_w hw 107 rfl)) (mvT hZ (own_w hw 108 rfl)) (mvT hZ (own_w hw 11 rfl)) (mvT hZ (own_w hw 109 rfl)) (by decide) (backOf (W := 0) (rm_vo l Z a0 hw [] ch0 gc h0 n0 (Nat.le_trans Z0 K0.1) (hb4 _ (own_m 0 rfl)) S_C hcs O0 S_A S_H S_L) hZ (own_w hw 109 rfl) (own_w hw 11 rfl) (by decide) (by decide)) (g := (mkF m 21 #[.val (.int (1 : Int32)), .val (.int ch0), .val (.int ch1), .val (.int ch2), .val (.int ch3), .unset] [(.int ch0)])) rfl (by rw [hml]; rfl) (argsL := [(.int ch0)]) (rest := []) (lenOf pd_27 rfl) rfl (by show 2 * 0 + _ ≤ _; exact Nat.le_of_eq rfl) (hb hby d2_21) (fun _ _ => ⟨rfl, e0, (by decide : 0 + 2 ≤ _), (by decide : 0 + 6 ≤ _)⟩)
  dsimp only [Pt.U, Pt.locs, Pt.cells, Pt.slots] at X293 l293 y293 z293 st293 hQ293
  subst l293 y293 z293
  obtain ⟨r293, t293, rfl, N293q, KK293, szx293, szt293, SS293⟩ := hQ293
  have N293 := Fr.app N0 N293q
  have sz_r293 : h0.size ≤ r293 := Nat.le_trans K0.1 szx293
  have g_r293 : n0 ≤ r293 := Nat.le_trans Z0 sz_r293
  have S_r293 := Safe.new (Z := Z) (EL := consts_1) (vm := s.vm) szx293
  have sz_t293 : h0.size ≤ t293 := Nat.le_trans K0.1 szt293
  have g_t293 : n0 ≤ t293 := Nat.le_trans Z0 sz_t293
  have S_t293 := Safe.new (Z := Z) (EL := consts_1) (vm := s.vm) szt293
  have hs294 : ∀ x ∈ [], Safe Z consts_1 s.vm h0 x := sf0
  replace S_r293 := Safe.keep KK293 hs294 CH S_r293
  replace S_t293 := Safe.keep KK293 hs294 CH S_t293
  replace CR := CR.trans (CHr.keep KK293 hs294 CH)
  replace CH := CHv.keep KK293 hs294 CH
  replace hk := Nat.le_trans hk KK293.1
  replace O0 := O0.keep KK293 all0
  have K295 := K0.trans KK293 all0
  refine own_go st293 ?_
  show own_Fin _ _ _ _ (T293.setTop (mkF m 24 #[.val (.int (1 : Int32)), .val (.int ch0), .val (.int ch1), .val (.int ch2), .val (.int ch3), .unset] [(.ref r293)]))
  have CRz : CHr Z consts_1 s.vm s.heap T293.vm T293.heap := by
    rw [hh]
    exact CR.trans (CHv.at X293 hZ hEL CH)
  refine own_retW X293 hx Bd hS hk (t := (.object "java/lang/String")) Bd.returns rfl (Or.inr (Or.inr (Or.inr (Or.inr ⟨rfl, rfl, rfl⟩)))) (hb hby d2_24) CRz ?_ (by decide) (by decide)
  show (Q_rm_tx1 Z ch0 ch1 ch2 ch3 gc h0 n0) (some (.ref r293)) T293.heap _
  exact ⟨_, _, rfl, N293, K295, SS293⟩
def Q_rm_tx2 (Z : State) (ch0 : Int32) (ch1 : Int32) (ch2 : Int32) (ch3 : Int32) (gc : Int32) (h0 : Heap) (n0 : Nat) (v : Option Value) (h : Heap) (L : List Loc) : Prop := ∃ x t, v = some (.ref x) ∧ Fr n0 L ∧ Keep h0 h [] ∧ own_Str Z h x t ([ch0, ch1] : List Int32)
theorem ef_rm_tx2 (m : MethodId) (ch0 : Int32) (ch1 : Int32) (ch2 : Int32) (ch3 : Int32) (gc : Int32) : entryFrame m #[(.int (2 : Int32)), (.int ch0), (.int ch1), (.int ch2), (.int ch3)] 6 = mkF m 0 #[.val (.int (2 : Int32)), .val (.int ch0), .val (.int ch1), .val (.int ch2), .val (.int ch3), .unset] [] := by first | (simp [entryFrame, mkF, argsToLocals, Value.category]; done) | rfl
set_option maxRecDepth 65536 in
set_option maxHeartbeats 40000000 in
theorem rm_tx2 (l : Launch) (Z : State) (a0 : Array Value) (hw : ∀ d ∈ tables_1, d.before a0 Z = true) (ws : List Jvm.Cond) (hEL : EW Z a0 consts_1) (ch0 : Int32) (ch1 : Int32) (ch2 : Int32) (ch3 : Int32) (gc : Int32) (h0 : Heap) (n0 : Nat) (Z0 : n0 ≤ h0.size) (hb4 : ∀ c ∈ ([ch0, ch1, ch2, ch3] : List Int32), ¬ c < 0 ∧ ¬ (65535 : Int32) < c) (S_C : Sta Z Z.heap "java/lang/String" "COMPACT_STRINGS" "Z" (.int gc)) (hcs : ¬ gc = 0) (O0 : Old Z n0 h0) (S_A : Sta Z Z.heap "java/lang/StringUTF16" "$assertionsDisabled" "Z" (.int (1 : Int32))) (S_H : Sta Z Z.heap "java/lang/StringUTF16" "HI_BYTE_SHIFT" "I" (.int (0 : Int32))) (S_L : Sta Z Z.heap "java/lang/StringUTF16" "LO_BYTE_SHIFT" "I" (.int (8 : Int32))) :
    MetFree l (⟨"com/example/hebelwerk/hebelwerk/model/PublishedFolderIsIdPinLaw", "text", "(ICCCC)Ljava/lang/String;"⟩ : MethodName) (head1 (Jvm.Cond.code (⟨"com/example/hebelwerk/hebelwerk/model/PublishedFolderIsIdPinLaw", "text", "(ICCCC)Ljava/lang/String;"⟩ : MethodName) method_5_code 6 (some (.object "java/lang/String")) :: ws) ({ frames := 6, cells := 6, slots := 20, locals := 88 } : Room)) (fun a_ U_ => a_ = #[(.int (2 : Int32)), (.int ch0), (.int ch1), (.int ch2), (.int ch3)] ∧ Z.Warmed39 U_.vm ∧ U_.heap = h0 ∧ CHv Z consts_1 U_.vm h0) (fun _ _ _ _ _ => True) (fun _ U_ o_ V_ => ∃ v_ L_, o_ = .returned v_ ∧ (Q_rm_tx2 Z ch0 ch1 ch2 ch3 gc h0 n0) v_ V_.heap L_ ∧ CHr Z consts_1 U_.vm U_.heap V_.vm V_.heap ∧ ReturnedEndW U_ o_ V_ L_ ({ frames := 6, cells := 6, slots := 20, locals := 88 } : Room).cells ({ frames := 6, cells := 6, slots := 20, locals := 88 } : Room).slots) := by
  refine MetFree.of_bodySF (plainFor_of_name pn_25) hisR ?_
  intro p e s m args below meth c s₁ Bd hml0 hP hK
  obtain ⟨rfl, hZ, hh, CH⟩ := hP
  have hx := Bd.exec
  have hby := Bd.bytes
  have hml : c.maxLocals = 6 := hml0
  have hown : s.vm.findClass "com/example/hebelwerk/hebelwerk/model/PublishedFolderIsIdPinLaw" = some m.cls := findClass_of_methodNamed Bd.named
  have hnm := (name_of_methodNamed Bd.named Bd.method).1
  have wS : ∀ a ∈ Bundle.stringAtoms, a.before a0 Z = true := fun d hd => hw d ((by decide +kernel : ∀ d ∈ Bundle.stringAtoms, d ∈ tables_1) d hd)
  have X0 : Stand p l e ({ frames := 6, cells := 6, slots := 20, locals := 88 } : Room) (s.setVm s.vm) m #[(.int (2 : Int32)), (.int ch0), (.int ch1), (.int ch2), (.int ch3)] below meth c s₁ [] 0 0 := Stand.of_body Bd
  have e0 : s₁.heap = h0 := by rw [← hh, Bd.state]; rfl
  have N0 := Fr.nil n0
  have K0 : Keep h0 h0 [] := Keep.refl _ _
  replace hZ : Z.Warmed39 (s.setVm s.vm).vm := hZ
  replace hown : (s.setVm s.vm).vm.findClass "com/example/hebelwerk/hebelwerk/model/PublishedFolderIsIdPinLaw" = some m.cls := hown
  have hS : s.Since s.vm h0.size := (State.WarmedH.refl s).since _
  have hk : h0.size ≤ h0.size := Nat.le_refl _
  have CR : CHr Z consts_1 s.vm h0 s.vm h0 := CHr.refl CH
  show own_Fin p.tables e below (own_PostW Z consts_1 (Q_rm_tx2 Z ch0 ch1 ch2 ch3 gc h0 n0) ({ frames := 6, cells := 6, slots := 20, locals := 88 } : Room).cells ({ frames := 6, cells := 6, slots := 20, locals := 88 } : Room).slots below s) _
  refine own_go (fun _ q => castTop (ef_rm_tx2 m ch0 ch1 ch2 ch3 gc) q) ?_
  refine own_go (fun _ q => XS.iloadN X0.here hx rfl (hb hby d2_0) rfl q) ?_
  show own_Fin _ _ _ _ (s₁.setTop (mkF m 1 #[.val (.int (2 : Int32)), .val (.int ch0), .val (.int ch1), .val (.int ch2), .val (.int ch3), .unset] [(.int (2 : Int32))]))
  refine own_go (fun _ q => XS.ifYes X0.here hx rfl (pc0 := 1) (pc' := 15) rfl (hb hby d2_1) rfl ((if0 _ _).trans (feq (by decide : ¬ (2 : Int32) = (0 : Int32))).2) (by decide) (by decide) q) ?_
  refine own_go (fun _ q => XS.iloadN X0.here hx rfl (hb hby d2_15) rfl q) ?_
  refine own_go (fun _ q => XS.iconst X0.here hx rfl (hb hby d2_16) q) ?_
  show own_Fin _ _ _ _ (s₁.setTop (mkF m 17 #[.val (.int (2 : Int32)), .val (.int ch0), .val (.int ch1), .val (.int ch2), .val (.int ch3), .unset] [(.int (1 : Int32)), (.int (2 : Int32))]))
  refine own_go (fun _ q => XS.icmpYes X0.here hx rfl (pc0 := 17) (pc' := 25) rfl (hb hby d2_17) rfl (feq (by decide : ¬ (2 : Int32) = (1 : Int32))).2 (by decide) (by decide) q) ?_
  refine own_go (fun _ q => XS.iloadN X0.here hx rfl (hb hby d2_25) rfl q) ?_
  refine own_go (fun _ q => XS.iconst X0.here hx rfl (hb hby d2_26) q) ?_
  show own_Fin _ _ _ _ (s₁.setTop (mkF m 27 #[.val (.int (2 : Int32)), .val (.int ch0), .val (.int ch1), .val (.int ch2), .val (.int ch3), .unset] [(.int (2 : Int32)), (.int (2 : Int32))]))
  refine own_go (fun _ q => XS.icmpNo X0.here hx rfl (hb hby d2_27) rfl (teq (by decide : (2 : Int32) = (2 : Int32))).2 q) ?_
  refine own_go (fun _ q => XS.iconst X0.here hx rfl (hb hby d2_30) q) ?_
  show own_Fin _ _ _ _ (s₁.setTop (mkF m 31 #[.val (.int (2 : Int32)), .val (.int ch0), .val (.int ch1), .val (.int ch2), .val (.int ch3), .unset] [(.int (2 : Int32))]))
  obtain ⟨T296, h296, k296, X296, e296, E296, A296, st296⟩ := newP X0 hx hZ (own_w hw 12 rfl) e0 (g := (mkF m 31 #[.val (.int (2 : Int32)), .val (.int ch0), .val (.int ch1), .val (.int ch2), .val (.int ch3), .unset] [(.int (2 : Int32))])) rfl (hb hby d2_31) rfl (by decide) (cap := 2) (by decide) (by decide) (by decide) (by decide)
  obtain ⟨b296, g296⟩ : ∃ z, z = h0.size := ⟨_, rfl⟩
  rw [← g296] at A296 st296
  have sz_b296 : h0.size ≤ b296 := Nat.le_trans K0.1 (Nat.le_of_eq g296.symm)
  have g_b296 : n0 ≤ b296 := Nat.le_trans Z0 sz_b296
  have S_b296 := Safe.new (Z := Z) (EL := consts_1) (vm := s.vm) (Nat.le_of_eq g296.symm)
  replace S_b296 := Safe.ext E296 CH S_b296
  replace CR := CR.trans (CHr.ext E296 CH)
  replace CH := CH.ext E296
  replace hk := Nat.le_trans hk E296.1
  replace O0 := O0.ext E296
  have K297 := K0.ext E296
  have V296 : Arv Z h296 b296 k296 .char (2 : Int32) [(.int (0 : Int32)), (.int (0 : Int32))] (.int (0 : Int32)) := (Arv.new A296 (by decide)).pad (pad_rep [] (.int (0 : Int32)) 2)
  refine own_go st296 ?_
  refine own_go (fun _ q => XS.astore X296.here hx rfl (hb hby d2_33) rfl rfl (l' := #[.val (.int (2 : Int32)), .val (.int ch0), .val (.int ch1), .val (.int ch2), .val (.int ch3), .val (.ref b296)]) rfl q) ?_
  refine own_go (fun _ q => XS.aload X296.here hx rfl (hb hby d2_35) rfl rfl q) ?_
  refine own_go (fun _ q => XS.iconst X296.here hx rfl (hb hby d2_37) q) ?_
  refine own_go (fun _ q => XS.iloadN X296.here hx rfl (hb hby d2_38) rfl q) ?_
  show own_Fin _ _ _ _ (T296.setTop (mkF m 39 #[.val (.int (2 : Int32)), .val (.int ch0), .val (.int ch1), .val (.int ch2), .val (.int ch3), .val (.ref b296)] [(.int ch0), (.int (0 : Int32)), (.ref b296)]))
  obtain ⟨T298, h298, X298, e298, W298, V298, st298⟩ := own_stC X296 hx hZ e296 V296 (by decide) (i := 0) rfl (Nat.le_of_ble_eq_true rfl) (g := (mkF m 39 #[.val (.int (2 : Int32)), .val (.int ch0), .val (.int ch1), .val (.int ch2), .val (.int ch3), .val (.ref b296)] [(.int ch0), (.int (0 : Int32)), (.ref b296)])) rfl rfl (hb hby d2_39)
  rw [own_narch (hb4 _ (own_m 0 rfl))] at V298
  replace V296 : Arv Z h298 b296 k296 .char (2 : Int32) [(.int ch0), (.int (0 : Int32))] (.int (0 : Int32)) := V298
  have N298 := Fr.snoc X298 N0 g_b296
  refine own_go st298 ?_
  have sa299 := S_b296
  replace S_b296 := Safe.wr W298 sa299 CH S_b296
  replace CR := CR.trans (CHr.wr W298 sa299 CH)
  replace CH := CHv.wr W298 sa299 CH
  replace hk := Nat.le_trans hk (Keep.of_wr W298).1
  replace O0 := O0.wr W298 g_b296
  have K300 := K297.wr W298 (Or.inr sz_b296)
  refine own_go (fun _ q => XS.aload X298.here hx rfl (hb hby d2_40) rfl rfl q) ?_
  refine own_go (fun _ q => XS.iconst X298.here hx rfl (hb hby d2_42) q) ?_
  refine own_go (fun _ q => XS.iloadN X298.here hx rfl (hb hby d2_43) rfl q) ?_
  show own_Fin _ _ _ _ (T298.setTop (mkF m 44 #[.val (.int (2 : Int32)), .val (.int ch0), .val (.int ch1), .val (.int ch2), .val (.int ch3), .val (.ref b296)] [(.int ch1), (.int (1 : Int32)), (.ref b296)]))
  obtain ⟨T301, h301, X301, e301, W301, V301, st301⟩ := own_stC X298 hx hZ e298 V296 (by decide) (i := 1) rfl (Nat.le_of_ble_eq_true rfl) (g := (mkF m 44 #[.val (.int (2 : Int32)), .val (.int ch0), .val (.int ch1), .val (.int ch2), .val (.int ch3), .val (.ref b296)] [(.int ch1), (.int (1 : Int32)), (.ref b296)])) rfl rfl (hb hby d2_44)
  rw [own_narch (hb4 _ (own_m 1 rfl))] at V301
  replace V296 : Arv Z h301 b296 k296 .char (2 : Int32) [(.int ch0), (.int ch1)] (.int (0 : Int32)) := V301
  have N301 := Fr.snoc X301 N298 g_b296
  refine own_go st301 ?_
  have sa302 := S_b296
  replace S_b296 := Safe.wr W301 sa302 CH S_b296
  replace CR := CR.trans (CHr.wr W301 sa302 CH)
  replace CH := CHv.wr W301 sa302 CH
  replace hk := Nat.le_trans hk (Keep.of_wr W301).1
  replace O0 := O0.wr W301 g_b296
  have K303 := K300.wr W301 (Or.inr sz_b296)
  show own_Fin _ _ _ _ (T301.setTop (mkF m 45 #[.val (.int (2 : Int32)), .val (.int ch0), .val (.int ch1), .val (.int ch2), .val (.int ch3), .val (.ref b296)] []))
  obtain ⟨T304, h304, X304, e304, E304, A304, D304, -, st304⟩ := newO X301 hx hZ hown (own_w hw 9 rfl) (own_w hw 10 rfl) (own_w hw 11 rfl) e301 (g := (mkF m 45 #[.val (.int (2 : Int32)), .val (.int ch0), .val (.int ch1), .val (.int ch2), .val (.int ch3), .val (.ref b296)] [])) rfl (hb hby d2_45) (by decide) (by decide)
  obtain ⟨b304, g304⟩ : ∃ z, z = h301.size := ⟨_, rfl⟩
  rw [← g304] at A304 D304 st304
  have sz_b304 : h0.size ≤ b304 := Nat.le_trans K303.1 (Nat.le_of_eq g304.symm)
  have g_b304 : n0 ≤ b304 := Nat.le_trans Z0 sz_b304
  have ne305 : b296 ≠ b304 := Nat.ne_of_lt (Nat.lt_of_lt_of_le V296.lt (Nat.le_of_eq g304.symm))
  have S_b304 := Safe.new (Z := Z) (EL := consts_1) (vm := s.vm) (Nat.le_of_eq g304.symm)
  replace S_b296 := Safe.ext E304 CH S_b296
  replace S_b304 := Safe.ext E304 CH S_b304
  replace CR := CR.trans (CHr.ext E304 CH)
  replace CH := CH.ext E304
  replace hk := Nat.le_trans hk E304.1
  replace O0 := O0.ext E304
  replace V296 := V296.ext E304
  have K306 := K303.ext E304
  have F304_value : Fld Z h304 b304 "java/lang/String" "value" "[B" .null := D304 (Or.inr (own_w hw 25 rfl)) (ty := (.array .byte)) (by decide)
  have F304_coder : Fld Z h304 b304 "java/lang/String" "coder" "B" (.int (0 : Int32)) := D304 (Or.inr (own_w hw 26 rfl)) (ty := .byte) (by decide)
  refine own_go st304 ?_
  refine own_go (fun _ q => XS.dup X304.here hx rfl (hb hby d2_48) rfl rfl q) ?_
  refine own_go (fun _ q => XS.aload X304.here hx rfl (hb hby d2_49) rfl rfl q) ?_
  show own_Fin _ _ _ _ (T304.setTop (mkF m 51 #[.val (.int (2 : Int32)), .val (.int ch0), .val (.int ch1), .val (.int ch2), .val (.int ch3), .val (.ref b296)] [(.ref b296), (.ref b304), (.ref b304)]))
  obtain ⟨_, _, ⟨T307, L307, k307, n307⟩, -, X307, ⟨Lc307, hQ307, l307, y307, z307⟩, st307⟩ := X304.specialBack hx (y := (⟨"java/lang/String", "<init>", "([C)V"⟩ : MethodName)) rfl hown (mvT hZ (own_w hw 13 rfl)) (mvT hZ (own_w hw 14 rfl)) (mvT hZ (own_w hw 15 rfl)) (by decide) (backOf (W := 1) (rm_i1_2 l Z a0 hw [] b304 b296 k296 ch0 ch1 gc h304 n0 (Nat.le_trans Z0 K306.1) A304 F304_value F304_coder g_b304 V296 (own_take 2 hb4) ne305 S_C hcs O0 S_A S_H S_L) hZ (own_w hw 15 rfl) (own_w hw 11 rfl) (by decide) (by decide)) (g := (mkF m 51 #[.val (.int (2 : Int32)), .val (.int ch0), .val (.int ch1), .val (.int ch2), .val (.int ch3), .val (.ref b296)] [(.ref b296), (.ref b304), (.ref b304)])) rfl (by rw [hml]; rfl) (Steps.refl _) (a := b304) (argsL := [(.ref b296)]) (rest := [(.ref b304)]) (lenOf pd_26 rfl) rfl (by show 2 * 0 + _ ≤ _; exact Nat.le_of_eq rfl) (hb hby d2_51) (fun _ _ => ⟨rfl, e304, (by decide : 2 + 2 ≤ _), (by decide : 6 + 6 ≤ _)⟩)
  dsimp only [Pt.U, Pt.locs, Pt.cells, Pt.slots] at X307 l307 y307 z307 st307 hQ307
  subst l307 y307 z307
  obtain ⟨t307, rfl, N307q, KK307, szt307, SS307⟩ := hQ307
  have N307 := Fr.app N301 N307q
  have sz_t307 : h0.size ≤ t307 := Nat.le_trans K306.1 szt307
  have g_t307 : n0 ≤ t307 := Nat.le_trans Z0 sz_t307
  have ne308 : b296 ≠ t307 := Nat.ne_of_lt (Nat.lt_of_lt_of_le V296.lt szt307)
  have ne309 : b304 ≠ t307 := Nat.ne_of_lt (Nat.lt_of_lt_of_le A304.lt szt307)
  have S_t307 := Safe.new (Z := Z) (EL := consts_1) (vm := s.vm) szt307
  have hs310 : ∀ x ∈ [b304], Safe Z consts_1 s.vm h304 x := (sfS S_b304 sf0)
  replace S_b296 := Safe.keep KK307 hs310 CH S_b296
  replace S_b304 := Safe.keep KK307 hs310 CH S_b304
  replace S_t307 := Safe.keep KK307 hs310 CH S_t307
  replace CR := CR.trans (CHr.keep KK307 hs310 CH)
  replace CH := CHv.keep KK307 hs310 CH
  replace hk := Nat.le_trans hk KK307.1
  replace O0 := O0.keep KK307 (allS g_b304 (all0))
  replace V296 := V296.keep KK307 (ninS ne305 nin0)
  replace A304 := A304.keep KK307
  have K311 := K306.trans KK307 (allS (Or.inr sz_b304) all0)
  refine own_go (fun _ q => st307.trans q) ?_
  show own_Fin _ _ _ _ (T307.setTop (mkF m 54 #[.val (.int (2 : Int32)), .val (.int ch0), .val (.int ch1), .val (.int ch2), .val (.int ch3), .val (.ref b296)] [(.ref b304)]))
  have CRz : CHr Z consts_1 s.vm s.heap T307.vm T307.heap := by
    rw [hh]
    exact CR.trans (CHv.at X307 hZ hEL CH)
  refine own_retW X307 hx Bd hS hk (t := (.object "java/lang/String")) Bd.returns rfl (Or.inr (Or.inr (Or.inr (Or.inr ⟨rfl, rfl, rfl⟩)))) (hb hby d2_54) CRz ?_ (by decide) (by decide)
  show (Q_rm_tx2 Z ch0 ch1 ch2 ch3 gc h0 n0) (some (.ref b304)) T307.heap _
  exact ⟨_, _, rfl, N307, K311, SS307⟩
def Q_rm_tx3 (Z : State) (ch0 : Int32) (ch1 : Int32) (ch2 : Int32) (ch3 : Int32) (gc : Int32) (h0 : Heap) (n0 : Nat) (v : Option Value) (h : Heap) (L : List Loc) : Prop := ∃ x t, v = some (.ref x) ∧ Fr n0 L ∧ Keep h0 h [] ∧ own_Str Z h x t ([ch0, ch1, ch2] : List Int32)
theorem ef_rm_tx3 (m : MethodId) (ch0 : Int32) (ch1 : Int32) (ch2 : Int32) (ch3 : Int32) (gc : Int32) : entryFrame m #[(.int (3 : Int32)), (.int ch0), (.int ch1), (.int ch2), (.int ch3)] 6 = mkF m 0 #[.val (.int (3 : Int32)), .val (.int ch0), .val (.int ch1), .val (.int ch2), .val (.int ch3), .unset] [] := by first | (simp [entryFrame, mkF, argsToLocals, Value.category]; done) | rfl
set_option maxRecDepth 65536 in
set_option maxHeartbeats 40000000 in
theorem rm_tx3 (l : Launch) (Z : State) (a0 : Array Value) (hw : ∀ d ∈ tables_1, d.before a0 Z = true) (ws : List Jvm.Cond) (hEL : EW Z a0 consts_1) (ch0 : Int32) (ch1 : Int32) (ch2 : Int32) (ch3 : Int32) (gc : Int32) (h0 : Heap) (n0 : Nat) (Z0 : n0 ≤ h0.size) (hb4 : ∀ c ∈ ([ch0, ch1, ch2, ch3] : List Int32), ¬ c < 0 ∧ ¬ (65535 : Int32) < c) (S_C : Sta Z Z.heap "java/lang/String" "COMPACT_STRINGS" "Z" (.int gc)) (hcs : ¬ gc = 0) (O0 : Old Z n0 h0) (S_A : Sta Z Z.heap "java/lang/StringUTF16" "$assertionsDisabled" "Z" (.int (1 : Int32))) (S_H : Sta Z Z.heap "java/lang/StringUTF16" "HI_BYTE_SHIFT" "I" (.int (0 : Int32))) (S_L : Sta Z Z.heap "java/lang/StringUTF16" "LO_BYTE_SHIFT" "I" (.int (8 : Int32))) :
    MetFree l (⟨"com/example/hebelwerk/hebelwerk/model/PublishedFolderIsIdPinLaw", "text", "(ICCCC)Ljava/lang/String;"⟩ : MethodName) (head1 (Jvm.Cond.code (⟨"com/example/hebelwerk/hebelwerk/model/PublishedFolderIsIdPinLaw", "text", "(ICCCC)Ljava/lang/String;"⟩ : MethodName) method_5_code 6 (some (.object "java/lang/String")) :: ws) ({ frames := 6, cells := 6, slots := 20, locals := 88 } : Room)) (fun a_ U_ => a_ = #[(.int (3 : Int32)), (.int ch0), (.int ch1), (.int ch2), (.int ch3)] ∧ Z.Warmed39 U_.vm ∧ U_.heap = h0 ∧ CHv Z consts_1 U_.vm h0) (fun _ _ _ _ _ => True) (fun _ U_ o_ V_ => ∃ v_ L_, o_ = .returned v_ ∧ (Q_rm_tx3 Z ch0 ch1 ch2 ch3 gc h0 n0) v_ V_.heap L_ ∧ CHr Z consts_1 U_.vm U_.heap V_.vm V_.heap ∧ ReturnedEndW U_ o_ V_ L_ ({ frames := 6, cells := 6, slots := 20, locals := 88 } : Room).cells ({ frames := 6, cells := 6, slots := 20, locals := 88 } : Room).slots) := by
  refine MetFree.of_bodySF (plainFor_of_name pn_25) hisR ?_
  intro p e s m args below meth c s₁ Bd hml0 hP hK
  obtain ⟨rfl, hZ, hh, CH⟩ := hP
  have hx := Bd.exec
  have hby := Bd.bytes
  have hml : c.maxLocals = 6 := hml0
  have hown : s.vm.findClass "com/example/hebelwerk/hebelwerk/model/PublishedFolderIsIdPinLaw" = some m.cls := findClass_of_methodNamed Bd.named
  have hnm := (name_of_methodNamed Bd.named Bd.method).1
  have wS : ∀ a ∈ Bundle.stringAtoms, a.before a0 Z = true := fun d hd => hw d ((by decide +kernel : ∀ d ∈ Bundle.stringAtoms, d ∈ tables_1) d hd)
  have X0 : Stand p l e ({ frames := 6, cells := 6, slots := 20, locals := 88 } : Room) (s.setVm s.vm) m #[(.int (3 : Int32)), (.int ch0), (.int ch1), (.int ch2), (.int ch3)] below meth c s₁ [] 0 0 := Stand.of_body Bd
  have e0 : s₁.heap = h0 := by rw [← hh, Bd.state]; rfl
  have N0 := Fr.nil n0
  have K0 : Keep h0 h0 [] := Keep.refl _ _
  replace hZ : Z.Warmed39 (s.setVm s.vm).vm := hZ
  replace hown : (s.setVm s.vm).vm.findClass "com/example/hebelwerk/hebelwerk/model/PublishedFolderIsIdPinLaw" = some m.cls := hown
  have hS : s.Since s.vm h0.size := (State.WarmedH.refl s).since _
  have hk : h0.size ≤ h0.size := Nat.le_refl _
  have CR : CHr Z consts_1 s.vm h0 s.vm h0 := CHr.refl CH
  show own_Fin p.tables e below (own_PostW Z consts_1 (Q_rm_tx3 Z ch0 ch1 ch2 ch3 gc h0 n0) ({ frames := 6, cells := 6, slots := 20, locals := 88 } : Room).cells ({ frames := 6, cells := 6, slots := 20, locals := 88 } : Room).slots below s) _
  refine own_go (fun _ q => castTop (ef_rm_tx3 m ch0 ch1 ch2 ch3 gc) q) ?_
  refine own_go (fun _ q => XS.iloadN X0.here hx rfl (hb hby d2_0) rfl q) ?_
  show own_Fin _ _ _ _ (s₁.setTop (mkF m 1 #[.val (.int (3 : Int32)), .val (.int ch0), .val (.int ch1), .val (.int ch2), .val (.int ch3), .unset] [(.int (3 : Int32))]))
  refine own_go (fun _ q => XS.ifYes X0.here hx rfl (pc0 := 1) (pc' := 15) rfl (hb hby d2_1) rfl ((if0 _ _).trans (feq (by decide : ¬ (3 : Int32) = (0 : Int32))).2) (by decide) (by decide) q) ?_
  refine own_go (fun _ q => XS.iloadN X0.here hx rfl (hb hby d2_15) rfl q) ?_
  refine own_go (fun _ q => XS.iconst X0.here hx rfl (hb hby d2_16) q) ?_
  show own_Fin _ _ _ _ (s₁.setTop (mkF m 17 #[.val (.int (3 : Int32)), .val (.int ch0), .val (.int ch1), .val (.int ch2), .val (.int ch3), .unset] [(.int (1 : Int32)), (.int (3 : Int32))]))
  refine own_go (fun _ q => XS.icmpYes X0.here hx rfl (pc0 := 17) (pc' := 25) rfl (hb hby d2_17) rfl (feq (by decide : ¬ (3 : Int32) = (1 : Int32))).2 (by decide) (by decide) q) ?_
  refine own_go (fun _ q => XS.iloadN X0.here hx rfl (hb hby d2_25) rfl q) ?_
  refine own_go (fun _ q => XS.iconst X0.here hx rfl (hb hby d2_26) q) ?_
  show own_Fin _ _ _ _ (s₁.setTop (mkF m 27 #[.val (.int (3 : Int32)), .val (.int ch0), .val (.int ch1), .val (.int ch2), .val (.int ch3), .unset] [(.int (2 : Int32)), (.int (3 : Int32))]))
  refine own_go (fun _ q => XS.icmpYes X0.here hx rfl (pc0 := 27) (pc' := 55) rfl (hb hby d2_27) rfl (feq (by decide : ¬ (3 : Int32) = (2 : Int32))).2 (by decide) (by decide) q) ?_
  refine own_go (fun _ q => XS.iloadN X0.here hx rfl (hb hby d2_55) rfl q) ?_
  refine own_go (fun _ q => XS.iconst X0.here hx rfl (hb hby d2_56) q) ?_
  show own_Fin _ _ _ _ (s₁.setTop (mkF m 57 #[.val (.int (3 : Int32)), .val (.int ch0), .val (.int ch1), .val (.int ch2), .val (.int ch3), .unset] [(.int (3 : Int32)), (.int (3 : Int32))]))
  refine own_go (fun _ q => XS.icmpNo X0.here hx rfl (hb hby d2_57) rfl (teq (by decide : (3 : Int32) = (3 : Int32))).2 q) ?_
  refine own_go (fun _ q => XS.iconst X0.here hx rfl (hb hby d2_60) q) ?_
  show own_Fin _ _ _ _ (s₁.setTop (mkF m 61 #[.val (.int (3 : Int32)), .val (.int ch0), .val (.int ch1), .val (.int ch2), .val (.int ch3), .unset] [(.int (3 : Int32))]))
  obtain ⟨T312, h312, k312, X312, e312, E312, A312, st312⟩ := newP X0 hx hZ (own_w hw 12 rfl) e0 (g := (mkF m 61 #[.val (.int (3 : Int32)), .val (.int ch0), .val (.int ch1), .val (.int ch2), .val (.int ch3), .unset] [(.int (3 : Int32))])) rfl (hb hby d2_61) rfl (by decide) (cap := 3) (by decide) (by decide) (by decide) (by decide)
  obtain ⟨b312, g312⟩ : ∃ z, z = h0.size := ⟨_, rfl⟩
  rw [← g312] at A312 st312
  have sz_b312 : h0.size ≤ b312 := Nat.le_trans K0.1 (Nat.le_of_eq g312.symm)
  have g_b312 : n0 ≤ b312 := Nat.le_trans Z0 sz_b312
  have S_b312 := Safe.new (Z := Z) (EL := consts_1) (vm := s.vm) (Nat.le_of_eq g312.symm)
  replace S_b312 := Safe.ext E312 CH S_b312
  replace CR := CR.trans (CHr.ext E312 CH)
  replace CH := CH.ext E312
  replace hk := Nat.le_trans hk E312.1
  replace O0 := O0.ext E312
  have K313 := K0.ext E312
  have V312 : Arv Z h312 b312 k312 .char (3 : Int32) [(.int (0 : Int32)), (.int (0 : Int32)), (.int (0 : Int32))] (.int (0 : Int32)) := (Arv.new A312 (by decide)).pad (pad_rep [] (.int (0 : Int32)) 3)
  refine own_go st312 ?_
  refine own_go (fun _ q => XS.astore X312.here hx rfl (hb hby d2_63) rfl rfl (l' := #[.val (.int (3 : Int32)), .val (.int ch0), .val (.int ch1), .val (.int ch2), .val (.int ch3), .val (.ref b312)]) rfl q) ?_
  refine own_go (fun _ q => XS.aload X312.here hx rfl (hb hby d2_65) rfl rfl q) ?_
  refine own_go (fun _ q => XS.iconst X312.here hx rfl (hb hby d2_67) q) ?_
  refine own_go (fun _ q => XS.iloadN X312.here hx rfl (hb hby d2_68) rfl q) ?_
  show own_Fin _ _ _ _ (T312.setTop (mkF m 69 #[.val (.int (3 : Int32)), .val (.int ch0), .val (.int ch1), .val (.int ch2), .val (.int ch3), .val (.ref b312)] [(.int ch0), (.int (0 : Int32)), (.ref b312)]))
  obtain ⟨T314, h314, X314, e314, W314, V314, st314⟩ := own_stC X312 hx hZ e312 V312 (by decide) (i := 0) rfl (Nat.le_of_ble_eq_true rfl) (g := (mkF m 69 #[.val (.int (3 : Int32)), .val (.int ch0), .val (.int ch1), .val (.int ch2), .val (.int ch3), .val (.ref b312)] [(.int ch0), (.int (0 : Int32)), (.ref b312)])) rfl rfl (hb hby d2_69)
  rw [own_narch (hb4 _ (own_m 0 rfl))] at V314
  replace V312 : Arv Z h314 b312 k312 .char (3 : Int32) [(.int ch0), (.int (0 : Int32)), (.int (0 : Int32))] (.int (0 : Int32)) := V314
  have N314 := Fr.snoc X314 N0 g_b312
  refine own_go st314 ?_
  have sa315 := S_b312
  replace S_b312 := Safe.wr W314 sa315 CH S_b312
  replace CR := CR.trans (CHr.wr W314 sa315 CH)
  replace CH := CHv.wr W314 sa315 CH
  replace hk := Nat.le_trans hk (Keep.of_wr W314).1
  replace O0 := O0.wr W314 g_b312
  have K316 := K313.wr W314 (Or.inr sz_b312)
  refine own_go (fun _ q => XS.aload X314.here hx rfl (hb hby d2_70) rfl rfl q) ?_
  refine own_go (fun _ q => XS.iconst X314.here hx rfl (hb hby d2_72) q) ?_
  refine own_go (fun _ q => XS.iloadN X314.here hx rfl (hb hby d2_73) rfl q) ?_
  show own_Fin _ _ _ _ (T314.setTop (mkF m 74 #[.val (.int (3 : Int32)), .val (.int ch0), .val (.int ch1), .val (.int ch2), .val (.int ch3), .val (.ref b312)] [(.int ch1), (.int (1 : Int32)), (.ref b312)]))
  obtain ⟨T317, h317, X317, e317, W317, V317, st317⟩ := own_stC X314 hx hZ e314 V312 (by decide) (i := 1) rfl (Nat.le_of_ble_eq_true rfl) (g := (mkF m 74 #[.val (.int (3 : Int32)), .val (.int ch0), .val (.int ch1), .val (.int ch2), .val (.int ch3), .val (.ref b312)] [(.int ch1), (.int (1 : Int32)), (.ref b312)])) rfl rfl (hb hby d2_74)
  rw [own_narch (hb4 _ (own_m 1 rfl))] at V317
  replace V312 : Arv Z h317 b312 k312 .char (3 : Int32) [(.int ch0), (.int ch1), (.int (0 : Int32))] (.int (0 : Int32)) := V317
  have N317 := Fr.snoc X317 N314 g_b312
  refine own_go st317 ?_
  have sa318 := S_b312
  replace S_b312 := Safe.wr W317 sa318 CH S_b312
  replace CR := CR.trans (CHr.wr W317 sa318 CH)
  replace CH := CHv.wr W317 sa318 CH
  replace hk := Nat.le_trans hk (Keep.of_wr W317).1
  replace O0 := O0.wr W317 g_b312
  have K319 := K316.wr W317 (Or.inr sz_b312)
  refine own_go (fun _ q => XS.aload X317.here hx rfl (hb hby d2_75) rfl rfl q) ?_
  refine own_go (fun _ q => XS.iconst X317.here hx rfl (hb hby d2_77) q) ?_
  refine own_go (fun _ q => XS.iloadN X317.here hx rfl (hb hby d2_78) rfl q) ?_
  show own_Fin _ _ _ _ (T317.setTop (mkF m 79 #[.val (.int (3 : Int32)), .val (.int ch0), .val (.int ch1), .val (.int ch2), .val (.int ch3), .val (.ref b312)] [(.int ch2), (.int (2 : Int32)), (.ref b312)]))
  obtain ⟨T320, h320, X320, e320, W320, V320, st320⟩ := own_stC X317 hx hZ e317 V312 (by decide) (i := 2) rfl (Nat.le_of_ble_eq_true rfl) (g := (mkF m 79 #[.val (.int (3 : Int32)), .val (.int ch0), .val (.int ch1), .val (.int ch2), .val (.int ch3), .val (.ref b312)] [(.int ch2), (.int (2 : Int32)), (.ref b312)])) rfl rfl (hb hby d2_79)
  rw [own_narch (hb4 _ (own_m 2 rfl))] at V320
  replace V312 : Arv Z h320 b312 k312 .char (3 : Int32) [(.int ch0), (.int ch1), (.int ch2)] (.int (0 : Int32)) := V320
  have N320 := Fr.snoc X320 N317 g_b312
  refine own_go st320 ?_
  have sa321 := S_b312
  replace S_b312 := Safe.wr W320 sa321 CH S_b312
  replace CR := CR.trans (CHr.wr W320 sa321 CH)
  replace CH := CHv.wr W320 sa321 CH
  replace hk := Nat.le_trans hk (Keep.of_wr W320).1
  replace O0 := O0.wr W320 g_b312
  have K322 := K319.wr W320 (Or.inr sz_b312)
  show own_Fin _ _ _ _ (T320.setTop (mkF m 80 #[.val (.int (3 : Int32)), .val (.int ch0), .val (.int ch1), .val (.int ch2), .val (.int ch3), .val (.ref b312)] []))
  obtain ⟨T323, h323, X323, e323, E323, A323, D323, -, st323⟩ := newO X320 hx hZ hown (own_w hw 9 rfl) (own_w hw 10 rfl) (own_w hw 11 rfl) e320 (g := (mkF m 80 #[.val (.int (3 : Int32)), .val (.int ch0), .val (.int ch1), .val (.int ch2), .val (.int ch3), .val (.ref b312)] [])) rfl (hb hby d2_80) (by decide) (by decide)
  obtain ⟨b323, g323⟩ : ∃ z, z = h320.size := ⟨_, rfl⟩
  rw [← g323] at A323 D323 st323
  have sz_b323 : h0.size ≤ b323 := Nat.le_trans K322.1 (Nat.le_of_eq g323.symm)
  have g_b323 : n0 ≤ b323 := Nat.le_trans Z0 sz_b323
  have ne324 : b312 ≠ b323 := Nat.ne_of_lt (Nat.lt_of_lt_of_le V312.lt (Nat.le_of_eq g323.symm))
  have S_b323 := Safe.new (Z := Z) (EL := consts_1) (vm := s.vm) (Nat.le_of_eq g323.symm)
  replace S_b312 := Safe.ext E323 CH S_b312
  replace S_b323 := Safe.ext E323 CH S_b323
  replace CR := CR.trans (CHr.ext E323 CH)
  replace CH := CH.ext E323
  replace hk := Nat.le_trans hk E323.1
  replace O0 := O0.ext E323
  replace V312 := V312.ext E323
  have K325 := K322.ext E323
  have F323_value : Fld Z h323 b323 "java/lang/String" "value" "[B" .null := D323 (Or.inr (own_w hw 25 rfl)) (ty := (.array .byte)) (by decide)
  have F323_coder : Fld Z h323 b323 "java/lang/String" "coder" "B" (.int (0 : Int32)) := D323 (Or.inr (own_w hw 26 rfl)) (ty := .byte) (by decide)
  refine own_go st323 ?_
  refine own_go (fun _ q => XS.dup X323.here hx rfl (hb hby d2_83) rfl rfl q) ?_
  refine own_go (fun _ q => XS.aload X323.here hx rfl (hb hby d2_84) rfl rfl q) ?_
  show own_Fin _ _ _ _ (T323.setTop (mkF m 86 #[.val (.int (3 : Int32)), .val (.int ch0), .val (.int ch1), .val (.int ch2), .val (.int ch3), .val (.ref b312)] [(.ref b312), (.ref b323), (.ref b323)]))
  obtain ⟨_, _, ⟨T326, L326, k326, n326⟩, -, X326, ⟨Lc326, hQ326, l326, y326, z326⟩, st326⟩ := X323.specialBack hx (y := (⟨"java/lang/String", "<init>", "([C)V"⟩ : MethodName)) rfl hown (mvT hZ (own_w hw 13 rfl)) (mvT hZ (own_w hw 14 rfl)) (mvT hZ (own_w hw 15 rfl)) (by decide) (backOf (W := 1) (rm_i1_3 l Z a0 hw [] b323 b312 k312 ch0 ch1 ch2 gc h323 n0 (Nat.le_trans Z0 K325.1) A323 F323_value F323_coder g_b323 V312 (own_take 3 hb4) ne324 S_C hcs O0 S_A S_H S_L) hZ (own_w hw 15 rfl) (own_w hw 11 rfl) (by decide) (by decide)) (g := (mkF m 86 #[.val (.int (3 : Int32)), .val (.int ch0), .val (.int ch1), .val (.int ch2), .val (.int ch3), .val (.ref b312)] [(.ref b312), (.ref b323), (.ref b323)])) rfl (by rw [hml]; rfl) (Steps.refl _) (a := b323) (argsL := [(.ref b312)]) (rest := [(.ref b323)]) (lenOf pd_26 rfl) rfl (by show 2 * 0 + _ ≤ _; exact Nat.le_of_eq rfl) (hb hby d2_86) (fun _ _ => ⟨rfl, e323, (by decide : 2 + 2 ≤ _), (by decide : 7 + 9 ≤ _)⟩)
  dsimp only [Pt.U, Pt.locs, Pt.cells, Pt.slots] at X326 l326 y326 z326 st326 hQ326
  subst l326 y326 z326
  obtain ⟨t326, rfl, N326q, KK326, szt326, SS326⟩ := hQ326
  have N326 := Fr.app N320 N326q
  have sz_t326 : h0.size ≤ t326 := Nat.le_trans K325.1 szt326
  have g_t326 : n0 ≤ t326 := Nat.le_trans Z0 sz_t326
  have ne327 : b312 ≠ t326 := Nat.ne_of_lt (Nat.lt_of_lt_of_le V312.lt szt326)
  have ne328 : b323 ≠ t326 := Nat.ne_of_lt (Nat.lt_of_lt_of_le A323.lt szt326)
  have S_t326 := Safe.new (Z := Z) (EL := consts_1) (vm := s.vm) szt326
  have hs329 : ∀ x ∈ [b323], Safe Z consts_1 s.vm h323 x := (sfS S_b323 sf0)
  replace S_b312 := Safe.keep KK326 hs329 CH S_b312
  replace S_b323 := Safe.keep KK326 hs329 CH S_b323
  replace S_t326 := Safe.keep KK326 hs329 CH S_t326
  replace CR := CR.trans (CHr.keep KK326 hs329 CH)
  replace CH := CHv.keep KK326 hs329 CH
  replace hk := Nat.le_trans hk KK326.1
  replace O0 := O0.keep KK326 (allS g_b323 (all0))
  replace V312 := V312.keep KK326 (ninS ne324 nin0)
  replace A323 := A323.keep KK326
  have K330 := K325.trans KK326 (allS (Or.inr sz_b323) all0)
  refine own_go (fun _ q => st326.trans q) ?_
  show own_Fin _ _ _ _ (T326.setTop (mkF m 89 #[.val (.int (3 : Int32)), .val (.int ch0), .val (.int ch1), .val (.int ch2), .val (.int ch3), .val (.ref b312)] [(.ref b323)]))
  have CRz : CHr Z consts_1 s.vm s.heap T326.vm T326.heap := by
    rw [hh]
    exact CR.trans (CHv.at X326 hZ hEL CH)
  refine own_retW X326 hx Bd hS hk (t := (.object "java/lang/String")) Bd.returns rfl (Or.inr (Or.inr (Or.inr (Or.inr ⟨rfl, rfl, rfl⟩)))) (hb hby d2_89) CRz ?_ (by decide) (by decide)
  show (Q_rm_tx3 Z ch0 ch1 ch2 ch3 gc h0 n0) (some (.ref b323)) T326.heap _
  exact ⟨_, _, rfl, N326, K330, SS326⟩
def Q_rm_tx4 (Z : State) (ch0 : Int32) (ch1 : Int32) (ch2 : Int32) (ch3 : Int32) (gc : Int32) (h0 : Heap) (n0 : Nat) (v : Option Value) (h : Heap) (L : List Loc) : Prop := ∃ x t, v = some (.ref x) ∧ Fr n0 L ∧ Keep h0 h [] ∧ own_Str Z h x t ([ch0, ch1, ch2, ch3] : List Int32)
theorem ef_rm_tx4 (m : MethodId) (ch0 : Int32) (ch1 : Int32) (ch2 : Int32) (ch3 : Int32) (gc : Int32) : entryFrame m #[(.int (4 : Int32)), (.int ch0), (.int ch1), (.int ch2), (.int ch3)] 6 = mkF m 0 #[.val (.int (4 : Int32)), .val (.int ch0), .val (.int ch1), .val (.int ch2), .val (.int ch3), .unset] [] := by first | (simp [entryFrame, mkF, argsToLocals, Value.category]; done) | rfl
set_option maxRecDepth 65536 in
set_option maxHeartbeats 40000000 in
theorem rm_tx4 (l : Launch) (Z : State) (a0 : Array Value) (hw : ∀ d ∈ tables_1, d.before a0 Z = true) (ws : List Jvm.Cond) (hEL : EW Z a0 consts_1) (ch0 : Int32) (ch1 : Int32) (ch2 : Int32) (ch3 : Int32) (gc : Int32) (h0 : Heap) (n0 : Nat) (Z0 : n0 ≤ h0.size) (hb4 : ∀ c ∈ ([ch0, ch1, ch2, ch3] : List Int32), ¬ c < 0 ∧ ¬ (65535 : Int32) < c) (S_C : Sta Z Z.heap "java/lang/String" "COMPACT_STRINGS" "Z" (.int gc)) (hcs : ¬ gc = 0) (O0 : Old Z n0 h0) (S_A : Sta Z Z.heap "java/lang/StringUTF16" "$assertionsDisabled" "Z" (.int (1 : Int32))) (S_H : Sta Z Z.heap "java/lang/StringUTF16" "HI_BYTE_SHIFT" "I" (.int (0 : Int32))) (S_L : Sta Z Z.heap "java/lang/StringUTF16" "LO_BYTE_SHIFT" "I" (.int (8 : Int32))) :
    MetFree l (⟨"com/example/hebelwerk/hebelwerk/model/PublishedFolderIsIdPinLaw", "text", "(ICCCC)Ljava/lang/String;"⟩ : MethodName) (head1 (Jvm.Cond.code (⟨"com/example/hebelwerk/hebelwerk/model/PublishedFolderIsIdPinLaw", "text", "(ICCCC)Ljava/lang/String;"⟩ : MethodName) method_5_code 6 (some (.object "java/lang/String")) :: ws) ({ frames := 6, cells := 6, slots := 20, locals := 88 } : Room)) (fun a_ U_ => a_ = #[(.int (4 : Int32)), (.int ch0), (.int ch1), (.int ch2), (.int ch3)] ∧ Z.Warmed39 U_.vm ∧ U_.heap = h0 ∧ CHv Z consts_1 U_.vm h0) (fun _ _ _ _ _ => True) (fun _ U_ o_ V_ => ∃ v_ L_, o_ = .returned v_ ∧ (Q_rm_tx4 Z ch0 ch1 ch2 ch3 gc h0 n0) v_ V_.heap L_ ∧ CHr Z consts_1 U_.vm U_.heap V_.vm V_.heap ∧ ReturnedEndW U_ o_ V_ L_ ({ frames := 6, cells := 6, slots := 20, locals := 88 } : Room).cells ({ frames := 6, cells := 6, slots := 20, locals := 88 } : Room).slots) := by
  refine MetFree.of_bodySF (plainFor_of_name pn_25) hisR ?_
  intro p e s m args below meth c s₁ Bd hml0 hP hK
  obtain ⟨rfl, hZ, hh, CH⟩ := hP
  have hx := Bd.exec
  have hby := Bd.bytes
  have hml : c.maxLocals = 6 := hml0
  have hown : s.vm.findClass "com/example/hebelwerk/hebelwerk/model/PublishedFolderIsIdPinLaw" = some m.cls := findClass_of_methodNamed Bd.named
  have hnm := (name_of_methodNamed Bd.named Bd.method).1
  have wS : ∀ a ∈ Bundle.stringAtoms, a.before a0 Z = true := fun d hd => hw d ((by decide +kernel : ∀ d ∈ Bundle.stringAtoms, d ∈ tables_1) d hd)
  have X0 : Stand p l e ({ frames := 6, cells := 6, slots := 20, locals := 88 } : Room) (s.setVm s.vm) m #[(.int (4 : Int32)), (.int ch0), (.int ch1), (.int ch2), (.int ch3)] below meth c s₁ [] 0 0 := Stand.of_body Bd
  have e0 : s₁.heap = h0 := by rw [← hh, Bd.state]; rfl
  have N0 := Fr.nil n0
  have K0 : Keep h0 h0 [] := Keep.refl _ _
  replace hZ : Z.Warmed39 (s.setVm s.vm).vm := hZ
  replace hown : (s.setVm s.vm).vm.findClass "com/example/hebelwerk/hebelwerk/model/PublishedFolderIsIdPinLaw" = some m.cls := hown
  have hS : s.Since s.vm h0.size := (State.WarmedH.refl s).since _
  have hk : h0.size ≤ h0.size := Nat.le_refl _
  have CR : CHr Z consts_1 s.vm h0 s.vm h0 := CHr.refl CH
  show own_Fin p.tables e below (own_PostW Z consts_1 (Q_rm_tx4 Z ch0 ch1 ch2 ch3 gc h0 n0) ({ frames := 6, cells := 6, slots := 20, locals := 88 } : Room).cells ({ frames := 6, cells := 6, slots := 20, locals := 88 } : Room).slots below s) _
  refine own_go (fun _ q => castTop (ef_rm_tx4 m ch0 ch1 ch2 ch3 gc) q) ?_
  refine own_go (fun _ q => XS.iloadN X0.here hx rfl (hb hby d2_0) rfl q) ?_
  show own_Fin _ _ _ _ (s₁.setTop (mkF m 1 #[.val (.int (4 : Int32)), .val (.int ch0), .val (.int ch1), .val (.int ch2), .val (.int ch3), .unset] [(.int (4 : Int32))]))
  refine own_go (fun _ q => XS.ifYes X0.here hx rfl (pc0 := 1) (pc' := 15) rfl (hb hby d2_1) rfl ((if0 _ _).trans (feq (by decide : ¬ (4 : Int32) = (0 : Int32))).2) (by decide) (by decide) q) ?_
  refine own_go (fun _ q => XS.iloadN X0.here hx rfl (hb hby d2_15) rfl q) ?_
  refine own_go (fun _ q => XS.iconst X0.here hx rfl (hb hby d2_16) q) ?_
  show own_Fin _ _ _ _ (s₁.setTop (mkF m 17 #[.val (.int (4 : Int32)), .val (.int ch0), .val (.int ch1), .val (.int ch2), .val (.int ch3), .unset] [(.int (1 : Int32)), (.int (4 : Int32))]))
  refine own_go (fun _ q => XS.icmpYes X0.here hx rfl (pc0 := 17) (pc' := 25) rfl (hb hby d2_17) rfl (feq (by decide : ¬ (4 : Int32) = (1 : Int32))).2 (by decide) (by decide) q) ?_
  refine own_go (fun _ q => XS.iloadN X0.here hx rfl (hb hby d2_25) rfl q) ?_
  refine own_go (fun _ q => XS.iconst X0.here hx rfl (hb hby d2_26) q) ?_
  show own_Fin _ _ _ _ (s₁.setTop (mkF m 27 #[.val (.int (4 : Int32)), .val (.int ch0), .val (.int ch1), .val (.int ch2), .val (.int ch3), .unset] [(.int (2 : Int32)), (.int (4 : Int32))]))
  refine own_go (fun _ q => XS.icmpYes X0.here hx rfl (pc0 := 27) (pc' := 55) rfl (hb hby d2_27) rfl (feq (by decide : ¬ (4 : Int32) = (2 : Int32))).2 (by decide) (by decide) q) ?_
  refine own_go (fun _ q => XS.iloadN X0.here hx rfl (hb hby d2_55) rfl q) ?_
  refine own_go (fun _ q => XS.iconst X0.here hx rfl (hb hby d2_56) q) ?_
  show own_Fin _ _ _ _ (s₁.setTop (mkF m 57 #[.val (.int (4 : Int32)), .val (.int ch0), .val (.int ch1), .val (.int ch2), .val (.int ch3), .unset] [(.int (3 : Int32)), (.int (4 : Int32))]))
  refine own_go (fun _ q => XS.icmpYes X0.here hx rfl (pc0 := 57) (pc' := 90) rfl (hb hby d2_57) rfl (feq (by decide : ¬ (4 : Int32) = (3 : Int32))).2 (by decide) (by decide) q) ?_
  refine own_go (fun _ q => XS.iconst X0.here hx rfl (hb hby d2_90) q) ?_
  show own_Fin _ _ _ _ (s₁.setTop (mkF m 91 #[.val (.int (4 : Int32)), .val (.int ch0), .val (.int ch1), .val (.int ch2), .val (.int ch3), .unset] [(.int (4 : Int32))]))
  obtain ⟨T331, h331, k331, X331, e331, E331, A331, st331⟩ := newP X0 hx hZ (own_w hw 12 rfl) e0 (g := (mkF m 91 #[.val (.int (4 : Int32)), .val (.int ch0), .val (.int ch1), .val (.int ch2), .val (.int ch3), .unset] [(.int (4 : Int32))])) rfl (hb hby d2_91) rfl (by decide) (cap := 4) (by decide) (by decide) (by decide) (by decide)
  obtain ⟨b331, g331⟩ : ∃ z, z = h0.size := ⟨_, rfl⟩
  rw [← g331] at A331 st331
  have sz_b331 : h0.size ≤ b331 := Nat.le_trans K0.1 (Nat.le_of_eq g331.symm)
  have g_b331 : n0 ≤ b331 := Nat.le_trans Z0 sz_b331
  have S_b331 := Safe.new (Z := Z) (EL := consts_1) (vm := s.vm) (Nat.le_of_eq g331.symm)
  replace S_b331 := Safe.ext E331 CH S_b331
  replace CR := CR.trans (CHr.ext E331 CH)
  replace CH := CH.ext E331
  replace hk := Nat.le_trans hk E331.1
  replace O0 := O0.ext E331
  have K332 := K0.ext E331
  have V331 : Arv Z h331 b331 k331 .char (4 : Int32) [(.int (0 : Int32)), (.int (0 : Int32)), (.int (0 : Int32)), (.int (0 : Int32))] (.int (0 : Int32)) := (Arv.new A331 (by decide)).pad (pad_rep [] (.int (0 : Int32)) 4)
  refine own_go st331 ?_
  refine own_go (fun _ q => XS.astore X331.here hx rfl (hb hby d2_93) rfl rfl (l' := #[.val (.int (4 : Int32)), .val (.int ch0), .val (.int ch1), .val (.int ch2), .val (.int ch3), .val (.ref b331)]) rfl q) ?_
  refine own_go (fun _ q => XS.aload X331.here hx rfl (hb hby d2_95) rfl rfl q) ?_
  refine own_go (fun _ q => XS.iconst X331.here hx rfl (hb hby d2_97) q) ?_
  refine own_go (fun _ q => XS.iloadN X331.here hx rfl (hb hby d2_98) rfl q) ?_
  show own_Fin _ _ _ _ (T331.setTop (mkF m 99 #[.val (.int (4 : Int32)), .val (.int ch0), .val (.int ch1), .val (.int ch2), .val (.int ch3), .val (.ref b331)] [(.int ch0), (.int (0 : Int32)), (.ref b331)]))
  obtain ⟨T333, h333, X333, e333, W333, V333, st333⟩ := own_stC X331 hx hZ e331 V331 (by decide) (i := 0) rfl (Nat.le_of_ble_eq_true rfl) (g := (mkF m 99 #[.val (.int (4 : Int32)), .val (.int ch0), .val (.int ch1), .val (.int ch2), .val (.int ch3), .val (.ref b331)] [(.int ch0), (.int (0 : Int32)), (.ref b331)])) rfl rfl (hb hby d2_99)
  rw [own_narch (hb4 _ (own_m 0 rfl))] at V333
  replace V331 : Arv Z h333 b331 k331 .char (4 : Int32) [(.int ch0), (.int (0 : Int32)), (.int (0 : Int32)), (.int (0 : Int32))] (.int (0 : Int32)) := V333
  have N333 := Fr.snoc X333 N0 g_b331
  refine own_go st333 ?_
  have sa334 := S_b331
  replace S_b331 := Safe.wr W333 sa334 CH S_b331
  replace CR := CR.trans (CHr.wr W333 sa334 CH)
  replace CH := CHv.wr W333 sa334 CH
  replace hk := Nat.le_trans hk (Keep.of_wr W333).1
  replace O0 := O0.wr W333 g_b331
  have K335 := K332.wr W333 (Or.inr sz_b331)
  refine own_go (fun _ q => XS.aload X333.here hx rfl (hb hby d2_100) rfl rfl q) ?_
  refine own_go (fun _ q => XS.iconst X333.here hx rfl (hb hby d2_102) q) ?_
  refine own_go (fun _ q => XS.iloadN X333.here hx rfl (hb hby d2_103) rfl q) ?_
  show own_Fin _ _ _ _ (T333.setTop (mkF m 104 #[.val (.int (4 : Int32)), .val (.int ch0), .val (.int ch1), .val (.int ch2), .val (.int ch3), .val (.ref b331)] [(.int ch1), (.int (1 : Int32)), (.ref b331)]))
  obtain ⟨T336, h336, X336, e336, W336, V336, st336⟩ := own_stC X333 hx hZ e333 V331 (by decide) (i := 1) rfl (Nat.le_of_ble_eq_true rfl) (g := (mkF m 104 #[.val (.int (4 : Int32)), .val (.int ch0), .val (.int ch1), .val (.int ch2), .val (.int ch3), .val (.ref b331)] [(.int ch1), (.int (1 : Int32)), (.ref b331)])) rfl rfl (hb hby d2_104)
  rw [own_narch (hb4 _ (own_m 1 rfl))] at V336
  replace V331 : Arv Z h336 b331 k331 .char (4 : Int32) [(.int ch0), (.int ch1), (.int (0 : Int32)), (.int (0 : Int32))] (.int (0 : Int32)) := V336
  have N336 := Fr.snoc X336 N333 g_b331
  refine own_go st336 ?_
  have sa337 := S_b331
  replace S_b331 := Safe.wr W336 sa337 CH S_b331
  replace CR := CR.trans (CHr.wr W336 sa337 CH)
  replace CH := CHv.wr W336 sa337 CH
  replace hk := Nat.le_trans hk (Keep.of_wr W336).1
  replace O0 := O0.wr W336 g_b331
  have K338 := K335.wr W336 (Or.inr sz_b331)
  refine own_go (fun _ q => XS.aload X336.here hx rfl (hb hby d2_105) rfl rfl q) ?_
  refine own_go (fun _ q => XS.iconst X336.here hx rfl (hb hby d2_107) q) ?_
  refine own_go (fun _ q => XS.iloadN X336.here hx rfl (hb hby d2_108) rfl q) ?_
  show own_Fin _ _ _ _ (T336.setTop (mkF m 109 #[.val (.int (4 : Int32)), .val (.int ch0), .val (.int ch1), .val (.int ch2), .val (.int ch3), .val (.ref b331)] [(.int ch2), (.int (2 : Int32)), (.ref b331)]))
  obtain ⟨T339, h339, X339, e339, W339, V339, st339⟩ := own_stC X336 hx hZ e336 V331 (by decide) (i := 2) rfl (Nat.le_of_ble_eq_true rfl) (g := (mkF m 109 #[.val (.int (4 : Int32)), .val (.int ch0), .val (.int ch1), .val (.int ch2), .val (.int ch3), .val (.ref b331)] [(.int ch2), (.int (2 : Int32)), (.ref b331)])) rfl rfl (hb hby d2_109)
  rw [own_narch (hb4 _ (own_m 2 rfl))] at V339
  replace V331 : Arv Z h339 b331 k331 .char (4 : Int32) [(.int ch0), (.int ch1), (.int ch2), (.int (0 : Int32))] (.int (0 : Int32)) := V339
  have N339 := Fr.snoc X339 N336 g_b331
  refine own_go st339 ?_
  have sa340 := S_b331
  replace S_b331 := Safe.wr W339 sa340 CH S_b331
  replace CR := CR.trans (CHr.wr W339 sa340 CH)
  replace CH := CHv.wr W339 sa340 CH
  replace hk := Nat.le_trans hk (Keep.of_wr W339).1
  replace O0 := O0.wr W339 g_b331
  have K341 := K338.wr W339 (Or.inr sz_b331)
  refine own_go (fun _ q => XS.aload X339.here hx rfl (hb hby d2_110) rfl rfl q) ?_
  refine own_go (fun _ q => XS.iconst X339.here hx rfl (hb hby d2_112) q) ?_
  refine own_go (fun _ q => XS.iload X339.here hx rfl (hb hby d2_113) rfl q) ?_
  show own_Fin _ _ _ _ (T339.setTop (mkF m 115 #[.val (.int (4 : Int32)), .val (.int ch0), .val (.int ch1), .val (.int ch2), .val (.int ch3), .val (.ref b331)] [(.int ch3), (.int (3 : Int32)), (.ref b331)]))
  obtain ⟨T342, h342, X342, e342, W342, V342, st342⟩ := own_stC X339 hx hZ e339 V331 (by decide) (i := 3) rfl (Nat.le_of_ble_eq_true rfl) (g := (mkF m 115 #[.val (.int (4 : Int32)), .val (.int ch0), .val (.int ch1), .val (.int ch2), .val (.int ch3), .val (.ref b331)] [(.int ch3), (.int (3 : Int32)), (.ref b331)])) rfl rfl (hb hby d2_115)
  rw [own_narch (hb4 _ (own_m 3 rfl))] at V342
  replace V331 : Arv Z h342 b331 k331 .char (4 : Int32) [(.int ch0), (.int ch1), (.int ch2), (.int ch3)] (.int (0 : Int32)) := V342
  have N342 := Fr.snoc X342 N339 g_b331
  refine own_go st342 ?_
  have sa343 := S_b331
  replace S_b331 := Safe.wr W342 sa343 CH S_b331
  replace CR := CR.trans (CHr.wr W342 sa343 CH)
  replace CH := CHv.wr W342 sa343 CH
  replace hk := Nat.le_trans hk (Keep.of_wr W342).1
  replace O0 := O0.wr W342 g_b331
  have K344 := K341.wr W342 (Or.inr sz_b331)
  show own_Fin _ _ _ _ (T342.setTop (mkF m 116 #[.val (.int (4 : Int32)), .val (.int ch0), .val (.int ch1), .val (.int ch2), .val (.int ch3), .val (.ref b331)] []))
  obtain ⟨T345, h345, X345, e345, E345, A345, D345, -, st345⟩ := newO X342 hx hZ hown (own_w hw 9 rfl) (own_w hw 10 rfl) (own_w hw 11 rfl) e342 (g := (mkF m 116 #[.val (.int (4 : Int32)), .val (.int ch0), .val (.int ch1), .val (.int ch2), .val (.int ch3), .val (.ref b331)] [])) rfl (hb hby d2_116) (by decide) (by decide)
  obtain ⟨b345, g345⟩ : ∃ z, z = h342.size := ⟨_, rfl⟩
  rw [← g345] at A345 D345 st345
  have sz_b345 : h0.size ≤ b345 := Nat.le_trans K344.1 (Nat.le_of_eq g345.symm)
  have g_b345 : n0 ≤ b345 := Nat.le_trans Z0 sz_b345
  have ne346 : b331 ≠ b345 := Nat.ne_of_lt (Nat.lt_of_lt_of_le V331.lt (Nat.le_of_eq g345.symm))
  have S_b345 := Safe.new (Z := Z) (EL := consts_1) (vm := s.vm) (Nat.le_of_eq g345.symm)
  replace S_b331 := Safe.ext E345 CH S_b331
  replace S_b345 := Safe.ext E345 CH S_b345
  replace CR := CR.trans (CHr.ext E345 CH)
  replace CH := CH.ext E345
  replace hk := Nat.le_trans hk E345.1
  replace O0 := O0.ext E345
  replace V331 := V331.ext E345
  have K347 := K344.ext E345
  have F345_value : Fld Z h345 b345 "java/lang/String" "value" "[B" .null := D345 (Or.inr (own_w hw 25 rfl)) (ty := (.array .byte)) (by decide)
  have F345_coder : Fld Z h345 b345 "java/lang/String" "coder" "B" (.int (0 : Int32)) := D345 (Or.inr (own_w hw 26 rfl)) (ty := .byte) (by decide)
  refine own_go st345 ?_
  refine own_go (fun _ q => XS.dup X345.here hx rfl (hb hby d2_119) rfl rfl q) ?_
  refine own_go (fun _ q => XS.aload X345.here hx rfl (hb hby d2_120) rfl rfl q) ?_
  show own_Fin _ _ _ _ (T345.setTop (mkF m 122 #[.val (.int (4 : Int32)), .val (.int ch0), .val (.int ch1), .val (.int ch2), .val (.int ch3), .val (.ref b331)] [(.ref b331), (.ref b345), (.ref b345)]))
  obtain ⟨_, _, ⟨T348, L348, k348, n348⟩, -, X348, ⟨Lc348, hQ348, l348, y348, z348⟩, st348⟩ := X345.specialBack hx (y := (⟨"java/lang/String", "<init>", "([C)V"⟩ : MethodName)) rfl hown (mvT hZ (own_w hw 13 rfl)) (mvT hZ (own_w hw 14 rfl)) (mvT hZ (own_w hw 15 rfl)) (by decide) (backOf (W := 1) (rm_i1_4 l Z a0 hw [] b345 b331 k331 ch0 ch1 ch2 ch3 gc h345 n0 (Nat.le_trans Z0 K347.1) A345 F345_value F345_coder g_b345 V331 (own_take 4 hb4) ne346 S_C hcs O0 S_A S_H S_L) hZ (own_w hw 15 rfl) (own_w hw 11 rfl) (by decide) (by decide)) (g := (mkF m 122 #[.val (.int (4 : Int32)), .val (.int ch0), .val (.int ch1), .val (.int ch2), .val (.int ch3), .val (.ref b331)] [(.ref b331), (.ref b345), (.ref b345)])) rfl (by rw [hml]; rfl) (Steps.refl _) (a := b345) (argsL := [(.ref b331)]) (rest := [(.ref b345)]) (lenOf pd_26 rfl) rfl (by show 2 * 0 + _ ≤ _; exact Nat.le_of_eq rfl) (hb hby d2_122) (fun _ _ => ⟨rfl, e345, (by decide : 2 + 2 ≤ _), (by decide : 8 + 12 ≤ _)⟩)
  dsimp only [Pt.U, Pt.locs, Pt.cells, Pt.slots] at X348 l348 y348 z348 st348 hQ348
  subst l348 y348 z348
  obtain ⟨t348, rfl, N348q, KK348, szt348, SS348⟩ := hQ348
  have N348 := Fr.app N342 N348q
  have sz_t348 : h0.size ≤ t348 := Nat.le_trans K347.1 szt348
  have g_t348 : n0 ≤ t348 := Nat.le_trans Z0 sz_t348
  have ne349 : b331 ≠ t348 := Nat.ne_of_lt (Nat.lt_of_lt_of_le V331.lt szt348)
  have ne350 : b345 ≠ t348 := Nat.ne_of_lt (Nat.lt_of_lt_of_le A345.lt szt348)
  have S_t348 := Safe.new (Z := Z) (EL := consts_1) (vm := s.vm) szt348
  have hs351 : ∀ x ∈ [b345], Safe Z consts_1 s.vm h345 x := (sfS S_b345 sf0)
  replace S_b331 := Safe.keep KK348 hs351 CH S_b331
  replace S_b345 := Safe.keep KK348 hs351 CH S_b345
  replace S_t348 := Safe.keep KK348 hs351 CH S_t348
  replace CR := CR.trans (CHr.keep KK348 hs351 CH)
  replace CH := CHv.keep KK348 hs351 CH
  replace hk := Nat.le_trans hk KK348.1
  replace O0 := O0.keep KK348 (allS g_b345 (all0))
  replace V331 := V331.keep KK348 (ninS ne346 nin0)
  replace A345 := A345.keep KK348
  have K352 := K347.trans KK348 (allS (Or.inr sz_b345) all0)
  refine own_go (fun _ q => st348.trans q) ?_
  show own_Fin _ _ _ _ (T348.setTop (mkF m 125 #[.val (.int (4 : Int32)), .val (.int ch0), .val (.int ch1), .val (.int ch2), .val (.int ch3), .val (.ref b331)] [(.ref b345)]))
  have CRz : CHr Z consts_1 s.vm s.heap T348.vm T348.heap := by
    rw [hh]
    exact CR.trans (CHv.at X348 hZ hEL CH)
  refine own_retW X348 hx Bd hS hk (t := (.object "java/lang/String")) Bd.returns rfl (Or.inr (Or.inr (Or.inr (Or.inr ⟨rfl, rfl, rfl⟩)))) (hb hby d2_125) CRz ?_ (by decide) (by decide)
  show (Q_rm_tx4 Z ch0 ch1 ch2 ch3 gc h0 n0) (some (.ref b345)) T348.heap _
  exact ⟨_, _, rfl, N348, K352, SS348⟩
def Q_rm_tx (Z : State) (nn : Nat) (ch0 : Int32) (ch1 : Int32) (ch2 : Int32) (ch3 : Int32) (gc : Int32) (h0 : Heap) (n0 : Nat) (v : Option Value) (h : Heap) (L : List Loc) : Prop := ∃ x t, v = some (.ref x) ∧ Fr n0 L ∧ Keep h0 h [] ∧ own_Str Z h x t (List.take nn ([ch0, ch1, ch2, ch3] : List Int32))
set_option maxRecDepth 65536 in
set_option maxHeartbeats 40000000 in
theorem rm_tx (l : Launch) (Z : State) (a0 : Array Value) (hw : ∀ d ∈ tables_1, d.before a0 Z = true) (ws : List Jvm.Cond) (hEL : EW Z a0 consts_1) (nn : Nat) (ch0 : Int32) (ch1 : Int32) (ch2 : Int32) (ch3 : Int32) (gc : Int32) (h0 : Heap) (n0 : Nat) (Z0 : n0 ≤ h0.size) (hn4 : nn ≤ 4) (hb4 : ∀ c ∈ ([ch0, ch1, ch2, ch3] : List Int32), ¬ c < 0 ∧ ¬ (65535 : Int32) < c) (S_C : Sta Z Z.heap "java/lang/String" "COMPACT_STRINGS" "Z" (.int gc)) (hcs : ¬ gc = 0) (O0 : Old Z n0 h0) (S_A : Sta Z Z.heap "java/lang/StringUTF16" "$assertionsDisabled" "Z" (.int (1 : Int32))) (S_H : Sta Z Z.heap "java/lang/StringUTF16" "HI_BYTE_SHIFT" "I" (.int (0 : Int32))) (S_L : Sta Z Z.heap "java/lang/StringUTF16" "LO_BYTE_SHIFT" "I" (.int (8 : Int32))) :
    MetFree l (⟨"com/example/hebelwerk/hebelwerk/model/PublishedFolderIsIdPinLaw", "text", "(ICCCC)Ljava/lang/String;"⟩ : MethodName) (head1 (Jvm.Cond.code (⟨"com/example/hebelwerk/hebelwerk/model/PublishedFolderIsIdPinLaw", "text", "(ICCCC)Ljava/lang/String;"⟩ : MethodName) method_5_code 6 (some (.object "java/lang/String")) :: ws) ({ frames := 6, cells := 6, slots := 20, locals := 88 } : Room)) (fun a_ U_ => a_ = #[(.int (Int32.ofNat nn)), (.int ch0), (.int ch1), (.int ch2), (.int ch3)] ∧ Z.Warmed39 U_.vm ∧ U_.heap = h0 ∧ CHv Z consts_1 U_.vm h0) (fun _ _ _ _ _ => True) (fun _ U_ o_ V_ => ∃ v_ L_, o_ = .returned v_ ∧ (Q_rm_tx Z nn ch0 ch1 ch2 ch3 gc h0 n0) v_ V_.heap L_ ∧ CHr Z consts_1 U_.vm U_.heap V_.vm V_.heap ∧ ReturnedEndW U_ o_ V_ L_ ({ frames := 6, cells := 6, slots := 20, locals := 88 } : Room).cells ({ frames := 6, cells := 6, slots := 20, locals := 88 } : Room).slots) := by
  obtain rfl | rfl | rfl | rfl | rfl : nn = 0 ∨ nn = 1 ∨ nn = 2 ∨ nn = 3 ∨ nn = 4 := by omega
  · exact rm_tx0 l Z a0 hw ws hEL ch0 ch1 ch2 ch3 gc h0 n0 Z0 hb4 S_C hcs O0 S_A S_H S_L
  · exact rm_tx1 l Z a0 hw ws hEL ch0 ch1 ch2 ch3 gc h0 n0 Z0 hb4 S_C hcs O0 S_A S_H S_L
  · exact rm_tx2 l Z a0 hw ws hEL ch0 ch1 ch2 ch3 gc h0 n0 Z0 hb4 S_C hcs O0 S_A S_H S_L
  · exact rm_tx3 l Z a0 hw ws hEL ch0 ch1 ch2 ch3 gc h0 n0 Z0 hb4 S_C hcs O0 S_A S_H S_L
  · exact rm_tx4 l Z a0 hw ws hEL ch0 ch1 ch2 ch3 gc h0 n0 Z0 hb4 S_C hcs O0 S_A S_H S_L
def Q_rm_id (Z : State) (xx : Addr) (tt : Addr) (cs : List Int32) (gc : Int32) (gs : Value) (h0 : Heap) (n0 : Nat) (v : Option Value) (h : Heap) (L : List Loc) : Prop := ∃ z : Int32, v = some (.int z) ∧ Fr n0 L ∧ Keep h0 h [] ∧ ((z = 1 ∧ own_id cs) ∨ (z = 0 ∧ ¬ own_id cs))
theorem ef_rm_id (m : MethodId) (xx : Addr) (tt : Addr) (cs : List Int32) (gc : Int32) (gs : Value) : entryFrame m #[(.ref xx)] 1 = mkF m 0 #[.val (.ref xx)] [] := by first | (simp [entryFrame, mkF, argsToLocals, Value.category]; done) | rfl
set_option maxRecDepth 65536 in
set_option maxHeartbeats 40000000 in
theorem rm_id (l : Launch) (Z : State) (a0 : Array Value) (hw : ∀ d ∈ tables_1, d.before a0 Z = true) (ws : List Jvm.Cond) (hEL : EW Z a0 consts_1) (xx : Addr) (tt : Addr) (cs : List Int32) (gc : Int32) (gs : Value) (h0 : Heap) (n0 : Nat) (Z0 : n0 ≤ h0.size) (F_x : own_Str Z h0 xx tt cs) (h4 : cs.length ≤ 4) (S_F : Sta Z Z.heap "jdk/internal/util/Preconditions" "SIOOBE_FORMATTER" "Ljava/util/function/BiFunction;" gs) (hgs : gs.isRef = true) (S_C : Sta Z Z.heap "java/lang/String" "COMPACT_STRINGS" "Z" (.int gc)) (hcs : ¬ gc = 0) (O0 : Old Z n0 h0) (S_A : Sta Z Z.heap "java/lang/StringUTF16" "$assertionsDisabled" "Z" (.int (1 : Int32))) (S_H : Sta Z Z.heap "java/lang/StringUTF16" "HI_BYTE_SHIFT" "I" (.int (0 : Int32))) (S_L : Sta Z Z.heap "java/lang/StringUTF16" "LO_BYTE_SHIFT" "I" (.int (8 : Int32))) :
    MetFree l (⟨"com/example/hebelwerk/hebelwerk/model/PublishedFolder", "isId", "(Ljava/lang/String;)Z"⟩ : MethodName) (head1 (Jvm.Cond.code (⟨"com/example/hebelwerk/hebelwerk/model/PublishedFolder", "isId", "(Ljava/lang/String;)Z"⟩ : MethodName) prog_32_method_7_code 1 (some .boolean) :: ws) ({ frames := 7, cells := 4, slots := 20, locals := 100 } : Room)) (fun a_ U_ => a_ = #[(.ref xx)] ∧ Z.Warmed39 U_.vm ∧ U_.heap = h0 ∧ CHv Z consts_1 U_.vm h0) (fun _ _ _ _ _ => True) (fun _ U_ o_ V_ => ∃ v_ L_, o_ = .returned v_ ∧ (Q_rm_id Z xx tt cs gc gs h0 n0) v_ V_.heap L_ ∧ CHr Z consts_1 U_.vm U_.heap V_.vm V_.heap ∧ ReturnedEndW U_ o_ V_ L_ ({ frames := 7, cells := 4, slots := 20, locals := 100 } : Room).cells ({ frames := 7, cells := 4, slots := 20, locals := 100 } : Room).slots) := by
  refine MetFree.of_bodySF (plainFor_of_name pn_28) hisR ?_
  intro p e s m args below meth c s₁ Bd hml0 hP hK
  obtain ⟨rfl, hZ, hh, CH⟩ := hP
  have hx := Bd.exec
  have hby := Bd.bytes
  have hml : c.maxLocals = 1 := hml0
  have hown : s.vm.findClass "com/example/hebelwerk/hebelwerk/model/PublishedFolder" = some m.cls := findClass_of_methodNamed Bd.named
  have hnm := (name_of_methodNamed Bd.named Bd.method).1
  have wS : ∀ a ∈ Bundle.stringAtoms, a.before a0 Z = true := fun d hd => hw d ((by decide +kernel : ∀ d ∈ Bundle.stringAtoms, d ∈ tables_1) d hd)
  have X0 : Stand p l e ({ frames := 7, cells := 4, slots := 20, locals := 100 } : Room) (s.setVm s.vm) m #[(.ref xx)] below meth c s₁ [] 0 0 := Stand.of_body Bd
  have e0 : s₁.heap = h0 := by rw [← hh, Bd.state]; rfl
  have N0 := Fr.nil n0
  have K0 : Keep h0 h0 [] := Keep.refl _ _
  replace hZ : Z.Warmed39 (s.setVm s.vm).vm := hZ
  replace hown : (s.setVm s.vm).vm.findClass "com/example/hebelwerk/hebelwerk/model/PublishedFolder" = some m.cls := hown
  have hS : s.Since s.vm h0.size := (State.WarmedH.refl s).since _
  have hk : h0.size ≤ h0.size := Nat.le_refl _
  have CR : CHr Z consts_1 s.vm h0 s.vm h0 := CHr.refl CH
  show own_Fin p.tables e below (own_PostW Z consts_1 (Q_rm_id Z xx tt cs gc gs h0 n0) ({ frames := 7, cells := 4, slots := 20, locals := 100 } : Room).cells ({ frames := 7, cells := 4, slots := 20, locals := 100 } : Room).slots below s) _
  refine own_go (fun _ q => castTop (ef_rm_id m xx tt cs gc gs) q) ?_
  have heq : ∀ d ∈ StrChars.Road.wordsEq, d.before a0 Z = true := fun d hd => hw d ((by decide +kernel : ∀ d ∈ StrChars.Road.wordsEq, d ∈ tables_1) d hd)
  refine own_go (fun _ q => XS.aloadN X0.here hx rfl (hb hby d6_0) rfl rfl q) ?_
  show own_Fin _ _ _ _ (s₁.setTop (mkF m 1 #[.val (.ref xx)] [(.ref xx)]))
  obtain ⟨cq353, kq353, qa353, qb353, qc353⟩ := isOf hZ e0 F_x.exa
  obtain ⟨_, _, ⟨T353, L353, k353, n353⟩, -, X353, ⟨Lc353, hQ353, l353, y353, z353⟩, st353⟩ := X0.virtualBack hx (y := (⟨"java/lang/String", "isEmpty", "()Z"⟩ : MethodName)) (z := (⟨"java/lang/String", "isEmpty", "()Z"⟩ : MethodName)) hown (mvT hZ (own_w hw 35 rfl)) (mvT hZ (own_w hw 36 rfl)) (own_notface (args := #[]) (mvT hZ (own_w hw 38 rfl)) rfl) (mvT hZ (own_w hw 38 rfl)) (mvT hZ (own_w hw 37 rfl)) (by decide) (backOf (W := 0) (rm_em l Z a0 hw [] xx tt cs h0 n0 (Nat.le_trans Z0 K0.1) F_x) hZ (own_w hw 39 rfl) (own_w hw 11 rfl) (by decide) (by decide)) qa353 qc353 (g := (mkF m 1 #[.val (.ref xx)] [(.ref xx)])) rfl (by rw [hml]; rfl) (Steps.refl _) (argsL := []) (rest := []) (lenOf pd_23 rfl) rfl (by show 2 * 0 + _ ≤ _; exact Nat.le_of_eq rfl) (hb hby d6_1) (fun _ _ => ⟨rfl, e0, (by decide : 0 + 0 ≤ _), (by decide : 0 + 0 ≤ _)⟩)
  dsimp only [Pt.U, Pt.locs, Pt.cells, Pt.slots] at X353 l353 y353 z353 st353 hQ353
  subst l353 y353 z353
  obtain ⟨z353, rfl, N353q, e353, hz353⟩ := hQ353
  have N353 := Fr.app N0 N353q
  rcases hz353 with ⟨rfl, hemp⟩ | ⟨rfl, hpos⟩
  · skip
    refine own_go (fun _ q => st353.trans q) ?_
    show own_Fin _ _ _ _ (T353.setTop (mkF m 4 #[.val (.ref xx)] [(.int (1 : Int32))]))
    refine own_go (fun _ q => XS.ifYes X353.here hx rfl (pc0 := 4) (pc' := 46) rfl (hb hby d6_4) rfl ((if0 _ _).trans (feq (by decide : ¬ (1 : Int32) = (0 : Int32))).2) (by decide) (by decide) q) ?_
    refine own_go (fun _ q => XS.iconst X353.here hx rfl (hb hby d6_46) q) ?_
    show own_Fin _ _ _ _ (T353.setTop (mkF m 47 #[.val (.ref xx)] [(.int (0 : Int32))]))
    have CRz : CHr Z consts_1 s.vm s.heap T353.vm T353.heap := by
      rw [hh, e353]
      exact CR.trans (CHv.at X353 hZ hEL CH)
    refine own_retW X353 hx Bd hS (show _ ≤ T353.heap.size by rw [e353]; exact hk) (t := .boolean) Bd.returns rfl (Or.inl ⟨rfl, by simp, _, rfl⟩) (hb hby d6_47) CRz ?_ (by decide) (by decide)
    show (Q_rm_id Z xx tt cs gc gs h0 n0) (some (.int (0 : Int32))) T353.heap _
    rw [e353]
    exact ⟨_, rfl, N353, K0, Or.inr ⟨rfl, fun q => q.1 hemp⟩⟩
  · skip
    refine own_go (fun _ q => st353.trans q) ?_
    show own_Fin _ _ _ _ (T353.setTop (mkF m 4 #[.val (.ref xx)] [(.int (0 : Int32))]))
    refine own_go (fun _ q => XS.ifNo X353.here hx rfl (hb hby d6_4) rfl ((if0 _ _).trans (teq (by decide : (0 : Int32) = (0 : Int32))).2) q) ?_
    refine own_go (fun _ q => XS.aloadN X353.here hx rfl (hb hby d6_7) rfl rfl q) ?_
    show own_Fin _ _ _ _ (T353.setTop (mkF m 8 #[.val (.ref xx)] [(.ref xx)]))
    obtain ⟨a354, T354, h354, k354, tb354, kb354, X354, e354, E354, hS, hk, hZ, hown, EA354, FC354, FV354, VB354, -, -, CR354, -, NE354, st354⟩ := ldcCH X353 hx hZ hown (own_w hw 54 rfl) wS e353 hS hk hEL (by decide) CH (vs := ((([(46 : Int32)] : List Int32).map (fun c => c.toInt8.toInt32)).map Value.int)) (z := (1 : Int32)) (by exact ⟨by decide, by decide⟩) (by decide) rfl (g := (mkF m 8 #[.val (.ref xx)] [(.ref xx)])) rfl (hb hby d6_8) (n := 4) (by decide) (by decide) (by decide) (by decide)
    replace CR := CR.trans CR354
    replace CH := CR354.1
    replace O0 := O0.ext E354
    replace F_x := F_x.ext E354
    have K355 := K0.ext E354
    have SS354 : own_Str Z h354 a354 tb354 ([(46 : Int32)] : List Int32) := ⟨_, _, _, _, EA354, FV354, FC354, VB354, StrChars.Road.codOf (n := 1) rfl (by decide), by decide, Nat.le_of_ble_eq_true rfl⟩
    refine own_go st354 ?_
    show own_Fin _ _ _ _ (T354.setTop (mkF m 10 #[.val (.ref xx)] [(.ref a354), (.ref xx)]))
    obtain ⟨cq356, kq356, qa356, qb356, qc356⟩ := isOf hZ e354 F_x.exa
    obtain ⟨_, _, ⟨T356, L356, k356, n356⟩, -, X356, ⟨Lc356, hQ356, l356, y356, z356⟩, st356⟩ := X354.virtualBack hx (y := (⟨"java/lang/String", "equals", "(Ljava/lang/Object;)Z"⟩ : MethodName)) (z := (⟨"java/lang/String", "equals", "(Ljava/lang/Object;)Z"⟩ : MethodName)) hown (mvT hZ (own_w hw 55 rfl)) (mvT hZ (own_w hw 56 rfl)) (own_notface (args := #[]) (mvT hZ (own_w hw 38 rfl)) rfl) (mvT hZ (own_w hw 58 rfl)) (mvT hZ (own_w hw 57 rfl)) (by decide) (own_eqB (W := 0) hZ heq (own_w hw 10 rfl) F_x SS354 (S_C.ext O0.2) hcs (by decide) (by decide)) qa356 qc356 (g := (mkF m 10 #[.val (.ref xx)] [(.ref a354), (.ref xx)])) rfl (by rw [hml]; rfl) (Steps.refl _) (argsL := [(.ref a354)]) (rest := []) (lenOf pd_29 rfl) rfl (by show 2 * 0 + _ ≤ _; exact Nat.le_of_eq rfl) (hb hby d6_10) (fun _ _ => ⟨rfl, e354, (by decide : 2 + 0 ≤ _), (by decide : 8 + 0 ≤ _)⟩)
    dsimp only [Pt.U, Pt.locs, Pt.cells, Pt.slots] at X356 l356 y356 z356 st356 hQ356
    subst l356 y356 z356
    obtain ⟨hq356, rfl, e356⟩ := hQ356
    have N356 := Fr.app N353 (Fr.nil n0)
    rcases hq356 with ⟨rfl, hh356⟩ | ⟨rfl, hh356⟩
    · skip
      refine own_go (fun _ q => st356.trans q) ?_
      show own_Fin _ _ _ _ (T356.setTop (mkF m 13 #[.val (.ref xx)] [(.int (1 : Int32))]))
      refine own_go (fun _ q => XS.ifYes X356.here hx rfl (pc0 := 13) (pc' := 46) rfl (hb hby d6_13) rfl ((if0 _ _).trans (feq (by decide : ¬ (1 : Int32) = (0 : Int32))).2) (by decide) (by decide) q) ?_
      refine own_go (fun _ q => XS.iconst X356.here hx rfl (hb hby d6_46) q) ?_
      show own_Fin _ _ _ _ (T356.setTop (mkF m 47 #[.val (.ref xx)] [(.int (0 : Int32))]))
      have CRz : CHr Z consts_1 s.vm s.heap T356.vm T356.heap := by
        rw [hh, e356]
        exact CR.trans (CHv.at X356 hZ hEL CH)
      refine own_retW X356 hx Bd hS (show _ ≤ T356.heap.size by rw [e356]; exact hk) (t := .boolean) Bd.returns rfl (Or.inl ⟨rfl, by simp, _, rfl⟩) (hb hby d6_47) CRz ?_ (by decide) (by decide)
      show (Q_rm_id Z xx tt cs gc gs h0 n0) (some (.int (0 : Int32))) T356.heap _
      rw [e356]
      exact ⟨_, rfl, N356, K355, Or.inr ⟨rfl, fun q => q.2.1 hh356⟩⟩
    · skip
      refine own_go (fun _ q => st356.trans q) ?_
      show own_Fin _ _ _ _ (T356.setTop (mkF m 13 #[.val (.ref xx)] [(.int (0 : Int32))]))
      refine own_go (fun _ q => XS.ifNo X356.here hx rfl (hb hby d6_13) rfl ((if0 _ _).trans (teq (by decide : (0 : Int32) = (0 : Int32))).2) q) ?_
      refine own_go (fun _ q => XS.aloadN X356.here hx rfl (hb hby d6_16) rfl rfl q) ?_
      show own_Fin _ _ _ _ (T356.setTop (mkF m 17 #[.val (.ref xx)] [(.ref xx)]))
      obtain ⟨a357, T357, h357, k357, tb357, kb357, X357, e357, E357, hS, hk, hZ, hown, EA357, FC357, FV357, VB357, -, -, CR357, -, NE357, st357⟩ := ldcCH X356 hx hZ hown (own_w hw 65 rfl) wS e356 hS hk hEL (by decide) CH (vs := ((([(46 : Int32), (46 : Int32)] : List Int32).map (fun c => c.toInt8.toInt32)).map Value.int)) (z := (2 : Int32)) (by exact ⟨by decide, by decide⟩) (by decide) rfl (g := (mkF m 17 #[.val (.ref xx)] [(.ref xx)])) rfl (hb hby d6_17) (n := 8) (by decide) (by decide) (by decide) (by decide)
      replace CR := CR.trans CR357
      replace CH := CR357.1
      replace O0 := O0.ext E357
      replace F_x := F_x.ext E357
      replace SS354 := SS354.ext E357
      have K358 := K355.ext E357
      have SS357 : own_Str Z h357 a357 tb357 ([(46 : Int32), (46 : Int32)] : List Int32) := ⟨_, _, _, _, EA357, FV357, FC357, VB357, StrChars.Road.codOf (n := 2) rfl (by decide), by decide, Nat.le_of_ble_eq_true rfl⟩
      refine own_go st357 ?_
      show own_Fin _ _ _ _ (T357.setTop (mkF m 19 #[.val (.ref xx)] [(.ref a357), (.ref xx)]))
      obtain ⟨cq359, kq359, qa359, qb359, qc359⟩ := isOf hZ e357 F_x.exa
      obtain ⟨_, _, ⟨T359, L359, k359, n359⟩, -, X359, ⟨Lc359, hQ359, l359, y359, z359⟩, st359⟩ := X357.virtualBack hx (y := (⟨"java/lang/String", "equals", "(Ljava/lang/Object;)Z"⟩ : MethodName)) (z := (⟨"java/lang/String", "equals", "(Ljava/lang/Object;)Z"⟩ : MethodName)) hown (mvT hZ (own_w hw 55 rfl)) (mvT hZ (own_w hw 56 rfl)) (own_notface (args := #[]) (mvT hZ (own_w hw 38 rfl)) rfl) (mvT hZ (own_w hw 58 rfl)) (mvT hZ (own_w hw 57 rfl)) (by decide) (own_eqB (W := 0) hZ heq (own_w hw 10 rfl) F_x SS357 (S_C.ext O0.2) hcs (by decide) (by decide)) qa359 qc359 (g := (mkF m 19 #[.val (.ref xx)] [(.ref a357), (.ref xx)])) rfl (by rw [hml]; rfl) (Steps.refl _) (argsL := [(.ref a357)]) (rest := []) (lenOf pd_29 rfl) rfl (by show 2 * 0 + _ ≤ _; exact Nat.le_of_eq rfl) (hb hby d6_19) (fun _ _ => ⟨rfl, e357, (by decide : 4 + 0 ≤ _), (by decide : 20 + 0 ≤ _)⟩)
      dsimp only [Pt.U, Pt.locs, Pt.cells, Pt.slots] at X359 l359 y359 z359 st359 hQ359
      subst l359 y359 z359
      obtain ⟨hq359, rfl, e359⟩ := hQ359
      have N359 := Fr.app N356 (Fr.nil n0)
      rcases hq359 with ⟨rfl, hh359⟩ | ⟨rfl, hh359⟩
      · skip
        refine own_go (fun _ q => st359.trans q) ?_
        show own_Fin _ _ _ _ (T359.setTop (mkF m 22 #[.val (.ref xx)] [(.int (1 : Int32))]))
        refine own_go (fun _ q => XS.ifYes X359.here hx rfl (pc0 := 22) (pc' := 46) rfl (hb hby d6_22) rfl ((if0 _ _).trans (feq (by decide : ¬ (1 : Int32) = (0 : Int32))).2) (by decide) (by decide) q) ?_
        refine own_go (fun _ q => XS.iconst X359.here hx rfl (hb hby d6_46) q) ?_
        show own_Fin _ _ _ _ (T359.setTop (mkF m 47 #[.val (.ref xx)] [(.int (0 : Int32))]))
        have CRz : CHr Z consts_1 s.vm s.heap T359.vm T359.heap := by
          rw [hh, e359]
          exact CR.trans (CHv.at X359 hZ hEL CH)
        refine own_retW X359 hx Bd hS (show _ ≤ T359.heap.size by rw [e359]; exact hk) (t := .boolean) Bd.returns rfl (Or.inl ⟨rfl, by simp, _, rfl⟩) (hb hby d6_47) CRz ?_ (by decide) (by decide)
        show (Q_rm_id Z xx tt cs gc gs h0 n0) (some (.int (0 : Int32))) T359.heap _
        rw [e359]
        exact ⟨_, rfl, N359, K358, Or.inr ⟨rfl, fun q => q.2.2.1 hh359⟩⟩
      · skip
        refine own_go (fun _ q => st359.trans q) ?_
        show own_Fin _ _ _ _ (T359.setTop (mkF m 22 #[.val (.ref xx)] [(.int (0 : Int32))]))
        refine own_go (fun _ q => XS.ifNo X359.here hx rfl (hb hby d6_22) rfl ((if0 _ _).trans (teq (by decide : (0 : Int32) = (0 : Int32))).2) q) ?_
        refine own_go (fun _ q => XS.aloadN X359.here hx rfl (hb hby d6_25) rfl rfl q) ?_
        refine own_go (fun _ q => XS.bipush X359.here hx rfl (hb hby d6_26) q) ?_
        show own_Fin _ _ _ _ (T359.setTop (mkF m 28 #[.val (.ref xx)] [(.int (47 : Int32)), (.ref xx)]))
        obtain ⟨cq360, kq360, qa360, qb360, qc360⟩ := isOf hZ e359 F_x.exa
        obtain ⟨_, _, ⟨T360, L360, k360, n360⟩, -, X360, ⟨Lc360, hQ360, l360, y360, z360⟩, st360⟩ := X359.virtualBack hx (y := (⟨"java/lang/String", "indexOf", "(I)I"⟩ : MethodName)) (z := (⟨"java/lang/String", "indexOf", "(I)I"⟩ : MethodName)) hown (mvT hZ (own_w hw 66 rfl)) (mvT hZ (own_w hw 67 rfl)) (own_notface (args := #[]) (mvT hZ (own_w hw 38 rfl)) rfl) (mvT hZ (own_w hw 69 rfl)) (mvT hZ (own_w hw 68 rfl)) (by decide) (backOf (W := 0) (rm_si1 l Z a0 hw [] xx tt (47 : Int32) cs gc gs h357 n0 (Nat.le_trans Z0 K358.1) F_x ⟨hpos, h4⟩ (by decide) S_F hgs S_C hcs O0 S_A S_H S_L) hZ (own_w hw 70 rfl) (own_w hw 11 rfl) (by decide) (by decide)) qa360 qc360 (g := (mkF m 28 #[.val (.ref xx)] [(.int (47 : Int32)), (.ref xx)])) rfl (by rw [hml]; rfl) (Steps.refl _) (argsL := [(.int (47 : Int32))]) (rest := []) (lenOf pd_3 rfl) rfl (by show 2 * 0 + _ ≤ _; exact Nat.le_of_eq rfl) (hb hby d6_28) (fun _ _ => ⟨rfl, e359, (by decide : 4 + 0 ≤ _), (by decide : 20 + 0 ≤ _)⟩)
        dsimp only [Pt.U, Pt.locs, Pt.cells, Pt.slots] at X360 l360 y360 z360 st360 hQ360
        subst l360 y360 z360
        obtain ⟨z360, rfl, N360q, e360, hz360⟩ := hQ360
        have N360 := Fr.app N359 N360q
        refine own_go (fun _ q => st360.trans q) ?_
        show own_Fin _ _ _ _ (T360.setTop (mkF m 31 #[.val (.ref xx)] [(.int z360)]))
        rcases hz360 with ⟨hz_31, hi_31⟩ | ⟨hz_31, hi_31⟩
        · skip
          show own_Fin _ _ _ _ (T360.setTop (mkF m 31 #[.val (.ref xx)] [(.int z360)]))
          refine own_go (fun _ q => XS.ifYes X360.here hx rfl (pc0 := 31) (pc' := 46) rfl (hb hby d6_31) rfl ((if0 _ _).trans (flt hz_31).2.1) (by decide) (by decide) q) ?_
          refine own_go (fun _ q => XS.iconst X360.here hx rfl (hb hby d6_46) q) ?_
          show own_Fin _ _ _ _ (T360.setTop (mkF m 47 #[.val (.ref xx)] [(.int (0 : Int32))]))
          have CRz : CHr Z consts_1 s.vm s.heap T360.vm T360.heap := by
            rw [hh, e360]
            exact CR.trans (CHv.at X360 hZ hEL CH)
          refine own_retW X360 hx Bd hS (show _ ≤ T360.heap.size by rw [e360]; exact hk) (t := .boolean) Bd.returns rfl (Or.inl ⟨rfl, by simp, _, rfl⟩) (hb hby d6_47) CRz ?_ (by decide) (by decide)
          show (Q_rm_id Z xx tt cs gc gs h0 n0) (some (.int (0 : Int32))) T360.heap _
          rw [e360]
          exact ⟨_, rfl, N360, K358, Or.inr ⟨rfl, fun q => q.2.2.2.1 _ hi_31 rfl⟩⟩
        · skip
          show own_Fin _ _ _ _ (T360.setTop (mkF m 31 #[.val (.ref xx)] [(.int z360)]))
          refine own_go (fun _ q => XS.ifNo X360.here hx rfl (hb hby d6_31) rfl ((if0 _ _).trans (tlt hz_31).2.1) q) ?_
          refine own_go (fun _ q => XS.aloadN X360.here hx rfl (hb hby d6_34) rfl rfl q) ?_
          refine own_go (fun _ q => XS.iconst X360.here hx rfl (hb hby d6_35) q) ?_
          show own_Fin _ _ _ _ (T360.setTop (mkF m 36 #[.val (.ref xx)] [(.int (0 : Int32)), (.ref xx)]))
          obtain ⟨cq361, kq361, qa361, qb361, qc361⟩ := isOf hZ e360 F_x.exa
          obtain ⟨_, _, ⟨T361, L361, k361, n361⟩, -, X361, ⟨Lc361, hQ361, l361, y361, z361⟩, st361⟩ := X360.virtualBack hx (y := (⟨"java/lang/String", "indexOf", "(I)I"⟩ : MethodName)) (z := (⟨"java/lang/String", "indexOf", "(I)I"⟩ : MethodName)) hown (mvT hZ (own_w hw 66 rfl)) (mvT hZ (own_w hw 67 rfl)) (own_notface (args := #[]) (mvT hZ (own_w hw 38 rfl)) rfl) (mvT hZ (own_w hw 69 rfl)) (mvT hZ (own_w hw 68 rfl)) (by decide) (backOf (W := 0) (rm_si1 l Z a0 hw [] xx tt (0 : Int32) cs gc gs h357 n0 (Nat.le_trans Z0 K358.1) F_x ⟨hpos, h4⟩ (by decide) S_F hgs S_C hcs O0 S_A S_H S_L) hZ (own_w hw 70 rfl) (own_w hw 11 rfl) (by decide) (by decide)) qa361 qc361 (g := (mkF m 36 #[.val (.ref xx)] [(.int (0 : Int32)), (.ref xx)])) rfl (by rw [hml]; rfl) (Steps.refl _) (argsL := [(.int (0 : Int32))]) (rest := []) (lenOf pd_3 rfl) rfl (by show 2 * 0 + _ ≤ _; exact Nat.le_of_eq rfl) (hb hby d6_36) (fun _ _ => ⟨rfl, e360, (by decide : 4 + 0 ≤ _), (by decide : 20 + 0 ≤ _)⟩)
          dsimp only [Pt.U, Pt.locs, Pt.cells, Pt.slots] at X361 l361 y361 z361 st361 hQ361
          subst l361 y361 z361
          obtain ⟨z361, rfl, N361q, e361, hz361⟩ := hQ361
          have N361 := Fr.app N360 N361q
          refine own_go (fun _ q => st361.trans q) ?_
          show own_Fin _ _ _ _ (T361.setTop (mkF m 39 #[.val (.ref xx)] [(.int z361)]))
          rcases hz361 with ⟨hz_39, hi_39⟩ | ⟨hz_39, hi_39⟩
          · skip
            show own_Fin _ _ _ _ (T361.setTop (mkF m 39 #[.val (.ref xx)] [(.int z361)]))
            refine own_go (fun _ q => XS.ifYes X361.here hx rfl (pc0 := 39) (pc' := 46) rfl (hb hby d6_39) rfl ((if0 _ _).trans (flt hz_39).2.1) (by decide) (by decide) q) ?_
            refine own_go (fun _ q => XS.iconst X361.here hx rfl (hb hby d6_46) q) ?_
            show own_Fin _ _ _ _ (T361.setTop (mkF m 47 #[.val (.ref xx)] [(.int (0 : Int32))]))
            have CRz : CHr Z consts_1 s.vm s.heap T361.vm T361.heap := by
              rw [hh, e361]
              exact CR.trans (CHv.at X361 hZ hEL CH)
            refine own_retW X361 hx Bd hS (show _ ≤ T361.heap.size by rw [e361]; exact hk) (t := .boolean) Bd.returns rfl (Or.inl ⟨rfl, by simp, _, rfl⟩) (hb hby d6_47) CRz ?_ (by decide) (by decide)
            show (Q_rm_id Z xx tt cs gc gs h0 n0) (some (.int (0 : Int32))) T361.heap _
            rw [e361]
            exact ⟨_, rfl, N361, K358, Or.inr ⟨rfl, fun q => q.2.2.2.2 _ hi_39 rfl⟩⟩
          · skip
            show own_Fin _ _ _ _ (T361.setTop (mkF m 39 #[.val (.ref xx)] [(.int z361)]))
            refine own_go (fun _ q => XS.ifNo X361.here hx rfl (hb hby d6_39) rfl ((if0 _ _).trans (tlt hz_39).2.1) q) ?_
            refine own_go (fun _ q => XS.iconst X361.here hx rfl (hb hby d6_42) q) ?_
            refine own_go (fun _ q => XS.goto X361.here hx rfl (pc0 := 43) (pc' := 47) rfl (hb hby d6_43) (by decide) (by decide) q) ?_
            show own_Fin _ _ _ _ (T361.setTop (mkF m 47 #[.val (.ref xx)] [(.int (1 : Int32))]))
            have CRz : CHr Z consts_1 s.vm s.heap T361.vm T361.heap := by
              rw [hh, e361]
              exact CR.trans (CHv.at X361 hZ hEL CH)
            refine own_retW X361 hx Bd hS (show _ ≤ T361.heap.size by rw [e361]; exact hk) (t := .boolean) Bd.returns rfl (Or.inl ⟨rfl, by simp, _, rfl⟩) (hb hby d6_47) CRz ?_ (by decide) (by decide)
            show (Q_rm_id Z xx tt cs gc gs h0 n0) (some (.int (1 : Int32))) T361.heap _
            rw [e361]
            exact ⟨_, rfl, N361, K358, Or.inl ⟨rfl, List.ne_nil_of_length_pos hpos, hh356, hh359, fun c hc q => hi_31 (q ▸ hc), fun c hc q => hi_39 (q ▸ hc)⟩⟩
def Q_rm_law (Z : State) (ln : Int32) (xa : Int32) (xb : Int32) (xc : Int32) (xd : Int32) (gc : Int32) (gs : Value) (h0 : Heap) (n0 : Nat) (v : Option Value) (h : Heap) (L : List Loc) : Prop := v = some (.int 1) ∧ Fr n0 L
theorem ef_rm_law (m : MethodId) (ln : Int32) (xa : Int32) (xb : Int32) (xc : Int32) (xd : Int32) (gc : Int32) (gs : Value) : entryFrame m #[(.int ln), (.int xa), (.int xb), (.int xc), (.int xd)] maxLocals = mkF m 0 #[.val (.int ln), .val (.int xa), .val (.int xb), .val (.int xc), .val (.int xd), .unset, .unset, .unset, .unset, .unset, .unset, .unset, .unset, .unset, .unset] [] := by first | (simp [entryFrame, mkF, argsToLocals, Value.category, maxLocals]; done) | rfl
set_option maxRecDepth 65536 in
set_option maxHeartbeats 40000000 in
theorem rm_law (l : Launch) (Z : State) (a0 : Array Value) (hw : ∀ d ∈ tables_1, d.before a0 Z = true) (ws : List Jvm.Cond) (hEL : EW Z a0 consts_1) (ln : Int32) (xa : Int32) (xb : Int32) (xc : Int32) (xd : Int32) (gc : Int32) (gs : Value) (h0 : Heap) (n0 : Nat) (Z0 : n0 ≤ h0.size) (S_F : Sta Z Z.heap "jdk/internal/util/Preconditions" "SIOOBE_FORMATTER" "Ljava/util/function/BiFunction;" gs) (hgs : gs.isRef = true) (S_C : Sta Z Z.heap "java/lang/String" "COMPACT_STRINGS" "Z" (.int gc)) (hcs : ¬ gc = 0) (O0 : Old Z n0 h0) (S_A : Sta Z Z.heap "java/lang/StringUTF16" "$assertionsDisabled" "Z" (.int (1 : Int32))) (S_H : Sta Z Z.heap "java/lang/StringUTF16" "HI_BYTE_SHIFT" "I" (.int (0 : Int32))) (S_L : Sta Z Z.heap "java/lang/StringUTF16" "LO_BYTE_SHIFT" "I" (.int (8 : Int32))) :
    MetFree l x (head1 (Jvm.Cond.code x code maxLocals ret :: ws) room_1) (fun a_ U_ => a_ = #[(.int ln), (.int xa), (.int xb), (.int xc), (.int xd)] ∧ Z.Warmed39 U_.vm ∧ U_.heap = h0 ∧ CHv Z consts_1 U_.vm h0) (fun _ _ _ _ _ => True) (fun _ U_ o_ V_ => ∃ v_ L_, o_ = .returned v_ ∧ (Q_rm_law Z ln xa xb xc xd gc gs h0 n0) v_ V_.heap L_ ∧ CHr Z consts_1 U_.vm U_.heap V_.vm V_.heap ∧ ReturnedEndW U_ o_ V_ L_ room_1.cells room_1.slots) := by
  refine MetFree.of_bodySF (plainFor_of_name pn_25) hisR ?_
  intro p e s m args below meth c s₁ Bd hml0 hP hK
  obtain ⟨rfl, hZ, hh, CH⟩ := hP
  have hx := Bd.exec
  have hby := Bd.bytes
  have hml : c.maxLocals = 15 := hml0
  have hown : s.vm.findClass "com/example/hebelwerk/hebelwerk/model/PublishedFolderIsIdPinLaw" = some m.cls := findClass_of_methodNamed Bd.named
  have hnm := (name_of_methodNamed Bd.named Bd.method).1
  have wS : ∀ a ∈ Bundle.stringAtoms, a.before a0 Z = true := fun d hd => hw d ((by decide +kernel : ∀ d ∈ Bundle.stringAtoms, d ∈ tables_1) d hd)
  have X0 : Stand p l e room_1 (s.setVm s.vm) m #[(.int ln), (.int xa), (.int xb), (.int xc), (.int xd)] below meth c s₁ [] 0 0 := Stand.of_body Bd
  have e0 : s₁.heap = h0 := by rw [← hh, Bd.state]; rfl
  have N0 := Fr.nil n0
  have K0 : Keep h0 h0 [] := Keep.refl _ _
  replace hZ : Z.Warmed39 (s.setVm s.vm).vm := hZ
  replace hown : (s.setVm s.vm).vm.findClass "com/example/hebelwerk/hebelwerk/model/PublishedFolderIsIdPinLaw" = some m.cls := hown
  have hS : s.Since s.vm h0.size := (State.WarmedH.refl s).since _
  have hk : h0.size ≤ h0.size := Nat.le_refl _
  have CR : CHr Z consts_1 s.vm h0 s.vm h0 := CHr.refl CH
  show own_Fin p.tables e below (own_PostW Z consts_1 (Q_rm_law Z ln xa xb xc xd gc gs h0 n0) room_1.cells room_1.slots below s) _
  refine own_go (fun _ q => castTop (ef_rm_law m ln xa xb xc xd gc gs) q) ?_
  refine own_go (fun _ q => XS.iloadN X0.here hx rfl (hb hby at_0) rfl q) ?_
  show own_Fin _ _ _ _ (s₁.setTop (mkF m 1 #[.val (.int ln), .val (.int xa), .val (.int xb), .val (.int xc), .val (.int xd), .unset, .unset, .unset, .unset, .unset, .unset, .unset, .unset, .unset, .unset] [(.int ln)]))
  refine own_go (fun _ q => Jvm.Stand.ldcI X0 hx hown (mvT hZ (own_w hw 0 rfl)) (g := (mkF m 1 #[.val (.int ln), .val (.int xa), .val (.int xb), .val (.int xc), .val (.int xd), .unset, .unset, .unset, .unset, .unset, .unset, .unset, .unset, .unset, .unset] [(.int ln)])) rfl (hb hby at_1) q) ?_
  show own_Fin _ _ _ _ (s₁.setTop (mkF m 3 #[.val (.int ln), .val (.int xa), .val (.int xb), .val (.int xc), .val (.int xd), .unset, .unset, .unset, .unset, .unset, .unset, .unset, .unset, .unset, .unset] [(.int (2147483647 : Int32)), (.int ln)]))
  refine own_go (fun _ q => XS.iand X0.here hx rfl (hb hby at_3) rfl q) ?_
  refine own_go (fun _ q => XS.iconst X0.here hx rfl (hb hby at_4) q) ?_
  show own_Fin _ _ _ _ (s₁.setTop (mkF m 5 #[.val (.int ln), .val (.int xa), .val (.int xb), .val (.int xc), .val (.int xd), .unset, .unset, .unset, .unset, .unset, .unset, .unset, .unset, .unset, .unset] [(.int (5 : Int32)), (.int (ln &&& (2147483647 : Int32)))]))
  refine own_go (fun _ q => iremM X0 hx rfl  (hb hby at_5) rfl (by decide) q) ?_
  show own_Fin _ _ _ _ (s₁.setTop (mkF m 6 #[.val (.int ln), .val (.int xa), .val (.int xb), .val (.int xc), .val (.int xd), .unset, .unset, .unset, .unset, .unset, .unset, .unset, .unset, .unset, .unset] [(.int ((ln &&& (2147483647 : Int32)) % (5 : Int32)))]))
  obtain ⟨nn, hn4, hmod⟩ := own_mod5 ln
  rw [hmod]
  refine own_go (fun _ q => XS.istore X0.here hx rfl (hb hby at_6) rfl (l' := #[.val (.int ln), .val (.int xa), .val (.int xb), .val (.int xc), .val (.int xd), .val (.int (Int32.ofNat nn)), .unset, .unset, .unset, .unset, .unset, .unset, .unset, .unset, .unset]) rfl q) ?_
  refine own_go (fun _ q => XS.iloadN X0.here hx rfl (hb hby at_8) rfl q) ?_
  show own_Fin _ _ _ _ (s₁.setTop (mkF m 9 #[.val (.int ln), .val (.int xa), .val (.int xb), .val (.int xc), .val (.int xd), .val (.int (Int32.ofNat nn)), .unset, .unset, .unset, .unset, .unset, .unset, .unset, .unset, .unset] [(.int xa)]))
  obtain ⟨_, _, ⟨T362, L362, k362, n362⟩, -, X362, ⟨Lc362, hQ362, l362, y362, z362⟩, st362⟩ := Jvm.LawKit.callS X0 hx (y := (⟨"com/example/hebelwerk/hebelwerk/model/PublishedFolderIsIdPinLaw", "draw", "(I)C"⟩ : MethodName)) hown (mvT hZ (own_w hw 1 rfl)) (mvT hZ (own_w hw 2 rfl)) (mvT hZ (own_w hw 3 rfl)) (mvT hZ (own_w hw 4 rfl)) (by decide) (backOf (W := 0) (rm_dr l Z a0 hw [] xa h0 n0 (Nat.le_trans Z0 K0.1)) hZ (own_w hw 4 rfl) (own_w hw 3 rfl) (by decide) (by decide)) (g := (mkF m 9 #[.val (.int ln), .val (.int xa), .val (.int xb), .val (.int xc), .val (.int xd), .val (.int (Int32.ofNat nn)), .unset, .unset, .unset, .unset, .unset, .unset, .unset, .unset, .unset] [(.int xa)])) rfl (by rw [hml]; rfl) (argsL := [(.int xa)]) (rest := []) (lenOf pd_30 rfl) rfl (by show 2 * 0 + _ ≤ _; exact Nat.le_of_eq rfl) (hb hby at_9) (fun _ _ => ⟨rfl, e0, (by decide : 0 + 0 ≤ _), (by decide : 0 + 0 ≤ _)⟩)
  dsimp only [Pt.U, Pt.locs, Pt.cells, Pt.slots] at X362 l362 y362 z362 st362 hQ362
  subst l362 y362 z362
  obtain ⟨ch0, rfl, N362q, e362, hb0_⟩ := hQ362
  have N362 := Fr.app N0 N362q
  refine own_go st362 ?_
  refine own_go (fun _ q => XS.istore X362.here hx rfl (hb hby at_12) rfl (l' := #[.val (.int ln), .val (.int xa), .val (.int xb), .val (.int xc), .val (.int xd), .val (.int (Int32.ofNat nn)), .val (.int ch0), .unset, .unset, .unset, .unset, .unset, .unset, .unset, .unset]) rfl q) ?_
  refine own_go (fun _ q => XS.iloadN X362.here hx rfl (hb hby at_14) rfl q) ?_
  show own_Fin _ _ _ _ (T362.setTop (mkF m 15 #[.val (.int ln), .val (.int xa), .val (.int xb), .val (.int xc), .val (.int xd), .val (.int (Int32.ofNat nn)), .val (.int ch0), .unset, .unset, .unset, .unset, .unset, .unset, .unset, .unset] [(.int xb)]))
  obtain ⟨_, _, ⟨T363, L363, k363, n363⟩, -, X363, ⟨Lc363, hQ363, l363, y363, z363⟩, st363⟩ := Jvm.LawKit.callS X362 hx (y := (⟨"com/example/hebelwerk/hebelwerk/model/PublishedFolderIsIdPinLaw", "draw", "(I)C"⟩ : MethodName)) hown (mvT hZ (own_w hw 1 rfl)) (mvT hZ (own_w hw 2 rfl)) (mvT hZ (own_w hw 3 rfl)) (mvT hZ (own_w hw 4 rfl)) (by decide) (backOf (W := 0) (rm_dr l Z a0 hw [] xb h0 n0 (Nat.le_trans Z0 K0.1)) hZ (own_w hw 4 rfl) (own_w hw 3 rfl) (by decide) (by decide)) (g := (mkF m 15 #[.val (.int ln), .val (.int xa), .val (.int xb), .val (.int xc), .val (.int xd), .val (.int (Int32.ofNat nn)), .val (.int ch0), .unset, .unset, .unset, .unset, .unset, .unset, .unset, .unset] [(.int xb)])) rfl (by rw [hml]; rfl) (argsL := [(.int xb)]) (rest := []) (lenOf pd_30 rfl) rfl (by show 2 * 0 + _ ≤ _; exact Nat.le_of_eq rfl) (hb hby at_15) (fun _ _ => ⟨rfl, e362, (by decide : 0 + 0 ≤ _), (by decide : 0 + 0 ≤ _)⟩)
  dsimp only [Pt.U, Pt.locs, Pt.cells, Pt.slots] at X363 l363 y363 z363 st363 hQ363
  subst l363 y363 z363
  obtain ⟨ch1, rfl, N363q, e363, hb1_⟩ := hQ363
  have N363 := Fr.app N362 N363q
  refine own_go st363 ?_
  refine own_go (fun _ q => XS.istore X363.here hx rfl (hb hby at_18) rfl (l' := #[.val (.int ln), .val (.int xa), .val (.int xb), .val (.int xc), .val (.int xd), .val (.int (Int32.ofNat nn)), .val (.int ch0), .val (.int ch1), .unset, .unset, .unset, .unset, .unset, .unset, .unset]) rfl q) ?_
  refine own_go (fun _ q => XS.iloadN X363.here hx rfl (hb hby at_20) rfl q) ?_
  show own_Fin _ _ _ _ (T363.setTop (mkF m 21 #[.val (.int ln), .val (.int xa), .val (.int xb), .val (.int xc), .val (.int xd), .val (.int (Int32.ofNat nn)), .val (.int ch0), .val (.int ch1), .unset, .unset, .unset, .unset, .unset, .unset, .unset] [(.int xc)]))
  obtain ⟨_, _, ⟨T364, L364, k364, n364⟩, -, X364, ⟨Lc364, hQ364, l364, y364, z364⟩, st364⟩ := Jvm.LawKit.callS X363 hx (y := (⟨"com/example/hebelwerk/hebelwerk/model/PublishedFolderIsIdPinLaw", "draw", "(I)C"⟩ : MethodName)) hown (mvT hZ (own_w hw 1 rfl)) (mvT hZ (own_w hw 2 rfl)) (mvT hZ (own_w hw 3 rfl)) (mvT hZ (own_w hw 4 rfl)) (by decide) (backOf (W := 0) (rm_dr l Z a0 hw [] xc h0 n0 (Nat.le_trans Z0 K0.1)) hZ (own_w hw 4 rfl) (own_w hw 3 rfl) (by decide) (by decide)) (g := (mkF m 21 #[.val (.int ln), .val (.int xa), .val (.int xb), .val (.int xc), .val (.int xd), .val (.int (Int32.ofNat nn)), .val (.int ch0), .val (.int ch1), .unset, .unset, .unset, .unset, .unset, .unset, .unset] [(.int xc)])) rfl (by rw [hml]; rfl) (argsL := [(.int xc)]) (rest := []) (lenOf pd_30 rfl) rfl (by show 2 * 0 + _ ≤ _; exact Nat.le_of_eq rfl) (hb hby at_21) (fun _ _ => ⟨rfl, e363, (by decide : 0 + 0 ≤ _), (by decide : 0 + 0 ≤ _)⟩)
  dsimp only [Pt.U, Pt.locs, Pt.cells, Pt.slots] at X364 l364 y364 z364 st364 hQ364
  subst l364 y364 z364
  obtain ⟨ch2, rfl, N364q, e364, hb2_⟩ := hQ364
  have N364 := Fr.app N363 N364q
  refine own_go st364 ?_
  refine own_go (fun _ q => XS.istore X364.here hx rfl (hb hby at_24) rfl (l' := #[.val (.int ln), .val (.int xa), .val (.int xb), .val (.int xc), .val (.int xd), .val (.int (Int32.ofNat nn)), .val (.int ch0), .val (.int ch1), .val (.int ch2), .unset, .unset, .unset, .unset, .unset, .unset]) rfl q) ?_
  refine own_go (fun _ q => XS.iload X364.here hx rfl (hb hby at_26) rfl q) ?_
  show own_Fin _ _ _ _ (T364.setTop (mkF m 28 #[.val (.int ln), .val (.int xa), .val (.int xb), .val (.int xc), .val (.int xd), .val (.int (Int32.ofNat nn)), .val (.int ch0), .val (.int ch1), .val (.int ch2), .unset, .unset, .unset, .unset, .unset, .unset] [(.int xd)]))
  obtain ⟨_, _, ⟨T365, L365, k365, n365⟩, -, X365, ⟨Lc365, hQ365, l365, y365, z365⟩, st365⟩ := Jvm.LawKit.callS X364 hx (y := (⟨"com/example/hebelwerk/hebelwerk/model/PublishedFolderIsIdPinLaw", "draw", "(I)C"⟩ : MethodName)) hown (mvT hZ (own_w hw 1 rfl)) (mvT hZ (own_w hw 2 rfl)) (mvT hZ (own_w hw 3 rfl)) (mvT hZ (own_w hw 4 rfl)) (by decide) (backOf (W := 0) (rm_dr l Z a0 hw [] xd h0 n0 (Nat.le_trans Z0 K0.1)) hZ (own_w hw 4 rfl) (own_w hw 3 rfl) (by decide) (by decide)) (g := (mkF m 28 #[.val (.int ln), .val (.int xa), .val (.int xb), .val (.int xc), .val (.int xd), .val (.int (Int32.ofNat nn)), .val (.int ch0), .val (.int ch1), .val (.int ch2), .unset, .unset, .unset, .unset, .unset, .unset] [(.int xd)])) rfl (by rw [hml]; rfl) (argsL := [(.int xd)]) (rest := []) (lenOf pd_30 rfl) rfl (by show 2 * 0 + _ ≤ _; exact Nat.le_of_eq rfl) (hb hby at_28) (fun _ _ => ⟨rfl, e364, (by decide : 0 + 0 ≤ _), (by decide : 0 + 0 ≤ _)⟩)
  dsimp only [Pt.U, Pt.locs, Pt.cells, Pt.slots] at X365 l365 y365 z365 st365 hQ365
  subst l365 y365 z365
  obtain ⟨ch3, rfl, N365q, e365, hb3_⟩ := hQ365
  have N365 := Fr.app N364 N365q
  refine own_go st365 ?_
  refine own_go (fun _ q => XS.istore X365.here hx rfl (hb hby at_31) rfl (l' := #[.val (.int ln), .val (.int xa), .val (.int xb), .val (.int xc), .val (.int xd), .val (.int (Int32.ofNat nn)), .val (.int ch0), .val (.int ch1), .val (.int ch2), .val (.int ch3), .unset, .unset, .unset, .unset, .unset]) rfl q) ?_
  have hb4 : ∀ c ∈ ([ch0, ch1, ch2, ch3] : List Int32), ¬ c < 0 ∧ ¬ (65535 : Int32) < c := by intro c hc; simp only [List.mem_cons, List.not_mem_nil, or_false] at hc; rcases hc with rfl | rfl | rfl | rfl <;> assumption
  refine own_go (fun _ q => XS.iload X365.here hx rfl (hb hby at_33) rfl q) ?_
  refine own_go (fun _ q => XS.iload X365.here hx rfl (hb hby at_35) rfl q) ?_
  refine own_go (fun _ q => XS.iload X365.here hx rfl (hb hby at_37) rfl q) ?_
  refine own_go (fun _ q => XS.iload X365.here hx rfl (hb hby at_39) rfl q) ?_
  refine own_go (fun _ q => XS.iload X365.here hx rfl (hb hby at_41) rfl q) ?_
  show own_Fin _ _ _ _ (T365.setTop (mkF m 43 #[.val (.int ln), .val (.int xa), .val (.int xb), .val (.int xc), .val (.int xd), .val (.int (Int32.ofNat nn)), .val (.int ch0), .val (.int ch1), .val (.int ch2), .val (.int ch3), .unset, .unset, .unset, .unset, .unset] [(.int ch3), (.int ch2), (.int ch1), (.int ch0), (.int (Int32.ofNat nn))]))
  obtain ⟨_, _, ⟨T366, L366, k366, n366⟩, -, X366, hSn366, hgr366, ⟨Lc366, hQ366, l366, y366, z366, CR366⟩, st366⟩ := callSS X365 hx (y := (⟨"com/example/hebelwerk/hebelwerk/model/PublishedFolderIsIdPinLaw", "text", "(ICCCC)Ljava/lang/String;"⟩ : MethodName)) hown (mvT hZ (own_w hw 6 rfl)) (mvT hZ (own_w hw 7 rfl)) (mvT hZ (own_w hw 3 rfl)) (mvT hZ (own_w hw 8 rfl)) (by decide) (backOfSH (s := s) (W := 0) (rm_tx l Z a0 hw [] hEL nn ch0 ch1 ch2 ch3 gc h0 n0 (Nat.le_trans Z0 K0.1) hn4 hb4 S_C hcs O0 S_A S_H S_L) hZ (own_w hw 8 rfl) (own_w hw 3 rfl) (by decide) (by decide) hEL CH) (g := (mkF m 43 #[.val (.int ln), .val (.int xa), .val (.int xb), .val (.int xc), .val (.int xd), .val (.int (Int32.ofNat nn)), .val (.int ch0), .val (.int ch1), .val (.int ch2), .val (.int ch3), .unset, .unset, .unset, .unset, .unset] [(.int ch3), (.int ch2), (.int ch1), (.int ch0), (.int (Int32.ofNat nn))])) rfl (by rw [hml]; rfl) (argsL := [(.int (Int32.ofNat nn)), (.int ch0), (.int ch1), (.int ch2), (.int ch3)]) (rest := []) (lenOf pd_31 rfl) rfl (by show 2 * 0 + _ ≤ _; exact Nat.le_of_eq rfl) (hb hby at_43) (fun _ _ => ⟨rfl, e365, (by decide : 0 + 6 ≤ _), (by decide : 0 + 20 ≤ _)⟩)
  dsimp only [Pt.U, Pt.locs, Pt.cells, Pt.slots] at X366 l366 y366 z366 st366 hQ366 hSn366 hgr366 CR366
  subst l366 y366 z366
  replace hS := foldS hS (show _ ≤ T365.heap.size by rw [e365]; exact hk) hSn366 hgr366
  replace hk : T366.heap.size ≤ T366.heap.size := Nat.le_refl _
  replace hZ : Z.Warmed39 (s.setVm T366.vm).vm := State.Warmed39.trans (t := s.setVm s.vm) hZ hSn366.1
  replace hown : (s.setVm T366.vm).vm.findClass "com/example/hebelwerk/hebelwerk/model/PublishedFolderIsIdPinLaw" = some m.cls := by rw [show (s.setVm T366.vm).vm = T366.vm from rfl, hSn366.1.alike.findClass]; exact hown
  replace X366 : Stand p l e room_1 (s.setVm T366.vm) m #[(.int ln), (.int xa), (.int xb), (.int xc), (.int xd)] below meth c T366 _ _ _ := X366
  replace CR := CR.trans CR366
  replace CH := CR366.1
  obtain ⟨x366, t366, rfl, N366q, KK366, SS366⟩ := hQ366
  have N366 := Fr.app N365 N366q
  replace O0 := O0.keep KK366 all0
  have K367 := K0.trans KK366 all0
  refine own_go (fun _ q => st366.trans q) ?_
  refine own_go (fun _ q => XS.astore X366.here hx rfl (hb hby at_46) rfl rfl (l' := #[.val (.int ln), .val (.int xa), .val (.int xb), .val (.int xc), .val (.int xd), .val (.int (Int32.ofNat nn)), .val (.int ch0), .val (.int ch1), .val (.int ch2), .val (.int ch3), .val (.ref x366), .unset, .unset, .unset, .unset]) rfl q) ?_
  refine own_go (fun _ q => XS.iconst X366.here hx rfl (hb hby at_48) q) ?_
  refine own_go (fun _ q => XS.istore X366.here hx rfl (hb hby at_49) rfl (l' := #[.val (.int ln), .val (.int xa), .val (.int xb), .val (.int xc), .val (.int xd), .val (.int (Int32.ofNat nn)), .val (.int ch0), .val (.int ch1), .val (.int ch2), .val (.int ch3), .val (.ref x366), .val (.int (0 : Int32)), .unset, .unset, .unset]) rfl q) ?_
  have J192 : ∀ (T' : State) (L' : List Loc) (fb dt dd ex : Int32), Stand p l e room_1 (s.setVm T366.vm) m #[(.int ln), (.int xa), (.int xb), (.int xc), (.int xd)] below meth c T' L' 6 20 → T'.heap = T366.heap → Fr n0 L' → ((ex = 1 ∧ own_id (List.take nn ([ch0, ch1, ch2, ch3] : List Int32))) ∨ (ex = 0 ∧ ¬ own_id (List.take nn ([ch0, ch1, ch2, ch3] : List Int32)))) → own_Fin p.tables e below (own_PostW Z consts_1 (Q_rm_law Z ln xa xb xc xd gc gs h0 n0) room_1.cells room_1.slots below s) (T'.setTop (mkF m 192 #[.val (.int ln), .val (.int xa), .val (.int xb), .val (.int xc), .val (.int xd), .val (.int (Int32.ofNat nn)), .val (.int ch0), .val (.int ch1), .val (.int ch2), .val (.int ch3), .val (.ref x366), .val (.int fb), .val (.int dt), .val (.int dd), .val (.int ex)] [])) := by
    intro T' L' fb dt dd ex X' e' N' hex
    refine own_go (fun _ q => XS.aload X'.here hx rfl (hb hby at_192) rfl rfl q) ?_
    show own_Fin _ _ _ _ (T'.setTop (mkF m 194 #[.val (.int ln), .val (.int xa), .val (.int xb), .val (.int xc), .val (.int xd), .val (.int (Int32.ofNat nn)), .val (.int ch0), .val (.int ch1), .val (.int ch2), .val (.int ch3), .val (.ref x366), .val (.int fb), .val (.int dt), .val (.int dd), .val (.int ex)] [(.ref x366)]))
    obtain ⟨_, _, ⟨T368, L368, k368, n368⟩, -, X368, hSn368, hgr368, ⟨Lc368, hQ368, l368, y368, z368, CR368⟩, st368⟩ := callSS X' hx (y := (⟨"com/example/hebelwerk/hebelwerk/model/PublishedFolder", "isId", "(Ljava/lang/String;)Z"⟩ : MethodName)) hown (mvT hZ (own_w hw 31 rfl)) (mvT hZ (own_w hw 32 rfl)) (mvT hZ (own_w hw 33 rfl)) (mvT hZ (own_w hw 34 rfl)) (by decide) (backOfSH (s := s) (W := 0) (rm_id l Z a0 hw [] hEL x366 t366 (List.take nn ([ch0, ch1, ch2, ch3] : List Int32)) gc gs T366.heap n0 (Nat.le_trans Z0 K367.1) SS366 own_take4 S_F hgs S_C hcs O0 S_A S_H S_L) hZ (own_w hw 34 rfl) (own_w hw 33 rfl) (by decide) (by decide) hEL CH) (g := (mkF m 194 #[.val (.int ln), .val (.int xa), .val (.int xb), .val (.int xc), .val (.int xd), .val (.int (Int32.ofNat nn)), .val (.int ch0), .val (.int ch1), .val (.int ch2), .val (.int ch3), .val (.ref x366), .val (.int fb), .val (.int dt), .val (.int dd), .val (.int ex)] [(.ref x366)])) rfl (by rw [hml]; rfl) (argsL := [(.ref x366)]) (rest := []) (lenOf pd_32 rfl) rfl (by show 2 * 0 + _ ≤ _; exact Nat.le_of_eq rfl) (hb hby at_194) (fun _ _ => ⟨rfl, e', (by decide : 6 + 4 ≤ _), (by decide : 20 + 20 ≤ _)⟩)
    dsimp only [Pt.U, Pt.locs, Pt.cells, Pt.slots] at X368 l368 y368 z368 st368 hQ368 hSn368 hgr368 CR368
    subst l368 y368 z368
    replace hS := foldS hS (show _ ≤ T'.heap.size by rw [e']; exact hk) hSn368 hgr368
    replace hk : T368.heap.size ≤ T368.heap.size := Nat.le_refl _
    replace hZ : Z.Warmed39 (s.setVm T368.vm).vm := State.Warmed39.trans (t := s.setVm T366.vm) hZ hSn368.1
    replace hown : (s.setVm T368.vm).vm.findClass "com/example/hebelwerk/hebelwerk/model/PublishedFolderIsIdPinLaw" = some m.cls := by rw [show (s.setVm T368.vm).vm = T368.vm from rfl, hSn368.1.alike.findClass]; exact hown
    replace X368 : Stand p l e room_1 (s.setVm T368.vm) m #[(.int ln), (.int xa), (.int xb), (.int xc), (.int xd)] below meth c T368 _ _ _ := X368
    replace CR := CR.trans CR368
    replace CH := CR368.1
    obtain ⟨z368, rfl, N368q, KK368, hz368⟩ := hQ368
    have N368 := Fr.app N' N368q
    replace O0 := O0.keep KK368 all0
    replace SS366 := SS366.keep KK368 nin0 nin0
    have K369 := K367.trans KK368 all0
    obtain rfl : z368 = ex := own_two hz368 hex
    refine own_go (fun _ q => st368.trans q) ?_
    refine own_go (fun _ q => XS.iload X368.here hx rfl (hb hby at_197) rfl q) ?_
    show own_Fin _ _ _ _ (T368.setTop (mkF m 199 #[.val (.int ln), .val (.int xa), .val (.int xb), .val (.int xc), .val (.int xd), .val (.int (Int32.ofNat nn)), .val (.int ch0), .val (.int ch1), .val (.int ch2), .val (.int ch3), .val (.ref x366), .val (.int fb), .val (.int dt), .val (.int dd), .val (.int z368)] [(.int z368), (.int z368)]))
    refine own_go (fun _ q => XS.icmpNo X368.here hx rfl (hb hby at_199) rfl (teq rfl).2 q) ?_
    refine own_go (fun _ q => XS.iconst X368.here hx rfl (hb hby at_202) q) ?_
    refine own_go (fun _ q => XS.goto X368.here hx rfl (pc0 := 203) (pc' := 207) rfl (hb hby at_203) (by decide) (by decide) q) ?_
    show own_Fin _ _ _ _ (T368.setTop (mkF m 207 #[.val (.int ln), .val (.int xa), .val (.int xb), .val (.int xc), .val (.int xd), .val (.int (Int32.ofNat nn)), .val (.int ch0), .val (.int ch1), .val (.int ch2), .val (.int ch3), .val (.ref x366), .val (.int fb), .val (.int dt), .val (.int dd), .val (.int z368)] [(.int (1 : Int32))]))
    have CRz : CHr Z consts_1 s.vm s.heap T368.vm T368.heap := by
      rw [hh]
      exact CR.trans (CHv.at X368 hZ hEL CH)
    refine own_retW X368 hx Bd hS hk (t := .boolean) Bd.returns rfl (Or.inl ⟨rfl, by simp, _, rfl⟩) (hb hby at_207) CRz ?_ (by decide) (by decide)
    show (Q_rm_law Z ln xa xb xc xd gc gs h0 n0) (some (.int (1 : Int32))) T368.heap _
    exact ⟨rfl, N368⟩
  have J165 : ∀ (T' : State) (L' : List Loc) (fb dt dd : Int32), Stand p l e room_1 (s.setVm T366.vm) m #[(.int ln), (.int xa), (.int xb), (.int xc), (.int xd)] below meth c T' L' 6 20 → T'.heap = T366.heap → Fr n0 L' → ((fb = 1 ∧ ((((False ∨ ((0 : Int32) < (Int32.ofNat nn) ∧ (ch0 = 47 ∨ ch0 = 0))) ∨ ((1 : Int32) < (Int32.ofNat nn) ∧ (ch1 = 47 ∨ ch1 = 0))) ∨ ((2 : Int32) < (Int32.ofNat nn) ∧ (ch2 = 47 ∨ ch2 = 0))) ∨ ((3 : Int32) < (Int32.ofNat nn) ∧ (ch3 = 47 ∨ ch3 = 0)))) ∨ (fb = 0 ∧ ¬ ((((False ∨ ((0 : Int32) < (Int32.ofNat nn) ∧ (ch0 = 47 ∨ ch0 = 0))) ∨ ((1 : Int32) < (Int32.ofNat nn) ∧ (ch1 = 47 ∨ ch1 = 0))) ∨ ((2 : Int32) < (Int32.ofNat nn) ∧ (ch2 = 47 ∨ ch2 = 0))) ∨ ((3 : Int32) < (Int32.ofNat nn) ∧ (ch3 = 47 ∨ ch3 = 0))))) → ((dt = 1 ∧ ((Int32.ofNat nn) = (1 : Int32) ∧ ch0 = (46 : Int32))) ∨ (dt = 0 ∧ ¬ ((Int32.ofNat nn) = (1 : Int32) ∧ ch0 = (46 : Int32)))) → ((dd = 1 ∧ ((Int32.ofNat nn) = (2 : Int32) ∧ ch0 = (46 : Int32) ∧ ch1 = (46 : Int32))) ∨ (dd = 0 ∧ ¬ ((Int32.ofNat nn) = (2 : Int32) ∧ ch0 = (46 : Int32) ∧ ch1 = (46 : Int32)))) → own_Fin p.tables e below (own_PostW Z consts_1 (Q_rm_law Z ln xa xb xc xd gc gs h0 n0) room_1.cells room_1.slots below s) (T'.setTop (mkF m 165 #[.val (.int ln), .val (.int xa), .val (.int xb), .val (.int xc), .val (.int xd), .val (.int (Int32.ofNat nn)), .val (.int ch0), .val (.int ch1), .val (.int ch2), .val (.int ch3), .val (.ref x366), .val (.int fb), .val (.int dt), .val (.int dd), .unset] [])) := by
    intro T' L' fb dt dd X' e' N' hfb hdt hdd
    refine own_go (fun _ q => XS.iload X'.here hx rfl (hb hby at_165) rfl q) ?_
    show own_Fin _ _ _ _ (T'.setTop (mkF m 167 #[.val (.int ln), .val (.int xa), .val (.int xb), .val (.int xc), .val (.int xd), .val (.int (Int32.ofNat nn)), .val (.int ch0), .val (.int ch1), .val (.int ch2), .val (.int ch3), .val (.ref x366), .val (.int fb), .val (.int dt), .val (.int dd), .unset] [(.int (Int32.ofNat nn))]))
    by_cases hc370 : (0 : Int32) < (Int32.ofNat nn)
    · skip
      refine own_go (fun _ q => XS.ifNo X'.here hx rfl (hb hby at_167) rfl ((if0 _ _).trans (tlt hc370).2.2.2) q) ?_
      refine own_go (fun _ q => XS.iload X'.here hx rfl (hb hby at_170) rfl q) ?_
      show own_Fin _ _ _ _ (T'.setTop (mkF m 172 #[.val (.int ln), .val (.int xa), .val (.int xb), .val (.int xc), .val (.int xd), .val (.int (Int32.ofNat nn)), .val (.int ch0), .val (.int ch1), .val (.int ch2), .val (.int ch3), .val (.ref x366), .val (.int fb), .val (.int dt), .val (.int dd), .unset] [(.int dt)]))
      by_cases hc371 : dt = (0 : Int32)
      · skip
        refine own_go (fun _ q => XS.ifNo X'.here hx rfl (hb hby at_172) rfl ((if0 _ _).trans (teq hc371).2) q) ?_
        refine own_go (fun _ q => XS.iload X'.here hx rfl (hb hby at_175) rfl q) ?_
        show own_Fin _ _ _ _ (T'.setTop (mkF m 177 #[.val (.int ln), .val (.int xa), .val (.int xb), .val (.int xc), .val (.int xd), .val (.int (Int32.ofNat nn)), .val (.int ch0), .val (.int ch1), .val (.int ch2), .val (.int ch3), .val (.ref x366), .val (.int fb), .val (.int dt), .val (.int dd), .unset] [(.int dd)]))
        by_cases hc372 : dd = (0 : Int32)
        · skip
          refine own_go (fun _ q => XS.ifNo X'.here hx rfl (hb hby at_177) rfl ((if0 _ _).trans (teq hc372).2) q) ?_
          refine own_go (fun _ q => XS.iload X'.here hx rfl (hb hby at_180) rfl q) ?_
          show own_Fin _ _ _ _ (T'.setTop (mkF m 182 #[.val (.int ln), .val (.int xa), .val (.int xb), .val (.int xc), .val (.int xd), .val (.int (Int32.ofNat nn)), .val (.int ch0), .val (.int ch1), .val (.int ch2), .val (.int ch3), .val (.ref x366), .val (.int fb), .val (.int dt), .val (.int dd), .unset] [(.int fb)]))
          by_cases hc373 : fb = (0 : Int32)
          · skip
            refine own_go (fun _ q => XS.ifNo X'.here hx rfl (hb hby at_182) rfl ((if0 _ _).trans (teq hc373).2) q) ?_
            refine own_go (fun _ q => XS.iconst X'.here hx rfl (hb hby at_185) q) ?_
            refine own_go (fun _ q => XS.goto X'.here hx rfl (pc0 := 186) (pc' := 190) rfl (hb hby at_186) (by decide) (by decide) q) ?_
            refine own_go (fun _ q => XS.istore X'.here hx rfl (hb hby at_190) rfl (l' := #[.val (.int ln), .val (.int xa), .val (.int xb), .val (.int xc), .val (.int xd), .val (.int (Int32.ofNat nn)), .val (.int ch0), .val (.int ch1), .val (.int ch2), .val (.int ch3), .val (.ref x366), .val (.int fb), .val (.int dt), .val (.int dd), .val (.int (1 : Int32))]) rfl q) ?_
            show own_Fin _ _ _ _ (T'.setTop (mkF m 192 #[.val (.int ln), .val (.int xa), .val (.int xb), .val (.int xc), .val (.int xd), .val (.int (Int32.ofNat nn)), .val (.int ch0), .val (.int ch1), .val (.int ch2), .val (.int ch3), .val (.ref x366), .val (.int fb), .val (.int dt), .val (.int dd), .val (.int (1 : Int32))] []))
            exact J192 _ _ _ _ _ _ X' e' N' (Or.inl ⟨rfl, (own_exp hn4).mp ⟨hc370, own_z hdt hc371, own_z hdd hc372, own_z hfb hc373⟩⟩)
          · skip
            refine own_go (fun _ q => XS.ifYes X'.here hx rfl (pc0 := 182) (pc' := 189) rfl (hb hby at_182) rfl ((if0 _ _).trans (feq hc373).2) (by decide) (by decide) q) ?_
            refine own_go (fun _ q => XS.iconst X'.here hx rfl (hb hby at_189) q) ?_
            refine own_go (fun _ q => XS.istore X'.here hx rfl (hb hby at_190) rfl (l' := #[.val (.int ln), .val (.int xa), .val (.int xb), .val (.int xc), .val (.int xd), .val (.int (Int32.ofNat nn)), .val (.int ch0), .val (.int ch1), .val (.int ch2), .val (.int ch3), .val (.ref x366), .val (.int fb), .val (.int dt), .val (.int dd), .val (.int (0 : Int32))]) rfl q) ?_
            show own_Fin _ _ _ _ (T'.setTop (mkF m 192 #[.val (.int ln), .val (.int xa), .val (.int xb), .val (.int xc), .val (.int xd), .val (.int (Int32.ofNat nn)), .val (.int ch0), .val (.int ch1), .val (.int ch2), .val (.int ch3), .val (.ref x366), .val (.int fb), .val (.int dt), .val (.int dd), .val (.int (0 : Int32))] []))
            exact J192 _ _ _ _ _ _ X' e' N' (Or.inr ⟨rfl, fun q => hc373 (own_nz hfb ((own_exp hn4).mpr q).2.2.2)⟩)
        · skip
          refine own_go (fun _ q => XS.ifYes X'.here hx rfl (pc0 := 177) (pc' := 189) rfl (hb hby at_177) rfl ((if0 _ _).trans (feq hc372).2) (by decide) (by decide) q) ?_
          refine own_go (fun _ q => XS.iconst X'.here hx rfl (hb hby at_189) q) ?_
          refine own_go (fun _ q => XS.istore X'.here hx rfl (hb hby at_190) rfl (l' := #[.val (.int ln), .val (.int xa), .val (.int xb), .val (.int xc), .val (.int xd), .val (.int (Int32.ofNat nn)), .val (.int ch0), .val (.int ch1), .val (.int ch2), .val (.int ch3), .val (.ref x366), .val (.int fb), .val (.int dt), .val (.int dd), .val (.int (0 : Int32))]) rfl q) ?_
          show own_Fin _ _ _ _ (T'.setTop (mkF m 192 #[.val (.int ln), .val (.int xa), .val (.int xb), .val (.int xc), .val (.int xd), .val (.int (Int32.ofNat nn)), .val (.int ch0), .val (.int ch1), .val (.int ch2), .val (.int ch3), .val (.ref x366), .val (.int fb), .val (.int dt), .val (.int dd), .val (.int (0 : Int32))] []))
          exact J192 _ _ _ _ _ _ X' e' N' (Or.inr ⟨rfl, fun q => hc372 (own_nz hdd ((own_exp hn4).mpr q).2.2.1)⟩)
      · skip
        refine own_go (fun _ q => XS.ifYes X'.here hx rfl (pc0 := 172) (pc' := 189) rfl (hb hby at_172) rfl ((if0 _ _).trans (feq hc371).2) (by decide) (by decide) q) ?_
        refine own_go (fun _ q => XS.iconst X'.here hx rfl (hb hby at_189) q) ?_
        refine own_go (fun _ q => XS.istore X'.here hx rfl (hb hby at_190) rfl (l' := #[.val (.int ln), .val (.int xa), .val (.int xb), .val (.int xc), .val (.int xd), .val (.int (Int32.ofNat nn)), .val (.int ch0), .val (.int ch1), .val (.int ch2), .val (.int ch3), .val (.ref x366), .val (.int fb), .val (.int dt), .val (.int dd), .val (.int (0 : Int32))]) rfl q) ?_
        show own_Fin _ _ _ _ (T'.setTop (mkF m 192 #[.val (.int ln), .val (.int xa), .val (.int xb), .val (.int xc), .val (.int xd), .val (.int (Int32.ofNat nn)), .val (.int ch0), .val (.int ch1), .val (.int ch2), .val (.int ch3), .val (.ref x366), .val (.int fb), .val (.int dt), .val (.int dd), .val (.int (0 : Int32))] []))
        exact J192 _ _ _ _ _ _ X' e' N' (Or.inr ⟨rfl, fun q => hc371 (own_nz hdt ((own_exp hn4).mpr q).2.1)⟩)
    · skip
      refine own_go (fun _ q => XS.ifYes X'.here hx rfl (pc0 := 167) (pc' := 189) rfl (hb hby at_167) rfl ((if0 _ _).trans (flt hc370).2.2.2) (by decide) (by decide) q) ?_
      refine own_go (fun _ q => XS.iconst X'.here hx rfl (hb hby at_189) q) ?_
      refine own_go (fun _ q => XS.istore X'.here hx rfl (hb hby at_190) rfl (l' := #[.val (.int ln), .val (.int xa), .val (.int xb), .val (.int xc), .val (.int xd), .val (.int (Int32.ofNat nn)), .val (.int ch0), .val (.int ch1), .val (.int ch2), .val (.int ch3), .val (.ref x366), .val (.int fb), .val (.int dt), .val (.int dd), .val (.int (0 : Int32))]) rfl q) ?_
      show own_Fin _ _ _ _ (T'.setTop (mkF m 192 #[.val (.int ln), .val (.int xa), .val (.int xb), .val (.int xc), .val (.int xd), .val (.int (Int32.ofNat nn)), .val (.int ch0), .val (.int ch1), .val (.int ch2), .val (.int ch3), .val (.ref x366), .val (.int fb), .val (.int dt), .val (.int dd), .val (.int (0 : Int32))] []))
      exact J192 _ _ _ _ _ _ X' e' N' (Or.inr ⟨rfl, fun q => hc370 ((own_exp hn4).mpr q).1⟩)
  have J138 : ∀ (T' : State) (L' : List Loc) (fb dt : Int32), Stand p l e room_1 (s.setVm T366.vm) m #[(.int ln), (.int xa), (.int xb), (.int xc), (.int xd)] below meth c T' L' 6 20 → T'.heap = T366.heap → Fr n0 L' → ((fb = 1 ∧ ((((False ∨ ((0 : Int32) < (Int32.ofNat nn) ∧ (ch0 = 47 ∨ ch0 = 0))) ∨ ((1 : Int32) < (Int32.ofNat nn) ∧ (ch1 = 47 ∨ ch1 = 0))) ∨ ((2 : Int32) < (Int32.ofNat nn) ∧ (ch2 = 47 ∨ ch2 = 0))) ∨ ((3 : Int32) < (Int32.ofNat nn) ∧ (ch3 = 47 ∨ ch3 = 0)))) ∨ (fb = 0 ∧ ¬ ((((False ∨ ((0 : Int32) < (Int32.ofNat nn) ∧ (ch0 = 47 ∨ ch0 = 0))) ∨ ((1 : Int32) < (Int32.ofNat nn) ∧ (ch1 = 47 ∨ ch1 = 0))) ∨ ((2 : Int32) < (Int32.ofNat nn) ∧ (ch2 = 47 ∨ ch2 = 0))) ∨ ((3 : Int32) < (Int32.ofNat nn) ∧ (ch3 = 47 ∨ ch3 = 0))))) → ((dt = 1 ∧ ((Int32.ofNat nn) = (1 : Int32) ∧ ch0 = (46 : Int32))) ∨ (dt = 0 ∧ ¬ ((Int32.ofNat nn) = (1 : Int32) ∧ ch0 = (46 : Int32)))) → own_Fin p.tables e below (own_PostW Z consts_1 (Q_rm_law Z ln xa xb xc xd gc gs h0 n0) room_1.cells room_1.slots below s) (T'.setTop (mkF m 138 #[.val (.int ln), .val (.int xa), .val (.int xb), .val (.int xc), .val (.int xd), .val (.int (Int32.ofNat nn)), .val (.int ch0), .val (.int ch1), .val (.int ch2), .val (.int ch3), .val (.ref x366), .val (.int fb), .val (.int dt), .unset, .unset] [])) := by
    intro T' L' fb dt X' e' N' hfb hdt
    refine own_go (fun _ q => XS.iload X'.here hx rfl (hb hby at_138) rfl q) ?_
    refine own_go (fun _ q => XS.iconst X'.here hx rfl (hb hby at_140) q) ?_
    show own_Fin _ _ _ _ (T'.setTop (mkF m 141 #[.val (.int ln), .val (.int xa), .val (.int xb), .val (.int xc), .val (.int xd), .val (.int (Int32.ofNat nn)), .val (.int ch0), .val (.int ch1), .val (.int ch2), .val (.int ch3), .val (.ref x366), .val (.int fb), .val (.int dt), .unset, .unset] [(.int (2 : Int32)), (.int (Int32.ofNat nn))]))
    by_cases hc374 : (Int32.ofNat nn) = (2 : Int32)
    · skip
      refine own_go (fun _ q => XS.icmpNo X'.here hx rfl (hb hby at_141) rfl (teq hc374).2 q) ?_
      refine own_go (fun _ q => XS.iload X'.here hx rfl (hb hby at_144) rfl q) ?_
      refine own_go (fun _ q => XS.bipush X'.here hx rfl (hb hby at_146) q) ?_
      show own_Fin _ _ _ _ (T'.setTop (mkF m 148 #[.val (.int ln), .val (.int xa), .val (.int xb), .val (.int xc), .val (.int xd), .val (.int (Int32.ofNat nn)), .val (.int ch0), .val (.int ch1), .val (.int ch2), .val (.int ch3), .val (.ref x366), .val (.int fb), .val (.int dt), .unset, .unset] [(.int (46 : Int32)), (.int ch0)]))
      by_cases hc375 : ch0 = (46 : Int32)
      · skip
        refine own_go (fun _ q => XS.icmpNo X'.here hx rfl (hb hby at_148) rfl (teq hc375).2 q) ?_
        refine own_go (fun _ q => XS.iload X'.here hx rfl (hb hby at_151) rfl q) ?_
        refine own_go (fun _ q => XS.bipush X'.here hx rfl (hb hby at_153) q) ?_
        show own_Fin _ _ _ _ (T'.setTop (mkF m 155 #[.val (.int ln), .val (.int xa), .val (.int xb), .val (.int xc), .val (.int xd), .val (.int (Int32.ofNat nn)), .val (.int ch0), .val (.int ch1), .val (.int ch2), .val (.int ch3), .val (.ref x366), .val (.int fb), .val (.int dt), .unset, .unset] [(.int (46 : Int32)), (.int ch1)]))
        by_cases hc376 : ch1 = (46 : Int32)
        · skip
          refine own_go (fun _ q => XS.icmpNo X'.here hx rfl (hb hby at_155) rfl (teq hc376).2 q) ?_
          refine own_go (fun _ q => XS.iconst X'.here hx rfl (hb hby at_158) q) ?_
          refine own_go (fun _ q => XS.goto X'.here hx rfl (pc0 := 159) (pc' := 163) rfl (hb hby at_159) (by decide) (by decide) q) ?_
          refine own_go (fun _ q => XS.istore X'.here hx rfl (hb hby at_163) rfl (l' := #[.val (.int ln), .val (.int xa), .val (.int xb), .val (.int xc), .val (.int xd), .val (.int (Int32.ofNat nn)), .val (.int ch0), .val (.int ch1), .val (.int ch2), .val (.int ch3), .val (.ref x366), .val (.int fb), .val (.int dt), .val (.int (1 : Int32)), .unset]) rfl q) ?_
          show own_Fin _ _ _ _ (T'.setTop (mkF m 165 #[.val (.int ln), .val (.int xa), .val (.int xb), .val (.int xc), .val (.int xd), .val (.int (Int32.ofNat nn)), .val (.int ch0), .val (.int ch1), .val (.int ch2), .val (.int ch3), .val (.ref x366), .val (.int fb), .val (.int dt), .val (.int (1 : Int32)), .unset] []))
          exact J165 _ _ _ _ _ X' e' N' (hfb) (hdt) (Or.inl ⟨rfl, hc374, hc375, hc376⟩)
        · skip
          refine own_go (fun _ q => XS.icmpYes X'.here hx rfl (pc0 := 155) (pc' := 162) rfl (hb hby at_155) rfl (feq hc376).2 (by decide) (by decide) q) ?_
          refine own_go (fun _ q => XS.iconst X'.here hx rfl (hb hby at_162) q) ?_
          refine own_go (fun _ q => XS.istore X'.here hx rfl (hb hby at_163) rfl (l' := #[.val (.int ln), .val (.int xa), .val (.int xb), .val (.int xc), .val (.int xd), .val (.int (Int32.ofNat nn)), .val (.int ch0), .val (.int ch1), .val (.int ch2), .val (.int ch3), .val (.ref x366), .val (.int fb), .val (.int dt), .val (.int (0 : Int32)), .unset]) rfl q) ?_
          show own_Fin _ _ _ _ (T'.setTop (mkF m 165 #[.val (.int ln), .val (.int xa), .val (.int xb), .val (.int xc), .val (.int xd), .val (.int (Int32.ofNat nn)), .val (.int ch0), .val (.int ch1), .val (.int ch2), .val (.int ch3), .val (.ref x366), .val (.int fb), .val (.int dt), .val (.int (0 : Int32)), .unset] []))
          exact J165 _ _ _ _ _ X' e' N' (hfb) (hdt) (Or.inr ⟨rfl, fun q => hc376 q.2.2⟩)
      · skip
        refine own_go (fun _ q => XS.icmpYes X'.here hx rfl (pc0 := 148) (pc' := 162) rfl (hb hby at_148) rfl (feq hc375).2 (by decide) (by decide) q) ?_
        refine own_go (fun _ q => XS.iconst X'.here hx rfl (hb hby at_162) q) ?_
        refine own_go (fun _ q => XS.istore X'.here hx rfl (hb hby at_163) rfl (l' := #[.val (.int ln), .val (.int xa), .val (.int xb), .val (.int xc), .val (.int xd), .val (.int (Int32.ofNat nn)), .val (.int ch0), .val (.int ch1), .val (.int ch2), .val (.int ch3), .val (.ref x366), .val (.int fb), .val (.int dt), .val (.int (0 : Int32)), .unset]) rfl q) ?_
        show own_Fin _ _ _ _ (T'.setTop (mkF m 165 #[.val (.int ln), .val (.int xa), .val (.int xb), .val (.int xc), .val (.int xd), .val (.int (Int32.ofNat nn)), .val (.int ch0), .val (.int ch1), .val (.int ch2), .val (.int ch3), .val (.ref x366), .val (.int fb), .val (.int dt), .val (.int (0 : Int32)), .unset] []))
        exact J165 _ _ _ _ _ X' e' N' (hfb) (hdt) (Or.inr ⟨rfl, fun q => hc375 q.2.1⟩)
    · skip
      refine own_go (fun _ q => XS.icmpYes X'.here hx rfl (pc0 := 141) (pc' := 162) rfl (hb hby at_141) rfl (feq hc374).2 (by decide) (by decide) q) ?_
      refine own_go (fun _ q => XS.iconst X'.here hx rfl (hb hby at_162) q) ?_
      refine own_go (fun _ q => XS.istore X'.here hx rfl (hb hby at_163) rfl (l' := #[.val (.int ln), .val (.int xa), .val (.int xb), .val (.int xc), .val (.int xd), .val (.int (Int32.ofNat nn)), .val (.int ch0), .val (.int ch1), .val (.int ch2), .val (.int ch3), .val (.ref x366), .val (.int fb), .val (.int dt), .val (.int (0 : Int32)), .unset]) rfl q) ?_
      show own_Fin _ _ _ _ (T'.setTop (mkF m 165 #[.val (.int ln), .val (.int xa), .val (.int xb), .val (.int xc), .val (.int xd), .val (.int (Int32.ofNat nn)), .val (.int ch0), .val (.int ch1), .val (.int ch2), .val (.int ch3), .val (.ref x366), .val (.int fb), .val (.int dt), .val (.int (0 : Int32)), .unset] []))
      exact J165 _ _ _ _ _ X' e' N' (hfb) (hdt) (Or.inr ⟨rfl, fun q => hc374 q.1⟩)
  have J118 : ∀ (T' : State) (L' : List Loc) (fb : Int32), Stand p l e room_1 (s.setVm T366.vm) m #[(.int ln), (.int xa), (.int xb), (.int xc), (.int xd)] below meth c T' L' 6 20 → T'.heap = T366.heap → Fr n0 L' → ((fb = 1 ∧ ((((False ∨ ((0 : Int32) < (Int32.ofNat nn) ∧ (ch0 = 47 ∨ ch0 = 0))) ∨ ((1 : Int32) < (Int32.ofNat nn) ∧ (ch1 = 47 ∨ ch1 = 0))) ∨ ((2 : Int32) < (Int32.ofNat nn) ∧ (ch2 = 47 ∨ ch2 = 0))) ∨ ((3 : Int32) < (Int32.ofNat nn) ∧ (ch3 = 47 ∨ ch3 = 0)))) ∨ (fb = 0 ∧ ¬ ((((False ∨ ((0 : Int32) < (Int32.ofNat nn) ∧ (ch0 = 47 ∨ ch0 = 0))) ∨ ((1 : Int32) < (Int32.ofNat nn) ∧ (ch1 = 47 ∨ ch1 = 0))) ∨ ((2 : Int32) < (Int32.ofNat nn) ∧ (ch2 = 47 ∨ ch2 = 0))) ∨ ((3 : Int32) < (Int32.ofNat nn) ∧ (ch3 = 47 ∨ ch3 = 0))))) → own_Fin p.tables e below (own_PostW Z consts_1 (Q_rm_law Z ln xa xb xc xd gc gs h0 n0) room_1.cells room_1.slots below s) (T'.setTop (mkF m 118 #[.val (.int ln), .val (.int xa), .val (.int xb), .val (.int xc), .val (.int xd), .val (.int (Int32.ofNat nn)), .val (.int ch0), .val (.int ch1), .val (.int ch2), .val (.int ch3), .val (.ref x366), .val (.int fb), .unset, .unset, .unset] [])) := by
    intro T' L' fb X' e' N' hfb
    refine own_go (fun _ q => XS.iload X'.here hx rfl (hb hby at_118) rfl q) ?_
    refine own_go (fun _ q => XS.iconst X'.here hx rfl (hb hby at_120) q) ?_
    show own_Fin _ _ _ _ (T'.setTop (mkF m 121 #[.val (.int ln), .val (.int xa), .val (.int xb), .val (.int xc), .val (.int xd), .val (.int (Int32.ofNat nn)), .val (.int ch0), .val (.int ch1), .val (.int ch2), .val (.int ch3), .val (.ref x366), .val (.int fb), .unset, .unset, .unset] [(.int (1 : Int32)), (.int (Int32.ofNat nn))]))
    by_cases hc377 : (Int32.ofNat nn) = (1 : Int32)
    · skip
      refine own_go (fun _ q => XS.icmpNo X'.here hx rfl (hb hby at_121) rfl (teq hc377).2 q) ?_
      refine own_go (fun _ q => XS.iload X'.here hx rfl (hb hby at_124) rfl q) ?_
      refine own_go (fun _ q => XS.bipush X'.here hx rfl (hb hby at_126) q) ?_
      show own_Fin _ _ _ _ (T'.setTop (mkF m 128 #[.val (.int ln), .val (.int xa), .val (.int xb), .val (.int xc), .val (.int xd), .val (.int (Int32.ofNat nn)), .val (.int ch0), .val (.int ch1), .val (.int ch2), .val (.int ch3), .val (.ref x366), .val (.int fb), .unset, .unset, .unset] [(.int (46 : Int32)), (.int ch0)]))
      by_cases hc378 : ch0 = (46 : Int32)
      · skip
        refine own_go (fun _ q => XS.icmpNo X'.here hx rfl (hb hby at_128) rfl (teq hc378).2 q) ?_
        refine own_go (fun _ q => XS.iconst X'.here hx rfl (hb hby at_131) q) ?_
        refine own_go (fun _ q => XS.goto X'.here hx rfl (pc0 := 132) (pc' := 136) rfl (hb hby at_132) (by decide) (by decide) q) ?_
        refine own_go (fun _ q => XS.istore X'.here hx rfl (hb hby at_136) rfl (l' := #[.val (.int ln), .val (.int xa), .val (.int xb), .val (.int xc), .val (.int xd), .val (.int (Int32.ofNat nn)), .val (.int ch0), .val (.int ch1), .val (.int ch2), .val (.int ch3), .val (.ref x366), .val (.int fb), .val (.int (1 : Int32)), .unset, .unset]) rfl q) ?_
        show own_Fin _ _ _ _ (T'.setTop (mkF m 138 #[.val (.int ln), .val (.int xa), .val (.int xb), .val (.int xc), .val (.int xd), .val (.int (Int32.ofNat nn)), .val (.int ch0), .val (.int ch1), .val (.int ch2), .val (.int ch3), .val (.ref x366), .val (.int fb), .val (.int (1 : Int32)), .unset, .unset] []))
        exact J138 _ _ _ _ X' e' N' (hfb) (Or.inl ⟨rfl, hc377, hc378⟩)
      · skip
        refine own_go (fun _ q => XS.icmpYes X'.here hx rfl (pc0 := 128) (pc' := 135) rfl (hb hby at_128) rfl (feq hc378).2 (by decide) (by decide) q) ?_
        refine own_go (fun _ q => XS.iconst X'.here hx rfl (hb hby at_135) q) ?_
        refine own_go (fun _ q => XS.istore X'.here hx rfl (hb hby at_136) rfl (l' := #[.val (.int ln), .val (.int xa), .val (.int xb), .val (.int xc), .val (.int xd), .val (.int (Int32.ofNat nn)), .val (.int ch0), .val (.int ch1), .val (.int ch2), .val (.int ch3), .val (.ref x366), .val (.int fb), .val (.int (0 : Int32)), .unset, .unset]) rfl q) ?_
        show own_Fin _ _ _ _ (T'.setTop (mkF m 138 #[.val (.int ln), .val (.int xa), .val (.int xb), .val (.int xc), .val (.int xd), .val (.int (Int32.ofNat nn)), .val (.int ch0), .val (.int ch1), .val (.int ch2), .val (.int ch3), .val (.ref x366), .val (.int fb), .val (.int (0 : Int32)), .unset, .unset] []))
        exact J138 _ _ _ _ X' e' N' (hfb) (Or.inr ⟨rfl, fun q => hc378 q.2⟩)
    · skip
      refine own_go (fun _ q => XS.icmpYes X'.here hx rfl (pc0 := 121) (pc' := 135) rfl (hb hby at_121) rfl (feq hc377).2 (by decide) (by decide) q) ?_
      refine own_go (fun _ q => XS.iconst X'.here hx rfl (hb hby at_135) q) ?_
      refine own_go (fun _ q => XS.istore X'.here hx rfl (hb hby at_136) rfl (l' := #[.val (.int ln), .val (.int xa), .val (.int xb), .val (.int xc), .val (.int xd), .val (.int (Int32.ofNat nn)), .val (.int ch0), .val (.int ch1), .val (.int ch2), .val (.int ch3), .val (.ref x366), .val (.int fb), .val (.int (0 : Int32)), .unset, .unset]) rfl q) ?_
      show own_Fin _ _ _ _ (T'.setTop (mkF m 138 #[.val (.int ln), .val (.int xa), .val (.int xb), .val (.int xc), .val (.int xd), .val (.int (Int32.ofNat nn)), .val (.int ch0), .val (.int ch1), .val (.int ch2), .val (.int ch3), .val (.ref x366), .val (.int fb), .val (.int (0 : Int32)), .unset, .unset] []))
      exact J138 _ _ _ _ X' e' N' (hfb) (Or.inr ⟨rfl, fun q => hc377 q.1⟩)
  have J101 : ∀ (T' : State) (L' : List Loc) (fb : Int32), Stand p l e room_1 (s.setVm T366.vm) m #[(.int ln), (.int xa), (.int xb), (.int xc), (.int xd)] below meth c T' L' 6 20 → T'.heap = T366.heap → Fr n0 L' → ((fb = 1 ∧ (((False ∨ ((0 : Int32) < (Int32.ofNat nn) ∧ (ch0 = 47 ∨ ch0 = 0))) ∨ ((1 : Int32) < (Int32.ofNat nn) ∧ (ch1 = 47 ∨ ch1 = 0))) ∨ ((2 : Int32) < (Int32.ofNat nn) ∧ (ch2 = 47 ∨ ch2 = 0)))) ∨ (fb = 0 ∧ ¬ (((False ∨ ((0 : Int32) < (Int32.ofNat nn) ∧ (ch0 = 47 ∨ ch0 = 0))) ∨ ((1 : Int32) < (Int32.ofNat nn) ∧ (ch1 = 47 ∨ ch1 = 0))) ∨ ((2 : Int32) < (Int32.ofNat nn) ∧ (ch2 = 47 ∨ ch2 = 0))))) → own_Fin p.tables e below (own_PostW Z consts_1 (Q_rm_law Z ln xa xb xc xd gc gs h0 n0) room_1.cells room_1.slots below s) (T'.setTop (mkF m 101 #[.val (.int ln), .val (.int xa), .val (.int xb), .val (.int xc), .val (.int xd), .val (.int (Int32.ofNat nn)), .val (.int ch0), .val (.int ch1), .val (.int ch2), .val (.int ch3), .val (.ref x366), .val (.int fb), .unset, .unset, .unset] [])) := by
    intro T' L' fb X' e' N' hfb
    refine own_go (fun _ q => XS.iload X'.here hx rfl (hb hby at_101) rfl q) ?_
    refine own_go (fun _ q => XS.iconst X'.here hx rfl (hb hby at_103) q) ?_
    show own_Fin _ _ _ _ (T'.setTop (mkF m 104 #[.val (.int ln), .val (.int xa), .val (.int xb), .val (.int xc), .val (.int xd), .val (.int (Int32.ofNat nn)), .val (.int ch0), .val (.int ch1), .val (.int ch2), .val (.int ch3), .val (.ref x366), .val (.int fb), .unset, .unset, .unset] [(.int (3 : Int32)), (.int (Int32.ofNat nn))]))
    by_cases hc379 : (3 : Int32) < (Int32.ofNat nn)
    · skip
      refine own_go (fun _ q => XS.icmpNo X'.here hx rfl (hb hby at_104) rfl (tlt hc379).2.2.2 q) ?_
      refine own_go (fun _ q => XS.iload X'.here hx rfl (hb hby at_107) rfl q) ?_
      show own_Fin _ _ _ _ (T'.setTop (mkF m 109 #[.val (.int ln), .val (.int xa), .val (.int xb), .val (.int xc), .val (.int xd), .val (.int (Int32.ofNat nn)), .val (.int ch0), .val (.int ch1), .val (.int ch2), .val (.int ch3), .val (.ref x366), .val (.int fb), .unset, .unset, .unset] [(.int ch3)]))
      obtain ⟨_, _, ⟨T380, L380, k380, n380⟩, -, X380, ⟨Lc380, hQ380, l380, y380, z380⟩, st380⟩ := Jvm.LawKit.callS X' hx (y := (⟨"com/example/hebelwerk/hebelwerk/model/PublishedFolderIsIdPinLaw", "bad", "(C)Z"⟩ : MethodName)) hown (mvT hZ (own_w hw 51 rfl)) (mvT hZ (own_w hw 52 rfl)) (mvT hZ (own_w hw 3 rfl)) (mvT hZ (own_w hw 53 rfl)) (by decide) (backOf (W := 0) (rm_bad l Z a0 hw [] ch3 T366.heap n0 (Nat.le_trans Z0 K367.1)) hZ (own_w hw 53 rfl) (own_w hw 3 rfl) (by decide) (by decide)) (g := (mkF m 109 #[.val (.int ln), .val (.int xa), .val (.int xb), .val (.int xc), .val (.int xd), .val (.int (Int32.ofNat nn)), .val (.int ch0), .val (.int ch1), .val (.int ch2), .val (.int ch3), .val (.ref x366), .val (.int fb), .unset, .unset, .unset] [(.int ch3)])) rfl (by rw [hml]; rfl) (argsL := [(.int ch3)]) (rest := []) (lenOf pd_11 rfl) rfl (by show 2 * 0 + _ ≤ _; exact Nat.le_of_eq rfl) (hb hby at_109) (fun _ _ => ⟨rfl, e', (by decide : 6 + 0 ≤ _), (by decide : 20 + 0 ≤ _)⟩)
      dsimp only [Pt.U, Pt.locs, Pt.cells, Pt.slots] at X380 l380 y380 z380 st380 hQ380
      subst l380 y380 z380
      obtain ⟨z380, rfl, N380q, e380, hz380⟩ := hQ380
      have N380 := Fr.app N' N380q
      rcases hz380 with ⟨rfl, hh380⟩ | ⟨rfl, hh380⟩
      · skip
        refine own_go st380 ?_
        show own_Fin _ _ _ _ (T380.setTop (mkF m 112 #[.val (.int ln), .val (.int xa), .val (.int xb), .val (.int xc), .val (.int xd), .val (.int (Int32.ofNat nn)), .val (.int ch0), .val (.int ch1), .val (.int ch2), .val (.int ch3), .val (.ref x366), .val (.int fb), .unset, .unset, .unset] [(.int (1 : Int32))]))
        refine own_go (fun _ q => XS.ifNo X380.here hx rfl (hb hby at_112) rfl ((if0 _ _).trans (feq (by decide : ¬ (1 : Int32) = (0 : Int32))).1) q) ?_
        refine own_go (fun _ q => XS.iconst X380.here hx rfl (hb hby at_115) q) ?_
        refine own_go (fun _ q => XS.istore X380.here hx rfl (hb hby at_116) rfl (l' := #[.val (.int ln), .val (.int xa), .val (.int xb), .val (.int xc), .val (.int xd), .val (.int (Int32.ofNat nn)), .val (.int ch0), .val (.int ch1), .val (.int ch2), .val (.int ch3), .val (.ref x366), .val (.int (1 : Int32)), .unset, .unset, .unset]) rfl q) ?_
        show own_Fin _ _ _ _ (T380.setTop (mkF m 118 #[.val (.int ln), .val (.int xa), .val (.int xb), .val (.int xc), .val (.int xd), .val (.int (Int32.ofNat nn)), .val (.int ch0), .val (.int ch1), .val (.int ch2), .val (.int ch3), .val (.ref x366), .val (.int (1 : Int32)), .unset, .unset, .unset] []))
        exact J118 _ _ _ X380 e380 N380 (own_fs ⟨hc379, hh380⟩)
      · skip
        refine own_go st380 ?_
        show own_Fin _ _ _ _ (T380.setTop (mkF m 112 #[.val (.int ln), .val (.int xa), .val (.int xb), .val (.int xc), .val (.int xd), .val (.int (Int32.ofNat nn)), .val (.int ch0), .val (.int ch1), .val (.int ch2), .val (.int ch3), .val (.ref x366), .val (.int fb), .unset, .unset, .unset] [(.int (0 : Int32))]))
        refine own_go (fun _ q => XS.ifYes X380.here hx rfl (pc0 := 112) (pc' := 118) rfl (hb hby at_112) rfl ((if0 _ _).trans (teq (by decide : (0 : Int32) = (0 : Int32))).1) (by decide) (by decide) q) ?_
        show own_Fin _ _ _ _ (T380.setTop (mkF m 118 #[.val (.int ln), .val (.int xa), .val (.int xb), .val (.int xc), .val (.int xd), .val (.int (Int32.ofNat nn)), .val (.int ch0), .val (.int ch1), .val (.int ch2), .val (.int ch3), .val (.ref x366), .val (.int fb), .unset, .unset, .unset] []))
        exact J118 _ _ _ X380 e380 N380 (own_fk hfb (fun q => hh380 q.2))
    · skip
      refine own_go (fun _ q => XS.icmpYes X'.here hx rfl (pc0 := 104) (pc' := 118) rfl (hb hby at_104) rfl (flt hc379).2.2.2 (by decide) (by decide) q) ?_
      show own_Fin _ _ _ _ (T'.setTop (mkF m 118 #[.val (.int ln), .val (.int xa), .val (.int xb), .val (.int xc), .val (.int xd), .val (.int (Int32.ofNat nn)), .val (.int ch0), .val (.int ch1), .val (.int ch2), .val (.int ch3), .val (.ref x366), .val (.int fb), .unset, .unset, .unset] []))
      exact J118 _ _ _ X' e' N' (own_fk hfb (fun q => hc379 q.1))
  have J84 : ∀ (T' : State) (L' : List Loc) (fb : Int32), Stand p l e room_1 (s.setVm T366.vm) m #[(.int ln), (.int xa), (.int xb), (.int xc), (.int xd)] below meth c T' L' 6 20 → T'.heap = T366.heap → Fr n0 L' → ((fb = 1 ∧ ((False ∨ ((0 : Int32) < (Int32.ofNat nn) ∧ (ch0 = 47 ∨ ch0 = 0))) ∨ ((1 : Int32) < (Int32.ofNat nn) ∧ (ch1 = 47 ∨ ch1 = 0)))) ∨ (fb = 0 ∧ ¬ ((False ∨ ((0 : Int32) < (Int32.ofNat nn) ∧ (ch0 = 47 ∨ ch0 = 0))) ∨ ((1 : Int32) < (Int32.ofNat nn) ∧ (ch1 = 47 ∨ ch1 = 0))))) → own_Fin p.tables e below (own_PostW Z consts_1 (Q_rm_law Z ln xa xb xc xd gc gs h0 n0) room_1.cells room_1.slots below s) (T'.setTop (mkF m 84 #[.val (.int ln), .val (.int xa), .val (.int xb), .val (.int xc), .val (.int xd), .val (.int (Int32.ofNat nn)), .val (.int ch0), .val (.int ch1), .val (.int ch2), .val (.int ch3), .val (.ref x366), .val (.int fb), .unset, .unset, .unset] [])) := by
    intro T' L' fb X' e' N' hfb
    refine own_go (fun _ q => XS.iload X'.here hx rfl (hb hby at_84) rfl q) ?_
    refine own_go (fun _ q => XS.iconst X'.here hx rfl (hb hby at_86) q) ?_
    show own_Fin _ _ _ _ (T'.setTop (mkF m 87 #[.val (.int ln), .val (.int xa), .val (.int xb), .val (.int xc), .val (.int xd), .val (.int (Int32.ofNat nn)), .val (.int ch0), .val (.int ch1), .val (.int ch2), .val (.int ch3), .val (.ref x366), .val (.int fb), .unset, .unset, .unset] [(.int (2 : Int32)), (.int (Int32.ofNat nn))]))
    by_cases hc381 : (2 : Int32) < (Int32.ofNat nn)
    · skip
      refine own_go (fun _ q => XS.icmpNo X'.here hx rfl (hb hby at_87) rfl (tlt hc381).2.2.2 q) ?_
      refine own_go (fun _ q => XS.iload X'.here hx rfl (hb hby at_90) rfl q) ?_
      show own_Fin _ _ _ _ (T'.setTop (mkF m 92 #[.val (.int ln), .val (.int xa), .val (.int xb), .val (.int xc), .val (.int xd), .val (.int (Int32.ofNat nn)), .val (.int ch0), .val (.int ch1), .val (.int ch2), .val (.int ch3), .val (.ref x366), .val (.int fb), .unset, .unset, .unset] [(.int ch2)]))
      obtain ⟨_, _, ⟨T382, L382, k382, n382⟩, -, X382, ⟨Lc382, hQ382, l382, y382, z382⟩, st382⟩ := Jvm.LawKit.callS X' hx (y := (⟨"com/example/hebelwerk/hebelwerk/model/PublishedFolderIsIdPinLaw", "bad", "(C)Z"⟩ : MethodName)) hown (mvT hZ (own_w hw 51 rfl)) (mvT hZ (own_w hw 52 rfl)) (mvT hZ (own_w hw 3 rfl)) (mvT hZ (own_w hw 53 rfl)) (by decide) (backOf (W := 0) (rm_bad l Z a0 hw [] ch2 T366.heap n0 (Nat.le_trans Z0 K367.1)) hZ (own_w hw 53 rfl) (own_w hw 3 rfl) (by decide) (by decide)) (g := (mkF m 92 #[.val (.int ln), .val (.int xa), .val (.int xb), .val (.int xc), .val (.int xd), .val (.int (Int32.ofNat nn)), .val (.int ch0), .val (.int ch1), .val (.int ch2), .val (.int ch3), .val (.ref x366), .val (.int fb), .unset, .unset, .unset] [(.int ch2)])) rfl (by rw [hml]; rfl) (argsL := [(.int ch2)]) (rest := []) (lenOf pd_11 rfl) rfl (by show 2 * 0 + _ ≤ _; exact Nat.le_of_eq rfl) (hb hby at_92) (fun _ _ => ⟨rfl, e', (by decide : 6 + 0 ≤ _), (by decide : 20 + 0 ≤ _)⟩)
      dsimp only [Pt.U, Pt.locs, Pt.cells, Pt.slots] at X382 l382 y382 z382 st382 hQ382
      subst l382 y382 z382
      obtain ⟨z382, rfl, N382q, e382, hz382⟩ := hQ382
      have N382 := Fr.app N' N382q
      rcases hz382 with ⟨rfl, hh382⟩ | ⟨rfl, hh382⟩
      · skip
        refine own_go st382 ?_
        show own_Fin _ _ _ _ (T382.setTop (mkF m 95 #[.val (.int ln), .val (.int xa), .val (.int xb), .val (.int xc), .val (.int xd), .val (.int (Int32.ofNat nn)), .val (.int ch0), .val (.int ch1), .val (.int ch2), .val (.int ch3), .val (.ref x366), .val (.int fb), .unset, .unset, .unset] [(.int (1 : Int32))]))
        refine own_go (fun _ q => XS.ifNo X382.here hx rfl (hb hby at_95) rfl ((if0 _ _).trans (feq (by decide : ¬ (1 : Int32) = (0 : Int32))).1) q) ?_
        refine own_go (fun _ q => XS.iconst X382.here hx rfl (hb hby at_98) q) ?_
        refine own_go (fun _ q => XS.istore X382.here hx rfl (hb hby at_99) rfl (l' := #[.val (.int ln), .val (.int xa), .val (.int xb), .val (.int xc), .val (.int xd), .val (.int (Int32.ofNat nn)), .val (.int ch0), .val (.int ch1), .val (.int ch2), .val (.int ch3), .val (.ref x366), .val (.int (1 : Int32)), .unset, .unset, .unset]) rfl q) ?_
        show own_Fin _ _ _ _ (T382.setTop (mkF m 101 #[.val (.int ln), .val (.int xa), .val (.int xb), .val (.int xc), .val (.int xd), .val (.int (Int32.ofNat nn)), .val (.int ch0), .val (.int ch1), .val (.int ch2), .val (.int ch3), .val (.ref x366), .val (.int (1 : Int32)), .unset, .unset, .unset] []))
        exact J101 _ _ _ X382 e382 N382 (own_fs ⟨hc381, hh382⟩)
      · skip
        refine own_go st382 ?_
        show own_Fin _ _ _ _ (T382.setTop (mkF m 95 #[.val (.int ln), .val (.int xa), .val (.int xb), .val (.int xc), .val (.int xd), .val (.int (Int32.ofNat nn)), .val (.int ch0), .val (.int ch1), .val (.int ch2), .val (.int ch3), .val (.ref x366), .val (.int fb), .unset, .unset, .unset] [(.int (0 : Int32))]))
        refine own_go (fun _ q => XS.ifYes X382.here hx rfl (pc0 := 95) (pc' := 101) rfl (hb hby at_95) rfl ((if0 _ _).trans (teq (by decide : (0 : Int32) = (0 : Int32))).1) (by decide) (by decide) q) ?_
        show own_Fin _ _ _ _ (T382.setTop (mkF m 101 #[.val (.int ln), .val (.int xa), .val (.int xb), .val (.int xc), .val (.int xd), .val (.int (Int32.ofNat nn)), .val (.int ch0), .val (.int ch1), .val (.int ch2), .val (.int ch3), .val (.ref x366), .val (.int fb), .unset, .unset, .unset] []))
        exact J101 _ _ _ X382 e382 N382 (own_fk hfb (fun q => hh382 q.2))
    · skip
      refine own_go (fun _ q => XS.icmpYes X'.here hx rfl (pc0 := 87) (pc' := 101) rfl (hb hby at_87) rfl (flt hc381).2.2.2 (by decide) (by decide) q) ?_
      show own_Fin _ _ _ _ (T'.setTop (mkF m 101 #[.val (.int ln), .val (.int xa), .val (.int xb), .val (.int xc), .val (.int xd), .val (.int (Int32.ofNat nn)), .val (.int ch0), .val (.int ch1), .val (.int ch2), .val (.int ch3), .val (.ref x366), .val (.int fb), .unset, .unset, .unset] []))
      exact J101 _ _ _ X' e' N' (own_fk hfb (fun q => hc381 q.1))
  have J67 : ∀ (T' : State) (L' : List Loc) (fb : Int32), Stand p l e room_1 (s.setVm T366.vm) m #[(.int ln), (.int xa), (.int xb), (.int xc), (.int xd)] below meth c T' L' 6 20 → T'.heap = T366.heap → Fr n0 L' → ((fb = 1 ∧ (False ∨ ((0 : Int32) < (Int32.ofNat nn) ∧ (ch0 = 47 ∨ ch0 = 0)))) ∨ (fb = 0 ∧ ¬ (False ∨ ((0 : Int32) < (Int32.ofNat nn) ∧ (ch0 = 47 ∨ ch0 = 0))))) → own_Fin p.tables e below (own_PostW Z consts_1 (Q_rm_law Z ln xa xb xc xd gc gs h0 n0) room_1.cells room_1.slots below s) (T'.setTop (mkF m 67 #[.val (.int ln), .val (.int xa), .val (.int xb), .val (.int xc), .val (.int xd), .val (.int (Int32.ofNat nn)), .val (.int ch0), .val (.int ch1), .val (.int ch2), .val (.int ch3), .val (.ref x366), .val (.int fb), .unset, .unset, .unset] [])) := by
    intro T' L' fb X' e' N' hfb
    refine own_go (fun _ q => XS.iload X'.here hx rfl (hb hby at_67) rfl q) ?_
    refine own_go (fun _ q => XS.iconst X'.here hx rfl (hb hby at_69) q) ?_
    show own_Fin _ _ _ _ (T'.setTop (mkF m 70 #[.val (.int ln), .val (.int xa), .val (.int xb), .val (.int xc), .val (.int xd), .val (.int (Int32.ofNat nn)), .val (.int ch0), .val (.int ch1), .val (.int ch2), .val (.int ch3), .val (.ref x366), .val (.int fb), .unset, .unset, .unset] [(.int (1 : Int32)), (.int (Int32.ofNat nn))]))
    by_cases hc383 : (1 : Int32) < (Int32.ofNat nn)
    · skip
      refine own_go (fun _ q => XS.icmpNo X'.here hx rfl (hb hby at_70) rfl (tlt hc383).2.2.2 q) ?_
      refine own_go (fun _ q => XS.iload X'.here hx rfl (hb hby at_73) rfl q) ?_
      show own_Fin _ _ _ _ (T'.setTop (mkF m 75 #[.val (.int ln), .val (.int xa), .val (.int xb), .val (.int xc), .val (.int xd), .val (.int (Int32.ofNat nn)), .val (.int ch0), .val (.int ch1), .val (.int ch2), .val (.int ch3), .val (.ref x366), .val (.int fb), .unset, .unset, .unset] [(.int ch1)]))
      obtain ⟨_, _, ⟨T384, L384, k384, n384⟩, -, X384, ⟨Lc384, hQ384, l384, y384, z384⟩, st384⟩ := Jvm.LawKit.callS X' hx (y := (⟨"com/example/hebelwerk/hebelwerk/model/PublishedFolderIsIdPinLaw", "bad", "(C)Z"⟩ : MethodName)) hown (mvT hZ (own_w hw 51 rfl)) (mvT hZ (own_w hw 52 rfl)) (mvT hZ (own_w hw 3 rfl)) (mvT hZ (own_w hw 53 rfl)) (by decide) (backOf (W := 0) (rm_bad l Z a0 hw [] ch1 T366.heap n0 (Nat.le_trans Z0 K367.1)) hZ (own_w hw 53 rfl) (own_w hw 3 rfl) (by decide) (by decide)) (g := (mkF m 75 #[.val (.int ln), .val (.int xa), .val (.int xb), .val (.int xc), .val (.int xd), .val (.int (Int32.ofNat nn)), .val (.int ch0), .val (.int ch1), .val (.int ch2), .val (.int ch3), .val (.ref x366), .val (.int fb), .unset, .unset, .unset] [(.int ch1)])) rfl (by rw [hml]; rfl) (argsL := [(.int ch1)]) (rest := []) (lenOf pd_11 rfl) rfl (by show 2 * 0 + _ ≤ _; exact Nat.le_of_eq rfl) (hb hby at_75) (fun _ _ => ⟨rfl, e', (by decide : 6 + 0 ≤ _), (by decide : 20 + 0 ≤ _)⟩)
      dsimp only [Pt.U, Pt.locs, Pt.cells, Pt.slots] at X384 l384 y384 z384 st384 hQ384
      subst l384 y384 z384
      obtain ⟨z384, rfl, N384q, e384, hz384⟩ := hQ384
      have N384 := Fr.app N' N384q
      rcases hz384 with ⟨rfl, hh384⟩ | ⟨rfl, hh384⟩
      · skip
        refine own_go st384 ?_
        show own_Fin _ _ _ _ (T384.setTop (mkF m 78 #[.val (.int ln), .val (.int xa), .val (.int xb), .val (.int xc), .val (.int xd), .val (.int (Int32.ofNat nn)), .val (.int ch0), .val (.int ch1), .val (.int ch2), .val (.int ch3), .val (.ref x366), .val (.int fb), .unset, .unset, .unset] [(.int (1 : Int32))]))
        refine own_go (fun _ q => XS.ifNo X384.here hx rfl (hb hby at_78) rfl ((if0 _ _).trans (feq (by decide : ¬ (1 : Int32) = (0 : Int32))).1) q) ?_
        refine own_go (fun _ q => XS.iconst X384.here hx rfl (hb hby at_81) q) ?_
        refine own_go (fun _ q => XS.istore X384.here hx rfl (hb hby at_82) rfl (l' := #[.val (.int ln), .val (.int xa), .val (.int xb), .val (.int xc), .val (.int xd), .val (.int (Int32.ofNat nn)), .val (.int ch0), .val (.int ch1), .val (.int ch2), .val (.int ch3), .val (.ref x366), .val (.int (1 : Int32)), .unset, .unset, .unset]) rfl q) ?_
        show own_Fin _ _ _ _ (T384.setTop (mkF m 84 #[.val (.int ln), .val (.int xa), .val (.int xb), .val (.int xc), .val (.int xd), .val (.int (Int32.ofNat nn)), .val (.int ch0), .val (.int ch1), .val (.int ch2), .val (.int ch3), .val (.ref x366), .val (.int (1 : Int32)), .unset, .unset, .unset] []))
        exact J84 _ _ _ X384 e384 N384 (own_fs ⟨hc383, hh384⟩)
      · skip
        refine own_go st384 ?_
        show own_Fin _ _ _ _ (T384.setTop (mkF m 78 #[.val (.int ln), .val (.int xa), .val (.int xb), .val (.int xc), .val (.int xd), .val (.int (Int32.ofNat nn)), .val (.int ch0), .val (.int ch1), .val (.int ch2), .val (.int ch3), .val (.ref x366), .val (.int fb), .unset, .unset, .unset] [(.int (0 : Int32))]))
        refine own_go (fun _ q => XS.ifYes X384.here hx rfl (pc0 := 78) (pc' := 84) rfl (hb hby at_78) rfl ((if0 _ _).trans (teq (by decide : (0 : Int32) = (0 : Int32))).1) (by decide) (by decide) q) ?_
        show own_Fin _ _ _ _ (T384.setTop (mkF m 84 #[.val (.int ln), .val (.int xa), .val (.int xb), .val (.int xc), .val (.int xd), .val (.int (Int32.ofNat nn)), .val (.int ch0), .val (.int ch1), .val (.int ch2), .val (.int ch3), .val (.ref x366), .val (.int fb), .unset, .unset, .unset] []))
        exact J84 _ _ _ X384 e384 N384 (own_fk hfb (fun q => hh384 q.2))
    · skip
      refine own_go (fun _ q => XS.icmpYes X'.here hx rfl (pc0 := 70) (pc' := 84) rfl (hb hby at_70) rfl (flt hc383).2.2.2 (by decide) (by decide) q) ?_
      show own_Fin _ _ _ _ (T'.setTop (mkF m 84 #[.val (.int ln), .val (.int xa), .val (.int xb), .val (.int xc), .val (.int xd), .val (.int (Int32.ofNat nn)), .val (.int ch0), .val (.int ch1), .val (.int ch2), .val (.int ch3), .val (.ref x366), .val (.int fb), .unset, .unset, .unset] []))
      exact J84 _ _ _ X' e' N' (own_fk hfb (fun q => hc383 q.1))
  refine own_go (fun _ q => XS.iload X366.here hx rfl (hb hby at_51) rfl q) ?_
  show own_Fin _ _ _ _ (T366.setTop (mkF m 53 #[.val (.int ln), .val (.int xa), .val (.int xb), .val (.int xc), .val (.int xd), .val (.int (Int32.ofNat nn)), .val (.int ch0), .val (.int ch1), .val (.int ch2), .val (.int ch3), .val (.ref x366), .val (.int (0 : Int32)), .unset, .unset, .unset] [(.int (Int32.ofNat nn))]))
  by_cases hc385 : (0 : Int32) < (Int32.ofNat nn)
  · skip
    refine own_go (fun _ q => XS.ifNo X366.here hx rfl (hb hby at_53) rfl ((if0 _ _).trans (tlt hc385).2.2.2) q) ?_
    refine own_go (fun _ q => XS.iload X366.here hx rfl (hb hby at_56) rfl q) ?_
    show own_Fin _ _ _ _ (T366.setTop (mkF m 58 #[.val (.int ln), .val (.int xa), .val (.int xb), .val (.int xc), .val (.int xd), .val (.int (Int32.ofNat nn)), .val (.int ch0), .val (.int ch1), .val (.int ch2), .val (.int ch3), .val (.ref x366), .val (.int (0 : Int32)), .unset, .unset, .unset] [(.int ch0)]))
    obtain ⟨_, _, ⟨T386, L386, k386, n386⟩, -, X386, ⟨Lc386, hQ386, l386, y386, z386⟩, st386⟩ := Jvm.LawKit.callS X366 hx (y := (⟨"com/example/hebelwerk/hebelwerk/model/PublishedFolderIsIdPinLaw", "bad", "(C)Z"⟩ : MethodName)) hown (mvT hZ (own_w hw 51 rfl)) (mvT hZ (own_w hw 52 rfl)) (mvT hZ (own_w hw 3 rfl)) (mvT hZ (own_w hw 53 rfl)) (by decide) (backOf (W := 0) (rm_bad l Z a0 hw [] ch0 T366.heap n0 (Nat.le_trans Z0 K367.1)) hZ (own_w hw 53 rfl) (own_w hw 3 rfl) (by decide) (by decide)) (g := (mkF m 58 #[.val (.int ln), .val (.int xa), .val (.int xb), .val (.int xc), .val (.int xd), .val (.int (Int32.ofNat nn)), .val (.int ch0), .val (.int ch1), .val (.int ch2), .val (.int ch3), .val (.ref x366), .val (.int (0 : Int32)), .unset, .unset, .unset] [(.int ch0)])) rfl (by rw [hml]; rfl) (argsL := [(.int ch0)]) (rest := []) (lenOf pd_11 rfl) rfl (by show 2 * 0 + _ ≤ _; exact Nat.le_of_eq rfl) (hb hby at_58) (fun _ _ => ⟨rfl, rfl, (by decide : 6 + 0 ≤ _), (by decide : 20 + 0 ≤ _)⟩)
    dsimp only [Pt.U, Pt.locs, Pt.cells, Pt.slots] at X386 l386 y386 z386 st386 hQ386
    subst l386 y386 z386
    obtain ⟨z386, rfl, N386q, e386, hz386⟩ := hQ386
    have N386 := Fr.app N366 N386q
    rcases hz386 with ⟨rfl, hh386⟩ | ⟨rfl, hh386⟩
    · skip
      refine own_go st386 ?_
      show own_Fin _ _ _ _ (T386.setTop (mkF m 61 #[.val (.int ln), .val (.int xa), .val (.int xb), .val (.int xc), .val (.int xd), .val (.int (Int32.ofNat nn)), .val (.int ch0), .val (.int ch1), .val (.int ch2), .val (.int ch3), .val (.ref x366), .val (.int (0 : Int32)), .unset, .unset, .unset] [(.int (1 : Int32))]))
      refine own_go (fun _ q => XS.ifNo X386.here hx rfl (hb hby at_61) rfl ((if0 _ _).trans (feq (by decide : ¬ (1 : Int32) = (0 : Int32))).1) q) ?_
      refine own_go (fun _ q => XS.iconst X386.here hx rfl (hb hby at_64) q) ?_
      refine own_go (fun _ q => XS.istore X386.here hx rfl (hb hby at_65) rfl (l' := #[.val (.int ln), .val (.int xa), .val (.int xb), .val (.int xc), .val (.int xd), .val (.int (Int32.ofNat nn)), .val (.int ch0), .val (.int ch1), .val (.int ch2), .val (.int ch3), .val (.ref x366), .val (.int (1 : Int32)), .unset, .unset, .unset]) rfl q) ?_
      show own_Fin _ _ _ _ (T386.setTop (mkF m 67 #[.val (.int ln), .val (.int xa), .val (.int xb), .val (.int xc), .val (.int xd), .val (.int (Int32.ofNat nn)), .val (.int ch0), .val (.int ch1), .val (.int ch2), .val (.int ch3), .val (.ref x366), .val (.int (1 : Int32)), .unset, .unset, .unset] []))
      exact J67 _ _ _ X386 e386 N386 (own_fs ⟨hc385, hh386⟩)
    · skip
      refine own_go st386 ?_
      show own_Fin _ _ _ _ (T386.setTop (mkF m 61 #[.val (.int ln), .val (.int xa), .val (.int xb), .val (.int xc), .val (.int xd), .val (.int (Int32.ofNat nn)), .val (.int ch0), .val (.int ch1), .val (.int ch2), .val (.int ch3), .val (.ref x366), .val (.int (0 : Int32)), .unset, .unset, .unset] [(.int (0 : Int32))]))
      refine own_go (fun _ q => XS.ifYes X386.here hx rfl (pc0 := 61) (pc' := 67) rfl (hb hby at_61) rfl ((if0 _ _).trans (teq (by decide : (0 : Int32) = (0 : Int32))).1) (by decide) (by decide) q) ?_
      show own_Fin _ _ _ _ (T386.setTop (mkF m 67 #[.val (.int ln), .val (.int xa), .val (.int xb), .val (.int xc), .val (.int xd), .val (.int (Int32.ofNat nn)), .val (.int ch0), .val (.int ch1), .val (.int ch2), .val (.int ch3), .val (.ref x366), .val (.int (0 : Int32)), .unset, .unset, .unset] []))
      exact J67 _ _ _ X386 e386 N386 (own_fk (Or.inr ⟨rfl, id⟩) (fun q => hh386 q.2))
  · skip
    refine own_go (fun _ q => XS.ifYes X366.here hx rfl (pc0 := 53) (pc' := 67) rfl (hb hby at_53) rfl ((if0 _ _).trans (flt hc385).2.2.2) (by decide) (by decide) q) ?_
    show own_Fin _ _ _ _ (T366.setTop (mkF m 67 #[.val (.int ln), .val (.int xa), .val (.int xb), .val (.int xc), .val (.int xd), .val (.int (Int32.ofNat nn)), .val (.int ch0), .val (.int ch1), .val (.int ch2), .val (.int ch3), .val (.ref x366), .val (.int (0 : Int32)), .unset, .unset, .unset] []))
    exact J67 _ _ _ X366 rfl N366 (own_fk (Or.inr ⟨rfl, id⟩) (fun q => hc385 q.1))
section OwnStart
variable {args : Array Value} {s : State}
theorem own_eqL {t : Term} {c : Int64} (h : (Jvm.Cond.eq t (.long c)).value args s none s [] = some true) : t.eval args s none [] s = some (.long c) := by
  obtain ⟨x, y, hx, hy, k1, -⟩ := cmp_v (Or.inl h)
  cases Option.some.inj (hy.symm.trans (long_at c))
  cases x <;> simp [Kin, Value.isRef] at k1
  have q := gotT (eq_L hx hy) h
  rw [hx, q]
theorem own_eqI {t : Term} {c : Int32} (h : (Jvm.Cond.eq t (.int c)).value args s none s [] = some true) : t.eval args s none [] s = some (.int c) := by
  obtain ⟨x, y, hx, hy, k1, -⟩ := cmp_v (Or.inl h)
  cases Option.some.inj (hy.symm.trans (Term.int_eval c))
  cases x <;> simp [Kin, Value.isRef] at k1
  have q := gotT (Cond.eq_ints hx hy) h
  rw [hx, q]
theorem own_eqR {t u : Term} {a : Addr} (hu : u.eval args s none [] s = some (.ref a)) (h : (Jvm.Cond.eq t u).value args s none s [] = some true) : t.eval args s none [] s = some (.ref a) := by
  obtain ⟨x, y, hx, hy, k1, -⟩ := cmp_v (Or.inl h)
  cases Option.some.inj (hy.symm.trans hu)
  have hr : x.isRef = true := by cases x <;> simp [Kin, Value.isRef] at k1 ⊢
  have q := gotT (eq_R hx hy hr rfl) h
  rw [hx, q]
theorem own_arr {t : Term} {a : Addr} {ty : FieldType} {N : Int32} (ev : t.eval args s none [] s = some (.ref a)) (h1 : (Jvm.Cond.arrayOf t ty).value args s none s [] = some true) (h2 : (Jvm.Cond.eq (Term.length t) (.int N)).value args s none s [] = some true) :
    ∃ cl, Arr s s.heap a cl ty ∧ s.arrayAt? a = some cl ∧ cl.slots.size < 2 ^ 31 ∧ cl.slots.size.toInt32 = N := by
  obtain ⟨cl, A⟩ := Arr.start ev h1
  have aa : s.arrayAt? a = some cl := A.fin (hal := Vm.Alike.refl _)
  have hlen := own_eqI h2
  simp only [Term.eval, ev, Option.bind_eq_bind, Option.bind_some, aa] at hlen
  split at hlen
  · rename_i q; exact ⟨cl, A, aa, q, by simpa using hlen⟩
  · cases hlen
theorem own_elL {t : Term} {a : Addr} {cl : Cell} {j : Int32} {c : Int64} (ev : t.eval args s none [] s = some (.ref a)) (aa : s.arrayAt? a = some cl) (hj : ¬ j < 0) (h : (Jvm.Cond.eq (Term.elem t (.int j)) (.long c)).value args s none s [] = some true) : cl.slots[j.toNatClampNeg]? = some (.long c) := by
  have q := own_eqL h
  rwa [elem_f ev (Term.int_eval j) aa hj] at q
theorem own_elI {t : Term} {a : Addr} {cl : Cell} {j : Int32} {c : Int32} (ev : t.eval args s none [] s = some (.ref a)) (aa : s.arrayAt? a = some cl) (hj : ¬ j < 0) (h : (Jvm.Cond.eq (Term.elem t (.int j)) (.int c)).value args s none s [] = some true) : cl.slots[j.toNatClampNeg]? = some (.int c) := by
  have q := own_eqI h
  rwa [elem_f ev (Term.int_eval j) aa hj] at q
theorem own_elR {t u : Term} {a b : Addr} {cl : Cell} {j : Int32} (ev : t.eval args s none [] s = some (.ref a)) (aa : s.arrayAt? a = some cl) (hj : ¬ j < 0) (hu : u.eval args s none [] s = some (.ref b)) (h : (Jvm.Cond.eq (Term.elem t (.int j)) u).value args s none s [] = some true) : cl.slots[j.toNatClampNeg]? = some (.ref b) := by
  have q := own_eqR hu h
  rwa [elem_f ev (Term.int_eval j) aa hj] at q
end OwnStart
set_option maxRecDepth 65536 in
set_option maxHeartbeats 40000000 in
theorem comes_1 {Post : Tables → Env → Array Value → State → Outcome → State → Prop} (hpost : ∀ tb e args s v u, (limb_1_1.after args s (.returned v) u = true ∧ limb_1_2.after args s (.returned v) u = true ∧ True) → ReturnedEndW s (.returned v) u (Jvm.fieldLocs frame_1_writes args s ++ Jvm.arrayLocs frame_1_arrays args s ++ Jvm.staticLocs frame_1_statics s) 24 3200 → Post tb e args s (.returned v) u) :
    ArmFor flags0 classFile x code maxLocals ret World_1 tables_1 room_1 Calls_1 rest_1 Pre_1 Post := by
  intro l hfl _ _ p e ha hc hk s m args below hf hA hF happ hP
  obtain ⟨hcalls, hrest, hpre⟩ := hP
  obtain ⟨-, -, -, hnamed, -, -, -, hat⟩ := (Spec.applies_iff hf).mp happ
  obtain ⟨hg, hn⟩ := and_e (Cond.before_iff.mp (show (Jvm.Cond.and given_1 narrow_1).before args s = true from hpre))
  obtain ⟨h1, hg⟩ := and_e hg
  obtain ⟨g0, hg⟩ := and_e hg
  obtain ⟨g1, hg⟩ := and_e hg
  obtain ⟨g2, hg⟩ := and_e hg
  obtain ⟨g3, hg⟩ := and_e hg
  obtain ⟨w0, w1, w2, w3, w4, rfl⟩ : ∃ w0 w1 w2 w3 w4 : Value, args = #[w0, w1, w2, w3, w4] := by
    have hs : args.size = 5 := by simpa [Cond.value, given_1] using h1
    obtain ⟨L⟩ := args
    match L, hs with
    | [w0, w1, w2, w3, w4], _ => exact ⟨w0, w1, w2, w3, w4, rfl⟩
  have hw := fun d (hd : d ∈ tables_1) => atoms_spec (ws := Jvm.Cond.code x code maxLocals ret :: tables_1) hat d (List.mem_cons_of_mem _ hd)
  obtain ⟨hsets, hown0⟩ := atoms_of _ (rest_1_c_eq ▸ (show rest_1_c.before _ s = true from hrest))
  have hfit : Fit s := fun {y c} hc i hi => by
    obtain ⟨ha, rfl⟩ := Array.getElem?_eq_some_iff.mp hc
    have q := List.all_eq_true.mp ((Array.all_eq_true_iff_forall_mem.mp hF) _ (Array.getElem_mem ha)) i (List.mem_range.mpr hi)
    simpa [Array.getElem?_eq_getElem hi] using q
  obtain ⟨i0, e0⟩ := is_v g0
  obtain rfl : w0 = (.int i0) := Option.some.inj e0
  obtain ⟨i1, e1⟩ := is_v g1
  obtain rfl : w1 = (.int i1) := Option.some.inj e1
  obtain ⟨i2, e2⟩ := is_v g2
  obtain rfl : w2 = (.int i2) := Option.some.inj e2
  obtain ⟨i3, e3⟩ := is_v g3
  obtain rfl : w3 = (.int i3) := Option.some.inj e3
  obtain ⟨i4, e4⟩ := is_v hg
  obtain rfl : w4 = (.int i4) := Option.some.inj e4
  have n5 := not_v (own_s hsets 2 rfl)
  obtain ⟨gc, e10⟩ := is_v (own_s hsets 1 rfl)
  have SC : Sta s s.heap "java/lang/String" "COMPACT_STRINGS" "Z" (.int gc) := Sta.start e10 (Or.inl (hsets _ (own_m 0 rfl)))
  have hcs : ¬ (gc = (0 : Int32)) := gotF (Cond.eq_ints e10 (Term.int_eval (0))) n5
  obtain ⟨gs, e14, hgs⟩ := isR_v (own_s hsets 8 rfl)
  have SF : Sta s s.heap "jdk/internal/util/Preconditions" "SIOOBE_FORMATTER" "Ljava/util/function/BiFunction;" gs := Sta.start e14 (Or.inl (hsets _ (own_m 7 rfl)))
  have SA := Sta.start (own_eqI (own_s hsets 12 rfl)) (Or.inl (hsets _ (own_m 11 rfl)))
  have SH := Sta.start (own_eqI (own_s hsets 15 rfl)) (Or.inl (hsets _ (own_m 14 rfl)))
  have SL := Sta.start (own_eqI (own_s hsets 18 rfl)) (Or.inl (hsets _ (own_m 17 rfl)))
  have hEL : EW s _ consts_1 := (EW.cons (own_w hw 54 rfl) (by decide) (EW.cons (own_w hw 65 rfl) (by decide) (EW.cons (own_w hw 23 rfl) (by decide) EW.nil)))
  have CH0 := CHv.start hEL (fun p hp => hcalls.1 p hp) (hsets _ (own_m 2 rfl)) (own_w hw 24 rfl) (own_w hw 10 rfl)
  obtain ⟨n, o, h1, h2, h3, _, L, rfl, ⟨rfl, N⟩, -, hq⟩ := rm_law l s _ hw tables_1 hEL i0 i1 i2 i3 i4 gc gs s.heap s.heap.size (Nat.le_refl _) SF hgs SC hcs (Old.start s) SA SH SL p e ha hc hk s m _ below hf ((Spec.applies_iff_loose hf).mp happ).1 ⟨rfl, State.Warmed39.refl s, rfl, CH0⟩ trivial
  refine ⟨n, _, h1, h2, h3, hpost _ _ _ _ _ _ ⟨Cond.after_iff.mpr rfl, Cond.after_iff.mpr (eq_i res_at (Term.int_eval (1)) rfl), trivial⟩ ⟨hq.1, hq.2.1, hq.2.2.1, (hq.2.2.2.sift fun y hy => Or.inr (N y hy)).mono (by decide) (by decide)⟩⟩
theorem main_1_1 : Claimed_1_1 := comes_1 fun _ _ _ _ _ _ h hF => ⟨h.1, hF⟩
theorem main_1_2 : Claimed_1_2 := comes_1 fun _ _ _ _ _ _ h hF => ⟨h.2.1, hF⟩
end Jvm.Pilot.@@N@@
namespace Jvm.Pilot.@@N@@
open Jvm Jvm.ClassFile Sem Op Lib Jvm.Free Jvm.Stand Jvm.Pilot.@@N@@.Jvm.D
/-! MADE BY PROGRAM (witnessworld.py) out of the Statement's table words and the real class files: 21 classes; the members and pool entries that the words name. The judged class is class 1, her method 1. -/
namespace start1
open Jvm.ClassFile
def u (s : String) : CpInfo := .utf8 (stringToUtf16 s)
/-- a pool by its gaps: so many unusable entries, then the entry; so many at the end -/
def gap : Nat → List CpInfo → List CpInfo
  | 0, r => r
  | n + 1, r => .unusable :: gap n r
def poolList (es : List (Nat × CpInfo)) (last : Nat) : List CpInfo := es.foldr (fun e r => gap e.1 (e.2 :: r)) (gap last [])
def pool (es : List (Nat × CpInfo)) (last : Nat) : Array CpInfo := ⟨poolList es last⟩
def fileOf (pool : Array CpInfo) (this : Nat) (attrs : Array Attribute := #[]) (ms : Array MethodInfo := #[]) (fl : Nat := 33) (sup : Nat := 0) (ifs : Array Nat := #[]) (fds : Array FieldInfo := #[]) : ClassFile where
  minorVersion := 0
  majorVersion := 65
  constantPool := pool
  accessFlags := fl
  thisClass := this
  superClass := sup
  interfaces := ifs
  fields := fds
  methods := ms
  attributes := attrs
def plain (name : String) (sup : Option ClassId) : Class where
  name := name
  kind := .ordinary
  loader := none
  accessFlags := 33
  super := sup
  interfaces := #[]
  cf := none
  fields := #[]
  methods := #[]
  instanceTypes := #[]
  staticTypes := #[]
  resolved := #[]
  callSites := []
  init := .initialized
  statics := none
  mirror := none

def pool0 : Array CpInfo := pool [(5, u "<init>"), (0, u "()V"), (1, .class_ 10), (1, u "java/lang/Object")] 113

def k0c0 : Code := { maxStack := 0, maxLocals := 1, code := object_method_1_code, exceptionTable := #[], attributes := #[] }
def k0m0 : Method := { name := "<init>", desc := "()V", sig := { parameters := [], returnType := none }, accessFlags := 1, code := some k0c0 }
/-- java/lang/Object -/
def k0 : Class := { plain "java/lang/Object" none with
  accessFlags := 33
  interfaces := #[]
  cf := some (fileOf pool0 8 #[] #[{ accessFlags := 1, nameIndex := 5, descriptorIndex := 6, attributes := #[] }] 33 0 #[] #[])
  fields := #[]
  methods := #[k0m0]
  instanceTypes := #[]
  staticTypes := #[]
  resolved := Array.replicate 124 none
  statics := none }

def pool1 : Array CpInfo := pool [(2, .class_ 4), (1, u "java/lang/Object"), (0, u "<init>"), (0, u "()V"), (0, .integer 2147483647), (0, .methodref 9 10), (0, .class_ 11), (0, .nameAndType 12 13), (0, u "com/example/hebelwerk/hebelwerk/model/PublishedFolderIsIdPinLaw"), (0, u "draw"), (0, u "(I)C"), (0, .methodref 9 15), (0, .nameAndType 16 17), (0, u "text"), (0, u "(ICCCC)Ljava/lang/String;"), (0, .methodref 9 19), (0, .nameAndType 20 21), (0, u "bad"), (0, u "(C)Z"), (0, .methodref 23 24), (0, .class_ 25), (0, .nameAndType 26 27), (0, u "com/example/hebelwerk/hebelwerk/model/PublishedFolder"), (0, u "isId"), (0, u "(Ljava/lang/String;)Z"), (0, .integer 65535), (0, .class_ 30), (0, u "java/lang/String"), (0, .methodref 29 32), (0, .nameAndType 5 33), (0, u "([C)V"), (0, .methodref 29 35), (0, .nameAndType 36 37), (0, u "valueOf"), (0, u "(C)Ljava/lang/String;"), (2, u "law"), (0, u "(IIIII)Z")] 3

def k1m0 : Method := { name := "<init>", desc := "()V", sig := { parameters := [], returnType := none }, accessFlags := 1, code := none }
def k1c1 : Code := { maxStack := 5, maxLocals := 15, code := code, exceptionTable := #[], attributes := #[] }
def k1m1 : Method := { name := "law", desc := "(IIIII)Z", sig := { parameters := [.int, .int, .int, .int, .int], returnType := some .boolean }, accessFlags := 9, code := some k1c1 }
def k1c2 : Code := { maxStack := 2, maxLocals := 2, code := method_3_code, exceptionTable := #[], attributes := #[] }
def k1m2 : Method := { name := "draw", desc := "(I)C", sig := { parameters := [.int], returnType := some .char }, accessFlags := 10, code := some k1c2 }
def k1c3 : Code := { maxStack := 2, maxLocals := 1, code := method_4_code, exceptionTable := #[], attributes := #[] }
def k1m3 : Method := { name := "bad", desc := "(C)Z", sig := { parameters := [.char], returnType := some .boolean }, accessFlags := 10, code := some k1c3 }
def k1c4 : Code := { maxStack := 3, maxLocals := 6, code := method_5_code, exceptionTable := #[], attributes := #[] }
def k1m4 : Method := { name := "text", desc := "(ICCCC)Ljava/lang/String;", sig := { parameters := [.int, .char, .char, .char, .char], returnType := some (.object "java/lang/String") }, accessFlags := 10, code := some k1c4 }
/-- com/example/hebelwerk/hebelwerk/model/PublishedFolderIsIdPinLaw -/
def k1 : Class := { plain "com/example/hebelwerk/hebelwerk/model/PublishedFolderIsIdPinLaw" (some 0) with
  accessFlags := 49
  interfaces := #[]
  cf := some (fileOf pool1 9 #[] #[{ accessFlags := 1, nameIndex := 5, descriptorIndex := 6, attributes := #[] }, { accessFlags := 9, nameIndex := 40, descriptorIndex := 41, attributes := #[] }, { accessFlags := 10, nameIndex := 12, descriptorIndex := 13, attributes := #[] }, { accessFlags := 10, nameIndex := 20, descriptorIndex := 21, attributes := #[] }, { accessFlags := 10, nameIndex := 16, descriptorIndex := 17, attributes := #[] }] 49 2 #[] #[])
  fields := #[]
  methods := #[k1m0, k1m1, k1m2, k1m3, k1m4]
  instanceTypes := #[]
  staticTypes := #[]
  resolved := Array.replicate 45 none
  statics := none }

def pool2 : Array CpInfo := pool [(1, .class_ 2), (0, u "java/io/Serializable"), (0, .class_ 4), (0, u "java/lang/Object")] 2

/-- java/io/Serializable -/
def k2 : Class := { plain "java/io/Serializable" (some 0) with
  accessFlags := 1537
  interfaces := #[]
  cf := some (fileOf pool2 1 #[] #[] 1537 3 #[] #[])
  fields := #[]
  methods := #[]
  instanceTypes := #[]
  staticTypes := #[]
  resolved := Array.replicate 7 none
  statics := none }

def pool3 : Array CpInfo := pool [(1, .class_ 2), (0, u "java/lang/Comparable"), (0, .class_ 4), (0, u "java/lang/Object")] 7

/-- java/lang/Comparable -/
def k3 : Class := { plain "java/lang/Comparable" (some 0) with
  accessFlags := 1537
  interfaces := #[]
  cf := some (fileOf pool3 1 #[] #[] 1537 3 #[] #[])
  fields := #[]
  methods := #[]
  instanceTypes := #[]
  staticTypes := #[]
  resolved := Array.replicate 12 none
  statics := none }

def pool4 : Array CpInfo := pool [(2, .class_ 4), (1, u "java/lang/CharSequence"), (42, .class_ 48), (0, u "java/lang/CharSequence$1CodePointIterator"), (10, .class_ 60), (0, u "java/lang/CharSequence$1CharIterator"), (5, .class_ 67), (0, u "java/lang/Object")] 63

/-- java/lang/CharSequence -/
def k4 : Class := { plain "java/lang/CharSequence" (some 0) with
  accessFlags := 1537
  interfaces := #[]
  cf := some (fileOf pool4 2 #[.nestMembers #[47, 59]] #[] 1537 66 #[] #[])
  fields := #[]
  methods := #[]
  instanceTypes := #[]
  staticTypes := #[]
  resolved := Array.replicate 131 none
  statics := none }

def pool5 : Array CpInfo := pool [(1, .class_ 2), (0, u "java/lang/constant/Constable"), (0, .class_ 4), (0, u "java/lang/Object")] 6

/-- java/lang/constant/Constable -/
def k5 : Class := { plain "java/lang/constant/Constable" (some 0) with
  accessFlags := 1537
  interfaces := #[]
  cf := some (fileOf pool5 1 #[] #[] 1537 3 #[] #[])
  fields := #[]
  methods := #[]
  instanceTypes := #[]
  staticTypes := #[]
  resolved := Array.replicate 11 none
  statics := none }

def pool6 : Array CpInfo := pool [(1, .class_ 2), (0, u "java/lang/constant/ConstantDesc"), (0, .class_ 4), (0, u "java/lang/Object")] 32

/-- java/lang/constant/ConstantDesc -/
def k6 : Class := { plain "java/lang/constant/ConstantDesc" (some 0) with
  accessFlags := 1537
  interfaces := #[]
  cf := some (fileOf pool6 1 #[] #[] 1537 3 #[] #[])
  fields := #[]
  methods := #[]
  instanceTypes := #[]
  staticTypes := #[]
  resolved := Array.replicate 37 none
  statics := none }

def pool7 : Array CpInfo := pool [(1, .methodref 2 3), (0, .class_ 4), (0, .nameAndType 5 6), (0, u "java/lang/Object"), (0, u "<init>"), (0, u "()V"), (0, .string 8), (0, u ""), (0, .fieldref 10 11), (0, .class_ 12), (0, .nameAndType 13 14), (0, u "java/lang/String"), (0, u "value"), (0, u "[B"), (0, .fieldref 10 16), (0, .nameAndType 17 18), (0, u "coder"), (0, u "B"), (2, u "hash"), (0, u "I"), (2, u "hashIsZero"), (0, u "Z"), (0, .methodref 10 28), (0, .nameAndType 5 29), (0, u "([CIILjava/lang/Void;)V"), (8, .fieldref 10 39), (0, .nameAndType 40 26), (0, u "COMPACT_STRINGS"), (1, .class_ 44), (1, u "java/lang/StringUTF16"), (0, u "compress"), (1, .methodref 42 48), (0, .nameAndType 49 50), (0, u "coderFromArrayLen"), (0, u "([BI)B"), (2, u "toBytes"), (53, .class_ 109), (1, u "java/lang/StringLatin1"), (32, u "()Z"), (34, .methodref 42 178), (0, .nameAndType 45 179), (0, u "([CII)[B"), (29, .methodref 10 210), (0, .nameAndType 5 211), (0, u "([BB)V"), (122, u "()I"), (0, .methodref 10 336), (0, .nameAndType 17 337), (0, u "()B"), (31, u "(C)Z"), (122, .methodref 10 493), (0, .nameAndType 494 142), (0, u "isLatin1"), (10, .methodref 10 506), (0, .nameAndType 507 334), (0, u "length"), (5, u "checkFromToIndex"), (9, u "checkBoundsBeginEnd"), (0, u "(III)V"), (16, .methodref 107 542), (0, .nameAndType 543 544), (0, u "equals"), (0, u "([B[B)Z"), (28, u "(Ljava/lang/Object;)Z"), (1, .class_ 576), (0, u "java/lang/CharSequence"), (22, u "CASE_INSENSITIVE_ORDER"), (0, u "Ljava/util/Comparator;"), (32, .methodref 10 634), (0, .nameAndType 635 636), (0, u "indexOf"), (0, u "(II)I"), (0, .methodref 107 638), (0, .nameAndType 635 639), (0, u "([BIII)I"), (0, .methodref 42 638), (51, u "isEmpty"), (72, u "(I)I"), (16, u "valueOf"), (0, u "(C)Ljava/lang/String;"), (226, u "([C)V"), (4, .methodref 107 1016), (0, .nameAndType 1017 369), (0, u "canEncode"), (0, .methodref 107 1019), (0, .nameAndType 53 1020), (0, u "(C)[B"), (0, .methodref 42 1019), (31, .fieldref 1054 1055), (0, .class_ 1056), (0, .nameAndType 1057 1058), (0, u "jdk/internal/util/Preconditions"), (0, u "SIOOBE_FORMATTER"), (0, u "Ljava/util/function/BiFunction;"), (3, .methodref 1054 1063), (0, .nameAndType 513 1064), (0, u "(IIILjava/util/function/BiFunction;)I"), (36, u "serialPersistentFields"), (0, u "[Ljava/io/ObjectStreamField;"), (0, .class_ 1104), (0, u "java/lang/String$CaseInsensitiveComparator"), (1, .class_ 1107), (0, u "java/io/Serializable"), (0, .class_ 1109), (0, u "java/lang/Comparable"), (0, .class_ 1111), (0, u "java/lang/constant/Constable"), (0, .class_ 1113), (0, u "java/lang/constant/ConstantDesc"), (2, u "serialVersionUID"), (0, u "J"), (3, u "REPL"), (0, u "C"), (2, u "LATIN1"), (1, u "UTF16")] 323

def k7m0 : Method := { name := "<init>", desc := "()V", sig := { parameters := [], returnType := none }, accessFlags := 1, code := none }
def k7c1 : Code := { maxStack := 5, maxLocals := 2, code := jdk_42_method_3_code, exceptionTable := #[], attributes := #[] }
def k7m1 : Method := { name := "<init>", desc := "([C)V", sig := { parameters := [(.array .char)], returnType := none }, accessFlags := 1, code := some k7c1 }
def k7c2 : Code := { maxStack := 2, maxLocals := 1, code := jdk_42_method_54_code, exceptionTable := #[], attributes := #[] }
def k7m2 : Method := { name := "length", desc := "()I", sig := { parameters := [], returnType := some .int }, accessFlags := 1, code := some k7c2 }
def k7c3 : Code := { maxStack := 1, maxLocals := 1, code := jdk_42_method_55_code, exceptionTable := #[], attributes := #[] }
def k7m3 : Method := { name := "isEmpty", desc := "()Z", sig := { parameters := [], returnType := some .boolean }, accessFlags := 1, code := some k7c3 }
def k7c4 : Code := { maxStack := 2, maxLocals := 3, code := jdk_42_method_66_code, exceptionTable := #[], attributes := #[] }
def k7m4 : Method := { name := "equals", desc := "(Ljava/lang/Object;)Z", sig := { parameters := [(.object "java/lang/Object")], returnType := some .boolean }, accessFlags := 1, code := some k7c4 }
def k7c5 : Code := { maxStack := 3, maxLocals := 2, code := jdk_42_method_79_code, exceptionTable := #[], attributes := #[] }
def k7m5 : Method := { name := "indexOf", desc := "(I)I", sig := { parameters := [.int], returnType := some .int }, accessFlags := 1, code := some k7c5 }
def k7c6 : Code := { maxStack := 4, maxLocals := 3, code := jdk_42_method_80_code, exceptionTable := #[], attributes := #[] }
def k7m6 : Method := { name := "indexOf", desc := "(II)I", sig := { parameters := [.int, .int], returnType := some .int }, accessFlags := 1, code := some k7c6 }
def k7c7 : Code := { maxStack := 4, maxLocals := 1, code := jdk_42_method_139_code, exceptionTable := #[], attributes := #[] }
def k7m7 : Method := { name := "valueOf", desc := "(C)Ljava/lang/String;", sig := { parameters := [.char], returnType := some (.object "java/lang/String") }, accessFlags := 9, code := some k7c7 }
def k7c8 : Code := { maxStack := 4, maxLocals := 6, code := jdk_42_method_149_code, exceptionTable := #[], attributes := #[] }
def k7m8 : Method := { name := "<init>", desc := "([CIILjava/lang/Void;)V", sig := { parameters := [(.array .char), .int, .int, (.object "java/lang/Void")], returnType := none }, accessFlags := 2, code := some k7c8 }
def k7c9 : Code := { maxStack := 2, maxLocals := 3, code := jdk_42_method_151_code, exceptionTable := #[], attributes := #[] }
def k7m9 : Method := { name := "<init>", desc := "([BB)V", sig := { parameters := [(.array .byte), .byte], returnType := none }, accessFlags := 0, code := some k7c9 }
def k7c10 : Code := { maxStack := 1, maxLocals := 1, code := jdk_42_method_152_code, exceptionTable := #[], attributes := #[] }
def k7m10 : Method := { name := "coder", desc := "()B", sig := { parameters := [], returnType := some .byte }, accessFlags := 0, code := some k7c10 }
def k7c11 : Code := { maxStack := 1, maxLocals := 1, code := jdk_42_method_154_code, exceptionTable := #[], attributes := #[] }
def k7m11 : Method := { name := "isLatin1", desc := "()Z", sig := { parameters := [], returnType := some .boolean }, accessFlags := 0, code := some k7c11 }
def k7c12 : Code := { maxStack := 4, maxLocals := 3, code := jdk_42_method_158_code, exceptionTable := #[], attributes := #[] }
def k7m12 : Method := { name := "checkBoundsBeginEnd", desc := "(III)V", sig := { parameters := [.int, .int, .int], returnType := none }, accessFlags := 8, code := some k7c12 }
/-- java/lang/String -/
def k7 : Class := { plain "java/lang/String" (some 0) with
  accessFlags := 49
  interfaces := #[2, 3, 4, 5, 6]
  cf := some (fileOf pool7 10 #[.nestMembers #[1103]] #[{ accessFlags := 1, nameIndex := 5, descriptorIndex := 6, attributes := #[] }, { accessFlags := 1, nameIndex := 5, descriptorIndex := 1010, attributes := #[] }, { accessFlags := 1, nameIndex := 507, descriptorIndex := 334, attributes := #[] }, { accessFlags := 1, nameIndex := 692, descriptorIndex := 142, attributes := #[] }, { accessFlags := 1, nameIndex := 543, descriptorIndex := 573, attributes := #[] }, { accessFlags := 1, nameIndex := 635, descriptorIndex := 765, attributes := #[] }, { accessFlags := 1, nameIndex := 635, descriptorIndex := 636, attributes := #[] }, { accessFlags := 9, nameIndex := 782, descriptorIndex := 783, attributes := #[] }, { accessFlags := 2, nameIndex := 5, descriptorIndex := 29, attributes := #[] }, { accessFlags := 0, nameIndex := 5, descriptorIndex := 211, attributes := #[] }, { accessFlags := 0, nameIndex := 17, descriptorIndex := 337, attributes := #[] }, { accessFlags := 0, nameIndex := 494, descriptorIndex := 142, attributes := #[] }, { accessFlags := 8, nameIndex := 523, descriptorIndex := 524, attributes := #[] }] 49 2 #[1106, 1108, 575, 1110, 1112] #[{ accessFlags := 18, nameIndex := 13, descriptorIndex := 14, attributes := #[] }, { accessFlags := 18, nameIndex := 17, descriptorIndex := 18, attributes := #[] }, { accessFlags := 2, nameIndex := 21, descriptorIndex := 22, attributes := #[] }, { accessFlags := 2, nameIndex := 25, descriptorIndex := 26, attributes := #[] }, { accessFlags := 26, nameIndex := 1116, descriptorIndex := 1117, attributes := #[] }, { accessFlags := 24, nameIndex := 40, descriptorIndex := 26, attributes := #[] }, { accessFlags := 26, nameIndex := 1101, descriptorIndex := 1102, attributes := #[] }, { accessFlags := 26, nameIndex := 1121, descriptorIndex := 1122, attributes := #[] }, { accessFlags := 25, nameIndex := 599, descriptorIndex := 600, attributes := #[] }, { accessFlags := 24, nameIndex := 1125, descriptorIndex := 18, attributes := #[] }, { accessFlags := 24, nameIndex := 1127, descriptorIndex := 18, attributes := #[] }])
  fields := #[{ name := "value", type := (.array .byte), accessFlags := 18, slot := 0, constantValue := 0 }, { name := "coder", type := .byte, accessFlags := 18, slot := 1, constantValue := 0 }, { name := "hash", type := .int, accessFlags := 2, slot := 2, constantValue := 0 }, { name := "hashIsZero", type := .boolean, accessFlags := 2, slot := 3, constantValue := 0 }, { name := "serialVersionUID", type := .long, accessFlags := 26, slot := 0, constantValue := 0 }, { name := "COMPACT_STRINGS", type := .boolean, accessFlags := 24, slot := 1, constantValue := 0 }, { name := "serialPersistentFields", type := (.array (.object "java/io/ObjectStreamField")), accessFlags := 26, slot := 2, constantValue := 0 }, { name := "REPL", type := .char, accessFlags := 26, slot := 3, constantValue := 0 }, { name := "CASE_INSENSITIVE_ORDER", type := (.object "java/util/Comparator"), accessFlags := 25, slot := 4, constantValue := 0 }, { name := "LATIN1", type := .byte, accessFlags := 24, slot := 5, constantValue := 0 }, { name := "UTF16", type := .byte, accessFlags := 24, slot := 6, constantValue := 0 }]
  methods := #[k7m0, k7m1, k7m2, k7m3, k7m4, k7m5, k7m6, k7m7, k7m8, k7m9, k7m10, k7m11, k7m12]
  instanceTypes := #[(.array .byte), .byte, .int, .boolean]
  staticTypes := #[.long, .boolean, (.array (.object "java/io/ObjectStreamField")), .char, (.object "java/util/Comparator"), .byte, .byte]
  resolved := Array.replicate 1451 none
  statics := some 0 }

def pool8 : Array CpInfo := pool [(2, .class_ 4), (1, u "java/lang/Object"), (3, .class_ 10), (1, u "com/example/hebelwerk/hebelwerk/model/PublishedFolder"), (0, u "folder"), (0, u "Ljava/nio/file/Path;"), (10, u "isId"), (0, u "(Ljava/lang/String;)Z"), (16, .methodref 42 43), (0, .class_ 44), (0, .nameAndType 45 46), (0, u "java/lang/String"), (0, u "isEmpty"), (0, u "()Z"), (0, .string 48), (0, u "."), (0, .methodref 42 50), (0, .nameAndType 51 52), (0, u "equals"), (0, u "(Ljava/lang/Object;)Z"), (0, .string 54), (0, u ".."), (0, .methodref 42 56), (0, .nameAndType 57 58), (0, u "indexOf"), (0, u "(I)I"), (116, u "INDICES"), (0, u "Ljava/lang/String;"), (1, u "VALUES"), (0, u "NOTICES")] 37

def k8c0 : Code := { maxStack := 2, maxLocals := 1, code := prog_32_method_7_code, exceptionTable := #[], attributes := #[] }
def k8m0 : Method := { name := "isId", desc := "(Ljava/lang/String;)Z", sig := { parameters := [(.object "java/lang/String")], returnType := some .boolean }, accessFlags := 9, code := some k8c0 }
/-- com/example/hebelwerk/hebelwerk/model/PublishedFolder -/
def k8 : Class := { plain "com/example/hebelwerk/hebelwerk/model/PublishedFolder" (some 0) with
  accessFlags := 49
  interfaces := #[]
  cf := some (fileOf pool8 8 #[] #[{ accessFlags := 9, nameIndex := 23, descriptorIndex := 24, attributes := #[] }] 49 2 #[] #[{ accessFlags := 25, nameIndex := 175, descriptorIndex := 176, attributes := #[] }, { accessFlags := 25, nameIndex := 178, descriptorIndex := 176, attributes := #[] }, { accessFlags := 25, nameIndex := 179, descriptorIndex := 176, attributes := #[] }, { accessFlags := 18, nameIndex := 11, descriptorIndex := 12, attributes := #[] }])
  fields := #[{ name := "INDICES", type := (.object "java/lang/String"), accessFlags := 25, slot := 0, constantValue := 0 }, { name := "VALUES", type := (.object "java/lang/String"), accessFlags := 25, slot := 1, constantValue := 0 }, { name := "NOTICES", type := (.object "java/lang/String"), accessFlags := 25, slot := 2, constantValue := 0 }, { name := "folder", type := (.object "java/nio/file/Path"), accessFlags := 18, slot := 0, constantValue := 0 }]
  methods := #[k8m0]
  instanceTypes := #[(.object "java/nio/file/Path")]
  staticTypes := #[(.object "java/lang/String"), (.object "java/lang/String"), (.object "java/lang/String")]
  resolved := Array.replicate 217 none
  statics := none }

def pool9 : Array CpInfo := pool [(3, .class_ 4), (0, u "java/lang/String"), (1, .class_ 8), (1, u "java/lang/Object"), (0, u "<init>"), (0, u "()V"), (0, .methodref 12 13), (0, .class_ 14), (0, .nameAndType 15 16), (0, u "java/lang/StringUTF16"), (0, u "newBytesLength"), (0, u "(I)I"), (3, .integer 1073741823), (23, .fieldref 12 45), (0, .nameAndType 46 47), (0, u "$assertionsDisabled"), (0, u "Z"), (0, .methodref 12 49), (0, .nameAndType 50 51), (0, u "length"), (0, u "([B)I"), (7, .fieldref 12 60), (0, .nameAndType 61 62), (0, u "HI_BYTE_SHIFT"), (0, u "I"), (0, .fieldref 12 64), (0, .nameAndType 65 62), (0, u "LO_BYTE_SHIFT"), (5, .methodref 12 72), (0, .nameAndType 73 74), (0, u "getChar"), (0, u "([BI)C"), (21, .methodref 12 97), (0, .nameAndType 98 99), (0, u "checkBoundsBeginEnd"), (0, u "(II[B)V"), (7, .methodref 12 108), (0, .nameAndType 109 110), (0, u "newBytesFor"), (0, u "(I)[B"), (0, .methodref 12 112), (0, .nameAndType 113 114), (0, u "putChar"), (0, u "([BII)V"), (0, .methodref 12 116), (0, .nameAndType 117 118), (0, u "compress"), (0, u "([CI[BII)I"), (0, .methodref 12 120), (0, .nameAndType 121 122), (0, u "toBytes"), (0, u "([CII)[B"), (60, .methodref 184 185), (0, .class_ 186), (0, .nameAndType 187 188), (0, u "java/lang/Math"), (0, u "min"), (0, u "(II)I"), (35, .methodref 184 225), (0, .nameAndType 226 188), (0, u "max"), (0, .integer 65536), (0, .methodref 12 229), (0, .nameAndType 230 231), (0, u "indexOfChar"), (0, u "([BIII)I"), (9, .methodref 3 242), (0, .nameAndType 98 243), (0, u "(III)V"), (0, .methodref 12 245), (0, .nameAndType 246 231), (0, u "indexOfCharUnsafe"), (14, u "coderFromArrayLen"), (0, u "([BI)B"), (5, u "indexOf"), (100, .class_ 371), (1, u "java/lang/StringUTF16$LinesSpliterator"), (58, u "MAX_LENGTH"), (44, u "(C)[B"), (151, .class_ 628), (0, u "java/lang/StringUTF16$CodePointsSpliterator"), (0, .class_ 630), (0, u "java/lang/StringUTF16$CharsSpliterator")] 4

def k9m0 : Method := { name := "<init>", desc := "()V", sig := { parameters := [], returnType := none }, accessFlags := 0, code := none }
def k9c1 : Code := { maxStack := 1, maxLocals := 1, code := jdk_52_method_2_code, exceptionTable := #[], attributes := #[] }
def k9m1 : Method := { name := "newBytesFor", desc := "(I)[B", sig := { parameters := [.int], returnType := some (.array .byte) }, accessFlags := 9, code := some k9c1 }
def k9c2 : Code := { maxStack := 4, maxLocals := 1, code := jdk_52_method_3_code, exceptionTable := #[], attributes := #[] }
def k9m2 : Method := { name := "newBytesLength", desc := "(I)I", sig := { parameters := [.int], returnType := some .int }, accessFlags := 9, code := some k9c2 }
def k9c3 : Code := { maxStack := 4, maxLocals := 3, code := jdk_52_method_4_code, exceptionTable := #[], attributes := #[] }
def k9m3 : Method := { name := "putChar", desc := "([BII)V", sig := { parameters := [(.array .byte), .int, .int], returnType := none }, accessFlags := 8, code := some k9c3 }
def k9c4 : Code := { maxStack := 3, maxLocals := 2, code := jdk_52_method_5_code, exceptionTable := #[], attributes := #[] }
def k9m4 : Method := { name := "getChar", desc := "([BI)C", sig := { parameters := [(.array .byte), .int], returnType := some .char }, accessFlags := 8, code := some k9c4 }
def k9c5 : Code := { maxStack := 2, maxLocals := 1, code := jdk_52_method_6_code, exceptionTable := #[], attributes := #[] }
def k9m5 : Method := { name := "length", desc := "([B)I", sig := { parameters := [(.array .byte)], returnType := some .int }, accessFlags := 9, code := some k9c5 }
def k9c6 : Code := { maxStack := 4, maxLocals := 5, code := jdk_52_method_14_code, exceptionTable := #[], attributes := #[] }
def k9m6 : Method := { name := "toBytes", desc := "([CII)[B", sig := { parameters := [(.array .char), .int, .int], returnType := some (.array .byte) }, accessFlags := 9, code := some k9c6 }
def k9c7 : Code := { maxStack := 2, maxLocals := 2, code := jdk_52_method_15_code, exceptionTable := #[], attributes := #[] }
def k9m7 : Method := { name := "coderFromArrayLen", desc := "([BI)B", sig := { parameters := [(.array .byte), .int], returnType := some .byte }, accessFlags := 8, code := some k9c7 }
def k9c8 : Code := { maxStack := 5, maxLocals := 6, code := jdk_52_method_16_code, exceptionTable := #[], attributes := #[] }
def k9m8 : Method := { name := "compress", desc := "([CII)[B", sig := { parameters := [(.array .char), .int, .int], returnType := some (.array .byte) }, accessFlags := 9, code := some k9c8 }
def k9c9 : Code := { maxStack := 3, maxLocals := 7, code := jdk_52_method_21_code, exceptionTable := #[], attributes := #[] }
def k9m9 : Method := { name := "compress", desc := "([CI[BII)I", sig := { parameters := [(.array .char), .int, (.array .byte), .int, .int], returnType := some .int }, accessFlags := 9, code := some k9c9 }
def k9c10 : Code := { maxStack := 3, maxLocals := 2, code := jdk_52_method_24_code, exceptionTable := #[], attributes := #[] }
def k9m10 : Method := { name := "toBytes", desc := "(C)[B", sig := { parameters := [.char], returnType := some (.array .byte) }, accessFlags := 9, code := some k9c10 }
def k9c11 : Code := { maxStack := 4, maxLocals := 4, code := jdk_52_method_40_code, exceptionTable := #[], attributes := #[] }
def k9m11 : Method := { name := "indexOf", desc := "([BIII)I", sig := { parameters := [(.array .byte), .int, .int, .int], returnType := some .int }, accessFlags := 9, code := some k9c11 }
def k9c12 : Code := { maxStack := 4, maxLocals := 4, code := jdk_52_method_47_code, exceptionTable := #[], attributes := #[] }
def k9m12 : Method := { name := "indexOfChar", desc := "([BIII)I", sig := { parameters := [(.array .byte), .int, .int, .int], returnType := some .int }, accessFlags := 10, code := some k9c12 }
def k9c13 : Code := { maxStack := 2, maxLocals := 5, code := jdk_52_method_48_code, exceptionTable := #[], attributes := #[] }
def k9m13 : Method := { name := "indexOfCharUnsafe", desc := "([BIII)I", sig := { parameters := [(.array .byte), .int, .int, .int], returnType := some .int }, accessFlags := 10, code := some k9c13 }
def k9c14 : Code := { maxStack := 3, maxLocals := 3, code := jdk_52_method_93_code, exceptionTable := #[], attributes := #[] }
def k9m14 : Method := { name := "checkBoundsBeginEnd", desc := "(II[B)V", sig := { parameters := [.int, .int, (.array .byte)], returnType := none }, accessFlags := 9, code := some k9c14 }
/-- java/lang/StringUTF16 -/
def k9 : Class := { plain "java/lang/StringUTF16" (some 0) with
  accessFlags := 48
  interfaces := #[]
  cf := some (fileOf pool9 12 #[.nestMembers #[627, 629, 369]] #[{ accessFlags := 0, nameIndex := 9, descriptorIndex := 10, attributes := #[] }, { accessFlags := 9, nameIndex := 109, descriptorIndex := 110, attributes := #[] }, { accessFlags := 9, nameIndex := 15, descriptorIndex := 16, attributes := #[] }, { accessFlags := 8, nameIndex := 113, descriptorIndex := 114, attributes := #[] }, { accessFlags := 8, nameIndex := 73, descriptorIndex := 74, attributes := #[] }, { accessFlags := 9, nameIndex := 50, descriptorIndex := 51, attributes := #[] }, { accessFlags := 9, nameIndex := 121, descriptorIndex := 122, attributes := #[] }, { accessFlags := 8, nameIndex := 261, descriptorIndex := 262, attributes := #[] }, { accessFlags := 9, nameIndex := 117, descriptorIndex := 122, attributes := #[] }, { accessFlags := 9, nameIndex := 117, descriptorIndex := 118, attributes := #[] }, { accessFlags := 9, nameIndex := 121, descriptorIndex := 475, attributes := #[] }, { accessFlags := 9, nameIndex := 268, descriptorIndex := 231, attributes := #[] }, { accessFlags := 10, nameIndex := 230, descriptorIndex := 231, attributes := #[] }, { accessFlags := 10, nameIndex := 246, descriptorIndex := 231, attributes := #[] }, { accessFlags := 9, nameIndex := 98, descriptorIndex := 99, attributes := #[] }] 48 6 #[] #[{ accessFlags := 26, nameIndex := 61, descriptorIndex := 62, attributes := #[] }, { accessFlags := 26, nameIndex := 65, descriptorIndex := 62, attributes := #[] }, { accessFlags := 24, nameIndex := 430, descriptorIndex := 62, attributes := #[] }, { accessFlags := 4120, nameIndex := 46, descriptorIndex := 47, attributes := #[] }])
  fields := #[{ name := "HI_BYTE_SHIFT", type := .int, accessFlags := 26, slot := 0, constantValue := 0 }, { name := "LO_BYTE_SHIFT", type := .int, accessFlags := 26, slot := 1, constantValue := 0 }, { name := "MAX_LENGTH", type := .int, accessFlags := 24, slot := 2, constantValue := 0 }, { name := "$assertionsDisabled", type := .boolean, accessFlags := 4120, slot := 3, constantValue := 0 }]
  methods := #[k9m0, k9m1, k9m2, k9m3, k9m4, k9m5, k9m6, k9m7, k9m8, k9m9, k9m10, k9m11, k9m12, k9m13, k9m14]
  instanceTypes := #[]
  staticTypes := #[.int, .int, .int, .boolean]
  resolved := Array.replicate 635 none
  statics := some 1 }

def pool10 : Array CpInfo := pool [(4, .class_ 6), (1, u "java/lang/Object"), (0, u "<init>"), (0, u "()V"), (5, .class_ 16), (1, u "java/lang/StringLatin1"), (21, .methodref 39 40), (0, .class_ 41), (0, .nameAndType 42 43), (0, u "java/lang/Math"), (0, u "min"), (0, u "(II)I"), (44, .methodref 14 89), (0, .nameAndType 90 91), (0, u "canEncode"), (0, u "(I)Z"), (0, .methodref 39 93), (0, .nameAndType 94 43), (0, u "max"), (0, .methodref 14 96), (0, .nameAndType 97 98), (0, u "indexOfChar"), (0, u "([BIII)I"), (2, u "indexOf"), (3, u "(C)Z"), (15, u "$assertionsDisabled"), (0, u "Z"), (98, .class_ 223), (1, u "java/lang/StringLatin1$LinesSpliterator"), (57, u "equals"), (0, u "([B[B)Z"), (97, u "toBytes"), (1, u "(C)[B"), (7, .class_ 391), (0, u "java/lang/StringLatin1$CharsSpliterator")] 3

def k10m0 : Method := { name := "<init>", desc := "()V", sig := { parameters := [], returnType := none }, accessFlags := 0, code := none }
def k10c1 : Code := { maxStack := 2, maxLocals := 1, code := jdk_43_method_3_code, exceptionTable := #[], attributes := #[] }
def k10m1 : Method := { name := "canEncode", desc := "(C)Z", sig := { parameters := [.char], returnType := some .boolean }, accessFlags := 9, code := some k10c1 }
def k10c2 : Code := { maxStack := 2, maxLocals := 1, code := jdk_43_method_4_code, exceptionTable := #[], attributes := #[] }
def k10m2 : Method := { name := "canEncode", desc := "(I)Z", sig := { parameters := [.int], returnType := some .boolean }, accessFlags := 9, code := some k10c2 }
def k10c3 : Code := { maxStack := 3, maxLocals := 3, code := jdk_43_method_13_code, exceptionTable := #[], attributes := #[] }
def k10m3 : Method := { name := "equals", desc := "([B[B)Z", sig := { parameters := [(.array .byte), (.array .byte)], returnType := some .boolean }, accessFlags := 9, code := some k10c3 }
def k10c4 : Code := { maxStack := 4, maxLocals := 4, code := jdk_43_method_22_code, exceptionTable := #[], attributes := #[] }
def k10m4 : Method := { name := "indexOf", desc := "([BIII)I", sig := { parameters := [(.array .byte), .int, .int, .int], returnType := some .int }, accessFlags := 9, code := some k10c4 }
def k10c5 : Code := { maxStack := 2, maxLocals := 6, code := jdk_43_method_23_code, exceptionTable := #[], attributes := #[] }
def k10m5 : Method := { name := "indexOfChar", desc := "([BIII)I", sig := { parameters := [(.array .byte), .int, .int, .int], returnType := some .int }, accessFlags := 10, code := some k10c5 }
def k10c6 : Code := { maxStack := 4, maxLocals := 1, code := jdk_43_method_46_code, exceptionTable := #[], attributes := #[] }
def k10m6 : Method := { name := "toBytes", desc := "(C)[B", sig := { parameters := [.char], returnType := some (.array .byte) }, accessFlags := 9, code := some k10c6 }
/-- java/lang/StringLatin1 -/
def k10 : Class := { plain "java/lang/StringLatin1" (some 0) with
  accessFlags := 48
  interfaces := #[]
  cf := some (fileOf pool10 14 #[.nestMembers #[390, 221]] #[{ accessFlags := 0, nameIndex := 7, descriptorIndex := 8, attributes := #[] }, { accessFlags := 9, nameIndex := 90, descriptorIndex := 105, attributes := #[] }, { accessFlags := 9, nameIndex := 90, descriptorIndex := 91, attributes := #[] }, { accessFlags := 9, nameIndex := 281, descriptorIndex := 282, attributes := #[] }, { accessFlags := 9, nameIndex := 101, descriptorIndex := 98, attributes := #[] }, { accessFlags := 10, nameIndex := 97, descriptorIndex := 98, attributes := #[] }, { accessFlags := 9, nameIndex := 380, descriptorIndex := 382, attributes := #[] }] 48 4 #[] #[{ accessFlags := 4120, nameIndex := 121, descriptorIndex := 122, attributes := #[] }])
  fields := #[{ name := "$assertionsDisabled", type := .boolean, accessFlags := 4120, slot := 0, constantValue := 0 }]
  methods := #[k10m0, k10m1, k10m2, k10m3, k10m4, k10m5, k10m6]
  instanceTypes := #[]
  staticTypes := #[.boolean]
  resolved := Array.replicate 395 none
  statics := none }

def pool11 : Array CpInfo := pool [(1, .class_ 2), (0, u "java/lang/Math"), (1, .class_ 6), (1, u "java/lang/Object"), (0, u "<init>"), (0, u "()V"), (89, .class_ 100), (1, u "java/lang/Math$RandomNumberGeneratorHolder"), (71, u "negativeZeroFloatBits"), (0, u "J"), (2, u "negativeZeroDoubleBits"), (21, u "max"), (2, u "min"), (43, u "$assertionsDisabled"), (0, u "Z"), (88, u "(II)I"), (2, u "twoToTheDoubleScaleDown"), (0, u "D"), (4, u "twoToTheDoubleScaleUp"), (9, u "E"), (3, u "PI"), (2, u "TAU"), (2, u "DEGREES_TO_RADIANS"), (0, u "RADIANS_TO_DEGREES")] 94

def k11m0 : Method := { name := "<init>", desc := "()V", sig := { parameters := [], returnType := none }, accessFlags := 2, code := none }
def k11c1 : Code := { maxStack := 2, maxLocals := 2, code := jdk_29_method_65_code, exceptionTable := #[], attributes := #[] }
def k11m1 : Method := { name := "max", desc := "(II)I", sig := { parameters := [.int, .int], returnType := some .int }, accessFlags := 9, code := some k11c1 }
def k11c2 : Code := { maxStack := 2, maxLocals := 2, code := jdk_29_method_69_code, exceptionTable := #[], attributes := #[] }
def k11m2 : Method := { name := "min", desc := "(II)I", sig := { parameters := [.int, .int], returnType := some .int }, accessFlags := 9, code := some k11c2 }
/-- java/lang/Math -/
def k11 : Class := { plain "java/lang/Math" (some 0) with
  accessFlags := 49
  interfaces := #[]
  cf := some (fileOf pool11 1 #[.nestMembers #[98]] #[{ accessFlags := 2, nameIndex := 7, descriptorIndex := 8, attributes := #[] }, { accessFlags := 9, nameIndex := 198, descriptorIndex := 335, attributes := #[] }, { accessFlags := 9, nameIndex := 201, descriptorIndex := 335, attributes := #[] }] 49 4 #[] #[{ accessFlags := 25, nameIndex := 354, descriptorIndex := 339, attributes := #[] }, { accessFlags := 25, nameIndex := 358, descriptorIndex := 339, attributes := #[] }, { accessFlags := 25, nameIndex := 361, descriptorIndex := 339, attributes := #[] }, { accessFlags := 26, nameIndex := 364, descriptorIndex := 339, attributes := #[] }, { accessFlags := 26, nameIndex := 365, descriptorIndex := 339, attributes := #[] }, { accessFlags := 26, nameIndex := 172, descriptorIndex := 173, attributes := #[] }, { accessFlags := 26, nameIndex := 176, descriptorIndex := 173, attributes := #[] }, { accessFlags := 8, nameIndex := 344, descriptorIndex := 339, attributes := #[] }, { accessFlags := 8, nameIndex := 338, descriptorIndex := 339, attributes := #[] }, { accessFlags := 4120, nameIndex := 245, descriptorIndex := 246, attributes := #[] }])
  fields := #[{ name := "E", type := .double, accessFlags := 25, slot := 0, constantValue := 0 }, { name := "PI", type := .double, accessFlags := 25, slot := 1, constantValue := 0 }, { name := "TAU", type := .double, accessFlags := 25, slot := 2, constantValue := 0 }, { name := "DEGREES_TO_RADIANS", type := .double, accessFlags := 26, slot := 3, constantValue := 0 }, { name := "RADIANS_TO_DEGREES", type := .double, accessFlags := 26, slot := 4, constantValue := 0 }, { name := "negativeZeroFloatBits", type := .long, accessFlags := 26, slot := 5, constantValue := 0 }, { name := "negativeZeroDoubleBits", type := .long, accessFlags := 26, slot := 6, constantValue := 0 }, { name := "twoToTheDoubleScaleUp", type := .double, accessFlags := 8, slot := 7, constantValue := 0 }, { name := "twoToTheDoubleScaleDown", type := .double, accessFlags := 8, slot := 8, constantValue := 0 }, { name := "$assertionsDisabled", type := .boolean, accessFlags := 4120, slot := 9, constantValue := 0 }]
  methods := #[k11m0, k11m1, k11m2]
  instanceTypes := #[]
  staticTypes := #[.double, .double, .double, .double, .double, .long, .long, .double, .double, .boolean]
  resolved := Array.replicate 460 none
  statics := none }

def pool12 : Array CpInfo := pool [(2, .class_ 4), (1, u "java/lang/Object"), (0, u "<init>"), (0, u "()V"), (17, .class_ 26), (1, u "jdk/internal/util/Preconditions"), (20, u "checkFromToIndex"), (7, .class_ 56), (0, u "jdk/internal/util/Preconditions$4"), (57, .class_ 115), (0, u "jdk/internal/util/Preconditions$1"), (7, u "SIOOBE_FORMATTER"), (0, u "Ljava/util/function/BiFunction;"), (0, .class_ 126), (0, u "jdk/internal/util/Preconditions$2"), (3, u "AIOOBE_FORMATTER"), (0, .class_ 132), (0, u "jdk/internal/util/Preconditions$3"), (3, u "IOOBE_FORMATTER"), (46, u "(IIILjava/util/function/BiFunction;)I")] 10

def k12m0 : Method := { name := "<init>", desc := "()V", sig := { parameters := [], returnType := none }, accessFlags := 1, code := none }
def k12c1 : Code := { maxStack := 4, maxLocals := 4, code := jdk_41_method_12_code, exceptionTable := #[], attributes := #[] }
def k12m1 : Method := { name := "checkFromToIndex", desc := "(IIILjava/util/function/BiFunction;)I", sig := { parameters := [.int, .int, .int, (.object "java/util/function/BiFunction")], returnType := some .int }, accessFlags := 9, code := some k12c1 }
/-- jdk/internal/util/Preconditions -/
def k12 : Class := { plain "jdk/internal/util/Preconditions" (some 0) with
  accessFlags := 33
  interfaces := #[]
  cf := some (fileOf pool12 24 #[.nestMembers #[55, 131, 125, 114]] #[{ accessFlags := 1, nameIndex := 5, descriptorIndex := 6, attributes := #[] }, { accessFlags := 9, nameIndex := 47, descriptorIndex := 183, attributes := #[] }] 33 2 #[] #[{ accessFlags := 25, nameIndex := 123, descriptorIndex := 124, attributes := #[] }, { accessFlags := 25, nameIndex := 130, descriptorIndex := 124, attributes := #[] }, { accessFlags := 25, nameIndex := 136, descriptorIndex := 124, attributes := #[] }])
  fields := #[{ name := "SIOOBE_FORMATTER", type := (.object "java/util/function/BiFunction"), accessFlags := 25, slot := 0, constantValue := 0 }, { name := "AIOOBE_FORMATTER", type := (.object "java/util/function/BiFunction"), accessFlags := 25, slot := 1, constantValue := 0 }, { name := "IOOBE_FORMATTER", type := (.object "java/util/function/BiFunction"), accessFlags := 25, slot := 2, constantValue := 0 }]
  methods := #[k12m0, k12m1]
  instanceTypes := #[]
  staticTypes := #[(.object "java/util/function/BiFunction"), (.object "java/util/function/BiFunction"), (.object "java/util/function/BiFunction")]
  resolved := Array.replicate 194 none
  statics := some 2 }

def pool13 : Array CpInfo := pool [(9, u "<init>"), (6, .class_ 18), (1, u "java/lang/Object"), (0, u "()V"), (1, .class_ 23), (1, u "jdk/internal/util/ArraysSupport"), (0, u "LOG2_ARRAY_LONG_INDEX_SCALE"), (0, u "I"), (2, u "U"), (0, u "Ljdk/internal/misc/Unsafe;"), (8, u "BIG_ENDIAN"), (0, u "Z"), (8, u "LOG2_BYTE_BIT_SIZE"), (4, u "LOG2_ARRAY_INT_INDEX_SCALE"), (54, u "JLA"), (0, u "Ljdk/internal/access/JavaLangAccess;"), (11, u "LOG2_ARRAY_BOOLEAN_INDEX_SCALE"), (9, u "LOG2_ARRAY_BYTE_INDEX_SCALE"), (5, u "LOG2_ARRAY_CHAR_INDEX_SCALE"), (5, u "LOG2_ARRAY_SHORT_INDEX_SCALE"), (18, u "LOG2_ARRAY_FLOAT_INDEX_SCALE"), (24, u "LOG2_ARRAY_DOUBLE_INDEX_SCALE"), (89, u "T_BOOLEAN"), (2, u "T_CHAR"), (1, u "T_FLOAT"), (1, u "T_DOUBLE"), (1, u "T_BYTE"), (1, u "T_SHORT"), (1, u "T_INT"), (1, u "T_LONG"), (1, u "SOFT_MAX_ARRAY_LENGTH")] 83

def k13m0 : Method := { name := "<init>", desc := "()V", sig := { parameters := [], returnType := none }, accessFlags := 2, code := none }
/-- jdk/internal/util/ArraysSupport -/
def k13 : Class := { plain "jdk/internal/util/ArraysSupport" (some 0) with
  accessFlags := 33
  interfaces := #[]
  cf := some (fileOf pool13 21 #[] #[{ accessFlags := 2, nameIndex := 9, descriptorIndex := 19, attributes := #[] }] 33 16 #[] #[{ accessFlags := 24, nameIndex := 28, descriptorIndex := 29, attributes := #[] }, { accessFlags := 26, nameIndex := 38, descriptorIndex := 39, attributes := #[] }, { accessFlags := 25, nameIndex := 121, descriptorIndex := 25, attributes := #[] }, { accessFlags := 25, nameIndex := 131, descriptorIndex := 25, attributes := #[] }, { accessFlags := 25, nameIndex := 137, descriptorIndex := 25, attributes := #[] }, { accessFlags := 25, nameIndex := 143, descriptorIndex := 25, attributes := #[] }, { accessFlags := 25, nameIndex := 53, descriptorIndex := 25, attributes := #[] }, { accessFlags := 25, nameIndex := 24, descriptorIndex := 25, attributes := #[] }, { accessFlags := 25, nameIndex := 162, descriptorIndex := 25, attributes := #[] }, { accessFlags := 25, nameIndex := 187, descriptorIndex := 25, attributes := #[] }, { accessFlags := 26, nameIndex := 48, descriptorIndex := 25, attributes := #[] }, { accessFlags := 25, nameIndex := 277, descriptorIndex := 25, attributes := #[] }, { accessFlags := 25, nameIndex := 280, descriptorIndex := 25, attributes := #[] }, { accessFlags := 25, nameIndex := 282, descriptorIndex := 25, attributes := #[] }, { accessFlags := 25, nameIndex := 284, descriptorIndex := 25, attributes := #[] }, { accessFlags := 25, nameIndex := 286, descriptorIndex := 25, attributes := #[] }, { accessFlags := 25, nameIndex := 288, descriptorIndex := 25, attributes := #[] }, { accessFlags := 25, nameIndex := 290, descriptorIndex := 25, attributes := #[] }, { accessFlags := 25, nameIndex := 292, descriptorIndex := 25, attributes := #[] }, { accessFlags := 26, nameIndex := 108, descriptorIndex := 109, attributes := #[] }, { accessFlags := 25, nameIndex := 294, descriptorIndex := 25, attributes := #[] }])
  fields := #[{ name := "U", type := (.object "jdk/internal/misc/Unsafe"), accessFlags := 24, slot := 0, constantValue := 0 }, { name := "BIG_ENDIAN", type := .boolean, accessFlags := 26, slot := 1, constantValue := 0 }, { name := "LOG2_ARRAY_BOOLEAN_INDEX_SCALE", type := .int, accessFlags := 25, slot := 2, constantValue := 0 }, { name := "LOG2_ARRAY_BYTE_INDEX_SCALE", type := .int, accessFlags := 25, slot := 3, constantValue := 0 }, { name := "LOG2_ARRAY_CHAR_INDEX_SCALE", type := .int, accessFlags := 25, slot := 4, constantValue := 0 }, { name := "LOG2_ARRAY_SHORT_INDEX_SCALE", type := .int, accessFlags := 25, slot := 5, constantValue := 0 }, { name := "LOG2_ARRAY_INT_INDEX_SCALE", type := .int, accessFlags := 25, slot := 6, constantValue := 0 }, { name := "LOG2_ARRAY_LONG_INDEX_SCALE", type := .int, accessFlags := 25, slot := 7, constantValue := 0 }, { name := "LOG2_ARRAY_FLOAT_INDEX_SCALE", type := .int, accessFlags := 25, slot := 8, constantValue := 0 }, { name := "LOG2_ARRAY_DOUBLE_INDEX_SCALE", type := .int, accessFlags := 25, slot := 9, constantValue := 0 }, { name := "LOG2_BYTE_BIT_SIZE", type := .int, accessFlags := 26, slot := 10, constantValue := 0 }, { name := "T_BOOLEAN", type := .int, accessFlags := 25, slot := 11, constantValue := 0 }, { name := "T_CHAR", type := .int, accessFlags := 25, slot := 12, constantValue := 0 }, { name := "T_FLOAT", type := .int, accessFlags := 25, slot := 13, constantValue := 0 }, { name := "T_DOUBLE", type := .int, accessFlags := 25, slot := 14, constantValue := 0 }, { name := "T_BYTE", type := .int, accessFlags := 25, slot := 15, constantValue := 0 }, { name := "T_SHORT", type := .int, accessFlags := 25, slot := 16, constantValue := 0 }, { name := "T_INT", type := .int, accessFlags := 25, slot := 17, constantValue := 0 }, { name := "T_LONG", type := .int, accessFlags := 25, slot := 18, constantValue := 0 }, { name := "JLA", type := (.object "jdk/internal/access/JavaLangAccess"), accessFlags := 26, slot := 19, constantValue := 0 }, { name := "SOFT_MAX_ARRAY_LENGTH", type := .int, accessFlags := 25, slot := 20, constantValue := 0 }]
  methods := #[k13m0]
  instanceTypes := #[]
  staticTypes := #[(.object "jdk/internal/misc/Unsafe"), .boolean, .int, .int, .int, .int, .int, .int, .int, .int, .int, .int, .int, .int, .int, .int, .int, .int, .int, (.object "jdk/internal/access/JavaLangAccess"), .int]
  resolved := Array.replicate 378 none
  statics := none }

def pool14 : Array CpInfo := pool [(1, u "java/lang/Cloneable"), (0, .class_ 1), (0, u "java/lang/Object"), (0, .class_ 3)] 3

/-- java/lang/Cloneable -/
def k14 : Class := { plain "java/lang/Cloneable" (some 0) with
  accessFlags := 1537
  interfaces := #[]
  cf := some (fileOf pool14 2 #[] #[] 1537 4 #[] #[])
  fields := #[]
  methods := #[]
  instanceTypes := #[]
  staticTypes := #[]
  resolved := Array.replicate 8 none
  statics := none }

/-- the primitive byte -/
def k15 : Class := { plain "byte" none with kind := .primitive 'B', accessFlags := 0x411 }
/-- [B -/
def k16 : Class := { plain "[B" (some 0) with kind := .array 15 .byte, interfaces := #[14, 2], accessFlags := 1041 }

/-- the primitive char -/
def k17 : Class := { plain "char" none with kind := .primitive 'C', accessFlags := 0x411 }
/-- [C -/
def k18 : Class := { plain "[C" (some 0) with kind := .array 17 .char, interfaces := #[14, 2], accessFlags := 1041 }

/-- the primitive int -/
def k19 : Class := { plain "int" none with kind := .primitive 'I', accessFlags := 0x411 }
/-- [I -/
def k20 : Class := { plain "[I" (some 0) with kind := .array 19 .int, interfaces := #[14, 2], accessFlags := 1041 }

def heap : Heap := #[{ cls := 7, slots := #[.long 0, .int 1, .null, .int 0, .null, .int 0, .int 0], vm := .statics 7 },
  { cls := 9, slots := #[.int 0, .int 8, .int 0, .int 1], vm := .statics 9 },
  { cls := 12, slots := #[.null, .null, .null], vm := .statics 12 },
  { cls := 13, slots := #[], vm := .none }]
def classes : Array Class := #[k0, k1, k2, k3, k4, k5, k6, k7, k8, k9, k10, k11, k12, k13, k14, k15, k16, k17, k18, k19, k20]
def interned : List (Array UInt16 × Addr) := []
def slotsUsed : Nat := 14
def theMethod : MethodId := ⟨1, 1⟩
def args0 : Array Value := #[.int 1, .int 1, .int 1, .int 1, .int 1]
def aboutOver (below : List Frame) : State where
  vm := { classes := classes, interned := interned.toArray }
  heap := heap
  slotsUsed := slotsUsed
  threads := #[{ frames := .invoking theMethod args0 :: below }]
def below0 : List Frame := [.native { method := ⟨0, 0⟩, args := #[] }]
def about1 : State := aboutOver below0
def p0 : Program := .bare "" "" ""
def e0 : Env := launch0.env 0 0 0
theorem w_frames : about1.frames = Frame.invoking theMethod args0 :: below0 := rfl
set_option maxRecDepth 65536 in
theorem w_args : argsFit about1.vm theMethod args0 = true := by decide +kernel
set_option maxRecDepth 65536 in
theorem w_heap : heapFits about1 = true := by decide +kernel
set_option maxRecDepth 65536 in
theorem w_runnable : about1.curStatus? = some .runnable := by decide +kernel
set_option maxRecDepth 65536 in
theorem w_alone : about1.alone = true := by decide +kernel
set_option maxRecDepth 65536 in
theorem w_named : about1.methodNamed? x = some theMethod := by decide +kernel
set_option maxRecDepth 65536 in
theorem w_hears : about1.hears theMethod below0 = true := by decide +kernel
set_option maxRecDepth 65536 in
theorem w_ripe : about1.ripe theMethod args0 below0 = true := by decide +kernel
theorem w_running : about1.status = .running := rfl
set_option maxRecDepth 65536 in
theorem w_room : about1.hasRoom e0.platform room_1 = true :=
  launch0.hasRoom_least _ room_1 (by decide +kernel) (by decide +kernel) (by decide +kernel) (by decide +kernel) (by decide +kernel) (by decide +kernel)
theorem allAtoms_all (ts : List Jvm.Cond) (a : Array Jvm.Value) (st : Jvm.State) : (allAtoms ts).before a st = ts.all (fun c => c.before a st) := by
  induction ts with
  | nil => rfl
  | cons c t ih =>
    show (Jvm.Cond.and c (allAtoms t)).before a st = _
    rw [Jvm.Cond.before_and, ih, List.all_cons]
def words1 : List Jvm.Cond := Jvm.Cond.code x code maxLocals ret :: tables_1
/-- a 'code' word, met by the world's own term for the bytes: nothing is compared byte by byte -/
theorem code_word {y : MethodName} {bytes : ByteArray} {mx : Nat} {rt : Option FieldType} {a : Array Value} {s : State} {m : MethodId} {meth : Method} {c : Code} (h1 : s.methodNamed? y = some m) (h2 : s.vm.method? m = some meth) (h3 : meth.code = some c) (h4 : c.code = bytes)
    (h5 : (c.maxLocals == mx && c.exceptionTable.isEmpty && decide (c.maxStack ≤ mostOperands) && decide (meth.sig.returnType = rt) && !meth.locks && decide (parseMethodDescriptor y.desc = some meth.sig)) = true) : (Jvm.Cond.code y bytes mx rt).before a s = true := by
  simp only [Bool.and_eq_true, beq_iff_eq, Bool.not_eq_true', decide_eq_true_eq] at h5
  obtain ⟨⟨⟨⟨⟨g1, g2⟩, g3⟩, g4⟩, g5⟩, g6⟩ := h5
  simp [Cond.before, Cond.holds, Cond.value, h1, h2, h3, h4, g1, g2, g3, g4, g5, g6]
def isCode : Jvm.Cond → Bool
  | .code _ _ _ _ => true
  | _ => false
theorem all_split {L : List Jvm.Cond} {P : Jvm.Cond → Bool} (h1 : L.all (fun c => isCode c || P c) = true) (h2 : ∀ c ∈ L.filter isCode, P c = true) : L.all P = true := by
  refine List.all_eq_true.mpr fun c hc => ?_
  have h := List.all_eq_true.mp h1 c hc
  rcases Bool.eq_false_or_eq_true (isCode c) with hi | hi
  · exact h2 c (List.mem_filter.mpr ⟨hc, hi⟩)
  · simpa [hi] using h
set_option maxRecDepth 65536 in
theorem w_c0 : (Jvm.Cond.code x code maxLocals ret).before args0 about1 = true := code_word (m := ⟨1, 1⟩) (meth := k1m1) (c := k1c1) (by decide +kernel) rfl rfl rfl (by decide +kernel)
set_option maxRecDepth 65536 in
theorem w_c1 : (Jvm.Cond.code ({ cls := "com/example/hebelwerk/hebelwerk/model/PublishedFolderIsIdPinLaw", name := "draw", desc := "(I)C" } : Jvm.MethodName) method_3_code (2 : Nat) (Option.some Jvm.ClassFile.FieldType.char)).before args0 about1 = true := code_word (m := ⟨1, 2⟩) (meth := k1m2) (c := k1c2) (by decide +kernel) rfl rfl rfl (by decide +kernel)
set_option maxRecDepth 65536 in
theorem w_c2 : (Jvm.Cond.code ({ cls := "com/example/hebelwerk/hebelwerk/model/PublishedFolderIsIdPinLaw", name := "text", desc := "(ICCCC)Ljava/lang/String;" } : Jvm.MethodName) method_5_code (6 : Nat) (Option.some (Jvm.ClassFile.FieldType.object "java/lang/String"))).before args0 about1 = true := code_word (m := ⟨1, 4⟩) (meth := k1m4) (c := k1c4) (by decide +kernel) rfl rfl rfl (by decide +kernel)
set_option maxRecDepth 65536 in
theorem w_c3 : (Jvm.Cond.code ({ cls := "java/lang/String", name := "<init>", desc := "([C)V" } : Jvm.MethodName) jdk_42_method_3_code (2 : Nat) (Option.none : Option Jvm.ClassFile.FieldType)).before args0 about1 = true := code_word (m := ⟨7, 1⟩) (meth := k7m1) (c := k7c1) (by decide +kernel) rfl rfl rfl (by decide +kernel)
set_option maxRecDepth 65536 in
theorem w_c4 : (Jvm.Cond.code ({ cls := "java/lang/String", name := "<init>", desc := "([CIILjava/lang/Void;)V" } : Jvm.MethodName) jdk_42_method_149_code (6 : Nat) (Option.none : Option Jvm.ClassFile.FieldType)).before args0 about1 = true := code_word (m := ⟨7, 8⟩) (meth := k7m8) (c := k7c8) (by decide +kernel) rfl rfl rfl (by decide +kernel)
set_option maxRecDepth 65536 in
theorem w_c5 : (Jvm.Cond.code ({ cls := "java/lang/Object", name := "<init>", desc := "()V" } : Jvm.MethodName) object_method_1_code (1 : Nat) (Option.none : Option Jvm.ClassFile.FieldType)).before args0 about1 = true := code_word (m := ⟨0, 0⟩) (meth := k0m0) (c := k0c0) (by decide +kernel) rfl rfl rfl (by decide +kernel)
set_option maxRecDepth 65536 in
theorem w_c6 : (Jvm.Cond.code ({ cls := "com/example/hebelwerk/hebelwerk/model/PublishedFolder", name := "isId", desc := "(Ljava/lang/String;)Z" } : Jvm.MethodName) prog_32_method_7_code (1 : Nat) (Option.some Jvm.ClassFile.FieldType.boolean)).before args0 about1 = true := code_word (m := ⟨8, 0⟩) (meth := k8m0) (c := k8c0) (by decide +kernel) rfl rfl rfl (by decide +kernel)
set_option maxRecDepth 65536 in
theorem w_c7 : (Jvm.Cond.code ({ cls := "java/lang/String", name := "isEmpty", desc := "()Z" } : Jvm.MethodName) jdk_42_method_55_code (1 : Nat) (Option.some Jvm.ClassFile.FieldType.boolean)).before args0 about1 = true := code_word (m := ⟨7, 3⟩) (meth := k7m3) (c := k7c3) (by decide +kernel) rfl rfl rfl (by decide +kernel)
set_option maxRecDepth 65536 in
theorem w_c8 : (Jvm.Cond.code ({ cls := "java/lang/StringUTF16", name := "compress", desc := "([CII)[B" } : Jvm.MethodName) jdk_52_method_16_code (6 : Nat) (Option.some (Jvm.ClassFile.FieldType.array Jvm.ClassFile.FieldType.byte))).before args0 about1 = true := code_word (m := ⟨9, 8⟩) (meth := k9m8) (c := k9c8) (by decide +kernel) rfl rfl rfl (by decide +kernel)
set_option maxRecDepth 65536 in
theorem w_c9 : (Jvm.Cond.code ({ cls := "java/lang/StringUTF16", name := "compress", desc := "([CI[BII)I" } : Jvm.MethodName) jdk_52_method_21_code (7 : Nat) (Option.some Jvm.ClassFile.FieldType.int)).before args0 about1 = true := code_word (m := ⟨9, 9⟩) (meth := k9m9) (c := k9c9) (by decide +kernel) rfl rfl rfl (by decide +kernel)
set_option maxRecDepth 65536 in
theorem w_c10 : (Jvm.Cond.code ({ cls := "java/lang/StringUTF16", name := "coderFromArrayLen", desc := "([BI)B" } : Jvm.MethodName) jdk_52_method_15_code (2 : Nat) (Option.some Jvm.ClassFile.FieldType.byte)).before args0 about1 = true := code_word (m := ⟨9, 7⟩) (meth := k9m7) (c := k9c7) (by decide +kernel) rfl rfl rfl (by decide +kernel)
set_option maxRecDepth 65536 in
theorem w_c11 : (Jvm.Cond.code ({ cls := "com/example/hebelwerk/hebelwerk/model/PublishedFolderIsIdPinLaw", name := "bad", desc := "(C)Z" } : Jvm.MethodName) method_4_code (1 : Nat) (Option.some Jvm.ClassFile.FieldType.boolean)).before args0 about1 = true := code_word (m := ⟨1, 3⟩) (meth := k1m3) (c := k1c3) (by decide +kernel) rfl rfl rfl (by decide +kernel)
set_option maxRecDepth 65536 in
theorem w_c12 : (Jvm.Cond.code ({ cls := "java/lang/String", name := "equals", desc := "(Ljava/lang/Object;)Z" } : Jvm.MethodName) jdk_42_method_66_code (3 : Nat) (Option.some Jvm.ClassFile.FieldType.boolean)).before args0 about1 = true := code_word (m := ⟨7, 4⟩) (meth := k7m4) (c := k7c4) (by decide +kernel) rfl rfl rfl (by decide +kernel)
set_option maxRecDepth 65536 in
theorem w_c13 : (Jvm.Cond.code ({ cls := "java/lang/StringLatin1", name := "equals", desc := "([B[B)Z" } : Jvm.MethodName) jdk_43_method_13_code (3 : Nat) (Option.some Jvm.ClassFile.FieldType.boolean)).before args0 about1 = true := code_word (m := ⟨10, 3⟩) (meth := k10m3) (c := k10c3) (by decide +kernel) rfl rfl rfl (by decide +kernel)
set_option maxRecDepth 65536 in
theorem w_c14 : (Jvm.Cond.code ({ cls := "java/lang/String", name := "indexOf", desc := "(I)I" } : Jvm.MethodName) jdk_42_method_79_code (2 : Nat) (Option.some Jvm.ClassFile.FieldType.int)).before args0 about1 = true := code_word (m := ⟨7, 5⟩) (meth := k7m5) (c := k7c5) (by decide +kernel) rfl rfl rfl (by decide +kernel)
set_option maxRecDepth 65536 in
theorem w_c15 : (Jvm.Cond.code ({ cls := "java/lang/String", name := "indexOf", desc := "(II)I" } : Jvm.MethodName) jdk_42_method_80_code (3 : Nat) (Option.some Jvm.ClassFile.FieldType.int)).before args0 about1 = true := code_word (m := ⟨7, 6⟩) (meth := k7m6) (c := k7c6) (by decide +kernel) rfl rfl rfl (by decide +kernel)
set_option maxRecDepth 65536 in
theorem w_c16 : (Jvm.Cond.code ({ cls := "java/lang/String", name := "isLatin1", desc := "()Z" } : Jvm.MethodName) jdk_42_method_154_code (1 : Nat) (Option.some Jvm.ClassFile.FieldType.boolean)).before args0 about1 = true := code_word (m := ⟨7, 11⟩) (meth := k7m11) (c := k7c11) (by decide +kernel) rfl rfl rfl (by decide +kernel)
set_option maxRecDepth 65536 in
theorem w_c17 : (Jvm.Cond.code ({ cls := "java/lang/String", name := "length", desc := "()I" } : Jvm.MethodName) jdk_42_method_54_code (1 : Nat) (Option.some Jvm.ClassFile.FieldType.int)).before args0 about1 = true := code_word (m := ⟨7, 2⟩) (meth := k7m2) (c := k7c2) (by decide +kernel) rfl rfl rfl (by decide +kernel)
set_option maxRecDepth 65536 in
theorem w_c18 : (Jvm.Cond.code ({ cls := "java/lang/String", name := "coder", desc := "()B" } : Jvm.MethodName) jdk_42_method_152_code (1 : Nat) (Option.some Jvm.ClassFile.FieldType.byte)).before args0 about1 = true := code_word (m := ⟨7, 10⟩) (meth := k7m10) (c := k7c10) (by decide +kernel) rfl rfl rfl (by decide +kernel)
set_option maxRecDepth 65536 in
theorem w_c19 : (Jvm.Cond.code ({ cls := "java/lang/StringLatin1", name := "indexOf", desc := "([BIII)I" } : Jvm.MethodName) jdk_43_method_22_code (4 : Nat) (Option.some Jvm.ClassFile.FieldType.int)).before args0 about1 = true := code_word (m := ⟨10, 4⟩) (meth := k10m4) (c := k10c4) (by decide +kernel) rfl rfl rfl (by decide +kernel)
set_option maxRecDepth 65536 in
theorem w_c20 : (Jvm.Cond.code ({ cls := "java/lang/StringLatin1", name := "canEncode", desc := "(I)Z" } : Jvm.MethodName) jdk_43_method_4_code (1 : Nat) (Option.some Jvm.ClassFile.FieldType.boolean)).before args0 about1 = true := code_word (m := ⟨10, 2⟩) (meth := k10m2) (c := k10c2) (by decide +kernel) rfl rfl rfl (by decide +kernel)
set_option maxRecDepth 65536 in
theorem w_c21 : (Jvm.Cond.code ({ cls := "java/lang/Math", name := "max", desc := "(II)I" } : Jvm.MethodName) jdk_29_method_65_code (2 : Nat) (Option.some Jvm.ClassFile.FieldType.int)).before args0 about1 = true := code_word (m := ⟨11, 1⟩) (meth := k11m1) (c := k11c1) (by decide +kernel) rfl rfl rfl (by decide +kernel)
set_option maxRecDepth 65536 in
theorem w_c22 : (Jvm.Cond.code ({ cls := "java/lang/Math", name := "min", desc := "(II)I" } : Jvm.MethodName) jdk_29_method_69_code (2 : Nat) (Option.some Jvm.ClassFile.FieldType.int)).before args0 about1 = true := code_word (m := ⟨11, 2⟩) (meth := k11m2) (c := k11c2) (by decide +kernel) rfl rfl rfl (by decide +kernel)
set_option maxRecDepth 65536 in
theorem w_c23 : (Jvm.Cond.code ({ cls := "java/lang/StringLatin1", name := "indexOfChar", desc := "([BIII)I" } : Jvm.MethodName) jdk_43_method_23_code (6 : Nat) (Option.some Jvm.ClassFile.FieldType.int)).before args0 about1 = true := code_word (m := ⟨10, 5⟩) (meth := k10m5) (c := k10c5) (by decide +kernel) rfl rfl rfl (by decide +kernel)
set_option maxRecDepth 65536 in
theorem w_c24 : (Jvm.Cond.code ({ cls := "java/lang/String", name := "valueOf", desc := "(C)Ljava/lang/String;" } : Jvm.MethodName) jdk_42_method_139_code (1 : Nat) (Option.some (Jvm.ClassFile.FieldType.object "java/lang/String"))).before args0 about1 = true := code_word (m := ⟨7, 7⟩) (meth := k7m7) (c := k7c7) (by decide +kernel) rfl rfl rfl (by decide +kernel)
set_option maxRecDepth 65536 in
theorem w_c25 : (Jvm.Cond.code ({ cls := "java/lang/StringLatin1", name := "canEncode", desc := "(C)Z" } : Jvm.MethodName) jdk_43_method_3_code (1 : Nat) (Option.some Jvm.ClassFile.FieldType.boolean)).before args0 about1 = true := code_word (m := ⟨10, 1⟩) (meth := k10m1) (c := k10c1) (by decide +kernel) rfl rfl rfl (by decide +kernel)
set_option maxRecDepth 65536 in
theorem w_c26 : (Jvm.Cond.code ({ cls := "java/lang/StringLatin1", name := "toBytes", desc := "(C)[B" } : Jvm.MethodName) jdk_43_method_46_code (1 : Nat) (Option.some (Jvm.ClassFile.FieldType.array Jvm.ClassFile.FieldType.byte))).before args0 about1 = true := code_word (m := ⟨10, 6⟩) (meth := k10m6) (c := k10c6) (by decide +kernel) rfl rfl rfl (by decide +kernel)
set_option maxRecDepth 65536 in
theorem w_c27 : (Jvm.Cond.code ({ cls := "java/lang/String", name := "<init>", desc := "([BB)V" } : Jvm.MethodName) jdk_42_method_151_code (3 : Nat) (Option.none : Option Jvm.ClassFile.FieldType)).before args0 about1 = true := code_word (m := ⟨7, 9⟩) (meth := k7m9) (c := k7c9) (by decide +kernel) rfl rfl rfl (by decide +kernel)
set_option maxRecDepth 65536 in
theorem w_c28 : (Jvm.Cond.code ({ cls := "java/lang/StringUTF16", name := "toBytes", desc := "([CII)[B" } : Jvm.MethodName) jdk_52_method_14_code (5 : Nat) (Option.some (Jvm.ClassFile.FieldType.array Jvm.ClassFile.FieldType.byte))).before args0 about1 = true := code_word (m := ⟨9, 6⟩) (meth := k9m6) (c := k9c6) (by decide +kernel) rfl rfl rfl (by decide +kernel)
set_option maxRecDepth 65536 in
theorem w_c29 : (Jvm.Cond.code ({ cls := "java/lang/StringUTF16", name := "newBytesFor", desc := "(I)[B" } : Jvm.MethodName) jdk_52_method_2_code (1 : Nat) (Option.some (Jvm.ClassFile.FieldType.array Jvm.ClassFile.FieldType.byte))).before args0 about1 = true := code_word (m := ⟨9, 1⟩) (meth := k9m1) (c := k9c1) (by decide +kernel) rfl rfl rfl (by decide +kernel)
set_option maxRecDepth 65536 in
theorem w_c30 : (Jvm.Cond.code ({ cls := "java/lang/StringUTF16", name := "newBytesLength", desc := "(I)I" } : Jvm.MethodName) jdk_52_method_3_code (1 : Nat) (Option.some Jvm.ClassFile.FieldType.int)).before args0 about1 = true := code_word (m := ⟨9, 2⟩) (meth := k9m2) (c := k9c2) (by decide +kernel) rfl rfl rfl (by decide +kernel)
set_option maxRecDepth 65536 in
theorem w_c31 : (Jvm.Cond.code ({ cls := "java/lang/StringUTF16", name := "putChar", desc := "([BII)V" } : Jvm.MethodName) jdk_52_method_4_code (3 : Nat) (Option.none : Option Jvm.ClassFile.FieldType)).before args0 about1 = true := code_word (m := ⟨9, 3⟩) (meth := k9m3) (c := k9c3) (by decide +kernel) rfl rfl rfl (by decide +kernel)
set_option maxRecDepth 65536 in
theorem w_c32 : (Jvm.Cond.code ({ cls := "java/lang/StringUTF16", name := "getChar", desc := "([BI)C" } : Jvm.MethodName) jdk_52_method_5_code (2 : Nat) (Option.some Jvm.ClassFile.FieldType.char)).before args0 about1 = true := code_word (m := ⟨9, 4⟩) (meth := k9m4) (c := k9c4) (by decide +kernel) rfl rfl rfl (by decide +kernel)
set_option maxRecDepth 65536 in
theorem w_c33 : (Jvm.Cond.code ({ cls := "java/lang/StringUTF16", name := "indexOf", desc := "([BIII)I" } : Jvm.MethodName) jdk_52_method_40_code (4 : Nat) (Option.some Jvm.ClassFile.FieldType.int)).before args0 about1 = true := code_word (m := ⟨9, 11⟩) (meth := k9m11) (c := k9c11) (by decide +kernel) rfl rfl rfl (by decide +kernel)
set_option maxRecDepth 65536 in
theorem w_c34 : (Jvm.Cond.code ({ cls := "java/lang/StringUTF16", name := "indexOfChar", desc := "([BIII)I" } : Jvm.MethodName) jdk_52_method_47_code (4 : Nat) (Option.some Jvm.ClassFile.FieldType.int)).before args0 about1 = true := code_word (m := ⟨9, 12⟩) (meth := k9m12) (c := k9c12) (by decide +kernel) rfl rfl rfl (by decide +kernel)
set_option maxRecDepth 65536 in
theorem w_c35 : (Jvm.Cond.code ({ cls := "java/lang/StringUTF16", name := "checkBoundsBeginEnd", desc := "(II[B)V" } : Jvm.MethodName) jdk_52_method_93_code (3 : Nat) (Option.none : Option Jvm.ClassFile.FieldType)).before args0 about1 = true := code_word (m := ⟨9, 14⟩) (meth := k9m14) (c := k9c14) (by decide +kernel) rfl rfl rfl (by decide +kernel)
set_option maxRecDepth 65536 in
theorem w_c36 : (Jvm.Cond.code ({ cls := "java/lang/StringUTF16", name := "length", desc := "([B)I" } : Jvm.MethodName) jdk_52_method_6_code (1 : Nat) (Option.some Jvm.ClassFile.FieldType.int)).before args0 about1 = true := code_word (m := ⟨9, 5⟩) (meth := k9m5) (c := k9c5) (by decide +kernel) rfl rfl rfl (by decide +kernel)
set_option maxRecDepth 65536 in
theorem w_c37 : (Jvm.Cond.code ({ cls := "java/lang/String", name := "checkBoundsBeginEnd", desc := "(III)V" } : Jvm.MethodName) jdk_42_method_158_code (3 : Nat) (Option.none : Option Jvm.ClassFile.FieldType)).before args0 about1 = true := code_word (m := ⟨7, 12⟩) (meth := k7m12) (c := k7c12) (by decide +kernel) rfl rfl rfl (by decide +kernel)
set_option maxRecDepth 65536 in
theorem w_c38 : (Jvm.Cond.code ({ cls := "jdk/internal/util/Preconditions", name := "checkFromToIndex", desc := "(IIILjava/util/function/BiFunction;)I" } : Jvm.MethodName) jdk_41_method_12_code (4 : Nat) (Option.some Jvm.ClassFile.FieldType.int)).before args0 about1 = true := code_word (m := ⟨12, 1⟩) (meth := k12m1) (c := k12c1) (by decide +kernel) rfl rfl rfl (by decide +kernel)
set_option maxRecDepth 65536 in
theorem w_c39 : (Jvm.Cond.code ({ cls := "java/lang/StringUTF16", name := "indexOfCharUnsafe", desc := "([BIII)I" } : Jvm.MethodName) jdk_52_method_48_code (5 : Nat) (Option.some Jvm.ClassFile.FieldType.int)).before args0 about1 = true := code_word (m := ⟨9, 13⟩) (meth := k9m13) (c := k9c13) (by decide +kernel) rfl rfl rfl (by decide +kernel)
set_option maxRecDepth 65536 in
theorem w_c40 : (Jvm.Cond.code ({ cls := "java/lang/StringUTF16", name := "toBytes", desc := "(C)[B" } : Jvm.MethodName) jdk_52_method_24_code (2 : Nat) (Option.some (Jvm.ClassFile.FieldType.array Jvm.ClassFile.FieldType.byte))).before args0 about1 = true := code_word (m := ⟨9, 10⟩) (meth := k9m10) (c := k9c10) (by decide +kernel) rfl rfl rfl (by decide +kernel)
def codes1 : List Jvm.Cond := [Jvm.Cond.code x code maxLocals ret, Jvm.Cond.code ({ cls := "com/example/hebelwerk/hebelwerk/model/PublishedFolderIsIdPinLaw", name := "draw", desc := "(I)C" } : Jvm.MethodName) method_3_code (2 : Nat) (Option.some Jvm.ClassFile.FieldType.char), Jvm.Cond.code ({ cls := "com/example/hebelwerk/hebelwerk/model/PublishedFolderIsIdPinLaw", name := "text", desc := "(ICCCC)Ljava/lang/String;" } : Jvm.MethodName) method_5_code (6 : Nat) (Option.some (Jvm.ClassFile.FieldType.object "java/lang/String")), Jvm.Cond.code ({ cls := "java/lang/String", name := "<init>", desc := "([C)V" } : Jvm.MethodName) jdk_42_method_3_code (2 : Nat) (Option.none : Option Jvm.ClassFile.FieldType), Jvm.Cond.code ({ cls := "java/lang/String", name := "<init>", desc := "([CIILjava/lang/Void;)V" } : Jvm.MethodName) jdk_42_method_149_code (6 : Nat) (Option.none : Option Jvm.ClassFile.FieldType), Jvm.Cond.code ({ cls := "java/lang/Object", name := "<init>", desc := "()V" } : Jvm.MethodName) object_method_1_code (1 : Nat) (Option.none : Option Jvm.ClassFile.FieldType), Jvm.Cond.code ({ cls := "com/example/hebelwerk/hebelwerk/model/PublishedFolder", name := "isId", desc := "(Ljava/lang/String;)Z" } : Jvm.MethodName) prog_32_method_7_code (1 : Nat) (Option.some Jvm.ClassFile.FieldType.boolean), Jvm.Cond.code ({ cls := "java/lang/String", name := "isEmpty", desc := "()Z" } : Jvm.MethodName) jdk_42_method_55_code (1 : Nat) (Option.some Jvm.ClassFile.FieldType.boolean), Jvm.Cond.code ({ cls := "java/lang/StringUTF16", name := "compress", desc := "([CII)[B" } : Jvm.MethodName) jdk_52_method_16_code (6 : Nat) (Option.some (Jvm.ClassFile.FieldType.array Jvm.ClassFile.FieldType.byte)), Jvm.Cond.code ({ cls := "java/lang/StringUTF16", name := "compress", desc := "([CI[BII)I" } : Jvm.MethodName) jdk_52_method_21_code (7 : Nat) (Option.some Jvm.ClassFile.FieldType.int), Jvm.Cond.code ({ cls := "java/lang/StringUTF16", name := "coderFromArrayLen", desc := "([BI)B" } : Jvm.MethodName) jdk_52_method_15_code (2 : Nat) (Option.some Jvm.ClassFile.FieldType.byte), Jvm.Cond.code ({ cls := "com/example/hebelwerk/hebelwerk/model/PublishedFolderIsIdPinLaw", name := "bad", desc := "(C)Z" } : Jvm.MethodName) method_4_code (1 : Nat) (Option.some Jvm.ClassFile.FieldType.boolean), Jvm.Cond.code ({ cls := "java/lang/String", name := "equals", desc := "(Ljava/lang/Object;)Z" } : Jvm.MethodName) jdk_42_method_66_code (3 : Nat) (Option.some Jvm.ClassFile.FieldType.boolean), Jvm.Cond.code ({ cls := "java/lang/StringLatin1", name := "equals", desc := "([B[B)Z" } : Jvm.MethodName) jdk_43_method_13_code (3 : Nat) (Option.some Jvm.ClassFile.FieldType.boolean), Jvm.Cond.code ({ cls := "java/lang/String", name := "indexOf", desc := "(I)I" } : Jvm.MethodName) jdk_42_method_79_code (2 : Nat) (Option.some Jvm.ClassFile.FieldType.int), Jvm.Cond.code ({ cls := "java/lang/String", name := "indexOf", desc := "(II)I" } : Jvm.MethodName) jdk_42_method_80_code (3 : Nat) (Option.some Jvm.ClassFile.FieldType.int), Jvm.Cond.code ({ cls := "java/lang/String", name := "isLatin1", desc := "()Z" } : Jvm.MethodName) jdk_42_method_154_code (1 : Nat) (Option.some Jvm.ClassFile.FieldType.boolean), Jvm.Cond.code ({ cls := "java/lang/String", name := "length", desc := "()I" } : Jvm.MethodName) jdk_42_method_54_code (1 : Nat) (Option.some Jvm.ClassFile.FieldType.int), Jvm.Cond.code ({ cls := "java/lang/String", name := "coder", desc := "()B" } : Jvm.MethodName) jdk_42_method_152_code (1 : Nat) (Option.some Jvm.ClassFile.FieldType.byte), Jvm.Cond.code ({ cls := "java/lang/StringLatin1", name := "indexOf", desc := "([BIII)I" } : Jvm.MethodName) jdk_43_method_22_code (4 : Nat) (Option.some Jvm.ClassFile.FieldType.int), Jvm.Cond.code ({ cls := "java/lang/StringLatin1", name := "canEncode", desc := "(I)Z" } : Jvm.MethodName) jdk_43_method_4_code (1 : Nat) (Option.some Jvm.ClassFile.FieldType.boolean), Jvm.Cond.code ({ cls := "java/lang/Math", name := "max", desc := "(II)I" } : Jvm.MethodName) jdk_29_method_65_code (2 : Nat) (Option.some Jvm.ClassFile.FieldType.int), Jvm.Cond.code ({ cls := "java/lang/Math", name := "min", desc := "(II)I" } : Jvm.MethodName) jdk_29_method_69_code (2 : Nat) (Option.some Jvm.ClassFile.FieldType.int), Jvm.Cond.code ({ cls := "java/lang/StringLatin1", name := "indexOfChar", desc := "([BIII)I" } : Jvm.MethodName) jdk_43_method_23_code (6 : Nat) (Option.some Jvm.ClassFile.FieldType.int), Jvm.Cond.code ({ cls := "java/lang/String", name := "valueOf", desc := "(C)Ljava/lang/String;" } : Jvm.MethodName) jdk_42_method_139_code (1 : Nat) (Option.some (Jvm.ClassFile.FieldType.object "java/lang/String")), Jvm.Cond.code ({ cls := "java/lang/StringLatin1", name := "canEncode", desc := "(C)Z" } : Jvm.MethodName) jdk_43_method_3_code (1 : Nat) (Option.some Jvm.ClassFile.FieldType.boolean), Jvm.Cond.code ({ cls := "java/lang/StringLatin1", name := "toBytes", desc := "(C)[B" } : Jvm.MethodName) jdk_43_method_46_code (1 : Nat) (Option.some (Jvm.ClassFile.FieldType.array Jvm.ClassFile.FieldType.byte)), Jvm.Cond.code ({ cls := "java/lang/String", name := "<init>", desc := "([BB)V" } : Jvm.MethodName) jdk_42_method_151_code (3 : Nat) (Option.none : Option Jvm.ClassFile.FieldType), Jvm.Cond.code ({ cls := "java/lang/StringUTF16", name := "toBytes", desc := "([CII)[B" } : Jvm.MethodName) jdk_52_method_14_code (5 : Nat) (Option.some (Jvm.ClassFile.FieldType.array Jvm.ClassFile.FieldType.byte)), Jvm.Cond.code ({ cls := "java/lang/StringUTF16", name := "newBytesFor", desc := "(I)[B" } : Jvm.MethodName) jdk_52_method_2_code (1 : Nat) (Option.some (Jvm.ClassFile.FieldType.array Jvm.ClassFile.FieldType.byte)), Jvm.Cond.code ({ cls := "java/lang/StringUTF16", name := "newBytesLength", desc := "(I)I" } : Jvm.MethodName) jdk_52_method_3_code (1 : Nat) (Option.some Jvm.ClassFile.FieldType.int), Jvm.Cond.code ({ cls := "java/lang/StringUTF16", name := "putChar", desc := "([BII)V" } : Jvm.MethodName) jdk_52_method_4_code (3 : Nat) (Option.none : Option Jvm.ClassFile.FieldType), Jvm.Cond.code ({ cls := "java/lang/StringUTF16", name := "getChar", desc := "([BI)C" } : Jvm.MethodName) jdk_52_method_5_code (2 : Nat) (Option.some Jvm.ClassFile.FieldType.char), Jvm.Cond.code ({ cls := "java/lang/StringUTF16", name := "indexOf", desc := "([BIII)I" } : Jvm.MethodName) jdk_52_method_40_code (4 : Nat) (Option.some Jvm.ClassFile.FieldType.int), Jvm.Cond.code ({ cls := "java/lang/StringUTF16", name := "indexOfChar", desc := "([BIII)I" } : Jvm.MethodName) jdk_52_method_47_code (4 : Nat) (Option.some Jvm.ClassFile.FieldType.int), Jvm.Cond.code ({ cls := "java/lang/StringUTF16", name := "checkBoundsBeginEnd", desc := "(II[B)V" } : Jvm.MethodName) jdk_52_method_93_code (3 : Nat) (Option.none : Option Jvm.ClassFile.FieldType), Jvm.Cond.code ({ cls := "java/lang/StringUTF16", name := "length", desc := "([B)I" } : Jvm.MethodName) jdk_52_method_6_code (1 : Nat) (Option.some Jvm.ClassFile.FieldType.int), Jvm.Cond.code ({ cls := "java/lang/String", name := "checkBoundsBeginEnd", desc := "(III)V" } : Jvm.MethodName) jdk_42_method_158_code (3 : Nat) (Option.none : Option Jvm.ClassFile.FieldType), Jvm.Cond.code ({ cls := "jdk/internal/util/Preconditions", name := "checkFromToIndex", desc := "(IIILjava/util/function/BiFunction;)I" } : Jvm.MethodName) jdk_41_method_12_code (4 : Nat) (Option.some Jvm.ClassFile.FieldType.int), Jvm.Cond.code ({ cls := "java/lang/StringUTF16", name := "indexOfCharUnsafe", desc := "([BIII)I" } : Jvm.MethodName) jdk_52_method_48_code (5 : Nat) (Option.some Jvm.ClassFile.FieldType.int), Jvm.Cond.code ({ cls := "java/lang/StringUTF16", name := "toBytes", desc := "(C)[B" } : Jvm.MethodName) jdk_52_method_24_code (2 : Nat) (Option.some (Jvm.ClassFile.FieldType.array Jvm.ClassFile.FieldType.byte))]
set_option maxRecDepth 65536 in
theorem codes_eq : words1.filter isCode = codes1 := rfl
theorem w_codes : ∀ c ∈ words1.filter isCode, c.before args0 about1 = true := by
  rw [codes_eq]
  intro c hc
  simp only [codes1, List.mem_cons, List.not_mem_nil, or_false] at hc
  rcases hc with rfl | rfl | rfl | rfl | rfl | rfl | rfl | rfl | rfl | rfl | rfl | rfl | rfl | rfl | rfl | rfl | rfl | rfl | rfl | rfl | rfl | rfl | rfl | rfl | rfl | rfl | rfl | rfl | rfl | rfl | rfl | rfl | rfl | rfl | rfl | rfl | rfl | rfl | rfl | rfl | rfl
  · exact w_c0
  · exact w_c1
  · exact w_c2
  · exact w_c3
  · exact w_c4
  · exact w_c5
  · exact w_c6
  · exact w_c7
  · exact w_c8
  · exact w_c9
  · exact w_c10
  · exact w_c11
  · exact w_c12
  · exact w_c13
  · exact w_c14
  · exact w_c15
  · exact w_c16
  · exact w_c17
  · exact w_c18
  · exact w_c19
  · exact w_c20
  · exact w_c21
  · exact w_c22
  · exact w_c23
  · exact w_c24
  · exact w_c25
  · exact w_c26
  · exact w_c27
  · exact w_c28
  · exact w_c29
  · exact w_c30
  · exact w_c31
  · exact w_c32
  · exact w_c33
  · exact w_c34
  · exact w_c35
  · exact w_c36
  · exact w_c37
  · exact w_c38
  · exact w_c39
  · exact w_c40
set_option maxRecDepth 65536 in
theorem w_t1 : (words1.take 24).all (fun c => isCode c || c.before args0 about1) = true := by decide +kernel
set_option maxRecDepth 65536 in
theorem w_t2 : ((words1.drop 24).take 24).all (fun c => isCode c || c.before args0 about1) = true := by decide +kernel
set_option maxRecDepth 65536 in
theorem w_t3 : (((words1.drop 24).drop 24).take 24).all (fun c => isCode c || c.before args0 about1) = true := by decide +kernel
set_option maxRecDepth 65536 in
theorem w_t4 : ((((words1.drop 24).drop 24).drop 24).take 24).all (fun c => isCode c || c.before args0 about1) = true := by decide +kernel
set_option maxRecDepth 65536 in
theorem w_t5 : (((((words1.drop 24).drop 24).drop 24).drop 24).take 24).all (fun c => isCode c || c.before args0 about1) = true := by decide +kernel
set_option maxRecDepth 65536 in
theorem w_t6 : ((((((words1.drop 24).drop 24).drop 24).drop 24).drop 24).take 24).all (fun c => isCode c || c.before args0 about1) = true := by decide +kernel
set_option maxRecDepth 65536 in
theorem w_t7 : ((((((words1.drop 24).drop 24).drop 24).drop 24).drop 24).drop 24).all (fun c => isCode c || c.before args0 about1) = true := by decide +kernel
theorem w_tables : (allAtoms (Jvm.Cond.code x code maxLocals ret :: tables_1)).before args0 about1 = true := by
  rw [allAtoms_all]
  show words1.all (fun c => c.before args0 about1) = true
  refine all_split ?_ w_codes
  rw [← List.take_append_drop 24 words1, List.all_append, w_t1, ← List.take_append_drop 24 (words1.drop 24), List.all_append, w_t2, ← List.take_append_drop 24 ((words1.drop 24).drop 24), List.all_append, w_t3, ← List.take_append_drop 24 (((words1.drop 24).drop 24).drop 24), List.all_append, w_t4, ← List.take_append_drop 24 ((((words1.drop 24).drop 24).drop 24).drop 24), List.all_append, w_t5, ← List.take_append_drop 24 (((((words1.drop 24).drop 24).drop 24).drop 24).drop 24), List.all_append, w_t6, w_t7]
  rfl
set_option maxRecDepth 65536 in
theorem w_rest : rest_1_c.before args0 about1 = true := by decide +kernel
set_option maxRecDepth 65536 in
theorem w_case : (Jvm.Cond.and given_1 narrow_1).before args0 about1 = true := by decide +kernel
set_option maxRecDepth 65536 in
theorem w_consts : constsHeld consts_1 about1 := Jvm.Lit.constsHeldB_iff.mp (by decide +kernel)
theorem w_applies : (headSpec (Jvm.Cond.code x code maxLocals ret :: tables_1) room_1).applies x e0.platform about1 = true :=
  (Spec.applies_iff w_frames).mpr ⟨w_running, w_runnable, w_alone, w_named, w_hears, w_ripe, w_room, w_tables⟩
theorem atStart : AtStart classFile x code maxLocals ret World_1 tables_1 room_1 Calls_1 rest_1 Pre_1 launch0 p0 e0 about1 theMethod args0 below0 :=
  ⟨lists_1, trivial, launch0.admits_env _ _ _, launch0.least_env, fairChoices_fair.cas, fairChoices_fair.clock, w_frames, w_args, w_heap, w_applies, ⟨w_consts, trivial⟩, w_rest, w_case⟩
end start1
theorem witness_1 : WitnessClaimed_1 := ⟨start1.p0, start1.e0, start1.about1, start1.theMethod, start1.args0, start1.below0, start1.atStart⟩
end Jvm.Pilot.@@N@@
