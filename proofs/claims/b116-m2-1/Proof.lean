import JvmDerived
import JvmDerived.Pilot.@@N@@Statement
import JvmDerived.Pilot.@@N@@Code
set_option linter.unusedVariables false
set_option linter.unusedSimpArgs false
/- laws to paste: Road.backV, Road.eqW, Road.lenW, Road.chN, Road.codOf (cut by pick.py; bodies as the Statement names them) -/
namespace Jvm.Pilot.@@N@@
namespace StrChars
open Jvm Sem ClassFile Op Lib Jvm.Stand Jvm.Free.XT Jvm.Free.ALB Jvm.Free.JM Jvm.Free
open Jvm.Lib.Cold (StaticIs)
/-- a char array whose places are chars -/
def Ch (a : Addr) (A : Cell) (U : State) : Prop := Arr .char a A U ∧ Typed .char A
theorem Ch.mv {a : Addr} {A : Cell} {U U' : State} (h : Ch a A U) (hal : U.vm.Alike U'.vm) (hh : U'.heap = U.heap) : Ch a A U' := ⟨h.1.mv hal hh, h.2⟩
theorem Ch.keep {a : Addr} {A : Cell} {U U' : State} (h : Ch a A U) (hal : U.vm.Alike U'.vm) (hk : U'.heap[a]? = some A) : Ch a A U' := ⟨h.1.keep hal hk, h.2⟩
/-- what place i of a char[]'s cell holds -/
def cv (A : Cell) (i : Nat) : Int32 := match A.slots[i]? with | some (.int x) => x | _ => 0
theorem Ch.get {a : Addr} {A : Cell} {U : State} (h : Ch a A U) {i : Nat} (hi : i < A.slots.size) : A.slots[i]? = some (.int (cv A i)) := by
  have e := Array.getElem?_eq_getElem hi
  have f := h.2 i _ e
  unfold cv; rw [e]
  generalize A.slots[i] = v at f
  cases v <;> simp [fits] at f ⊢
/-- the byte that i2b leaves of a char -/
def lo8 (x : Int32) : Int32 := x.toInt8.toInt32
theorem fits_lo8 (y : Int32) : fits .byte (.int (lo8 y)) = true := by
  have h1 := y.toInt8.le_toInt
  have h2 := y.toInt8.toInt_lt
  simp only [lo8, fits, Bool.and_eq_true, decide_eq_true_eq, Int32.le_iff_toInt_le, Int8.toInt_toInt32, show (-128 : Int32).toInt = -128 from by decide, show (127 : Int32).toInt = 127 from by decide]
  omega
/-- A' is A but that each place j of lo .. hi - 1 holds f j -/
def Laid (A A' : Cell) (lo hi : Nat) (f : Nat → Value) : Prop := A'.cls = A.cls ∧ A'.vm = A.vm ∧ A'.slots.size = A.slots.size ∧ ∀ i, A'.slots[i]? = if lo ≤ i ∧ i < hi then some (f i) else A.slots[i]?
theorem Laid.zero (A : Cell) (lo : Nat) (f : Nat → Value) : Laid A A lo (lo + 0) f := ⟨rfl, rfl, rfl, fun i => by rw [if_neg (by omega)]⟩
theorem Laid.step {A Ak : Cell} {lo k : Nat} {f : Nat → Value} {v : Value} (h : Laid A Ak lo k f) (hlo : lo ≤ k) (hk : k < Ak.slots.size) (hv : v = f k) : Laid A (Ak.setSlot k v) lo (k + 1) f := by
  refine ⟨h.1, h.2.1, by simpa [Cell.setSlot] using h.2.2.1, fun i => ?_⟩
  by_cases e : k = i
  · subst e; rw [Cell.slots_setSlot_self v hk, if_pos (by omega), hv]
  · rw [Cell.slots_setSlot_ne v e, h.2.2.2 i]
    by_cases q : lo ≤ i ∧ i < k
    · rw [if_pos q, if_pos (by omega)]
    · rw [if_neg q, if_neg (by omega)]
def U16 : String := "java/lang/StringUTF16"
namespace Cmp5
def yN : MethodName := ⟨"java/lang/StringUTF16", "compress", "([CI[BII)I"⟩
abbrev yB : ByteArray := jdk_52_method_21_code
theorem d0 : decode yB 0 = .ok (.iconst 0, 1) := by decide +kernel
theorem d1 : decode yB 1 = .ok (.istore 5, 2) := by decide +kernel
theorem d3 : decode yB 3 = .ok (.iload 5, 2) := by decide +kernel
theorem d5 : decode yB 5 = .ok (.iload 4, 2) := by decide +kernel
theorem d7 : decode yB 7 = .ok (.if_icmp (.ge) 37, 3) := by decide +kernel
theorem d10 : decode yB 10 = .ok (.aload_n 0, 1) := by decide +kernel
theorem d11 : decode yB 11 = .ok (.iload_n 1, 1) := by decide +kernel
theorem d12 : decode yB 12 = .ok (.caload, 1) := by decide +kernel
theorem d13 : decode yB 13 = .ok (.istore 6, 2) := by decide +kernel
theorem d15 : decode yB 15 = .ok (.iload 6, 2) := by decide +kernel
theorem d17 : decode yB 17 = .ok (.sipush 255, 3) := by decide +kernel
theorem d20 : decode yB 20 = .ok (.if_icmp (.le) 6, 3) := by decide +kernel
theorem d26 : decode yB 26 = .ok (.aload_n 2, 1) := by decide +kernel
theorem d27 : decode yB 27 = .ok (.iload_n 3, 1) := by decide +kernel
theorem d28 : decode yB 28 = .ok (.iload 6, 2) := by decide +kernel
theorem d30 : decode yB 30 = .ok (.i2b, 1) := by decide +kernel
theorem d31 : decode yB 31 = .ok (.bastore, 1) := by decide +kernel
theorem d32 : decode yB 32 = .ok (.iinc 1 1, 3) := by decide +kernel
theorem d35 : decode yB 35 = .ok (.iinc 3 1, 3) := by decide +kernel
theorem d38 : decode yB 38 = .ok (.iinc 5 1, 3) := by decide +kernel
theorem d41 : decode yB 41 = .ok (.goto (-38), 3) := by decide +kernel
theorem d44 : decode yB 44 = .ok (.iload 4, 2) := by decide +kernel
theorem d46 : decode yB 46 = .ok (.ireturn, 1) := by decide +kernel
def site : List Cond := []
def tab : Cond := tabOf yN yB 7 (some .int) site
def P (b : Addr) (A : Cell) (d : Addr) (B : Cell) (o q len : Nat) (args : Array Value) (s : State) : Prop := args = #[.ref b, .int (Int32.ofNat o), .ref d, .int (Int32.ofNat q), .int (Int32.ofNat len)] ∧ Ch b A s ∧ Arr .byte d B s ∧ b ≠ d ∧ o + len ≤ A.slots.size ∧ q + len ≤ B.slots.size ∧ ∀ i, i < len → ¬ 255 < cv A (o + i)
def E (b : Addr) (A : Cell) (d : Addr) (B : Cell) (o q len : Nat) (r : Option Value) (s u : State) : Prop := r = some (.int (Int32.ofNat len)) ∧ ∃ B', Put d B' s u ∧ Laid B B' q (q + len) (fun j => Value.int (lo8 (cv A (o + (j - q)))))
/-- no char of the range above 255: len; the places written hold each char's low byte -/
theorem law (l : Launch) (b : Addr) (A : Cell) (d : Addr) (B : Cell) (o q len : Nat) : Law l yN 5 5 0 0 yB 7 (some .int) site (P b A d B o q len) (E b A d B o q len) (copyLocs d q len) 0 0 := by
  refine Law.of_walk (plainFor_of_name (by decide +kernel)) (by decide +kernel) (by decide +kernel) (by decide) (fun _ _ h => by rw [h.1]; rfl) (fun _ U U' hal hh h => ⟨h.1, h.2.1.mv hal hh, h.2.2.1.mv hal hh, h.2.2.2⟩) (fun r U U' V V' h1 hal h2 h => ⟨h.1, h.2.elim fun B' q => ⟨B', q.1.mv h1 h2, q.2⟩⟩) ?_
  intro p e s m args below meth c s₁ X0 hexec hbytes hml hret hlk hnm hown hh0 W hP
  obtain ⟨rfl, hA, hB, hne, l1, l2, hp⟩ := hP
  have c1 : Steps p.tables e below (s₁.setTop (entryFrame m #[.ref b, .int (Int32.ofNat o), .ref d, .int (Int32.ofNat q), .int (Int32.ofNat len)] 7)) (s₁.setTop (mkF m 0 #[.val (.ref b), .val (.int (Int32.ofNat o)), .val (.ref d), .val (.int (Int32.ofNat q)), .val (.int (Int32.ofNat len)), .unset, .unset] [])) := entry rfl
  have hA0 := hA.1.mv X0.warmed.alike hh0
  have hB0 := hB.mv X0.warmed.alike hh0
  have a31 := hA.1.2.2.2
  have c2 : Steps p.tables e below (s₁.setTop (entryFrame m #[.ref b, .int (Int32.ofNat o), .ref d, .int (Int32.ofNat q), .int (Int32.ofNat len)] 7)) (s₁.setTop (mkF m 3 #[.val (.ref b), .val (.int (Int32.ofNat o)), .val (.ref d), .val (.int (Int32.ofNat q)), .val (.int (Int32.ofNat len)), .val (.int 0), .unset] [])) := c1.trans (by
    refine iconstV X0.here hexec rfl 0 (hb hbytes d0) (by decide) ?_
    refine XS.istore X0.here hexec rfl (hb hbytes d1) rfl rfl ?_
    exact Steps.refl _)
  have loop : ∀ (r i : Nat), i + r = len → ∀ (z : Slot), (z = .unset ∨ ∃ w, z = .val w ∧ w.category = 1) → ∀ (Tl : State) (Bk : Cell), Stand p l e { frames := 0, locals := 0, cells := 0, slots := 0 } s m #[.ref b, .int (Int32.ofNat o), .ref d, .int (Int32.ofNat q), .int (Int32.ofNat len)] below meth c Tl ([] ++ copyLocs d q i) 0 0 → Put d Bk s₁ Tl → Laid B Bk q (q + i) (fun j => Value.int (lo8 (cv A (o + (j - q))))) →
      Steps p.tables e below (s₁.setTop (entryFrame m #[.ref b, .int (Int32.ofNat o), .ref d, .int (Int32.ofNat q), .int (Int32.ofNat len)] 7)) (Tl.setTop (mkF m 3 #[.val (.ref b), .val (.int (Int32.ofNat (o + i))), .val (.ref d), .val (.int (Int32.ofNat (q + i))), .val (.int (Int32.ofNat len)), .val (.int (Int32.ofNat i)), z] [])) → ∃ (T' : State) (B' : Cell) (z' : Slot), Stand p l e { frames := 0, locals := 0, cells := 0, slots := 0 } s m #[.ref b, .int (Int32.ofNat o), .ref d, .int (Int32.ofNat q), .int (Int32.ofNat len)] below meth c T' ([] ++ copyLocs d q len) 0 0 ∧ Put d B' s₁ T' ∧ Laid B B' q (q + len) (fun j => Value.int (lo8 (cv A (o + (j - q))))) ∧
      Steps p.tables e below (s₁.setTop (entryFrame m #[.ref b, .int (Int32.ofNat o), .ref d, .int (Int32.ofNat q), .int (Int32.ofNat len)] 7)) (T'.setTop (mkF m 3 #[.val (.ref b), .val (.int (Int32.ofNat (o + len))), .val (.ref d), .val (.int (Int32.ofNat (q + len))), .val (.int (Int32.ofNat len)), .val (.int (Int32.ofNat len)), z'] [])) := by
    intro r
    induction r with
    | zero =>
      intro i hi z hz Tl Bk Xl pl fl cl
      have hil : i = len := by omega
      rw [hil] at Xl fl cl
      exact ⟨Tl, Bk, z, Xl, pl, fl, cl⟩
    | succ r ih =>
      intro i hi z hz Tl Bk Xl pl fl cl
      have all := X0.warmed.alike.symm.trans Xl.warmed.alike
      have hAl := hA0.keep all (pl.other hne hA0.1)
      have hBk := hB0.like all pl.1 fl.1 fl.2.1 fl.2.2.1
      have hlt : q + i < Bk.slots.size := by rw [fl.2.2.1]; omega
      have c3 : Steps p.tables e below (s₁.setTop (entryFrame m #[.ref b, .int (Int32.ofNat o), .ref d, .int (Int32.ofNat q), .int (Int32.ofNat len)] 7)) (Tl.setTop (mkF m 12 #[.val (.ref b), .val (.int (Int32.ofNat (o + i))), .val (.ref d), .val (.int (Int32.ofNat (q + i))), .val (.int (Int32.ofNat len)), .val (.int (Int32.ofNat i)), z] [.int (Int32.ofNat (o + i)), .ref b])) := cl.trans (by
        refine XS.iload Xl.here hexec rfl (hb hbytes d3) rfl ?_
        refine XS.iload Xl.here hexec rfl (hb hbytes d5) rfl ?_
        refine XS.icmpNo Xl.here hexec rfl (hb hbytes d7) rfl (ii_ge_f (lt32 (by omega) (by omega))) ?_
        refine XS.aloadN Xl.here hexec rfl (hb hbytes d10) rfl rfl ?_
        refine XS.iloadN Xl.here hexec rfl (hb hbytes d11) rfl ?_
        exact Steps.refl _)
      have c4 : Steps p.tables e below (s₁.setTop (entryFrame m #[.ref b, .int (Int32.ofNat o), .ref d, .int (Int32.ofNat q), .int (Int32.ofNat len)] 7)) (Tl.setTop (mkF m 13 #[.val (.ref b), .val (.int (Int32.ofNat (o + i))), .val (.ref d), .val (.int (Int32.ofNat (q + i))), .val (.int (Int32.ofNat len)), .val (.int (Int32.ofNat i)), z] [.int (cv A (o + i))])) := c3.trans (by
        refine Xl.aget hexec hAl rfl (hA.get (i := o + i) (by omega)) rfl rfl (hb hbytes d12) ?_
        exact Steps.refl _)
      have c5 : Steps p.tables e below (s₁.setTop (entryFrame m #[.ref b, .int (Int32.ofNat o), .ref d, .int (Int32.ofNat q), .int (Int32.ofNat len)] 7)) (Tl.setTop (mkF m 15 #[.val (.ref b), .val (.int (Int32.ofNat (o + i))), .val (.ref d), .val (.int (Int32.ofNat (q + i))), .val (.int (Int32.ofNat len)), .val (.int (Int32.ofNat i)), .val (.int (cv A (o + i)))] [])) := c4.trans (by
        refine XS.istoreS Xl.here hexec rfl (hb hbytes d13) rfl rfl hz ?_
        exact Steps.refl _)
      have c6 : Steps p.tables e below (s₁.setTop (entryFrame m #[.ref b, .int (Int32.ofNat o), .ref d, .int (Int32.ofNat q), .int (Int32.ofNat len)] 7)) (Tl.setTop (mkF m 31 #[.val (.ref b), .val (.int (Int32.ofNat (o + i))), .val (.ref d), .val (.int (Int32.ofNat (q + i))), .val (.int (Int32.ofNat len)), .val (.int (Int32.ofNat i)), .val (.int (cv A (o + i)))] [.int (lo8 (cv A (o + i))), .int (Int32.ofNat (q + i)), .ref d])) := c5.trans (by
        refine XS.iload Xl.here hexec rfl (hb hbytes d15) rfl ?_
        refine sipushV Xl.here hexec rfl 255 (hb hbytes d17) (by decide) ?_
        refine XS.icmpYes Xl.here hexec rfl (pc0 := 20) rfl (hb hbytes d20) rfl (ii_le_t (hp i (by omega))) (by decide) rfl ?_
        refine XS.aloadN Xl.here hexec rfl (hb hbytes d26) rfl rfl ?_
        refine XS.iloadN Xl.here hexec rfl (hb hbytes d27) rfl ?_
        refine XS.iload Xl.here hexec rfl (hb hbytes d28) rfl ?_
        refine i2b Xl.here hexec rfl (hb hbytes d30) rfl ?_
        exact Steps.refl _)
      obtain ⟨T7, X7, p7, st7⟩ := Xl.aput hexec hBk rfl hlt rfl (fits_lo8 (cv A (o + i))) (g := (mkF m 31 #[.val (.ref b), .val (.int (Int32.ofNat (o + i))), .val (.ref d), .val (.int (Int32.ofNat (q + i))), .val (.int (Int32.ofNat len)), .val (.int (Int32.ofNat i)), .val (.int (cv A (o + i)))] [.int (lo8 (cv A (o + i))), .int (Int32.ofNat (q + i)), .ref d])) rfl (rest := []) rfl (hb hbytes d31)
      have c8 : Steps p.tables e below (s₁.setTop (entryFrame m #[.ref b, .int (Int32.ofNat o), .ref d, .int (Int32.ofNat q), .int (Int32.ofNat len)] 7)) (T7.setTop (mkF m 32 #[.val (.ref b), .val (.int (Int32.ofNat (o + i))), .val (.ref d), .val (.int (Int32.ofNat (q + i))), .val (.int (Int32.ofNat len)), .val (.int (Int32.ofNat i)), .val (.int (cv A (o + i)))] [])) := c6.trans (st7 _ (Steps.refl _))
      have c9 : Steps p.tables e below (s₁.setTop (entryFrame m #[.ref b, .int (Int32.ofNat o), .ref d, .int (Int32.ofNat q), .int (Int32.ofNat len)] 7)) (T7.setTop (mkF m 3 #[.val (.ref b), .val (.int (Int32.ofNat (o + i) + 1)), .val (.ref d), .val (.int (Int32.ofNat (q + i) + 1)), .val (.int (Int32.ofNat len)), .val (.int (Int32.ofNat i + 1)), .val (.int (cv A (o + i)))] [])) := c8.trans (by
        refine iincV X7.here hexec rfl 1 (hb hbytes d32) (by decide) rfl rfl ?_
        refine iincV X7.here hexec rfl 1 (hb hbytes d35) (by decide) rfl rfl ?_
        refine iincV X7.here hexec rfl 1 (hb hbytes d38) (by decide) rfl rfl ?_
        refine XS.goto X7.here hexec rfl (pc0 := 41) rfl (hb hbytes d41) (by decide) rfl ?_
        exact Steps.refl _)
      have c10 : Steps p.tables e below (s₁.setTop (entryFrame m #[.ref b, .int (Int32.ofNat o), .ref d, .int (Int32.ofNat q), .int (Int32.ofNat len)] 7)) (T7.setTop (mkF m 3 #[.val (.ref b), .val (.int (Int32.ofNat (o + (i + 1)))), .val (.ref d), .val (.int (Int32.ofNat (q + (i + 1)))), .val (.int (Int32.ofNat len)), .val (.int (Int32.ofNat (i + 1))), .val (.int (cv A (o + i)))] [])) := by
        have := c9
        rw [succ32, succ32, succ32] at this
        exact this
      exact ih (i + 1) (by omega) _ (Or.inr ⟨_, rfl, rfl⟩) T7 _ (by rw [copyLocs_step, ← List.append_assoc]; exact X7) (pl.trans p7) (fl.step (by omega) hlt (by simp)) c10
  obtain ⟨T9, B9, z9, X9, p9, f9, g9⟩ := loop len 0 (by omega) .unset (Or.inl rfl) s₁ B (by simpa [copyLocs] using X0) ⟨hB0.1, fun _ _ => rfl, rfl⟩ (Laid.zero _ _ _) c2
  have c11 : Steps p.tables e below (s₁.setTop (entryFrame m #[.ref b, .int (Int32.ofNat o), .ref d, .int (Int32.ofNat q), .int (Int32.ofNat len)] 7)) (T9.setTop (mkF m 46 #[.val (.ref b), .val (.int (Int32.ofNat (o + len))), .val (.ref d), .val (.int (Int32.ofNat (q + len))), .val (.int (Int32.ofNat len)), .val (.int (Int32.ofNat len)), z9] [.int (Int32.ofNat len)])) := g9.trans (by
    refine XS.iload X9.here hexec rfl (hb hbytes d3) rfl ?_
    refine XS.iload X9.here hexec rfl (hb hbytes d5) rfl ?_
    refine XS.icmpYes X9.here hexec rfl (pc0 := 7) rfl (hb hbytes d7) rfl (ii_ge_t (nlt32 (by omega) (Nat.le_refl _))) (by decide) rfl ?_
    refine XS.iload X9.here hexec rfl (hb hbytes d44) rfl ?_
    exact Steps.refl _)
  exact ⟨T9, some (.int (Int32.ofNat len)), _, _, _, X9, by simp, rfl, rfl, (fun h => by cases h), ⟨rfl, B9, p9.from hh0, f9⟩, fun fs hl => c11.trans (X9.ireturnOut hexec hret rfl (Or.inl rfl) (hb hbytes d46) hl)⟩
end Cmp5
namespace Cmp3
def yN : MethodName := ⟨"java/lang/StringUTF16", "compress", "([CII)[B"⟩
abbrev yB : ByteArray := jdk_52_method_16_code
theorem d0 : decode yB 0 = .ok (.iload_n 2, 1) := by decide +kernel
theorem d1 : decode yB 1 = .ok (.newarray .byte, 2) := by decide +kernel
theorem d3 : decode yB 3 = .ok (.astore_n 3, 1) := by decide +kernel
theorem d4 : decode yB 4 = .ok (.aload_n 0, 1) := by decide +kernel
theorem d5 : decode yB 5 = .ok (.iload_n 1, 1) := by decide +kernel
theorem d6 : decode yB 6 = .ok (.aload_n 3, 1) := by decide +kernel
theorem d7 : decode yB 7 = .ok (.iconst 0, 1) := by decide +kernel
theorem d8 : decode yB 8 = .ok (.iload_n 2, 1) := by decide +kernel
theorem d9 : decode yB 9 = .ok (.invokestatic 115, 3) := by decide +kernel
theorem d12 : decode yB 12 = .ok (.istore 4, 2) := by decide +kernel
theorem d14 : decode yB 14 = .ok (.iload 4, 2) := by decide +kernel
theorem d16 : decode yB 16 = .ok (.iload_n 2, 1) := by decide +kernel
theorem d17 : decode yB 17 = .ok (.if_icmp (.eq) 40, 3) := by decide +kernel
theorem d57 : decode yB 57 = .ok (.aload_n 3, 1) := by decide +kernel
theorem d58 : decode yB 58 = .ok (.areturn, 1) := by decide +kernel
def site : List Cond := [.arrayClass .byte, Cmp5.tab] ++ staticW U16 115 Cmp5.yN
def tab : Cond := tabOf yN yB 6 (some (.array .byte)) site
def P (b : Addr) (A : Cell) (o len : Nat) (args : Array Value) (s : State) : Prop := args = #[.ref b, .int (Int32.ofNat o), .int (Int32.ofNat len)] ∧ Ch b A s ∧ o + len ≤ A.slots.size ∧ len ≤ 536870912 ∧ ∀ i, i < len → ¬ 255 < cv A (o + i)
def E (b : Addr) (A : Cell) (o len : Nat) (r : Option Value) (s u : State) : Prop := NewArr .byte "[B" len (fun j => .int (lo8 (cv A (o + j)))) r s u ∧ u.heap.size = s.heap.size + 1
/-- no char of the range above 255: a new byte[] of their low bytes -/
theorem law (l : Launch) (b : Addr) (A : Cell) (o len : Nat) : Law l yN 3 3 1 18 yB 6 (some (.array .byte)) site (P b A o len) (E b A o len) [] 1 len := by
  refine Law.of_walk (plainFor_of_name (by decide +kernel)) (by decide +kernel) (by decide +kernel) (by decide) (fun _ _ h => by rw [h.1]; rfl) (fun _ U U' hal hh h => ⟨h.1, h.2.1.mv hal hh, h.2.2⟩) (fun r U U' V V' h1 hal h2 h => ⟨NewArr.mv r U U' V V' h1 hal h2 h.1, by rw [h1, h2]; exact h.2⟩) ?_
  intro p e s m args below meth c s₁ X0 hexec hbytes hml hret hlk hnm hown hh0 W hP
  obtain ⟨rfl, hA, l1, l2, hp⟩ := hP
  have a31 := hA.1.2.2.2
  have c1 : Steps p.tables e below (s₁.setTop (entryFrame m #[.ref b, .int (Int32.ofNat o), .int (Int32.ofNat len)] 6)) (s₁.setTop (mkF m 0 #[.val (.ref b), .val (.int (Int32.ofNat o)), .val (.int (Int32.ofNat len)), .unset, .unset, .unset] [])) := entry rfl
  have c2 : Steps p.tables e below (s₁.setTop (entryFrame m #[.ref b, .int (Int32.ofNat o), .int (Int32.ofNat len)] 6)) (s₁.setTop (mkF m 1 #[.val (.ref b), .val (.int (Int32.ofNat o)), .val (.int (Int32.ofNat len)), .unset, .unset, .unset] [.int (Int32.ofNat len)])) := c1.trans (by
    refine XS.iloadN X0.here hexec rfl (hb hbytes d0) rfl ?_
    exact Steps.refl _)
  obtain ⟨T3, B3, X3, ba3, bs3, bv3, bh3, bf3, st3⟩ := X0.anew hexec (atype := .byte) (wk W (.arrayClass .byte)) rfl (by show len * 1 ≤ _; omega) (by omega) (g := (mkF m 1 #[.val (.ref b), .val (.int (Int32.ofNat o)), .val (.int (Int32.ofNat len)), .unset, .unset, .unset] [.int (Int32.ofNat len)])) rfl (hb hbytes d1) (rest := []) rfl (Nat.le_refl _) (by show 0 + len ≤ len; omega)
  rw [hh0] at ba3 st3
  have kp3 : XT.Kept s T3 := (XT.Kept.of_eq hh0).push bh3
  have hA3 := hA.keep X3.warmed.alike (kp3 _ _ hA.1.1)
  have hne : b ≠ s.heap.size := hA.1.ne
  have c4 : Steps p.tables e below (s₁.setTop (entryFrame m #[.ref b, .int (Int32.ofNat o), .int (Int32.ofNat len)] 6)) (T3.setTop (mkF m 3 #[.val (.ref b), .val (.int (Int32.ofNat o)), .val (.int (Int32.ofNat len)), .unset, .unset, .unset] [.ref s.heap.size])) := c2.trans (st3 _ (Steps.refl _))
  have c5 : Steps p.tables e below (s₁.setTop (entryFrame m #[.ref b, .int (Int32.ofNat o), .int (Int32.ofNat len)] 6)) (T3.setTop (mkF m 9 #[.val (.ref b), .val (.int (Int32.ofNat o)), .val (.int (Int32.ofNat len)), .val (.ref s.heap.size), .unset, .unset] [.int (Int32.ofNat len), .int 0, .ref s.heap.size, .int (Int32.ofNat o), .ref b])) := c4.trans (by
    refine XS.astoreN X3.here hexec rfl (hb hbytes d3) rfl rfl rfl ?_
    refine XS.aloadN X3.here hexec rfl (hb hbytes d4) rfl rfl ?_
    refine XS.iloadN X3.here hexec rfl (hb hbytes d5) rfl ?_
    refine XS.aloadN X3.here hexec rfl (hb hbytes d6) rfl rfl ?_
    refine iconstV X3.here hexec rfl 0 (hb hbytes d7) (by decide) ?_
    refine XS.iloadN X3.here hexec rfl (hb hbytes d8) rfl ?_
    exact Steps.refl _)
  obtain ⟨v6, T6, X6, E6, g6⟩ := X3.callS hexec (Cmp5.law l b A s.heap.size B3 o 0 len) hown (wks W (staticW U16 115 Cmp5.yN)) (wk W Cmp5.tab) (W := 0) (Nat.le_of_ble_eq_true rfl) (Nat.le_of_ble_eq_true rfl) (Nat.le_refl _) (by show 0 + len + 0 ≤ len; omega) (g := (mkF m 9 #[.val (.ref b), .val (.int (Int32.ofNat o)), .val (.int (Int32.ofNat len)), .val (.ref s.heap.size), .unset, .unset] [.int (Int32.ofNat len), .int (Int32.ofNat 0), .ref s.heap.size, .int (Int32.ofNat o), .ref b])) rfl (by rw [hml]; rfl) c5 (argsL := [.ref b, .int (Int32.ofNat o), .ref s.heap.size, .int (Int32.ofNat 0), .int (Int32.ofNat len)]) (rest := []) rfl rfl (by show 2 * 0 + 0 ≤ _; decide) (hb hbytes d9) (⟨rfl, hA3, ba3, hne, l1, by rw [bs3]; simp, hp⟩)
  obtain ⟨rfl, B6, p6, f6⟩ := E6
  have c7 : Steps p.tables e below (s₁.setTop (entryFrame m #[.ref b, .int (Int32.ofNat o), .int (Int32.ofNat len)] 6)) (T6.setTop (mkF m 12 #[.val (.ref b), .val (.int (Int32.ofNat o)), .val (.int (Int32.ofNat len)), .val (.ref s.heap.size), .unset, .unset] [.int (Int32.ofNat len)])) := g6
  have c8 : Steps p.tables e below (s₁.setTop (entryFrame m #[.ref b, .int (Int32.ofNat o), .int (Int32.ofNat len)] 6)) (T6.setTop (mkF m 58 #[.val (.ref b), .val (.int (Int32.ofNat o)), .val (.int (Int32.ofNat len)), .val (.ref s.heap.size), .val (.int (Int32.ofNat len)), .unset] [.ref s.heap.size])) := c7.trans (by
    refine XS.istore X6.here hexec rfl (hb hbytes d12) rfl rfl ?_
    refine XS.iload X6.here hexec rfl (hb hbytes d14) rfl ?_
    refine XS.iloadN X6.here hexec rfl (hb hbytes d16) rfl ?_
    refine XS.icmpYes X6.here hexec rfl (pc0 := 17) rfl (hb hbytes d17) rfl (ii_eq_t rfl) (by decide) rfl ?_
    refine XS.aloadN X6.here hexec rfl (hb hbytes d57) rfl rfl ?_
    exact Steps.refl _)
  have X8 := X6.wide (L' := []) (cells' := 1) (slots' := len) (fun x hx hlt => by
    simp only [List.nil_append, copyLocs, List.mem_map, List.mem_range] at hx
    obtain ⟨i, -, rfl⟩ := hx
    exact absurd hlt (Nat.lt_irrefl _)) (Nat.le_refl _) (by omega)
  exact ⟨T6, some (.ref s.heap.size), _, _, _, X8, rfl, rfl, rfl, (fun h => by cases h), ⟨⟨rfl, B6, ba3.like (X3.warmed.alike.symm.trans X6.warmed.alike) p6.1 f6.1 f6.2.1 f6.2.2.1, f6.2.1.trans bv3, by rw [X6.warmed.alike.findClass, f6.1]; exact bf3, by rw [f6.2.2.1, bs3]; simp, fun j hj => by rw [f6.2.2.2 j, if_pos (by omega)]; rfl, kp3.put p6 (Nat.le_refl _)⟩, by rw [p6.2.2, bh3, hh0]; simp⟩, fun fs hl => c8.trans (X8.areturnOut hexec rfl hret rfl (hb hbytes d58) hl)⟩
end Cmp3
namespace CodL
def yN : MethodName := ⟨"java/lang/StringUTF16", "coderFromArrayLen", "([BI)B"⟩
abbrev yB : ByteArray := jdk_52_method_15_code
theorem d0 : decode yB 0 = .ok (.iload_n 1, 1) := by decide +kernel
theorem d1 : decode yB 1 = .ok (.aload_n 0, 1) := by decide +kernel
theorem d2 : decode yB 2 = .ok (.arraylength, 1) := by decide +kernel
theorem d3 : decode yB 3 = .ok (.isub, 1) := by decide +kernel
theorem d4 : decode yB 4 = .ok (.bipush 31, 2) := by decide +kernel
theorem d6 : decode yB 6 = .ok (.iushr, 1) := by decide +kernel
theorem d7 : decode yB 7 = .ok (.i2b, 1) := by decide +kernel
theorem d8 : decode yB 8 = .ok (.ireturn, 1) := by decide +kernel
def site : List Cond := []
def tab : Cond := tabOf yN yB 2 (some .byte) site
def P (d : Addr) (B : Cell) (args : Array Value) (s : State) : Prop := args = #[.ref d, .int (Int32.ofNat B.slots.size)] ∧ Arr .byte d B s
def E (r : Option Value) (s u : State) : Prop := XT.PureE (some (.int 0)) r s u
/-- an array as long as the number of chars: LATIN1 -/
theorem law (l : Launch) (d : Addr) (B : Cell) : Law l yN 2 2 0 0 yB 2 (some .byte) site (P d B) E [] 0 0 := by
  refine Law.of_walk (plainFor_of_name (by decide +kernel)) (by decide +kernel) (by decide +kernel) (by decide) (fun _ _ h => by rw [h.1]; rfl) (fun _ U U' hal hh h => ⟨h.1, h.2.mv hal hh⟩) (fun r U U' V V' h1 hal h2 h => XT.PureE.mv r U U' V V' h1 hal h2 h) ?_
  intro p e s m args below meth c s₁ X0 hexec hbytes hml hret hlk hnm hown hh0 W hP
  obtain ⟨rfl, hB⟩ := hP
  have hB0 := hB.mv X0.warmed.alike hh0
  have c1 : Steps p.tables e below (s₁.setTop (entryFrame m #[.ref d, .int (Int32.ofNat B.slots.size)] 2)) (s₁.setTop (mkF m 0 #[.val (.ref d), .val (.int (Int32.ofNat B.slots.size))] [])) := entry rfl
  have c2 : Steps p.tables e below (s₁.setTop (entryFrame m #[.ref d, .int (Int32.ofNat B.slots.size)] 2)) (s₁.setTop (mkF m 2 #[.val (.ref d), .val (.int (Int32.ofNat B.slots.size))] [.ref d, .int (Int32.ofNat B.slots.size)])) := c1.trans (by
    refine XS.iloadN X0.here hexec rfl (hb hbytes d0) rfl ?_
    refine XS.aloadN X0.here hexec rfl (hb hbytes d1) rfl rfl ?_
    exact Steps.refl _)
  have c3 : Steps p.tables e below (s₁.setTop (entryFrame m #[.ref d, .int (Int32.ofNat B.slots.size)] 2)) (s₁.setTop (mkF m 8 #[.val (.ref d), .val (.int (Int32.ofNat B.slots.size))] [.int (lo8 (ushr (Int32.ofNat B.slots.size - Int32.ofNat B.slots.size) 31))])) := c2.trans (by
    refine X0.alen hexec hB0 rfl rfl (hb hbytes d2) ?_
    refine XS.isub X0.here hexec rfl (hb hbytes d3) rfl ?_
    refine bipushV X0.here hexec rfl 31 (hb hbytes d4) (by decide) ?_
    refine iushr X0.here hexec rfl (hb hbytes d6) rfl ?_
    refine i2b X0.here hexec rfl (hb hbytes d7) rfl ?_
    exact Steps.refl _)
  have e0 : lo8 (ushr (Int32.ofNat B.slots.size - Int32.ofNat B.slots.size) 31) = 0 := by rw [Int32.sub_self]; decide
  rw [e0] at c3
  exact ⟨s₁, some (.int 0), _, _, _, X0, rfl, rfl, rfl, (fun h => by cases h), ⟨rfl, hh0⟩, fun fs hl => c3.trans (X0.ireturnOut hexec hret rfl (Or.inr (Or.inr (Or.inl rfl))) (hb hbytes d8) hl)⟩
end CodL
/-- the String at a is Latin-1 over a new byte[] (the heap's one new cell): the low bytes of the len chars of A from o on; every cell but a is kept -/
def Got (a : Addr) (D : Cell) (fV fC : Field) (A : Cell) (o len : Nat) (r : Option Value) (s u : State) : Prop := r = none ∧ ∃ D' V : Cell, Blank "java/lang/String" a D' u ∧ Same D D' [fV.slot, fC.slot] ∧ D'.slots[fV.slot]? = some (.ref s.heap.size) ∧ D'.slots[fC.slot]? = some (.int 0) ∧ Arr .byte s.heap.size V u ∧ V.vm = .none ∧ u.vm.findClass "[B" = some V.cls ∧ V.slots.size = len ∧ (∀ j, j < len → V.slots[j]? = some (.int (lo8 (cv A (o + j))))) ∧ (∀ (y : Addr) (c : Cell), y ≠ a → s.heap[y]? = some c → u.heap[y]? = some c) ∧ u.heap.size = s.heap.size + 1
theorem Got.mv {a : Addr} {D A : Cell} {fV fC : Field} {o len : Nat} : ∀ r (U U' V V' : State), U'.heap = U.heap → V.vm.Alike V'.vm → V'.heap = V.heap → Got a D fV fC A o len r U V → Got a D fV fC A o len r U' V' :=
  fun r U U' V V' h1 hal h2 ⟨e0, D', X, a1, a2, a3, a4, a5, a6, a7, a8, a9, a10, a11⟩ => ⟨e0, D', X, a1.mv hal h2, a2, by rw [h1]; exact a3, a4, by rw [h1]; exact a5.mv hal h2, a6, by rw [hal.findClass]; exact a7, a8, a9, by rw [h1, h2]; exact a10, by rw [h1, h2]; exact a11⟩
namespace New4
def yN : MethodName := ⟨"java/lang/String", "<init>", "([CIILjava/lang/Void;)V"⟩
abbrev yB : ByteArray := jdk_42_method_149_code
theorem d0 : decode yB 0 = .ok (.aload_n 0, 1) := by decide +kernel
theorem d1 : decode yB 1 = .ok (.invokespecial 1, 3) := by decide +kernel
theorem d4 : decode yB 4 = .ok (.iload_n 3, 1) := by decide +kernel
theorem d5 : decode yB 5 = .ok (.ifCond (.ne) 22, 3) := by decide +kernel
theorem d27 : decode yB 27 = .ok (.getstatic 38, 3) := by decide +kernel
theorem d30 : decode yB 30 = .ok (.ifCond (.eq) 28, 3) := by decide +kernel
theorem d33 : decode yB 33 = .ok (.aload_n 1, 1) := by decide +kernel
theorem d34 : decode yB 34 = .ok (.iload_n 2, 1) := by decide +kernel
theorem d35 : decode yB 35 = .ok (.iload_n 3, 1) := by decide +kernel
theorem d36 : decode yB 36 = .ok (.invokestatic 177, 3) := by decide +kernel
theorem d39 : decode yB 39 = .ok (.astore 5, 2) := by decide +kernel
theorem d41 : decode yB 41 = .ok (.aload_n 0, 1) := by decide +kernel
theorem d42 : decode yB 42 = .ok (.aload 5, 2) := by decide +kernel
theorem d44 : decode yB 44 = .ok (.iload_n 3, 1) := by decide +kernel
theorem d45 : decode yB 45 = .ok (.invokestatic 47, 3) := by decide +kernel
theorem d48 : decode yB 48 = .ok (.putfield 15, 3) := by decide +kernel
theorem d51 : decode yB 51 = .ok (.aload_n 0, 1) := by decide +kernel
theorem d52 : decode yB 52 = .ok (.aload 5, 2) := by decide +kernel
theorem d54 : decode yB 54 = .ok (.putfield 9, 3) := by decide +kernel
theorem d57 : decode yB 57 = .ok (.return_, 1) := by decide +kernel
def site : List Cond := [.fieldLink "java/lang/String" 38 "java/lang/String" "COMPACT_STRINGS" "Z", Cmp3.tab, CodL.tab, .laysFinal "java/lang/String" "java/lang/String" "value" "[B", .fieldLink "java/lang/String" 9 "java/lang/String" "value" "[B", .laysFinal "java/lang/String" "java/lang/String" "coder" "B", .fieldLink "java/lang/String" 15 "java/lang/String" "coder" "B"] ++ objW "java/lang/String" 1 ++ staticW "java/lang/String" 177 Cmp3.yN ++ staticW "java/lang/String" 47 CodL.yN
def tab : Cond := tabOf yN yB 6 none site
def P (a : Addr) (D : Cell) (fV fC : Field) (b : Addr) (A : Cell) (z : Int32) (o len : Nat) (args : Array Value) (s : State) : Prop := args = #[.ref a, .ref b, .int (Int32.ofNat o), .int (Int32.ofNat len), .null] ∧ Blank "java/lang/String" a D s ∧ Found "java/lang/String" "value" "[B" fV s ∧ Found "java/lang/String" "coder" "B" fC s ∧ Ch b A s ∧ StaticIs s "java/lang/String" "COMPACT_STRINGS" "Z" (.int z) ∧ ¬ z = 0 ∧ 0 < len ∧ o + len ≤ A.slots.size ∧ len ≤ 536870912 ∧ ∀ i, i < len → ¬ 255 < cv A (o + i)
def E (a : Addr) (D : Cell) (fV fC : Field) (A : Cell) (o len : Nat) (r : Option Value) (s u : State) : Prop := Got a D fV fC A o len r s u
/-- len > 0, no char of the range above 255: a Latin-1 String of their low bytes -/
theorem law (l : Launch) (a : Addr) (D : Cell) (fV fC : Field) (b : Addr) (A : Cell) (z : Int32) (o len : Nat) : Law l yN 5 4 2 35 yB 6 none site (P a D fV fC b A z o len) (E a D fV fC A o len) [⟨a, fC.slot⟩, ⟨a, fV.slot⟩] 1 len := by
  refine Law.of_walk (plainFor_of_name (by decide +kernel)) (by decide +kernel) (by decide +kernel) (by decide) (fun _ _ h => by rw [h.1]; rfl) (fun _ U U' hal hh h => ⟨h.1, h.2.1.mv hal hh, h.2.2.1.al hal, h.2.2.2.1.al hal, h.2.2.2.2.1.mv hal hh, h.2.2.2.2.2.1.there hal hh, h.2.2.2.2.2.2⟩) (fun r U U' V V' h1 hal h2 h => Got.mv r U U' V V' h1 hal h2 h) ?_
  intro p e s m args below meth c s₁ X0 hexec hbytes hml hret hlk hnm hown hh0 W hP
  obtain ⟨rfl, hB, f1, f2, hA, s1, hz, l0, l1, l2, hp⟩ := hP
  have a31 := hA.1.2.2.2
  have c1 : Steps p.tables e below (s₁.setTop (entryFrame m #[.ref a, .ref b, .int (Int32.ofNat o), .int (Int32.ofNat len), .null] 6)) (s₁.setTop (mkF m 0 #[.val (.ref a), .val (.ref b), .val (.int (Int32.ofNat o)), .val (.int (Int32.ofNat len)), .val .null, .unset] [])) := entry rfl
  have c2 : Steps p.tables e below (s₁.setTop (entryFrame m #[.ref a, .ref b, .int (Int32.ofNat o), .int (Int32.ofNat len), .null] 6)) (s₁.setTop (mkF m 1 #[.val (.ref a), .val (.ref b), .val (.int (Int32.ofNat o)), .val (.int (Int32.ofNat len)), .val .null, .unset] [.ref a])) := c1.trans (by
    refine XS.aloadN X0.here hexec rfl (hb hbytes d0) rfl rfl ?_
    exact Steps.refl _)
  obtain ⟨T3, X3, q3, st3⟩ := X0.oinit hexec hown (wks W (objW "java/lang/String" 1)) (g := (mkF m 1 #[.val (.ref a), .val (.ref b), .val (.int (Int32.ofNat o)), .val (.int (Int32.ofNat len)), .val .null, .unset] [.ref a])) rfl (by rw [hml]; rfl) (rest := []) rfl (hb hbytes d1) (W := 0) (by show 2 * 0 + 0 ≤ _; decide) (Nat.le_of_ble_eq_true rfl) (Nat.le_of_ble_eq_true rfl)
  have hh3 := q3.trans hh0
  have c4 : Steps p.tables e below (s₁.setTop (entryFrame m #[.ref a, .ref b, .int (Int32.ofNat o), .int (Int32.ofNat len), .null] 6)) (T3.setTop (mkF m 27 #[.val (.ref a), .val (.ref b), .val (.int (Int32.ofNat o)), .val (.int (Int32.ofNat len)), .val .null, .unset] [])) := (c2.trans (st3 _ (Steps.refl _))).trans (by
    refine XS.iloadN X3.here hexec rfl (hb hbytes d4) rfl ?_
    refine XS.ifYes X3.here hexec rfl (pc0 := 5) rfl (hb hbytes d5) rfl (i0_ne_t (nz32 (by omega) l0)) (by decide) rfl ?_
    exact Steps.refl _)
  obtain ⟨T5, X5, q5, st5⟩ := X3.sget hexec hown (wk W (.fieldLink "java/lang/String" 38 "java/lang/String" "COMPACT_STRINGS" "Z")) s1 (fun _ _ h => by rw [hh3]; exact h) (g := (mkF m 27 #[.val (.ref a), .val (.ref b), .val (.int (Int32.ofNat o)), .val (.int (Int32.ofNat len)), .val .null, .unset] [])) rfl (hb hbytes d27)
  have hh5 := q5.trans hh3
  have c6 : Steps p.tables e below (s₁.setTop (entryFrame m #[.ref a, .ref b, .int (Int32.ofNat o), .int (Int32.ofNat len), .null] 6)) (T5.setTop (mkF m 30 #[.val (.ref a), .val (.ref b), .val (.int (Int32.ofNat o)), .val (.int (Int32.ofNat len)), .val .null, .unset] [.int z])) := c4.trans (st5 _ (Steps.refl _))
  have c7 : Steps p.tables e below (s₁.setTop (entryFrame m #[.ref a, .ref b, .int (Int32.ofNat o), .int (Int32.ofNat len), .null] 6)) (T5.setTop (mkF m 36 #[.val (.ref a), .val (.ref b), .val (.int (Int32.ofNat o)), .val (.int (Int32.ofNat len)), .val .null, .unset] [.int (Int32.ofNat len), .int (Int32.ofNat o), .ref b])) := c6.trans (by
    refine XS.ifNo X5.here hexec rfl (hb hbytes d30) rfl (i0_eq_f hz) ?_
    refine XS.aloadN X5.here hexec rfl (hb hbytes d33) rfl rfl ?_
    refine XS.iloadN X5.here hexec rfl (hb hbytes d34) rfl ?_
    refine XS.iloadN X5.here hexec rfl (hb hbytes d35) rfl ?_
    exact Steps.refl _)
  obtain ⟨v8, T8, X8, E8, g8⟩ := X5.callS hexec (Cmp3.law l b A o len) hown (wks W (staticW "java/lang/String" 177 Cmp3.yN)) (wk W Cmp3.tab) (W := 0) (Nat.le_of_ble_eq_true rfl) (Nat.le_of_ble_eq_true rfl) (Nat.le_refl _) (by show 0 + len ≤ len; omega) (g := (mkF m 36 #[.val (.ref a), .val (.ref b), .val (.int (Int32.ofNat o)), .val (.int (Int32.ofNat len)), .val .null, .unset] [.int (Int32.ofNat len), .int (Int32.ofNat o), .ref b])) rfl (by rw [hml]; rfl) c7 (argsL := [.ref b, .int (Int32.ofNat o), .int (Int32.ofNat len)]) (rest := []) rfl rfl (by show 2 * 0 + 0 ≤ _; decide) (hb hbytes d36) (⟨rfl, hA.mv X5.warmed.alike hh5, l1, l2, hp⟩)
  obtain ⟨e8, z8⟩ := E8
  obtain ⟨rfl, N, n1, n2, n3, n4, n5, n6⟩ := NewArr.mv _ T5 s _ _ hh5.symm (Vm.Alike.refl _) rfl e8
  rw [hh5] at z8
  have hB1 := hB.keep X8.warmed.alike (n6 _ _ hB.1)
  have hne : s.heap.size ≠ a := (Nat.ne_of_lt (Array.getElem?_eq_some_iff.mp hB.1).1).symm
  have c9 : Steps p.tables e below (s₁.setTop (entryFrame m #[.ref a, .ref b, .int (Int32.ofNat o), .int (Int32.ofNat len), .null] 6)) (T8.setTop (mkF m 39 #[.val (.ref a), .val (.ref b), .val (.int (Int32.ofNat o)), .val (.int (Int32.ofNat len)), .val .null, .unset] [.ref s.heap.size])) := g8
  have c10 : Steps p.tables e below (s₁.setTop (entryFrame m #[.ref a, .ref b, .int (Int32.ofNat o), .int (Int32.ofNat len), .null] 6)) (T8.setTop (mkF m 45 #[.val (.ref a), .val (.ref b), .val (.int (Int32.ofNat o)), .val (.int (Int32.ofNat len)), .val .null, .val (.ref s.heap.size)] [.int (Int32.ofNat N.slots.size), .ref s.heap.size, .ref a])) := by
    have hc : Steps p.tables e below (s₁.setTop (entryFrame m #[.ref a, .ref b, .int (Int32.ofNat o), .int (Int32.ofNat len), .null] 6)) (T8.setTop (mkF m 45 #[.val (.ref a), .val (.ref b), .val (.int (Int32.ofNat o)), .val (.int (Int32.ofNat len)), .val .null, .val (.ref s.heap.size)] [.int (Int32.ofNat len), .ref s.heap.size, .ref a])) := c9.trans (by
      refine XS.astore X8.here hexec rfl (hb hbytes d39) rfl rfl rfl ?_
      refine XS.aloadN X8.here hexec rfl (hb hbytes d41) rfl rfl ?_
      refine XS.aload X8.here hexec rfl (hb hbytes d42) rfl rfl ?_
      refine XS.iloadN X8.here hexec rfl (hb hbytes d44) rfl ?_
      exact Steps.refl _)
    rw [n4]; exact hc
  obtain ⟨v11, T11, X11, E11, g11⟩ := X8.callS hexec (CodL.law l s.heap.size N) hown (wks W (staticW "java/lang/String" 47 CodL.yN)) (wk W CodL.tab) (W := 1) (Nat.le_of_ble_eq_true rfl) (Nat.le_of_ble_eq_true rfl) (Nat.le_refl _) (by show 0 + len + 0 ≤ len; omega) (g := (mkF m 45 #[.val (.ref a), .val (.ref b), .val (.int (Int32.ofNat o)), .val (.int (Int32.ofNat len)), .val .null, .val (.ref s.heap.size)] [.int (Int32.ofNat N.slots.size), .ref s.heap.size, .ref a])) rfl (by rw [hml]; rfl) c10 (argsL := [.ref s.heap.size, .int (Int32.ofNat N.slots.size)]) (rest := [.ref a]) rfl rfl (by show 2 * 0 + (1 + 0) ≤ _; decide) (hb hbytes d45) (⟨rfl, n1⟩)
  obtain ⟨rfl, q11⟩ := E11
  have hB11 := hB1.mv (X8.warmed.alike.symm.trans X11.warmed.alike) q11
  have c12 : Steps p.tables e below (s₁.setTop (entryFrame m #[.ref a, .ref b, .int (Int32.ofNat o), .int (Int32.ofNat len), .null] 6)) (T11.setTop (mkF m 48 #[.val (.ref a), .val (.ref b), .val (.int (Int32.ofNat o)), .val (.int (Int32.ofNat len)), .val .null, .val (.ref s.heap.size)] [.int 0, .ref a])) := g11
  obtain ⟨T13, X13, p13, bl13, sl13, st13⟩ := X11.finit hexec hown (wk W (.fieldLink "java/lang/String" 15 "java/lang/String" "coder" "B")) (Or.inr ⟨_, (wk W (.laysFinal "java/lang/String" "java/lang/String" "coder" "B"))⟩) (Or.inl ⟨rfl, hnm⟩) f2 (Or.inl rfl) hB11 (t := .byte) (by decide +kernel) rfl (g := (mkF m 48 #[.val (.ref a), .val (.ref b), .val (.int (Int32.ofNat o)), .val (.int (Int32.ofNat len)), .val .null, .val (.ref s.heap.size)] [.int 0, .ref a])) rfl (rest := []) rfl (hb hbytes d48)
  have c14 : Steps p.tables e below (s₁.setTop (entryFrame m #[.ref a, .ref b, .int (Int32.ofNat o), .int (Int32.ofNat len), .null] 6)) (T13.setTop (mkF m 54 #[.val (.ref a), .val (.ref b), .val (.int (Int32.ofNat o)), .val (.int (Int32.ofNat len)), .val .null, .val (.ref s.heap.size)] [.ref s.heap.size, .ref a])) := (c12.trans (st13 _ (Steps.refl _))).trans (by
    refine XS.aloadN X13.here hexec rfl (hb hbytes d51) rfl rfl ?_
    refine XS.aload X13.here hexec rfl (hb hbytes d52) rfl rfl ?_
    exact Steps.refl _)
  obtain ⟨T15, X15, p15, bl15, sl15, st15⟩ := X13.finit hexec hown (wk W (.fieldLink "java/lang/String" 9 "java/lang/String" "value" "[B")) (Or.inr ⟨_, (wk W (.laysFinal "java/lang/String" "java/lang/String" "value" "[B"))⟩) (Or.inl ⟨rfl, hnm⟩) f1 (Or.inl rfl) bl13 (t := (.array .byte)) (by decide +kernel) rfl (g := (mkF m 54 #[.val (.ref a), .val (.ref b), .val (.int (Int32.ofNat o)), .val (.int (Int32.ofNat len)), .val .null, .val (.ref s.heap.size)] [.ref s.heap.size, .ref a])) rfl (rest := []) rfl (hb hbytes d54)
  have c16 : Steps p.tables e below (s₁.setTop (entryFrame m #[.ref a, .ref b, .int (Int32.ofNat o), .int (Int32.ofNat len), .null] 6)) (T15.setTop (mkF m 57 #[.val (.ref a), .val (.ref b), .val (.int (Int32.ofNat o)), .val (.int (Int32.ofNat len)), .val .null, .val (.ref s.heap.size)] [])) := c14.trans (st15 _ (Steps.refl _))
  have ap := apart (Or.inr ⟨_, (wk W (.laysFinal "java/lang/String" "java/lang/String" "value" "[B"))⟩) (Or.inr ⟨_, (wk W (.laysFinal "java/lang/String" "java/lang/String" "coder" "B"))⟩) f1 f2 (t₁ := .array .byte) (t₂ := .byte) (by decide +kernel) (by decide +kernel) (by decide)
  have al := X8.warmed.alike.symm.trans X15.warmed.alike
  have n7 : T11.heap[s.heap.size]? = some N := by rw [q11]; exact n1.1
  exact ⟨T15, none, _, _, _, X15, by simp, rfl, by omega, (fun _ => rfl), ⟨rfl, _, N, bl15, ((Same.refl D _).set _ (by simp)).set _ (by simp), sl15, (Cell.slots_setSlot_ne _ ap).trans sl13, n1.keep al (p15.other hne (p13.other hne n7)), n2, by rw [al.findClass]; exact n3, n4, n5, fun y c h1 h2 => p15.other h1 (p13.other h1 (by rw [q11]; exact n6 y c h2)), by rw [p15.2.2, p13.2.2, q11]; exact z8⟩, fun fs hl => c16.trans (X15.returnOut hexec hret (hb hbytes d57) hl)⟩
end New4
namespace New1
def yN : MethodName := ⟨"java/lang/String", "<init>", "([C)V"⟩
abbrev yB : ByteArray := jdk_42_method_3_code
theorem d0 : decode yB 0 = .ok (.aload_n 0, 1) := by decide +kernel
theorem d1 : decode yB 1 = .ok (.aload_n 1, 1) := by decide +kernel
theorem d2 : decode yB 2 = .ok (.iconst 0, 1) := by decide +kernel
theorem d3 : decode yB 3 = .ok (.aload_n 1, 1) := by decide +kernel
theorem d4 : decode yB 4 = .ok (.arraylength, 1) := by decide +kernel
theorem d5 : decode yB 5 = .ok (.aconst_null, 1) := by decide +kernel
theorem d6 : decode yB 6 = .ok (.invokespecial 27, 3) := by decide +kernel
theorem d9 : decode yB 9 = .ok (.return_, 1) := by decide +kernel
def site : List Cond := [New4.tab] ++ initW "java/lang/String" 27 New4.yN
def tab : Cond := tabOf yN yB 2 none site
def P (a : Addr) (D : Cell) (fV fC : Field) (b : Addr) (A : Cell) (z : Int32) (args : Array Value) (s : State) : Prop := args = #[.ref a, .ref b] ∧ Blank "java/lang/String" a D s ∧ Found "java/lang/String" "value" "[B" fV s ∧ Found "java/lang/String" "coder" "B" fC s ∧ Ch b A s ∧ StaticIs s "java/lang/String" "COMPACT_STRINGS" "Z" (.int z) ∧ ¬ z = 0 ∧ 0 < A.slots.size ∧ A.slots.size ≤ 536870912 ∧ ∀ i, i < A.slots.size → ¬ 255 < cv A i
def E (a : Addr) (D : Cell) (fV fC : Field) (A : Cell) (r : Option Value) (s u : State) : Prop := Got a D fV fC A 0 A.slots.size r s u
/-- new String(chars), not empty, no char above 255: a Latin-1 String of their low bytes -/
theorem law (l : Launch) (a : Addr) (D : Cell) (fV fC : Field) (b : Addr) (A : Cell) (z : Int32) : Law l yN 2 1 3 52 yB 2 none site (P a D fV fC b A z) (E a D fV fC A) [⟨a, fC.slot⟩, ⟨a, fV.slot⟩] 1 A.slots.size := by
  refine Law.of_walk (plainFor_of_name (by decide +kernel)) (by decide +kernel) (by decide +kernel) (by decide) (fun _ _ h => by rw [h.1]; rfl) (fun _ U U' hal hh h => ⟨h.1, h.2.1.mv hal hh, h.2.2.1.al hal, h.2.2.2.1.al hal, h.2.2.2.2.1.mv hal hh, h.2.2.2.2.2.1.there hal hh, h.2.2.2.2.2.2⟩) (fun r U U' V V' h1 hal h2 h => Got.mv r U U' V V' h1 hal h2 h) ?_
  intro p e s m args below meth c s₁ X0 hexec hbytes hml hret hlk hnm hown hh0 W hP
  obtain ⟨rfl, hB, f1, f2, hA, s1, hz, l0, l2, hp⟩ := hP
  have c1 : Steps p.tables e below (s₁.setTop (entryFrame m #[.ref a, .ref b] 2)) (s₁.setTop (mkF m 0 #[.val (.ref a), .val (.ref b)] [])) := entry rfl
  have c2 : Steps p.tables e below (s₁.setTop (entryFrame m #[.ref a, .ref b] 2)) (s₁.setTop (mkF m 6 #[.val (.ref a), .val (.ref b)] [.null, .int (Int32.ofNat A.slots.size), .int 0, .ref b, .ref a])) := c1.trans (by
    refine XS.aloadN X0.here hexec rfl (hb hbytes d0) rfl rfl ?_
    refine XS.aloadN X0.here hexec rfl (hb hbytes d1) rfl rfl ?_
    refine iconstV X0.here hexec rfl 0 (hb hbytes d2) (by decide) ?_
    refine XS.aloadN X0.here hexec rfl (hb hbytes d3) rfl rfl ?_
    refine X0.alen hexec (hA.1.mv X0.warmed.alike hh0) rfl rfl (hb hbytes d4) ?_
    refine XS.aconstNull X0.here hexec rfl (hb hbytes d5) ?_
    exact Steps.refl _)
  obtain ⟨v3, T3, X3, E3, g3⟩ := X0.callN hexec (New4.law l a D fV fC b A z 0 A.slots.size) rfl hown (wks W (initW "java/lang/String" 27 New4.yN)) (W New4.tab (by simp only [site, List.mem_cons, List.mem_append, true_or, or_true])) (W := 0) (Nat.le_of_ble_eq_true rfl) (Nat.le_of_ble_eq_true rfl) (Nat.le_refl _) (by show 0 + A.slots.size ≤ A.slots.size; omega) (g := (mkF m 6 #[.val (.ref a), .val (.ref b)] [.null, .int (Int32.ofNat A.slots.size), .int (Int32.ofNat 0), .ref b, .ref a])) rfl (by rw [hml]; rfl) c2 (argsL := [.ref b, .int (Int32.ofNat 0), .int (Int32.ofNat A.slots.size), .null]) (rest := []) rfl rfl (by show 2 * 0 + 0 ≤ _; decide) (hb hbytes d6) (⟨rfl, hB.mv X0.warmed.alike hh0, f1.al X0.warmed.alike, f2.al X0.warmed.alike, hA.mv X0.warmed.alike hh0, s1.there X0.warmed.alike hh0, hz, l0, by omega, l2, fun i hi => by rw [Nat.zero_add]; exact hp i hi⟩)
  have e0 := Got.mv _ s₁ s _ _ hh0.symm (Vm.Alike.refl _) rfl E3
  obtain rfl := e0.1
  have c4 : Steps p.tables e below (s₁.setTop (entryFrame m #[.ref a, .ref b] 2)) (T3.setTop (mkF m 9 #[.val (.ref a), .val (.ref b)] [])) := g3
  exact ⟨T3, none, _, _, _, X3, by simp, rfl, by omega, (fun _ => rfl), e0, fun fs hl => c4.trans (X3.returnOut hexec hret (hb hbytes d9) hl)⟩
theorem pays {l : Launch} {R : Room} {p : Program} {e : Env} {below : List Frame} {s : State} {sargs : Array Value} {len W : Nat} (a : Addr) (D : Cell) (fV fC : Field) (b : Addr) (A : Cell) (z : Int32) (htab : tab.before sargs s = true) (hfr : 4 ≤ R.frames) (hlo : W + 65 ≤ R.locals) :
    Back l R p e below s sargs yN len W (fun A₁ a₁ => A₁.cells + 1 ≤ R.cells ∧ A₁.slots + A.slots.size ≤ R.slots ∧ P a D fV fC b A z a₁ A₁.U) (fun A₁ _ v₁ B₁ => E a D fV fC A v₁ A₁.U B₁.U ∧ B₁.locs = A₁.locs ++ [⟨a, fC.slot⟩, ⟨a, fV.slot⟩] ∧ B₁.cells = A₁.cells + 1 ∧ B₁.slots = A₁.slots + A.slots.size) :=
  (law l a D fV fC b A z).pays htab hfr (by omega)
end New1
/-- the byte, read back as charAt reads it, is the char -/
theorem lo8_mask {x : Int32} (h0 : ¬ x < 0) (h1 : ¬ 255 < x) : lo8 x &&& 255 = x := by
  have t : ∀ k : Fin 256, lo8 (Int32.ofNat k.val) &&& 255 = Int32.ofNat k.val := by decide +kernel
  rw [Int32.lt_iff_toInt_lt] at h0 h1
  have e0 : (0 : Int32).toInt = 0 := rfl
  have e1 : (255 : Int32).toInt = 255 := rfl
  obtain ⟨k, hk⟩ : ∃ k : Nat, x.toInt = k := ⟨x.toInt.toNat, by omega⟩
  have hx : x = Int32.ofNat k := Int32.toInt_inj.mp (by rw [hk, Int32.toInt_ofNat_small (by omega)])
  rw [hx]
  exact t ⟨k, by omega⟩
end StrChars
namespace StrChars.Road
open Jvm Sem ClassFile Op Lib Jvm.Stand Jvm.Free Jvm.Free.XT
open Jvm.Lib.Cold (StaticIs)
abbrev ST : String := "java/lang/String"
/-- every table word that New1's law asks, flat -/
abbrev words : List Jvm.Cond := [.code New1.yN New1.yB 2 none, .initialized ST, .methodLink ST 27 New4.yN, .instanceMethod New4.yN,
  .code New4.yN New4.yB 6 none, .fieldLink ST 38 ST "COMPACT_STRINGS" "Z", .laysFinal ST ST "value" "[B", .fieldLink ST 9 ST "value" "[B", .laysFinal ST ST "coder" "B", .fieldLink ST 15 ST "coder" "B",
  .methodLink ST 1 Lib.objectInit, .instanceMethod Lib.objectInit, .code Lib.objectInit ⟨#[0xb1]⟩ 1 none, .methodLink ST 177 Cmp3.yN, .static Cmp3.yN, .methodLink ST 47 CodL.yN, .static CodL.yN,
  .code Cmp3.yN Cmp3.yB 6 (some (.array .byte)), .initialized U16, .arrayClass .byte, .methodLink U16 115 Cmp5.yN, .static Cmp5.yN, .code Cmp5.yN Cmp5.yB 7 (some .int), .code CodL.yN CodL.yB 2 (some .byte)]
theorem tab_of {a : Array Value} {s : State} (h : ∀ w ∈ words, w.before a s = true) : New1.tab.before a s = true := by
  have h5 : Cmp5.tab.before a s = true := unparts (wk h (.code Cmp5.yN Cmp5.yB 7 (some .int))) (wks h (.initialized Cmp5.yN.cls :: Cmp5.site))
  have hc : CodL.tab.before a s = true := unparts (wk h (.code CodL.yN CodL.yB 2 (some .byte))) (wks h (.initialized CodL.yN.cls :: CodL.site))
  have q5 : ∀ w ∈ Cmp5.tab :: words, w.before a s = true := fun w hw => (List.mem_cons.mp hw).elim (fun e => e ▸ h5) (h w)
  have h3 : Cmp3.tab.before a s = true := unparts (wk q5 (.code Cmp3.yN Cmp3.yB 6 (some (.array .byte)))) (wks q5 (.initialized Cmp3.yN.cls :: Cmp3.site))
  have q3 : ∀ w ∈ Cmp3.tab :: CodL.tab :: words, w.before a s = true := fun w hw => (List.mem_cons.mp hw).elim (fun e => e ▸ h3) fun hw => (List.mem_cons.mp hw).elim (fun e => e ▸ hc) (h w)
  have h4 : New4.tab.before a s = true := unparts (wk q3 (.code New4.yN New4.yB 6 none)) (wks q3 (.initialized New4.yN.cls :: New4.site))
  have q4 : ∀ w ∈ New4.tab :: words, w.before a s = true := fun w hw => (List.mem_cons.mp hw).elim (fun e => e ▸ h4) (h w)
  exact unparts (wk q4 (.code New1.yN New1.yB 2 none)) (wks q4 (.initialized New1.yN.cls :: New1.site))
/-- the words ride from the start Z to the walk's own state -/
theorem moved {Z s : State} {a0 args : Array Value} (hZ : Z.Warmed39 s.vm) (hw : ∀ d ∈ words, d.before a0 Z = true) : ∀ d ∈ words, d.before args s = true := fun d hd => by
  have q := hw d hd
  have t : ∀ d ∈ words, d = .arrayClass .byte ∨ (d.onTables && d.keepsFace) = true := by decide +kernel
  rcases t d hd with rfl | t
  · exact RoadKit.mvA hZ q
  · exact RoadKit.mv hZ q t
/-- WHAT COMES BACK, over the tables of the start Z: h the heap at the call, h' behind it -/
def Q (Z : State) (x : Addr) (A : Cell) (h : Heap) (v : Option Value) (h' : Heap) (L : List Loc) : Prop := v = none ∧ (∀ y ∈ L, y.base = x) ∧ RoadKit.Keep h h' [x] ∧ h'.size = h.size + 1 ∧ RoadKit.Exa Z h' x ST ∧ RoadKit.Fld Z h' x ST "value" "[B" (.ref h.size) ∧ RoadKit.Fld Z h' x ST "coder" "B" (.int 0) ∧
  (∃ V : Cell, RoadKit.Arr Z h' h.size V .byte ∧ V.vm = .none ∧ Z.vm.findClass "[B" = some V.cls ∧ V.slots.size = A.slots.size ∧ ∀ j, j < A.slots.size → V.slots[j]? = some (.int (lo8 (cv A j)))) ∧
  ∀ (O n d : String) (w : Value), RoadKit.Fld Z h x O n d w → RoadKit.slotOf Z O n d ≠ RoadKit.slotOf Z ST "value" "[B" → RoadKit.slotOf Z O n d ≠ RoadKit.slotOf Z ST "coder" "B" → RoadKit.Fld Z h' x O n d w
/-- **new String(chars) AT A CALL, IN THE ROAD'S FORM**: for specialBack behind newO: x the fresh String, b the char[] with the cell A -/
theorem back {p : Program} {l : Launch} {e : Env} {R : Room} {s : State} {args : Array Value} {below : List Frame} {len W : Nat} {Z : State} {a0 : Array Value} {h : Heap} (hZ : Z.Warmed39 s.vm) (hw : ∀ d ∈ words, d.before a0 Z = true) {kI : Nat} (wi : (Jvm.Cond.instantiable ST kI).before a0 Z = true)
    {x b : Addr} {A : Cell} {z : Int32} {v0 c0 : Value} (E : RoadKit.Exa Z h x ST) (V : RoadKit.Fld Z h x ST "value" "[B" v0) (C : RoadKit.Fld Z h x ST "coder" "B" c0) (K : RoadKit.Arr Z h b A .char) (hty : Typed .char A) (S : RoadKit.Sta Z h ST "COMPACT_STRINGS" "Z" (.int z)) (hz : ¬ z = 0)
    (l0 : 0 < A.slots.size) (l2 : A.slots.size ≤ 536870912) (hp : ∀ i, i < A.slots.size → ¬ 255 < cv A i) (hfr : 4 ≤ R.frames) (hlo : W + 65 ≤ R.locals) :
    Back l R p e below s args New1.yN len W (fun P a => a = #[.ref x, .ref b] ∧ P.U.heap = h ∧ P.cells + 1 ≤ R.cells ∧ P.slots + A.slots.size ≤ R.slots)
      (fun P _ v B => ∃ L, Q Z x A h v B.U.heap L ∧ B.locs = P.locs ++ L ∧ B.cells = P.cells + 1 ∧ B.slots = P.slots + A.slots.size) := by
  intro m meth c P g ig mk a X hg hsize hdg hW hn hp'
  obtain ⟨rfl, rfl, r1, r2⟩ := hp'
  have al : Z.vm.Alike P.U.vm := hZ.alike.trans X.warmed.alike
  obtain ⟨D, cfV, kV, iV, fV, hD, gV, stV, knV, obV, asV, slV⟩ := id V
  obtain ⟨D', cfC, kC, iC, fC, hD', gC, stC, -, -, asC, slC⟩ := id C
  cases hD.symm.trans hD'
  obtain ⟨D2, kD, e1, e2, e3, e4, e5⟩ := id E
  cases hD.symm.trans e1
  obtain ⟨c2, k2, i1, i2, i3, -⟩ := Cond.instantiable_spec wi
  cases e2.symm.trans i1
  cases e3.symm.trans i2
  obtain ⟨kU, u1, u2⟩ := al.2.2 _ _ e3
  have hB : Blank ST x D P.U := ⟨hD, ⟨knV, fun q hq => by rw [hq] at obV; cases obV⟩, by rw [al.findClass]; exact e2, kU, u1, by rw [u2]; exact i3, by rw [u2]; exact e5 i3⟩
  have F1 : Found ST "value" "[B" fV P.U := ⟨SBG.found_only al ⟨cfV, kV, iV, gV⟩, stV⟩
  have F2 : Found ST "coder" "B" fC P.U := ⟨SBG.found_only al ⟨cfC, kC, iC, gC⟩, stC⟩
  have hA : Ch b A P.U := ⟨⟨K.1, State.isArrayOf_alike al K.2.1, K.2.2, by omega⟩, hty⟩
  have hS : StaticIs P.U ST "COMPACT_STRINGS" "Z" (.int z) := by
    obtain ⟨cfS, iS, kS, fS, st, cS, t1, t2, t3, t4, t5, t6, t7⟩ := S
    exact StaticIs.there (s := { Z with heap := P.U.heap }) ⟨cfS, iS, kS, fS, st, cS, t1, t2, t3, t4, t5, (fun q => by rw [q] at t6; cases t6), t7⟩ al rfl
  obtain ⟨v, B, X', ⟨⟨hv, E', V', q1, q2, q3, q4, q5, q6, q7, q8, q9, q10, q11⟩, hl, hc, hs⟩, st⟩ := New1.pays x D fV fC b A z (tab_of (moved hZ hw)) hfr hlo m meth c P g ig mk _ X hg hsize hdg hW hn ⟨r1, r2, rfl, hB, F1, F2, hA, hS, hz, l0, l2, hp⟩
  have al' : Z.vm.Alike B.U.vm := hZ.alike.trans X'.warmed.alike
  have hsz : E'.slots.size = D.slots.size := by
    obtain ⟨-, -, -, kB, w1, w2, w3⟩ := q1
    obtain ⟨kB', y1, y2⟩ := al'.2.2 _ _ e3
    rw [q2.2.1] at w1
    cases w1.symm.trans y1
    rw [w3, e5 i3, y2]
  refine ⟨v, B, X', ⟨_, ⟨hv, ?_, ⟨by omega, fun y cy hy hn' => q10 y cy (by simpa using hn') hy, fun y cy hy => ?_⟩, q11, ⟨E', _, q1.1, by rw [q2.2.1]; exact e2, by rw [q2.2.1]; exact e3, by rw [q2.1]; exact obV, fun _ => by rw [hsz]; exact e5 i3⟩,
    ⟨E', cfV, kV, iV, fV, q1.1, gV, stV, by rw [q2.1]; exact knV, by rw [q2.1]; exact obV, by rw [q2.2.1]; exact asV, q3⟩, ⟨E', cfC, kC, iC, fC, q1.1, gC, stC, by rw [q2.1]; exact knV, by rw [q2.1]; exact obV, by rw [q2.2.1]; exact asC, q4⟩,
    ⟨V', ⟨q5.1, State.isArrayOf_alike al'.symm q5.2.1, q5.2.2.1⟩, q6, by rw [← al'.findClass]; exact q7, q8, fun j hj => by have := q9 j hj; rwa [Nat.zero_add] at this⟩, fun O n d w F n1 n2 => ?_⟩, hl, hc, hs⟩, st⟩
  · intro y hy
    simp only [List.mem_cons, List.not_mem_nil, or_false] at hy
    rcases hy with rfl | rfl <;> rfl
  · by_cases q : y = x
    · subst q
      cases hD.symm.trans hy
      exact ⟨E', q1.1, q2.2.1, q2.1, hsz⟩
    · exact ⟨cy, q10 y cy q hy, rfl, rfl, rfl⟩
  · obtain ⟨D3, cf, k, i, f, g1, g2, g3, g4, g5, g6, g7⟩ := F
    cases hD.symm.trans g1
    simp only [RoadKit.slotOf, g2, gV, gC, Option.map_some, Option.getD_some] at n1 n2
    exact ⟨E', cf, k, i, f, q1.1, g2, g3, by rw [q2.1]; exact g4, by rw [q2.1]; exact g5, by rw [q2.2.1]; exact g6, by rw [q2.2.2 f.slot (by simp [n1, n2])]; exact g7⟩
end StrChars.Road
namespace StrChars.Road
open Jvm Sem ClassFile Op Lib Jvm.Stand Jvm.Free Jvm.Free.XT
/-- WHAT COMES BACK, the byte[] as a list of values -/
def QA (Z : State) (x : Addr) (zn : Int32) (cs : List Int32) (h : Heap) (v : Option Value) (h' : Heap) (L : List Loc) : Prop := v = none ∧ (∀ y ∈ L, y.base = x) ∧ RoadKit.Keep h h' [x] ∧ h'.size = h.size + 1 ∧ RoadKit.Exa Z h' x ST ∧ RoadKit.Fld Z h' x ST "value" "[B" (.ref h.size) ∧ RoadKit.Fld Z h' x ST "coder" "B" (.int 0) ∧
  (∃ kb, Z.vm.findClass "[B" = some kb ∧ RoadKit.Arv Z h' h.size kb .byte zn (cs.map fun c => .int (lo8 c)) (.int 0)) ∧
  ∀ (O n d : String) (w : Value), RoadKit.Fld Z h x O n d w → RoadKit.slotOf Z O n d ≠ RoadKit.slotOf Z ST "value" "[B" → RoadKit.slotOf Z O n d ≠ RoadKit.slotOf Z ST "coder" "B" → RoadKit.Fld Z h' x O n d w
/-- **new String(chars) AT A CALL, THE ARRAYS AS LISTS**: the char[] at b holds cs, not empty, no char above 255 -/
theorem backArv {p : Program} {l : Launch} {e : Env} {R : Room} {s : State} {args : Array Value} {below : List Frame} {len W : Nat} {Z : State} {a0 : Array Value} {h : Heap} (hZ : Z.Warmed39 s.vm) (hw : ∀ d ∈ words, d.before a0 Z = true) {kI : Nat} (wi : (Jvm.Cond.instantiable ST kI).before a0 Z = true)
    {x b : Addr} {k : ClassId} {zn z : Int32} {cs : List Int32} {dv v0 c0 : Value} (E : RoadKit.Exa Z h x ST) (V : RoadKit.Fld Z h x ST "value" "[B" v0) (C : RoadKit.Fld Z h x ST "coder" "B" c0) (K : RoadKit.Arv Z h b k .char zn (cs.map Value.int) dv) (S : RoadKit.Sta Z h ST "COMPACT_STRINGS" "Z" (.int z)) (hz : ¬ z = 0)
    (hlen : zn.toNatClampNeg = cs.length) (h0 : 0 < cs.length) (hbig : cs.length ≤ 536870912) (hall : ∀ c ∈ cs, ¬ 255 < c) (hfr : 4 ≤ R.frames) (hlo : W + 65 ≤ R.locals) :
    Back l R p e below s args New1.yN len W (fun P a => a = #[.ref x, .ref b] ∧ P.U.heap = h ∧ P.cells + 1 ≤ R.cells ∧ P.slots + cs.length ≤ R.slots)
      (fun P _ v B => ∃ L, QA Z x zn cs h v B.U.heap L ∧ B.locs = P.locs ++ L ∧ B.cells = P.cells + 1 ∧ B.slots = P.slots + cs.length) := by
  obtain ⟨A, K1, K2, K3, K4, K5, K6⟩ := K
  have e : A.slots.size = cs.length := K3.trans hlen
  have hat : ∀ (i : Nat) (hi : i < cs.length), A.slots[i]? = some (.int cs[i]) := fun i hi => by rw [K5 i (by omega)]; simp [List.getD_eq_getElem?_getD, hi]
  have hcv : ∀ (i : Nat) (hi : i < cs.length), cv A i = cs[i] := fun i hi => by unfold cv; rw [hat i hi]
  have hty : Typed .char A := fun i v hv => by
    have hi : i < A.slots.size := (Array.getElem?_eq_some_iff.mp hv).1
    have q := K5 i hi
    rw [hv] at q
    rw [Option.some.inj q]
    exact K6 i hi
  refine Back.mono (back hZ hw wi E V C K1 hty S hz (by omega) (by omega) (fun i hi => by rw [hcv i (by omega)]; exact hall _ (List.getElem_mem _)) hfr hlo) (fun P a hp => ⟨hp.1, hp.2.1, hp.2.2.1, by rw [e]; exact hp.2.2.2⟩) (fun P a v B hp hq => ?_)
  obtain ⟨L, ⟨q1, q2, q3, q4, q5, q6, q7, ⟨V', v1, v2, v3, v4, v5⟩, q9⟩, hl, hc, hs⟩ := hq
  refine ⟨L, ⟨q1, q2, q3, q4, q5, q6, q7, ⟨V'.cls, v3, V', v1, rfl, by rw [v4, e, hlen], K4, fun i hi => ?_, fun i hi => ?_⟩, q9⟩, hl, hc, by rw [hs, e]⟩
  · have hi' : i < cs.length := by omega
    rw [v5 i (by omega), hcv i hi']; simp [List.getD_eq_getElem?_getD, hi']
  · have hi' : i < cs.length := by omega
    simp only [List.getD_eq_getElem?_getD, List.getElem?_map, List.getElem?_eq_getElem hi', Option.map_some, Option.getD_some]
    exact fits_lo8 _
end StrChars.Road
namespace StrChars.Road
open Jvm Sem ClassFile Op Lib Jvm.Stand Jvm.Free Jvm.Free.XT
/-- WHAT COMES BACK, in the writer's own shape -/
def QV (Z : State) (x : Addr) (N : Int32) (bs : List Int32) (h : Heap) (n0 : Nat) (v : Option Value) (h' : Heap) (L : List Loc) : Prop := v = none ∧ RoadKit.Fr n0 L ∧ RoadKit.Keep h h' [x] ∧ RoadKit.Exa Z h' x ST ∧ RoadKit.Fld Z h' x ST "coder" "B" (.int 0) ∧
  ∃ (t : Addr) (kb : ClassId), n0 ≤ t ∧ h.size ≤ t ∧ ¬ t = x ∧ RoadKit.Fld Z h' x ST "value" "[B" (.ref t) ∧ RoadKit.Arv Z h' t kb .byte N (bs.map Value.int) (.int 0)
/-- **new String(chars) AT A CALL, FOR THE WRITER**: a char[] of n known ints, each 0 to 255 -/
theorem backV {p : Program} {l : Launch} {e : Env} {R : Room} {s : State} {args : Array Value} {below : List Frame} {len W : Nat} {Z : State} {a0 : Array Value} {h : Heap} (hZ : Z.Warmed39 s.vm) (hw : ∀ d ∈ words, d.before a0 Z = true) {kI : Nat} (wi : (Jvm.Cond.instantiable ST kI).before a0 Z = true)
    {x b : Addr} {kC : ClassId} {cs bs : List Int32} {d v0 c0 : Value} {z N : Int32} {n n0 : Nat} (hx0 : n0 ≤ x) (hh0 : n0 ≤ h.size) (E : RoadKit.Exa Z h x ST) (V : RoadKit.Fld Z h x ST "value" "[B" v0) (C : RoadKit.Fld Z h x ST "coder" "B" c0) (K : RoadKit.Arv Z h b kC .char N (cs.map Value.int) d) (S : RoadKit.Sta Z h ST "COMPACT_STRINGS" "Z" (.int z)) (hz : ¬ z = 0)
    (hn : cs.length = n) (hN : N = Int32.ofNat n) (l0 : 0 < n) (l2 : n ≤ 4000) (hp : ∀ c ∈ cs, ¬ c < 0 ∧ ¬ (255 : Int32) < c) (hb : bs = cs.map (fun c => c.toInt8.toInt32)) (hfr : 4 ≤ R.frames) (hlo : W + 65 ≤ R.locals) :
    Back l R p e below s args (⟨"java/lang/String", "<init>", "([C)V"⟩ : MethodName) len W (fun P a => a = #[.ref x, .ref b] ∧ P.U.heap = h ∧ P.cells + 1 ≤ R.cells ∧ P.slots + n ≤ R.slots)
      (fun P _ v B => ∃ L, QV Z x N bs h n0 v B.U.heap L ∧ B.locs = P.locs ++ L ∧ B.cells = P.cells + 1 ∧ B.slots = P.slots + n) := by
  subst hn hN hb
  refine Back.mono (backArv hZ hw wi E V C K S hz (n32 (by omega)) l0 (by omega) (fun c hc => (hp c hc).2) hfr hlo) (fun P a hp => hp) (fun P a v B hp hq => ?_)
  obtain ⟨L, ⟨q1, q2, q3, q4, q5, q6, q7, ⟨kb, v1, v2⟩, q9⟩, hl, hc, hs⟩ := hq
  exact ⟨L, ⟨q1, fun y hy => by rw [q2 y hy]; exact hx0, q3, q5, q7, h.size, kb, hh0, Nat.le_refl _, Nat.ne_of_gt E.lt, q6, by rw [List.map_map]; exact v2⟩, hl, hc, hs⟩
end StrChars.Road
namespace StrChars
open Jvm Sem ClassFile Op Lib Jvm.Stand Jvm.Free.XT Jvm.Free.ALB Jvm.Free.JM Jvm.Free
open Jvm.Lib.Cold (StaticIs)
def hi8 (x : Int32) : Int32 := lo8 (x >>> ((8 : Int32) &&& 31))
/-- what StringUTF16.getChar makes of two bytes -/
def pairCh (u v : Int32) : Int32 := (((u &&& 255) <<< ((0 : Int32) &&& 31)) ||| ((v &&& 255) <<< ((8 : Int32) &&& 31))).toUInt32.toUInt16.toUInt32.toInt32
theorem shr0 (c : Int32) : c >>> ((0 : Int32) &&& 31) = c := by
  have e : ((0 : Int32) &&& 31) = 0 := by decide
  rw [e]
  apply Int32.toBitVec_inj.mp
  rw [Int32.toBitVec_shiftRight]
  have e1 : ((0 : Int32).toBitVec.smod 32) = 0#32 := by decide
  rw [e1, BitVec.sshiftRight_eq']
  exact BitVec.sshiftRight_zero
theorem lo8_and (x : Int32) : (lo8 x &&& 255).toBitVec.toNat = x.toBitVec.toNat % 256 := by
  have h : (lo8 x).toBitVec = (x.toBitVec.signExtend 8).signExtend 32 := by rw [lo8, Int8.toBitVec_toInt32, Int32.toBitVec_toInt8]
  rw [Int32.toBitVec_and, BitVec.toNat_and, h]
  have e : ((x.toBitVec.signExtend 8).signExtend 32).toNat % 256 = x.toBitVec.toNat % 256 := by
    rw [BitVec.toNat_signExtend]
    have hlt := x.toBitVec.isLt
    simp only [BitVec.toNat_setWidth, BitVec.toNat_signExtend]
    split <;> split <;> omega
  rw [← e]
  exact Nat.and_two_pow_sub_one_eq_mod _ 8
theorem pair_says {c : Int32} (h0 : ¬ c < 0) (h1 : ¬ 65535 < c) : pairCh (lo8 c) (hi8 c) = c := by
  rw [Int32.lt_iff_toInt_lt] at h0 h1
  have e0 : (0 : Int32).toInt = 0 := rfl
  have e1 : (65535 : Int32).toInt = 65535 := rfl
  have hc : c.toInt = c.toBitVec.toNat := by
    have := c.toBitVec.isLt
    have e : c.toInt = c.toBitVec.toInt := rfl
    rw [e] at h0 h1
    rw [e]
    rw [BitVec.toInt_eq_toNat_cond] at h0 h1 ⊢
    split at h0 <;> split <;> omega
  have hn : c.toBitVec.toNat < 65536 := by omega
  have a1 := lo8_and c
  have a2 : (hi8 c &&& 255).toBitVec.toNat = c.toBitVec.toNat / 256 := by
    rw [hi8, lo8_and]
    have e : ((8 : Int32) &&& 31) = 8 := by decide
    rw [e, Int32.toBitVec_shiftRight]
    have e2 : ((8 : Int32).toBitVec.smod 32) = 8#32 := by decide
    rw [e2, BitVec.sshiftRight_eq', BitVec.toNat_sshiftRight_of_msb_false (by rw [BitVec.msb_eq_false_iff_two_mul_lt]; omega)]
    show c.toBitVec.toNat >>> 8 % 256 = _
    rw [Nat.shiftRight_eq_div_pow]
    omega
  unfold pairCh
  apply Int32.toBitVec_inj.mp
  apply BitVec.eq_of_toNat_eq
  have f0 : ((0 : Int32) &&& 31) = 0 := by decide
  have f8 : ((8 : Int32) &&& 31) = 8 := by decide
  rw [f0, f8]
  have g : (((lo8 c &&& 255) <<< (0 : Int32)) ||| ((hi8 c &&& 255) <<< (8 : Int32))).toBitVec.toNat = c.toBitVec.toNat := by
    rw [Int32.toBitVec_or, Int32.toBitVec_shiftLeft, Int32.toBitVec_shiftLeft]
    have s0 : ((0 : Int32).toBitVec.smod 32) = 0#32 := by decide
    have s8 : ((8 : Int32).toBitVec.smod 32) = 8#32 := by decide
    rw [s0, s8, BitVec.toNat_or]
    simp only [BitVec.shiftLeft_eq', BitVec.toNat_shiftLeft, a1, a2]
    show (c.toBitVec.toNat % 256) <<< 0 % 2 ^ 32 ||| (c.toBitVec.toNat / 256) <<< 8 % 2 ^ 32 = _
    rw [Nat.shiftLeft_zero, Nat.mod_eq_of_lt (show c.toBitVec.toNat % 256 < 2 ^ 32 by omega), Nat.mod_eq_of_lt (show (c.toBitVec.toNat / 256) <<< 8 < 2 ^ 32 by rw [Nat.shiftLeft_eq]; omega), Nat.or_comm, ← Nat.shiftLeft_add_eq_or_of_lt (by omega), Nat.shiftLeft_eq]
    omega
  show BitVec.toNat (((((lo8 c &&& 255) <<< (0 : Int32)) ||| ((hi8 c &&& 255) <<< (8 : Int32))).toBitVec.setWidth 16).setWidth 32) = _
  rw [BitVec.toNat_setWidth, BitVec.toNat_setWidth, g]
  omega
end StrChars
namespace StrChars
open Jvm Sem ClassFile Op Lib Jvm.Stand Jvm.Free.XT Jvm.Free.ALB Jvm.Free.JM Jvm.Free
open Jvm.Lib.Cold (StaticIs)
theorem shr1 {n : Nat} (h : 2 * n < 2 ^ 31) : Int32.ofNat (2 * n) >>> ((1 : Int32) &&& 31) = Int32.ofNat n := by
  have e : ((1 : Int32) &&& 31) = 1 := by decide
  rw [e]
  apply Int32.toBitVec_inj.mp
  rw [Int32.toBitVec_shiftRight]
  have e1 : ((1 : Int32).toBitVec.smod 32) = 1#32 := by decide
  have hm : (BitVec.ofNat 32 (2 * n)).toNat = 2 * n := by rw [BitVec.toNat_ofNat, Nat.mod_eq_of_lt (by omega)]
  rw [e1, BitVec.sshiftRight_eq']
  apply BitVec.eq_of_toNat_eq
  show ((BitVec.ofNat 32 (2 * n)).sshiftRight 1).toNat = (BitVec.ofNat 32 n).toNat
  rw [BitVec.toNat_sshiftRight_of_msb_false (by rw [BitVec.msb_eq_false_iff_two_mul_lt, hm]; omega), hm, BitVec.toNat_ofNat, Nat.shiftRight_eq_div_pow]
  omega
/-- charAt's cast of a byte read back -/
def chr8 (u : Int32) : Int32 := (u &&& 255).toUInt32.toUInt16.toUInt32.toInt32
theorem chr8_lo8 {c : Int32} (h0 : ¬ c < 0) (h1 : ¬ 255 < c) : chr8 (lo8 c) = c := by
  have t : ∀ k : Fin 256, (Int32.ofNat k.val).toUInt32.toUInt16.toUInt32.toInt32 = Int32.ofNat k.val := by decide +kernel
  unfold chr8
  rw [lo8_mask h0 h1]
  rw [Int32.lt_iff_toInt_lt] at h0 h1
  have e0 : (0 : Int32).toInt = 0 := rfl
  have e1 : (255 : Int32).toInt = 255 := rfl
  obtain ⟨k, hk⟩ : ∃ k : Nat, c.toInt = k := ⟨c.toInt.toNat, by omega⟩
  have hx : c = Int32.ofNat k := Int32.toInt_inj.mp (by rw [hk, Int32.toInt_ofNat_small (by omega)])
  rw [hx]
  exact t ⟨k, by omega⟩
theorem narrow_ch {c : Int32} (h0 : ¬ c < 0) (h1 : ¬ 65535 < c) : narrow .char (.int c) = .int c := by
  have q : narrow .char (.int (pairCh (lo8 c) (hi8 c))) = .int (pairCh (lo8 c) (hi8 c)) := narrow_c _
  rwa [pair_says h0 h1] at q
/-- the array's cell V codes the n chars f 0 .. f (n - 1) by the coder cd, as the JDK does: coder 1 just where some char is above 255 -/
def Cod (cd : Int32) (n : Nat) (f : Nat → Int32) (V : Cell) : Prop := (cd = 0 ∧ V.slots.size = n ∧ ∀ j, j < n → V.slots[j]? = some (.int (lo8 (f j))) ∧ ¬ 255 < f j) ∨ (cd = 1 ∧ V.slots.size = 2 * n ∧ (∀ j, j < n → V.slots[2 * j]? = some (.int (lo8 (f j))) ∧ V.slots[2 * j + 1]? = some (.int (hi8 (f j)))) ∧ ∃ j, j < n ∧ 255 < f j)
theorem Cod.cd {cd : Int32} {n : Nat} {f : Nat → Int32} {V : Cell} (h : Cod cd n f V) : cd = 0 ∨ cd = 1 := h.imp (fun q => q.1) fun q => q.1
theorem Cod.len {cd : Int32} {n : Nat} {f : Nat → Int32} {V : Cell} (h : Cod cd n f V) (hs : V.slots.size < 2 ^ 31) : Int32.ofNat V.slots.size >>> (cd &&& 31) = Int32.ofNat n := by
  rcases h with ⟨rfl, h, -⟩ | ⟨rfl, h, -⟩
  · rw [shr0, h]
  · rw [h, shr1 (by omega)]
/-- **x is a String of the n chars f 0 .. f (n - 1)**, Latin-1 or UTF-16; its array at t has the cell V -/
def Txt (x t : Addr) (V : Cell) (cd : Int32) (n : Nat) (f : Nat → Int32) (U : State) : Prop := Exact "java/lang/String" x U ∧ Has x "java/lang/String" "value" "[B" (.ref t) U ∧ Has x "java/lang/String" "coder" "B" (.int cd) U ∧ XT.Arr .byte t V U ∧ Cod cd n f V ∧ ∀ j, j < n → ¬ f j < 0 ∧ ¬ 65535 < f j
theorem Txt.mv {x t : Addr} {V : Cell} {cd : Int32} {n : Nat} {f : Nat → Int32} {U U' : State} (h : Txt x t V cd n f U) (hal : U.vm.Alike U'.vm) (hh : U'.heap = U.heap) : Txt x t V cd n f U' := ⟨h.1.mv hal hh, h.2.1.mv hal hh, h.2.2.1.mv hal hh, h.2.2.2.1.mv hal hh, h.2.2.2.2⟩
namespace Cdr
def yN : MethodName := ⟨"java/lang/String", "coder", "()B"⟩
abbrev yB : ByteArray := jdk_42_method_152_code
theorem d0 : decode yB 0 = .ok (.getstatic 38, 3) := by decide +kernel
theorem d3 : decode yB 3 = .ok (.ifCond (.eq) 10, 3) := by decide +kernel
theorem d6 : decode yB 6 = .ok (.aload_n 0, 1) := by decide +kernel
theorem d7 : decode yB 7 = .ok (.getfield 15, 3) := by decide +kernel
theorem d10 : decode yB 10 = .ok (.goto 4, 3) := by decide +kernel
theorem d14 : decode yB 14 = .ok (.ireturn, 1) := by decide +kernel
def site : List Cond := [.fieldLink "java/lang/String" 38 "java/lang/String" "COMPACT_STRINGS" "Z", .fieldLink "java/lang/String" 15 "java/lang/String" "coder" "B"]
def tab : Cond := tabOf yN yB 1 (some .byte) site
def P (x : Addr) (cd z : Int32) (args : Array Value) (s : State) : Prop := args = #[.ref x] ∧ Has x "java/lang/String" "coder" "B" (.int cd) s ∧ (cd = 0 ∨ cd = 1) ∧ StaticIs s "java/lang/String" "COMPACT_STRINGS" "Z" (.int z) ∧ ¬ z = 0
def E (cd : Int32) (r : Option Value) (s u : State) : Prop := XT.PureE (some (.int cd)) r s u
theorem law (l : Launch) (x : Addr) (cd z : Int32) : Law l yN 1 0 0 0 yB 1 (some .byte) site (P x cd z) (E cd) [] 0 0 := by
  refine Law.of_walk (plainFor_of_name (by decide +kernel)) (by decide +kernel) (by decide +kernel) (by decide) (fun _ _ h => by rw [h.1]; rfl) (fun _ U U' hal hh h => ⟨h.1, h.2.1.mv hal hh, h.2.2.1, h.2.2.2.1.there hal hh, h.2.2.2.2⟩) (fun r U U' V V' h1 hal h2 h => XT.PureE.mv r U U' V V' h1 hal h2 h) ?_
  intro p e s m args below meth c s₁ X0 hexec hbytes hml hret hlk hnm hown hh0 W hP
  obtain ⟨rfl, hx, hc, s1, hz⟩ := hP
  have c1 : Steps p.tables e below (s₁.setTop (entryFrame m #[.ref x] 1)) (s₁.setTop (mkF m 0 #[.val (.ref x)] [])) := entry rfl
  obtain ⟨T2, X2, q2, st2⟩ := X0.sget hexec hown (wk W (.fieldLink "java/lang/String" 38 "java/lang/String" "COMPACT_STRINGS" "Z")) s1 (fun _ _ h => by rw [hh0]; exact h) (g := (mkF m 0 #[.val (.ref x)] [])) rfl (hb hbytes d0)
  have hh2 := q2.trans hh0
  have c3 : Steps p.tables e below (s₁.setTop (entryFrame m #[.ref x] 1)) (T2.setTop (mkF m 7 #[.val (.ref x)] [.ref x])) := (c1.trans (st2 _ (Steps.refl _))).trans (by
    refine XS.ifNo X2.here hexec rfl (hb hbytes d3) rfl (i0_eq_f hz) ?_
    refine XS.aloadN X2.here hexec rfl (hb hbytes d6) rfl rfl ?_
    exact Steps.refl _)
  obtain ⟨T4, X4, q4, st4⟩ := X2.hget hexec hown (wk W (.fieldLink "java/lang/String" 15 "java/lang/String" "coder" "B")) (hx.mv X2.warmed.alike hh2) (g := (mkF m 7 #[.val (.ref x)] [.ref x])) rfl (rest := []) rfl (hb hbytes d7)
  have c5 : Steps p.tables e below (s₁.setTop (entryFrame m #[.ref x] 1)) (T4.setTop (mkF m 14 #[.val (.ref x)] [.int cd])) := (c3.trans (st4 _ (Steps.refl _))).trans (by
    refine XS.goto X4.here hexec rfl (pc0 := 10) rfl (hb hbytes d10) (by decide) rfl ?_
    exact Steps.refl _)
  exact ⟨T4, some (.int cd), _, _, _, X4, rfl, rfl, rfl, (fun h => by cases h), ⟨rfl, q4.trans hh2⟩, fun fs hl => c5.trans (X4.ireturnOut hexec hret (by rcases hc with rfl | rfl <;> rfl) (Or.inr (Or.inr (Or.inl rfl))) (hb hbytes d14) hl)⟩
end Cdr
namespace Len
def yN : MethodName := ⟨"java/lang/String", "length", "()I"⟩
abbrev yB : ByteArray := jdk_42_method_54_code
theorem d0 : decode yB 0 = .ok (.aload_n 0, 1) := by decide +kernel
theorem d1 : decode yB 1 = .ok (.getfield 9, 3) := by decide +kernel
theorem d4 : decode yB 4 = .ok (.arraylength, 1) := by decide +kernel
theorem d5 : decode yB 5 = .ok (.aload_n 0, 1) := by decide +kernel
theorem d6 : decode yB 6 = .ok (.invokevirtual 335, 3) := by decide +kernel
theorem d9 : decode yB 9 = .ok (.ishr, 1) := by decide +kernel
theorem d10 : decode yB 10 = .ok (.ireturn, 1) := by decide +kernel
def site : List Cond := [.fieldLink "java/lang/String" 9 "java/lang/String" "value" "[B", Cdr.tab] ++ virtW "java/lang/String" 335 "java/lang/String" Cdr.yN Cdr.yN
def tab : Cond := tabOf yN yB 1 (some .int) site
def P (x t : Addr) (V : Cell) (cd : Int32) (n : Nat) (f : Nat → Int32) (z : Int32) (args : Array Value) (s : State) : Prop := args = #[.ref x] ∧ Txt x t V cd n f s ∧ StaticIs s "java/lang/String" "COMPACT_STRINGS" "Z" (.int z) ∧ ¬ z = 0
def E (n : Nat) (r : Option Value) (s u : State) : Prop := XT.PureE (some (.int (Int32.ofNat n))) r s u
/-- length() of a String of n chars, in either coding -/
theorem law (l : Launch) (x t : Addr) (V : Cell) (cd : Int32) (n : Nat) (f : Nat → Int32) (z : Int32) : Law l yN 1 0 1 13 yB 1 (some .int) site (P x t V cd n f z) (E n) [] 0 0 := by
  refine Law.of_walk (plainFor_of_name (by decide +kernel)) (by decide +kernel) (by decide +kernel) (by decide) (fun _ _ h => by rw [h.1]; rfl) (fun _ U U' hal hh h => ⟨h.1, h.2.1.mv hal hh, h.2.2.1.there hal hh, h.2.2.2⟩) (fun r U U' V V' h1 hal h2 h => XT.PureE.mv r U U' V V' h1 hal h2 h) ?_
  intro p e s m args below meth c s₁ X0 hexec hbytes hml hret hlk hnm hown hh0 W hP
  obtain ⟨rfl, hx, s1, hz⟩ := hP
  have v31 := hx.2.2.2.1.2.2.2
  have c1 : Steps p.tables e below (s₁.setTop (entryFrame m #[.ref x] 1)) (s₁.setTop (mkF m 1 #[.val (.ref x)] [.ref x])) := Steps.trans (entry rfl) (by
    show Steps p.tables e below (s₁.setTop (mkF m 0 #[.val (.ref x)] [])) _
    refine XS.aloadN X0.here hexec rfl (hb hbytes d0) rfl rfl ?_
    exact Steps.refl _)
  obtain ⟨T2, X2, q2, st2⟩ := X0.hget hexec hown (wk W (.fieldLink "java/lang/String" 9 "java/lang/String" "value" "[B")) (hx.mv X0.warmed.alike hh0).2.1 (g := (mkF m 1 #[.val (.ref x)] [.ref x])) rfl (rest := []) rfl (hb hbytes d1)
  have hh2 := q2.trans hh0
  have hx2 := hx.mv X2.warmed.alike hh2
  have c3 : Steps p.tables e below (s₁.setTop (entryFrame m #[.ref x] 1)) (T2.setTop (mkF m 6 #[.val (.ref x)] [.ref x, .int (Int32.ofNat V.slots.size)])) := (c1.trans (st2 _ (Steps.refl _))).trans (by
    refine X2.alen hexec hx2.2.2.2.1 rfl rfl (hb hbytes d4) ?_
    refine XS.aloadN X2.here hexec rfl (hb hbytes d5) rfl rfl ?_
    exact Steps.refl _)
  obtain ⟨v4, T4, X4, E4, g4⟩ := X2.callV hexec (Cdr.law l x cd z) hown (wks W (virtW "java/lang/String" 335 "java/lang/String" Cdr.yN Cdr.yN)) rfl (by decide) (wk W Cdr.tab) (W := 1) (Nat.le_of_ble_eq_true rfl) (Nat.le_of_ble_eq_true rfl) (Nat.le_refl _) (Nat.le_refl _) (hx2.1.fc X2.warmed.alike) hx2.1.is (g := (mkF m 6 #[.val (.ref x)] [.ref x, .int (Int32.ofNat V.slots.size)])) rfl (by rw [hml]; rfl) c3 (argsL := []) (rest := [.int (Int32.ofNat V.slots.size)]) rfl rfl (by show 2 * 0 + (1 + 0) ≤ _; decide) (hb hbytes d6) (⟨rfl, hx2.2.2.1, hx.2.2.2.2.1.cd, s1.there X2.warmed.alike hh2, hz⟩)
  obtain ⟨rfl, q4⟩ := E4
  have c5 : Steps p.tables e below (s₁.setTop (entryFrame m #[.ref x] 1)) (T4.setTop (mkF m 10 #[.val (.ref x)] [.int (Int32.ofNat V.slots.size >>> (cd &&& 31))])) := Steps.trans g4 (by
    refine ishr X4.here hexec rfl (hb hbytes d9) rfl ?_
    exact Steps.refl _)
  rw [hx.2.2.2.2.1.len v31] at c5
  exact ⟨T4, some (.int (Int32.ofNat n)), _, _, _, X4, rfl, rfl, rfl, (fun h => by cases h), ⟨rfl, q4.trans hh2⟩, fun fs hl => c5.trans (X4.ireturnOut hexec hret rfl (Or.inl rfl) (hb hbytes d10) hl)⟩
theorem pays {l : Launch} {R : Room} {p : Program} {e : Env} {below : List Frame} {s : State} {sargs : Array Value} {len W : Nat} (x t : Addr) (V : Cell) (cd : Int32) (n : Nat) (f : Nat → Int32) (z : Int32) (htab : tab.before sargs s = true) (hfr : 2 ≤ R.frames) (hlo : W + 25 ≤ R.locals) :
    Back l R p e below s sargs yN len W (fun A₁ a₁ => A₁.cells + 0 ≤ R.cells ∧ A₁.slots + 0 ≤ R.slots ∧ P x t V cd n f z a₁ A₁.U) (fun A₁ _ v₁ B₁ => E n v₁ A₁.U B₁.U ∧ B₁.locs = A₁.locs ++ [] ∧ B₁.cells = A₁.cells + 0 ∧ B₁.slots = A₁.slots + 0) :=
  (law l x t V cd n f z).pays htab hfr (by omega)
end Len
namespace IsL
def yN : MethodName := ⟨"java/lang/String", "isLatin1", "()Z"⟩
abbrev yB : ByteArray := jdk_42_method_154_code
theorem d0 : decode yB 0 = .ok (.getstatic 38, 3) := by decide +kernel
theorem d3 : decode yB 3 = .ok (.ifCond (.eq) 14, 3) := by decide +kernel
theorem d6 : decode yB 6 = .ok (.aload_n 0, 1) := by decide +kernel
theorem d7 : decode yB 7 = .ok (.getfield 15, 3) := by decide +kernel
theorem d10 : decode yB 10 = .ok (.ifCond (.ne) 7, 3) := by decide +kernel
theorem d13 : decode yB 13 = .ok (.iconst 1, 1) := by decide +kernel
theorem d14 : decode yB 14 = .ok (.goto 4, 3) := by decide +kernel
theorem d17 : decode yB 17 = .ok (.iconst 0, 1) := by decide +kernel
theorem d18 : decode yB 18 = .ok (.ireturn, 1) := by decide +kernel
def site : List Cond := [.fieldLink "java/lang/String" 38 "java/lang/String" "COMPACT_STRINGS" "Z", .fieldLink "java/lang/String" 15 "java/lang/String" "coder" "B"]
def tab : Cond := tabOf yN yB 1 (some .boolean) site
def P (x : Addr) (cd z : Int32) (args : Array Value) (s : State) : Prop := args = #[.ref x] ∧ Has x "java/lang/String" "coder" "B" (.int cd) s ∧ (cd = 0 ∨ cd = 1) ∧ StaticIs s "java/lang/String" "COMPACT_STRINGS" "Z" (.int z) ∧ ¬ z = 0
def E (cd : Int32) (r : Option Value) (s u : State) : Prop := XT.PureE (some (.int (1 - cd))) r s u
theorem law (l : Launch) (x : Addr) (cd z : Int32) : Law l yN 1 0 0 0 yB 1 (some .boolean) site (P x cd z) (E cd) [] 0 0 := by
  refine Law.of_walk (plainFor_of_name (by decide +kernel)) (by decide +kernel) (by decide +kernel) (by decide) (fun _ _ h => by rw [h.1]; rfl) (fun _ U U' hal hh h => ⟨h.1, h.2.1.mv hal hh, h.2.2.1, h.2.2.2.1.there hal hh, h.2.2.2.2⟩) (fun r U U' V V' h1 hal h2 h => XT.PureE.mv r U U' V V' h1 hal h2 h) ?_
  intro p e s m args below meth c s₁ X0 hexec hbytes hml hret hlk hnm hown hh0 W hP
  obtain ⟨rfl, hx, hc, s1, hz⟩ := hP
  have c1 : Steps p.tables e below (s₁.setTop (entryFrame m #[.ref x] 1)) (s₁.setTop (mkF m 0 #[.val (.ref x)] [])) := entry rfl
  obtain ⟨T2, X2, q2, st2⟩ := X0.sget hexec hown (wk W (.fieldLink "java/lang/String" 38 "java/lang/String" "COMPACT_STRINGS" "Z")) s1 (fun _ _ h => by rw [hh0]; exact h) (g := (mkF m 0 #[.val (.ref x)] [])) rfl (hb hbytes d0)
  have hh2 := q2.trans hh0
  have c3 : Steps p.tables e below (s₁.setTop (entryFrame m #[.ref x] 1)) (T2.setTop (mkF m 7 #[.val (.ref x)] [.ref x])) := (c1.trans (st2 _ (Steps.refl _))).trans (by
    refine XS.ifNo X2.here hexec rfl (hb hbytes d3) rfl (i0_eq_f hz) ?_
    refine XS.aloadN X2.here hexec rfl (hb hbytes d6) rfl rfl ?_
    exact Steps.refl _)
  obtain ⟨T4, X4, q4, st4⟩ := X2.hget hexec hown (wk W (.fieldLink "java/lang/String" 15 "java/lang/String" "coder" "B")) (hx.mv X2.warmed.alike hh2) (g := (mkF m 7 #[.val (.ref x)] [.ref x])) rfl (rest := []) rfl (hb hbytes d7)
  have c5 : Steps p.tables e below (s₁.setTop (entryFrame m #[.ref x] 1)) (T4.setTop (mkF m 10 #[.val (.ref x)] [.int cd])) := c3.trans (st4 _ (Steps.refl _))
  have c6 : Steps p.tables e below (s₁.setTop (entryFrame m #[.ref x] 1)) (T4.setTop (mkF m 18 #[.val (.ref x)] [.int (1 - cd)])) := by
    rcases hc with rfl | rfl
    · exact c5.trans (by
        refine XS.ifNo X4.here hexec rfl (hb hbytes d10) rfl (i0_ne_f rfl) ?_
        refine iconstV X4.here hexec rfl 1 (hb hbytes d13) (by decide) ?_
        refine XS.goto X4.here hexec rfl (pc0 := 14) rfl (hb hbytes d14) (by decide) rfl ?_
        exact Steps.refl _)
    · exact c5.trans (by
        refine XS.ifYes X4.here hexec rfl (pc0 := 10) rfl (hb hbytes d10) rfl (i0_ne_t (by decide)) (by decide) rfl ?_
        refine iconstV X4.here hexec rfl 0 (hb hbytes d17) (by decide) ?_
        exact Steps.refl _)
  exact ⟨T4, some (.int (1 - cd)), _, _, _, X4, rfl, rfl, rfl, (fun h => by cases h), ⟨rfl, q4.trans hh2⟩, fun fs hl => c6.trans (X4.ireturnOut hexec hret (by rcases hc with rfl | rfl <;> rfl) (Or.inr (Or.inl rfl)) (hb hbytes d18) hl)⟩
end IsL
namespace LChA
def yN : MethodName := ⟨"java/lang/StringLatin1", "charAt", "([BI)C"⟩
abbrev yB : ByteArray := jdk_43_method_2_code
theorem d0 : decode yB 0 = .ok (.iload_n 1, 1) := by decide +kernel
theorem d1 : decode yB 1 = .ok (.aload_n 0, 1) := by decide +kernel
theorem d2 : decode yB 2 = .ok (.arraylength, 1) := by decide +kernel
theorem d3 : decode yB 3 = .ok (.invokestatic 9, 3) := by decide +kernel
theorem d6 : decode yB 6 = .ok (.aload_n 0, 1) := by decide +kernel
theorem d7 : decode yB 7 = .ok (.iload_n 1, 1) := by decide +kernel
theorem d8 : decode yB 8 = .ok (.baload, 1) := by decide +kernel
theorem d9 : decode yB 9 = .ok (.sipush 255, 3) := by decide +kernel
theorem d12 : decode yB 12 = .ok (.iand, 1) := by decide +kernel
theorem d13 : decode yB 13 = .ok (.i2c, 1) := by decide +kernel
theorem d14 : decode yB 14 = .ok (.ireturn, 1) := by decide +kernel
def site : List Cond := [JO.Str_checkIndex.tab] ++ staticW "java/lang/StringLatin1" 9 JO.Str_checkIndex.yN
def tab : Cond := tabOf yN yB 2 (some .char) site
def P (t : Addr) (V : Cell) (i : Nat) (u : Int32) (fm : Value) (args : Array Value) (s : State) : Prop := args = #[.ref t, .int (Int32.ofNat i)] ∧ XT.Arr .byte t V s ∧ V.slots[i]? = some (.int u) ∧ (StaticIs s "jdk/internal/util/Preconditions" "SIOOBE_FORMATTER" "Ljava/util/function/BiFunction;" fm ∧ fm.isRef = true)
def E (u : Int32) (r : Option Value) (s w : State) : Prop := XT.PureE (some (.int (chr8 u))) r s w
theorem law (l : Launch) (t : Addr) (V : Cell) (i : Nat) (u : Int32) (fm : Value) : Law l yN 2 2 2 27 yB 2 (some .char) site (P t V i u fm) (E u) [] 0 0 := by
  refine Law.of_walk (plainFor_of_name (by decide +kernel)) (by decide +kernel) (by decide +kernel) (by decide) (fun _ _ h => by rw [h.1]; rfl) (fun _ U U' hal hh h => ⟨h.1, h.2.1.mv hal hh, h.2.2.1, h.2.2.2.1.there hal hh, h.2.2.2.2⟩) (fun r U U' V V' h1 hal h2 h => XT.PureE.mv r U U' V V' h1 hal h2 h) ?_
  intro p e s m args below meth c s₁ X0 hexec hbytes hml hret hlk hnm hown hh0 W hP
  obtain ⟨rfl, hV, hu, s1, rf⟩ := hP
  have v31 := hV.2.2.2
  have hi : i < V.slots.size := (Array.getElem?_eq_some_iff.mp hu).1
  have c1 : Steps p.tables e below (s₁.setTop (entryFrame m #[.ref t, .int (Int32.ofNat i)] 2)) (s₁.setTop (mkF m 0 #[.val (.ref t), .val (.int (Int32.ofNat i))] [])) := entry rfl
  have c2 : Steps p.tables e below (s₁.setTop (entryFrame m #[.ref t, .int (Int32.ofNat i)] 2)) (s₁.setTop (mkF m 3 #[.val (.ref t), .val (.int (Int32.ofNat i))] [.int (Int32.ofNat V.slots.size), .int (Int32.ofNat i)])) := c1.trans (by
    refine XS.iloadN X0.here hexec rfl (hb hbytes d0) rfl ?_
    refine XS.aloadN X0.here hexec rfl (hb hbytes d1) rfl rfl ?_
    refine X0.alen hexec (hV.mv X0.warmed.alike hh0) rfl rfl (hb hbytes d2) ?_
    exact Steps.refl _)
  obtain ⟨v3, T3, X3, E3, g3⟩ := X0.callS hexec (JO.Str_checkIndex.law l (Int32.ofNat i) (Int32.ofNat V.slots.size) fm) hown (wks W (staticW "java/lang/StringLatin1" 9 JO.Str_checkIndex.yN)) (wk W JO.Str_checkIndex.tab) (W := 0) (Nat.le_of_ble_eq_true rfl) (Nat.le_of_ble_eq_true rfl) (Nat.le_refl _) (Nat.le_refl _) (g := (mkF m 3 #[.val (.ref t), .val (.int (Int32.ofNat i))] [.int (Int32.ofNat V.slots.size), .int (Int32.ofNat i)])) rfl (by rw [hml]; rfl) c2 (argsL := [.int (Int32.ofNat i), .int (Int32.ofNat V.slots.size)]) (rest := []) rfl rfl (by show 2 * 0 + 0 ≤ _; decide) (hb hbytes d3) (⟨rfl, rf, s1.there X0.warmed.alike hh0, Int32.ofNat_not_neg (by omega), lt32 v31 hi⟩)
  obtain ⟨rfl, q3⟩ := E3
  have hh3 := q3.trans hh0
  have c4 : Steps p.tables e below (s₁.setTop (entryFrame m #[.ref t, .int (Int32.ofNat i)] 2)) (T3.setTop (mkF m 14 #[.val (.ref t), .val (.int (Int32.ofNat i))] [.int (chr8 u)])) := Steps.trans g3 (by
    refine XS.aloadN X3.here hexec rfl (hb hbytes d6) rfl rfl ?_
    refine XS.iloadN X3.here hexec rfl (hb hbytes d7) rfl ?_
    refine X3.aget hexec (hV.mv X3.warmed.alike hh3) rfl hu rfl rfl (hb hbytes d8) ?_
    refine sipushV X3.here hexec rfl 255 (hb hbytes d9) (by decide) ?_
    refine XS.iand X3.here hexec rfl (hb hbytes d12) rfl ?_
    refine i2c X3.here hexec rfl (hb hbytes d13) rfl ?_
    exact Steps.refl _)
  exact ⟨T3, some (.int (chr8 u)), _, _, _, X3, rfl, rfl, rfl, (fun h => by cases h), ⟨rfl, hh3⟩, fun fs hl => c4.trans (X3.ireturnOut hexec hret (narrow_c _) (Or.inr (Or.inr (Or.inr (Or.inl rfl)))) (hb hbytes d14) hl)⟩
end LChA
end StrChars
namespace StrChars.Road
open Jvm Sem ClassFile Op Lib Jvm.Stand Jvm.Free Jvm.Free.XT
open Jvm.Lib.Cold (StaticIs)
theorem consq {a : Array Value} {s : State} {c : Jvm.Cond} {L : List Jvm.Cond} (h0 : c.before a s = true) (h : ∀ w ∈ L, w.before a s = true) : ∀ w ∈ c :: L, w.before a s = true := fun w hw => (List.mem_cons.mp hw).elim (fun e => e ▸ h0) (h w)
/-- the words of String.length(), either coding -/
abbrev wordsLen : List Jvm.Cond := [.code Len.yN Len.yB 1 (some .int), .initialized ST, .fieldLink ST 9 ST "value" "[B", .fieldLink ST 38 ST "COMPACT_STRINGS" "Z", .fieldLink ST 15 ST "coder" "B", .code Cdr.yN Cdr.yB 1 (some .byte), .methodLink ST 335 Cdr.yN, .declares Cdr.yN, .selects ST Cdr.yN Cdr.yN, .instanceMethod Cdr.yN]
theorem tabLen_of {a : Array Value} {s : State} (h : ∀ w ∈ wordsLen, w.before a s = true) : Len.tab.before a s = true := by
  have hc : Cdr.tab.before a s = true := unparts (wk h (.code Cdr.yN Cdr.yB 1 (some .byte))) (wks h (.initialized Cdr.yN.cls :: Cdr.site))
  have q := consq hc h
  exact unparts (wk q (.code Len.yN Len.yB 1 (some .int))) (wks q (.initialized Len.yN.cls :: Len.site))
theorem movedLen {Z s : State} {a0 args : Array Value} (hZ : Z.Warmed39 s.vm) (hw : ∀ d ∈ wordsLen, d.before a0 Z = true) : ∀ d ∈ wordsLen, d.before args s = true := fun d hd => by
  have q := hw d hd
  have t : ∀ d ∈ wordsLen, d = .arrayClass .byte ∨ (d.onTables && d.keepsFace) = true := by decide +kernel
  rcases t d hd with rfl | t
  · exact RoadKit.mvA hZ q
  · exact RoadKit.mv hZ q t
/-- the bytes of the chars cs, low before high -/
def wideBytes : List Int32 → List Value
  | [] => []
  | c :: cs => .int (lo8 c) :: .int (hi8 c) :: wideBytes cs
theorem wide_lo (d : Value) : ∀ (cs : List Int32) (j : Nat), j < cs.length → (wideBytes cs).getD (2 * j) d = .int (lo8 (cs.getD j 0))
  | [], j, h => absurd h (Nat.not_lt_zero j)
  | c :: cs, 0, _ => rfl
  | c :: cs, j + 1, h => by
    have q := wide_lo d cs j (by simpa using h)
    rw [show 2 * (j + 1) = 2 * j + 1 + 1 from by omega]
    simpa [wideBytes] using q
theorem wide_hi (d : Value) : ∀ (cs : List Int32) (j : Nat), j < cs.length → (wideBytes cs).getD (2 * j + 1) d = .int (hi8 (cs.getD j 0))
  | [], j, h => absurd h (Nat.not_lt_zero j)
  | c :: cs, 0, _ => rfl
  | c :: cs, j + 1, h => by
    have q := wide_hi d cs j (by simpa using h)
    rw [show 2 * (j + 1) + 1 = 2 * j + 1 + 1 + 1 from by omega]
    simpa [wideBytes] using q
theorem low_at (d : Value) (cs : List Int32) (j : Nat) (h : j < cs.length) : (cs.map fun c => Value.int (lo8 c)).getD j d = .int (lo8 (cs.getD j 0)) := by
  simp [List.getD_eq_getElem?_getD, h]
/-- an array of N2 bytes vs codes the chars cs by the coder cd -/
def CodA (cs : List Int32) (cd N2 : Int32) (vs : List Value) : Prop := (cd = 0 ∧ N2 = Int32.ofNat cs.length ∧ vs = (cs.map fun c => Value.int (lo8 c)) ∧ ∀ c ∈ cs, ¬ 255 < c) ∨ (cd = 1 ∧ N2 = Int32.ofNat (2 * cs.length) ∧ vs = wideBytes cs ∧ ∃ c ∈ cs, 255 < c)
theorem CodA.cod {cs : List Int32} {cd N2 : Int32} {vs : List Value} {V : Cell} (h : CodA cs cd N2 vs) (hn : 2 * cs.length < 2 ^ 31) (hs : V.slots.size = N2.toNatClampNeg) (hv : RoadKit.Has V vs (.int 0)) : Cod cd cs.length (fun j => cs.getD j 0) V := by
  rcases h with ⟨rfl, rfl, rfl, h⟩ | ⟨rfl, rfl, rfl, c, hc, hw⟩
  · rw [n32 (by omega)] at hs
    exact Or.inl ⟨rfl, hs, fun j hj => ⟨by rw [hv j (by omega), low_at _ _ _ hj], by
      have e : cs.getD j 0 = cs[j] := by simp [List.getD_eq_getElem?_getD, hj]
      show ¬ 255 < cs.getD j 0
      rw [e]; exact h _ (List.getElem_mem _)⟩⟩
  · rw [n32 (by omega)] at hs
    obtain ⟨j, hj, rfl⟩ := List.getElem_of_mem hc
    exact Or.inr ⟨rfl, hs, fun j hj => ⟨by rw [hv _ (by omega), wide_lo _ _ _ hj], by rw [hv _ (by omega), wide_hi _ _ _ hj]⟩, j, hj, by
      have e : cs.getD j 0 = cs[j] := by simp [List.getD_eq_getElem?_getD, hj]
      show 255 < cs.getD j 0
      rw [e]; exact hw⟩
/-- an object of exactly java/lang/String, its two fields found: as the laws ask it -/
theorem strObj {Z U : State} {a0 : Array Value} {kI : Nat} (wi : (Jvm.Cond.instantiable ST kI).before a0 Z = true) (al : Z.vm.Alike U.vm) {x : Addr} {v0 c0 : Value} (E : RoadKit.Exa Z U.heap x ST) (V : RoadKit.Fld Z U.heap x ST "value" "[B" v0) (C : RoadKit.Fld Z U.heap x ST "coder" "B" c0) :
    ∃ (D : Cell) (fV fC : Field), Blank ST x D U ∧ Found ST "value" "[B" fV U ∧ Found ST "coder" "B" fC U ∧ D.slots[fV.slot]? = some v0 ∧ D.slots[fC.slot]? = some c0 ∧ RoadKit.slotOf Z ST "value" "[B" = fV.slot ∧ RoadKit.slotOf Z ST "coder" "B" = fC.slot := by
  obtain ⟨D, cfV, kV, iV, fV, hD, gV, stV, knV, obV, asV, slV⟩ := V
  obtain ⟨D', cfC, kC, iC, fC, hD', gC, stC, -, -, asC, slC⟩ := C
  cases hD.symm.trans hD'
  obtain ⟨D2, kD, e1, e2, e3, e4, e5⟩ := E
  cases hD.symm.trans e1
  obtain ⟨c2, k2, i1, i2, i3, -⟩ := Cond.instantiable_spec wi
  cases e2.symm.trans i1
  cases e3.symm.trans i2
  obtain ⟨kU, u1, u2⟩ := al.2.2 _ _ e3
  exact ⟨D, fV, fC, ⟨hD, ⟨knV, fun q hq => by rw [hq] at obV; cases obV⟩, by rw [al.findClass]; exact e2, kU, u1, by rw [u2]; exact i3, by rw [u2]; exact e5 i3⟩, ⟨SBG.found_only al ⟨cfV, kV, iV, gV⟩, stV⟩, ⟨SBG.found_only al ⟨cfC, kC, iC, gC⟩, stC⟩, slV, slC, by simp [RoadKit.slotOf, gV], by simp [RoadKit.slotOf, gC]⟩
theorem sta_is {Z U : State} (al : Z.vm.Alike U.vm) {C n d : String} {v : Value} (S : RoadKit.Sta Z U.heap C n d v) : StaticIs U C n d v := by
  obtain ⟨cfS, iS, kS, fS, st, cS, t1, t2, t3, t4, t5, t6, t7⟩ := S
  exact StaticIs.there (s := { Z with heap := U.heap }) ⟨cfS, iS, kS, fS, st, cS, t1, t2, t3, t4, t5, (fun q => by rw [q] at t6; cases t6), t7⟩ al rfl
/-- **length() OF SUCH A STRING** -/
theorem lenW {p : Program} {l : Launch} {e : Env} {R : Room} {s : State} {args : Array Value} {below : List Frame} {len W : Nat} {Z : State} {a0 : Array Value} {h : Heap} (hZ : Z.Warmed39 s.vm) (hw : ∀ d ∈ wordsLen, d.before a0 Z = true) {kI : Nat} (wi : (Jvm.Cond.instantiable ST kI).before a0 Z = true)
    {x t : Addr} {kb : ClassId} {cs : List Int32} {cd N2 z : Int32} {vs : List Value} (E : RoadKit.Exa Z h x ST) (V : RoadKit.Fld Z h x ST "value" "[B" (.ref t)) (C : RoadKit.Fld Z h x ST "coder" "B" (.int cd)) (K : RoadKit.Arv Z h t kb .byte N2 vs (.int 0)) (hc : CodA cs cd N2 vs) (hb : ∀ c ∈ cs, ¬ c < 0 ∧ ¬ (65535 : Int32) < c)
    (S : RoadKit.Sta Z h ST "COMPACT_STRINGS" "Z" (.int z)) (hz : ¬ z = 0) (l2 : cs.length ≤ 4000) (hfr : 2 ≤ R.frames) (hlo : W + 25 ≤ R.locals) :
    Back l R p e below s args (⟨"java/lang/String", "length", "()I"⟩ : MethodName) len W (fun P a => a = #[.ref x] ∧ P.U.heap = h ∧ P.cells + 0 ≤ R.cells ∧ P.slots + 0 ≤ R.slots)
      (fun P _ v B => ∃ L, (v = some (.int (Int32.ofNat cs.length)) ∧ L = [] ∧ B.U.heap = h) ∧ B.locs = P.locs ++ L ∧ B.cells = P.cells + 0 ∧ B.slots = P.slots + 0) := by
  obtain ⟨A, K1, K2, K3, K4, K5, K6⟩ := K
  have hcod := hc.cod (by omega) K3 K5
  intro m meth c P g ig mk a X hg hsize hdg hW hn hp'
  obtain ⟨rfl, rfl, r1, r2⟩ := hp'
  have al : Z.vm.Alike P.U.vm := hZ.alike.trans X.warmed.alike
  obtain ⟨D, fV, fC, hB, F1, F2, g1, g2, -, -⟩ := strObj wi al E V C
  have hx : Txt x t A cd cs.length (fun j => cs.getD j 0) P.U := ⟨⟨_, hB.2.2.1, D, hB.1, rfl, by cases q : D.vm <;> first | rfl | exact absurd q (hB.2.1.2 _)⟩, Has.of hB F1 g1, Has.of hB F2 g2, ⟨K1.1, State.isArrayOf_alike al K1.2.1, K1.2.2, by rcases hcod with ⟨-, q, -⟩ | ⟨-, q, -⟩ <;> omega⟩, hcod, fun j hj => by
    have e : cs.getD j 0 = cs[j] := by simp [List.getD_eq_getElem?_getD, hj]
    show ¬ cs.getD j 0 < 0 ∧ ¬ 65535 < cs.getD j 0
    rw [e]; exact hb _ (List.getElem_mem _)⟩
  obtain ⟨v, B, X', ⟨⟨hv, hh⟩, hl, hk, hs⟩, st⟩ := Len.pays x t A cd cs.length (fun j => cs.getD j 0) z (tabLen_of (movedLen hZ hw)) hfr hlo m meth c P g ig mk _ X hg hsize hdg hW hn ⟨r1, r2, rfl, hx, sta_is al S, hz⟩
  exact ⟨v, B, X', ⟨[], ⟨hv, rfl, hh⟩, hl, hk, hs⟩, st⟩
end StrChars.Road
namespace StrChars
open Jvm Sem ClassFile Op Lib Jvm.Stand Jvm.Free.XT Jvm.Free.ALB Jvm.Free.JM Jvm.Free
open Jvm.Lib.Cold (StaticIs)
/-- what place i of a byte[]'s cell holds -/
def yv (A : Cell) (i : Nat) : Int32 := match A.slots[i]? with | some (.int x) => x | _ => 0
theorem yv_get {a : Addr} {A : Cell} {U : State} (h : XT.Arr .byte a A U) (ht : Typed .byte A) {i : Nat} (hi : i < A.slots.size) : A.slots[i]? = some (.int (yv A i)) := by
  have e := Array.getElem?_eq_getElem hi
  have f := ht i _ e
  unfold yv; rw [e]
  generalize A.slots[i] = v at f
  cases v <;> simp [fits] at f ⊢
/-- the two arrays are equal, place for place -/
def EqC (A B : Cell) : Prop := A.slots.size = B.slots.size ∧ ∀ i, i < A.slots.size → yv A i = yv B i
/-- a boolean that says whether p -/
def Says01 (q : Prop) (r : Option Value) (s u : State) : Prop := ∃ v : Int32, r = some (.int v) ∧ u.heap = s.heap ∧ ((v = 1 ∧ q) ∨ (v = 0 ∧ ¬ q))
theorem Says01.mv {q : Prop} : ∀ r (U U' V V' : State), U'.heap = U.heap → V.vm.Alike V'.vm → V'.heap = V.heap → Says01 q r U V → Says01 q r U' V' :=
  fun r U U' V V' h1 _ h2 ⟨v, a, b, c⟩ => ⟨v, a, by rw [h1, h2]; exact b, c⟩
namespace LEq
def yN : MethodName := ⟨"java/lang/StringLatin1", "equals", "([B[B)Z"⟩
abbrev yB : ByteArray := jdk_43_method_13_code
theorem d0 : decode yB 0 = .ok (.aload_n 0, 1) := by decide +kernel
theorem d1 : decode yB 1 = .ok (.arraylength, 1) := by decide +kernel
theorem d2 : decode yB 2 = .ok (.aload_n 1, 1) := by decide +kernel
theorem d3 : decode yB 3 = .ok (.arraylength, 1) := by decide +kernel
theorem d4 : decode yB 4 = .ok (.if_icmp (.ne) 30, 3) := by decide +kernel
theorem d7 : decode yB 7 = .ok (.iconst 0, 1) := by decide +kernel
theorem d8 : decode yB 8 = .ok (.istore_n 2, 1) := by decide +kernel
theorem d9 : decode yB 9 = .ok (.iload_n 2, 1) := by decide +kernel
theorem d10 : decode yB 10 = .ok (.aload_n 0, 1) := by decide +kernel
theorem d11 : decode yB 11 = .ok (.arraylength, 1) := by decide +kernel
theorem d12 : decode yB 12 = .ok (.if_icmp (.ge) 20, 3) := by decide +kernel
theorem d15 : decode yB 15 = .ok (.aload_n 0, 1) := by decide +kernel
theorem d16 : decode yB 16 = .ok (.iload_n 2, 1) := by decide +kernel
theorem d17 : decode yB 17 = .ok (.baload, 1) := by decide +kernel
theorem d18 : decode yB 18 = .ok (.aload_n 1, 1) := by decide +kernel
theorem d19 : decode yB 19 = .ok (.iload_n 2, 1) := by decide +kernel
theorem d20 : decode yB 20 = .ok (.baload, 1) := by decide +kernel
theorem d21 : decode yB 21 = .ok (.if_icmp (.eq) 5, 3) := by decide +kernel
theorem d24 : decode yB 24 = .ok (.iconst 0, 1) := by decide +kernel
theorem d25 : decode yB 25 = .ok (.ireturn, 1) := by decide +kernel
theorem d26 : decode yB 26 = .ok (.iinc 2 1, 3) := by decide +kernel
theorem d29 : decode yB 29 = .ok (.goto (-20), 3) := by decide +kernel
theorem d32 : decode yB 32 = .ok (.iconst 1, 1) := by decide +kernel
theorem d33 : decode yB 33 = .ok (.ireturn, 1) := by decide +kernel
theorem d34 : decode yB 34 = .ok (.iconst 0, 1) := by decide +kernel
theorem d35 : decode yB 35 = .ok (.ireturn, 1) := by decide +kernel
def site : List Cond := []
def tab : Cond := tabOf yN yB 3 (some .boolean) site
def P (a : Addr) (A : Cell) (b : Addr) (B : Cell) (args : Array Value) (s : State) : Prop := args = #[.ref a, .ref b] ∧ XT.Arr .byte a A s ∧ Typed .byte A ∧ XT.Arr .byte b B s ∧ Typed .byte B
/-- whether two byte[] are equal, place for place -/
theorem law (l : Launch) (a : Addr) (A : Cell) (b : Addr) (B : Cell) : Law l yN 2 2 0 0 yB 3 (some .boolean) site (P a A b B) (Says01 (EqC A B)) [] 0 0 := by
  refine Law.of_walk (plainFor_of_name (by decide +kernel)) (by decide +kernel) (by decide +kernel) (by decide) (fun _ _ h => by rw [h.1]; rfl) (fun _ U U' hal hh h => ⟨h.1, h.2.1.mv hal hh, h.2.2.1, h.2.2.2.1.mv hal hh, h.2.2.2.2⟩) (fun r U U' V V' h1 hal h2 h => Says01.mv r U U' V V' h1 hal h2 h) ?_
  intro p e s m args below meth c s₁ X0 hexec hbytes hml hret hlk hnm hown hh0 W hP
  obtain ⟨rfl, hA, tA, hB, tB⟩ := hP
  have a31 := hA.2.2.2
  have b31 := hB.2.2.2
  have hA0 := hA.mv X0.warmed.alike hh0
  have hB0 := hB.mv X0.warmed.alike hh0
  have c1 : Steps p.tables e below (s₁.setTop (entryFrame m #[.ref a, .ref b] 3)) (s₁.setTop (mkF m 0 #[.val (.ref a), .val (.ref b), .unset] [])) := entry rfl
  have c2 : Steps p.tables e below (s₁.setTop (entryFrame m #[.ref a, .ref b] 3)) (s₁.setTop (mkF m 4 #[.val (.ref a), .val (.ref b), .unset] [.int (Int32.ofNat B.slots.size), .int (Int32.ofNat A.slots.size)])) := c1.trans (by
    refine XS.aloadN X0.here hexec rfl (hb hbytes d0) rfl rfl ?_
    refine X0.alen hexec hA0 rfl rfl (hb hbytes d1) ?_
    refine XS.aloadN X0.here hexec rfl (hb hbytes d2) rfl rfl ?_
    refine X0.alen hexec hB0 rfl rfl (hb hbytes d3) ?_
    exact Steps.refl _)
  by_cases hs : A.slots.size = B.slots.size
  · have c3 : Steps p.tables e below (s₁.setTop (entryFrame m #[.ref a, .ref b] 3)) (s₁.setTop (mkF m 9 #[.val (.ref a), .val (.ref b), .val (.int 0)] [])) := c2.trans (by
      refine XS.icmpNo X0.here hexec rfl (hb hbytes d4) rfl (ii_ne_f (by rw [hs])) ?_
      refine iconstV X0.here hexec rfl 0 (hb hbytes d7) (by decide) ?_
      refine XS.istoreN X0.here hexec rfl (hb hbytes d8) rfl rfl ?_
      exact Steps.refl _)
    have loop : ∀ (r i : Nat), i + r = A.slots.size → (∀ j, j < i → yv A j = yv B j) → Steps p.tables e below (s₁.setTop (entryFrame m #[.ref a, .ref b] 3)) (s₁.setTop (mkF m 9 #[.val (.ref a), .val (.ref b), .val (.int (Int32.ofNat i))] [])) → ∃ (pc : Nat) (Ls : Array Slot) (v : Int32), (pc = 25 ∨ pc = 33) ∧ ((v = 1 ∧ EqC A B) ∨ (v = 0 ∧ ¬ EqC A B)) ∧ Steps p.tables e below (s₁.setTop (entryFrame m #[.ref a, .ref b] 3)) (s₁.setTop (mkF m pc Ls [.int v])) := by
      intro r
      induction r with
      | zero =>
        intro i hi he cl
        exact ⟨33, _, 1, Or.inr rfl, Or.inl ⟨rfl, hs, fun j hj => he j (by omega)⟩, cl.trans (by
          refine XS.iloadN X0.here hexec rfl (hb hbytes d9) rfl ?_
          refine XS.aloadN X0.here hexec rfl (hb hbytes d10) rfl rfl ?_
          refine X0.alen hexec hA0 rfl rfl (hb hbytes d11) ?_
          refine XS.icmpYes X0.here hexec rfl (pc0 := 12) rfl (hb hbytes d12) rfl (ii_ge_t (nlt32 (by omega) (by omega))) (by decide) rfl ?_
          refine iconstV X0.here hexec rfl 1 (hb hbytes d32) (by decide) ?_
          exact Steps.refl _)⟩
      | succ r ih =>
        intro i hi he cl
        have c4 : Steps p.tables e below (s₁.setTop (entryFrame m #[.ref a, .ref b] 3)) (s₁.setTop (mkF m 21 #[.val (.ref a), .val (.ref b), .val (.int (Int32.ofNat i))] [.int (yv B i), .int (yv A i)])) := cl.trans (by
          refine XS.iloadN X0.here hexec rfl (hb hbytes d9) rfl ?_
          refine XS.aloadN X0.here hexec rfl (hb hbytes d10) rfl rfl ?_
          refine X0.alen hexec hA0 rfl rfl (hb hbytes d11) ?_
          refine XS.icmpNo X0.here hexec rfl (hb hbytes d12) rfl (ii_ge_f (lt32 (by omega) (by omega))) ?_
          refine XS.aloadN X0.here hexec rfl (hb hbytes d15) rfl rfl ?_
          refine XS.iloadN X0.here hexec rfl (hb hbytes d16) rfl ?_
          refine X0.aget hexec hA0 rfl (yv_get hA tA (i := i) (by omega)) rfl rfl (hb hbytes d17) ?_
          refine XS.aloadN X0.here hexec rfl (hb hbytes d18) rfl rfl ?_
          refine XS.iloadN X0.here hexec rfl (hb hbytes d19) rfl ?_
          refine X0.aget hexec hB0 rfl (yv_get hB tB (i := i) (by omega)) rfl rfl (hb hbytes d20) ?_
          exact Steps.refl _)
        by_cases hv : yv A i = yv B i
        · have c5 : Steps p.tables e below (s₁.setTop (entryFrame m #[.ref a, .ref b] 3)) (s₁.setTop (mkF m 9 #[.val (.ref a), .val (.ref b), .val (.int (Int32.ofNat i + 1))] [])) := c4.trans (by
            refine XS.icmpYes X0.here hexec rfl (pc0 := 21) rfl (hb hbytes d21) rfl (ii_eq_t hv) (by decide) rfl ?_
            refine iincV X0.here hexec rfl 1 (hb hbytes d26) (by decide) rfl rfl ?_
            refine XS.goto X0.here hexec rfl (pc0 := 29) rfl (hb hbytes d29) (by decide) rfl ?_
            exact Steps.refl _)
          rw [succ32] at c5
          exact ih (i + 1) (by omega) (fun j hj => by
            by_cases e : j = i
            · rw [e]; exact hv
            · exact he j (by omega)) c5
        · exact ⟨25, _, 0, Or.inl rfl, Or.inr ⟨rfl, fun q => hv (q.2 i (by omega))⟩, c4.trans (by
            refine XS.icmpNo X0.here hexec rfl (hb hbytes d21) rfl (ii_eq_f hv) ?_
            refine iconstV X0.here hexec rfl 0 (hb hbytes d24) (by decide) ?_
            exact Steps.refl _)⟩
    obtain ⟨pc, Ls, v, hpc, hv, cz⟩ := loop A.slots.size 0 (by omega) (fun j hj => absurd hj (Nat.not_lt_zero j)) c3
    have nv : narrow .boolean (.int v) = .int v := by rcases hv with ⟨rfl, -⟩ | ⟨rfl, -⟩ <;> rfl
    rcases hpc with rfl | rfl
    · exact ⟨s₁, some (.int v), _, _, _, X0, rfl, rfl, rfl, (fun h => by cases h), ⟨v, rfl, hh0, hv⟩, fun fs hl => cz.trans (X0.ireturnOut hexec hret nv (Or.inr (Or.inl rfl)) (hb hbytes d25) hl)⟩
    · exact ⟨s₁, some (.int v), _, _, _, X0, rfl, rfl, rfl, (fun h => by cases h), ⟨v, rfl, hh0, hv⟩, fun fs hl => cz.trans (X0.ireturnOut hexec hret nv (Or.inr (Or.inl rfl)) (hb hbytes d33) hl)⟩
  · have c3 : Steps p.tables e below (s₁.setTop (entryFrame m #[.ref a, .ref b] 3)) (s₁.setTop (mkF m 35 #[.val (.ref a), .val (.ref b), .unset] [.int 0])) := c2.trans (by
      refine XS.icmpYes X0.here hexec rfl (pc0 := 4) rfl (hb hbytes d4) rfl (ii_ne_t (ne32 a31 b31 hs)) (by decide) rfl ?_
      refine iconstV X0.here hexec rfl 0 (hb hbytes d34) (by decide) ?_
      exact Steps.refl _)
    exact ⟨s₁, some (.int 0), _, _, _, X0, rfl, rfl, rfl, (fun h => by cases h), ⟨0, rfl, hh0, Or.inr ⟨rfl, fun q => hs q.1⟩⟩, fun fs hl => c3.trans (X0.ireturnOut hexec hret rfl (Or.inr (Or.inl rfl)) (hb hbytes d35) hl)⟩
end LEq
theorem Cod.ty {cd : Int32} {n : Nat} {f : Nat → Int32} {V : Cell} (h : Cod cd n f V) : Typed .byte V := fun i v hv => by
  have hi : i < V.slots.size := (Array.getElem?_eq_some_iff.mp hv).1
  rcases h with ⟨-, k1, k2⟩ | ⟨-, k1, k2, -⟩
  · rw [(k2 i (by omega)).1] at hv; cases hv; exact fits_lo8 _
  · rcases Nat.mod_two_eq_zero_or_one i with e | e
    · obtain ⟨j, rfl⟩ : ∃ j, i = 2 * j := ⟨i / 2, by omega⟩
      rw [(k2 j (by omega)).1] at hv; cases hv; exact fits_lo8 _
    · obtain ⟨j, rfl⟩ : ∃ j, i = 2 * j + 1 := ⟨i / 2, by omega⟩
      rw [(k2 j (by omega)).2] at hv; cases hv; exact fits_lo8 _
/-- the same text -/
def SameT (n : Nat) (f : Nat → Int32) (k : Nat) (g : Nat → Int32) : Prop := n = k ∧ ∀ j, j < n → f j = g j
theorem lo8_inj {x y : Int32} (h0 : ¬ x < 0) (h1 : ¬ 255 < x) (k0 : ¬ y < 0) (k1 : ¬ 255 < y) (h : lo8 x = lo8 y) : x = y := by
  rw [← lo8_mask h0 h1, ← lo8_mask k0 k1, h]
/-- arrays coded by one coder are equal just where the texts are -/
theorem Cod.eqv {cd : Int32} {n k : Nat} {f g : Nat → Int32} {V V' : Cell} (h : Cod cd n f V) (h' : Cod cd k g V') (hf : ∀ j, j < n → ¬ f j < 0 ∧ ¬ 65535 < f j) (hg : ∀ j, j < k → ¬ g j < 0 ∧ ¬ 65535 < g j) : EqC V V' ↔ SameT n f k g := by
  have yvv : ∀ {W : Cell} {i : Nat} {x : Int32}, W.slots[i]? = some (.int x) → yv W i = x := fun q => by unfold yv; rw [q]
  rcases h with ⟨rfl, k1, k2⟩ | ⟨rfl, k1, k2, -⟩
  · rcases h' with ⟨-, m1, m2⟩ | ⟨e, -⟩
    · constructor
      · rintro ⟨e1, e2⟩
        refine ⟨by omega, fun j hj => ?_⟩
        have q := e2 j (by omega)
        rw [yvv (k2 j hj).1, yvv (m2 j (by omega)).1] at q
        exact lo8_inj (hf j hj).1 (k2 j hj).2 (hg j (by omega)).1 (m2 j (by omega)).2 q
      · rintro ⟨rfl, e2⟩
        refine ⟨by omega, fun j hj => ?_⟩
        rw [yvv (k2 j (by omega)).1, yvv (m2 j (by omega)).1, e2 j (by omega)]
    · exact absurd e (by decide)
  · rcases h' with ⟨e, -⟩ | ⟨-, m1, m2, -⟩
    · exact absurd e (by decide)
    · constructor
      · rintro ⟨e1, e2⟩
        refine ⟨by omega, fun j hj => ?_⟩
        have q1 := e2 (2 * j) (by omega)
        have q2 := e2 (2 * j + 1) (by omega)
        rw [yvv (k2 j hj).1, yvv (m2 j (by omega)).1] at q1
        rw [yvv (k2 j hj).2, yvv (m2 j (by omega)).2] at q2
        rw [← pair_says (hf j hj).1 (hf j hj).2, ← pair_says (hg j (by omega)).1 (hg j (by omega)).2, q1, q2]
      · rintro ⟨rfl, e2⟩
        refine ⟨by omega, fun i hi => ?_⟩
        rcases Nat.mod_two_eq_zero_or_one i with e | e
        · obtain ⟨j, rfl⟩ : ∃ j, i = 2 * j := ⟨i / 2, by omega⟩
          rw [yvv (k2 j (by omega)).1, yvv (m2 j (by omega)).1, e2 j (by omega)]
        · obtain ⟨j, rfl⟩ : ∃ j, i = 2 * j + 1 := ⟨i / 2, by omega⟩
          rw [yvv (k2 j (by omega)).2, yvv (m2 j (by omega)).2, e2 j (by omega)]
/-- two codings differ: so do the texts -/
theorem Cod.dif {cd cd' : Int32} {n k : Nat} {f g : Nat → Int32} {V V' : Cell} (h : Cod cd n f V) (h' : Cod cd' k g V') (hne : ¬ cd = cd') : ¬ SameT n f k g := by
  rintro ⟨rfl, e⟩
  rcases h with ⟨rfl, -, k2⟩ | ⟨rfl, -, -, j, hj, hw⟩
  · rcases h' with ⟨rfl, -⟩ | ⟨-, -, -, j, hj, hw⟩
    · exact hne rfl
    · exact (k2 j hj).2 (by rw [e j hj]; exact hw)
  · rcases h' with ⟨-, -, m2⟩ | ⟨rfl, -⟩
    · exact (m2 j hj).2 (by rw [← e j hj]; exact hw)
    · exact hne rfl
/-- an object of exactly C is an instance of C -/
theorem cinst {p : Program} {l : Launch} {e : Env} {R : Room} {s : State} {m : MethodId} {args : Array Value} {below : List Frame} {meth : Method} {c : Code} {T : State} {locs : List Loc} {cells slots : Nat} (X : Stand p l e R s m args below meth c T locs cells slots) (hexec : p.tables.exec = Jvm.exec) {own C : String} {index : Nat} (hown : s.vm.findClass own = some m.cls) (hlink : (Cond.classLink own index C).before args s = true) {a : Addr} (hE : Exact C a T)
    {g : JFrame} (hg : g.method = m) {rest : List Value} (hstack : g.stack = .ref a :: rest) (hdg : decode c.code g.pc = .ok (.instanceof index, 3)) :
    ∃ T', Stand p l e R s m args below meth c T' locs cells slots ∧ T'.heap = T.heap ∧ ∀ target, Steps p.tables e below (T'.setTop { g with pc := g.pc + 3, stack := .int 1 :: rest }) target → Steps p.tables e below (T.setTop g) target := by
  obtain ⟨cB, h1, D, h2, h3, h4⟩ := hE
  have h1' : s.vm.findClass C = some cB := by rw [← X.warmed.alike.findClass]; exact h1
  obtain ⟨vm', X', st⟩ := X.instanceofYes hexec hown hlink h2 h4 h1' (by rw [h3]; exact Jvm.Free.SB.assignable_self _ _) hg hstack hdg
  exact ⟨_, X', rfl, st⟩
theorem cself {p : Program} {l : Launch} {e : Env} {R : Room} {s : State} {m : MethodId} {args : Array Value} {below : List Frame} {meth : Method} {c : Code} {T : State} {locs : List Loc} {cells slots : Nat} (X : Stand p l e R s m args below meth c T locs cells slots) (hexec : p.tables.exec = Jvm.exec) {own C : String} {index : Nat} (hown : s.vm.findClass own = some m.cls) (hlink : (Cond.classLink own index C).before args s = true) {a : Addr} (hE : Exact C a T)
    {g : JFrame} (hg : g.method = m) {rest : List Value} (hstack : g.stack = .ref a :: rest) (hdg : decode c.code g.pc = .ok (.checkcast index, 3)) :
    ∃ T', Stand p l e R s m args below meth c T' locs cells slots ∧ T'.heap = T.heap ∧ ∀ target, Steps p.tables e below (T'.setTop { g with pc := g.pc + 3, stack := .ref a :: rest }) target → Steps p.tables e below (T.setTop g) target := by
  obtain ⟨cB, h1, D, h2, h3, h4⟩ := hE
  have h1' : s.vm.findClass C = some cB := by rw [← X.warmed.alike.findClass]; exact h1
  obtain ⟨vm', X', st⟩ := X.checkcastYes hexec hown hlink h2 h4 h1' (by rw [h3]; exact Jvm.Free.SB.assignable_self _ _) hg hstack hdg
  exact ⟨_, X', rfl, fun t h => st t (by rw [← hstack] at h; exact h)⟩
namespace SEq
def yN : MethodName := ⟨"java/lang/String", "equals", "(Ljava/lang/Object;)Z"⟩
abbrev yB : ByteArray := jdk_42_method_66_code
theorem d0 : decode yB 0 = .ok (.aload_n 0, 1) := by decide +kernel
theorem d1 : decode yB 1 = .ok (.aload_n 1, 1) := by decide +kernel
theorem d2 : decode yB 2 = .ok (.if_acmp (.ne) 5, 3) := by decide +kernel
theorem d5 : decode yB 5 = .ok (.iconst 1, 1) := by decide +kernel
theorem d6 : decode yB 6 = .ok (.ireturn, 1) := by decide +kernel
theorem d7 : decode yB 7 = .ok (.aload_n 1, 1) := by decide +kernel
theorem d8 : decode yB 8 = .ok (.instanceof 10, 3) := by decide +kernel
theorem d11 : decode yB 11 = .ok (.ifCond (.eq) 43, 3) := by decide +kernel
theorem d14 : decode yB 14 = .ok (.aload_n 1, 1) := by decide +kernel
theorem d15 : decode yB 15 = .ok (.checkcast 10, 3) := by decide +kernel
theorem d18 : decode yB 18 = .ok (.astore_n 2, 1) := by decide +kernel
theorem d19 : decode yB 19 = .ok (.getstatic 38, 3) := by decide +kernel
theorem d22 : decode yB 22 = .ok (.ifCond (.eq) 14, 3) := by decide +kernel
theorem d25 : decode yB 25 = .ok (.aload_n 0, 1) := by decide +kernel
theorem d26 : decode yB 26 = .ok (.getfield 15, 3) := by decide +kernel
theorem d29 : decode yB 29 = .ok (.aload_n 2, 1) := by decide +kernel
theorem d30 : decode yB 30 = .ok (.getfield 15, 3) := by decide +kernel
theorem d33 : decode yB 33 = .ok (.if_icmp (.ne) 21, 3) := by decide +kernel
theorem d36 : decode yB 36 = .ok (.aload_n 0, 1) := by decide +kernel
theorem d37 : decode yB 37 = .ok (.getfield 9, 3) := by decide +kernel
theorem d40 : decode yB 40 = .ok (.aload_n 2, 1) := by decide +kernel
theorem d41 : decode yB 41 = .ok (.getfield 9, 3) := by decide +kernel
theorem d44 : decode yB 44 = .ok (.invokestatic 541, 3) := by decide +kernel
theorem d47 : decode yB 47 = .ok (.ifCond (.eq) 7, 3) := by decide +kernel
theorem d50 : decode yB 50 = .ok (.iconst 1, 1) := by decide +kernel
theorem d51 : decode yB 51 = .ok (.goto 4, 3) := by decide +kernel
theorem d54 : decode yB 54 = .ok (.iconst 0, 1) := by decide +kernel
theorem d55 : decode yB 55 = .ok (.ireturn, 1) := by decide +kernel
def site : List Cond := [.classLink "java/lang/String" 10 "java/lang/String", .fieldLink "java/lang/String" 38 "java/lang/String" "COMPACT_STRINGS" "Z", .fieldLink "java/lang/String" 15 "java/lang/String" "coder" "B", .fieldLink "java/lang/String" 9 "java/lang/String" "value" "[B", LEq.tab] ++ staticW "java/lang/String" 541 LEq.yN
def tab : Cond := tabOf yN yB 3 (some .boolean) site
def P (x t : Addr) (V : Cell) (cd : Int32) (n : Nat) (f : Nat → Int32) (y t' : Addr) (V' : Cell) (cd' : Int32) (k : Nat) (g : Nat → Int32) (z : Int32) (args : Array Value) (s : State) : Prop := args = #[.ref x, .ref y] ∧ Txt x t V cd n f s ∧ Txt y t' V' cd' k g s ∧ StaticIs s "java/lang/String" "COMPACT_STRINGS" "Z" (.int z) ∧ ¬ z = 0
/-- equals(Object) of two Strings: whether the texts are the same -/
theorem law (l : Launch) (x t : Addr) (V : Cell) (cd : Int32) (n : Nat) (f : Nat → Int32) (y t' : Addr) (V' : Cell) (cd' : Int32) (k : Nat) (g : Nat → Int32) (z : Int32) : Law l yN 2 1 1 14 yB 3 (some .boolean) site (P x t V cd n f y t' V' cd' k g z) (Says01 (SameT n f k g)) [] 0 0 := by
  refine Law.of_walk (plainFor_of_name (by decide +kernel)) (by decide +kernel) (by decide +kernel) (by decide) (fun _ _ h => by rw [h.1]; rfl) (fun _ U U' hal hh h => ⟨h.1, h.2.1.mv hal hh, h.2.2.1.mv hal hh, h.2.2.2.1.there hal hh, h.2.2.2.2⟩) (fun r U U' V V' h1 hal h2 h => Says01.mv r U U' V V' h1 hal h2 h) ?_
  intro p e s m args below meth c s₁ X0 hexec hbytes hml hret hlk hnm hown hh0 W hP
  obtain ⟨rfl, hx, hy, s1, hz⟩ := hP
  have c1 : Steps p.tables e below (s₁.setTop (entryFrame m #[.ref x, .ref y] 3)) (s₁.setTop (mkF m 2 #[.val (.ref x), .val (.ref y), .unset] [.ref y, .ref x])) := Steps.trans (entry rfl) (by
    show Steps p.tables e below (s₁.setTop (mkF m 0 #[.val (.ref x), .val (.ref y), .unset] [])) _
    refine XS.aloadN X0.here hexec rfl (hb hbytes d0) rfl rfl ?_
    refine XS.aloadN X0.here hexec rfl (hb hbytes d1) rfl rfl ?_
    exact Steps.refl _)
  by_cases hxy : x = y
  · have c2 : Steps p.tables e below (s₁.setTop (entryFrame m #[.ref x, .ref y] 3)) (s₁.setTop (mkF m 6 #[.val (.ref x), .val (.ref y), .unset] [.int 1])) := c1.trans (by
      refine acmpNo X0.here hexec rfl (hb hbytes d2) rfl rfl rfl (by simp [acmp, hxy]) ?_
      refine iconstV X0.here hexec rfl 1 (hb hbytes d5) (by decide) ?_
      exact Steps.refl _)
    subst hxy
    have ec : cd = cd' := by
      obtain ⟨D, fd, a1, a2, a3⟩ := hx.2.2.1
      obtain ⟨D', fd', b1, b2, b3⟩ := hy.2.2.1
      cases a1.symm.trans b1
      obtain ⟨q1, q2, q3, q4⟩ := a2.1
      obtain ⟨r1, r2, r3, r4⟩ := b2.1
      cases q4.symm.trans r4
      cases a3.symm.trans b3; rfl
    have et : t = t' := by
      obtain ⟨D, fd, a1, a2, a3⟩ := hx.2.1
      obtain ⟨D', fd', b1, b2, b3⟩ := hy.2.1
      cases a1.symm.trans b1
      obtain ⟨q1, q2, q3, q4⟩ := a2.1
      obtain ⟨r1, r2, r3, r4⟩ := b2.1
      cases q4.symm.trans r4
      cases a3.symm.trans b3; rfl
    subst ec et
    have ev : V = V' := by cases hx.2.2.2.1.1.symm.trans hy.2.2.2.1.1; rfl
    subst ev
    have hs : SameT n f k g := (Cod.eqv hx.2.2.2.2.1 hy.2.2.2.2.1 hx.2.2.2.2.2 hy.2.2.2.2.2).mp ⟨rfl, fun _ _ => rfl⟩
    exact ⟨s₁, some (.int 1), _, _, _, X0, rfl, rfl, rfl, (fun h => by cases h), ⟨1, rfl, hh0, Or.inl ⟨rfl, hs⟩⟩, fun fs hl => c2.trans (X0.ireturnOut hexec hret rfl (Or.inr (Or.inl rfl)) (hb hbytes d6) hl)⟩
  · have c2 : Steps p.tables e below (s₁.setTop (entryFrame m #[.ref x, .ref y] 3)) (s₁.setTop (mkF m 8 #[.val (.ref x), .val (.ref y), .unset] [.ref y])) := c1.trans (by
      refine acmpYes X0.here hexec rfl (pc0 := 2) rfl (hb hbytes d2) rfl rfl rfl (by simp [acmp, hxy]) (by decide) rfl ?_
      refine XS.aloadN X0.here hexec rfl (hb hbytes d7) rfl rfl ?_
      exact Steps.refl _)
    obtain ⟨T3, X3, q3, st3⟩ := cinst X0 hexec hown (wk W (.classLink "java/lang/String" 10 "java/lang/String")) (hy.mv X0.warmed.alike hh0).1 (g := (mkF m 8 #[.val (.ref x), .val (.ref y), .unset] [.ref y])) rfl (rest := []) rfl (hb hbytes d8)
    have hh3 := q3.trans hh0
    have c4 : Steps p.tables e below (s₁.setTop (entryFrame m #[.ref x, .ref y] 3)) (T3.setTop (mkF m 15 #[.val (.ref x), .val (.ref y), .unset] [.ref y])) := (c2.trans (st3 _ (Steps.refl _))).trans (by
      refine XS.ifNo X3.here hexec rfl (hb hbytes d11) rfl (i0_eq_f (by decide)) ?_
      refine XS.aloadN X3.here hexec rfl (hb hbytes d14) rfl rfl ?_
      exact Steps.refl _)
    obtain ⟨T5, X5, q5, st5⟩ := cself X3 hexec hown (wk W (.classLink "java/lang/String" 10 "java/lang/String")) (hy.mv X3.warmed.alike hh3).1 (g := (mkF m 15 #[.val (.ref x), .val (.ref y), .unset] [.ref y])) rfl (rest := []) rfl (hb hbytes d15)
    have hh5 := q5.trans hh3
    have c6 : Steps p.tables e below (s₁.setTop (entryFrame m #[.ref x, .ref y] 3)) (T5.setTop (mkF m 19 #[.val (.ref x), .val (.ref y), .val (.ref y)] [])) := (c4.trans (st5 _ (Steps.refl _))).trans (by
      refine XS.astoreN X5.here hexec rfl (hb hbytes d18) rfl rfl rfl ?_
      exact Steps.refl _)
    obtain ⟨T7, X7, q7, st7⟩ := X5.sget hexec hown (wk W (.fieldLink "java/lang/String" 38 "java/lang/String" "COMPACT_STRINGS" "Z")) s1 (fun _ _ h => by rw [hh5]; exact h) (g := (mkF m 19 #[.val (.ref x), .val (.ref y), .val (.ref y)] [])) rfl (hb hbytes d19)
    have hh7 := q7.trans hh5
    have c8 : Steps p.tables e below (s₁.setTop (entryFrame m #[.ref x, .ref y] 3)) (T7.setTop (mkF m 26 #[.val (.ref x), .val (.ref y), .val (.ref y)] [.ref x])) := (c6.trans (st7 _ (Steps.refl _))).trans (by
      refine XS.ifNo X7.here hexec rfl (hb hbytes d22) rfl (i0_eq_f hz) ?_
      refine XS.aloadN X7.here hexec rfl (hb hbytes d25) rfl rfl ?_
      exact Steps.refl _)
    obtain ⟨T9, X9, q9, st9⟩ := X7.hget hexec hown (wk W (.fieldLink "java/lang/String" 15 "java/lang/String" "coder" "B")) (hx.mv X7.warmed.alike hh7).2.2.1 (g := (mkF m 26 #[.val (.ref x), .val (.ref y), .val (.ref y)] [.ref x])) rfl (rest := []) rfl (hb hbytes d26)
    have hh9 := q9.trans hh7
    have c10 : Steps p.tables e below (s₁.setTop (entryFrame m #[.ref x, .ref y] 3)) (T9.setTop (mkF m 30 #[.val (.ref x), .val (.ref y), .val (.ref y)] [.ref y, .int cd])) := (c8.trans (st9 _ (Steps.refl _))).trans (by
      refine XS.aloadN X9.here hexec rfl (hb hbytes d29) rfl rfl ?_
      exact Steps.refl _)
    obtain ⟨T11, X11, q11, st11⟩ := X9.hget hexec hown (wk W (.fieldLink "java/lang/String" 15 "java/lang/String" "coder" "B")) (hy.mv X9.warmed.alike hh9).2.2.1 (g := (mkF m 30 #[.val (.ref x), .val (.ref y), .val (.ref y)] [.ref y, .int cd])) rfl (rest := [.int cd]) rfl (hb hbytes d30)
    have hh11 := q11.trans hh9
    have c12 : Steps p.tables e below (s₁.setTop (entryFrame m #[.ref x, .ref y] 3)) (T11.setTop (mkF m 33 #[.val (.ref x), .val (.ref y), .val (.ref y)] [.int cd', .int cd])) := c10.trans (st11 _ (Steps.refl _))
    by_cases hcd : cd = cd'
    · subst hcd
      have c13 : Steps p.tables e below (s₁.setTop (entryFrame m #[.ref x, .ref y] 3)) (T11.setTop (mkF m 37 #[.val (.ref x), .val (.ref y), .val (.ref y)] [.ref x])) := c12.trans (by
        refine XS.icmpNo X11.here hexec rfl (hb hbytes d33) rfl (ii_ne_f rfl) ?_
        refine XS.aloadN X11.here hexec rfl (hb hbytes d36) rfl rfl ?_
        exact Steps.refl _)
      obtain ⟨T14, X14, q14, st14⟩ := X11.hget hexec hown (wk W (.fieldLink "java/lang/String" 9 "java/lang/String" "value" "[B")) (hx.mv X11.warmed.alike hh11).2.1 (g := (mkF m 37 #[.val (.ref x), .val (.ref y), .val (.ref y)] [.ref x])) rfl (rest := []) rfl (hb hbytes d37)
      have hh14 := q14.trans hh11
      have c15 : Steps p.tables e below (s₁.setTop (entryFrame m #[.ref x, .ref y] 3)) (T14.setTop (mkF m 41 #[.val (.ref x), .val (.ref y), .val (.ref y)] [.ref y, .ref t])) := (c13.trans (st14 _ (Steps.refl _))).trans (by
        refine XS.aloadN X14.here hexec rfl (hb hbytes d40) rfl rfl ?_
        exact Steps.refl _)
      obtain ⟨T16, X16, q16, st16⟩ := X14.hget hexec hown (wk W (.fieldLink "java/lang/String" 9 "java/lang/String" "value" "[B")) (hy.mv X14.warmed.alike hh14).2.1 (g := (mkF m 41 #[.val (.ref x), .val (.ref y), .val (.ref y)] [.ref y, .ref t])) rfl (rest := [.ref t]) rfl (hb hbytes d41)
      have hh16 := q16.trans hh14
      have c17 : Steps p.tables e below (s₁.setTop (entryFrame m #[.ref x, .ref y] 3)) (T16.setTop (mkF m 44 #[.val (.ref x), .val (.ref y), .val (.ref y)] [.ref t', .ref t])) := c15.trans (st16 _ (Steps.refl _))
      obtain ⟨v18, T18, X18, E18, g18⟩ := X16.callS hexec (LEq.law l t V t' V') hown (wks W (staticW "java/lang/String" 541 LEq.yN)) (wk W LEq.tab) (W := 0) (Nat.le_of_ble_eq_true rfl) (Nat.le_of_ble_eq_true rfl) (Nat.le_refl _) (Nat.le_refl _) (g := (mkF m 44 #[.val (.ref x), .val (.ref y), .val (.ref y)] [.ref t', .ref t])) rfl (by rw [hml]; rfl) c17 (argsL := [.ref t, .ref t']) (rest := []) rfl rfl (by show 2 * 0 + 0 ≤ _; decide) (hb hbytes d44) (⟨rfl, hx.2.2.2.1.mv X16.warmed.alike hh16, hx.2.2.2.2.1.ty, hy.2.2.2.1.mv X16.warmed.alike hh16, hy.2.2.2.2.1.ty⟩)
      obtain ⟨v, rfl, q18, hv⟩ := E18
      have iff := Cod.eqv hx.2.2.2.2.1 hy.2.2.2.2.1 hx.2.2.2.2.2 hy.2.2.2.2.2
      rcases hv with ⟨rfl, he⟩ | ⟨rfl, he⟩
      · have c19 : Steps p.tables e below (s₁.setTop (entryFrame m #[.ref x, .ref y] 3)) (T18.setTop (mkF m 55 #[.val (.ref x), .val (.ref y), .val (.ref y)] [.int 1])) := Steps.trans g18 (by
          refine XS.ifNo X18.here hexec rfl (hb hbytes d47) rfl (i0_eq_f (by decide)) ?_
          refine iconstV X18.here hexec rfl 1 (hb hbytes d50) (by decide) ?_
          refine XS.goto X18.here hexec rfl (pc0 := 51) rfl (hb hbytes d51) (by decide) rfl ?_
          exact Steps.refl _)
        exact ⟨T18, some (.int 1), _, _, _, X18, rfl, rfl, rfl, (fun h => by cases h), ⟨1, rfl, q18.trans hh16, Or.inl ⟨rfl, iff.mp he⟩⟩, fun fs hl => c19.trans (X18.ireturnOut hexec hret rfl (Or.inr (Or.inl rfl)) (hb hbytes d55) hl)⟩
      · have c19 : Steps p.tables e below (s₁.setTop (entryFrame m #[.ref x, .ref y] 3)) (T18.setTop (mkF m 55 #[.val (.ref x), .val (.ref y), .val (.ref y)] [.int 0])) := Steps.trans g18 (by
          refine XS.ifYes X18.here hexec rfl (pc0 := 47) rfl (hb hbytes d47) rfl (i0_eq_t rfl) (by decide) rfl ?_
          refine iconstV X18.here hexec rfl 0 (hb hbytes d54) (by decide) ?_
          exact Steps.refl _)
        exact ⟨T18, some (.int 0), _, _, _, X18, rfl, rfl, rfl, (fun h => by cases h), ⟨0, rfl, q18.trans hh16, Or.inr ⟨rfl, fun q => he (iff.mpr q)⟩⟩, fun fs hl => c19.trans (X18.ireturnOut hexec hret rfl (Or.inr (Or.inl rfl)) (hb hbytes d55) hl)⟩
    · have c13 : Steps p.tables e below (s₁.setTop (entryFrame m #[.ref x, .ref y] 3)) (T11.setTop (mkF m 55 #[.val (.ref x), .val (.ref y), .val (.ref y)] [.int 0])) := c12.trans (by
        refine XS.icmpYes X11.here hexec rfl (pc0 := 33) rfl (hb hbytes d33) rfl (ii_ne_t hcd) (by decide) rfl ?_
        refine iconstV X11.here hexec rfl 0 (hb hbytes d54) (by decide) ?_
        exact Steps.refl _)
      exact ⟨T11, some (.int 0), _, _, _, X11, rfl, rfl, rfl, (fun h => by cases h), ⟨0, rfl, hh11, Or.inr ⟨rfl, Cod.dif hx.2.2.2.2.1 hy.2.2.2.2.1 hcd⟩⟩, fun fs hl => c13.trans (X11.ireturnOut hexec hret rfl (Or.inr (Or.inl rfl)) (hb hbytes d55) hl)⟩
theorem pays {l : Launch} {R : Room} {p : Program} {e : Env} {below : List Frame} {s : State} {sargs : Array Value} {len W : Nat} (x t : Addr) (V : Cell) (cd : Int32) (n : Nat) (f : Nat → Int32) (y t' : Addr) (V' : Cell) (cd' : Int32) (k : Nat) (g : Nat → Int32) (z : Int32) (htab : tab.before sargs s = true) (hfr : 2 ≤ R.frames) (hlo : W + 28 ≤ R.locals) :
    Back l R p e below s sargs yN len W (fun A₁ a₁ => A₁.cells + 0 ≤ R.cells ∧ A₁.slots + 0 ≤ R.slots ∧ P x t V cd n f y t' V' cd' k g z a₁ A₁.U) (fun A₁ _ v₁ B₁ => Says01 (SameT n f k g) v₁ A₁.U B₁.U ∧ B₁.locs = A₁.locs ++ [] ∧ B₁.cells = A₁.cells + 0 ∧ B₁.slots = A₁.slots + 0) :=
  (law l x t V cd n f y t' V' cd' k g z).pays htab hfr (by omega)
end SEq
end StrChars
namespace StrChars.Road
open Jvm Sem ClassFile Op Lib Jvm.Stand Jvm.Free Jvm.Free.XT
open Jvm.Lib.Cold (StaticIs)
/-- the words of String.equals(Object) -/
abbrev wordsEq : List Jvm.Cond := [.code SEq.yN SEq.yB 3 (some .boolean), .initialized ST, .classLink ST 10 ST, .fieldLink ST 38 ST "COMPACT_STRINGS" "Z", .fieldLink ST 15 ST "coder" "B", .fieldLink ST 9 ST "value" "[B", .methodLink ST 541 LEq.yN, .static LEq.yN, .code LEq.yN LEq.yB 3 (some .boolean), .initialized "java/lang/StringLatin1"]
theorem tabEq_of {a : Array Value} {s : State} (h : ∀ w ∈ wordsEq, w.before a s = true) : SEq.tab.before a s = true := by
  have hl : LEq.tab.before a s = true := unparts (wk h (.code LEq.yN LEq.yB 3 (some .boolean))) (wks h (.initialized LEq.yN.cls :: LEq.site))
  have q := consq hl h
  exact unparts (wk q (.code SEq.yN SEq.yB 3 (some .boolean))) (wks q (.initialized SEq.yN.cls :: SEq.site))
theorem movedEq {Z s : State} {a0 args : Array Value} (hZ : Z.Warmed39 s.vm) (hw : ∀ d ∈ wordsEq, d.before a0 Z = true) : ∀ d ∈ wordsEq, d.before args s = true := fun d hd => by
  have t : ∀ d ∈ wordsEq, (d.onTables && d.keepsFace) = true := by decide +kernel
  exact RoadKit.mv hZ (hw d hd) (t d hd)
/-- the road's facts of a String, as the laws ask it -/
theorem txt_of {Z U : State} {a0 : Array Value} {kI : Nat} (wi : (Jvm.Cond.instantiable ST kI).before a0 Z = true) (al : Z.vm.Alike U.vm) {x t : Addr} {kb : ClassId} {cs : List Int32} {cd N2 : Int32} {vs : List Value} (E : RoadKit.Exa Z U.heap x ST) (V : RoadKit.Fld Z U.heap x ST "value" "[B" (.ref t)) (C : RoadKit.Fld Z U.heap x ST "coder" "B" (.int cd)) (K : RoadKit.Arv Z U.heap t kb .byte N2 vs (.int 0)) (hc : CodA cs cd N2 vs) (hb : ∀ c ∈ cs, ¬ c < 0 ∧ ¬ (65535 : Int32) < c) (l2 : cs.length ≤ 4000) :
    ∃ A, Txt x t A cd cs.length (fun j => cs.getD j 0) U := by
  obtain ⟨A, K1, K2, K3, K4, K5, K6⟩ := K
  have hcod := hc.cod (by omega) K3 K5
  obtain ⟨D, fV, fC, hB, F1, F2, g1, g2, -, -⟩ := strObj wi al E V C
  exact ⟨A, ⟨_, hB.2.2.1, D, hB.1, rfl, by cases q : D.vm <;> first | rfl | exact absurd q (hB.2.1.2 _)⟩, Has.of hB F1 g1, Has.of hB F2 g2, ⟨K1.1, State.isArrayOf_alike al K1.2.1, K1.2.2, by rcases hcod with ⟨-, q, -⟩ | ⟨-, q, -⟩ <;> omega⟩, hcod, fun j hj => by
    have e : cs.getD j 0 = cs[j] := by simp [List.getD_eq_getElem?_getD, hj]
    show ¬ cs.getD j 0 < 0 ∧ ¬ 65535 < cs.getD j 0
    rw [e]; exact hb _ (List.getElem_mem _)⟩
theorem same_list (cs ds : List Int32) : SameT cs.length (fun j => cs.getD j 0) ds.length (fun j => ds.getD j 0) ↔ cs = ds := by
  constructor
  · rintro ⟨e, q⟩
    refine List.ext_getElem e fun j h1 h2 => ?_
    have := q j h1
    simpa [List.getD_eq_getElem?_getD, h1, h2] using this
  · rintro rfl
    exact ⟨rfl, fun _ _ => rfl⟩
/-- **equals(Object) OF TWO SUCH STRINGS**: 1 just where the chars are the same -/
theorem eqW {p : Program} {l : Launch} {e : Env} {R : Room} {s : State} {args : Array Value} {below : List Frame} {len W : Nat} {Z : State} {a0 : Array Value} {h : Heap} (hZ : Z.Warmed39 s.vm) (hw : ∀ d ∈ wordsEq, d.before a0 Z = true) {kI : Nat} (wi : (Jvm.Cond.instantiable ST kI).before a0 Z = true)
    {x t : Addr} {kb : ClassId} {cs : List Int32} {cd N2 : Int32} {vs : List Value} (E : RoadKit.Exa Z h x ST) (V : RoadKit.Fld Z h x ST "value" "[B" (.ref t)) (C : RoadKit.Fld Z h x ST "coder" "B" (.int cd)) (K : RoadKit.Arv Z h t kb .byte N2 vs (.int 0)) (hc : CodA cs cd N2 vs) (hb : ∀ c ∈ cs, ¬ c < 0 ∧ ¬ (65535 : Int32) < c) (l2 : cs.length ≤ 4000)
    {y t' : Addr} {kb' : ClassId} {ds : List Int32} {cd' N2' : Int32} {vs' : List Value} (E' : RoadKit.Exa Z h y ST) (V' : RoadKit.Fld Z h y ST "value" "[B" (.ref t')) (C' : RoadKit.Fld Z h y ST "coder" "B" (.int cd')) (K' : RoadKit.Arv Z h t' kb' .byte N2' vs' (.int 0)) (hc' : CodA ds cd' N2' vs') (hb' : ∀ c ∈ ds, ¬ c < 0 ∧ ¬ (65535 : Int32) < c) (l2' : ds.length ≤ 4000)
    {z : Int32} (S : RoadKit.Sta Z h ST "COMPACT_STRINGS" "Z" (.int z)) (hz : ¬ z = 0) (hfr : 2 ≤ R.frames) (hlo : W + 28 ≤ R.locals) :
    Back l R p e below s args (⟨"java/lang/String", "equals", "(Ljava/lang/Object;)Z"⟩ : MethodName) len W (fun P a => a = #[.ref x, .ref y] ∧ P.U.heap = h ∧ P.cells + 0 ≤ R.cells ∧ P.slots + 0 ≤ R.slots)
      (fun P _ v B => ∃ L, (((v = some (.int 1) ∧ cs = ds) ∨ (v = some (.int 0) ∧ ¬ cs = ds)) ∧ L = [] ∧ B.U.heap = h) ∧ B.locs = P.locs ++ L ∧ B.cells = P.cells + 0 ∧ B.slots = P.slots + 0) := by
  intro m meth c P g ig mk a X hg hsize hdg hW hn hp'
  obtain ⟨rfl, rfl, r1, r2⟩ := hp'
  have al : Z.vm.Alike P.U.vm := hZ.alike.trans X.warmed.alike
  obtain ⟨A, hx⟩ := txt_of wi al E V C K hc hb l2
  obtain ⟨A', hy⟩ := txt_of wi al E' V' C' K' hc' hb' l2'
  obtain ⟨v, B, X', ⟨⟨w, hv, hh, hq⟩, hl, hk, hs⟩, st⟩ := SEq.pays x t A cd cs.length (fun j => cs.getD j 0) y t' A' cd' ds.length (fun j => ds.getD j 0) z (tabEq_of (movedEq hZ hw)) hfr hlo m meth c P g ig mk _ X hg hsize hdg hW hn ⟨r1, r2, rfl, hx, hy, sta_is al S, hz⟩
  refine ⟨v, B, X', ⟨[], ⟨?_, rfl, hh⟩, hl, hk, hs⟩, st⟩
  rcases hq with ⟨rfl, q⟩ | ⟨rfl, q⟩
  · exact Or.inl ⟨hv, (same_list cs ds).mp q⟩
  · exact Or.inr ⟨hv, fun e => q ((same_list cs ds).mpr e)⟩
end StrChars.Road
namespace StrChars
open Jvm Sem ClassFile Op Lib Jvm.Stand Jvm.Free.XT Jvm.Free.ALB Jvm.Free.JM Jvm.Free
open Jvm.Lib.Cold (StaticIs)
namespace ChN
def yN : MethodName := ⟨"java/lang/String", "charAt", "(I)C"⟩
abbrev yB : ByteArray := jdk_42_method_56_code
theorem d0 : decode yB 0 = .ok (.aload_n 0, 1) := by decide +kernel
theorem d1 : decode yB 1 = .ok (.invokevirtual 492, 3) := by decide +kernel
theorem d4 : decode yB 4 = .ok (.ifCond (.eq) 12, 3) := by decide +kernel
theorem d7 : decode yB 7 = .ok (.aload_n 0, 1) := by decide +kernel
theorem d8 : decode yB 8 = .ok (.getfield 9, 3) := by decide +kernel
theorem d11 : decode yB 11 = .ok (.iload_n 1, 1) := by decide +kernel
theorem d12 : decode yB 12 = .ok (.invokestatic 495, 3) := by decide +kernel
theorem d15 : decode yB 15 = .ok (.ireturn, 1) := by decide +kernel
def site : List Cond := [.fieldLink "java/lang/String" 9 "java/lang/String" "value" "[B", IsL.tab, LChA.tab] ++ virtW "java/lang/String" 492 "java/lang/String" IsL.yN IsL.yN ++ staticW "java/lang/String" 495 LChA.yN
def tab : Cond := tabOf yN yB 2 (some .char) site
def P (x t : Addr) (V : Cell) (n : Nat) (f : Nat → Int32) (z : Int32) (fm : Value) (i : Nat) (args : Array Value) (s : State) : Prop := args = #[.ref x, .int (Int32.ofNat i)] ∧ Txt x t V 0 n f s ∧ i < n ∧ StaticIs s "java/lang/String" "COMPACT_STRINGS" "Z" (.int z) ∧ ¬ z = 0 ∧ StaticIs s "jdk/internal/util/Preconditions" "SIOOBE_FORMATTER" "Ljava/util/function/BiFunction;" fm ∧ fm.isRef = true
def E (f : Nat → Int32) (i : Nat) (r : Option Value) (s u : State) : Prop := XT.PureE (some (.int (f i))) r s u
/-- charAt(i) of a Latin-1 String of n chars, i < n: f i -/
theorem law (l : Launch) (x t : Addr) (V : Cell) (n : Nat) (f : Nat → Int32) (z : Int32) (fm : Value) (i : Nat) : Law l yN 2 1 3 40 yB 2 (some .char) site (P x t V n f z fm i) (E f i) [] 0 0 := by
  refine Law.of_walk (plainFor_of_name (by decide +kernel)) (by decide +kernel) (by decide +kernel) (by decide) (fun _ _ h => by rw [h.1]; rfl) (fun _ U U' hal hh h => ⟨h.1, h.2.1.mv hal hh, h.2.2.1, h.2.2.2.1.there hal hh, h.2.2.2.2.1, h.2.2.2.2.2.1.there hal hh, h.2.2.2.2.2.2⟩) (fun r U U' V V' h1 hal h2 h => XT.PureE.mv r U U' V V' h1 hal h2 h) ?_
  intro p e s m args below meth c s₁ X0 hexec hbytes hml hret hlk hnm hown hh0 W hP
  obtain ⟨rfl, hx, hi, s1, hz, s3, rf⟩ := hP
  have v31 := hx.2.2.2.1.2.2.2
  have hr := hx.2.2.2.2.2 i hi
  have hx0 := hx.mv X0.warmed.alike hh0
  have c1 : Steps p.tables e below (s₁.setTop (entryFrame m #[.ref x, .int (Int32.ofNat i)] 2)) (s₁.setTop (mkF m 1 #[.val (.ref x), .val (.int (Int32.ofNat i))] [.ref x])) := Steps.trans (entry rfl) (by
    show Steps p.tables e below (s₁.setTop (mkF m 0 #[.val (.ref x), .val (.int (Int32.ofNat i))] [])) _
    refine XS.aloadN X0.here hexec rfl (hb hbytes d0) rfl rfl ?_
    exact Steps.refl _)
  obtain ⟨v2, T2, X2, E2, g2⟩ := X0.callV hexec (IsL.law l x 0 z) hown (wks W (virtW "java/lang/String" 492 "java/lang/String" IsL.yN IsL.yN)) rfl (by decide) (wk W IsL.tab) (W := 0) (Nat.le_of_ble_eq_true rfl) (Nat.le_of_ble_eq_true rfl) (Nat.le_refl _) (Nat.le_refl _) (hx0.1.fc X0.warmed.alike) hx0.1.is (g := (mkF m 1 #[.val (.ref x), .val (.int (Int32.ofNat i))] [.ref x])) rfl (by rw [hml]; rfl) c1 (argsL := []) (rest := []) rfl rfl (by show 2 * 0 + 0 ≤ _; decide) (hb hbytes d1) (⟨rfl, hx0.2.2.1, hx.2.2.2.2.1.cd, s1.there X0.warmed.alike hh0, hz⟩)
  obtain ⟨rfl, q2⟩ := E2
  have hh2 := q2.trans hh0
  have hx2 := hx.mv X2.warmed.alike hh2
  obtain ⟨-, k1, k2⟩ | ⟨k0, -⟩ := hx.2.2.2.2.1
  · have c3 : Steps p.tables e below (s₁.setTop (entryFrame m #[.ref x, .int (Int32.ofNat i)] 2)) (T2.setTop (mkF m 8 #[.val (.ref x), .val (.int (Int32.ofNat i))] [.ref x])) := Steps.trans g2 (by
      refine XS.ifNo X2.here hexec rfl (hb hbytes d4) rfl (i0_eq_f (by decide)) ?_
      refine XS.aloadN X2.here hexec rfl (hb hbytes d7) rfl rfl ?_
      exact Steps.refl _)
    obtain ⟨T4, X4, q4, st4⟩ := X2.hget hexec hown (wk W (.fieldLink "java/lang/String" 9 "java/lang/String" "value" "[B")) hx2.2.1 (g := (mkF m 8 #[.val (.ref x), .val (.int (Int32.ofNat i))] [.ref x])) rfl (rest := []) rfl (hb hbytes d8)
    have hh4 := q4.trans hh2
    have c5 : Steps p.tables e below (s₁.setTop (entryFrame m #[.ref x, .int (Int32.ofNat i)] 2)) (T4.setTop (mkF m 12 #[.val (.ref x), .val (.int (Int32.ofNat i))] [.int (Int32.ofNat i), .ref t])) := (c3.trans (st4 _ (Steps.refl _))).trans (by
      refine XS.iloadN X4.here hexec rfl (hb hbytes d11) rfl ?_
      exact Steps.refl _)
    obtain ⟨v6, T6, X6, E6, g6⟩ := X4.callS hexec (LChA.law l t V i (lo8 (f i)) fm) hown (wks W (staticW "java/lang/String" 495 LChA.yN)) (wk W LChA.tab) (W := 0) (Nat.le_of_ble_eq_true rfl) (Nat.le_of_ble_eq_true rfl) (Nat.le_refl _) (Nat.le_refl _) (g := (mkF m 12 #[.val (.ref x), .val (.int (Int32.ofNat i))] [.int (Int32.ofNat i), .ref t])) rfl (by rw [hml]; rfl) c5 (argsL := [.ref t, .int (Int32.ofNat i)]) (rest := []) rfl rfl (by show 2 * 0 + 0 ≤ _; decide) (hb hbytes d12) (⟨rfl, hx.2.2.2.1.mv X4.warmed.alike hh4, (k2 i hi).1, s3.there X4.warmed.alike hh4, rf⟩)
    obtain ⟨rfl, q6⟩ := E6
    rw [chr8_lo8 hr.1 (k2 i hi).2] at g6
    exact ⟨T6, some (.int (f i)), _, _, _, X6, rfl, rfl, rfl, (fun h => by cases h), ⟨rfl, q6.trans hh4⟩, fun fs hl => Steps.trans g6 (X6.ireturnOut hexec hret (narrow_ch hr.1 hr.2) (Or.inr (Or.inr (Or.inr (Or.inl rfl)))) (hb hbytes d15) hl)⟩
  · exact absurd k0 (by decide)
theorem pays {l : Launch} {R : Room} {p : Program} {e : Env} {below : List Frame} {s : State} {sargs : Array Value} {len W : Nat} (x t : Addr) (V : Cell) (n : Nat) (f : Nat → Int32) (z : Int32) (fm : Value) (i : Nat) (htab : tab.before sargs s = true) (hfr : 4 ≤ R.frames) (hlo : W + 53 ≤ R.locals) :
    Back l R p e below s sargs yN len W (fun A₁ a₁ => A₁.cells + 0 ≤ R.cells ∧ A₁.slots + 0 ≤ R.slots ∧ P x t V n f z fm i a₁ A₁.U) (fun A₁ _ v₁ B₁ => E f i v₁ A₁.U B₁.U ∧ B₁.locs = A₁.locs ++ [] ∧ B₁.cells = A₁.cells + 0 ∧ B₁.slots = A₁.slots + 0) :=
  (law l x t V n f z fm i).pays htab hfr (by omega)
end ChN
end StrChars
namespace StrChars.Road
open Jvm Sem ClassFile Op Lib Jvm.Stand Jvm.Free Jvm.Free.XT
open Jvm.Lib.Cold (StaticIs)
/-- the words of String.charAt(int), the Latin-1 road alone -/
abbrev wordsChN : List Jvm.Cond := [.code ChN.yN ChN.yB 2 (some .char), .initialized ST, .fieldLink ST 9 ST "value" "[B", .fieldLink ST 38 ST "COMPACT_STRINGS" "Z", .fieldLink ST 15 ST "coder" "B", .code IsL.yN IsL.yB 1 (some .boolean), .methodLink ST 492 IsL.yN, .declares IsL.yN, .selects ST IsL.yN IsL.yN, .instanceMethod IsL.yN,
  .methodLink ST 495 LChA.yN, .static LChA.yN, .code LChA.yN LChA.yB 2 (some .char), .initialized "java/lang/StringLatin1", .methodLink "java/lang/StringLatin1" 9 JO.Str_checkIndex.yN, .static JO.Str_checkIndex.yN, .code JO.Str_checkIndex.yN JO.Str_checkIndex.yB 2 none,
  .fieldLink ST 1053 "jdk/internal/util/Preconditions" "SIOOBE_FORMATTER" "Ljava/util/function/BiFunction;", .methodLink ST 1059 JC.PreCheck.yN, .static JC.PreCheck.yN, .code JC.PreCheck.yN JC.PreCheck.yB 3 (some .int), .initialized "jdk/internal/util/Preconditions"]
theorem tabChN_of {a : Array Value} {s : State} (h : ∀ w ∈ wordsChN, w.before a s = true) : ChN.tab.before a s = true := by
  have hp : JC.PreCheck.tab.before a s = true := unparts (wk h (.code JC.PreCheck.yN JC.PreCheck.yB 3 (some .int))) (wks h (.initialized JC.PreCheck.yN.cls :: JC.PreCheck.site))
  have qk := consq hp h
  have hk : JO.Str_checkIndex.tab.before a s = true := unparts (wk qk (.code JO.Str_checkIndex.yN JO.Str_checkIndex.yB 2 none)) (wks qk (.initialized JO.Str_checkIndex.yN.cls :: JO.Str_checkIndex.site))
  have ql := consq hk h
  have hl : LChA.tab.before a s = true := unparts (wk ql (.code LChA.yN LChA.yB 2 (some .char))) (wks ql (.initialized LChA.yN.cls :: LChA.site))
  have hi : IsL.tab.before a s = true := unparts (wk h (.code IsL.yN IsL.yB 1 (some .boolean))) (wks h (.initialized IsL.yN.cls :: IsL.site))
  have q := consq hi (consq hl h)
  exact unparts (wk q (.code ChN.yN ChN.yB 2 (some .char))) (wks q (.initialized ChN.yN.cls :: ChN.site))
theorem movedChN {Z s : State} {a0 args : Array Value} (hZ : Z.Warmed39 s.vm) (hw : ∀ d ∈ wordsChN, d.before a0 Z = true) : ∀ d ∈ wordsChN, d.before args s = true := fun d hd => by
  have t : ∀ d ∈ wordsChN, (d.onTables && d.keepsFace) = true := by decide +kernel
  exact RoadKit.mv hZ (hw d hd) (t d hd)
/-- **charAt(i) OF A LATIN-1 STRING**, i < n: the char -/
theorem chN {p : Program} {l : Launch} {e : Env} {R : Room} {s : State} {args : Array Value} {below : List Frame} {len W : Nat} {Z : State} {a0 : Array Value} {h : Heap} (hZ : Z.Warmed39 s.vm) (hw : ∀ d ∈ wordsChN, d.before a0 Z = true) {kI : Nat} (wi : (Jvm.Cond.instantiable ST kI).before a0 Z = true)
    {x t : Addr} {kb : ClassId} {cs : List Int32} {N2 z : Int32} {vs : List Value} {fm : Value} {i : Nat} {j : Int32} (E : RoadKit.Exa Z h x ST) (V : RoadKit.Fld Z h x ST "value" "[B" (.ref t)) (C : RoadKit.Fld Z h x ST "coder" "B" (.int 0)) (K : RoadKit.Arv Z h t kb .byte N2 vs (.int 0)) (hc : CodA cs 0 N2 vs) (hb : ∀ c ∈ cs, ¬ c < 0 ∧ ¬ (65535 : Int32) < c)
    (S : RoadKit.Sta Z h ST "COMPACT_STRINGS" "Z" (.int z)) (hz : ¬ z = 0) (F : RoadKit.Sta Z h "jdk/internal/util/Preconditions" "SIOOBE_FORMATTER" "Ljava/util/function/BiFunction;" fm) (rf : fm.isRef = true) (l2 : cs.length ≤ 4000) (hi : i < cs.length) (hj : j = Int32.ofNat i) (hfr : 4 ≤ R.frames) (hlo : W + 53 ≤ R.locals) :
    Back l R p e below s args (⟨"java/lang/String", "charAt", "(I)C"⟩ : MethodName) len W (fun P a => a = #[.ref x, .int j] ∧ P.U.heap = h ∧ P.cells + 0 ≤ R.cells ∧ P.slots + 0 ≤ R.slots)
      (fun P _ v B => ∃ L, (v = some (.int (cs.getD i 0)) ∧ L = [] ∧ B.U.heap = h) ∧ B.locs = P.locs ++ L ∧ B.cells = P.cells + 0 ∧ B.slots = P.slots + 0) := by
  subst hj
  intro m meth c P g ig mk a X hg hsize hdg hW hn hp'
  obtain ⟨rfl, rfl, r1, r2⟩ := hp'
  have al : Z.vm.Alike P.U.vm := hZ.alike.trans X.warmed.alike
  obtain ⟨A, hx⟩ := txt_of wi al E V C K hc hb l2
  obtain ⟨v, B, X', ⟨⟨hv, hh⟩, hl, hk, hs⟩, st⟩ := ChN.pays x t A cs.length (fun j => cs.getD j 0) z fm i (tabChN_of (movedChN hZ hw)) hfr hlo m meth c P g ig mk _ X hg hsize hdg hW hn ⟨r1, r2, rfl, hx, hi, sta_is al S, hz, sta_is al F, rf⟩
  exact ⟨v, B, X', ⟨[], ⟨hv, rfl, hh⟩, hl, hk, hs⟩, st⟩
/-- what backV says of its String, as the contracts of this text ask it: cs's low bytes, coder 0 -/
theorem codOf {cs : List Int32} {n : Nat} (hn : cs.length = n) (hb : ∀ c ∈ cs, ¬ 255 < c) : CodA cs 0 (Int32.ofNat n) ((cs.map lo8).map Value.int) := Or.inl ⟨rfl, by rw [hn], by simp [List.map_map, Function.comp_def], hb⟩
end StrChars.Road
end Jvm.Pilot.@@N@@

namespace Jvm.Pilot.@@N@@
open Jvm Jvm.ClassFile Sem Op Lib Jvm.Free Jvm.Stand Jvm.LawKit Jvm.RoadKit Bundle Jvm.Pilot.@@N@@.Jvm.D
section OwnKit
variable {p : Program} {l : Launch} {e : Env} {R : Room} {s : State} {m : MethodId} {args : Array Value} {below : List Frame} {meth : Method} {c : Code} {T : State} {locs : List Loc} {cells slots : Nat} {Z : State} {h : Heap}
def own_Post (Q : Option Value → Heap → List Loc → Prop) (k n : Nat) (below : List Frame) (U : State) (t : State) (o : Outcome) : Prop :=
  t.status = .running ∧ Ended t below o ∧ ∃ v L, o = .returned v ∧ Q v t.heap L ∧ FrameEnd U o t L k n
def own_Fin (tb : Tables) (e : Env) (below : List Frame) (P : State → Outcome → Prop) (t0 : State) : Prop := ∃ t o, Steps tb e below t0 t ∧ P t o
theorem own_go {tb : Tables} {P : State → Outcome → Prop} {t0 t1 : State} (st : ∀ t, Steps tb e below t1 t → Steps tb e below t0 t) (q : own_Fin tb e below P t1) : own_Fin tb e below P t0 := by
  obtain ⟨t, o, h1, h2⟩ := q
  exact ⟨t, o, st _ h1, h2⟩
theorem own_retI {x : MethodName} {S : Spec} {code : ByteArray} {mx : Nat} {rt : Option FieldType} {s₁ : State} {Q : Option Value → Heap → List Loc → Prop} {kc kn : Nat} (X : Stand p l e R s m args below meth c T locs cells slots) (hx : p.tables.exec = Jvm.exec) (Bd : BodyLoose p l x S code mx rt e s m args below meth c s₁) {pc : Nat} {Ls : Array Slot} {z : Int32} {t : FieldType} {rest : List Value} (hret : meth.sig.returnType = some t) (hn : narrow t (.int z) = .int z)
    (ht : t = .int ∨ t = .boolean ∨ t = .byte ∨ t = .char ∨ t = .short) (hd : decode c.code pc = .ok (.ireturn, 1)) (hQ : Q (some (.int z)) T.heap locs) (hc : cells ≤ kc) (hs : slots ≤ kn) : own_Fin p.tables e below (own_Post Q kc kn below s) (T.setTop (mkF m pc Ls (.int z :: rest))) := by
  obtain ⟨fs, hr, hrun, hended, hW, hsame⟩ := X.leave (v := some (.int z)) (fun h => by rw [hret] at h; cases h) Bd.notSynchronized
  exact ⟨_, _, retOut X hx hret hn (Or.inl ⟨rfl, ht, z, rfl⟩) hd hr, hrun, hended, _, _, rfl, hQ, ⟨_, rfl⟩, hW, hsame.mono hc hs⟩
theorem own_retJ {x : MethodName} {S : Spec} {code : ByteArray} {mx : Nat} {rt : Option FieldType} {s₁ : State} {Q : Option Value → Heap → List Loc → Prop} {kc kn : Nat} (X : Stand p l e R s m args below meth c T locs cells slots) (hx : p.tables.exec = Jvm.exec) (Bd : BodyLoose p l x S code mx rt e s m args below meth c s₁) {pc : Nat} {Ls : Array Slot} {z : Int64} {rest : List Value} (hret : meth.sig.returnType = some .long)
    (hd : decode c.code pc = .ok (.lreturn, 1)) (hQ : Q (some (.long z)) T.heap locs) (hc : cells ≤ kc) (hs : slots ≤ kn) : own_Fin p.tables e below (own_Post Q kc kn below s) (T.setTop (mkF m pc Ls (.long z :: rest))) := by
  obtain ⟨fs, hr, hrun, hended, hW, hsame⟩ := X.leave (v := some (.long z)) (fun h => by rw [hret] at h; cases h) Bd.notSynchronized
  exact ⟨_, _, retOut X hx hret rfl (Or.inr (Or.inl ⟨rfl, rfl, z, rfl⟩)) hd hr, hrun, hended, _, _, rfl, hQ, ⟨_, rfl⟩, hW, hsame.mono hc hs⟩
theorem own_retA {x : MethodName} {S : Spec} {code : ByteArray} {mx : Nat} {rt : Option FieldType} {s₁ : State} {Q : Option Value → Heap → List Loc → Prop} {kc kn : Nat} (X : Stand p l e R s m args below meth c T locs cells slots) (hx : p.tables.exec = Jvm.exec) (Bd : BodyLoose p l x S code mx rt e s m args below meth c s₁) {pc : Nat} {Ls : Array Slot} {w : Value} {t : FieldType} {rest : List Value} (hret : meth.sig.returnType = some t) (ht : t.isReference = true) (hw : w.isRef = true) (hn : narrow t w = w)
    (hd : decode c.code pc = .ok (.areturn, 1)) (hQ : Q (some w) T.heap locs) (hc : cells ≤ kc) (hs : slots ≤ kn) : own_Fin p.tables e below (own_Post Q kc kn below s) (T.setTop (mkF m pc Ls (w :: rest))) := by
  obtain ⟨fs, hr, hrun, hended, hW, hsame⟩ := X.leave (v := some w) (fun h => by rw [hret] at h; cases h) Bd.notSynchronized
  exact ⟨_, _, retOut X hx hret hn (Or.inr (Or.inr (Or.inr (Or.inr ⟨rfl, ht, hw⟩)))) hd hr, hrun, hended, _, _, rfl, hQ, ⟨_, rfl⟩, hW, hsame.mono hc hs⟩
theorem own_ret0 {x : MethodName} {S : Spec} {code : ByteArray} {mx : Nat} {s₁ : State} {Q : Option Value → Heap → List Loc → Prop} {kc kn : Nat} (X : Stand p l e R s m args below meth c T locs cells slots) (hx : p.tables.exec = Jvm.exec) (Bd : BodyLoose p l x S code mx none e s m args below meth c s₁) {pc : Nat} {Ls : Array Slot}
    (hd : decode c.code pc = .ok (.return_, 1)) (hQ : Q none T.heap locs) (hc : cells ≤ kc) (hs : slots ≤ kn) : own_Fin p.tables e below (own_Post Q kc kn below s) (T.setTop (mkF m pc Ls [])) := by
  obtain ⟨fs, hr, hrun, hended, hW, hsame⟩ := X.leave (v := none) (fun _ => rfl) Bd.notSynchronized
  exact ⟨_, _, X.returnOut hx Bd.returns hd hr, hrun, hended, _, _, rfl, hQ, ⟨_, rfl⟩, hW, hsame.mono hc hs⟩
theorem own_alen {a : Addr} {k : ClassId} {ty : FieldType} {n : Int32} {vs : List Value} {d : Value} (X : Stand p l e R s m args below meth c T locs cells slots) (hx : p.tables.exec = Jvm.exec) (hZ : Z.Warmed39 s.vm) (eT : T.heap = h) (V : Arv Z h a k ty n vs d) {g : JFrame} (hg : g.method = m) {rest : List Value} (hs : g.stack = .ref a :: rest) (hd : decode c.code g.pc = .ok (.arraylength, 1)) (target : State)
    (q : Steps p.tables e below (T.setTop { g with pc := g.pc + 1, stack := .int n :: rest }) target) : Steps p.tables e below (T.setTop g) target := by
  obtain ⟨cl, A, -, S, M, -, -⟩ := V
  refine X.arraylength hx (by rw [eT]; exact A.1) (State.isArrayOf_alike hZ.alike A.2.1) hg hs hd _ ?_
  rw [len_of S M]; exact q
theorem own_laload {a : Addr} {k : ClassId} {n : Int32} {vs : List Value} {d : Value} (X : Stand p l e R s m args below meth c T locs cells slots) (hx : p.tables.exec = Jvm.exec) (hZ : Z.Warmed39 s.vm) (eT : T.heap = h) (V : Arv Z h a k .long n vs d) {j : Int32} (hj : ¬ j < 0 ∧ j < n) {v : Value} (hv : vs.getD j.toNatClampNeg d = v) {g : JFrame} (hg : g.method = m) {rest : List Value} (hs : g.stack = .int j :: .ref a :: rest) (hd : decode c.code g.pc = .ok (.laload, 1)) (target : State)
    (q : Steps p.tables e below (T.setTop { g with pc := g.pc + 1, stack := v :: rest }) target) : Steps p.tables e below (T.setTop g) target := by
  obtain ⟨cl, A, -, S, M, H, -⟩ := V
  exact X.laload hx (by rw [eT]; exact A.1) (State.isArrayOf_alike hZ.alike A.2.1) A.2.2 (inb_of S hj) (Has.at H (inb_of S hj) hv) hg hs hd _ q
theorem own_iaload {a : Addr} {k : ClassId} {n : Int32} {vs : List Value} {d : Value} (X : Stand p l e R s m args below meth c T locs cells slots) (hx : p.tables.exec = Jvm.exec) (hZ : Z.Warmed39 s.vm) (eT : T.heap = h) (V : Arv Z h a k .int n vs d) {j : Int32} (hj : ¬ j < 0 ∧ j < n) {v : Value} (hv : vs.getD j.toNatClampNeg d = v) {g : JFrame} (hg : g.method = m) {rest : List Value} (hs : g.stack = .int j :: .ref a :: rest) (hd : decode c.code g.pc = .ok (.iaload, 1)) (target : State)
    (q : Steps p.tables e below (T.setTop { g with pc := g.pc + 1, stack := v :: rest }) target) : Steps p.tables e below (T.setTop g) target := by
  obtain ⟨cl, A, -, S, M, H, -⟩ := V
  exact X.iaload hx (by rw [eT]; exact A.1) (State.isArrayOf_alike hZ.alike A.2.1) A.2.2 (inb_of S hj) (Has.at H (inb_of S hj) hv) hg hs hd _ q
theorem own_caload {a : Addr} {k : ClassId} {n : Int32} {vs : List Value} {d : Value} (X : Stand p l e R s m args below meth c T locs cells slots) (hx : p.tables.exec = Jvm.exec) (hZ : Z.Warmed39 s.vm) (eT : T.heap = h) (V : Arv Z h a k .char n vs d) {j : Int32} (hj : ¬ j < 0 ∧ j < n) {v : Value} (hv : vs.getD j.toNatClampNeg d = v) {g : JFrame} (hg : g.method = m) {rest : List Value} (hs : g.stack = .int j :: .ref a :: rest) (hd : decode c.code g.pc = .ok (.caload, 1)) (target : State)
    (q : Steps p.tables e below (T.setTop { g with pc := g.pc + 1, stack := v :: rest }) target) : Steps p.tables e below (T.setTop g) target := by
  obtain ⟨cl, A, -, S, M, H, -⟩ := V
  exact X.caload hx (by rw [eT]; exact A.1) (State.isArrayOf_alike hZ.alike A.2.1) A.2.2 (inb_of S hj) (Has.at H (inb_of S hj) hv) hg hs hd _ q
theorem own_baload {a : Addr} {k : ClassId} {n : Int32} {vs : List Value} {d : Value} (X : Stand p l e R s m args below meth c T locs cells slots) (hx : p.tables.exec = Jvm.exec) (hZ : Z.Warmed39 s.vm) (eT : T.heap = h) (V : Arv Z h a k .byte n vs d) {j : Int32} (hj : ¬ j < 0 ∧ j < n) {v : Value} (hv : vs.getD j.toNatClampNeg d = v) {g : JFrame} (hg : g.method = m) {rest : List Value} (hs : g.stack = .int j :: .ref a :: rest) (hd : decode c.code g.pc = .ok (.baload, 1)) (target : State)
    (q : Steps p.tables e below (T.setTop { g with pc := g.pc + 1, stack := v :: rest }) target) : Steps p.tables e below (T.setTop g) target := by
  obtain ⟨cl, A, -, S, M, H, -⟩ := V
  exact X.baloadBytes hx (by rw [eT]; exact A.1) (State.isArrayOf_alike hZ.alike A.2.1) A.2.2 (inb_of S hj) (Has.at H (inb_of S hj) hv) hg hs hd _ q
theorem own_aaload {a : Addr} {k : ClassId} {ty : FieldType} {n : Int32} {vs : List Value} {d : Value} (X : Stand p l e R s m args below meth c T locs cells slots) (hx : p.tables.exec = Jvm.exec) (hZ : Z.Warmed39 s.vm) (eT : T.heap = h) (V : Arv Z h a k ty n vs d) {j : Int32} (hj : ¬ j < 0 ∧ j < n) {v : Value} (hr : ty.isReference = true) (hv : vs.getD j.toNatClampNeg d = v) {g : JFrame} (hg : g.method = m) {rest : List Value} (hs : g.stack = .int j :: .ref a :: rest) (hd : decode c.code g.pc = .ok (.aaload, 1)) (target : State)
    (q : Steps p.tables e below (T.setTop { g with pc := g.pc + 1, stack := v :: rest }) target) : Steps p.tables e below (T.setTop g) target := by
  obtain ⟨cl, A, -, S, M, H, -⟩ := V
  exact X.aaload hx (by rw [eT]; exact A.1) (State.isArrayOf_alike hZ.alike A.2.1) hr A.2.2 (inb_of S hj) (Has.at H (inb_of S hj) hv) hg hs hd _ q
theorem own_stJ {a : Addr} {k : ClassId} {n : Int32} {vs : List Value} {d : Value} (X : Stand p l e R s m args below meth c T locs cells slots) (hx : p.tables.exec = Jvm.exec) (hZ : Z.Warmed39 s.vm) (eT : T.heap = h) (V : Arv Z h a k .long n vs d) {j : Int32} (hj : ¬ j < 0 ∧ j < n) {i : Nat} (hji : j.toNatClampNeg = i) (hi : i < vs.length) {x : Int64} {g : JFrame} (hg : g.method = m) {rest : List Value} (hs : g.stack = .long x :: .int j :: .ref a :: rest) (hd : decode c.code g.pc = .ok (.lastore, 1)) :
    ∃ T' h', Stand p l e R s m args below meth c T' (locs ++ [⟨a, j.toNatClampNeg⟩]) cells slots ∧ T'.heap = h' ∧ Wr h h' a j.toNatClampNeg (.long x) ∧ Arv Z h' a k .long n (vs.set i (.long x)) d ∧ ∀ target, Steps p.tables e below (T'.setTop { g with pc := g.pc + 1, stack := rest }) target → Steps p.tables e below (T.setTop g) target := by
  obtain ⟨cl, A, q1, S, M, H, G⟩ := V
  obtain ⟨T', h', X', e', W, st⟩ := stJ X hx hZ eT A (j := j) (inb_of S hj) hg hs hd
  exact ⟨T', h', X', e', W, Arv.set A q1 S M H G rfl W i hji hi, st⟩
theorem own_stC {a : Addr} {k : ClassId} {n : Int32} {vs : List Value} {d : Value} (X : Stand p l e R s m args below meth c T locs cells slots) (hx : p.tables.exec = Jvm.exec) (hZ : Z.Warmed39 s.vm) (eT : T.heap = h) (V : Arv Z h a k .char n vs d) {j : Int32} (hj : ¬ j < 0 ∧ j < n) {i : Nat} (hji : j.toNatClampNeg = i) (hi : i < vs.length) {x : Int32} {g : JFrame} (hg : g.method = m) {rest : List Value} (hs : g.stack = .int x :: .int j :: .ref a :: rest) (hd : decode c.code g.pc = .ok (.castore, 1)) :
    ∃ T' h', Stand p l e R s m args below meth c T' (locs ++ [⟨a, j.toNatClampNeg⟩]) cells slots ∧ T'.heap = h' ∧ Wr h h' a j.toNatClampNeg (.int (nar .char x)) ∧ Arv Z h' a k .char n (vs.set i (.int (nar .char x))) d ∧ ∀ target, Steps p.tables e below (T'.setTop { g with pc := g.pc + 1, stack := rest }) target → Steps p.tables e below (T.setTop g) target := by
  obtain ⟨cl, A, q1, S, M, H, G⟩ := V
  obtain ⟨T', h', X', e', W, st⟩ := stC X hx hZ eT A (j := j) (inb_of S hj) hg hs hd
  exact ⟨T', h', X', e', W, Arv.set A q1 S M H G (fits_nar_char _) W i hji hi, st⟩
theorem own_stB {a : Addr} {k : ClassId} {n : Int32} {vs : List Value} {d : Value} (X : Stand p l e R s m args below meth c T locs cells slots) (hx : p.tables.exec = Jvm.exec) (hZ : Z.Warmed39 s.vm) (eT : T.heap = h) (V : Arv Z h a k .byte n vs d) {j : Int32} (hj : ¬ j < 0 ∧ j < n) {i : Nat} (hji : j.toNatClampNeg = i) (hi : i < vs.length) {x : Int32} {g : JFrame} (hg : g.method = m) {rest : List Value} (hs : g.stack = .int x :: .int j :: .ref a :: rest) (hd : decode c.code g.pc = .ok (.bastore, 1)) :
    ∃ T' h', Stand p l e R s m args below meth c T' (locs ++ [⟨a, j.toNatClampNeg⟩]) cells slots ∧ T'.heap = h' ∧ Wr h h' a j.toNatClampNeg (.int (x.toInt8.toInt32)) ∧ Arv Z h' a k .byte n (vs.set i (.int (x.toInt8.toInt32))) d ∧ ∀ target, Steps p.tables e below (T'.setTop { g with pc := g.pc + 1, stack := rest }) target → Steps p.tables e below (T.setTop g) target := by
  obtain ⟨cl, A, q1, S, M, H, G⟩ := V
  obtain ⟨T', h', X', e', W, st⟩ := stB X hx hZ eT A (j := j) (inb_of S hj) hg hs hd
  exact ⟨T', h', X', e', W, Arv.set A q1 S M H G (fits_nar_byte _) W i hji hi, st⟩
theorem own_notface {C : String} {y z y' : MethodName} (hsel : (Jvm.Cond.selects C y z).before args s = true) (hc : y'.cls = z.cls) : NotFace s y' := fun r0 h0 => by
  obtain ⟨c2, r2, m2, q1, q2, q3, q4, kP, hkP, hkPi⟩ := Cond.selects_spec hsel
  have f1 := findClass_of_methodNamed h0
  have f2 := findClass_of_methodNamed q3
  rw [hc, f2] at f1
  rw [← Option.some.inj f1]
  exact ⟨kP, hkP, hkPi⟩
end OwnKit
theorem own_up (cs : List Int32) (h : ∀ c ∈ cs, ¬ c < 0 ∧ ¬ (255 : Int32) < c) : ∀ c ∈ cs, ¬ c < 0 ∧ ¬ (65535 : Int32) < c := fun c hc => ⟨(h c hc).1, fun q => (h c hc).2 (by rw [Int32.lt_iff_toInt_lt] at q ⊢; have e1 : (65535 : Int32).toInt = 65535 := rfl; have e2 : (255 : Int32).toInt = 255 := rfl; omega)⟩
theorem own_eqv {v : Option Value} {P : Prop} (h : (v = some (.int 1) ∧ P) ∨ (v = some (.int 0) ∧ ¬ P)) : ∃ z : Int32, v = some (.int z) ∧ ((z = 1 ∧ P) ∨ (z = 0 ∧ ¬ P)) := by
  rcases h with ⟨h1, h2⟩ | ⟨h1, h2⟩
  · exact ⟨1, h1, Or.inl ⟨rfl, h2⟩⟩
  · exact ⟨0, h1, Or.inr ⟨rfl, h2⟩⟩
def own_Str (Z : State) (h : Heap) (x t : Addr) (cs : List Int32) : Prop := ∃ (k : ClassId) (N cd : Int32) (vs : List Value), Exa Z h x "java/lang/String" ∧ Fld Z h x "java/lang/String" "value" "[B" (.ref t) ∧ Fld Z h x "java/lang/String" "coder" "B" (.int cd) ∧ Arv Z h t k .byte N vs (.int 0) ∧ StrChars.Road.CodA cs cd N vs ∧ (∀ c ∈ cs, ¬ c < 0 ∧ ¬ (65535 : Int32) < c) ∧ cs.length ≤ 4000
section OwnStr
variable {Z : State} {h h' : Heap} {x t a : Addr} {cs ds : List Int32} {sl : Nat} {v : Value} {ws : List Addr}
theorem own_Str.lt (F : own_Str Z h x t cs) : x < h.size := by obtain ⟨_, _, _, _, E, -⟩ := F; exact E.lt
theorem own_Str.ltt (F : own_Str Z h x t cs) : t < h.size := by obtain ⟨_, _, _, _, -, -, -, K, -⟩ := F; exact K.lt
theorem own_Str.exa (F : own_Str Z h x t cs) : Exa Z h x "java/lang/String" := by obtain ⟨_, _, _, _, E, -⟩ := F; exact E
theorem own_Str.ext (F : own_Str Z h x t cs) (E : Ext h h') : own_Str Z h' x t cs := by obtain ⟨k, N, cd, vs, f1, f2, f3, f4, r⟩ := F; exact ⟨k, N, cd, vs, f1.ext E, f2.ext E, f3.ext E, f4.ext E, r⟩
theorem own_Str.other (F : own_Str Z h x t cs) (W : Wr h h' a sl v) (n1 : x ≠ a) (n2 : t ≠ a) : own_Str Z h' x t cs := by obtain ⟨k, N, cd, vs, f1, f2, f3, f4, r⟩ := F; exact ⟨k, N, cd, vs, f1.wr W, f2.other W (Or.inl n1), f3.other W (Or.inl n1), f4.other W n2, r⟩
theorem own_Str.keep (F : own_Str Z h x t cs) (K : Keep h h' ws) (n1 : x ∉ ws) (n2 : t ∉ ws) : own_Str Z h' x t cs := by obtain ⟨k, N, cd, vs, f1, f2, f3, f4, r⟩ := F; exact ⟨k, N, cd, vs, f1.keep K, f2.keep K n1, f3.keep K n1, f4.keep K n2, r⟩
end OwnStr
theorem own_eqB {p : Program} {l : Launch} {e : Env} {R : Room} {s : State} {args : Array Value} {below : List Frame} {len W : Nat} {Z : State} {a0 : Array Value} {h : Heap} (hZ : Z.Warmed39 s.vm) (hw : ∀ d ∈ StrChars.Road.wordsEq, d.before a0 Z = true) (wi : (Jvm.Cond.instantiable "java/lang/String" 4).before a0 Z = true) {x t y t' : Addr} {cs ds : List Int32} {z : Int32} (A : own_Str Z h x t cs) (B : own_Str Z h y t' ds) (S : Sta Z h "java/lang/String" "COMPACT_STRINGS" "Z" (.int z)) (hz : ¬ z = 0) (hfr : 2 ≤ R.frames) (hlo : W + 28 ≤ R.locals) :
    Back l R p e below s args (⟨"java/lang/String", "equals", "(Ljava/lang/Object;)Z"⟩ : MethodName) len W (fun P a => a = #[.ref x, .ref y] ∧ P.U.heap = h ∧ P.cells + 0 ≤ R.cells ∧ P.slots + 0 ≤ R.slots)
      (fun P _ v B => ∃ L, (((v = some (.int 1) ∧ cs = ds) ∨ (v = some (.int 0) ∧ ¬ cs = ds)) ∧ L = [] ∧ B.U.heap = h) ∧ B.locs = P.locs ++ L ∧ B.cells = P.cells + 0 ∧ B.slots = P.slots + 0) := by
  obtain ⟨_, _, _, _, f1, f2, f3, f4, f5, f6, f7⟩ := A
  obtain ⟨_, _, _, _, g1, g2, g3, g4, g5, g6, g7⟩ := B
  exact StrChars.Road.eqW hZ hw wi f1 f2 f3 f4 f5 f6 f7 g1 g2 g3 g4 g5 g6 g7 S hz hfr hlo
section OwnKitS
variable {p : Program} {l : Launch} {e : Env} {R : Room} {s : State} {m : MethodId} {args : Array Value} {below : List Frame} {meth : Method} {c : Code} {T : State} {locs : List Loc} {cells slots : Nat} {Z : State} {h : Heap} {vm0 : Vm} {EL : List (String × Nat)} {a0 : Array Value}
def own_PostW (Z : State) (EL : List (String × Nat)) (Q : Option Value → Heap → List Loc → Prop) (k n : Nat) (below : List Frame) (U : State) (t : State) (o : Outcome) : Prop :=
  t.status = .running ∧ Ended t below o ∧ ∃ v L, o = .returned v ∧ Q v t.heap L ∧ CHr Z EL U.vm U.heap t.vm t.heap ∧ ReturnedEndW U o t L k n
theorem own_retW {x : MethodName} {S : Spec} {code : ByteArray} {mx : Nat} {rt : Option FieldType} {s₁ : State} {Q : Option Value → Heap → List Loc → Prop} {kc kn k0 : Nat} (X : Stand p l e R (s.setVm vm0) m args below meth c T locs cells slots) (hx : p.tables.exec = Jvm.exec) (Bd : BodyLoose p l x S code mx rt e s m args below meth c s₁) (hS : s.Since vm0 k0) (hk : k0 ≤ T.heap.size) {pc : Nat} {Ls : Array Slot} {w : Value} {t : FieldType} {i : Instr} {rest : List Value} (hret : meth.sig.returnType = some t) (hn : narrow t w = w)
    (hi : (i = .ireturn ∧ (t = .int ∨ t = .boolean ∨ t = .byte ∨ t = .char ∨ t = .short) ∧ ∃ z, w = .int z) ∨ (i = .lreturn ∧ t = .long ∧ ∃ z, w = .long z) ∨ (i = .dreturn ∧ t = .double ∧ ∃ z, w = .double z) ∨ (i = .freturn ∧ t = .float ∧ ∃ z, w = .float z) ∨ (i = .areturn ∧ t.isReference = true ∧ w.isRef = true))
    (hd : decode c.code pc = .ok (i, 1)) (hCR : CHr Z EL s.vm s.heap T.vm T.heap) (hQ : Q (some w) T.heap locs) (hc : cells ≤ kc) (hs : slots ≤ kn) : own_Fin p.tables e below (own_PostW Z EL Q kc kn below s) (T.setTop (mkF m pc Ls (w :: rest))) := by
  obtain ⟨fs, hr, hrun, hended, hW⟩ := X.leaveW hS hk (v := some w) (fun h => by rw [hret] at h; cases h) Bd.notSynchronized
  exact ⟨_, _, retOut X hx hret hn hi hd hr, hrun, hended, _, _, rfl, hQ, hCR, hW.1, hW.2.1, hW.2.2.1, hW.2.2.2.mono hc hs⟩
theorem own_retW0 {x : MethodName} {S : Spec} {code : ByteArray} {mx : Nat} {s₁ : State} {Q : Option Value → Heap → List Loc → Prop} {kc kn k0 : Nat} (X : Stand p l e R (s.setVm vm0) m args below meth c T locs cells slots) (hx : p.tables.exec = Jvm.exec) (Bd : BodyLoose p l x S code mx none e s m args below meth c s₁) (hS : s.Since vm0 k0) (hk : k0 ≤ T.heap.size) {pc : Nat} {Ls : Array Slot}
    (hd : decode c.code pc = .ok (.return_, 1)) (hCR : CHr Z EL s.vm s.heap T.vm T.heap) (hQ : Q none T.heap locs) (hc : cells ≤ kc) (hs : slots ≤ kn) : own_Fin p.tables e below (own_PostW Z EL Q kc kn below s) (T.setTop (mkF m pc Ls [])) := by
  obtain ⟨fs, hr, hrun, hended, hW⟩ := X.leaveW hS hk (v := none) (fun _ => rfl) Bd.notSynchronized
  exact ⟨_, _, X.returnOut hx Bd.returns hd hr, hrun, hended, _, _, rfl, hQ, hCR, hW.1, hW.2.1, hW.2.2.1, hW.2.2.2.mono hc hs⟩
theorem own_safe_null {x : Addr} (hal : Z.vm.Alike vm0) (E : Exa Z h x "java/lang/String") (F : Fld Z h x "java/lang/String" "value" "[B" .null) : Safe Z EL vm0 h x := fun B => by
  obtain ⟨cell, k, e1, e2, e3, -, -⟩ := E
  obtain ⟨p, -, u, a, -, q, -, G, rfl | rfl⟩ := B
  · cases (show h[q.sa]? = some q.sC from G.ha).symm.trans e1
    obtain ⟨cS, ⟨⟨-, -, -, ⟨c1, k1, i1, f1, -⟩, -, -, -, v1, -⟩, -⟩, -⟩ := G
    obtain ⟨cl2, cf, kf, i, f, g1, g2, -, -, -, -, g7⟩ := F
    cases (show h[q.sa]? = some q.sC from e1).symm.trans g1
    obtain ⟨k3, e4, -⟩ := State.fieldFound?_setVm (s := Z) hal g2
    have e5 := (show (Wst Z vm0 h).fieldFound? _ _ _ = _ from e4).symm.trans f1
    simp only [Option.some.injEq, Prod.mk.injEq] at e5
    rw [e5.2.2.2, v1] at g7
    simp at g7
  · cases (show h[q.sd]? = some q.SA from G.hd).symm.trans e1
    obtain ⟨cS, -, -, f, -⟩ := G
    rw [show (Wst Z vm0 h).vm = vm0 from rfl, hal.findClass] at f
    obtain ⟨k1, q1, q2⟩ := Vm.findClass_spec f
    obtain ⟨k2, q3, q4⟩ := Vm.findClass_spec e2
    cases q1.symm.trans q3
    exact absurd (q2.symm.trans q4) (by decide)
end OwnKitS
theorem own_lenB {p : Program} {l : Launch} {e : Env} {R : Room} {s : State} {args : Array Value} {below : List Frame} {len W : Nat} {Z : State} {a0 : Array Value} {h : Heap} (hZ : Z.Warmed39 s.vm) (hw : ∀ d ∈ StrChars.Road.wordsLen, d.before a0 Z = true) (wi : (Jvm.Cond.instantiable "java/lang/String" 4).before a0 Z = true) {x t : Addr} {cs : List Int32} {z : Int32} (A : own_Str Z h x t cs) (S : Sta Z h "java/lang/String" "COMPACT_STRINGS" "Z" (.int z)) (hz : ¬ z = 0) (hfr : 2 ≤ R.frames) (hlo : W + 25 ≤ R.locals) :
    Back l R p e below s args (⟨"java/lang/String", "length", "()I"⟩ : MethodName) len W (fun P a => a = #[.ref x] ∧ P.U.heap = h ∧ P.cells + 0 ≤ R.cells ∧ P.slots + 0 ≤ R.slots)
      (fun P _ v B => ∃ L, (v = some (.int (Int32.ofNat cs.length)) ∧ L = [] ∧ B.U.heap = h) ∧ B.locs = P.locs ++ L ∧ B.cells = P.cells + 0 ∧ B.slots = P.slots + 0) := by
  obtain ⟨_, _, _, _, f1, f2, f3, f4, f5, f6, f7⟩ := A
  exact StrChars.Road.lenW hZ hw wi f1 f2 f3 f4 f5 f6 S hz f7 hfr hlo
theorem own_chB {p : Program} {l : Launch} {e : Env} {R : Room} {s : State} {args : Array Value} {below : List Frame} {len W : Nat} {Z : State} {a0 : Array Value} {h : Heap} (hZ : Z.Warmed39 s.vm) (hw : ∀ d ∈ StrChars.Road.wordsChN, d.before a0 Z = true) (wi : (Jvm.Cond.instantiable "java/lang/String" 4).before a0 Z = true) {x t : Addr} {cs : List Int32} {z j : Int32} {fm : Value} {i : Nat} (A : own_Str Z h x t cs) (hl : ∀ c ∈ cs, ¬ c < 0 ∧ ¬ (255 : Int32) < c) (S : Sta Z h "java/lang/String" "COMPACT_STRINGS" "Z" (.int z)) (hz : ¬ z = 0) (F : Sta Z h "jdk/internal/util/Preconditions" "SIOOBE_FORMATTER" "Ljava/util/function/BiFunction;" fm) (rf : fm.isRef = true) (hi : i < cs.length) (hj : j = Int32.ofNat i) (hfr : 4 ≤ R.frames) (hlo : W + 53 ≤ R.locals) :
    Back l R p e below s args (⟨"java/lang/String", "charAt", "(I)C"⟩ : MethodName) len W (fun P a => a = #[.ref x, .int j] ∧ P.U.heap = h ∧ P.cells + 0 ≤ R.cells ∧ P.slots + 0 ≤ R.slots)
      (fun P _ v B => ∃ L, (v = some (.int (cs.getD i 0)) ∧ L = [] ∧ B.U.heap = h) ∧ B.locs = P.locs ++ L ∧ B.cells = P.cells + 0 ∧ B.slots = P.slots + 0) := by
  obtain ⟨_, _, cd, _, f1, f2, f3, f4, f5, f6, f7⟩ := A
  obtain rfl : cd = 0 := by
    rcases f5 with q | ⟨-, -, -, c, hc, q⟩
    · exact q.1
    · exact absurd q (hl c hc).2
  exact StrChars.Road.chN hZ hw wi f1 f2 f3 f4 f5 f6 S hz F rf f7 hi hj hfr hlo
theorem own_b8 {x : Int32} : x.toInt8.toInt32.toInt8.toInt32 = x.toInt8.toInt32 := by simp
theorem own_and255 (x : Int32) : ¬ (x &&& 255) < 0 ∧ ¬ (255 : Int32) < (x &&& 255) := by
  have t : ∀ k : Fin 256, ¬ (Int32.ofNat k.val) < 0 ∧ ¬ (255 : Int32) < Int32.ofNat k.val := by decide +kernel
  have h : (x &&& 255).toBitVec.toNat < 256 := by
    simp only [Int32.toBitVec_and, BitVec.toNat_and]
    exact Nat.lt_succ_of_le Nat.and_le_right
  have e : (x &&& 255) = Int32.ofNat (x &&& 255).toBitVec.toNat := by
    apply Int32.toBitVec_inj.mp
    show _ = BitVec.ofNat 32 _
    rw [BitVec.ofNat_toNat]; simp
  rw [e]
  exact t ⟨_, h⟩
theorem own_nar255 {x : Int32} : nar .char (x &&& 255) = x &&& 255 := i2c_mask x
theorem own_and_max (x : Int32) : 0 ≤ (x &&& 2147483647).toInt := by
  have e : (2147483647 : Int32).toBitVec.msb = false := by decide
  have h : (x &&& 2147483647).toBitVec.msb = false := by rw [Int32.toBitVec_and, BitVec.msb_and, e, Bool.and_false]
  have := BitVec.toInt_eq_toNat_of_msb h
  show 0 ≤ (x &&& 2147483647).toBitVec.toInt
  omega
theorem own_mod9 (x : Int32) : (x &&& 2147483647) % 9 = 0 ∨ (x &&& 2147483647) % 9 = 1 ∨ (x &&& 2147483647) % 9 = 2 ∨ (x &&& 2147483647) % 9 = 3 ∨ (x &&& 2147483647) % 9 = 4 ∨ (x &&& 2147483647) % 9 = 5 ∨ (x &&& 2147483647) % 9 = 6 ∨ (x &&& 2147483647) % 9 = 7 ∨ (x &&& 2147483647) % 9 = 8 := by
  have e : ((x &&& 2147483647) % 9).toInt = (x &&& 2147483647).toInt.tmod 9 := by rw [Int32.toInt_mod]; rfl
  have h0 := own_and_max x
  rw [Int.tmod_eq_emod_of_nonneg h0] at e
  simp only [← Int32.toInt_inj]
  have : (0 : Int32).toInt = 0 ∧ (1 : Int32).toInt = 1 ∧ (2 : Int32).toInt = 2 ∧ (3 : Int32).toInt = 3 ∧ (4 : Int32).toInt = 4 ∧ (5 : Int32).toInt = 5 ∧ (6 : Int32).toInt = 6 ∧ (7 : Int32).toInt = 7 ∧ (8 : Int32).toInt = 8 := by decide
  omega
theorem own_f1 {z : Int32} {PK PC : Prop} (hz : (z = 1 ∧ PK ∧ PC) ∨ (z = 0 ∧ ¬ (PK ∧ PC))) (h1 : PK) (h2 : PC) : z = 1 := hz.elim (fun q => q.1) (fun q => absurd ⟨h1, h2⟩ q.2)
theorem own_f0 {z : Int32} {PK PC : Prop} (hz : (z = 1 ∧ PK ∧ PC) ∨ (z = 0 ∧ ¬ (PK ∧ PC))) (h : ¬ (PK ∧ PC)) : z = 0 := hz.elim (fun q => absurd q.2 h) (fun q => q.1)
theorem own_fin256 {P : Int32 → Prop} (h : ∀ k : Fin 256, P (Int32.ofNat k.val)) {c : Int32} (hc : ¬ c < 0 ∧ ¬ (255 : Int32) < c) : P c := by
  have h1 : 0 ≤ c.toInt := by have := hc.1; rw [Int32.lt_iff_toInt_lt] at this; simpa using this
  have h2 : c.toInt ≤ 255 := by have := hc.2; rw [Int32.lt_iff_toInt_lt] at this; have e : (255 : Int32).toInt = 255 := rfl; omega
  have e : c = Int32.ofNat c.toInt.toNat := by
    apply Int32.toInt_inj.mp
    rw [Int32.toInt_ofNat_of_lt (by omega)]; omega
  rw [e]
  exact h ⟨c.toInt.toNat, by omega⟩
theorem own_narb {c : Int32} (hc : ¬ c < 0 ∧ ¬ (255 : Int32) < c) : nar .char c = c := own_fin256 (P := fun c => nar .char c = c) (by decide +kernel) hc
def own_mk (ln c0 c1 c2 : Int32) : List Int32 := if ln = 0 then [] else if ln = 1 then [c0] else if ln = 2 then [c0, c1] else [c0, c1, c2]
def own_same (l1 a0 a1 a2 l2 b0 b1 b2 : Int32) : Prop := l1 = l2 ∧ (l1 < 1 ∨ a0 = b0) ∧ (l1 < 2 ∨ a1 = b1) ∧ (l1 < 3 ∨ a2 = b2)
theorem own_mk_same {l1 a0 a1 a2 l2 b0 b1 b2 : Int32} (h1 : l1 = 0 ∨ l1 = 1 ∨ l1 = 2 ∨ l1 = 3) (h2 : l2 = 0 ∨ l2 = 1 ∨ l2 = 2 ∨ l2 = 3) : (own_mk l1 a0 a1 a2 = own_mk l2 b0 b1 b2) ↔ own_same l1 a0 a1 a2 l2 b0 b1 b2 := by
  rcases h1 with rfl | rfl | rfl | rfl <;> rcases h2 with rfl | rfl | rfl | rfl <;> simp [own_mk, own_same] <;> decide
theorem own_and3 (x : Int64) : (x &&& 3).toInt32 = 0 ∨ (x &&& 3).toInt32 = 1 ∨ (x &&& 3).toInt32 = 2 ∨ (x &&& 3).toInt32 = 3 := by
  have t : ∀ k : Fin 4, (Int64.ofNat k.val).toInt32 = 0 ∨ (Int64.ofNat k.val).toInt32 = 1 ∨ (Int64.ofNat k.val).toInt32 = 2 ∨ (Int64.ofNat k.val).toInt32 = 3 := by decide +kernel
  have h : (x &&& 3).toBitVec.toNat < 4 := by
    simp only [Int64.toBitVec_and, BitVec.toNat_and]
    exact Nat.lt_succ_of_le Nat.and_le_right
  have e : (x &&& 3) = Int64.ofNat (x &&& 3).toBitVec.toNat := by
    apply Int64.toBitVec_inj.mp
    show _ = BitVec.ofNat 64 _
    rw [BitVec.ofNat_toNat]; simp
  rw [e]
  exact t ⟨_, h⟩
theorem own_ch255 (x : Int64) : ¬ (x &&& 255).toInt32.toUInt32.toUInt16.toUInt32.toInt32 < 0 ∧ ¬ (255 : Int32) < (x &&& 255).toInt32.toUInt32.toUInt16.toUInt32.toInt32 := by
  have t : ∀ k : Fin 256, ¬ (Int64.ofNat k.val).toInt32.toUInt32.toUInt16.toUInt32.toInt32 < 0 ∧ ¬ (255 : Int32) < (Int64.ofNat k.val).toInt32.toUInt32.toUInt16.toUInt32.toInt32 := by decide +kernel
  have h : (x &&& 255).toBitVec.toNat < 256 := by
    simp only [Int64.toBitVec_and, BitVec.toNat_and]
    exact Nat.lt_succ_of_le Nat.and_le_right
  have e : (x &&& 255) = Int64.ofNat (x &&& 255).toBitVec.toNat := by
    apply Int64.toBitVec_inj.mp
    show _ = BitVec.ofNat 64 _
    rw [BitVec.ofNat_toNat]; simp
  rw [e]
  exact t ⟨_, h⟩
theorem own_Str.len {Z : State} {h : Heap} {x t : Addr} {cs : List Int32} (F : own_Str Z h x t cs) : cs.length ≤ 4000 := by obtain ⟨_, _, _, _, -, -, -, -, -, -, q⟩ := F; exact q
def own_isint (cs : List Int32) : Prop := cs = [73, 110, 116] ∨ cs = [105, 110, 116]
theorem own_len3 {cs : List Int32} (h4 : cs.length ≤ 4000) (h : Int32.ofNat cs.length = 3) : ∃ x y z, cs = [x, y, z] := by
  have e : cs.length = 3 := by
    have q := congrArg Int32.toInt h
    rw [Int32.toInt_ofNat_of_lt (by omega)] at q
    have : (3 : Int32).toInt = 3 := rfl
    omega
  match cs, e with
  | [x, y, z], _ => exact ⟨x, y, z, rfl⟩
theorem pn_0 : plainName "java/lang/String" = true := by first | (simp [plainName, overriddenIn]; done) | decide +kernel
theorem d4_0 : decode jdk_42_method_149_code 0 = .ok (.aload_n 0, 1) := by decide +kernel
theorem d4_1 : decode jdk_42_method_149_code 1 = .ok (.invokespecial 1, 3) := by decide +kernel
theorem d4_4 : decode jdk_42_method_149_code 4 = .ok (.iload_n 3, 1) := by decide +kernel
theorem d4_5 : decode jdk_42_method_149_code 5 = .ok (.ifCond .ne 22, 3) := by decide +kernel
theorem d4_8 : decode jdk_42_method_149_code 8 = .ok (.aload_n 0, 1) := by decide +kernel
theorem d4_9 : decode jdk_42_method_149_code 9 = .ok (.ldc 7, 2) := by decide +kernel
theorem d4_11 : decode jdk_42_method_149_code 11 = .ok (.getfield 9, 3) := by decide +kernel
theorem d4_14 : decode jdk_42_method_149_code 14 = .ok (.putfield 9, 3) := by decide +kernel
theorem d4_17 : decode jdk_42_method_149_code 17 = .ok (.aload_n 0, 1) := by decide +kernel
theorem d4_18 : decode jdk_42_method_149_code 18 = .ok (.ldc 7, 2) := by decide +kernel
theorem d4_20 : decode jdk_42_method_149_code 20 = .ok (.getfield 15, 3) := by decide +kernel
theorem d4_23 : decode jdk_42_method_149_code 23 = .ok (.putfield 15, 3) := by decide +kernel
theorem d4_26 : decode jdk_42_method_149_code 26 = .ok (.return_, 1) := by decide +kernel
theorem d3_0 : decode jdk_42_method_3_code 0 = .ok (.aload_n 0, 1) := by decide +kernel
theorem d3_1 : decode jdk_42_method_3_code 1 = .ok (.aload_n 1, 1) := by decide +kernel
theorem d3_2 : decode jdk_42_method_3_code 2 = .ok (.iconst 0, 1) := by decide +kernel
theorem d3_3 : decode jdk_42_method_3_code 3 = .ok (.aload_n 1, 1) := by decide +kernel
theorem d3_4 : decode jdk_42_method_3_code 4 = .ok (.arraylength, 1) := by decide +kernel
theorem d3_5 : decode jdk_42_method_3_code 5 = .ok (.aconst_null, 1) := by decide +kernel
theorem d3_6 : decode jdk_42_method_3_code 6 = .ok (.invokespecial 27, 3) := by decide +kernel
theorem pd_1 : parseMethodDescriptor "([CIILjava/lang/Void;)V" = some ⟨[(.array .char), .int, .int, (.object "java/lang/Void")], none⟩ := by decide +kernel
theorem d3_9 : decode jdk_42_method_3_code 9 = .ok (.return_, 1) := by decide +kernel
theorem pn_2 : plainName "java/lang/Record" = true := by first | (simp [plainName, overriddenIn]; done) | decide +kernel
theorem d7_0 : decode jdk_30_method_1_code 0 = .ok (.aload_n 0, 1) := by decide +kernel
theorem d7_1 : decode jdk_30_method_1_code 1 = .ok (.invokespecial 1, 3) := by decide +kernel
theorem d7_4 : decode jdk_30_method_1_code 4 = .ok (.return_, 1) := by decide +kernel
theorem pn_3 : plainName "com/example/obra/obra/Token" = true := by first | (simp [plainName, overriddenIn]; done) | decide +kernel
theorem d6_0 : decode prog_84_method_1_code 0 = .ok (.aload_n 0, 1) := by decide +kernel
theorem d6_1 : decode prog_84_method_1_code 1 = .ok (.invokespecial 1, 3) := by decide +kernel
theorem pd_4 : parseMethodDescriptor "()V" = some ⟨[], none⟩ := by decide +kernel
theorem d6_4 : decode prog_84_method_1_code 4 = .ok (.aload_n 0, 1) := by decide +kernel
theorem d6_5 : decode prog_84_method_1_code 5 = .ok (.aload_n 1, 1) := by decide +kernel
theorem d6_6 : decode prog_84_method_1_code 6 = .ok (.putfield 7, 3) := by decide +kernel
theorem d6_9 : decode prog_84_method_1_code 9 = .ok (.aload_n 0, 1) := by decide +kernel
theorem d6_10 : decode prog_84_method_1_code 10 = .ok (.aload_n 2, 1) := by decide +kernel
theorem d6_11 : decode prog_84_method_1_code 11 = .ok (.putfield 13, 3) := by decide +kernel
theorem d6_14 : decode prog_84_method_1_code 14 = .ok (.aload_n 0, 1) := by decide +kernel
theorem d6_15 : decode prog_84_method_1_code 15 = .ok (.iload_n 3, 1) := by decide +kernel
theorem d6_16 : decode prog_84_method_1_code 16 = .ok (.putfield 17, 3) := by decide +kernel
theorem d6_19 : decode prog_84_method_1_code 19 = .ok (.aload_n 0, 1) := by decide +kernel
theorem d6_20 : decode prog_84_method_1_code 20 = .ok (.iload 4, 2) := by decide +kernel
theorem d6_22 : decode prog_84_method_1_code 22 = .ok (.putfield 21, 3) := by decide +kernel
theorem d6_25 : decode prog_84_method_1_code 25 = .ok (.return_, 1) := by decide +kernel
theorem d10_0 : decode prog_84_method_2_code 0 = .ok (.aload_n 0, 1) := by decide +kernel
theorem d10_1 : decode prog_84_method_2_code 1 = .ok (.getfield 7, 3) := by decide +kernel
theorem d10_4 : decode prog_84_method_2_code 4 = .ok (.getstatic 24, 3) := by decide +kernel
theorem d10_7 : decode prog_84_method_2_code 7 = .ok (.if_acmp .eq 13, 3) := by decide +kernel
theorem d10_20 : decode prog_84_method_2_code 20 = .ok (.aload_n 0, 1) := by decide +kernel
theorem d10_21 : decode prog_84_method_2_code 21 = .ok (.getfield 13, 3) := by decide +kernel
theorem d10_24 : decode prog_84_method_2_code 24 = .ok (.aload_n 1, 1) := by decide +kernel
theorem d10_25 : decode prog_84_method_2_code 25 = .ok (.invokevirtual 32, 3) := by decide +kernel
theorem pd_5 : parseMethodDescriptor "(Ljava/lang/Object;)Z" = some ⟨[(.object "java/lang/Object")], some .boolean⟩ := by decide +kernel
theorem d10_28 : decode prog_84_method_2_code 28 = .ok (.ifCond .eq 7, 3) := by decide +kernel
theorem d10_35 : decode prog_84_method_2_code 35 = .ok (.iconst 0, 1) := by decide +kernel
theorem d10_36 : decode prog_84_method_2_code 36 = .ok (.ireturn, 1) := by decide +kernel
theorem d10_31 : decode prog_84_method_2_code 31 = .ok (.iconst 1, 1) := by decide +kernel
theorem d10_32 : decode prog_84_method_2_code 32 = .ok (.goto 4, 3) := by decide +kernel
theorem d10_10 : decode prog_84_method_2_code 10 = .ok (.aload_n 0, 1) := by decide +kernel
theorem d10_11 : decode prog_84_method_2_code 11 = .ok (.getfield 7, 3) := by decide +kernel
theorem d10_14 : decode prog_84_method_2_code 14 = .ok (.getstatic 29, 3) := by decide +kernel
theorem d10_17 : decode prog_84_method_2_code 17 = .ok (.if_acmp .ne 18, 3) := by decide +kernel
theorem pn_6 : plainName "com/example/obra/obra/TypeScopeIsBitwidthPinLaw" = true := by first | (simp [plainName, overriddenIn]; done) | decide +kernel
theorem d1_0 : decode method_3_code 0 = .ok (.iload_n 0, 1) := by decide +kernel
theorem d1_1 : decode method_3_code 1 = .ok (.ifCond .ne 7, 3) := by decide +kernel
theorem d1_4 : decode method_3_code 4 = .ok (.getstatic 45, 3) := by decide +kernel
theorem d1_7 : decode method_3_code 7 = .ok (.areturn, 1) := by decide +kernel
theorem d1_8 : decode method_3_code 8 = .ok (.iload_n 0, 1) := by decide +kernel
theorem d1_9 : decode method_3_code 9 = .ok (.iconst 1, 1) := by decide +kernel
theorem d1_10 : decode method_3_code 10 = .ok (.if_icmp .ne 7, 3) := by decide +kernel
theorem d1_13 : decode method_3_code 13 = .ok (.getstatic 28, 3) := by decide +kernel
theorem d1_16 : decode method_3_code 16 = .ok (.areturn, 1) := by decide +kernel
theorem d1_17 : decode method_3_code 17 = .ok (.iload_n 0, 1) := by decide +kernel
theorem d1_18 : decode method_3_code 18 = .ok (.iconst 2, 1) := by decide +kernel
theorem d1_19 : decode method_3_code 19 = .ok (.if_icmp .ne 7, 3) := by decide +kernel
theorem d1_22 : decode method_3_code 22 = .ok (.getstatic 48, 3) := by decide +kernel
theorem d1_25 : decode method_3_code 25 = .ok (.areturn, 1) := by decide +kernel
theorem d1_26 : decode method_3_code 26 = .ok (.iload_n 0, 1) := by decide +kernel
theorem d1_27 : decode method_3_code 27 = .ok (.iconst 3, 1) := by decide +kernel
theorem d1_28 : decode method_3_code 28 = .ok (.if_icmp .ne 7, 3) := by decide +kernel
theorem d1_31 : decode method_3_code 31 = .ok (.getstatic 34, 3) := by decide +kernel
theorem d1_34 : decode method_3_code 34 = .ok (.areturn, 1) := by decide +kernel
theorem d1_35 : decode method_3_code 35 = .ok (.getstatic 51, 3) := by decide +kernel
theorem d1_38 : decode method_3_code 38 = .ok (.areturn, 1) := by decide +kernel
theorem d2_0 : decode method_4_code 0 = .ok (.iload_n 0, 1) := by decide +kernel
theorem d2_1 : decode method_4_code 1 = .ok (.iconst 3, 1) := by decide +kernel
theorem d2_2 : decode method_4_code 2 = .ok (.iand, 1) := by decide +kernel
theorem d2_3 : decode method_4_code 3 = .ok (.istore_n 2, 1) := by decide +kernel
theorem d2_4 : decode method_4_code 4 = .ok (.iload_n 2, 1) := by decide +kernel
theorem d2_5 : decode method_4_code 5 = .ok (.ifCond .ne 6, 3) := by decide +kernel
theorem d2_8 : decode method_4_code 8 = .ok (.ldc 54, 2) := by decide +kernel
theorem d2_10 : decode method_4_code 10 = .ok (.areturn, 1) := by decide +kernel
theorem d2_11 : decode method_4_code 11 = .ok (.iload_n 2, 1) := by decide +kernel
theorem d2_12 : decode method_4_code 12 = .ok (.iconst 1, 1) := by decide +kernel
theorem d2_13 : decode method_4_code 13 = .ok (.if_icmp .ne 6, 3) := by decide +kernel
theorem d2_16 : decode method_4_code 16 = .ok (.ldc 56, 2) := by decide +kernel
theorem d2_18 : decode method_4_code 18 = .ok (.areturn, 1) := by decide +kernel
theorem d2_19 : decode method_4_code 19 = .ok (.iload_n 0, 1) := by decide +kernel
theorem d2_20 : decode method_4_code 20 = .ok (.iconst 2, 1) := by decide +kernel
theorem d2_21 : decode method_4_code 21 = .ok (.iushr, 1) := by decide +kernel
theorem d2_22 : decode method_4_code 22 = .ok (.bipush 7, 2) := by decide +kernel
theorem d2_24 : decode method_4_code 24 = .ok (.iand, 1) := by decide +kernel
theorem d2_25 : decode method_4_code 25 = .ok (.iconst 5, 1) := by decide +kernel
theorem d2_26 : decode method_4_code 26 = .ok (.irem, 1) := by decide +kernel
theorem d2_27 : decode method_4_code 27 = .ok (.istore_n 3, 1) := by decide +kernel
theorem d2_28 : decode method_4_code 28 = .ok (.iload_n 1, 1) := by decide +kernel
theorem d2_29 : decode method_4_code 29 = .ok (.sipush 255, 3) := by decide +kernel
theorem d2_32 : decode method_4_code 32 = .ok (.iand, 1) := by decide +kernel
theorem d2_33 : decode method_4_code 33 = .ok (.i2c, 1) := by decide +kernel
theorem d2_34 : decode method_4_code 34 = .ok (.istore 4, 2) := by decide +kernel
theorem d2_36 : decode method_4_code 36 = .ok (.iload_n 1, 1) := by decide +kernel
theorem d2_37 : decode method_4_code 37 = .ok (.bipush 8, 2) := by decide +kernel
theorem d2_39 : decode method_4_code 39 = .ok (.iushr, 1) := by decide +kernel
theorem d2_40 : decode method_4_code 40 = .ok (.sipush 255, 3) := by decide +kernel
theorem d2_43 : decode method_4_code 43 = .ok (.iand, 1) := by decide +kernel
theorem d2_44 : decode method_4_code 44 = .ok (.i2c, 1) := by decide +kernel
theorem d2_45 : decode method_4_code 45 = .ok (.istore 5, 2) := by decide +kernel
theorem d2_47 : decode method_4_code 47 = .ok (.iload_n 1, 1) := by decide +kernel
theorem d2_48 : decode method_4_code 48 = .ok (.bipush 16, 2) := by decide +kernel
theorem d2_50 : decode method_4_code 50 = .ok (.iushr, 1) := by decide +kernel
theorem d2_51 : decode method_4_code 51 = .ok (.sipush 255, 3) := by decide +kernel
theorem d2_54 : decode method_4_code 54 = .ok (.iand, 1) := by decide +kernel
theorem d2_55 : decode method_4_code 55 = .ok (.i2c, 1) := by decide +kernel
theorem d2_56 : decode method_4_code 56 = .ok (.istore 6, 2) := by decide +kernel
theorem d2_58 : decode method_4_code 58 = .ok (.iload_n 1, 1) := by decide +kernel
theorem d2_59 : decode method_4_code 59 = .ok (.bipush 24, 2) := by decide +kernel
theorem d2_61 : decode method_4_code 61 = .ok (.iushr, 1) := by decide +kernel
theorem d2_62 : decode method_4_code 62 = .ok (.sipush 255, 3) := by decide +kernel
theorem d2_65 : decode method_4_code 65 = .ok (.iand, 1) := by decide +kernel
theorem d2_66 : decode method_4_code 66 = .ok (.i2c, 1) := by decide +kernel
theorem d2_67 : decode method_4_code 67 = .ok (.istore 7, 2) := by decide +kernel
theorem d2_69 : decode method_4_code 69 = .ok (.iload_n 3, 1) := by decide +kernel
theorem d2_70 : decode method_4_code 70 = .ok (.ifCond .ne 14, 3) := by decide +kernel
theorem d2_73 : decode method_4_code 73 = .ok (.new 58, 3) := by decide +kernel
theorem d2_76 : decode method_4_code 76 = .ok (.dup, 1) := by decide +kernel
theorem d2_77 : decode method_4_code 77 = .ok (.iconst 0, 1) := by decide +kernel
theorem d2_78 : decode method_4_code 78 = .ok (.newarray .char, 2) := by decide +kernel
theorem d2_80 : decode method_4_code 80 = .ok (.invokespecial 60, 3) := by decide +kernel
theorem pd_7 : parseMethodDescriptor "([C)V" = some ⟨[(.array .char)], none⟩ := by decide +kernel
theorem d2_83 : decode method_4_code 83 = .ok (.areturn, 1) := by decide +kernel
theorem d2_84 : decode method_4_code 84 = .ok (.iload_n 3, 1) := by decide +kernel
theorem d2_85 : decode method_4_code 85 = .ok (.iconst 1, 1) := by decide +kernel
theorem d2_86 : decode method_4_code 86 = .ok (.if_icmp .ne 19, 3) := by decide +kernel
theorem d2_89 : decode method_4_code 89 = .ok (.new 58, 3) := by decide +kernel
theorem d2_92 : decode method_4_code 92 = .ok (.dup, 1) := by decide +kernel
theorem d2_93 : decode method_4_code 93 = .ok (.iconst 1, 1) := by decide +kernel
theorem d2_94 : decode method_4_code 94 = .ok (.newarray .char, 2) := by decide +kernel
theorem d2_96 : decode method_4_code 96 = .ok (.dup, 1) := by decide +kernel
theorem d2_97 : decode method_4_code 97 = .ok (.iconst 0, 1) := by decide +kernel
theorem d2_98 : decode method_4_code 98 = .ok (.iload 4, 2) := by decide +kernel
theorem d2_100 : decode method_4_code 100 = .ok (.castore, 1) := by decide +kernel
theorem d2_101 : decode method_4_code 101 = .ok (.invokespecial 60, 3) := by decide +kernel
theorem d2_104 : decode method_4_code 104 = .ok (.areturn, 1) := by decide +kernel
theorem d2_105 : decode method_4_code 105 = .ok (.iload_n 3, 1) := by decide +kernel
theorem d2_106 : decode method_4_code 106 = .ok (.iconst 2, 1) := by decide +kernel
theorem d2_107 : decode method_4_code 107 = .ok (.if_icmp .ne 24, 3) := by decide +kernel
theorem d2_110 : decode method_4_code 110 = .ok (.new 58, 3) := by decide +kernel
theorem d2_113 : decode method_4_code 113 = .ok (.dup, 1) := by decide +kernel
theorem d2_114 : decode method_4_code 114 = .ok (.iconst 2, 1) := by decide +kernel
theorem d2_115 : decode method_4_code 115 = .ok (.newarray .char, 2) := by decide +kernel
theorem d2_117 : decode method_4_code 117 = .ok (.dup, 1) := by decide +kernel
theorem d2_118 : decode method_4_code 118 = .ok (.iconst 0, 1) := by decide +kernel
theorem d2_119 : decode method_4_code 119 = .ok (.iload 4, 2) := by decide +kernel
theorem d2_121 : decode method_4_code 121 = .ok (.castore, 1) := by decide +kernel
theorem d2_122 : decode method_4_code 122 = .ok (.dup, 1) := by decide +kernel
theorem d2_123 : decode method_4_code 123 = .ok (.iconst 1, 1) := by decide +kernel
theorem d2_124 : decode method_4_code 124 = .ok (.iload 5, 2) := by decide +kernel
theorem d2_126 : decode method_4_code 126 = .ok (.castore, 1) := by decide +kernel
theorem d2_127 : decode method_4_code 127 = .ok (.invokespecial 60, 3) := by decide +kernel
theorem d2_130 : decode method_4_code 130 = .ok (.areturn, 1) := by decide +kernel
theorem d2_131 : decode method_4_code 131 = .ok (.iload_n 3, 1) := by decide +kernel
theorem d2_132 : decode method_4_code 132 = .ok (.iconst 3, 1) := by decide +kernel
theorem d2_133 : decode method_4_code 133 = .ok (.if_icmp .ne 29, 3) := by decide +kernel
theorem d2_136 : decode method_4_code 136 = .ok (.new 58, 3) := by decide +kernel
theorem d2_139 : decode method_4_code 139 = .ok (.dup, 1) := by decide +kernel
theorem d2_140 : decode method_4_code 140 = .ok (.iconst 3, 1) := by decide +kernel
theorem d2_141 : decode method_4_code 141 = .ok (.newarray .char, 2) := by decide +kernel
theorem d2_143 : decode method_4_code 143 = .ok (.dup, 1) := by decide +kernel
theorem d2_144 : decode method_4_code 144 = .ok (.iconst 0, 1) := by decide +kernel
theorem d2_145 : decode method_4_code 145 = .ok (.iload 4, 2) := by decide +kernel
theorem d2_147 : decode method_4_code 147 = .ok (.castore, 1) := by decide +kernel
theorem d2_148 : decode method_4_code 148 = .ok (.dup, 1) := by decide +kernel
theorem d2_149 : decode method_4_code 149 = .ok (.iconst 1, 1) := by decide +kernel
theorem d2_150 : decode method_4_code 150 = .ok (.iload 5, 2) := by decide +kernel
theorem d2_152 : decode method_4_code 152 = .ok (.castore, 1) := by decide +kernel
theorem d2_153 : decode method_4_code 153 = .ok (.dup, 1) := by decide +kernel
theorem d2_154 : decode method_4_code 154 = .ok (.iconst 2, 1) := by decide +kernel
theorem d2_155 : decode method_4_code 155 = .ok (.iload 6, 2) := by decide +kernel
theorem d2_157 : decode method_4_code 157 = .ok (.castore, 1) := by decide +kernel
theorem d2_158 : decode method_4_code 158 = .ok (.invokespecial 60, 3) := by decide +kernel
theorem d2_161 : decode method_4_code 161 = .ok (.areturn, 1) := by decide +kernel
theorem d2_162 : decode method_4_code 162 = .ok (.new 58, 3) := by decide +kernel
theorem d2_165 : decode method_4_code 165 = .ok (.dup, 1) := by decide +kernel
theorem d2_166 : decode method_4_code 166 = .ok (.iconst 4, 1) := by decide +kernel
theorem d2_167 : decode method_4_code 167 = .ok (.newarray .char, 2) := by decide +kernel
theorem d2_169 : decode method_4_code 169 = .ok (.dup, 1) := by decide +kernel
theorem d2_170 : decode method_4_code 170 = .ok (.iconst 0, 1) := by decide +kernel
theorem d2_171 : decode method_4_code 171 = .ok (.iload 4, 2) := by decide +kernel
theorem d2_173 : decode method_4_code 173 = .ok (.castore, 1) := by decide +kernel
theorem d2_174 : decode method_4_code 174 = .ok (.dup, 1) := by decide +kernel
theorem d2_175 : decode method_4_code 175 = .ok (.iconst 1, 1) := by decide +kernel
theorem d2_176 : decode method_4_code 176 = .ok (.iload 5, 2) := by decide +kernel
theorem d2_178 : decode method_4_code 178 = .ok (.castore, 1) := by decide +kernel
theorem d2_179 : decode method_4_code 179 = .ok (.dup, 1) := by decide +kernel
theorem d2_180 : decode method_4_code 180 = .ok (.iconst 2, 1) := by decide +kernel
theorem d2_181 : decode method_4_code 181 = .ok (.iload 6, 2) := by decide +kernel
theorem d2_183 : decode method_4_code 183 = .ok (.castore, 1) := by decide +kernel
theorem d2_184 : decode method_4_code 184 = .ok (.dup, 1) := by decide +kernel
theorem d2_185 : decode method_4_code 185 = .ok (.iconst 3, 1) := by decide +kernel
theorem d2_186 : decode method_4_code 186 = .ok (.iload 7, 2) := by decide +kernel
theorem d2_188 : decode method_4_code 188 = .ok (.castore, 1) := by decide +kernel
theorem d2_189 : decode method_4_code 189 = .ok (.invokespecial 60, 3) := by decide +kernel
theorem d2_192 : decode method_4_code 192 = .ok (.areturn, 1) := by decide +kernel
theorem d14_0 : decode method_5_code 0 = .ok (.aload_n 0, 1) := by decide +kernel
theorem d14_1 : decode method_5_code 1 = .ok (.invokevirtual 63, 3) := by decide +kernel
theorem pd_8 : parseMethodDescriptor "()I" = some ⟨[], some .int⟩ := by decide +kernel
theorem d14_4 : decode method_5_code 4 = .ok (.iconst 3, 1) := by decide +kernel
theorem d14_5 : decode method_5_code 5 = .ok (.if_icmp .eq 5, 3) := by decide +kernel
theorem d14_10 : decode method_5_code 10 = .ok (.aload_n 0, 1) := by decide +kernel
theorem d14_11 : decode method_5_code 11 = .ok (.iconst 0, 1) := by decide +kernel
theorem d14_12 : decode method_5_code 12 = .ok (.invokevirtual 67, 3) := by decide +kernel
theorem pd_9 : parseMethodDescriptor "(I)C" = some ⟨[.int], some .char⟩ := by decide +kernel
theorem d14_15 : decode method_5_code 15 = .ok (.istore_n 1, 1) := by decide +kernel
theorem d14_16 : decode method_5_code 16 = .ok (.iload_n 1, 1) := by decide +kernel
theorem d14_17 : decode method_5_code 17 = .ok (.bipush 73, 2) := by decide +kernel
theorem d14_19 : decode method_5_code 19 = .ok (.if_icmp .eq 9, 3) := by decide +kernel
theorem d14_28 : decode method_5_code 28 = .ok (.aload_n 0, 1) := by decide +kernel
theorem d14_29 : decode method_5_code 29 = .ok (.iconst 1, 1) := by decide +kernel
theorem d14_30 : decode method_5_code 30 = .ok (.invokevirtual 67, 3) := by decide +kernel
theorem d14_33 : decode method_5_code 33 = .ok (.bipush 110, 2) := by decide +kernel
theorem d14_35 : decode method_5_code 35 = .ok (.if_icmp .ne 17, 3) := by decide +kernel
theorem d14_38 : decode method_5_code 38 = .ok (.aload_n 0, 1) := by decide +kernel
theorem d14_39 : decode method_5_code 39 = .ok (.iconst 2, 1) := by decide +kernel
theorem d14_40 : decode method_5_code 40 = .ok (.invokevirtual 67, 3) := by decide +kernel
theorem d14_43 : decode method_5_code 43 = .ok (.bipush 116, 2) := by decide +kernel
theorem d14_45 : decode method_5_code 45 = .ok (.if_icmp .ne 7, 3) := by decide +kernel
theorem d14_48 : decode method_5_code 48 = .ok (.iconst 1, 1) := by decide +kernel
theorem d14_49 : decode method_5_code 49 = .ok (.goto 4, 3) := by decide +kernel
theorem d14_53 : decode method_5_code 53 = .ok (.ireturn, 1) := by decide +kernel
theorem d14_52 : decode method_5_code 52 = .ok (.iconst 0, 1) := by decide +kernel
theorem d14_22 : decode method_5_code 22 = .ok (.iload_n 1, 1) := by decide +kernel
theorem d14_23 : decode method_5_code 23 = .ok (.bipush 105, 2) := by decide +kernel
theorem d14_25 : decode method_5_code 25 = .ok (.if_icmp .ne 27, 3) := by decide +kernel
theorem d14_8 : decode method_5_code 8 = .ok (.iconst 0, 1) := by decide +kernel
theorem d14_9 : decode method_5_code 9 = .ok (.ireturn, 1) := by decide +kernel
theorem pn_10 : plainName "com/example/obra/obra/Model$TypeScope" = true := by first | (simp [plainName, overriddenIn]; done) | decide +kernel
theorem d8_0 : decode prog_55_method_1_code 0 = .ok (.aload_n 0, 1) := by decide +kernel
theorem d8_1 : decode prog_55_method_1_code 1 = .ok (.invokespecial 1, 3) := by decide +kernel
theorem d8_4 : decode prog_55_method_1_code 4 = .ok (.aload_n 0, 1) := by decide +kernel
theorem d8_5 : decode prog_55_method_1_code 5 = .ok (.iload_n 1, 1) := by decide +kernel
theorem d8_6 : decode prog_55_method_1_code 6 = .ok (.putfield 7, 3) := by decide +kernel
theorem d8_9 : decode prog_55_method_1_code 9 = .ok (.aload_n 0, 1) := by decide +kernel
theorem d8_10 : decode prog_55_method_1_code 10 = .ok (.iload_n 2, 1) := by decide +kernel
theorem d8_11 : decode prog_55_method_1_code 11 = .ok (.putfield 13, 3) := by decide +kernel
theorem d8_14 : decode prog_55_method_1_code 14 = .ok (.aload_n 0, 1) := by decide +kernel
theorem d8_15 : decode prog_55_method_1_code 15 = .ok (.aload_n 3, 1) := by decide +kernel
theorem d8_16 : decode prog_55_method_1_code 16 = .ok (.putfield 17, 3) := by decide +kernel
theorem d8_19 : decode prog_55_method_1_code 19 = .ok (.return_, 1) := by decide +kernel
theorem d9_0 : decode prog_55_method_2_code 0 = .ok (.aload_n 0, 1) := by decide +kernel
theorem d9_1 : decode prog_55_method_2_code 1 = .ok (.getfield 17, 3) := by decide +kernel
theorem d9_4 : decode prog_55_method_2_code 4 = .ok (.ldc 21, 2) := by decide +kernel
theorem d9_6 : decode prog_55_method_2_code 6 = .ok (.invokevirtual 23, 3) := by decide +kernel
theorem pd_11 : parseMethodDescriptor "(Ljava/lang/String;)Z" = some ⟨[(.object "java/lang/String")], some .boolean⟩ := by decide +kernel
theorem d9_9 : decode prog_55_method_2_code 9 = .ok (.ifCond .ne 15, 3) := by decide +kernel
theorem d9_12 : decode prog_55_method_2_code 12 = .ok (.aload_n 0, 1) := by decide +kernel
theorem d9_13 : decode prog_55_method_2_code 13 = .ok (.getfield 17, 3) := by decide +kernel
theorem d9_16 : decode prog_55_method_2_code 16 = .ok (.ldc 29, 2) := by decide +kernel
theorem d9_18 : decode prog_55_method_2_code 18 = .ok (.invokevirtual 23, 3) := by decide +kernel
theorem d9_21 : decode prog_55_method_2_code 21 = .ok (.ifCond .eq 7, 3) := by decide +kernel
theorem d9_28 : decode prog_55_method_2_code 28 = .ok (.iconst 0, 1) := by decide +kernel
theorem d9_29 : decode prog_55_method_2_code 29 = .ok (.ireturn, 1) := by decide +kernel
theorem d9_24 : decode prog_55_method_2_code 24 = .ok (.iconst 1, 1) := by decide +kernel
theorem d9_25 : decode prog_55_method_2_code 25 = .ok (.goto 4, 3) := by decide +kernel
theorem pd_12 : parseMethodDescriptor "(I)Lcom/example/obra/obra/Token$Kind;" = some ⟨[.int], some (.object "com/example/obra/obra/Token$Kind")⟩ := by decide +kernel
theorem pd_13 : parseMethodDescriptor "(II)Ljava/lang/String;" = some ⟨[.int, .int], some (.object "java/lang/String")⟩ := by decide +kernel
theorem pd_14 : parseMethodDescriptor "(Lcom/example/obra/obra/Token$Kind;Ljava/lang/String;II)V" = some ⟨[(.object "com/example/obra/obra/Token$Kind"), (.object "java/lang/String"), .int, .int], none⟩ := by decide +kernel
theorem pd_15 : parseMethodDescriptor "(ZILcom/example/obra/obra/Token;)V" = some ⟨[.boolean, .int, (.object "com/example/obra/obra/Token")], none⟩ := by decide +kernel
theorem pd_16 : parseMethodDescriptor "()Z" = some ⟨[], some .boolean⟩ := by decide +kernel
def Q_rm_ne0 (Z : State) (xx : Addr) (bb : Addr) (gc : Int32) (h0 : Heap) (n0 : Nat) (v : Option Value) (h : Heap) (L : List Loc) : Prop := v = none ∧ Fr n0 L ∧ Keep h0 h [xx] ∧ ∃ t, own_Str Z h xx t []
theorem ef_rm_ne0 (m : MethodId) (xx : Addr) (bb : Addr) (gc : Int32) : entryFrame m #[(.ref xx), (.ref bb), (.int (0 : Int32)), (.int (0 : Int32)), .null] 6 = mkF m 0 #[.val (.ref xx), .val (.ref bb), .val (.int (0 : Int32)), .val (.int (0 : Int32)), .val .null, .unset] [] := by first | (simp [entryFrame, mkF, argsToLocals, Value.category]; done) | rfl
set_option maxRecDepth 65536 in
set_option maxHeartbeats 40000000 in
theorem rm_ne0 (l : Launch) (Z : State) (a0 : Array Value) (hw : ∀ d ∈ tables_1, d.before a0 Z = true) (ws : List Jvm.Cond) (hEL : EW Z a0 consts_1) (xx : Addr) (bb : Addr) (gc : Int32) (h0 : Heap) (n0 : Nat) (Z0 : n0 ≤ h0.size) (E_xx : Exa Z h0 xx "java/lang/String") (V_xx : Fld Z h0 xx "java/lang/String" "value" "[B" .null) (C_xx : Fld Z h0 xx "java/lang/String" "coder" "B" (.int (0 : Int32))) (g_xx : n0 ≤ xx) (O0 : Old Z n0 h0) :
    MetFree l (⟨"java/lang/String", "<init>", "([CIILjava/lang/Void;)V"⟩ : MethodName) (head1 (Jvm.Cond.code (⟨"java/lang/String", "<init>", "([CIILjava/lang/Void;)V"⟩ : MethodName) jdk_42_method_149_code 6 none :: ws) ({ frames := 1, cells := 4, slots := 8, locals := 12 } : Room)) (fun a_ U_ => a_ = #[(.ref xx), (.ref bb), (.int (0 : Int32)), (.int (0 : Int32)), .null] ∧ Z.Warmed39 U_.vm ∧ U_.heap = h0 ∧ CHv Z consts_1 U_.vm h0) (fun _ _ _ _ _ => True) (fun _ U_ o_ V_ => ∃ v_ L_, o_ = .returned v_ ∧ (Q_rm_ne0 Z xx bb gc h0 n0) v_ V_.heap L_ ∧ CHr Z consts_1 U_.vm U_.heap V_.vm V_.heap ∧ ReturnedEndW U_ o_ V_ L_ ({ frames := 1, cells := 4, slots := 8, locals := 12 } : Room).cells ({ frames := 1, cells := 4, slots := 8, locals := 12 } : Room).slots) := by
  refine MetFree.of_bodySF (plainFor_of_name pn_0) hisR ?_
  intro p e s m args below meth c s₁ Bd hml0 hP hK
  obtain ⟨rfl, hZ, hh, CH⟩ := hP
  have hx := Bd.exec
  have hby := Bd.bytes
  have hml : c.maxLocals = 6 := hml0
  have hown : s.vm.findClass "java/lang/String" = some m.cls := findClass_of_methodNamed Bd.named
  have hnm := (name_of_methodNamed Bd.named Bd.method).1
  have wS : ∀ a ∈ Bundle.stringAtoms, a.before a0 Z = true := fun d hd => hw d ((by decide +kernel : ∀ d ∈ Bundle.stringAtoms, d ∈ tables_1) d hd)
  have X0 : Stand p l e ({ frames := 1, cells := 4, slots := 8, locals := 12 } : Room) (s.setVm s.vm) m #[(.ref xx), (.ref bb), (.int (0 : Int32)), (.int (0 : Int32)), .null] below meth c s₁ [] 0 0 := Stand.of_body Bd
  have e0 : s₁.heap = h0 := by rw [← hh, Bd.state]; rfl
  have N0 := Fr.nil n0
  have K0 : Keep h0 h0 [xx] := Keep.refl _ _
  replace hZ : Z.Warmed39 (s.setVm s.vm).vm := hZ
  replace hown : (s.setVm s.vm).vm.findClass "java/lang/String" = some m.cls := hown
  have hS : s.Since s.vm h0.size := (State.WarmedH.refl s).since _
  have hk : h0.size ≤ h0.size := Nat.le_refl _
  have CR : CHr Z consts_1 s.vm h0 s.vm h0 := CHr.refl CH
  show own_Fin p.tables e below (own_PostW Z consts_1 (Q_rm_ne0 Z xx bb gc h0 n0) ({ frames := 1, cells := 4, slots := 8, locals := 12 } : Room).cells ({ frames := 1, cells := 4, slots := 8, locals := 12 } : Room).slots below s) _
  refine own_go (fun _ kk_ => castTop (ef_rm_ne0 m xx bb gc) kk_) ?_
  have S_xx := own_safe_null (EL := consts_1) hZ.alike E_xx V_xx
  refine own_go (fun _ kk_ => XS.aloadN X0.here hx rfl (hb hby d4_0) rfl rfl kk_) ?_
  show own_Fin p.tables e below _ (s₁.setTop (mkF m 1 #[.val (.ref xx), .val (.ref bb), .val (.int (0 : Int32)), .val (.int (0 : Int32)), .val .null, .unset] [(.ref xx)]))
  obtain ⟨T1, X1, e1, st1⟩ := initO X0 hx hZ hown (hw _ (List.mem_of_getElem? (i := 22) rfl)) (hw _ (List.mem_of_getElem? (i := 23) rfl)) (hw _ (List.mem_of_getElem? (i := 24) rfl)) e0 (g := (mkF m 1 #[.val (.ref xx), .val (.ref bb), .val (.int (0 : Int32)), .val (.int (0 : Int32)), .val .null, .unset] [(.ref xx)])) rfl (by rw [hml]; rfl) rfl (hb hby d4_1) (by decide) (W := 0) (by show 2 * 0 + _ ≤ _; exact Nat.le_of_eq rfl) (by decide)
  refine own_go st1 ?_
  refine own_go (fun _ kk_ => XS.iloadN X1.here hx rfl (hb hby d4_4) rfl kk_) ?_
  show own_Fin p.tables e below _ (T1.setTop (mkF m 5 #[.val (.ref xx), .val (.ref bb), .val (.int (0 : Int32)), .val (.int (0 : Int32)), .val .null, .unset] [(.int (0 : Int32))]))
  refine own_go (fun _ kk_ => XS.ifNo X1.here hx rfl (hb hby d4_5) rfl ((if0 _ _).trans (teq (by decide : (0 : Int32) = (0 : Int32))).2) kk_) ?_
  refine own_go (fun _ kk_ => XS.aloadN X1.here hx rfl (hb hby d4_8) rfl rfl kk_) ?_
  show own_Fin p.tables e below _ (T1.setTop (mkF m 9 #[.val (.ref xx), .val (.ref bb), .val (.int (0 : Int32)), .val (.int (0 : Int32)), .val .null, .unset] [(.ref xx)]))
  obtain ⟨a2, T2, h2, k2, tb2, kb2, X2, e2, E2, hS, hk, hZ, hown, EA2, FC2, FV2, VB2, -, -, CR2, -, NE2, st2⟩ := ldcCH X1 hx hZ hown (hw _ (List.mem_of_getElem? (i := 25) rfl)) wS e1 hS hk hEL (by decide) CH (vs := ((([] : List Int32).map (fun c => c.toInt8.toInt32)).map Value.int)) (z := (0 : Int32)) (by exact ⟨by decide, by decide⟩) (by decide) rfl (g := (mkF m 9 #[.val (.ref xx), .val (.ref bb), .val (.int (0 : Int32)), .val (.int (0 : Int32)), .val .null, .unset] [(.ref xx)])) rfl (hb hby d4_9) (n := 0) (by decide) (by decide) (by decide) (by decide)
  replace S_xx := CR2.safe E_xx.lt S_xx
  replace CR := CR.trans CR2
  replace CH := CR2.1
  replace E_xx := E_xx.ext E2
  replace V_xx := V_xx.ext E2
  replace C_xx := C_xx.ext E2
  replace O0 := O0.ext E2
  have K3 := K0.ext E2
  have ne4 : xx ≠ a2 := (NE2 _ S_xx).1
  have ne5 : xx ≠ tb2 := (NE2 _ S_xx).2
  refine own_go st2 ?_
  show own_Fin p.tables e below _ (T2.setTop (mkF m 11 #[.val (.ref xx), .val (.ref bb), .val (.int (0 : Int32)), .val (.int (0 : Int32)), .val .null, .unset] [(.ref a2), (.ref xx)]))
  obtain ⟨T6, X6, e6, st6⟩ := getF X2 hx hZ hown (host := "") (Or.inl (hw _ (List.mem_of_getElem? (i := 31) rfl))) Via.refl e2 FV2 (g := (mkF m 11 #[.val (.ref xx), .val (.ref bb), .val (.int (0 : Int32)), .val (.int (0 : Int32)), .val .null, .unset] [(.ref a2), (.ref xx)])) rfl rfl (hb hby d4_11)
  refine own_go st6 ?_
  show own_Fin p.tables e below _ (T6.setTop (mkF m 14 #[.val (.ref xx), .val (.ref bb), .val (.int (0 : Int32)), .val (.int (0 : Int32)), .val .null, .unset] [(.ref tb2), (.ref xx)]))
  obtain ⟨T7, h7, X7, e7, W7, st7⟩ := putF X6 hx hZ hown (host := "") (Or.inl (hw _ (List.mem_of_getElem? (i := 31) rfl))) Via.refl e6 V_xx E_xx (Or.inr ⟨(hw _ (List.mem_of_getElem? (i := 27) rfl)), rfl, hnm⟩) (hw _ (List.mem_of_getElem? (i := 12) rfl)) (ty := (.array .byte)) (by decide) rfl rfl (g := (mkF m 14 #[.val (.ref xx), .val (.ref bb), .val (.int (0 : Int32)), .val (.int (0 : Int32)), .val .null, .unset] [(.ref tb2), (.ref xx)])) rfl rfl (hb hby d4_14)
  have N7 := Fr.snoc X7 N0 g_xx
  replace V_xx := V_xx.same W7
  refine own_go st7 ?_
  have sa8 := S_xx
  replace S_xx := Safe.wr W7 sa8 CH S_xx
  replace CR := CR.trans (CHr.wr W7 sa8 CH)
  replace CH := CHv.wr W7 sa8 CH
  replace hk := Nat.le_trans hk (Keep.of_wr W7).1
  replace E_xx := E_xx.wr W7
  replace C_xx := C_xx.other W7 (Or.inr (slot_ne (Or.inr (hw _ (List.mem_of_getElem? (i := 28) rfl))) (Or.inr (hw _ (List.mem_of_getElem? (i := 27) rfl))) (by decide) (t := .byte) (t' := (.array .byte)) (by decide) (by decide)))
  replace O0 := O0.wr W7 g_xx
  replace EA2 := EA2.wr W7
  replace FC2 := FC2.other W7 (Or.inl (Ne.symm ne4))
  replace FV2 := FV2.other W7 (Or.inl (Ne.symm ne4))
  replace VB2 := VB2.other W7 (Ne.symm ne5)
  have K9 := K3.wr W7 (Or.inl (by simp))
  refine own_go (fun _ kk_ => XS.aloadN X7.here hx rfl (hb hby d4_17) rfl rfl kk_) ?_
  show own_Fin p.tables e below _ (T7.setTop (mkF m 18 #[.val (.ref xx), .val (.ref bb), .val (.int (0 : Int32)), .val (.int (0 : Int32)), .val .null, .unset] [(.ref xx)]))
  obtain ⟨a10, T10, h10, k10, tb10, kb10, X10, e10, E10, hS, hk, hZ, hown, EA10, FC10, FV10, VB10, -, -, CR10, -, NE10, st10⟩ := ldcCH X7 hx hZ hown (hw _ (List.mem_of_getElem? (i := 25) rfl)) wS e7 hS hk hEL (by decide) CH (vs := ((([] : List Int32).map (fun c => c.toInt8.toInt32)).map Value.int)) (z := (0 : Int32)) (by exact ⟨by decide, by decide⟩) (by decide) rfl (g := (mkF m 18 #[.val (.ref xx), .val (.ref bb), .val (.int (0 : Int32)), .val (.int (0 : Int32)), .val .null, .unset] [(.ref xx)])) rfl (hb hby d4_18) (n := 0) (by decide) (by decide) (by decide) (by decide)
  replace S_xx := CR10.safe E_xx.lt S_xx
  replace CR := CR.trans CR10
  replace CH := CR10.1
  replace E_xx := E_xx.ext E10
  replace V_xx := V_xx.ext E10
  replace C_xx := C_xx.ext E10
  replace O0 := O0.ext E10
  replace EA2 := EA2.ext E10
  replace FC2 := FC2.ext E10
  replace FV2 := FV2.ext E10
  replace VB2 := VB2.ext E10
  have K11 := K9.ext E10
  have ne12 : xx ≠ a10 := (NE10 _ S_xx).1
  have ne13 : xx ≠ tb10 := (NE10 _ S_xx).2
  refine own_go st10 ?_
  show own_Fin p.tables e below _ (T10.setTop (mkF m 20 #[.val (.ref xx), .val (.ref bb), .val (.int (0 : Int32)), .val (.int (0 : Int32)), .val .null, .unset] [(.ref a10), (.ref xx)]))
  obtain ⟨T14, X14, e14, st14⟩ := getF X10 hx hZ hown (host := "") (Or.inl (hw _ (List.mem_of_getElem? (i := 32) rfl))) Via.refl e10 FC10 (g := (mkF m 20 #[.val (.ref xx), .val (.ref bb), .val (.int (0 : Int32)), .val (.int (0 : Int32)), .val .null, .unset] [(.ref a10), (.ref xx)])) rfl rfl (hb hby d4_20)
  refine own_go st14 ?_
  show own_Fin p.tables e below _ (T14.setTop (mkF m 23 #[.val (.ref xx), .val (.ref bb), .val (.int (0 : Int32)), .val (.int (0 : Int32)), .val .null, .unset] [(.int (0 : Int32)), (.ref xx)]))
  obtain ⟨T15, h15, X15, e15, W15, st15⟩ := putFN X14 hx hZ hown (hw _ (List.mem_of_getElem? (i := 32) rfl)) Via.refl e14 C_xx E_xx (Or.inr ⟨(hw _ (List.mem_of_getElem? (i := 28) rfl)), rfl, hnm⟩) (hw _ (List.mem_of_getElem? (i := 12) rfl)) (ty := .byte) (v' := .int (0 : Int32)) (by decide) rfl rfl (g := (mkF m 23 #[.val (.ref xx), .val (.ref bb), .val (.int (0 : Int32)), .val (.int (0 : Int32)), .val .null, .unset] [(.int (0 : Int32)), (.ref xx)])) rfl rfl (hb hby d4_23)
  have N15 := Fr.snoc X15 N7 g_xx
  replace C_xx := C_xx.same W15
  refine own_go st15 ?_
  have sa16 := S_xx
  replace S_xx := Safe.wr W15 sa16 CH S_xx
  replace CR := CR.trans (CHr.wr W15 sa16 CH)
  replace CH := CHv.wr W15 sa16 CH
  replace hk := Nat.le_trans hk (Keep.of_wr W15).1
  replace E_xx := E_xx.wr W15
  replace V_xx := V_xx.other W15 (Or.inr (slot_ne (Or.inr (hw _ (List.mem_of_getElem? (i := 27) rfl))) (Or.inr (hw _ (List.mem_of_getElem? (i := 28) rfl))) (by decide) (t := (.array .byte)) (t' := .byte) (by decide) (by decide)))
  replace O0 := O0.wr W15 g_xx
  replace EA2 := EA2.wr W15
  replace FC2 := FC2.other W15 (Or.inl (Ne.symm ne4))
  replace FV2 := FV2.other W15 (Or.inl (Ne.symm ne4))
  replace VB2 := VB2.other W15 (Ne.symm ne5)
  replace EA10 := EA10.wr W15
  replace FC10 := FC10.other W15 (Or.inl (Ne.symm ne12))
  replace FV10 := FV10.other W15 (Or.inl (Ne.symm ne12))
  replace VB10 := VB10.other W15 (Ne.symm ne13)
  have K17 := K11.wr W15 (Or.inl (by simp))
  show own_Fin p.tables e below _ (T15.setTop (mkF m 26 #[.val (.ref xx), .val (.ref bb), .val (.int (0 : Int32)), .val (.int (0 : Int32)), .val .null, .unset] []))
  have CRz : CHr Z consts_1 s.vm s.heap T15.vm T15.heap := by
    rw [hh, e15]
    exact CR.trans (CHv.at X15 hZ hEL CH)
  refine own_retW0 X15 hx Bd hS (show _ ≤ T15.heap.size by rw [e15]; exact hk) (hb hby d4_26) CRz ?_ (by decide) (by decide)
  show (Q_rm_ne0 Z xx bb gc h0 n0) none T15.heap _
  rw [e15]
  exact ⟨rfl, N15, K17, _, _, _, _, _, E_xx, V_xx, C_xx, VB2, StrChars.Road.codOf (n := 0) rfl (by decide), by decide, Nat.le_of_ble_eq_true rfl⟩
def Q_rm_ne (Z : State) (xx : Addr) (bb : Addr) (kb : ClassId) (gc : Int32) (h0 : Heap) (n0 : Nat) (v : Option Value) (h : Heap) (L : List Loc) : Prop := v = none ∧ Fr n0 L ∧ Keep h0 h [xx] ∧ ∃ t, own_Str Z h xx t []
theorem ef_rm_ne (m : MethodId) (xx : Addr) (bb : Addr) (gc : Int32) : entryFrame m #[(.ref xx), (.ref bb)] 2 = mkF m 0 #[.val (.ref xx), .val (.ref bb)] [] := by first | (simp [entryFrame, mkF, argsToLocals, Value.category]; done) | rfl
set_option maxRecDepth 65536 in
set_option maxHeartbeats 40000000 in
theorem rm_ne (l : Launch) (Z : State) (a0 : Array Value) (hw : ∀ d ∈ tables_1, d.before a0 Z = true) (ws : List Jvm.Cond) (hEL : EW Z a0 consts_1) (xx : Addr) (bb : Addr) (kb : ClassId) (gc : Int32) (h0 : Heap) (n0 : Nat) (Z0 : n0 ≤ h0.size) (E_xx : Exa Z h0 xx "java/lang/String") (V_xx : Fld Z h0 xx "java/lang/String" "value" "[B" .null) (C_xx : Fld Z h0 xx "java/lang/String" "coder" "B" (.int (0 : Int32))) (g_xx : n0 ≤ xx) (V_bb : Arv Z h0 bb kb .char (0 : Int32) [] (.int (0 : Int32))) (neb : bb ≠ xx) (O0 : Old Z n0 h0) :
    MetFree l (⟨"java/lang/String", "<init>", "([C)V"⟩ : MethodName) (head1 (Jvm.Cond.code (⟨"java/lang/String", "<init>", "([C)V"⟩ : MethodName) jdk_42_method_3_code 2 none :: ws) ({ frames := 2, cells := 4, slots := 8, locals := 29 } : Room)) (fun a_ U_ => a_ = #[(.ref xx), (.ref bb)] ∧ Z.Warmed39 U_.vm ∧ U_.heap = h0 ∧ CHv Z consts_1 U_.vm h0) (fun _ _ _ _ _ => True) (fun _ U_ o_ V_ => ∃ v_ L_, o_ = .returned v_ ∧ (Q_rm_ne Z xx bb kb gc h0 n0) v_ V_.heap L_ ∧ CHr Z consts_1 U_.vm U_.heap V_.vm V_.heap ∧ ReturnedEndW U_ o_ V_ L_ ({ frames := 2, cells := 4, slots := 8, locals := 29 } : Room).cells ({ frames := 2, cells := 4, slots := 8, locals := 29 } : Room).slots) := by
  refine MetFree.of_bodySF (plainFor_of_name pn_0) hisR ?_
  intro p e s m args below meth c s₁ Bd hml0 hP hK
  obtain ⟨rfl, hZ, hh, CH⟩ := hP
  have hx := Bd.exec
  have hby := Bd.bytes
  have hml : c.maxLocals = 2 := hml0
  have hown : s.vm.findClass "java/lang/String" = some m.cls := findClass_of_methodNamed Bd.named
  have hnm := (name_of_methodNamed Bd.named Bd.method).1
  have wS : ∀ a ∈ Bundle.stringAtoms, a.before a0 Z = true := fun d hd => hw d ((by decide +kernel : ∀ d ∈ Bundle.stringAtoms, d ∈ tables_1) d hd)
  have X0 : Stand p l e ({ frames := 2, cells := 4, slots := 8, locals := 29 } : Room) (s.setVm s.vm) m #[(.ref xx), (.ref bb)] below meth c s₁ [] 0 0 := Stand.of_body Bd
  have e0 : s₁.heap = h0 := by rw [← hh, Bd.state]; rfl
  have N0 := Fr.nil n0
  have K0 : Keep h0 h0 [xx] := Keep.refl _ _
  replace hZ : Z.Warmed39 (s.setVm s.vm).vm := hZ
  replace hown : (s.setVm s.vm).vm.findClass "java/lang/String" = some m.cls := hown
  have hS : s.Since s.vm h0.size := (State.WarmedH.refl s).since _
  have hk : h0.size ≤ h0.size := Nat.le_refl _
  have CR : CHr Z consts_1 s.vm h0 s.vm h0 := CHr.refl CH
  show own_Fin p.tables e below (own_PostW Z consts_1 (Q_rm_ne Z xx bb kb gc h0 n0) ({ frames := 2, cells := 4, slots := 8, locals := 29 } : Room).cells ({ frames := 2, cells := 4, slots := 8, locals := 29 } : Room).slots below s) _
  refine own_go (fun _ kk_ => castTop (ef_rm_ne m xx bb gc) kk_) ?_
  refine own_go (fun _ kk_ => XS.aloadN X0.here hx rfl (hb hby d3_0) rfl rfl kk_) ?_
  refine own_go (fun _ kk_ => XS.aloadN X0.here hx rfl (hb hby d3_1) rfl rfl kk_) ?_
  refine own_go (fun _ kk_ => XS.iconst X0.here hx rfl (hb hby d3_2) kk_) ?_
  refine own_go (fun _ kk_ => XS.aloadN X0.here hx rfl (hb hby d3_3) rfl rfl kk_) ?_
  show own_Fin p.tables e below _ (s₁.setTop (mkF m 4 #[.val (.ref xx), .val (.ref bb)] [(.ref bb), (.int (0 : Int32)), (.ref bb), (.ref xx)]))
  refine own_go (fun _ kk_ => own_alen X0 hx hZ e0 V_bb (g := (mkF m 4 #[.val (.ref xx), .val (.ref bb)] [(.ref bb), (.int (0 : Int32)), (.ref bb), (.ref xx)])) rfl rfl (hb hby d3_4) _ kk_) ?_
  refine own_go (fun _ kk_ => XS.aconstNull X0.here hx rfl (hb hby d3_5) kk_) ?_
  show own_Fin p.tables e below _ (s₁.setTop (mkF m 6 #[.val (.ref xx), .val (.ref bb)] [.null, (.int (0 : Int32)), (.int (0 : Int32)), (.ref bb), (.ref xx)]))
  obtain ⟨_, _, ⟨T18, L18, k18, n18⟩, -, X18, hSn18, hgr18, ⟨Lc18, hQ18, l18, y18, z18, CR18⟩, st18⟩ := X0.specialBackS hx (y := (⟨"java/lang/String", "<init>", "([CIILjava/lang/Void;)V"⟩ : MethodName)) rfl hown (mvT hZ (hw _ (List.mem_of_getElem? (i := 18) rfl))) (mvT hZ (hw _ (List.mem_of_getElem? (i := 19) rfl))) (mvT hZ (hw _ (List.mem_of_getElem? (i := 21) rfl))) (by decide) (backOfSH (s := s) (W := 0) (rm_ne0 l Z a0 hw [] hEL xx bb gc h0 n0 (Nat.le_trans Z0 K0.1) E_xx V_xx C_xx g_xx O0) hZ (hw _ (List.mem_of_getElem? (i := 21) rfl)) (hw _ (List.mem_of_getElem? (i := 13) rfl)) (by decide) (by decide) hEL CH) (g := (mkF m 6 #[.val (.ref xx), .val (.ref bb)] [.null, (.int (0 : Int32)), (.int (0 : Int32)), (.ref bb), (.ref xx)])) rfl (by rw [hml]; rfl) (Steps.refl _) (a := xx) (argsL := [(.ref bb), (.int (0 : Int32)), (.int (0 : Int32)), .null]) (rest := []) (lenOf pd_1 rfl) rfl (by show 2 * 0 + _ ≤ _; exact Nat.le_of_eq rfl) (hb hby d3_6) (fun _ _ => ⟨rfl, e0, (by decide : 0 + 4 ≤ _), (by decide : 0 + 8 ≤ _)⟩)
  dsimp only [Pt.U, Pt.locs, Pt.cells, Pt.slots] at X18 l18 y18 z18 st18 hQ18 hSn18 hgr18 CR18
  subst l18 y18 z18
  replace hS := foldS hS (show _ ≤ s₁.heap.size by rw [e0]; exact hk) hSn18 hgr18
  replace hk : T18.heap.size ≤ T18.heap.size := Nat.le_refl _
  replace hZ : Z.Warmed39 (s.setVm T18.vm).vm := State.Warmed39.trans (t := s.setVm s.vm) hZ hSn18.1
  replace hown : (s.setVm T18.vm).vm.findClass "java/lang/String" = some m.cls := by rw [show (s.setVm T18.vm).vm = T18.vm from rfl, hSn18.1.alike.findClass]; exact hown
  replace X18 : Stand p l e ({ frames := 2, cells := 4, slots := 8, locals := 29 } : Room) (s.setVm T18.vm) m #[(.ref xx), (.ref bb)] below meth c T18 _ _ _ := X18
  replace CR := CR.trans CR18
  replace CH := CR18.1
  obtain ⟨rfl, N18q, KK18, t18, SS18⟩ := hQ18
  have N18 := Fr.app N0 N18q
  replace E_xx := E_xx.keep KK18
  replace O0 := O0.keep KK18 (allS g_xx (all0))
  replace V_bb := V_bb.keep KK18 (ninS neb nin0)
  have K19 := K0.trans KK18 (allS (Or.inl (by simp)) all0)
  refine own_go (fun _ kk_ => st18.trans kk_) ?_
  show own_Fin p.tables e below _ (T18.setTop (mkF m 9 #[.val (.ref xx), .val (.ref bb)] []))
  have CRz : CHr Z consts_1 s.vm s.heap T18.vm T18.heap := by
    rw [hh]
    exact CR.trans (CHv.at X18 hZ hEL CH)
  refine own_retW0 X18 hx Bd hS hk (hb hby d3_9) CRz ?_ (by decide) (by decide)
  show (Q_rm_ne Z xx bb kb gc h0 n0) none T18.heap _
  exact ⟨rfl, N18, K19, _, SS18⟩
def Q_rm_rec (Z : State) (oo : Addr) (h0 : Heap) (n0 : Nat) (v : Option Value) (h : Heap) (L : List Loc) : Prop := v = none ∧ Fr n0 L ∧ h = h0
theorem ef_rm_rec (m : MethodId) (oo : Addr) : entryFrame m #[(.ref oo)] 1 = mkF m 0 #[.val (.ref oo)] [] := by first | (simp [entryFrame, mkF, argsToLocals, Value.category]; done) | rfl
set_option maxRecDepth 65536 in
set_option maxHeartbeats 40000000 in
theorem rm_rec (l : Launch) (Z : State) (a0 : Array Value) (hw : ∀ d ∈ tables_1, d.before a0 Z = true) (ws : List Jvm.Cond) (oo : Addr) (h0 : Heap) (n0 : Nat) (Z0 : n0 ≤ h0.size) :
    MetFree l (⟨"java/lang/Record", "<init>", "()V"⟩ : MethodName) (head1 (Jvm.Cond.code (⟨"java/lang/Record", "<init>", "()V"⟩ : MethodName) jdk_30_method_1_code 1 none :: ws) ({ frames := 1, cells := 0, slots := 0, locals := 12 } : Room)) (fun a_ U_ => a_ = #[(.ref oo)] ∧ Z.Warmed39 U_.vm ∧ U_.heap = h0) (fun _ _ _ _ _ => True) (fun _ U_ o_ V_ => ∃ v_ L_, o_ = .returned v_ ∧ (Q_rm_rec Z oo h0 n0) v_ V_.heap L_ ∧ FrameEnd U_ o_ V_ L_ ({ frames := 1, cells := 0, slots := 0, locals := 12 } : Room).cells ({ frames := 1, cells := 0, slots := 0, locals := 12 } : Room).slots) := by
  refine MetFree.of_bodySF (plainFor_of_name pn_2) hisR ?_
  intro p e s m args below meth c s₁ Bd hml0 hP hK
  obtain ⟨rfl, hZ, hh⟩ := hP
  have hx := Bd.exec
  have hby := Bd.bytes
  have hml : c.maxLocals = 1 := hml0
  have hown : s.vm.findClass "java/lang/Record" = some m.cls := findClass_of_methodNamed Bd.named
  have hnm := (name_of_methodNamed Bd.named Bd.method).1
  have X0 : Stand p l e ({ frames := 1, cells := 0, slots := 0, locals := 12 } : Room) s m #[(.ref oo)] below meth c s₁ [] 0 0 := Stand.of_body Bd
  have e0 : s₁.heap = h0 := by rw [← hh, Bd.state]; rfl
  have N0 := Fr.nil n0
  have K0 : Keep h0 h0 [] := Keep.refl _ _
  show own_Fin p.tables e below (own_Post (Q_rm_rec Z oo h0 n0) ({ frames := 1, cells := 0, slots := 0, locals := 12 } : Room).cells ({ frames := 1, cells := 0, slots := 0, locals := 12 } : Room).slots below s) _
  refine own_go (fun _ kk_ => castTop (ef_rm_rec m oo) kk_) ?_
  refine own_go (fun _ kk_ => XS.aloadN X0.here hx rfl (hb hby d7_0) rfl rfl kk_) ?_
  show own_Fin p.tables e below _ (s₁.setTop (mkF m 1 #[.val (.ref oo)] [(.ref oo)]))
  obtain ⟨T20, X20, e20, st20⟩ := initO X0 hx hZ hown (hw _ (List.mem_of_getElem? (i := 47) rfl)) (hw _ (List.mem_of_getElem? (i := 23) rfl)) (hw _ (List.mem_of_getElem? (i := 24) rfl)) e0 (g := (mkF m 1 #[.val (.ref oo)] [(.ref oo)])) rfl (by rw [hml]; rfl) rfl (hb hby d7_1) (by decide) (W := 0) (by show 2 * 0 + _ ≤ _; exact Nat.le_of_eq rfl) (by decide)
  refine own_go st20 ?_
  show own_Fin p.tables e below _ (T20.setTop (mkF m 4 #[.val (.ref oo)] []))
  refine own_ret0 X20 hx Bd (hb hby d7_4) ?_ (by decide) (by decide)
  show (Q_rm_rec Z oo h0 n0) none T20.heap _
  rw [e20]
  exact ⟨rfl, N0, rfl⟩
def Q_rm_tok (Z : State) (oo : Addr) (kd : Addr) (tx : Addr) (ln : Int32) (co : Int32) (h0 : Heap) (n0 : Nat) (v : Option Value) (h : Heap) (L : List Loc) : Prop := v = none ∧ Fr n0 L ∧ Keep h0 h [oo] ∧ Fld Z h oo "com/example/obra/obra/Token" "kind" "Lcom/example/obra/obra/Token$Kind;" (.ref kd) ∧ Fld Z h oo "com/example/obra/obra/Token" "text" "Ljava/lang/String;" (.ref tx) ∧ Fld Z h oo "com/example/obra/obra/Token" "line" "I" (.int ln) ∧ Fld Z h oo "com/example/obra/obra/Token" "column" "I" (.int co)
theorem ef_rm_tok (m : MethodId) (oo : Addr) (kd : Addr) (tx : Addr) (ln : Int32) (co : Int32) : entryFrame m #[(.ref oo), (.ref kd), (.ref tx), (.int ln), (.int co)] 5 = mkF m 0 #[.val (.ref oo), .val (.ref kd), .val (.ref tx), .val (.int ln), .val (.int co)] [] := by first | (simp [entryFrame, mkF, argsToLocals, Value.category]; done) | rfl
set_option maxRecDepth 65536 in
set_option maxHeartbeats 40000000 in
theorem rm_tok (l : Launch) (Z : State) (a0 : Array Value) (hw : ∀ d ∈ tables_1, d.before a0 Z = true) (ws : List Jvm.Cond) (oo : Addr) (kd : Addr) (tx : Addr) (ln : Int32) (co : Int32) (h0 : Heap) (n0 : Nat) (Z0 : n0 ≤ h0.size) (E_oo : Exa Z h0 oo "com/example/obra/obra/Token") (F_kind : Fld Z h0 oo "com/example/obra/obra/Token" "kind" "Lcom/example/obra/obra/Token$Kind;" .null) (F_text : Fld Z h0 oo "com/example/obra/obra/Token" "text" "Ljava/lang/String;" .null) (F_line : Fld Z h0 oo "com/example/obra/obra/Token" "line" "I" (.int (0 : Int32))) (F_column : Fld Z h0 oo "com/example/obra/obra/Token" "column" "I" (.int (0 : Int32))) (g_oo : n0 ≤ oo) :
    MetFree l (⟨"com/example/obra/obra/Token", "<init>", "(Lcom/example/obra/obra/Token$Kind;Ljava/lang/String;II)V"⟩ : MethodName) (head1 (Jvm.Cond.code (⟨"com/example/obra/obra/Token", "<init>", "(Lcom/example/obra/obra/Token$Kind;Ljava/lang/String;II)V"⟩ : MethodName) prog_84_method_1_code 5 none :: ws) ({ frames := 2, cells := 0, slots := 0, locals := 24 } : Room)) (fun a_ U_ => a_ = #[(.ref oo), (.ref kd), (.ref tx), (.int ln), (.int co)] ∧ Z.Warmed39 U_.vm ∧ U_.heap = h0) (fun _ _ _ _ _ => True) (fun _ U_ o_ V_ => ∃ v_ L_, o_ = .returned v_ ∧ (Q_rm_tok Z oo kd tx ln co h0 n0) v_ V_.heap L_ ∧ FrameEnd U_ o_ V_ L_ ({ frames := 2, cells := 0, slots := 0, locals := 24 } : Room).cells ({ frames := 2, cells := 0, slots := 0, locals := 24 } : Room).slots) := by
  refine MetFree.of_bodySF (plainFor_of_name pn_3) hisR ?_
  intro p e s m args below meth c s₁ Bd hml0 hP hK
  obtain ⟨rfl, hZ, hh⟩ := hP
  have hx := Bd.exec
  have hby := Bd.bytes
  have hml : c.maxLocals = 5 := hml0
  have hown : s.vm.findClass "com/example/obra/obra/Token" = some m.cls := findClass_of_methodNamed Bd.named
  have hnm := (name_of_methodNamed Bd.named Bd.method).1
  have X0 : Stand p l e ({ frames := 2, cells := 0, slots := 0, locals := 24 } : Room) s m #[(.ref oo), (.ref kd), (.ref tx), (.int ln), (.int co)] below meth c s₁ [] 0 0 := Stand.of_body Bd
  have e0 : s₁.heap = h0 := by rw [← hh, Bd.state]; rfl
  have N0 := Fr.nil n0
  have K0 : Keep h0 h0 [oo] := Keep.refl _ _
  show own_Fin p.tables e below (own_Post (Q_rm_tok Z oo kd tx ln co h0 n0) ({ frames := 2, cells := 0, slots := 0, locals := 24 } : Room).cells ({ frames := 2, cells := 0, slots := 0, locals := 24 } : Room).slots below s) _
  refine own_go (fun _ kk_ => castTop (ef_rm_tok m oo kd tx ln co) kk_) ?_
  refine own_go (fun _ kk_ => XS.aloadN X0.here hx rfl (hb hby d6_0) rfl rfl kk_) ?_
  show own_Fin p.tables e below _ (s₁.setTop (mkF m 1 #[.val (.ref oo), .val (.ref kd), .val (.ref tx), .val (.int ln), .val (.int co)] [(.ref oo)]))
  obtain ⟨_, _, ⟨T21, L21, k21, n21⟩, -, X21, ⟨Lc21, hQ21, l21, y21, z21⟩, st21⟩ := X0.specialBack hx (y := (⟨"java/lang/Record", "<init>", "()V"⟩ : MethodName)) rfl hown (mvT hZ (hw _ (List.mem_of_getElem? (i := 42) rfl))) (mvT hZ (hw _ (List.mem_of_getElem? (i := 43) rfl))) (mvT hZ (hw _ (List.mem_of_getElem? (i := 46) rfl))) (by decide) (backOf (W := 0) (rm_rec l Z a0 hw [] oo h0 n0 (Nat.le_trans Z0 K0.1)) hZ (hw _ (List.mem_of_getElem? (i := 46) rfl)) (hw _ (List.mem_of_getElem? (i := 45) rfl)) (by decide) (by decide)) (g := (mkF m 1 #[.val (.ref oo), .val (.ref kd), .val (.ref tx), .val (.int ln), .val (.int co)] [(.ref oo)])) rfl (by rw [hml]; rfl) (Steps.refl _) (a := oo) (argsL := []) (rest := []) (lenOf pd_4 rfl) rfl (by show 2 * 0 + _ ≤ _; exact Nat.le_of_eq rfl) (hb hby d6_1) (fun _ _ => ⟨rfl, e0, (by decide : 0 + 0 ≤ _), (by decide : 0 + 0 ≤ _)⟩)
  dsimp only [Pt.U, Pt.locs, Pt.cells, Pt.slots] at X21 l21 y21 z21 st21 hQ21
  subst l21 y21 z21
  obtain ⟨rfl, N21q, e21⟩ := hQ21
  have N21 := Fr.app N0 N21q
  refine own_go (fun _ kk_ => st21.trans kk_) ?_
  refine own_go (fun _ kk_ => XS.aloadN X21.here hx rfl (hb hby d6_4) rfl rfl kk_) ?_
  refine own_go (fun _ kk_ => XS.aloadN X21.here hx rfl (hb hby d6_5) rfl rfl kk_) ?_
  show own_Fin p.tables e below _ (T21.setTop (mkF m 6 #[.val (.ref oo), .val (.ref kd), .val (.ref tx), .val (.int ln), .val (.int co)] [(.ref kd), (.ref oo)]))
  obtain ⟨T22, h22, X22, e22, W22, st22⟩ := putF X21 hx hZ hown (host := "") (Or.inl (hw _ (List.mem_of_getElem? (i := 48) rfl))) Via.refl e21 F_kind E_oo (Or.inr ⟨(hw _ (List.mem_of_getElem? (i := 49) rfl)), rfl, hnm⟩) (hw _ (List.mem_of_getElem? (i := 37) rfl)) (ty := (.object "com/example/obra/obra/Token$Kind")) (by decide) rfl rfl (g := (mkF m 6 #[.val (.ref oo), .val (.ref kd), .val (.ref tx), .val (.int ln), .val (.int co)] [(.ref kd), (.ref oo)])) rfl rfl (hb hby d6_6)
  have N22 := Fr.snoc X22 N21 g_oo
  replace F_kind := F_kind.same W22
  refine own_go st22 ?_
  replace E_oo := E_oo.wr W22
  replace F_text := F_text.other W22 (Or.inr (slot_ne (Or.inr (hw _ (List.mem_of_getElem? (i := 51) rfl))) (Or.inr (hw _ (List.mem_of_getElem? (i := 49) rfl))) (by decide) (t := (.object "java/lang/String")) (t' := (.object "com/example/obra/obra/Token$Kind")) (by decide) (by decide)))
  replace F_line := F_line.other W22 (Or.inr (slot_ne (Or.inr (hw _ (List.mem_of_getElem? (i := 53) rfl))) (Or.inr (hw _ (List.mem_of_getElem? (i := 49) rfl))) (by decide) (t := .int) (t' := (.object "com/example/obra/obra/Token$Kind")) (by decide) (by decide)))
  replace F_column := F_column.other W22 (Or.inr (slot_ne (Or.inr (hw _ (List.mem_of_getElem? (i := 55) rfl))) (Or.inr (hw _ (List.mem_of_getElem? (i := 49) rfl))) (by decide) (t := .int) (t' := (.object "com/example/obra/obra/Token$Kind")) (by decide) (by decide)))
  have K23 := K0.wr W22 (Or.inl (by simp))
  refine own_go (fun _ kk_ => XS.aloadN X22.here hx rfl (hb hby d6_9) rfl rfl kk_) ?_
  refine own_go (fun _ kk_ => XS.aloadN X22.here hx rfl (hb hby d6_10) rfl rfl kk_) ?_
  show own_Fin p.tables e below _ (T22.setTop (mkF m 11 #[.val (.ref oo), .val (.ref kd), .val (.ref tx), .val (.int ln), .val (.int co)] [(.ref tx), (.ref oo)]))
  obtain ⟨T24, h24, X24, e24, W24, st24⟩ := putF X22 hx hZ hown (host := "") (Or.inl (hw _ (List.mem_of_getElem? (i := 50) rfl))) Via.refl e22 F_text E_oo (Or.inr ⟨(hw _ (List.mem_of_getElem? (i := 51) rfl)), rfl, hnm⟩) (hw _ (List.mem_of_getElem? (i := 37) rfl)) (ty := (.object "java/lang/String")) (by decide) rfl rfl (g := (mkF m 11 #[.val (.ref oo), .val (.ref kd), .val (.ref tx), .val (.int ln), .val (.int co)] [(.ref tx), (.ref oo)])) rfl rfl (hb hby d6_11)
  have N24 := Fr.snoc X24 N22 g_oo
  replace F_text := F_text.same W24
  refine own_go st24 ?_
  replace E_oo := E_oo.wr W24
  replace F_kind := F_kind.other W24 (Or.inr (slot_ne (Or.inr (hw _ (List.mem_of_getElem? (i := 49) rfl))) (Or.inr (hw _ (List.mem_of_getElem? (i := 51) rfl))) (by decide) (t := (.object "com/example/obra/obra/Token$Kind")) (t' := (.object "java/lang/String")) (by decide) (by decide)))
  replace F_line := F_line.other W24 (Or.inr (slot_ne (Or.inr (hw _ (List.mem_of_getElem? (i := 53) rfl))) (Or.inr (hw _ (List.mem_of_getElem? (i := 51) rfl))) (by decide) (t := .int) (t' := (.object "java/lang/String")) (by decide) (by decide)))
  replace F_column := F_column.other W24 (Or.inr (slot_ne (Or.inr (hw _ (List.mem_of_getElem? (i := 55) rfl))) (Or.inr (hw _ (List.mem_of_getElem? (i := 51) rfl))) (by decide) (t := .int) (t' := (.object "java/lang/String")) (by decide) (by decide)))
  have K25 := K23.wr W24 (Or.inl (by simp))
  refine own_go (fun _ kk_ => XS.aloadN X24.here hx rfl (hb hby d6_14) rfl rfl kk_) ?_
  refine own_go (fun _ kk_ => XS.iloadN X24.here hx rfl (hb hby d6_15) rfl kk_) ?_
  show own_Fin p.tables e below _ (T24.setTop (mkF m 16 #[.val (.ref oo), .val (.ref kd), .val (.ref tx), .val (.int ln), .val (.int co)] [(.int ln), (.ref oo)]))
  obtain ⟨T26, h26, X26, e26, W26, st26⟩ := putF X24 hx hZ hown (host := "") (Or.inl (hw _ (List.mem_of_getElem? (i := 52) rfl))) Via.refl e24 F_line E_oo (Or.inr ⟨(hw _ (List.mem_of_getElem? (i := 53) rfl)), rfl, hnm⟩) (hw _ (List.mem_of_getElem? (i := 37) rfl)) (ty := .int) (by decide) rfl rfl (g := (mkF m 16 #[.val (.ref oo), .val (.ref kd), .val (.ref tx), .val (.int ln), .val (.int co)] [(.int ln), (.ref oo)])) rfl rfl (hb hby d6_16)
  have N26 := Fr.snoc X26 N24 g_oo
  replace F_line := F_line.same W26
  refine own_go st26 ?_
  replace E_oo := E_oo.wr W26
  replace F_kind := F_kind.other W26 (Or.inr (slot_ne (Or.inr (hw _ (List.mem_of_getElem? (i := 49) rfl))) (Or.inr (hw _ (List.mem_of_getElem? (i := 53) rfl))) (by decide) (t := (.object "com/example/obra/obra/Token$Kind")) (t' := .int) (by decide) (by decide)))
  replace F_text := F_text.other W26 (Or.inr (slot_ne (Or.inr (hw _ (List.mem_of_getElem? (i := 51) rfl))) (Or.inr (hw _ (List.mem_of_getElem? (i := 53) rfl))) (by decide) (t := (.object "java/lang/String")) (t' := .int) (by decide) (by decide)))
  replace F_column := F_column.other W26 (Or.inr (slot_ne (Or.inr (hw _ (List.mem_of_getElem? (i := 55) rfl))) (Or.inr (hw _ (List.mem_of_getElem? (i := 53) rfl))) (by decide) (t := .int) (t' := .int) (by decide) (by decide)))
  have K27 := K25.wr W26 (Or.inl (by simp))
  refine own_go (fun _ kk_ => XS.aloadN X26.here hx rfl (hb hby d6_19) rfl rfl kk_) ?_
  refine own_go (fun _ kk_ => XS.iload X26.here hx rfl (hb hby d6_20) rfl kk_) ?_
  show own_Fin p.tables e below _ (T26.setTop (mkF m 22 #[.val (.ref oo), .val (.ref kd), .val (.ref tx), .val (.int ln), .val (.int co)] [(.int co), (.ref oo)]))
  obtain ⟨T28, h28, X28, e28, W28, st28⟩ := putF X26 hx hZ hown (host := "") (Or.inl (hw _ (List.mem_of_getElem? (i := 54) rfl))) Via.refl e26 F_column E_oo (Or.inr ⟨(hw _ (List.mem_of_getElem? (i := 55) rfl)), rfl, hnm⟩) (hw _ (List.mem_of_getElem? (i := 37) rfl)) (ty := .int) (by decide) rfl rfl (g := (mkF m 22 #[.val (.ref oo), .val (.ref kd), .val (.ref tx), .val (.int ln), .val (.int co)] [(.int co), (.ref oo)])) rfl rfl (hb hby d6_22)
  have N28 := Fr.snoc X28 N26 g_oo
  replace F_column := F_column.same W28
  refine own_go st28 ?_
  replace E_oo := E_oo.wr W28
  replace F_kind := F_kind.other W28 (Or.inr (slot_ne (Or.inr (hw _ (List.mem_of_getElem? (i := 49) rfl))) (Or.inr (hw _ (List.mem_of_getElem? (i := 55) rfl))) (by decide) (t := (.object "com/example/obra/obra/Token$Kind")) (t' := .int) (by decide) (by decide)))
  replace F_text := F_text.other W28 (Or.inr (slot_ne (Or.inr (hw _ (List.mem_of_getElem? (i := 51) rfl))) (Or.inr (hw _ (List.mem_of_getElem? (i := 55) rfl))) (by decide) (t := (.object "java/lang/String")) (t' := .int) (by decide) (by decide)))
  replace F_line := F_line.other W28 (Or.inr (slot_ne (Or.inr (hw _ (List.mem_of_getElem? (i := 53) rfl))) (Or.inr (hw _ (List.mem_of_getElem? (i := 55) rfl))) (by decide) (t := .int) (t' := .int) (by decide) (by decide)))
  have K29 := K27.wr W28 (Or.inl (by simp))
  show own_Fin p.tables e below _ (T28.setTop (mkF m 25 #[.val (.ref oo), .val (.ref kd), .val (.ref tx), .val (.int ln), .val (.int co)] []))
  refine own_ret0 X28 hx Bd (hb hby d6_25) ?_ (by decide) (by decide)
  show (Q_rm_tok Z oo kd tx ln co h0 n0) none T28.heap _
  rw [e28]
  exact ⟨rfl, N28, K29, F_kind, F_text, F_line, F_column⟩
def Q_rm_isS (Z : State) (oo : Addr) (yy : Addr) (ty : Addr) (ds : List Int32) (kd : Addr) (tx : Addr) (tt : Addr) (cs : List Int32) (kk : Addr) (ks : Addr) (gc : Int32) (h0 : Heap) (n0 : Nat) (v : Option Value) (h : Heap) (L : List Loc) : Prop := ∃ z : Int32, v = some (.int z) ∧ Fr n0 L ∧ h = h0 ∧ ((z = 1 ∧ (kd = kk ∨ kd = ks) ∧ cs = ds) ∨ (z = 0 ∧ ¬ ((kd = kk ∨ kd = ks) ∧ cs = ds)))
theorem ef_rm_isS (m : MethodId) (oo : Addr) (yy : Addr) (ty : Addr) (kd : Addr) (tx : Addr) (tt : Addr) (kk : Addr) (ks : Addr) (gc : Int32) : entryFrame m #[(.ref oo), (.ref yy)] 2 = mkF m 0 #[.val (.ref oo), .val (.ref yy)] [] := by first | (simp [entryFrame, mkF, argsToLocals, Value.category]; done) | rfl
set_option maxRecDepth 65536 in
set_option maxHeartbeats 40000000 in
theorem rm_isS (l : Launch) (Z : State) (a0 : Array Value) (hw : ∀ d ∈ tables_1, d.before a0 Z = true) (ws : List Jvm.Cond) (oo : Addr) (yy : Addr) (ty : Addr) (ds : List Int32) (kd : Addr) (tx : Addr) (tt : Addr) (cs : List Int32) (kk : Addr) (ks : Addr) (gc : Int32) (h0 : Heap) (n0 : Nat) (Z0 : n0 ≤ h0.size) (F_kind : Fld Z h0 oo "com/example/obra/obra/Token" "kind" "Lcom/example/obra/obra/Token$Kind;" (.ref kd)) (F_text : Fld Z h0 oo "com/example/obra/obra/Token" "text" "Ljava/lang/String;" (.ref tx)) (F_s : own_Str Z h0 tx tt cs) (F_y : own_Str Z h0 yy ty ds) (S_kk : Sta Z Z.heap "com/example/obra/obra/Token$Kind" "KEYWORD" "Lcom/example/obra/obra/Token$Kind;" (.ref kk)) (S_ks : Sta Z Z.heap "com/example/obra/obra/Token$Kind" "SYMBOL" "Lcom/example/obra/obra/Token$Kind;" (.ref ks)) (S_C : Sta Z Z.heap "java/lang/String" "COMPACT_STRINGS" "Z" (.int gc)) (hcs : ¬ gc = 0) (O0 : Old Z n0 h0) :
    MetFree l (⟨"com/example/obra/obra/Token", "is", "(Ljava/lang/String;)Z"⟩ : MethodName) (head1 (Jvm.Cond.code (⟨"com/example/obra/obra/Token", "is", "(Ljava/lang/String;)Z"⟩ : MethodName) prog_84_method_2_code 2 (some .boolean) :: ws) ({ frames := 2, cells := 0, slots := 0, locals := 28 } : Room)) (fun a_ U_ => a_ = #[(.ref oo), (.ref yy)] ∧ Z.Warmed39 U_.vm ∧ U_.heap = h0) (fun _ _ _ _ _ => True) (fun _ U_ o_ V_ => ∃ v_ L_, o_ = .returned v_ ∧ (Q_rm_isS Z oo yy ty ds kd tx tt cs kk ks gc h0 n0) v_ V_.heap L_ ∧ FrameEnd U_ o_ V_ L_ ({ frames := 2, cells := 0, slots := 0, locals := 28 } : Room).cells ({ frames := 2, cells := 0, slots := 0, locals := 28 } : Room).slots) := by
  refine MetFree.of_bodySF (plainFor_of_name pn_3) hisR ?_
  intro p e s m args below meth c s₁ Bd hml0 hP hK
  obtain ⟨rfl, hZ, hh⟩ := hP
  have hx := Bd.exec
  have hby := Bd.bytes
  have hml : c.maxLocals = 2 := hml0
  have hown : s.vm.findClass "com/example/obra/obra/Token" = some m.cls := findClass_of_methodNamed Bd.named
  have hnm := (name_of_methodNamed Bd.named Bd.method).1
  have X0 : Stand p l e ({ frames := 2, cells := 0, slots := 0, locals := 28 } : Room) s m #[(.ref oo), (.ref yy)] below meth c s₁ [] 0 0 := Stand.of_body Bd
  have e0 : s₁.heap = h0 := by rw [← hh, Bd.state]; rfl
  have N0 := Fr.nil n0
  have K0 : Keep h0 h0 [] := Keep.refl _ _
  show own_Fin p.tables e below (own_Post (Q_rm_isS Z oo yy ty ds kd tx tt cs kk ks gc h0 n0) ({ frames := 2, cells := 0, slots := 0, locals := 28 } : Room).cells ({ frames := 2, cells := 0, slots := 0, locals := 28 } : Room).slots below s) _
  refine own_go (fun _ kk_ => castTop (ef_rm_isS m oo yy ty kd tx tt kk ks gc) kk_) ?_
  have heq : ∀ d ∈ StrChars.Road.wordsEq, d.before a0 Z = true := fun d hd => hw d ((by decide +kernel : ∀ d ∈ StrChars.Road.wordsEq, d ∈ tables_1) d hd)
  refine own_go (fun _ kk_ => XS.aloadN X0.here hx rfl (hb hby d10_0) rfl rfl kk_) ?_
  show own_Fin p.tables e below _ (s₁.setTop (mkF m 1 #[.val (.ref oo), .val (.ref yy)] [(.ref oo)]))
  obtain ⟨T30, X30, e30, st30⟩ := getF X0 hx hZ hown (host := "") (Or.inl (hw _ (List.mem_of_getElem? (i := 48) rfl))) Via.refl e0 F_kind (g := (mkF m 1 #[.val (.ref oo), .val (.ref yy)] [(.ref oo)])) rfl rfl (hb hby d10_1)
  refine own_go st30 ?_
  show own_Fin p.tables e below _ (T30.setTop (mkF m 4 #[.val (.ref oo), .val (.ref yy)] [(.ref kd)]))
  obtain ⟨T31, X31, e31, st31⟩ := getS2 X30 hx hZ hown (host := "") (Or.inl (hw _ (List.mem_of_getElem? (i := 81) rfl))) Via.refl e30 (S_kk.ext O0.2) (g := (mkF m 4 #[.val (.ref oo), .val (.ref yy)] [(.ref kd)])) rfl (hb hby d10_4)
  refine own_go st31 ?_
  show own_Fin p.tables e below _ (T31.setTop (mkF m 7 #[.val (.ref oo), .val (.ref yy)] [(.ref kk), (.ref kd)]))
  by_cases hc32 : kd = kk
  · skip
    refine own_go (fun _ kk_ => acmp (g := (mkF m 7 #[.val (.ref oo), .val (.ref yy)] [(.ref kk), (.ref kd)])) X31 hx rfl rfl rfl (pc0 := 7) (pc' := 20) (same := true) rfl (hb hby d10_7) rfl (by simp [hc32]) (by decide) (by decide) kk_) ?_
    refine own_go (fun _ kk_ => XS.aloadN X31.here hx rfl (hb hby d10_20) rfl rfl kk_) ?_
    show own_Fin p.tables e below _ (T31.setTop (mkF m 21 #[.val (.ref oo), .val (.ref yy)] [(.ref oo)]))
    obtain ⟨T33, X33, e33, st33⟩ := getF X31 hx hZ hown (host := "") (Or.inl (hw _ (List.mem_of_getElem? (i := 50) rfl))) Via.refl e31 F_text (g := (mkF m 21 #[.val (.ref oo), .val (.ref yy)] [(.ref oo)])) rfl rfl (hb hby d10_21)
    refine own_go st33 ?_
    refine own_go (fun _ kk_ => XS.aloadN X33.here hx rfl (hb hby d10_24) rfl rfl kk_) ?_
    show own_Fin p.tables e below _ (T33.setTop (mkF m 25 #[.val (.ref oo), .val (.ref yy)] [(.ref yy), (.ref tx)]))
    obtain ⟨cq34, kq34, qa34, qb34, qc34⟩ := isOf hZ e33 F_s.exa
    obtain ⟨_, _, ⟨T34, L34, k34, n34⟩, -, X34, ⟨Lc34, hQ34, l34, y34, z34⟩, st34⟩ := X33.virtualBack hx (y := (⟨"java/lang/String", "equals", "(Ljava/lang/Object;)Z"⟩ : MethodName)) (z := (⟨"java/lang/String", "equals", "(Ljava/lang/Object;)Z"⟩ : MethodName)) hown (mvT hZ (hw _ (List.mem_of_getElem? (i := 110) rfl))) (mvT hZ (hw _ (List.mem_of_getElem? (i := 111) rfl))) (own_notface (args := #[]) (mvT hZ (hw _ (List.mem_of_getElem? (i := 103) rfl))) rfl) (mvT hZ (hw _ (List.mem_of_getElem? (i := 113) rfl))) (mvT hZ (hw _ (List.mem_of_getElem? (i := 112) rfl))) (by decide) (own_eqB (W := 0) hZ heq (hw _ (List.mem_of_getElem? (i := 12) rfl)) F_s F_y (S_C.ext O0.2) hcs (by decide) (by decide)) qa34 qc34 (g := (mkF m 25 #[.val (.ref oo), .val (.ref yy)] [(.ref yy), (.ref tx)])) rfl (by rw [hml]; rfl) (Steps.refl _) (argsL := [(.ref yy)]) (rest := []) (lenOf pd_5 rfl) rfl (by show 2 * 0 + _ ≤ _; exact Nat.le_of_eq rfl) (hb hby d10_25) (fun _ _ => ⟨rfl, e33, (by decide : 0 + 0 ≤ _), (by decide : 0 + 0 ≤ _)⟩)
    dsimp only [Pt.U, Pt.locs, Pt.cells, Pt.slots] at X34 l34 y34 z34 st34 hQ34
    subst l34 y34 z34
    obtain ⟨hq34, rfl, e34⟩ := hQ34
    obtain ⟨z34, rfl, hz34⟩ := own_eqv hq34
    have N34 := Fr.app N0 (Fr.nil n0)
    refine own_go (fun _ kk_ => st34.trans kk_) ?_
    show own_Fin p.tables e below _ (T34.setTop (mkF m 28 #[.val (.ref oo), .val (.ref yy)] [(.int z34)]))
    by_cases hc35 : z34 = (0 : Int32)
    · skip
      refine own_go (fun _ kk_ => XS.ifYes X34.here hx rfl (pc0 := 28) (pc' := 35) rfl (hb hby d10_28) rfl ((if0 _ _).trans (teq hc35).1) (by decide) (by decide) kk_) ?_
      refine own_go (fun _ kk_ => XS.iconst X34.here hx rfl (hb hby d10_35) kk_) ?_
      show own_Fin p.tables e below _ (T34.setTop (mkF m 36 #[.val (.ref oo), .val (.ref yy)] [(.int (0 : Int32))]))
      refine own_retI X34 hx Bd (t := .boolean) Bd.returns rfl (by simp) (hb hby d10_36) ?_ (by decide) (by decide)
      show (Q_rm_isS Z oo yy ty ds kd tx tt cs kk ks gc h0 n0) (some (.int (0 : Int32))) T34.heap _
      rw [e34]
      refine ⟨_, rfl, N34, rfl, ?_⟩
      rcases hz34 with ⟨q1, q2⟩ | ⟨q1, q2⟩
      · rw [q1] at hc35; exact absurd hc35 (by decide)
      · exact Or.inr ⟨rfl, fun q => q2 q.2⟩
    · skip
      refine own_go (fun _ kk_ => XS.ifNo X34.here hx rfl (hb hby d10_28) rfl ((if0 _ _).trans (feq hc35).1) kk_) ?_
      refine own_go (fun _ kk_ => XS.iconst X34.here hx rfl (hb hby d10_31) kk_) ?_
      refine own_go (fun _ kk_ => XS.goto X34.here hx rfl (pc0 := 32) (pc' := 36) rfl (hb hby d10_32) (by decide) (by decide) kk_) ?_
      show own_Fin p.tables e below _ (T34.setTop (mkF m 36 #[.val (.ref oo), .val (.ref yy)] [(.int (1 : Int32))]))
      refine own_retI X34 hx Bd (t := .boolean) Bd.returns rfl (by simp) (hb hby d10_36) ?_ (by decide) (by decide)
      show (Q_rm_isS Z oo yy ty ds kd tx tt cs kk ks gc h0 n0) (some (.int (1 : Int32))) T34.heap _
      rw [e34]
      refine ⟨_, rfl, N34, rfl, ?_⟩
      rcases hz34 with ⟨q1, q2⟩ | ⟨q1, q2⟩
      · exact Or.inl ⟨rfl, by simp [hc32, hc35], q2⟩
      · exact absurd q1 hc35
  · skip
    refine own_go (fun _ kk_ => acmp (g := (mkF m 7 #[.val (.ref oo), .val (.ref yy)] [(.ref kk), (.ref kd)])) X31 hx rfl rfl rfl (pc0 := 7) (pc' := 10) (same := false) rfl (hb hby d10_7) rfl (by simp [hc32]) (by decide) (by decide) kk_) ?_
    refine own_go (fun _ kk_ => XS.aloadN X31.here hx rfl (hb hby d10_10) rfl rfl kk_) ?_
    show own_Fin p.tables e below _ (T31.setTop (mkF m 11 #[.val (.ref oo), .val (.ref yy)] [(.ref oo)]))
    obtain ⟨T36, X36, e36, st36⟩ := getF X31 hx hZ hown (host := "") (Or.inl (hw _ (List.mem_of_getElem? (i := 48) rfl))) Via.refl e31 F_kind (g := (mkF m 11 #[.val (.ref oo), .val (.ref yy)] [(.ref oo)])) rfl rfl (hb hby d10_11)
    refine own_go st36 ?_
    show own_Fin p.tables e below _ (T36.setTop (mkF m 14 #[.val (.ref oo), .val (.ref yy)] [(.ref kd)]))
    obtain ⟨T37, X37, e37, st37⟩ := getS2 X36 hx hZ hown (host := "") (Or.inl (hw _ (List.mem_of_getElem? (i := 82) rfl))) Via.refl e36 (S_ks.ext O0.2) (g := (mkF m 14 #[.val (.ref oo), .val (.ref yy)] [(.ref kd)])) rfl (hb hby d10_14)
    refine own_go st37 ?_
    show own_Fin p.tables e below _ (T37.setTop (mkF m 17 #[.val (.ref oo), .val (.ref yy)] [(.ref ks), (.ref kd)]))
    by_cases hc38 : kd = ks
    · skip
      refine own_go (fun _ kk_ => acmp (g := (mkF m 17 #[.val (.ref oo), .val (.ref yy)] [(.ref ks), (.ref kd)])) X37 hx rfl rfl rfl (pc0 := 17) (pc' := 20) (same := true) rfl (hb hby d10_17) rfl (by simp [hc38]) (by decide) (by decide) kk_) ?_
      refine own_go (fun _ kk_ => XS.aloadN X37.here hx rfl (hb hby d10_20) rfl rfl kk_) ?_
      show own_Fin p.tables e below _ (T37.setTop (mkF m 21 #[.val (.ref oo), .val (.ref yy)] [(.ref oo)]))
      obtain ⟨T39, X39, e39, st39⟩ := getF X37 hx hZ hown (host := "") (Or.inl (hw _ (List.mem_of_getElem? (i := 50) rfl))) Via.refl e37 F_text (g := (mkF m 21 #[.val (.ref oo), .val (.ref yy)] [(.ref oo)])) rfl rfl (hb hby d10_21)
      refine own_go st39 ?_
      refine own_go (fun _ kk_ => XS.aloadN X39.here hx rfl (hb hby d10_24) rfl rfl kk_) ?_
      show own_Fin p.tables e below _ (T39.setTop (mkF m 25 #[.val (.ref oo), .val (.ref yy)] [(.ref yy), (.ref tx)]))
      obtain ⟨cq40, kq40, qa40, qb40, qc40⟩ := isOf hZ e39 F_s.exa
      obtain ⟨_, _, ⟨T40, L40, k40, n40⟩, -, X40, ⟨Lc40, hQ40, l40, y40, z40⟩, st40⟩ := X39.virtualBack hx (y := (⟨"java/lang/String", "equals", "(Ljava/lang/Object;)Z"⟩ : MethodName)) (z := (⟨"java/lang/String", "equals", "(Ljava/lang/Object;)Z"⟩ : MethodName)) hown (mvT hZ (hw _ (List.mem_of_getElem? (i := 110) rfl))) (mvT hZ (hw _ (List.mem_of_getElem? (i := 111) rfl))) (own_notface (args := #[]) (mvT hZ (hw _ (List.mem_of_getElem? (i := 103) rfl))) rfl) (mvT hZ (hw _ (List.mem_of_getElem? (i := 113) rfl))) (mvT hZ (hw _ (List.mem_of_getElem? (i := 112) rfl))) (by decide) (own_eqB (W := 0) hZ heq (hw _ (List.mem_of_getElem? (i := 12) rfl)) F_s F_y (S_C.ext O0.2) hcs (by decide) (by decide)) qa40 qc40 (g := (mkF m 25 #[.val (.ref oo), .val (.ref yy)] [(.ref yy), (.ref tx)])) rfl (by rw [hml]; rfl) (Steps.refl _) (argsL := [(.ref yy)]) (rest := []) (lenOf pd_5 rfl) rfl (by show 2 * 0 + _ ≤ _; exact Nat.le_of_eq rfl) (hb hby d10_25) (fun _ _ => ⟨rfl, e39, (by decide : 0 + 0 ≤ _), (by decide : 0 + 0 ≤ _)⟩)
      dsimp only [Pt.U, Pt.locs, Pt.cells, Pt.slots] at X40 l40 y40 z40 st40 hQ40
      subst l40 y40 z40
      obtain ⟨hq40, rfl, e40⟩ := hQ40
      obtain ⟨z40, rfl, hz40⟩ := own_eqv hq40
      have N40 := Fr.app N0 (Fr.nil n0)
      refine own_go (fun _ kk_ => st40.trans kk_) ?_
      show own_Fin p.tables e below _ (T40.setTop (mkF m 28 #[.val (.ref oo), .val (.ref yy)] [(.int z40)]))
      by_cases hc41 : z40 = (0 : Int32)
      · skip
        refine own_go (fun _ kk_ => XS.ifYes X40.here hx rfl (pc0 := 28) (pc' := 35) rfl (hb hby d10_28) rfl ((if0 _ _).trans (teq hc41).1) (by decide) (by decide) kk_) ?_
        refine own_go (fun _ kk_ => XS.iconst X40.here hx rfl (hb hby d10_35) kk_) ?_
        show own_Fin p.tables e below _ (T40.setTop (mkF m 36 #[.val (.ref oo), .val (.ref yy)] [(.int (0 : Int32))]))
        refine own_retI X40 hx Bd (t := .boolean) Bd.returns rfl (by simp) (hb hby d10_36) ?_ (by decide) (by decide)
        show (Q_rm_isS Z oo yy ty ds kd tx tt cs kk ks gc h0 n0) (some (.int (0 : Int32))) T40.heap _
        rw [e40]
        refine ⟨_, rfl, N40, rfl, ?_⟩
        rcases hz40 with ⟨q1, q2⟩ | ⟨q1, q2⟩
        · rw [q1] at hc41; exact absurd hc41 (by decide)
        · exact Or.inr ⟨rfl, fun q => q2 q.2⟩
      · skip
        refine own_go (fun _ kk_ => XS.ifNo X40.here hx rfl (hb hby d10_28) rfl ((if0 _ _).trans (feq hc41).1) kk_) ?_
        refine own_go (fun _ kk_ => XS.iconst X40.here hx rfl (hb hby d10_31) kk_) ?_
        refine own_go (fun _ kk_ => XS.goto X40.here hx rfl (pc0 := 32) (pc' := 36) rfl (hb hby d10_32) (by decide) (by decide) kk_) ?_
        show own_Fin p.tables e below _ (T40.setTop (mkF m 36 #[.val (.ref oo), .val (.ref yy)] [(.int (1 : Int32))]))
        refine own_retI X40 hx Bd (t := .boolean) Bd.returns rfl (by simp) (hb hby d10_36) ?_ (by decide) (by decide)
        show (Q_rm_isS Z oo yy ty ds kd tx tt cs kk ks gc h0 n0) (some (.int (1 : Int32))) T40.heap _
        rw [e40]
        refine ⟨_, rfl, N40, rfl, ?_⟩
        rcases hz40 with ⟨q1, q2⟩ | ⟨q1, q2⟩
        · exact Or.inl ⟨rfl, by simp [hc32, hc38, hc41], q2⟩
        · exact absurd q1 hc41
    · skip
      refine own_go (fun _ kk_ => acmp (g := (mkF m 17 #[.val (.ref oo), .val (.ref yy)] [(.ref ks), (.ref kd)])) X37 hx rfl rfl rfl (pc0 := 17) (pc' := 35) (same := false) rfl (hb hby d10_17) rfl (by simp [hc38]) (by decide) (by decide) kk_) ?_
      refine own_go (fun _ kk_ => XS.iconst X37.here hx rfl (hb hby d10_35) kk_) ?_
      show own_Fin p.tables e below _ (T37.setTop (mkF m 36 #[.val (.ref oo), .val (.ref yy)] [(.int (0 : Int32))]))
      refine own_retI X37 hx Bd (t := .boolean) Bd.returns rfl (by simp) (hb hby d10_36) ?_ (by decide) (by decide)
      show (Q_rm_isS Z oo yy ty ds kd tx tt cs kk ks gc h0 n0) (some (.int (0 : Int32))) T37.heap _
      rw [e37]
      refine ⟨_, rfl, N0, rfl, ?_⟩
      exact Or.inr ⟨rfl, by simp [hc32, hc38]⟩
def Q_rm_ko (Z : State) (kx : Int32) (kn : Addr) (kk : Addr) (ku : Addr) (ks : Addr) (ke : Addr) (h0 : Heap) (n0 : Nat) (v : Option Value) (h : Heap) (L : List Loc) : Prop := ∃ kd : Addr, v = some (.ref kd) ∧ Fr n0 L ∧ h = h0
theorem ef_rm_ko (m : MethodId) (kx : Int32) (kn : Addr) (kk : Addr) (ku : Addr) (ks : Addr) (ke : Addr) : entryFrame m #[(.int kx)] 1 = mkF m 0 #[.val (.int kx)] [] := by first | (simp [entryFrame, mkF, argsToLocals, Value.category]; done) | rfl
set_option maxRecDepth 65536 in
set_option maxHeartbeats 40000000 in
theorem rm_ko (l : Launch) (Z : State) (a0 : Array Value) (hw : ∀ d ∈ tables_1, d.before a0 Z = true) (ws : List Jvm.Cond) (kx : Int32) (kn : Addr) (kk : Addr) (ku : Addr) (ks : Addr) (ke : Addr) (h0 : Heap) (n0 : Nat) (Z0 : n0 ≤ h0.size) (S_kn : Sta Z Z.heap "com/example/obra/obra/Token$Kind" "NAME" "Lcom/example/obra/obra/Token$Kind;" (.ref kn)) (S_kk : Sta Z Z.heap "com/example/obra/obra/Token$Kind" "KEYWORD" "Lcom/example/obra/obra/Token$Kind;" (.ref kk)) (S_ku : Sta Z Z.heap "com/example/obra/obra/Token$Kind" "NUMBER" "Lcom/example/obra/obra/Token$Kind;" (.ref ku)) (S_ks : Sta Z Z.heap "com/example/obra/obra/Token$Kind" "SYMBOL" "Lcom/example/obra/obra/Token$Kind;" (.ref ks)) (S_ke : Sta Z Z.heap "com/example/obra/obra/Token$Kind" "END" "Lcom/example/obra/obra/Token$Kind;" (.ref ke)) (O0 : Old Z n0 h0) :
    MetFree l (⟨"com/example/obra/obra/TypeScopeIsBitwidthPinLaw", "kindOf", "(I)Lcom/example/obra/obra/Token$Kind;"⟩ : MethodName) (head1 (Jvm.Cond.code (⟨"com/example/obra/obra/TypeScopeIsBitwidthPinLaw", "kindOf", "(I)Lcom/example/obra/obra/Token$Kind;"⟩ : MethodName) method_3_code 1 (some (.object "com/example/obra/obra/Token$Kind")) :: ws) ({ frames := 0, cells := 0, slots := 0, locals := 0 } : Room)) (fun a_ U_ => a_ = #[(.int kx)] ∧ Z.Warmed39 U_.vm ∧ U_.heap = h0) (fun _ _ _ _ _ => True) (fun _ U_ o_ V_ => ∃ v_ L_, o_ = .returned v_ ∧ (Q_rm_ko Z kx kn kk ku ks ke h0 n0) v_ V_.heap L_ ∧ FrameEnd U_ o_ V_ L_ ({ frames := 0, cells := 0, slots := 0, locals := 0 } : Room).cells ({ frames := 0, cells := 0, slots := 0, locals := 0 } : Room).slots) := by
  refine MetFree.of_bodySF (plainFor_of_name pn_6) hisR ?_
  intro p e s m args below meth c s₁ Bd hml0 hP hK
  obtain ⟨rfl, hZ, hh⟩ := hP
  have hx := Bd.exec
  have hby := Bd.bytes
  have hml : c.maxLocals = 1 := hml0
  have hown : s.vm.findClass "com/example/obra/obra/TypeScopeIsBitwidthPinLaw" = some m.cls := findClass_of_methodNamed Bd.named
  have hnm := (name_of_methodNamed Bd.named Bd.method).1
  have X0 : Stand p l e ({ frames := 0, cells := 0, slots := 0, locals := 0 } : Room) s m #[(.int kx)] below meth c s₁ [] 0 0 := Stand.of_body Bd
  have e0 : s₁.heap = h0 := by rw [← hh, Bd.state]; rfl
  have N0 := Fr.nil n0
  have K0 : Keep h0 h0 [] := Keep.refl _ _
  show own_Fin p.tables e below (own_Post (Q_rm_ko Z kx kn kk ku ks ke h0 n0) ({ frames := 0, cells := 0, slots := 0, locals := 0 } : Room).cells ({ frames := 0, cells := 0, slots := 0, locals := 0 } : Room).slots below s) _
  refine own_go (fun _ kk_ => castTop (ef_rm_ko m kx kn kk ku ks ke) kk_) ?_
  refine own_go (fun _ kk_ => XS.iloadN X0.here hx rfl (hb hby d1_0) rfl kk_) ?_
  show own_Fin p.tables e below _ (s₁.setTop (mkF m 1 #[.val (.int kx)] [(.int kx)]))
  by_cases hc42 : kx = (0 : Int32)
  · skip
    refine own_go (fun _ kk_ => XS.ifNo X0.here hx rfl (hb hby d1_1) rfl ((if0 _ _).trans (teq hc42).2) kk_) ?_
    show own_Fin p.tables e below _ (s₁.setTop (mkF m 4 #[.val (.int kx)] []))
    obtain ⟨T43, X43, e43, st43⟩ := getS2 X0 hx hZ hown (host := "") (Or.inl (hw _ (List.mem_of_getElem? (i := 5) rfl))) Via.refl e0 (S_kn.ext O0.2) (g := (mkF m 4 #[.val (.int kx)] [])) rfl (hb hby d1_4)
    refine own_go st43 ?_
    show own_Fin p.tables e below _ (T43.setTop (mkF m 7 #[.val (.int kx)] [(.ref kn)]))
    refine own_retA X43 hx Bd (t := (.object "com/example/obra/obra/Token$Kind")) Bd.returns rfl rfl rfl (hb hby d1_7) ?_ (by decide) (by decide)
    show (Q_rm_ko Z kx kn kk ku ks ke h0 n0) (some (.ref kn)) T43.heap _
    rw [e43]
    exact ⟨_, rfl, N0, rfl⟩
  · skip
    refine own_go (fun _ kk_ => XS.ifYes X0.here hx rfl (pc0 := 1) (pc' := 8) rfl (hb hby d1_1) rfl ((if0 _ _).trans (feq hc42).2) (by decide) (by decide) kk_) ?_
    refine own_go (fun _ kk_ => XS.iloadN X0.here hx rfl (hb hby d1_8) rfl kk_) ?_
    refine own_go (fun _ kk_ => XS.iconst X0.here hx rfl (hb hby d1_9) kk_) ?_
    show own_Fin p.tables e below _ (s₁.setTop (mkF m 10 #[.val (.int kx)] [(.int (1 : Int32)), (.int kx)]))
    by_cases hc44 : kx = (1 : Int32)
    · skip
      refine own_go (fun _ kk_ => XS.icmpNo X0.here hx rfl (hb hby d1_10) rfl (teq hc44).2 kk_) ?_
      show own_Fin p.tables e below _ (s₁.setTop (mkF m 13 #[.val (.int kx)] []))
      obtain ⟨T45, X45, e45, st45⟩ := getS2 X0 hx hZ hown (host := "") (Or.inl (hw _ (List.mem_of_getElem? (i := 66) rfl))) Via.refl e0 (S_kk.ext O0.2) (g := (mkF m 13 #[.val (.int kx)] [])) rfl (hb hby d1_13)
      refine own_go st45 ?_
      show own_Fin p.tables e below _ (T45.setTop (mkF m 16 #[.val (.int kx)] [(.ref kk)]))
      refine own_retA X45 hx Bd (t := (.object "com/example/obra/obra/Token$Kind")) Bd.returns rfl rfl rfl (hb hby d1_16) ?_ (by decide) (by decide)
      show (Q_rm_ko Z kx kn kk ku ks ke h0 n0) (some (.ref kk)) T45.heap _
      rw [e45]
      exact ⟨_, rfl, N0, rfl⟩
    · skip
      refine own_go (fun _ kk_ => XS.icmpYes X0.here hx rfl (pc0 := 10) (pc' := 17) rfl (hb hby d1_10) rfl (feq hc44).2 (by decide) (by decide) kk_) ?_
      refine own_go (fun _ kk_ => XS.iloadN X0.here hx rfl (hb hby d1_17) rfl kk_) ?_
      refine own_go (fun _ kk_ => XS.iconst X0.here hx rfl (hb hby d1_18) kk_) ?_
      show own_Fin p.tables e below _ (s₁.setTop (mkF m 19 #[.val (.int kx)] [(.int (2 : Int32)), (.int kx)]))
      by_cases hc46 : kx = (2 : Int32)
      · skip
        refine own_go (fun _ kk_ => XS.icmpNo X0.here hx rfl (hb hby d1_19) rfl (teq hc46).2 kk_) ?_
        show own_Fin p.tables e below _ (s₁.setTop (mkF m 22 #[.val (.int kx)] []))
        obtain ⟨T47, X47, e47, st47⟩ := getS2 X0 hx hZ hown (host := "") (Or.inl (hw _ (List.mem_of_getElem? (i := 142) rfl))) Via.refl e0 (S_ku.ext O0.2) (g := (mkF m 22 #[.val (.int kx)] [])) rfl (hb hby d1_22)
        refine own_go st47 ?_
        show own_Fin p.tables e below _ (T47.setTop (mkF m 25 #[.val (.int kx)] [(.ref ku)]))
        refine own_retA X47 hx Bd (t := (.object "com/example/obra/obra/Token$Kind")) Bd.returns rfl rfl rfl (hb hby d1_25) ?_ (by decide) (by decide)
        show (Q_rm_ko Z kx kn kk ku ks ke h0 n0) (some (.ref ku)) T47.heap _
        rw [e47]
        exact ⟨_, rfl, N0, rfl⟩
      · skip
        refine own_go (fun _ kk_ => XS.icmpYes X0.here hx rfl (pc0 := 19) (pc' := 26) rfl (hb hby d1_19) rfl (feq hc46).2 (by decide) (by decide) kk_) ?_
        refine own_go (fun _ kk_ => XS.iloadN X0.here hx rfl (hb hby d1_26) rfl kk_) ?_
        refine own_go (fun _ kk_ => XS.iconst X0.here hx rfl (hb hby d1_27) kk_) ?_
        show own_Fin p.tables e below _ (s₁.setTop (mkF m 28 #[.val (.int kx)] [(.int (3 : Int32)), (.int kx)]))
        by_cases hc48 : kx = (3 : Int32)
        · skip
          refine own_go (fun _ kk_ => XS.icmpNo X0.here hx rfl (hb hby d1_28) rfl (teq hc48).2 kk_) ?_
          show own_Fin p.tables e below _ (s₁.setTop (mkF m 31 #[.val (.int kx)] []))
          obtain ⟨T49, X49, e49, st49⟩ := getS2 X0 hx hZ hown (host := "") (Or.inl (hw _ (List.mem_of_getElem? (i := 68) rfl))) Via.refl e0 (S_ks.ext O0.2) (g := (mkF m 31 #[.val (.int kx)] [])) rfl (hb hby d1_31)
          refine own_go st49 ?_
          show own_Fin p.tables e below _ (T49.setTop (mkF m 34 #[.val (.int kx)] [(.ref ks)]))
          refine own_retA X49 hx Bd (t := (.object "com/example/obra/obra/Token$Kind")) Bd.returns rfl rfl rfl (hb hby d1_34) ?_ (by decide) (by decide)
          show (Q_rm_ko Z kx kn kk ku ks ke h0 n0) (some (.ref ks)) T49.heap _
          rw [e49]
          exact ⟨_, rfl, N0, rfl⟩
        · skip
          refine own_go (fun _ kk_ => XS.icmpYes X0.here hx rfl (pc0 := 28) (pc' := 35) rfl (hb hby d1_28) rfl (feq hc48).2 (by decide) (by decide) kk_) ?_
          show own_Fin p.tables e below _ (s₁.setTop (mkF m 35 #[.val (.int kx)] []))
          obtain ⟨T50, X50, e50, st50⟩ := getS2 X0 hx hZ hown (host := "") (Or.inl (hw _ (List.mem_of_getElem? (i := 84) rfl))) Via.refl e0 (S_ke.ext O0.2) (g := (mkF m 35 #[.val (.int kx)] [])) rfl (hb hby d1_35)
          refine own_go st50 ?_
          show own_Fin p.tables e below _ (T50.setTop (mkF m 38 #[.val (.int kx)] [(.ref ke)]))
          refine own_retA X50 hx Bd (t := (.object "com/example/obra/obra/Token$Kind")) Bd.returns rfl rfl rfl (hb hby d1_38) ?_ (by decide) (by decide)
          show (Q_rm_ko Z kx kn kk ku ks ke h0 n0) (some (.ref ke)) T50.heap _
          rw [e50]
          exact ⟨_, rfl, N0, rfl⟩
def Q_rm_tx (Z : State) (mo : Int32) (chs : Int32) (gc : Int32) (h0 : Heap) (n0 : Nat) (v : Option Value) (h : Heap) (L : List Loc) : Prop := ∃ (xr tr : Addr) (cs : List Int32), v = some (.ref xr) ∧ Fr n0 L ∧ Keep h0 h [] ∧ own_Str Z h xr tr cs ∧ (∀ c ∈ cs, ¬ c < 0 ∧ ¬ (255 : Int32) < c)
theorem ef_rm_tx (m : MethodId) (mo : Int32) (chs : Int32) (gc : Int32) : entryFrame m #[(.int mo), (.int chs)] 8 = mkF m 0 #[.val (.int mo), .val (.int chs), .unset, .unset, .unset, .unset, .unset, .unset] [] := by first | (simp [entryFrame, mkF, argsToLocals, Value.category]; done) | rfl
set_option maxRecDepth 65536 in
set_option maxHeartbeats 40000000 in
theorem rm_tx (l : Launch) (Z : State) (a0 : Array Value) (hw : ∀ d ∈ tables_1, d.before a0 Z = true) (ws : List Jvm.Cond) (hEL : EW Z a0 consts_1) (mo : Int32) (chs : Int32) (gc : Int32) (h0 : Heap) (n0 : Nat) (Z0 : n0 ≤ h0.size) (S_C : Sta Z Z.heap "java/lang/String" "COMPACT_STRINGS" "Z" (.int gc)) (hcs : ¬ gc = 0) (O0 : Old Z n0 h0) :
    MetFree l (⟨"com/example/obra/obra/TypeScopeIsBitwidthPinLaw", "textOf", "(II)Ljava/lang/String;"⟩ : MethodName) (head1 (Jvm.Cond.code (⟨"com/example/obra/obra/TypeScopeIsBitwidthPinLaw", "textOf", "(II)Ljava/lang/String;"⟩ : MethodName) method_4_code 8 (some (.object "java/lang/String")) :: ws) ({ frames := 4, cells := 6, slots := 16, locals := 66 } : Room)) (fun a_ U_ => a_ = #[(.int mo), (.int chs)] ∧ Z.Warmed39 U_.vm ∧ U_.heap = h0 ∧ CHv Z consts_1 U_.vm h0) (fun _ _ _ _ _ => True) (fun _ U_ o_ V_ => ∃ v_ L_, o_ = .returned v_ ∧ (Q_rm_tx Z mo chs gc h0 n0) v_ V_.heap L_ ∧ CHr Z consts_1 U_.vm U_.heap V_.vm V_.heap ∧ ReturnedEndW U_ o_ V_ L_ ({ frames := 4, cells := 6, slots := 16, locals := 66 } : Room).cells ({ frames := 4, cells := 6, slots := 16, locals := 66 } : Room).slots) := by
  refine MetFree.of_bodySF (plainFor_of_name pn_6) hisR ?_
  intro p e s m args below meth c s₁ Bd hml0 hP hK
  obtain ⟨rfl, hZ, hh, CH⟩ := hP
  have hx := Bd.exec
  have hby := Bd.bytes
  have hml : c.maxLocals = 8 := hml0
  have hown : s.vm.findClass "com/example/obra/obra/TypeScopeIsBitwidthPinLaw" = some m.cls := findClass_of_methodNamed Bd.named
  have hnm := (name_of_methodNamed Bd.named Bd.method).1
  have wS : ∀ a ∈ Bundle.stringAtoms, a.before a0 Z = true := fun d hd => hw d ((by decide +kernel : ∀ d ∈ Bundle.stringAtoms, d ∈ tables_1) d hd)
  have X0 : Stand p l e ({ frames := 4, cells := 6, slots := 16, locals := 66 } : Room) (s.setVm s.vm) m #[(.int mo), (.int chs)] below meth c s₁ [] 0 0 := Stand.of_body Bd
  have e0 : s₁.heap = h0 := by rw [← hh, Bd.state]; rfl
  have N0 := Fr.nil n0
  have K0 : Keep h0 h0 [] := Keep.refl _ _
  replace hZ : Z.Warmed39 (s.setVm s.vm).vm := hZ
  replace hown : (s.setVm s.vm).vm.findClass "com/example/obra/obra/TypeScopeIsBitwidthPinLaw" = some m.cls := hown
  have hS : s.Since s.vm h0.size := (State.WarmedH.refl s).since _
  have hk : h0.size ≤ h0.size := Nat.le_refl _
  have CR : CHr Z consts_1 s.vm h0 s.vm h0 := CHr.refl CH
  show own_Fin p.tables e below (own_PostW Z consts_1 (Q_rm_tx Z mo chs gc h0 n0) ({ frames := 4, cells := 6, slots := 16, locals := 66 } : Room).cells ({ frames := 4, cells := 6, slots := 16, locals := 66 } : Room).slots below s) _
  refine own_go (fun _ kk_ => castTop (ef_rm_tx m mo chs gc) kk_) ?_
  have hws : ∀ d ∈ StrChars.Road.words, d.before a0 Z = true := fun d hd => hw d ((by decide +kernel : ∀ d ∈ StrChars.Road.words, d ∈ tables_1) d hd)
  refine own_go (fun _ kk_ => XS.iloadN X0.here hx rfl (hb hby d2_0) rfl kk_) ?_
  refine own_go (fun _ kk_ => XS.iconst X0.here hx rfl (hb hby d2_1) kk_) ?_
  show own_Fin p.tables e below _ (s₁.setTop (mkF m 2 #[.val (.int mo), .val (.int chs), .unset, .unset, .unset, .unset, .unset, .unset] [(.int (3 : Int32)), (.int mo)]))
  refine own_go (fun _ kk_ => XS.iand X0.here hx rfl (hb hby d2_2) rfl kk_) ?_
  refine own_go (fun _ kk_ => XS.istoreN X0.here hx rfl (hb hby d2_3) rfl (l' := #[.val (.int mo), .val (.int chs), .val (.int (mo &&& (3 : Int32))), .unset, .unset, .unset, .unset, .unset]) rfl kk_) ?_
  refine own_go (fun _ kk_ => XS.iloadN X0.here hx rfl (hb hby d2_4) rfl kk_) ?_
  show own_Fin p.tables e below _ (s₁.setTop (mkF m 5 #[.val (.int mo), .val (.int chs), .val (.int (mo &&& (3 : Int32))), .unset, .unset, .unset, .unset, .unset] [(.int (mo &&& (3 : Int32)))]))
  by_cases hc51 : (mo &&& (3 : Int32)) = (0 : Int32)
  · skip
    refine own_go (fun _ kk_ => XS.ifNo X0.here hx rfl (hb hby d2_5) rfl ((if0 _ _).trans (teq hc51).2) kk_) ?_
    show own_Fin p.tables e below _ (s₁.setTop (mkF m 8 #[.val (.int mo), .val (.int chs), .val (.int (mo &&& (3 : Int32))), .unset, .unset, .unset, .unset, .unset] []))
    obtain ⟨a52, T52, h52, k52, tb52, kb52, X52, e52, E52, hS, hk, hZ, hown, EA52, FC52, FV52, VB52, -, -, CR52, -, NE52, st52⟩ := ldcCH X0 hx hZ hown (hw _ (List.mem_of_getElem? (i := 120) rfl)) wS e0 hS hk hEL (by decide) CH (vs := ((([(73 : Int32), (110 : Int32), (116 : Int32)] : List Int32).map (fun c => c.toInt8.toInt32)).map Value.int)) (z := (3 : Int32)) (by exact ⟨by decide, by decide⟩) (by decide) rfl (g := (mkF m 8 #[.val (.int mo), .val (.int chs), .val (.int (mo &&& (3 : Int32))), .unset, .unset, .unset, .unset, .unset] [])) rfl (hb hby d2_8) (n := 12) (by decide) (by decide) (by decide) (by decide)
    replace CR := CR.trans CR52
    replace CH := CR52.1
    replace O0 := O0.ext E52
    have K53 := K0.ext E52
    have SS52 : own_Str Z h52 a52 tb52 ([(73 : Int32), (110 : Int32), (116 : Int32)] : List Int32) := ⟨_, _, _, _, EA52, FV52, FC52, VB52, StrChars.Road.codOf (n := 3) rfl (by decide), by decide, Nat.le_of_ble_eq_true rfl⟩
    refine own_go st52 ?_
    show own_Fin p.tables e below _ (T52.setTop (mkF m 10 #[.val (.int mo), .val (.int chs), .val (.int (mo &&& (3 : Int32))), .unset, .unset, .unset, .unset, .unset] [(.ref a52)]))
    have CRz : CHr Z consts_1 s.vm s.heap T52.vm T52.heap := by
      rw [hh, e52]
      exact CR.trans (CHv.at X52 hZ hEL CH)
    refine own_retW X52 hx Bd hS (show _ ≤ T52.heap.size by rw [e52]; exact hk) (t := (.object "java/lang/String")) Bd.returns rfl (Or.inr (Or.inr (Or.inr (Or.inr ⟨rfl, rfl, rfl⟩)))) (hb hby d2_10) CRz ?_ (by decide) (by decide)
    show (Q_rm_tx Z mo chs gc h0 n0) (some (.ref a52)) T52.heap _
    rw [e52]
    refine ⟨_, _, ([(73 : Int32), (110 : Int32), (116 : Int32)] : List Int32), rfl, N0, K53, SS52, ?_⟩
    decide
  · skip
    refine own_go (fun _ kk_ => XS.ifYes X0.here hx rfl (pc0 := 5) (pc' := 11) rfl (hb hby d2_5) rfl ((if0 _ _).trans (feq hc51).2) (by decide) (by decide) kk_) ?_
    refine own_go (fun _ kk_ => XS.iloadN X0.here hx rfl (hb hby d2_11) rfl kk_) ?_
    refine own_go (fun _ kk_ => XS.iconst X0.here hx rfl (hb hby d2_12) kk_) ?_
    show own_Fin p.tables e below _ (s₁.setTop (mkF m 13 #[.val (.int mo), .val (.int chs), .val (.int (mo &&& (3 : Int32))), .unset, .unset, .unset, .unset, .unset] [(.int (1 : Int32)), (.int (mo &&& (3 : Int32)))]))
    by_cases hc54 : (mo &&& (3 : Int32)) = (1 : Int32)
    · skip
      refine own_go (fun _ kk_ => XS.icmpNo X0.here hx rfl (hb hby d2_13) rfl (teq hc54).2 kk_) ?_
      show own_Fin p.tables e below _ (s₁.setTop (mkF m 16 #[.val (.int mo), .val (.int chs), .val (.int (mo &&& (3 : Int32))), .unset, .unset, .unset, .unset, .unset] []))
      obtain ⟨a55, T55, h55, k55, tb55, kb55, X55, e55, E55, hS, hk, hZ, hown, EA55, FC55, FV55, VB55, -, -, CR55, -, NE55, st55⟩ := ldcCH X0 hx hZ hown (hw _ (List.mem_of_getElem? (i := 144) rfl)) wS e0 hS hk hEL (by decide) CH (vs := ((([(105 : Int32), (110 : Int32), (116 : Int32)] : List Int32).map (fun c => c.toInt8.toInt32)).map Value.int)) (z := (3 : Int32)) (by exact ⟨by decide, by decide⟩) (by decide) rfl (g := (mkF m 16 #[.val (.int mo), .val (.int chs), .val (.int (mo &&& (3 : Int32))), .unset, .unset, .unset, .unset, .unset] [])) rfl (hb hby d2_16) (n := 12) (by decide) (by decide) (by decide) (by decide)
      replace CR := CR.trans CR55
      replace CH := CR55.1
      replace O0 := O0.ext E55
      have K56 := K0.ext E55
      have SS55 : own_Str Z h55 a55 tb55 ([(105 : Int32), (110 : Int32), (116 : Int32)] : List Int32) := ⟨_, _, _, _, EA55, FV55, FC55, VB55, StrChars.Road.codOf (n := 3) rfl (by decide), by decide, Nat.le_of_ble_eq_true rfl⟩
      refine own_go st55 ?_
      show own_Fin p.tables e below _ (T55.setTop (mkF m 18 #[.val (.int mo), .val (.int chs), .val (.int (mo &&& (3 : Int32))), .unset, .unset, .unset, .unset, .unset] [(.ref a55)]))
      have CRz : CHr Z consts_1 s.vm s.heap T55.vm T55.heap := by
        rw [hh, e55]
        exact CR.trans (CHv.at X55 hZ hEL CH)
      refine own_retW X55 hx Bd hS (show _ ≤ T55.heap.size by rw [e55]; exact hk) (t := (.object "java/lang/String")) Bd.returns rfl (Or.inr (Or.inr (Or.inr (Or.inr ⟨rfl, rfl, rfl⟩)))) (hb hby d2_18) CRz ?_ (by decide) (by decide)
      show (Q_rm_tx Z mo chs gc h0 n0) (some (.ref a55)) T55.heap _
      rw [e55]
      refine ⟨_, _, ([(105 : Int32), (110 : Int32), (116 : Int32)] : List Int32), rfl, N0, K56, SS55, ?_⟩
      decide
    · skip
      refine own_go (fun _ kk_ => XS.icmpYes X0.here hx rfl (pc0 := 13) (pc' := 19) rfl (hb hby d2_13) rfl (feq hc54).2 (by decide) (by decide) kk_) ?_
      refine own_go (fun _ kk_ => XS.iloadN X0.here hx rfl (hb hby d2_19) rfl kk_) ?_
      refine own_go (fun _ kk_ => XS.iconst X0.here hx rfl (hb hby d2_20) kk_) ?_
      show own_Fin p.tables e below _ (s₁.setTop (mkF m 21 #[.val (.int mo), .val (.int chs), .val (.int (mo &&& (3 : Int32))), .unset, .unset, .unset, .unset, .unset] [(.int (2 : Int32)), (.int mo)]))
      refine own_go (fun _ kk_ => XS.iushr X0.here hx rfl (hb hby d2_21) rfl kk_) ?_
      refine own_go (fun _ kk_ => XS.bipush X0.here hx rfl (hb hby d2_22) kk_) ?_
      show own_Fin p.tables e below _ (s₁.setTop (mkF m 24 #[.val (.int mo), .val (.int chs), .val (.int (mo &&& (3 : Int32))), .unset, .unset, .unset, .unset, .unset] [(.int (7 : Int32)), (.int ((mo.toUInt32 >>> ((2 : Int32) &&& 31).toUInt32).toInt32))]))
      refine own_go (fun _ kk_ => XS.iand X0.here hx rfl (hb hby d2_24) rfl kk_) ?_
      refine own_go (fun _ kk_ => XS.iconst X0.here hx rfl (hb hby d2_25) kk_) ?_
      show own_Fin p.tables e below _ (s₁.setTop (mkF m 26 #[.val (.int mo), .val (.int chs), .val (.int (mo &&& (3 : Int32))), .unset, .unset, .unset, .unset, .unset] [(.int (5 : Int32)), (.int (((mo.toUInt32 >>> ((2 : Int32) &&& 31).toUInt32).toInt32) &&& (7 : Int32)))]))
      refine own_go (fun _ kk_ => iremM X0 hx rfl  (hb hby d2_26) rfl (by decide) kk_) ?_
      refine own_go (fun _ kk_ => XS.istoreN X0.here hx rfl (hb hby d2_27) rfl (l' := #[.val (.int mo), .val (.int chs), .val (.int (mo &&& (3 : Int32))), .val (.int ((((mo.toUInt32 >>> ((2 : Int32) &&& 31).toUInt32).toInt32) &&& (7 : Int32)) % (5 : Int32))), .unset, .unset, .unset, .unset]) rfl kk_) ?_
      refine own_go (fun _ kk_ => XS.iloadN X0.here hx rfl (hb hby d2_28) rfl kk_) ?_
      refine own_go (fun _ kk_ => XS.sipush X0.here hx rfl (hb hby d2_29) kk_) ?_
      show own_Fin p.tables e below _ (s₁.setTop (mkF m 32 #[.val (.int mo), .val (.int chs), .val (.int (mo &&& (3 : Int32))), .val (.int ((((mo.toUInt32 >>> ((2 : Int32) &&& 31).toUInt32).toInt32) &&& (7 : Int32)) % (5 : Int32))), .unset, .unset, .unset, .unset] [(.int (255 : Int32)), (.int chs)]))
      refine own_go (fun _ kk_ => XS.iand X0.here hx rfl (hb hby d2_32) rfl kk_) ?_
      show own_Fin p.tables e below _ (s₁.setTop (mkF m 33 #[.val (.int mo), .val (.int chs), .val (.int (mo &&& (3 : Int32))), .val (.int ((((mo.toUInt32 >>> ((2 : Int32) &&& 31).toUInt32).toInt32) &&& (7 : Int32)) % (5 : Int32))), .unset, .unset, .unset, .unset] [(.int (chs &&& (255 : Int32)))]))
      refine own_go (fun _ kk_ => XS.i2c X0.here hx rfl (hb hby d2_33) rfl kk_) ?_
      rw [i2c_mask]
      refine own_go (fun _ kk_ => XS.istore X0.here hx rfl (hb hby d2_34) rfl (l' := #[.val (.int mo), .val (.int chs), .val (.int (mo &&& (3 : Int32))), .val (.int ((((mo.toUInt32 >>> ((2 : Int32) &&& 31).toUInt32).toInt32) &&& (7 : Int32)) % (5 : Int32))), .val (.int (chs &&& (255 : Int32))), .unset, .unset, .unset]) rfl kk_) ?_
      refine own_go (fun _ kk_ => XS.iloadN X0.here hx rfl (hb hby d2_36) rfl kk_) ?_
      refine own_go (fun _ kk_ => XS.bipush X0.here hx rfl (hb hby d2_37) kk_) ?_
      show own_Fin p.tables e below _ (s₁.setTop (mkF m 39 #[.val (.int mo), .val (.int chs), .val (.int (mo &&& (3 : Int32))), .val (.int ((((mo.toUInt32 >>> ((2 : Int32) &&& 31).toUInt32).toInt32) &&& (7 : Int32)) % (5 : Int32))), .val (.int (chs &&& (255 : Int32))), .unset, .unset, .unset] [(.int (8 : Int32)), (.int chs)]))
      refine own_go (fun _ kk_ => XS.iushr X0.here hx rfl (hb hby d2_39) rfl kk_) ?_
      refine own_go (fun _ kk_ => XS.sipush X0.here hx rfl (hb hby d2_40) kk_) ?_
      show own_Fin p.tables e below _ (s₁.setTop (mkF m 43 #[.val (.int mo), .val (.int chs), .val (.int (mo &&& (3 : Int32))), .val (.int ((((mo.toUInt32 >>> ((2 : Int32) &&& 31).toUInt32).toInt32) &&& (7 : Int32)) % (5 : Int32))), .val (.int (chs &&& (255 : Int32))), .unset, .unset, .unset] [(.int (255 : Int32)), (.int ((chs.toUInt32 >>> ((8 : Int32) &&& 31).toUInt32).toInt32))]))
      refine own_go (fun _ kk_ => XS.iand X0.here hx rfl (hb hby d2_43) rfl kk_) ?_
      show own_Fin p.tables e below _ (s₁.setTop (mkF m 44 #[.val (.int mo), .val (.int chs), .val (.int (mo &&& (3 : Int32))), .val (.int ((((mo.toUInt32 >>> ((2 : Int32) &&& 31).toUInt32).toInt32) &&& (7 : Int32)) % (5 : Int32))), .val (.int (chs &&& (255 : Int32))), .unset, .unset, .unset] [(.int (((chs.toUInt32 >>> ((8 : Int32) &&& 31).toUInt32).toInt32) &&& (255 : Int32)))]))
      refine own_go (fun _ kk_ => XS.i2c X0.here hx rfl (hb hby d2_44) rfl kk_) ?_
      rw [i2c_mask]
      refine own_go (fun _ kk_ => XS.istore X0.here hx rfl (hb hby d2_45) rfl (l' := #[.val (.int mo), .val (.int chs), .val (.int (mo &&& (3 : Int32))), .val (.int ((((mo.toUInt32 >>> ((2 : Int32) &&& 31).toUInt32).toInt32) &&& (7 : Int32)) % (5 : Int32))), .val (.int (chs &&& (255 : Int32))), .val (.int (((chs.toUInt32 >>> ((8 : Int32) &&& 31).toUInt32).toInt32) &&& (255 : Int32))), .unset, .unset]) rfl kk_) ?_
      refine own_go (fun _ kk_ => XS.iloadN X0.here hx rfl (hb hby d2_47) rfl kk_) ?_
      refine own_go (fun _ kk_ => XS.bipush X0.here hx rfl (hb hby d2_48) kk_) ?_
      show own_Fin p.tables e below _ (s₁.setTop (mkF m 50 #[.val (.int mo), .val (.int chs), .val (.int (mo &&& (3 : Int32))), .val (.int ((((mo.toUInt32 >>> ((2 : Int32) &&& 31).toUInt32).toInt32) &&& (7 : Int32)) % (5 : Int32))), .val (.int (chs &&& (255 : Int32))), .val (.int (((chs.toUInt32 >>> ((8 : Int32) &&& 31).toUInt32).toInt32) &&& (255 : Int32))), .unset, .unset] [(.int (16 : Int32)), (.int chs)]))
      refine own_go (fun _ kk_ => XS.iushr X0.here hx rfl (hb hby d2_50) rfl kk_) ?_
      refine own_go (fun _ kk_ => XS.sipush X0.here hx rfl (hb hby d2_51) kk_) ?_
      show own_Fin p.tables e below _ (s₁.setTop (mkF m 54 #[.val (.int mo), .val (.int chs), .val (.int (mo &&& (3 : Int32))), .val (.int ((((mo.toUInt32 >>> ((2 : Int32) &&& 31).toUInt32).toInt32) &&& (7 : Int32)) % (5 : Int32))), .val (.int (chs &&& (255 : Int32))), .val (.int (((chs.toUInt32 >>> ((8 : Int32) &&& 31).toUInt32).toInt32) &&& (255 : Int32))), .unset, .unset] [(.int (255 : Int32)), (.int ((chs.toUInt32 >>> ((16 : Int32) &&& 31).toUInt32).toInt32))]))
      refine own_go (fun _ kk_ => XS.iand X0.here hx rfl (hb hby d2_54) rfl kk_) ?_
      show own_Fin p.tables e below _ (s₁.setTop (mkF m 55 #[.val (.int mo), .val (.int chs), .val (.int (mo &&& (3 : Int32))), .val (.int ((((mo.toUInt32 >>> ((2 : Int32) &&& 31).toUInt32).toInt32) &&& (7 : Int32)) % (5 : Int32))), .val (.int (chs &&& (255 : Int32))), .val (.int (((chs.toUInt32 >>> ((8 : Int32) &&& 31).toUInt32).toInt32) &&& (255 : Int32))), .unset, .unset] [(.int (((chs.toUInt32 >>> ((16 : Int32) &&& 31).toUInt32).toInt32) &&& (255 : Int32)))]))
      refine own_go (fun _ kk_ => XS.i2c X0.here hx rfl (hb hby d2_55) rfl kk_) ?_
      rw [i2c_mask]
      refine own_go (fun _ kk_ => XS.istore X0.here hx rfl (hb hby d2_56) rfl (l' := #[.val (.int mo), .val (.int chs), .val (.int (mo &&& (3 : Int32))), .val (.int ((((mo.toUInt32 >>> ((2 : Int32) &&& 31).toUInt32).toInt32) &&& (7 : Int32)) % (5 : Int32))), .val (.int (chs &&& (255 : Int32))), .val (.int (((chs.toUInt32 >>> ((8 : Int32) &&& 31).toUInt32).toInt32) &&& (255 : Int32))), .val (.int (((chs.toUInt32 >>> ((16 : Int32) &&& 31).toUInt32).toInt32) &&& (255 : Int32))), .unset]) rfl kk_) ?_
      refine own_go (fun _ kk_ => XS.iloadN X0.here hx rfl (hb hby d2_58) rfl kk_) ?_
      refine own_go (fun _ kk_ => XS.bipush X0.here hx rfl (hb hby d2_59) kk_) ?_
      show own_Fin p.tables e below _ (s₁.setTop (mkF m 61 #[.val (.int mo), .val (.int chs), .val (.int (mo &&& (3 : Int32))), .val (.int ((((mo.toUInt32 >>> ((2 : Int32) &&& 31).toUInt32).toInt32) &&& (7 : Int32)) % (5 : Int32))), .val (.int (chs &&& (255 : Int32))), .val (.int (((chs.toUInt32 >>> ((8 : Int32) &&& 31).toUInt32).toInt32) &&& (255 : Int32))), .val (.int (((chs.toUInt32 >>> ((16 : Int32) &&& 31).toUInt32).toInt32) &&& (255 : Int32))), .unset] [(.int (24 : Int32)), (.int chs)]))
      refine own_go (fun _ kk_ => XS.iushr X0.here hx rfl (hb hby d2_61) rfl kk_) ?_
      refine own_go (fun _ kk_ => XS.sipush X0.here hx rfl (hb hby d2_62) kk_) ?_
      show own_Fin p.tables e below _ (s₁.setTop (mkF m 65 #[.val (.int mo), .val (.int chs), .val (.int (mo &&& (3 : Int32))), .val (.int ((((mo.toUInt32 >>> ((2 : Int32) &&& 31).toUInt32).toInt32) &&& (7 : Int32)) % (5 : Int32))), .val (.int (chs &&& (255 : Int32))), .val (.int (((chs.toUInt32 >>> ((8 : Int32) &&& 31).toUInt32).toInt32) &&& (255 : Int32))), .val (.int (((chs.toUInt32 >>> ((16 : Int32) &&& 31).toUInt32).toInt32) &&& (255 : Int32))), .unset] [(.int (255 : Int32)), (.int ((chs.toUInt32 >>> ((24 : Int32) &&& 31).toUInt32).toInt32))]))
      refine own_go (fun _ kk_ => XS.iand X0.here hx rfl (hb hby d2_65) rfl kk_) ?_
      show own_Fin p.tables e below _ (s₁.setTop (mkF m 66 #[.val (.int mo), .val (.int chs), .val (.int (mo &&& (3 : Int32))), .val (.int ((((mo.toUInt32 >>> ((2 : Int32) &&& 31).toUInt32).toInt32) &&& (7 : Int32)) % (5 : Int32))), .val (.int (chs &&& (255 : Int32))), .val (.int (((chs.toUInt32 >>> ((8 : Int32) &&& 31).toUInt32).toInt32) &&& (255 : Int32))), .val (.int (((chs.toUInt32 >>> ((16 : Int32) &&& 31).toUInt32).toInt32) &&& (255 : Int32))), .unset] [(.int (((chs.toUInt32 >>> ((24 : Int32) &&& 31).toUInt32).toInt32) &&& (255 : Int32)))]))
      refine own_go (fun _ kk_ => XS.i2c X0.here hx rfl (hb hby d2_66) rfl kk_) ?_
      rw [i2c_mask]
      refine own_go (fun _ kk_ => XS.istore X0.here hx rfl (hb hby d2_67) rfl (l' := #[.val (.int mo), .val (.int chs), .val (.int (mo &&& (3 : Int32))), .val (.int ((((mo.toUInt32 >>> ((2 : Int32) &&& 31).toUInt32).toInt32) &&& (7 : Int32)) % (5 : Int32))), .val (.int (chs &&& (255 : Int32))), .val (.int (((chs.toUInt32 >>> ((8 : Int32) &&& 31).toUInt32).toInt32) &&& (255 : Int32))), .val (.int (((chs.toUInt32 >>> ((16 : Int32) &&& 31).toUInt32).toInt32) &&& (255 : Int32))), .val (.int (((chs.toUInt32 >>> ((24 : Int32) &&& 31).toUInt32).toInt32) &&& (255 : Int32)))]) rfl kk_) ?_
      refine own_go (fun _ kk_ => XS.iloadN X0.here hx rfl (hb hby d2_69) rfl kk_) ?_
      show own_Fin p.tables e below _ (s₁.setTop (mkF m 70 #[.val (.int mo), .val (.int chs), .val (.int (mo &&& (3 : Int32))), .val (.int ((((mo.toUInt32 >>> ((2 : Int32) &&& 31).toUInt32).toInt32) &&& (7 : Int32)) % (5 : Int32))), .val (.int (chs &&& (255 : Int32))), .val (.int (((chs.toUInt32 >>> ((8 : Int32) &&& 31).toUInt32).toInt32) &&& (255 : Int32))), .val (.int (((chs.toUInt32 >>> ((16 : Int32) &&& 31).toUInt32).toInt32) &&& (255 : Int32))), .val (.int (((chs.toUInt32 >>> ((24 : Int32) &&& 31).toUInt32).toInt32) &&& (255 : Int32)))] [(.int ((((mo.toUInt32 >>> ((2 : Int32) &&& 31).toUInt32).toInt32) &&& (7 : Int32)) % (5 : Int32)))]))
      by_cases hc57 : ((((mo.toUInt32 >>> ((2 : Int32) &&& 31).toUInt32).toInt32) &&& (7 : Int32)) % (5 : Int32)) = (0 : Int32)
      · skip
        refine own_go (fun _ kk_ => XS.ifNo X0.here hx rfl (hb hby d2_70) rfl ((if0 _ _).trans (teq hc57).2) kk_) ?_
        show own_Fin p.tables e below _ (s₁.setTop (mkF m 73 #[.val (.int mo), .val (.int chs), .val (.int (mo &&& (3 : Int32))), .val (.int ((((mo.toUInt32 >>> ((2 : Int32) &&& 31).toUInt32).toInt32) &&& (7 : Int32)) % (5 : Int32))), .val (.int (chs &&& (255 : Int32))), .val (.int (((chs.toUInt32 >>> ((8 : Int32) &&& 31).toUInt32).toInt32) &&& (255 : Int32))), .val (.int (((chs.toUInt32 >>> ((16 : Int32) &&& 31).toUInt32).toInt32) &&& (255 : Int32))), .val (.int (((chs.toUInt32 >>> ((24 : Int32) &&& 31).toUInt32).toInt32) &&& (255 : Int32)))] []))
        obtain ⟨T58, h58, X58, e58, E58, A58, D58, -, st58⟩ := newO X0 hx hZ hown (hw _ (List.mem_of_getElem? (i := 11) rfl)) (hw _ (List.mem_of_getElem? (i := 12) rfl)) (hw _ (List.mem_of_getElem? (i := 13) rfl)) e0 (g := (mkF m 73 #[.val (.int mo), .val (.int chs), .val (.int (mo &&& (3 : Int32))), .val (.int ((((mo.toUInt32 >>> ((2 : Int32) &&& 31).toUInt32).toInt32) &&& (7 : Int32)) % (5 : Int32))), .val (.int (chs &&& (255 : Int32))), .val (.int (((chs.toUInt32 >>> ((8 : Int32) &&& 31).toUInt32).toInt32) &&& (255 : Int32))), .val (.int (((chs.toUInt32 >>> ((16 : Int32) &&& 31).toUInt32).toInt32) &&& (255 : Int32))), .val (.int (((chs.toUInt32 >>> ((24 : Int32) &&& 31).toUInt32).toInt32) &&& (255 : Int32)))] [])) rfl (hb hby d2_73) (by decide) (by decide)
        obtain ⟨b58, g58⟩ : ∃ z, z = h0.size := ⟨_, rfl⟩
        rw [← g58] at A58 D58 st58
        have sz_b58 : h0.size ≤ b58 := Nat.le_trans K0.1 (Nat.le_of_eq g58.symm)
        have g_b58 : n0 ≤ b58 := Nat.le_trans Z0 sz_b58
        have S_b58 := Safe.new (Z := Z) (EL := consts_1) (vm := s.vm) (Nat.le_of_eq g58.symm)
        replace S_b58 := Safe.ext E58 CH S_b58
        replace CR := CR.trans (CHr.ext E58 CH)
        replace CH := CH.ext E58
        replace hk := Nat.le_trans hk E58.1
        replace O0 := O0.ext E58
        have K59 := K0.ext E58
        have F58_value : Fld Z h58 b58 "java/lang/String" "value" "[B" .null := D58 (Or.inr (hw _ (List.mem_of_getElem? (i := 27) rfl))) (ty := (.array .byte)) (by decide)
        have F58_coder : Fld Z h58 b58 "java/lang/String" "coder" "B" (.int (0 : Int32)) := D58 (Or.inr (hw _ (List.mem_of_getElem? (i := 28) rfl))) (ty := .byte) (by decide)
        refine own_go st58 ?_
        refine own_go (fun _ kk_ => XS.dup X58.here hx rfl (hb hby d2_76) rfl rfl kk_) ?_
        refine own_go (fun _ kk_ => XS.iconst X58.here hx rfl (hb hby d2_77) kk_) ?_
        show own_Fin p.tables e below _ (T58.setTop (mkF m 78 #[.val (.int mo), .val (.int chs), .val (.int (mo &&& (3 : Int32))), .val (.int ((((mo.toUInt32 >>> ((2 : Int32) &&& 31).toUInt32).toInt32) &&& (7 : Int32)) % (5 : Int32))), .val (.int (chs &&& (255 : Int32))), .val (.int (((chs.toUInt32 >>> ((8 : Int32) &&& 31).toUInt32).toInt32) &&& (255 : Int32))), .val (.int (((chs.toUInt32 >>> ((16 : Int32) &&& 31).toUInt32).toInt32) &&& (255 : Int32))), .val (.int (((chs.toUInt32 >>> ((24 : Int32) &&& 31).toUInt32).toInt32) &&& (255 : Int32)))] [(.int (0 : Int32)), (.ref b58), (.ref b58)]))
        obtain ⟨T60, h60, k60, X60, e60, E60, A60, st60⟩ := newP X58 hx hZ (hw _ (List.mem_of_getElem? (i := 14) rfl)) e58 (g := (mkF m 78 #[.val (.int mo), .val (.int chs), .val (.int (mo &&& (3 : Int32))), .val (.int ((((mo.toUInt32 >>> ((2 : Int32) &&& 31).toUInt32).toInt32) &&& (7 : Int32)) % (5 : Int32))), .val (.int (chs &&& (255 : Int32))), .val (.int (((chs.toUInt32 >>> ((8 : Int32) &&& 31).toUInt32).toInt32) &&& (255 : Int32))), .val (.int (((chs.toUInt32 >>> ((16 : Int32) &&& 31).toUInt32).toInt32) &&& (255 : Int32))), .val (.int (((chs.toUInt32 >>> ((24 : Int32) &&& 31).toUInt32).toInt32) &&& (255 : Int32)))] [(.int (0 : Int32)), (.ref b58), (.ref b58)])) rfl (hb hby d2_78) rfl (by decide) (cap := 0) (by decide) (by decide) (by decide) (by decide)
        obtain ⟨b60, g60⟩ : ∃ z, z = h58.size := ⟨_, rfl⟩
        rw [← g60] at A60 st60
        have sz_b60 : h0.size ≤ b60 := Nat.le_trans K59.1 (Nat.le_of_eq g60.symm)
        have g_b60 : n0 ≤ b60 := Nat.le_trans Z0 sz_b60
        have ne61 : b58 ≠ b60 := Nat.ne_of_lt (Nat.lt_of_lt_of_le A58.lt (Nat.le_of_eq g60.symm))
        have S_b60 := Safe.new (Z := Z) (EL := consts_1) (vm := s.vm) (Nat.le_of_eq g60.symm)
        replace S_b58 := Safe.ext E60 CH S_b58
        replace S_b60 := Safe.ext E60 CH S_b60
        replace CR := CR.trans (CHr.ext E60 CH)
        replace CH := CH.ext E60
        replace hk := Nat.le_trans hk E60.1
        replace O0 := O0.ext E60
        replace A58 := A58.ext E60
        replace F58_value := F58_value.ext E60
        replace F58_coder := F58_coder.ext E60
        have K62 := K59.ext E60
        have V60 : Arv Z h60 b60 k60 .char (0 : Int32) [] (.int (0 : Int32)) := (Arv.new A60 (by decide)).pad (pad_rep [] (.int (0 : Int32)) 0)
        refine own_go st60 ?_
        show own_Fin p.tables e below _ (T60.setTop (mkF m 80 #[.val (.int mo), .val (.int chs), .val (.int (mo &&& (3 : Int32))), .val (.int ((((mo.toUInt32 >>> ((2 : Int32) &&& 31).toUInt32).toInt32) &&& (7 : Int32)) % (5 : Int32))), .val (.int (chs &&& (255 : Int32))), .val (.int (((chs.toUInt32 >>> ((8 : Int32) &&& 31).toUInt32).toInt32) &&& (255 : Int32))), .val (.int (((chs.toUInt32 >>> ((16 : Int32) &&& 31).toUInt32).toInt32) &&& (255 : Int32))), .val (.int (((chs.toUInt32 >>> ((24 : Int32) &&& 31).toUInt32).toInt32) &&& (255 : Int32)))] [(.ref b60), (.ref b58), (.ref b58)]))
        obtain ⟨_, _, ⟨T63, L63, k63, n63⟩, -, X63, hSn63, hgr63, ⟨Lc63, hQ63, l63, y63, z63, CR63⟩, st63⟩ := X60.specialBackS hx (y := (⟨"java/lang/String", "<init>", "([C)V"⟩ : MethodName)) rfl hown (mvT hZ (hw _ (List.mem_of_getElem? (i := 15) rfl))) (mvT hZ (hw _ (List.mem_of_getElem? (i := 16) rfl))) (mvT hZ (hw _ (List.mem_of_getElem? (i := 17) rfl))) (by decide) (backOfSH (s := s) (W := 1) (rm_ne l Z a0 hw [] hEL b58 b60 k60 gc h60 n0 (Nat.le_trans Z0 K62.1) A58 F58_value F58_coder g_b58 V60 (Ne.symm ne61) O0) hZ (hw _ (List.mem_of_getElem? (i := 17) rfl)) (hw _ (List.mem_of_getElem? (i := 13) rfl)) (by decide) (by decide) hEL CH) (g := (mkF m 80 #[.val (.int mo), .val (.int chs), .val (.int (mo &&& (3 : Int32))), .val (.int ((((mo.toUInt32 >>> ((2 : Int32) &&& 31).toUInt32).toInt32) &&& (7 : Int32)) % (5 : Int32))), .val (.int (chs &&& (255 : Int32))), .val (.int (((chs.toUInt32 >>> ((8 : Int32) &&& 31).toUInt32).toInt32) &&& (255 : Int32))), .val (.int (((chs.toUInt32 >>> ((16 : Int32) &&& 31).toUInt32).toInt32) &&& (255 : Int32))), .val (.int (((chs.toUInt32 >>> ((24 : Int32) &&& 31).toUInt32).toInt32) &&& (255 : Int32)))] [(.ref b60), (.ref b58), (.ref b58)])) rfl (by rw [hml]; rfl) (Steps.refl _) (a := b58) (argsL := [(.ref b60)]) (rest := [(.ref b58)]) (lenOf pd_7 rfl) rfl (by show 2 * 0 + _ ≤ _; exact Nat.le_of_eq rfl) (hb hby d2_80) (fun _ _ => ⟨rfl, e60, (by decide : 2 + 4 ≤ _), (by decide : 4 + 8 ≤ _)⟩)
        dsimp only [Pt.U, Pt.locs, Pt.cells, Pt.slots] at X63 l63 y63 z63 st63 hQ63 hSn63 hgr63 CR63
        subst l63 y63 z63
        replace hS := foldS hS (show _ ≤ T60.heap.size by rw [e60]; exact hk) hSn63 hgr63
        replace hk : T63.heap.size ≤ T63.heap.size := Nat.le_refl _
        replace hZ : Z.Warmed39 (s.setVm T63.vm).vm := State.Warmed39.trans (t := s.setVm s.vm) hZ hSn63.1
        replace hown : (s.setVm T63.vm).vm.findClass "com/example/obra/obra/TypeScopeIsBitwidthPinLaw" = some m.cls := by rw [show (s.setVm T63.vm).vm = T63.vm from rfl, hSn63.1.alike.findClass]; exact hown
        replace X63 : Stand p l e ({ frames := 4, cells := 6, slots := 16, locals := 66 } : Room) (s.setVm T63.vm) m #[(.int mo), (.int chs)] below meth c T63 _ _ _ := X63
        replace S_b58 := CR63.safe A58.lt S_b58
        replace S_b60 := CR63.safe V60.lt S_b60
        replace CR := CR.trans CR63
        replace CH := CR63.1
        obtain ⟨rfl, N63q, KK63, t63, SS63⟩ := hQ63
        have N63 := Fr.app N0 N63q
        replace O0 := O0.keep KK63 (allS g_b58 (all0))
        replace A58 := A58.keep KK63
        replace V60 := V60.keep KK63 (ninS (Ne.symm ne61) nin0)
        have K64 := K62.trans KK63 (allS (Or.inr sz_b58) all0)
        refine own_go (fun _ kk_ => st63.trans kk_) ?_
        show own_Fin p.tables e below _ (T63.setTop (mkF m 83 #[.val (.int mo), .val (.int chs), .val (.int (mo &&& (3 : Int32))), .val (.int ((((mo.toUInt32 >>> ((2 : Int32) &&& 31).toUInt32).toInt32) &&& (7 : Int32)) % (5 : Int32))), .val (.int (chs &&& (255 : Int32))), .val (.int (((chs.toUInt32 >>> ((8 : Int32) &&& 31).toUInt32).toInt32) &&& (255 : Int32))), .val (.int (((chs.toUInt32 >>> ((16 : Int32) &&& 31).toUInt32).toInt32) &&& (255 : Int32))), .val (.int (((chs.toUInt32 >>> ((24 : Int32) &&& 31).toUInt32).toInt32) &&& (255 : Int32)))] [(.ref b58)]))
        have CRz : CHr Z consts_1 s.vm s.heap T63.vm T63.heap := by
          rw [hh]
          exact CR.trans (CHv.at X63 hZ hEL CH)
        refine own_retW X63 hx Bd hS hk (t := (.object "java/lang/String")) Bd.returns rfl (Or.inr (Or.inr (Or.inr (Or.inr ⟨rfl, rfl, rfl⟩)))) (hb hby d2_83) CRz ?_ (by decide) (by decide)
        show (Q_rm_tx Z mo chs gc h0 n0) (some (.ref b58)) T63.heap _
        refine ⟨_, _, ([] : List Int32), rfl, N63, K64, SS63, ?_⟩
        decide
      · skip
        refine own_go (fun _ kk_ => XS.ifYes X0.here hx rfl (pc0 := 70) (pc' := 84) rfl (hb hby d2_70) rfl ((if0 _ _).trans (feq hc57).2) (by decide) (by decide) kk_) ?_
        refine own_go (fun _ kk_ => XS.iloadN X0.here hx rfl (hb hby d2_84) rfl kk_) ?_
        refine own_go (fun _ kk_ => XS.iconst X0.here hx rfl (hb hby d2_85) kk_) ?_
        show own_Fin p.tables e below _ (s₁.setTop (mkF m 86 #[.val (.int mo), .val (.int chs), .val (.int (mo &&& (3 : Int32))), .val (.int ((((mo.toUInt32 >>> ((2 : Int32) &&& 31).toUInt32).toInt32) &&& (7 : Int32)) % (5 : Int32))), .val (.int (chs &&& (255 : Int32))), .val (.int (((chs.toUInt32 >>> ((8 : Int32) &&& 31).toUInt32).toInt32) &&& (255 : Int32))), .val (.int (((chs.toUInt32 >>> ((16 : Int32) &&& 31).toUInt32).toInt32) &&& (255 : Int32))), .val (.int (((chs.toUInt32 >>> ((24 : Int32) &&& 31).toUInt32).toInt32) &&& (255 : Int32)))] [(.int (1 : Int32)), (.int ((((mo.toUInt32 >>> ((2 : Int32) &&& 31).toUInt32).toInt32) &&& (7 : Int32)) % (5 : Int32)))]))
        by_cases hc65 : ((((mo.toUInt32 >>> ((2 : Int32) &&& 31).toUInt32).toInt32) &&& (7 : Int32)) % (5 : Int32)) = (1 : Int32)
        · skip
          refine own_go (fun _ kk_ => XS.icmpNo X0.here hx rfl (hb hby d2_86) rfl (teq hc65).2 kk_) ?_
          show own_Fin p.tables e below _ (s₁.setTop (mkF m 89 #[.val (.int mo), .val (.int chs), .val (.int (mo &&& (3 : Int32))), .val (.int ((((mo.toUInt32 >>> ((2 : Int32) &&& 31).toUInt32).toInt32) &&& (7 : Int32)) % (5 : Int32))), .val (.int (chs &&& (255 : Int32))), .val (.int (((chs.toUInt32 >>> ((8 : Int32) &&& 31).toUInt32).toInt32) &&& (255 : Int32))), .val (.int (((chs.toUInt32 >>> ((16 : Int32) &&& 31).toUInt32).toInt32) &&& (255 : Int32))), .val (.int (((chs.toUInt32 >>> ((24 : Int32) &&& 31).toUInt32).toInt32) &&& (255 : Int32)))] []))
          obtain ⟨T66, h66, X66, e66, E66, A66, D66, -, st66⟩ := newO X0 hx hZ hown (hw _ (List.mem_of_getElem? (i := 11) rfl)) (hw _ (List.mem_of_getElem? (i := 12) rfl)) (hw _ (List.mem_of_getElem? (i := 13) rfl)) e0 (g := (mkF m 89 #[.val (.int mo), .val (.int chs), .val (.int (mo &&& (3 : Int32))), .val (.int ((((mo.toUInt32 >>> ((2 : Int32) &&& 31).toUInt32).toInt32) &&& (7 : Int32)) % (5 : Int32))), .val (.int (chs &&& (255 : Int32))), .val (.int (((chs.toUInt32 >>> ((8 : Int32) &&& 31).toUInt32).toInt32) &&& (255 : Int32))), .val (.int (((chs.toUInt32 >>> ((16 : Int32) &&& 31).toUInt32).toInt32) &&& (255 : Int32))), .val (.int (((chs.toUInt32 >>> ((24 : Int32) &&& 31).toUInt32).toInt32) &&& (255 : Int32)))] [])) rfl (hb hby d2_89) (by decide) (by decide)
          obtain ⟨b66, g66⟩ : ∃ z, z = h0.size := ⟨_, rfl⟩
          rw [← g66] at A66 D66 st66
          have sz_b66 : h0.size ≤ b66 := Nat.le_trans K0.1 (Nat.le_of_eq g66.symm)
          have g_b66 : n0 ≤ b66 := Nat.le_trans Z0 sz_b66
          have S_b66 := Safe.new (Z := Z) (EL := consts_1) (vm := s.vm) (Nat.le_of_eq g66.symm)
          replace S_b66 := Safe.ext E66 CH S_b66
          replace CR := CR.trans (CHr.ext E66 CH)
          replace CH := CH.ext E66
          replace hk := Nat.le_trans hk E66.1
          replace O0 := O0.ext E66
          have K67 := K0.ext E66
          have F66_value : Fld Z h66 b66 "java/lang/String" "value" "[B" .null := D66 (Or.inr (hw _ (List.mem_of_getElem? (i := 27) rfl))) (ty := (.array .byte)) (by decide)
          have F66_coder : Fld Z h66 b66 "java/lang/String" "coder" "B" (.int (0 : Int32)) := D66 (Or.inr (hw _ (List.mem_of_getElem? (i := 28) rfl))) (ty := .byte) (by decide)
          refine own_go st66 ?_
          refine own_go (fun _ kk_ => XS.dup X66.here hx rfl (hb hby d2_92) rfl rfl kk_) ?_
          refine own_go (fun _ kk_ => XS.iconst X66.here hx rfl (hb hby d2_93) kk_) ?_
          show own_Fin p.tables e below _ (T66.setTop (mkF m 94 #[.val (.int mo), .val (.int chs), .val (.int (mo &&& (3 : Int32))), .val (.int ((((mo.toUInt32 >>> ((2 : Int32) &&& 31).toUInt32).toInt32) &&& (7 : Int32)) % (5 : Int32))), .val (.int (chs &&& (255 : Int32))), .val (.int (((chs.toUInt32 >>> ((8 : Int32) &&& 31).toUInt32).toInt32) &&& (255 : Int32))), .val (.int (((chs.toUInt32 >>> ((16 : Int32) &&& 31).toUInt32).toInt32) &&& (255 : Int32))), .val (.int (((chs.toUInt32 >>> ((24 : Int32) &&& 31).toUInt32).toInt32) &&& (255 : Int32)))] [(.int (1 : Int32)), (.ref b66), (.ref b66)]))
          obtain ⟨T68, h68, k68, X68, e68, E68, A68, st68⟩ := newP X66 hx hZ (hw _ (List.mem_of_getElem? (i := 14) rfl)) e66 (g := (mkF m 94 #[.val (.int mo), .val (.int chs), .val (.int (mo &&& (3 : Int32))), .val (.int ((((mo.toUInt32 >>> ((2 : Int32) &&& 31).toUInt32).toInt32) &&& (7 : Int32)) % (5 : Int32))), .val (.int (chs &&& (255 : Int32))), .val (.int (((chs.toUInt32 >>> ((8 : Int32) &&& 31).toUInt32).toInt32) &&& (255 : Int32))), .val (.int (((chs.toUInt32 >>> ((16 : Int32) &&& 31).toUInt32).toInt32) &&& (255 : Int32))), .val (.int (((chs.toUInt32 >>> ((24 : Int32) &&& 31).toUInt32).toInt32) &&& (255 : Int32)))] [(.int (1 : Int32)), (.ref b66), (.ref b66)])) rfl (hb hby d2_94) rfl (by decide) (cap := 1) (by decide) (by decide) (by decide) (by decide)
          obtain ⟨b68, g68⟩ : ∃ z, z = h66.size := ⟨_, rfl⟩
          rw [← g68] at A68 st68
          have sz_b68 : h0.size ≤ b68 := Nat.le_trans K67.1 (Nat.le_of_eq g68.symm)
          have g_b68 : n0 ≤ b68 := Nat.le_trans Z0 sz_b68
          have ne69 : b66 ≠ b68 := Nat.ne_of_lt (Nat.lt_of_lt_of_le A66.lt (Nat.le_of_eq g68.symm))
          have S_b68 := Safe.new (Z := Z) (EL := consts_1) (vm := s.vm) (Nat.le_of_eq g68.symm)
          replace S_b66 := Safe.ext E68 CH S_b66
          replace S_b68 := Safe.ext E68 CH S_b68
          replace CR := CR.trans (CHr.ext E68 CH)
          replace CH := CH.ext E68
          replace hk := Nat.le_trans hk E68.1
          replace O0 := O0.ext E68
          replace A66 := A66.ext E68
          replace F66_value := F66_value.ext E68
          replace F66_coder := F66_coder.ext E68
          have K70 := K67.ext E68
          have V68 : Arv Z h68 b68 k68 .char (1 : Int32) [(.int (0 : Int32))] (.int (0 : Int32)) := (Arv.new A68 (by decide)).pad (pad_rep [] (.int (0 : Int32)) 1)
          refine own_go st68 ?_
          refine own_go (fun _ kk_ => XS.dup X68.here hx rfl (hb hby d2_96) rfl rfl kk_) ?_
          refine own_go (fun _ kk_ => XS.iconst X68.here hx rfl (hb hby d2_97) kk_) ?_
          refine own_go (fun _ kk_ => XS.iload X68.here hx rfl (hb hby d2_98) rfl kk_) ?_
          show own_Fin p.tables e below _ (T68.setTop (mkF m 100 #[.val (.int mo), .val (.int chs), .val (.int (mo &&& (3 : Int32))), .val (.int ((((mo.toUInt32 >>> ((2 : Int32) &&& 31).toUInt32).toInt32) &&& (7 : Int32)) % (5 : Int32))), .val (.int (chs &&& (255 : Int32))), .val (.int (((chs.toUInt32 >>> ((8 : Int32) &&& 31).toUInt32).toInt32) &&& (255 : Int32))), .val (.int (((chs.toUInt32 >>> ((16 : Int32) &&& 31).toUInt32).toInt32) &&& (255 : Int32))), .val (.int (((chs.toUInt32 >>> ((24 : Int32) &&& 31).toUInt32).toInt32) &&& (255 : Int32)))] [(.int (chs &&& (255 : Int32))), (.int (0 : Int32)), (.ref b68), (.ref b68), (.ref b66), (.ref b66)]))
          obtain ⟨T71, h71, X71, e71, W71, V71, st71⟩ := own_stC X68 hx hZ e68 V68 (by decide) (i := 0) rfl (Nat.le_of_ble_eq_true rfl) (g := (mkF m 100 #[.val (.int mo), .val (.int chs), .val (.int (mo &&& (3 : Int32))), .val (.int ((((mo.toUInt32 >>> ((2 : Int32) &&& 31).toUInt32).toInt32) &&& (7 : Int32)) % (5 : Int32))), .val (.int (chs &&& (255 : Int32))), .val (.int (((chs.toUInt32 >>> ((8 : Int32) &&& 31).toUInt32).toInt32) &&& (255 : Int32))), .val (.int (((chs.toUInt32 >>> ((16 : Int32) &&& 31).toUInt32).toInt32) &&& (255 : Int32))), .val (.int (((chs.toUInt32 >>> ((24 : Int32) &&& 31).toUInt32).toInt32) &&& (255 : Int32)))] [(.int (chs &&& (255 : Int32))), (.int (0 : Int32)), (.ref b68), (.ref b68), (.ref b66), (.ref b66)])) rfl rfl (hb hby d2_100)
          rw [own_nar255] at V71
          replace V68 : Arv Z h71 b68 k68 .char (1 : Int32) [(.int (chs &&& (255 : Int32)))] (.int (0 : Int32)) := V71
          have N71 := Fr.snoc X71 N0 g_b68
          refine own_go st71 ?_
          have sa72 := S_b68
          replace S_b66 := Safe.wr W71 sa72 CH S_b66
          replace S_b68 := Safe.wr W71 sa72 CH S_b68
          replace CR := CR.trans (CHr.wr W71 sa72 CH)
          replace CH := CHv.wr W71 sa72 CH
          replace hk := Nat.le_trans hk (Keep.of_wr W71).1
          replace O0 := O0.wr W71 g_b68
          replace A66 := A66.wr W71
          replace F66_value := F66_value.other W71 (Or.inl ne69)
          replace F66_coder := F66_coder.other W71 (Or.inl ne69)
          have K73 := K70.wr W71 (Or.inr sz_b68)
          show own_Fin p.tables e below _ (T71.setTop (mkF m 101 #[.val (.int mo), .val (.int chs), .val (.int (mo &&& (3 : Int32))), .val (.int ((((mo.toUInt32 >>> ((2 : Int32) &&& 31).toUInt32).toInt32) &&& (7 : Int32)) % (5 : Int32))), .val (.int (chs &&& (255 : Int32))), .val (.int (((chs.toUInt32 >>> ((8 : Int32) &&& 31).toUInt32).toInt32) &&& (255 : Int32))), .val (.int (((chs.toUInt32 >>> ((16 : Int32) &&& 31).toUInt32).toInt32) &&& (255 : Int32))), .val (.int (((chs.toUInt32 >>> ((24 : Int32) &&& 31).toUInt32).toInt32) &&& (255 : Int32)))] [(.ref b68), (.ref b66), (.ref b66)]))
          have hp75 : ∀ c ∈ ([(chs &&& (255 : Int32))] : List Int32), ¬ c < 0 ∧ ¬ (255 : Int32) < c := by
            intro c hc
            simp only [List.mem_cons, List.not_mem_nil, or_false] at hc
            rcases hc with rfl
            · exact own_and255 _
          obtain ⟨_, _, ⟨T74, L74, k74, n74⟩, -, X74, ⟨Lc74, hQ74, l74, y74, z74⟩, st74⟩ := X71.specialBack hx (y := (⟨"java/lang/String", "<init>", "([C)V"⟩ : MethodName)) rfl hown (mvT hZ (hw _ (List.mem_of_getElem? (i := 15) rfl))) (mvT hZ (hw _ (List.mem_of_getElem? (i := 16) rfl))) (mvT hZ (hw _ (List.mem_of_getElem? (i := 17) rfl))) (by decide) (StrChars.Road.backV (W := 1) hZ hws (kI := 4) (hw _ (List.mem_of_getElem? (i := 12) rfl)) (cs := ([(chs &&& (255 : Int32))] : List Int32)) (bs := (([(chs &&& (255 : Int32))] : List Int32)).map (fun c => c.toInt8.toInt32)) (n := 1) g_b66 (Nat.le_trans Z0 K73.1) A66 F66_value F66_coder V68 (S_C.ext O0.2) hcs rfl rfl (by decide) (by decide) hp75 rfl (by decide) (by decide)) (g := (mkF m 101 #[.val (.int mo), .val (.int chs), .val (.int (mo &&& (3 : Int32))), .val (.int ((((mo.toUInt32 >>> ((2 : Int32) &&& 31).toUInt32).toInt32) &&& (7 : Int32)) % (5 : Int32))), .val (.int (chs &&& (255 : Int32))), .val (.int (((chs.toUInt32 >>> ((8 : Int32) &&& 31).toUInt32).toInt32) &&& (255 : Int32))), .val (.int (((chs.toUInt32 >>> ((16 : Int32) &&& 31).toUInt32).toInt32) &&& (255 : Int32))), .val (.int (((chs.toUInt32 >>> ((24 : Int32) &&& 31).toUInt32).toInt32) &&& (255 : Int32)))] [(.ref b68), (.ref b66), (.ref b66)])) rfl (by rw [hml]; rfl) (Steps.refl _) (a := b66) (argsL := [(.ref b68)]) (rest := [(.ref b66)]) (lenOf pd_7 rfl) rfl (by show 2 * 0 + _ ≤ _; exact Nat.le_of_eq rfl) (hb hby d2_101) (fun _ _ => ⟨rfl, e71, (by decide : 2 + 1 ≤ _), (by decide : 5 + 1 ≤ _)⟩)
          dsimp only [Pt.U, Pt.locs, Pt.cells, Pt.slots] at X74 l74 y74 z74 st74 hQ74
          subst l74 y74 z74
          obtain ⟨rfl, N74q, KK74, EE74, FC74, t74, kb74, gt74, szt74, netx74, FV74, VV74⟩ := hQ74
          have N74 := Fr.app N71 N74q
          have SS74 : own_Str Z T74.heap b66 t74 ([(chs &&& (255 : Int32))] : List Int32) := ⟨_, _, _, _, EE74, FV74, FC74, VV74, StrChars.Road.codOf (n := 1) rfl (fun c hc => (hp75 c hc).2), own_up _ hp75, Nat.le_of_ble_eq_true rfl⟩
          have sz_t74 : h0.size ≤ t74 := Nat.le_trans K73.1 szt74
          have ne76 : b66 ≠ t74 := Nat.ne_of_lt (Nat.lt_of_lt_of_le A66.lt szt74)
          have ne77 : b68 ≠ t74 := Nat.ne_of_lt (Nat.lt_of_lt_of_le V68.lt szt74)
          have S_t74 := Safe.new (Z := Z) (EL := consts_1) (vm := s.vm) szt74
          have hs78 : ∀ x ∈ [b66], Safe Z consts_1 s.vm h71 x := (sfS S_b66 sf0)
          replace S_b66 := Safe.keep KK74 hs78 CH S_b66
          replace S_b68 := Safe.keep KK74 hs78 CH S_b68
          replace S_t74 := Safe.keep KK74 hs78 CH S_t74
          replace CR := CR.trans (CHr.keep KK74 hs78 CH)
          replace CH := CHv.keep KK74 hs78 CH
          replace hk := Nat.le_trans hk KK74.1
          replace O0 := O0.keep KK74 (allS g_b66 (all0))
          replace A66 := A66.keep KK74
          replace V68 := V68.keep KK74 (ninS (Ne.symm ne69) nin0)
          have K79 := K73.trans KK74 (allS (Or.inr sz_b66) all0)
          refine own_go (fun _ kk_ => st74.trans kk_) ?_
          show own_Fin p.tables e below _ (T74.setTop (mkF m 104 #[.val (.int mo), .val (.int chs), .val (.int (mo &&& (3 : Int32))), .val (.int ((((mo.toUInt32 >>> ((2 : Int32) &&& 31).toUInt32).toInt32) &&& (7 : Int32)) % (5 : Int32))), .val (.int (chs &&& (255 : Int32))), .val (.int (((chs.toUInt32 >>> ((8 : Int32) &&& 31).toUInt32).toInt32) &&& (255 : Int32))), .val (.int (((chs.toUInt32 >>> ((16 : Int32) &&& 31).toUInt32).toInt32) &&& (255 : Int32))), .val (.int (((chs.toUInt32 >>> ((24 : Int32) &&& 31).toUInt32).toInt32) &&& (255 : Int32)))] [(.ref b66)]))
          have CRz : CHr Z consts_1 s.vm s.heap T74.vm T74.heap := by
            rw [hh]
            exact CR.trans (CHv.at X74 hZ hEL CH)
          refine own_retW X74 hx Bd hS hk (t := (.object "java/lang/String")) Bd.returns rfl (Or.inr (Or.inr (Or.inr (Or.inr ⟨rfl, rfl, rfl⟩)))) (hb hby d2_104) CRz ?_ (by decide) (by decide)
          show (Q_rm_tx Z mo chs gc h0 n0) (some (.ref b66)) T74.heap _
          refine ⟨_, _, ([(chs &&& (255 : Int32))] : List Int32), rfl, N74, K79, SS74, ?_⟩
          intro c hc
          simp only [List.mem_cons, List.not_mem_nil, or_false] at hc
          rcases hc with rfl
          · exact own_and255 _
        · skip
          refine own_go (fun _ kk_ => XS.icmpYes X0.here hx rfl (pc0 := 86) (pc' := 105) rfl (hb hby d2_86) rfl (feq hc65).2 (by decide) (by decide) kk_) ?_
          refine own_go (fun _ kk_ => XS.iloadN X0.here hx rfl (hb hby d2_105) rfl kk_) ?_
          refine own_go (fun _ kk_ => XS.iconst X0.here hx rfl (hb hby d2_106) kk_) ?_
          show own_Fin p.tables e below _ (s₁.setTop (mkF m 107 #[.val (.int mo), .val (.int chs), .val (.int (mo &&& (3 : Int32))), .val (.int ((((mo.toUInt32 >>> ((2 : Int32) &&& 31).toUInt32).toInt32) &&& (7 : Int32)) % (5 : Int32))), .val (.int (chs &&& (255 : Int32))), .val (.int (((chs.toUInt32 >>> ((8 : Int32) &&& 31).toUInt32).toInt32) &&& (255 : Int32))), .val (.int (((chs.toUInt32 >>> ((16 : Int32) &&& 31).toUInt32).toInt32) &&& (255 : Int32))), .val (.int (((chs.toUInt32 >>> ((24 : Int32) &&& 31).toUInt32).toInt32) &&& (255 : Int32)))] [(.int (2 : Int32)), (.int ((((mo.toUInt32 >>> ((2 : Int32) &&& 31).toUInt32).toInt32) &&& (7 : Int32)) % (5 : Int32)))]))
          by_cases hc80 : ((((mo.toUInt32 >>> ((2 : Int32) &&& 31).toUInt32).toInt32) &&& (7 : Int32)) % (5 : Int32)) = (2 : Int32)
          · skip
            refine own_go (fun _ kk_ => XS.icmpNo X0.here hx rfl (hb hby d2_107) rfl (teq hc80).2 kk_) ?_
            show own_Fin p.tables e below _ (s₁.setTop (mkF m 110 #[.val (.int mo), .val (.int chs), .val (.int (mo &&& (3 : Int32))), .val (.int ((((mo.toUInt32 >>> ((2 : Int32) &&& 31).toUInt32).toInt32) &&& (7 : Int32)) % (5 : Int32))), .val (.int (chs &&& (255 : Int32))), .val (.int (((chs.toUInt32 >>> ((8 : Int32) &&& 31).toUInt32).toInt32) &&& (255 : Int32))), .val (.int (((chs.toUInt32 >>> ((16 : Int32) &&& 31).toUInt32).toInt32) &&& (255 : Int32))), .val (.int (((chs.toUInt32 >>> ((24 : Int32) &&& 31).toUInt32).toInt32) &&& (255 : Int32)))] []))
            obtain ⟨T81, h81, X81, e81, E81, A81, D81, -, st81⟩ := newO X0 hx hZ hown (hw _ (List.mem_of_getElem? (i := 11) rfl)) (hw _ (List.mem_of_getElem? (i := 12) rfl)) (hw _ (List.mem_of_getElem? (i := 13) rfl)) e0 (g := (mkF m 110 #[.val (.int mo), .val (.int chs), .val (.int (mo &&& (3 : Int32))), .val (.int ((((mo.toUInt32 >>> ((2 : Int32) &&& 31).toUInt32).toInt32) &&& (7 : Int32)) % (5 : Int32))), .val (.int (chs &&& (255 : Int32))), .val (.int (((chs.toUInt32 >>> ((8 : Int32) &&& 31).toUInt32).toInt32) &&& (255 : Int32))), .val (.int (((chs.toUInt32 >>> ((16 : Int32) &&& 31).toUInt32).toInt32) &&& (255 : Int32))), .val (.int (((chs.toUInt32 >>> ((24 : Int32) &&& 31).toUInt32).toInt32) &&& (255 : Int32)))] [])) rfl (hb hby d2_110) (by decide) (by decide)
            obtain ⟨b81, g81⟩ : ∃ z, z = h0.size := ⟨_, rfl⟩
            rw [← g81] at A81 D81 st81
            have sz_b81 : h0.size ≤ b81 := Nat.le_trans K0.1 (Nat.le_of_eq g81.symm)
            have g_b81 : n0 ≤ b81 := Nat.le_trans Z0 sz_b81
            have S_b81 := Safe.new (Z := Z) (EL := consts_1) (vm := s.vm) (Nat.le_of_eq g81.symm)
            replace S_b81 := Safe.ext E81 CH S_b81
            replace CR := CR.trans (CHr.ext E81 CH)
            replace CH := CH.ext E81
            replace hk := Nat.le_trans hk E81.1
            replace O0 := O0.ext E81
            have K82 := K0.ext E81
            have F81_value : Fld Z h81 b81 "java/lang/String" "value" "[B" .null := D81 (Or.inr (hw _ (List.mem_of_getElem? (i := 27) rfl))) (ty := (.array .byte)) (by decide)
            have F81_coder : Fld Z h81 b81 "java/lang/String" "coder" "B" (.int (0 : Int32)) := D81 (Or.inr (hw _ (List.mem_of_getElem? (i := 28) rfl))) (ty := .byte) (by decide)
            refine own_go st81 ?_
            refine own_go (fun _ kk_ => XS.dup X81.here hx rfl (hb hby d2_113) rfl rfl kk_) ?_
            refine own_go (fun _ kk_ => XS.iconst X81.here hx rfl (hb hby d2_114) kk_) ?_
            show own_Fin p.tables e below _ (T81.setTop (mkF m 115 #[.val (.int mo), .val (.int chs), .val (.int (mo &&& (3 : Int32))), .val (.int ((((mo.toUInt32 >>> ((2 : Int32) &&& 31).toUInt32).toInt32) &&& (7 : Int32)) % (5 : Int32))), .val (.int (chs &&& (255 : Int32))), .val (.int (((chs.toUInt32 >>> ((8 : Int32) &&& 31).toUInt32).toInt32) &&& (255 : Int32))), .val (.int (((chs.toUInt32 >>> ((16 : Int32) &&& 31).toUInt32).toInt32) &&& (255 : Int32))), .val (.int (((chs.toUInt32 >>> ((24 : Int32) &&& 31).toUInt32).toInt32) &&& (255 : Int32)))] [(.int (2 : Int32)), (.ref b81), (.ref b81)]))
            obtain ⟨T83, h83, k83, X83, e83, E83, A83, st83⟩ := newP X81 hx hZ (hw _ (List.mem_of_getElem? (i := 14) rfl)) e81 (g := (mkF m 115 #[.val (.int mo), .val (.int chs), .val (.int (mo &&& (3 : Int32))), .val (.int ((((mo.toUInt32 >>> ((2 : Int32) &&& 31).toUInt32).toInt32) &&& (7 : Int32)) % (5 : Int32))), .val (.int (chs &&& (255 : Int32))), .val (.int (((chs.toUInt32 >>> ((8 : Int32) &&& 31).toUInt32).toInt32) &&& (255 : Int32))), .val (.int (((chs.toUInt32 >>> ((16 : Int32) &&& 31).toUInt32).toInt32) &&& (255 : Int32))), .val (.int (((chs.toUInt32 >>> ((24 : Int32) &&& 31).toUInt32).toInt32) &&& (255 : Int32)))] [(.int (2 : Int32)), (.ref b81), (.ref b81)])) rfl (hb hby d2_115) rfl (by decide) (cap := 2) (by decide) (by decide) (by decide) (by decide)
            obtain ⟨b83, g83⟩ : ∃ z, z = h81.size := ⟨_, rfl⟩
            rw [← g83] at A83 st83
            have sz_b83 : h0.size ≤ b83 := Nat.le_trans K82.1 (Nat.le_of_eq g83.symm)
            have g_b83 : n0 ≤ b83 := Nat.le_trans Z0 sz_b83
            have ne84 : b81 ≠ b83 := Nat.ne_of_lt (Nat.lt_of_lt_of_le A81.lt (Nat.le_of_eq g83.symm))
            have S_b83 := Safe.new (Z := Z) (EL := consts_1) (vm := s.vm) (Nat.le_of_eq g83.symm)
            replace S_b81 := Safe.ext E83 CH S_b81
            replace S_b83 := Safe.ext E83 CH S_b83
            replace CR := CR.trans (CHr.ext E83 CH)
            replace CH := CH.ext E83
            replace hk := Nat.le_trans hk E83.1
            replace O0 := O0.ext E83
            replace A81 := A81.ext E83
            replace F81_value := F81_value.ext E83
            replace F81_coder := F81_coder.ext E83
            have K85 := K82.ext E83
            have V83 : Arv Z h83 b83 k83 .char (2 : Int32) [(.int (0 : Int32)), (.int (0 : Int32))] (.int (0 : Int32)) := (Arv.new A83 (by decide)).pad (pad_rep [] (.int (0 : Int32)) 2)
            refine own_go st83 ?_
            refine own_go (fun _ kk_ => XS.dup X83.here hx rfl (hb hby d2_117) rfl rfl kk_) ?_
            refine own_go (fun _ kk_ => XS.iconst X83.here hx rfl (hb hby d2_118) kk_) ?_
            refine own_go (fun _ kk_ => XS.iload X83.here hx rfl (hb hby d2_119) rfl kk_) ?_
            show own_Fin p.tables e below _ (T83.setTop (mkF m 121 #[.val (.int mo), .val (.int chs), .val (.int (mo &&& (3 : Int32))), .val (.int ((((mo.toUInt32 >>> ((2 : Int32) &&& 31).toUInt32).toInt32) &&& (7 : Int32)) % (5 : Int32))), .val (.int (chs &&& (255 : Int32))), .val (.int (((chs.toUInt32 >>> ((8 : Int32) &&& 31).toUInt32).toInt32) &&& (255 : Int32))), .val (.int (((chs.toUInt32 >>> ((16 : Int32) &&& 31).toUInt32).toInt32) &&& (255 : Int32))), .val (.int (((chs.toUInt32 >>> ((24 : Int32) &&& 31).toUInt32).toInt32) &&& (255 : Int32)))] [(.int (chs &&& (255 : Int32))), (.int (0 : Int32)), (.ref b83), (.ref b83), (.ref b81), (.ref b81)]))
            obtain ⟨T86, h86, X86, e86, W86, V86, st86⟩ := own_stC X83 hx hZ e83 V83 (by decide) (i := 0) rfl (Nat.le_of_ble_eq_true rfl) (g := (mkF m 121 #[.val (.int mo), .val (.int chs), .val (.int (mo &&& (3 : Int32))), .val (.int ((((mo.toUInt32 >>> ((2 : Int32) &&& 31).toUInt32).toInt32) &&& (7 : Int32)) % (5 : Int32))), .val (.int (chs &&& (255 : Int32))), .val (.int (((chs.toUInt32 >>> ((8 : Int32) &&& 31).toUInt32).toInt32) &&& (255 : Int32))), .val (.int (((chs.toUInt32 >>> ((16 : Int32) &&& 31).toUInt32).toInt32) &&& (255 : Int32))), .val (.int (((chs.toUInt32 >>> ((24 : Int32) &&& 31).toUInt32).toInt32) &&& (255 : Int32)))] [(.int (chs &&& (255 : Int32))), (.int (0 : Int32)), (.ref b83), (.ref b83), (.ref b81), (.ref b81)])) rfl rfl (hb hby d2_121)
            rw [own_nar255] at V86
            replace V83 : Arv Z h86 b83 k83 .char (2 : Int32) [(.int (chs &&& (255 : Int32))), (.int (0 : Int32))] (.int (0 : Int32)) := V86
            have N86 := Fr.snoc X86 N0 g_b83
            refine own_go st86 ?_
            have sa87 := S_b83
            replace S_b81 := Safe.wr W86 sa87 CH S_b81
            replace S_b83 := Safe.wr W86 sa87 CH S_b83
            replace CR := CR.trans (CHr.wr W86 sa87 CH)
            replace CH := CHv.wr W86 sa87 CH
            replace hk := Nat.le_trans hk (Keep.of_wr W86).1
            replace O0 := O0.wr W86 g_b83
            replace A81 := A81.wr W86
            replace F81_value := F81_value.other W86 (Or.inl ne84)
            replace F81_coder := F81_coder.other W86 (Or.inl ne84)
            have K88 := K85.wr W86 (Or.inr sz_b83)
            refine own_go (fun _ kk_ => XS.dup X86.here hx rfl (hb hby d2_122) rfl rfl kk_) ?_
            refine own_go (fun _ kk_ => XS.iconst X86.here hx rfl (hb hby d2_123) kk_) ?_
            refine own_go (fun _ kk_ => XS.iload X86.here hx rfl (hb hby d2_124) rfl kk_) ?_
            show own_Fin p.tables e below _ (T86.setTop (mkF m 126 #[.val (.int mo), .val (.int chs), .val (.int (mo &&& (3 : Int32))), .val (.int ((((mo.toUInt32 >>> ((2 : Int32) &&& 31).toUInt32).toInt32) &&& (7 : Int32)) % (5 : Int32))), .val (.int (chs &&& (255 : Int32))), .val (.int (((chs.toUInt32 >>> ((8 : Int32) &&& 31).toUInt32).toInt32) &&& (255 : Int32))), .val (.int (((chs.toUInt32 >>> ((16 : Int32) &&& 31).toUInt32).toInt32) &&& (255 : Int32))), .val (.int (((chs.toUInt32 >>> ((24 : Int32) &&& 31).toUInt32).toInt32) &&& (255 : Int32)))] [(.int (((chs.toUInt32 >>> ((8 : Int32) &&& 31).toUInt32).toInt32) &&& (255 : Int32))), (.int (1 : Int32)), (.ref b83), (.ref b83), (.ref b81), (.ref b81)]))
            obtain ⟨T89, h89, X89, e89, W89, V89, st89⟩ := own_stC X86 hx hZ e86 V83 (by decide) (i := 1) rfl (Nat.le_of_ble_eq_true rfl) (g := (mkF m 126 #[.val (.int mo), .val (.int chs), .val (.int (mo &&& (3 : Int32))), .val (.int ((((mo.toUInt32 >>> ((2 : Int32) &&& 31).toUInt32).toInt32) &&& (7 : Int32)) % (5 : Int32))), .val (.int (chs &&& (255 : Int32))), .val (.int (((chs.toUInt32 >>> ((8 : Int32) &&& 31).toUInt32).toInt32) &&& (255 : Int32))), .val (.int (((chs.toUInt32 >>> ((16 : Int32) &&& 31).toUInt32).toInt32) &&& (255 : Int32))), .val (.int (((chs.toUInt32 >>> ((24 : Int32) &&& 31).toUInt32).toInt32) &&& (255 : Int32)))] [(.int (((chs.toUInt32 >>> ((8 : Int32) &&& 31).toUInt32).toInt32) &&& (255 : Int32))), (.int (1 : Int32)), (.ref b83), (.ref b83), (.ref b81), (.ref b81)])) rfl rfl (hb hby d2_126)
            rw [own_nar255] at V89
            replace V83 : Arv Z h89 b83 k83 .char (2 : Int32) [(.int (chs &&& (255 : Int32))), (.int (((chs.toUInt32 >>> ((8 : Int32) &&& 31).toUInt32).toInt32) &&& (255 : Int32)))] (.int (0 : Int32)) := V89
            have N89 := Fr.snoc X89 N86 g_b83
            refine own_go st89 ?_
            have sa90 := S_b83
            replace S_b81 := Safe.wr W89 sa90 CH S_b81
            replace S_b83 := Safe.wr W89 sa90 CH S_b83
            replace CR := CR.trans (CHr.wr W89 sa90 CH)
            replace CH := CHv.wr W89 sa90 CH
            replace hk := Nat.le_trans hk (Keep.of_wr W89).1
            replace O0 := O0.wr W89 g_b83
            replace A81 := A81.wr W89
            replace F81_value := F81_value.other W89 (Or.inl ne84)
            replace F81_coder := F81_coder.other W89 (Or.inl ne84)
            have K91 := K88.wr W89 (Or.inr sz_b83)
            show own_Fin p.tables e below _ (T89.setTop (mkF m 127 #[.val (.int mo), .val (.int chs), .val (.int (mo &&& (3 : Int32))), .val (.int ((((mo.toUInt32 >>> ((2 : Int32) &&& 31).toUInt32).toInt32) &&& (7 : Int32)) % (5 : Int32))), .val (.int (chs &&& (255 : Int32))), .val (.int (((chs.toUInt32 >>> ((8 : Int32) &&& 31).toUInt32).toInt32) &&& (255 : Int32))), .val (.int (((chs.toUInt32 >>> ((16 : Int32) &&& 31).toUInt32).toInt32) &&& (255 : Int32))), .val (.int (((chs.toUInt32 >>> ((24 : Int32) &&& 31).toUInt32).toInt32) &&& (255 : Int32)))] [(.ref b83), (.ref b81), (.ref b81)]))
            have hp93 : ∀ c ∈ ([(chs &&& (255 : Int32)), (((chs.toUInt32 >>> ((8 : Int32) &&& 31).toUInt32).toInt32) &&& (255 : Int32))] : List Int32), ¬ c < 0 ∧ ¬ (255 : Int32) < c := by
              intro c hc
              simp only [List.mem_cons, List.not_mem_nil, or_false] at hc
              rcases hc with rfl | rfl
              · exact own_and255 _
              · exact own_and255 _
            obtain ⟨_, _, ⟨T92, L92, k92, n92⟩, -, X92, ⟨Lc92, hQ92, l92, y92, z92⟩, st92⟩ := X89.specialBack hx (y := (⟨"java/lang/String", "<init>", "([C)V"⟩ : MethodName)) rfl hown (mvT hZ (hw _ (List.mem_of_getElem? (i := 15) rfl))) (mvT hZ (hw _ (List.mem_of_getElem? (i := 16) rfl))) (mvT hZ (hw _ (List.mem_of_getElem? (i := 17) rfl))) (by decide) (StrChars.Road.backV (W := 1) hZ hws (kI := 4) (hw _ (List.mem_of_getElem? (i := 12) rfl)) (cs := ([(chs &&& (255 : Int32)), (((chs.toUInt32 >>> ((8 : Int32) &&& 31).toUInt32).toInt32) &&& (255 : Int32))] : List Int32)) (bs := (([(chs &&& (255 : Int32)), (((chs.toUInt32 >>> ((8 : Int32) &&& 31).toUInt32).toInt32) &&& (255 : Int32))] : List Int32)).map (fun c => c.toInt8.toInt32)) (n := 2) g_b81 (Nat.le_trans Z0 K91.1) A81 F81_value F81_coder V83 (S_C.ext O0.2) hcs rfl rfl (by decide) (by decide) hp93 rfl (by decide) (by decide)) (g := (mkF m 127 #[.val (.int mo), .val (.int chs), .val (.int (mo &&& (3 : Int32))), .val (.int ((((mo.toUInt32 >>> ((2 : Int32) &&& 31).toUInt32).toInt32) &&& (7 : Int32)) % (5 : Int32))), .val (.int (chs &&& (255 : Int32))), .val (.int (((chs.toUInt32 >>> ((8 : Int32) &&& 31).toUInt32).toInt32) &&& (255 : Int32))), .val (.int (((chs.toUInt32 >>> ((16 : Int32) &&& 31).toUInt32).toInt32) &&& (255 : Int32))), .val (.int (((chs.toUInt32 >>> ((24 : Int32) &&& 31).toUInt32).toInt32) &&& (255 : Int32)))] [(.ref b83), (.ref b81), (.ref b81)])) rfl (by rw [hml]; rfl) (Steps.refl _) (a := b81) (argsL := [(.ref b83)]) (rest := [(.ref b81)]) (lenOf pd_7 rfl) rfl (by show 2 * 0 + _ ≤ _; exact Nat.le_of_eq rfl) (hb hby d2_127) (fun _ _ => ⟨rfl, e89, (by decide : 2 + 1 ≤ _), (by decide : 6 + 2 ≤ _)⟩)
            dsimp only [Pt.U, Pt.locs, Pt.cells, Pt.slots] at X92 l92 y92 z92 st92 hQ92
            subst l92 y92 z92
            obtain ⟨rfl, N92q, KK92, EE92, FC92, t92, kb92, gt92, szt92, netx92, FV92, VV92⟩ := hQ92
            have N92 := Fr.app N89 N92q
            have SS92 : own_Str Z T92.heap b81 t92 ([(chs &&& (255 : Int32)), (((chs.toUInt32 >>> ((8 : Int32) &&& 31).toUInt32).toInt32) &&& (255 : Int32))] : List Int32) := ⟨_, _, _, _, EE92, FV92, FC92, VV92, StrChars.Road.codOf (n := 2) rfl (fun c hc => (hp93 c hc).2), own_up _ hp93, Nat.le_of_ble_eq_true rfl⟩
            have sz_t92 : h0.size ≤ t92 := Nat.le_trans K91.1 szt92
            have ne94 : b81 ≠ t92 := Nat.ne_of_lt (Nat.lt_of_lt_of_le A81.lt szt92)
            have ne95 : b83 ≠ t92 := Nat.ne_of_lt (Nat.lt_of_lt_of_le V83.lt szt92)
            have S_t92 := Safe.new (Z := Z) (EL := consts_1) (vm := s.vm) szt92
            have hs96 : ∀ x ∈ [b81], Safe Z consts_1 s.vm h89 x := (sfS S_b81 sf0)
            replace S_b81 := Safe.keep KK92 hs96 CH S_b81
            replace S_b83 := Safe.keep KK92 hs96 CH S_b83
            replace S_t92 := Safe.keep KK92 hs96 CH S_t92
            replace CR := CR.trans (CHr.keep KK92 hs96 CH)
            replace CH := CHv.keep KK92 hs96 CH
            replace hk := Nat.le_trans hk KK92.1
            replace O0 := O0.keep KK92 (allS g_b81 (all0))
            replace A81 := A81.keep KK92
            replace V83 := V83.keep KK92 (ninS (Ne.symm ne84) nin0)
            have K97 := K91.trans KK92 (allS (Or.inr sz_b81) all0)
            refine own_go (fun _ kk_ => st92.trans kk_) ?_
            show own_Fin p.tables e below _ (T92.setTop (mkF m 130 #[.val (.int mo), .val (.int chs), .val (.int (mo &&& (3 : Int32))), .val (.int ((((mo.toUInt32 >>> ((2 : Int32) &&& 31).toUInt32).toInt32) &&& (7 : Int32)) % (5 : Int32))), .val (.int (chs &&& (255 : Int32))), .val (.int (((chs.toUInt32 >>> ((8 : Int32) &&& 31).toUInt32).toInt32) &&& (255 : Int32))), .val (.int (((chs.toUInt32 >>> ((16 : Int32) &&& 31).toUInt32).toInt32) &&& (255 : Int32))), .val (.int (((chs.toUInt32 >>> ((24 : Int32) &&& 31).toUInt32).toInt32) &&& (255 : Int32)))] [(.ref b81)]))
            have CRz : CHr Z consts_1 s.vm s.heap T92.vm T92.heap := by
              rw [hh]
              exact CR.trans (CHv.at X92 hZ hEL CH)
            refine own_retW X92 hx Bd hS hk (t := (.object "java/lang/String")) Bd.returns rfl (Or.inr (Or.inr (Or.inr (Or.inr ⟨rfl, rfl, rfl⟩)))) (hb hby d2_130) CRz ?_ (by decide) (by decide)
            show (Q_rm_tx Z mo chs gc h0 n0) (some (.ref b81)) T92.heap _
            refine ⟨_, _, ([(chs &&& (255 : Int32)), (((chs.toUInt32 >>> ((8 : Int32) &&& 31).toUInt32).toInt32) &&& (255 : Int32))] : List Int32), rfl, N92, K97, SS92, ?_⟩
            intro c hc
            simp only [List.mem_cons, List.not_mem_nil, or_false] at hc
            rcases hc with rfl | rfl
            · exact own_and255 _
            · exact own_and255 _
          · skip
            refine own_go (fun _ kk_ => XS.icmpYes X0.here hx rfl (pc0 := 107) (pc' := 131) rfl (hb hby d2_107) rfl (feq hc80).2 (by decide) (by decide) kk_) ?_
            refine own_go (fun _ kk_ => XS.iloadN X0.here hx rfl (hb hby d2_131) rfl kk_) ?_
            refine own_go (fun _ kk_ => XS.iconst X0.here hx rfl (hb hby d2_132) kk_) ?_
            show own_Fin p.tables e below _ (s₁.setTop (mkF m 133 #[.val (.int mo), .val (.int chs), .val (.int (mo &&& (3 : Int32))), .val (.int ((((mo.toUInt32 >>> ((2 : Int32) &&& 31).toUInt32).toInt32) &&& (7 : Int32)) % (5 : Int32))), .val (.int (chs &&& (255 : Int32))), .val (.int (((chs.toUInt32 >>> ((8 : Int32) &&& 31).toUInt32).toInt32) &&& (255 : Int32))), .val (.int (((chs.toUInt32 >>> ((16 : Int32) &&& 31).toUInt32).toInt32) &&& (255 : Int32))), .val (.int (((chs.toUInt32 >>> ((24 : Int32) &&& 31).toUInt32).toInt32) &&& (255 : Int32)))] [(.int (3 : Int32)), (.int ((((mo.toUInt32 >>> ((2 : Int32) &&& 31).toUInt32).toInt32) &&& (7 : Int32)) % (5 : Int32)))]))
            by_cases hc98 : ((((mo.toUInt32 >>> ((2 : Int32) &&& 31).toUInt32).toInt32) &&& (7 : Int32)) % (5 : Int32)) = (3 : Int32)
            · skip
              refine own_go (fun _ kk_ => XS.icmpNo X0.here hx rfl (hb hby d2_133) rfl (teq hc98).2 kk_) ?_
              show own_Fin p.tables e below _ (s₁.setTop (mkF m 136 #[.val (.int mo), .val (.int chs), .val (.int (mo &&& (3 : Int32))), .val (.int ((((mo.toUInt32 >>> ((2 : Int32) &&& 31).toUInt32).toInt32) &&& (7 : Int32)) % (5 : Int32))), .val (.int (chs &&& (255 : Int32))), .val (.int (((chs.toUInt32 >>> ((8 : Int32) &&& 31).toUInt32).toInt32) &&& (255 : Int32))), .val (.int (((chs.toUInt32 >>> ((16 : Int32) &&& 31).toUInt32).toInt32) &&& (255 : Int32))), .val (.int (((chs.toUInt32 >>> ((24 : Int32) &&& 31).toUInt32).toInt32) &&& (255 : Int32)))] []))
              obtain ⟨T99, h99, X99, e99, E99, A99, D99, -, st99⟩ := newO X0 hx hZ hown (hw _ (List.mem_of_getElem? (i := 11) rfl)) (hw _ (List.mem_of_getElem? (i := 12) rfl)) (hw _ (List.mem_of_getElem? (i := 13) rfl)) e0 (g := (mkF m 136 #[.val (.int mo), .val (.int chs), .val (.int (mo &&& (3 : Int32))), .val (.int ((((mo.toUInt32 >>> ((2 : Int32) &&& 31).toUInt32).toInt32) &&& (7 : Int32)) % (5 : Int32))), .val (.int (chs &&& (255 : Int32))), .val (.int (((chs.toUInt32 >>> ((8 : Int32) &&& 31).toUInt32).toInt32) &&& (255 : Int32))), .val (.int (((chs.toUInt32 >>> ((16 : Int32) &&& 31).toUInt32).toInt32) &&& (255 : Int32))), .val (.int (((chs.toUInt32 >>> ((24 : Int32) &&& 31).toUInt32).toInt32) &&& (255 : Int32)))] [])) rfl (hb hby d2_136) (by decide) (by decide)
              obtain ⟨b99, g99⟩ : ∃ z, z = h0.size := ⟨_, rfl⟩
              rw [← g99] at A99 D99 st99
              have sz_b99 : h0.size ≤ b99 := Nat.le_trans K0.1 (Nat.le_of_eq g99.symm)
              have g_b99 : n0 ≤ b99 := Nat.le_trans Z0 sz_b99
              have S_b99 := Safe.new (Z := Z) (EL := consts_1) (vm := s.vm) (Nat.le_of_eq g99.symm)
              replace S_b99 := Safe.ext E99 CH S_b99
              replace CR := CR.trans (CHr.ext E99 CH)
              replace CH := CH.ext E99
              replace hk := Nat.le_trans hk E99.1
              replace O0 := O0.ext E99
              have K100 := K0.ext E99
              have F99_value : Fld Z h99 b99 "java/lang/String" "value" "[B" .null := D99 (Or.inr (hw _ (List.mem_of_getElem? (i := 27) rfl))) (ty := (.array .byte)) (by decide)
              have F99_coder : Fld Z h99 b99 "java/lang/String" "coder" "B" (.int (0 : Int32)) := D99 (Or.inr (hw _ (List.mem_of_getElem? (i := 28) rfl))) (ty := .byte) (by decide)
              refine own_go st99 ?_
              refine own_go (fun _ kk_ => XS.dup X99.here hx rfl (hb hby d2_139) rfl rfl kk_) ?_
              refine own_go (fun _ kk_ => XS.iconst X99.here hx rfl (hb hby d2_140) kk_) ?_
              show own_Fin p.tables e below _ (T99.setTop (mkF m 141 #[.val (.int mo), .val (.int chs), .val (.int (mo &&& (3 : Int32))), .val (.int ((((mo.toUInt32 >>> ((2 : Int32) &&& 31).toUInt32).toInt32) &&& (7 : Int32)) % (5 : Int32))), .val (.int (chs &&& (255 : Int32))), .val (.int (((chs.toUInt32 >>> ((8 : Int32) &&& 31).toUInt32).toInt32) &&& (255 : Int32))), .val (.int (((chs.toUInt32 >>> ((16 : Int32) &&& 31).toUInt32).toInt32) &&& (255 : Int32))), .val (.int (((chs.toUInt32 >>> ((24 : Int32) &&& 31).toUInt32).toInt32) &&& (255 : Int32)))] [(.int (3 : Int32)), (.ref b99), (.ref b99)]))
              obtain ⟨T101, h101, k101, X101, e101, E101, A101, st101⟩ := newP X99 hx hZ (hw _ (List.mem_of_getElem? (i := 14) rfl)) e99 (g := (mkF m 141 #[.val (.int mo), .val (.int chs), .val (.int (mo &&& (3 : Int32))), .val (.int ((((mo.toUInt32 >>> ((2 : Int32) &&& 31).toUInt32).toInt32) &&& (7 : Int32)) % (5 : Int32))), .val (.int (chs &&& (255 : Int32))), .val (.int (((chs.toUInt32 >>> ((8 : Int32) &&& 31).toUInt32).toInt32) &&& (255 : Int32))), .val (.int (((chs.toUInt32 >>> ((16 : Int32) &&& 31).toUInt32).toInt32) &&& (255 : Int32))), .val (.int (((chs.toUInt32 >>> ((24 : Int32) &&& 31).toUInt32).toInt32) &&& (255 : Int32)))] [(.int (3 : Int32)), (.ref b99), (.ref b99)])) rfl (hb hby d2_141) rfl (by decide) (cap := 3) (by decide) (by decide) (by decide) (by decide)
              obtain ⟨b101, g101⟩ : ∃ z, z = h99.size := ⟨_, rfl⟩
              rw [← g101] at A101 st101
              have sz_b101 : h0.size ≤ b101 := Nat.le_trans K100.1 (Nat.le_of_eq g101.symm)
              have g_b101 : n0 ≤ b101 := Nat.le_trans Z0 sz_b101
              have ne102 : b99 ≠ b101 := Nat.ne_of_lt (Nat.lt_of_lt_of_le A99.lt (Nat.le_of_eq g101.symm))
              have S_b101 := Safe.new (Z := Z) (EL := consts_1) (vm := s.vm) (Nat.le_of_eq g101.symm)
              replace S_b99 := Safe.ext E101 CH S_b99
              replace S_b101 := Safe.ext E101 CH S_b101
              replace CR := CR.trans (CHr.ext E101 CH)
              replace CH := CH.ext E101
              replace hk := Nat.le_trans hk E101.1
              replace O0 := O0.ext E101
              replace A99 := A99.ext E101
              replace F99_value := F99_value.ext E101
              replace F99_coder := F99_coder.ext E101
              have K103 := K100.ext E101
              have V101 : Arv Z h101 b101 k101 .char (3 : Int32) [(.int (0 : Int32)), (.int (0 : Int32)), (.int (0 : Int32))] (.int (0 : Int32)) := (Arv.new A101 (by decide)).pad (pad_rep [] (.int (0 : Int32)) 3)
              refine own_go st101 ?_
              refine own_go (fun _ kk_ => XS.dup X101.here hx rfl (hb hby d2_143) rfl rfl kk_) ?_
              refine own_go (fun _ kk_ => XS.iconst X101.here hx rfl (hb hby d2_144) kk_) ?_
              refine own_go (fun _ kk_ => XS.iload X101.here hx rfl (hb hby d2_145) rfl kk_) ?_
              show own_Fin p.tables e below _ (T101.setTop (mkF m 147 #[.val (.int mo), .val (.int chs), .val (.int (mo &&& (3 : Int32))), .val (.int ((((mo.toUInt32 >>> ((2 : Int32) &&& 31).toUInt32).toInt32) &&& (7 : Int32)) % (5 : Int32))), .val (.int (chs &&& (255 : Int32))), .val (.int (((chs.toUInt32 >>> ((8 : Int32) &&& 31).toUInt32).toInt32) &&& (255 : Int32))), .val (.int (((chs.toUInt32 >>> ((16 : Int32) &&& 31).toUInt32).toInt32) &&& (255 : Int32))), .val (.int (((chs.toUInt32 >>> ((24 : Int32) &&& 31).toUInt32).toInt32) &&& (255 : Int32)))] [(.int (chs &&& (255 : Int32))), (.int (0 : Int32)), (.ref b101), (.ref b101), (.ref b99), (.ref b99)]))
              obtain ⟨T104, h104, X104, e104, W104, V104, st104⟩ := own_stC X101 hx hZ e101 V101 (by decide) (i := 0) rfl (Nat.le_of_ble_eq_true rfl) (g := (mkF m 147 #[.val (.int mo), .val (.int chs), .val (.int (mo &&& (3 : Int32))), .val (.int ((((mo.toUInt32 >>> ((2 : Int32) &&& 31).toUInt32).toInt32) &&& (7 : Int32)) % (5 : Int32))), .val (.int (chs &&& (255 : Int32))), .val (.int (((chs.toUInt32 >>> ((8 : Int32) &&& 31).toUInt32).toInt32) &&& (255 : Int32))), .val (.int (((chs.toUInt32 >>> ((16 : Int32) &&& 31).toUInt32).toInt32) &&& (255 : Int32))), .val (.int (((chs.toUInt32 >>> ((24 : Int32) &&& 31).toUInt32).toInt32) &&& (255 : Int32)))] [(.int (chs &&& (255 : Int32))), (.int (0 : Int32)), (.ref b101), (.ref b101), (.ref b99), (.ref b99)])) rfl rfl (hb hby d2_147)
              rw [own_nar255] at V104
              replace V101 : Arv Z h104 b101 k101 .char (3 : Int32) [(.int (chs &&& (255 : Int32))), (.int (0 : Int32)), (.int (0 : Int32))] (.int (0 : Int32)) := V104
              have N104 := Fr.snoc X104 N0 g_b101
              refine own_go st104 ?_
              have sa105 := S_b101
              replace S_b99 := Safe.wr W104 sa105 CH S_b99
              replace S_b101 := Safe.wr W104 sa105 CH S_b101
              replace CR := CR.trans (CHr.wr W104 sa105 CH)
              replace CH := CHv.wr W104 sa105 CH
              replace hk := Nat.le_trans hk (Keep.of_wr W104).1
              replace O0 := O0.wr W104 g_b101
              replace A99 := A99.wr W104
              replace F99_value := F99_value.other W104 (Or.inl ne102)
              replace F99_coder := F99_coder.other W104 (Or.inl ne102)
              have K106 := K103.wr W104 (Or.inr sz_b101)
              refine own_go (fun _ kk_ => XS.dup X104.here hx rfl (hb hby d2_148) rfl rfl kk_) ?_
              refine own_go (fun _ kk_ => XS.iconst X104.here hx rfl (hb hby d2_149) kk_) ?_
              refine own_go (fun _ kk_ => XS.iload X104.here hx rfl (hb hby d2_150) rfl kk_) ?_
              show own_Fin p.tables e below _ (T104.setTop (mkF m 152 #[.val (.int mo), .val (.int chs), .val (.int (mo &&& (3 : Int32))), .val (.int ((((mo.toUInt32 >>> ((2 : Int32) &&& 31).toUInt32).toInt32) &&& (7 : Int32)) % (5 : Int32))), .val (.int (chs &&& (255 : Int32))), .val (.int (((chs.toUInt32 >>> ((8 : Int32) &&& 31).toUInt32).toInt32) &&& (255 : Int32))), .val (.int (((chs.toUInt32 >>> ((16 : Int32) &&& 31).toUInt32).toInt32) &&& (255 : Int32))), .val (.int (((chs.toUInt32 >>> ((24 : Int32) &&& 31).toUInt32).toInt32) &&& (255 : Int32)))] [(.int (((chs.toUInt32 >>> ((8 : Int32) &&& 31).toUInt32).toInt32) &&& (255 : Int32))), (.int (1 : Int32)), (.ref b101), (.ref b101), (.ref b99), (.ref b99)]))
              obtain ⟨T107, h107, X107, e107, W107, V107, st107⟩ := own_stC X104 hx hZ e104 V101 (by decide) (i := 1) rfl (Nat.le_of_ble_eq_true rfl) (g := (mkF m 152 #[.val (.int mo), .val (.int chs), .val (.int (mo &&& (3 : Int32))), .val (.int ((((mo.toUInt32 >>> ((2 : Int32) &&& 31).toUInt32).toInt32) &&& (7 : Int32)) % (5 : Int32))), .val (.int (chs &&& (255 : Int32))), .val (.int (((chs.toUInt32 >>> ((8 : Int32) &&& 31).toUInt32).toInt32) &&& (255 : Int32))), .val (.int (((chs.toUInt32 >>> ((16 : Int32) &&& 31).toUInt32).toInt32) &&& (255 : Int32))), .val (.int (((chs.toUInt32 >>> ((24 : Int32) &&& 31).toUInt32).toInt32) &&& (255 : Int32)))] [(.int (((chs.toUInt32 >>> ((8 : Int32) &&& 31).toUInt32).toInt32) &&& (255 : Int32))), (.int (1 : Int32)), (.ref b101), (.ref b101), (.ref b99), (.ref b99)])) rfl rfl (hb hby d2_152)
              rw [own_nar255] at V107
              replace V101 : Arv Z h107 b101 k101 .char (3 : Int32) [(.int (chs &&& (255 : Int32))), (.int (((chs.toUInt32 >>> ((8 : Int32) &&& 31).toUInt32).toInt32) &&& (255 : Int32))), (.int (0 : Int32))] (.int (0 : Int32)) := V107
              have N107 := Fr.snoc X107 N104 g_b101
              refine own_go st107 ?_
              have sa108 := S_b101
              replace S_b99 := Safe.wr W107 sa108 CH S_b99
              replace S_b101 := Safe.wr W107 sa108 CH S_b101
              replace CR := CR.trans (CHr.wr W107 sa108 CH)
              replace CH := CHv.wr W107 sa108 CH
              replace hk := Nat.le_trans hk (Keep.of_wr W107).1
              replace O0 := O0.wr W107 g_b101
              replace A99 := A99.wr W107
              replace F99_value := F99_value.other W107 (Or.inl ne102)
              replace F99_coder := F99_coder.other W107 (Or.inl ne102)
              have K109 := K106.wr W107 (Or.inr sz_b101)
              refine own_go (fun _ kk_ => XS.dup X107.here hx rfl (hb hby d2_153) rfl rfl kk_) ?_
              refine own_go (fun _ kk_ => XS.iconst X107.here hx rfl (hb hby d2_154) kk_) ?_
              refine own_go (fun _ kk_ => XS.iload X107.here hx rfl (hb hby d2_155) rfl kk_) ?_
              show own_Fin p.tables e below _ (T107.setTop (mkF m 157 #[.val (.int mo), .val (.int chs), .val (.int (mo &&& (3 : Int32))), .val (.int ((((mo.toUInt32 >>> ((2 : Int32) &&& 31).toUInt32).toInt32) &&& (7 : Int32)) % (5 : Int32))), .val (.int (chs &&& (255 : Int32))), .val (.int (((chs.toUInt32 >>> ((8 : Int32) &&& 31).toUInt32).toInt32) &&& (255 : Int32))), .val (.int (((chs.toUInt32 >>> ((16 : Int32) &&& 31).toUInt32).toInt32) &&& (255 : Int32))), .val (.int (((chs.toUInt32 >>> ((24 : Int32) &&& 31).toUInt32).toInt32) &&& (255 : Int32)))] [(.int (((chs.toUInt32 >>> ((16 : Int32) &&& 31).toUInt32).toInt32) &&& (255 : Int32))), (.int (2 : Int32)), (.ref b101), (.ref b101), (.ref b99), (.ref b99)]))
              obtain ⟨T110, h110, X110, e110, W110, V110, st110⟩ := own_stC X107 hx hZ e107 V101 (by decide) (i := 2) rfl (Nat.le_of_ble_eq_true rfl) (g := (mkF m 157 #[.val (.int mo), .val (.int chs), .val (.int (mo &&& (3 : Int32))), .val (.int ((((mo.toUInt32 >>> ((2 : Int32) &&& 31).toUInt32).toInt32) &&& (7 : Int32)) % (5 : Int32))), .val (.int (chs &&& (255 : Int32))), .val (.int (((chs.toUInt32 >>> ((8 : Int32) &&& 31).toUInt32).toInt32) &&& (255 : Int32))), .val (.int (((chs.toUInt32 >>> ((16 : Int32) &&& 31).toUInt32).toInt32) &&& (255 : Int32))), .val (.int (((chs.toUInt32 >>> ((24 : Int32) &&& 31).toUInt32).toInt32) &&& (255 : Int32)))] [(.int (((chs.toUInt32 >>> ((16 : Int32) &&& 31).toUInt32).toInt32) &&& (255 : Int32))), (.int (2 : Int32)), (.ref b101), (.ref b101), (.ref b99), (.ref b99)])) rfl rfl (hb hby d2_157)
              rw [own_nar255] at V110
              replace V101 : Arv Z h110 b101 k101 .char (3 : Int32) [(.int (chs &&& (255 : Int32))), (.int (((chs.toUInt32 >>> ((8 : Int32) &&& 31).toUInt32).toInt32) &&& (255 : Int32))), (.int (((chs.toUInt32 >>> ((16 : Int32) &&& 31).toUInt32).toInt32) &&& (255 : Int32)))] (.int (0 : Int32)) := V110
              have N110 := Fr.snoc X110 N107 g_b101
              refine own_go st110 ?_
              have sa111 := S_b101
              replace S_b99 := Safe.wr W110 sa111 CH S_b99
              replace S_b101 := Safe.wr W110 sa111 CH S_b101
              replace CR := CR.trans (CHr.wr W110 sa111 CH)
              replace CH := CHv.wr W110 sa111 CH
              replace hk := Nat.le_trans hk (Keep.of_wr W110).1
              replace O0 := O0.wr W110 g_b101
              replace A99 := A99.wr W110
              replace F99_value := F99_value.other W110 (Or.inl ne102)
              replace F99_coder := F99_coder.other W110 (Or.inl ne102)
              have K112 := K109.wr W110 (Or.inr sz_b101)
              show own_Fin p.tables e below _ (T110.setTop (mkF m 158 #[.val (.int mo), .val (.int chs), .val (.int (mo &&& (3 : Int32))), .val (.int ((((mo.toUInt32 >>> ((2 : Int32) &&& 31).toUInt32).toInt32) &&& (7 : Int32)) % (5 : Int32))), .val (.int (chs &&& (255 : Int32))), .val (.int (((chs.toUInt32 >>> ((8 : Int32) &&& 31).toUInt32).toInt32) &&& (255 : Int32))), .val (.int (((chs.toUInt32 >>> ((16 : Int32) &&& 31).toUInt32).toInt32) &&& (255 : Int32))), .val (.int (((chs.toUInt32 >>> ((24 : Int32) &&& 31).toUInt32).toInt32) &&& (255 : Int32)))] [(.ref b101), (.ref b99), (.ref b99)]))
              have hp114 : ∀ c ∈ ([(chs &&& (255 : Int32)), (((chs.toUInt32 >>> ((8 : Int32) &&& 31).toUInt32).toInt32) &&& (255 : Int32)), (((chs.toUInt32 >>> ((16 : Int32) &&& 31).toUInt32).toInt32) &&& (255 : Int32))] : List Int32), ¬ c < 0 ∧ ¬ (255 : Int32) < c := by
                intro c hc
                simp only [List.mem_cons, List.not_mem_nil, or_false] at hc
                rcases hc with rfl | rfl | rfl
                · exact own_and255 _
                · exact own_and255 _
                · exact own_and255 _
              obtain ⟨_, _, ⟨T113, L113, k113, n113⟩, -, X113, ⟨Lc113, hQ113, l113, y113, z113⟩, st113⟩ := X110.specialBack hx (y := (⟨"java/lang/String", "<init>", "([C)V"⟩ : MethodName)) rfl hown (mvT hZ (hw _ (List.mem_of_getElem? (i := 15) rfl))) (mvT hZ (hw _ (List.mem_of_getElem? (i := 16) rfl))) (mvT hZ (hw _ (List.mem_of_getElem? (i := 17) rfl))) (by decide) (StrChars.Road.backV (W := 1) hZ hws (kI := 4) (hw _ (List.mem_of_getElem? (i := 12) rfl)) (cs := ([(chs &&& (255 : Int32)), (((chs.toUInt32 >>> ((8 : Int32) &&& 31).toUInt32).toInt32) &&& (255 : Int32)), (((chs.toUInt32 >>> ((16 : Int32) &&& 31).toUInt32).toInt32) &&& (255 : Int32))] : List Int32)) (bs := (([(chs &&& (255 : Int32)), (((chs.toUInt32 >>> ((8 : Int32) &&& 31).toUInt32).toInt32) &&& (255 : Int32)), (((chs.toUInt32 >>> ((16 : Int32) &&& 31).toUInt32).toInt32) &&& (255 : Int32))] : List Int32)).map (fun c => c.toInt8.toInt32)) (n := 3) g_b99 (Nat.le_trans Z0 K112.1) A99 F99_value F99_coder V101 (S_C.ext O0.2) hcs rfl rfl (by decide) (by decide) hp114 rfl (by decide) (by decide)) (g := (mkF m 158 #[.val (.int mo), .val (.int chs), .val (.int (mo &&& (3 : Int32))), .val (.int ((((mo.toUInt32 >>> ((2 : Int32) &&& 31).toUInt32).toInt32) &&& (7 : Int32)) % (5 : Int32))), .val (.int (chs &&& (255 : Int32))), .val (.int (((chs.toUInt32 >>> ((8 : Int32) &&& 31).toUInt32).toInt32) &&& (255 : Int32))), .val (.int (((chs.toUInt32 >>> ((16 : Int32) &&& 31).toUInt32).toInt32) &&& (255 : Int32))), .val (.int (((chs.toUInt32 >>> ((24 : Int32) &&& 31).toUInt32).toInt32) &&& (255 : Int32)))] [(.ref b101), (.ref b99), (.ref b99)])) rfl (by rw [hml]; rfl) (Steps.refl _) (a := b99) (argsL := [(.ref b101)]) (rest := [(.ref b99)]) (lenOf pd_7 rfl) rfl (by show 2 * 0 + _ ≤ _; exact Nat.le_of_eq rfl) (hb hby d2_158) (fun _ _ => ⟨rfl, e110, (by decide : 2 + 1 ≤ _), (by decide : 7 + 3 ≤ _)⟩)
              dsimp only [Pt.U, Pt.locs, Pt.cells, Pt.slots] at X113 l113 y113 z113 st113 hQ113
              subst l113 y113 z113
              obtain ⟨rfl, N113q, KK113, EE113, FC113, t113, kb113, gt113, szt113, netx113, FV113, VV113⟩ := hQ113
              have N113 := Fr.app N110 N113q
              have SS113 : own_Str Z T113.heap b99 t113 ([(chs &&& (255 : Int32)), (((chs.toUInt32 >>> ((8 : Int32) &&& 31).toUInt32).toInt32) &&& (255 : Int32)), (((chs.toUInt32 >>> ((16 : Int32) &&& 31).toUInt32).toInt32) &&& (255 : Int32))] : List Int32) := ⟨_, _, _, _, EE113, FV113, FC113, VV113, StrChars.Road.codOf (n := 3) rfl (fun c hc => (hp114 c hc).2), own_up _ hp114, Nat.le_of_ble_eq_true rfl⟩
              have sz_t113 : h0.size ≤ t113 := Nat.le_trans K112.1 szt113
              have ne115 : b99 ≠ t113 := Nat.ne_of_lt (Nat.lt_of_lt_of_le A99.lt szt113)
              have ne116 : b101 ≠ t113 := Nat.ne_of_lt (Nat.lt_of_lt_of_le V101.lt szt113)
              have S_t113 := Safe.new (Z := Z) (EL := consts_1) (vm := s.vm) szt113
              have hs117 : ∀ x ∈ [b99], Safe Z consts_1 s.vm h110 x := (sfS S_b99 sf0)
              replace S_b99 := Safe.keep KK113 hs117 CH S_b99
              replace S_b101 := Safe.keep KK113 hs117 CH S_b101
              replace S_t113 := Safe.keep KK113 hs117 CH S_t113
              replace CR := CR.trans (CHr.keep KK113 hs117 CH)
              replace CH := CHv.keep KK113 hs117 CH
              replace hk := Nat.le_trans hk KK113.1
              replace O0 := O0.keep KK113 (allS g_b99 (all0))
              replace A99 := A99.keep KK113
              replace V101 := V101.keep KK113 (ninS (Ne.symm ne102) nin0)
              have K118 := K112.trans KK113 (allS (Or.inr sz_b99) all0)
              refine own_go (fun _ kk_ => st113.trans kk_) ?_
              show own_Fin p.tables e below _ (T113.setTop (mkF m 161 #[.val (.int mo), .val (.int chs), .val (.int (mo &&& (3 : Int32))), .val (.int ((((mo.toUInt32 >>> ((2 : Int32) &&& 31).toUInt32).toInt32) &&& (7 : Int32)) % (5 : Int32))), .val (.int (chs &&& (255 : Int32))), .val (.int (((chs.toUInt32 >>> ((8 : Int32) &&& 31).toUInt32).toInt32) &&& (255 : Int32))), .val (.int (((chs.toUInt32 >>> ((16 : Int32) &&& 31).toUInt32).toInt32) &&& (255 : Int32))), .val (.int (((chs.toUInt32 >>> ((24 : Int32) &&& 31).toUInt32).toInt32) &&& (255 : Int32)))] [(.ref b99)]))
              have CRz : CHr Z consts_1 s.vm s.heap T113.vm T113.heap := by
                rw [hh]
                exact CR.trans (CHv.at X113 hZ hEL CH)
              refine own_retW X113 hx Bd hS hk (t := (.object "java/lang/String")) Bd.returns rfl (Or.inr (Or.inr (Or.inr (Or.inr ⟨rfl, rfl, rfl⟩)))) (hb hby d2_161) CRz ?_ (by decide) (by decide)
              show (Q_rm_tx Z mo chs gc h0 n0) (some (.ref b99)) T113.heap _
              refine ⟨_, _, ([(chs &&& (255 : Int32)), (((chs.toUInt32 >>> ((8 : Int32) &&& 31).toUInt32).toInt32) &&& (255 : Int32)), (((chs.toUInt32 >>> ((16 : Int32) &&& 31).toUInt32).toInt32) &&& (255 : Int32))] : List Int32), rfl, N113, K118, SS113, ?_⟩
              intro c hc
              simp only [List.mem_cons, List.not_mem_nil, or_false] at hc
              rcases hc with rfl | rfl | rfl
              · exact own_and255 _
              · exact own_and255 _
              · exact own_and255 _
            · skip
              refine own_go (fun _ kk_ => XS.icmpYes X0.here hx rfl (pc0 := 133) (pc' := 162) rfl (hb hby d2_133) rfl (feq hc98).2 (by decide) (by decide) kk_) ?_
              show own_Fin p.tables e below _ (s₁.setTop (mkF m 162 #[.val (.int mo), .val (.int chs), .val (.int (mo &&& (3 : Int32))), .val (.int ((((mo.toUInt32 >>> ((2 : Int32) &&& 31).toUInt32).toInt32) &&& (7 : Int32)) % (5 : Int32))), .val (.int (chs &&& (255 : Int32))), .val (.int (((chs.toUInt32 >>> ((8 : Int32) &&& 31).toUInt32).toInt32) &&& (255 : Int32))), .val (.int (((chs.toUInt32 >>> ((16 : Int32) &&& 31).toUInt32).toInt32) &&& (255 : Int32))), .val (.int (((chs.toUInt32 >>> ((24 : Int32) &&& 31).toUInt32).toInt32) &&& (255 : Int32)))] []))
              obtain ⟨T119, h119, X119, e119, E119, A119, D119, -, st119⟩ := newO X0 hx hZ hown (hw _ (List.mem_of_getElem? (i := 11) rfl)) (hw _ (List.mem_of_getElem? (i := 12) rfl)) (hw _ (List.mem_of_getElem? (i := 13) rfl)) e0 (g := (mkF m 162 #[.val (.int mo), .val (.int chs), .val (.int (mo &&& (3 : Int32))), .val (.int ((((mo.toUInt32 >>> ((2 : Int32) &&& 31).toUInt32).toInt32) &&& (7 : Int32)) % (5 : Int32))), .val (.int (chs &&& (255 : Int32))), .val (.int (((chs.toUInt32 >>> ((8 : Int32) &&& 31).toUInt32).toInt32) &&& (255 : Int32))), .val (.int (((chs.toUInt32 >>> ((16 : Int32) &&& 31).toUInt32).toInt32) &&& (255 : Int32))), .val (.int (((chs.toUInt32 >>> ((24 : Int32) &&& 31).toUInt32).toInt32) &&& (255 : Int32)))] [])) rfl (hb hby d2_162) (by decide) (by decide)
              obtain ⟨b119, g119⟩ : ∃ z, z = h0.size := ⟨_, rfl⟩
              rw [← g119] at A119 D119 st119
              have sz_b119 : h0.size ≤ b119 := Nat.le_trans K0.1 (Nat.le_of_eq g119.symm)
              have g_b119 : n0 ≤ b119 := Nat.le_trans Z0 sz_b119
              have S_b119 := Safe.new (Z := Z) (EL := consts_1) (vm := s.vm) (Nat.le_of_eq g119.symm)
              replace S_b119 := Safe.ext E119 CH S_b119
              replace CR := CR.trans (CHr.ext E119 CH)
              replace CH := CH.ext E119
              replace hk := Nat.le_trans hk E119.1
              replace O0 := O0.ext E119
              have K120 := K0.ext E119
              have F119_value : Fld Z h119 b119 "java/lang/String" "value" "[B" .null := D119 (Or.inr (hw _ (List.mem_of_getElem? (i := 27) rfl))) (ty := (.array .byte)) (by decide)
              have F119_coder : Fld Z h119 b119 "java/lang/String" "coder" "B" (.int (0 : Int32)) := D119 (Or.inr (hw _ (List.mem_of_getElem? (i := 28) rfl))) (ty := .byte) (by decide)
              refine own_go st119 ?_
              refine own_go (fun _ kk_ => XS.dup X119.here hx rfl (hb hby d2_165) rfl rfl kk_) ?_
              refine own_go (fun _ kk_ => XS.iconst X119.here hx rfl (hb hby d2_166) kk_) ?_
              show own_Fin p.tables e below _ (T119.setTop (mkF m 167 #[.val (.int mo), .val (.int chs), .val (.int (mo &&& (3 : Int32))), .val (.int ((((mo.toUInt32 >>> ((2 : Int32) &&& 31).toUInt32).toInt32) &&& (7 : Int32)) % (5 : Int32))), .val (.int (chs &&& (255 : Int32))), .val (.int (((chs.toUInt32 >>> ((8 : Int32) &&& 31).toUInt32).toInt32) &&& (255 : Int32))), .val (.int (((chs.toUInt32 >>> ((16 : Int32) &&& 31).toUInt32).toInt32) &&& (255 : Int32))), .val (.int (((chs.toUInt32 >>> ((24 : Int32) &&& 31).toUInt32).toInt32) &&& (255 : Int32)))] [(.int (4 : Int32)), (.ref b119), (.ref b119)]))
              obtain ⟨T121, h121, k121, X121, e121, E121, A121, st121⟩ := newP X119 hx hZ (hw _ (List.mem_of_getElem? (i := 14) rfl)) e119 (g := (mkF m 167 #[.val (.int mo), .val (.int chs), .val (.int (mo &&& (3 : Int32))), .val (.int ((((mo.toUInt32 >>> ((2 : Int32) &&& 31).toUInt32).toInt32) &&& (7 : Int32)) % (5 : Int32))), .val (.int (chs &&& (255 : Int32))), .val (.int (((chs.toUInt32 >>> ((8 : Int32) &&& 31).toUInt32).toInt32) &&& (255 : Int32))), .val (.int (((chs.toUInt32 >>> ((16 : Int32) &&& 31).toUInt32).toInt32) &&& (255 : Int32))), .val (.int (((chs.toUInt32 >>> ((24 : Int32) &&& 31).toUInt32).toInt32) &&& (255 : Int32)))] [(.int (4 : Int32)), (.ref b119), (.ref b119)])) rfl (hb hby d2_167) rfl (by decide) (cap := 4) (by decide) (by decide) (by decide) (by decide)
              obtain ⟨b121, g121⟩ : ∃ z, z = h119.size := ⟨_, rfl⟩
              rw [← g121] at A121 st121
              have sz_b121 : h0.size ≤ b121 := Nat.le_trans K120.1 (Nat.le_of_eq g121.symm)
              have g_b121 : n0 ≤ b121 := Nat.le_trans Z0 sz_b121
              have ne122 : b119 ≠ b121 := Nat.ne_of_lt (Nat.lt_of_lt_of_le A119.lt (Nat.le_of_eq g121.symm))
              have S_b121 := Safe.new (Z := Z) (EL := consts_1) (vm := s.vm) (Nat.le_of_eq g121.symm)
              replace S_b119 := Safe.ext E121 CH S_b119
              replace S_b121 := Safe.ext E121 CH S_b121
              replace CR := CR.trans (CHr.ext E121 CH)
              replace CH := CH.ext E121
              replace hk := Nat.le_trans hk E121.1
              replace O0 := O0.ext E121
              replace A119 := A119.ext E121
              replace F119_value := F119_value.ext E121
              replace F119_coder := F119_coder.ext E121
              have K123 := K120.ext E121
              have V121 : Arv Z h121 b121 k121 .char (4 : Int32) [(.int (0 : Int32)), (.int (0 : Int32)), (.int (0 : Int32)), (.int (0 : Int32))] (.int (0 : Int32)) := (Arv.new A121 (by decide)).pad (pad_rep [] (.int (0 : Int32)) 4)
              refine own_go st121 ?_
              refine own_go (fun _ kk_ => XS.dup X121.here hx rfl (hb hby d2_169) rfl rfl kk_) ?_
              refine own_go (fun _ kk_ => XS.iconst X121.here hx rfl (hb hby d2_170) kk_) ?_
              refine own_go (fun _ kk_ => XS.iload X121.here hx rfl (hb hby d2_171) rfl kk_) ?_
              show own_Fin p.tables e below _ (T121.setTop (mkF m 173 #[.val (.int mo), .val (.int chs), .val (.int (mo &&& (3 : Int32))), .val (.int ((((mo.toUInt32 >>> ((2 : Int32) &&& 31).toUInt32).toInt32) &&& (7 : Int32)) % (5 : Int32))), .val (.int (chs &&& (255 : Int32))), .val (.int (((chs.toUInt32 >>> ((8 : Int32) &&& 31).toUInt32).toInt32) &&& (255 : Int32))), .val (.int (((chs.toUInt32 >>> ((16 : Int32) &&& 31).toUInt32).toInt32) &&& (255 : Int32))), .val (.int (((chs.toUInt32 >>> ((24 : Int32) &&& 31).toUInt32).toInt32) &&& (255 : Int32)))] [(.int (chs &&& (255 : Int32))), (.int (0 : Int32)), (.ref b121), (.ref b121), (.ref b119), (.ref b119)]))
              obtain ⟨T124, h124, X124, e124, W124, V124, st124⟩ := own_stC X121 hx hZ e121 V121 (by decide) (i := 0) rfl (Nat.le_of_ble_eq_true rfl) (g := (mkF m 173 #[.val (.int mo), .val (.int chs), .val (.int (mo &&& (3 : Int32))), .val (.int ((((mo.toUInt32 >>> ((2 : Int32) &&& 31).toUInt32).toInt32) &&& (7 : Int32)) % (5 : Int32))), .val (.int (chs &&& (255 : Int32))), .val (.int (((chs.toUInt32 >>> ((8 : Int32) &&& 31).toUInt32).toInt32) &&& (255 : Int32))), .val (.int (((chs.toUInt32 >>> ((16 : Int32) &&& 31).toUInt32).toInt32) &&& (255 : Int32))), .val (.int (((chs.toUInt32 >>> ((24 : Int32) &&& 31).toUInt32).toInt32) &&& (255 : Int32)))] [(.int (chs &&& (255 : Int32))), (.int (0 : Int32)), (.ref b121), (.ref b121), (.ref b119), (.ref b119)])) rfl rfl (hb hby d2_173)
              rw [own_nar255] at V124
              replace V121 : Arv Z h124 b121 k121 .char (4 : Int32) [(.int (chs &&& (255 : Int32))), (.int (0 : Int32)), (.int (0 : Int32)), (.int (0 : Int32))] (.int (0 : Int32)) := V124
              have N124 := Fr.snoc X124 N0 g_b121
              refine own_go st124 ?_
              have sa125 := S_b121
              replace S_b119 := Safe.wr W124 sa125 CH S_b119
              replace S_b121 := Safe.wr W124 sa125 CH S_b121
              replace CR := CR.trans (CHr.wr W124 sa125 CH)
              replace CH := CHv.wr W124 sa125 CH
              replace hk := Nat.le_trans hk (Keep.of_wr W124).1
              replace O0 := O0.wr W124 g_b121
              replace A119 := A119.wr W124
              replace F119_value := F119_value.other W124 (Or.inl ne122)
              replace F119_coder := F119_coder.other W124 (Or.inl ne122)
              have K126 := K123.wr W124 (Or.inr sz_b121)
              refine own_go (fun _ kk_ => XS.dup X124.here hx rfl (hb hby d2_174) rfl rfl kk_) ?_
              refine own_go (fun _ kk_ => XS.iconst X124.here hx rfl (hb hby d2_175) kk_) ?_
              refine own_go (fun _ kk_ => XS.iload X124.here hx rfl (hb hby d2_176) rfl kk_) ?_
              show own_Fin p.tables e below _ (T124.setTop (mkF m 178 #[.val (.int mo), .val (.int chs), .val (.int (mo &&& (3 : Int32))), .val (.int ((((mo.toUInt32 >>> ((2 : Int32) &&& 31).toUInt32).toInt32) &&& (7 : Int32)) % (5 : Int32))), .val (.int (chs &&& (255 : Int32))), .val (.int (((chs.toUInt32 >>> ((8 : Int32) &&& 31).toUInt32).toInt32) &&& (255 : Int32))), .val (.int (((chs.toUInt32 >>> ((16 : Int32) &&& 31).toUInt32).toInt32) &&& (255 : Int32))), .val (.int (((chs.toUInt32 >>> ((24 : Int32) &&& 31).toUInt32).toInt32) &&& (255 : Int32)))] [(.int (((chs.toUInt32 >>> ((8 : Int32) &&& 31).toUInt32).toInt32) &&& (255 : Int32))), (.int (1 : Int32)), (.ref b121), (.ref b121), (.ref b119), (.ref b119)]))
              obtain ⟨T127, h127, X127, e127, W127, V127, st127⟩ := own_stC X124 hx hZ e124 V121 (by decide) (i := 1) rfl (Nat.le_of_ble_eq_true rfl) (g := (mkF m 178 #[.val (.int mo), .val (.int chs), .val (.int (mo &&& (3 : Int32))), .val (.int ((((mo.toUInt32 >>> ((2 : Int32) &&& 31).toUInt32).toInt32) &&& (7 : Int32)) % (5 : Int32))), .val (.int (chs &&& (255 : Int32))), .val (.int (((chs.toUInt32 >>> ((8 : Int32) &&& 31).toUInt32).toInt32) &&& (255 : Int32))), .val (.int (((chs.toUInt32 >>> ((16 : Int32) &&& 31).toUInt32).toInt32) &&& (255 : Int32))), .val (.int (((chs.toUInt32 >>> ((24 : Int32) &&& 31).toUInt32).toInt32) &&& (255 : Int32)))] [(.int (((chs.toUInt32 >>> ((8 : Int32) &&& 31).toUInt32).toInt32) &&& (255 : Int32))), (.int (1 : Int32)), (.ref b121), (.ref b121), (.ref b119), (.ref b119)])) rfl rfl (hb hby d2_178)
              rw [own_nar255] at V127
              replace V121 : Arv Z h127 b121 k121 .char (4 : Int32) [(.int (chs &&& (255 : Int32))), (.int (((chs.toUInt32 >>> ((8 : Int32) &&& 31).toUInt32).toInt32) &&& (255 : Int32))), (.int (0 : Int32)), (.int (0 : Int32))] (.int (0 : Int32)) := V127
              have N127 := Fr.snoc X127 N124 g_b121
              refine own_go st127 ?_
              have sa128 := S_b121
              replace S_b119 := Safe.wr W127 sa128 CH S_b119
              replace S_b121 := Safe.wr W127 sa128 CH S_b121
              replace CR := CR.trans (CHr.wr W127 sa128 CH)
              replace CH := CHv.wr W127 sa128 CH
              replace hk := Nat.le_trans hk (Keep.of_wr W127).1
              replace O0 := O0.wr W127 g_b121
              replace A119 := A119.wr W127
              replace F119_value := F119_value.other W127 (Or.inl ne122)
              replace F119_coder := F119_coder.other W127 (Or.inl ne122)
              have K129 := K126.wr W127 (Or.inr sz_b121)
              refine own_go (fun _ kk_ => XS.dup X127.here hx rfl (hb hby d2_179) rfl rfl kk_) ?_
              refine own_go (fun _ kk_ => XS.iconst X127.here hx rfl (hb hby d2_180) kk_) ?_
              refine own_go (fun _ kk_ => XS.iload X127.here hx rfl (hb hby d2_181) rfl kk_) ?_
              show own_Fin p.tables e below _ (T127.setTop (mkF m 183 #[.val (.int mo), .val (.int chs), .val (.int (mo &&& (3 : Int32))), .val (.int ((((mo.toUInt32 >>> ((2 : Int32) &&& 31).toUInt32).toInt32) &&& (7 : Int32)) % (5 : Int32))), .val (.int (chs &&& (255 : Int32))), .val (.int (((chs.toUInt32 >>> ((8 : Int32) &&& 31).toUInt32).toInt32) &&& (255 : Int32))), .val (.int (((chs.toUInt32 >>> ((16 : Int32) &&& 31).toUInt32).toInt32) &&& (255 : Int32))), .val (.int (((chs.toUInt32 >>> ((24 : Int32) &&& 31).toUInt32).toInt32) &&& (255 : Int32)))] [(.int (((chs.toUInt32 >>> ((16 : Int32) &&& 31).toUInt32).toInt32) &&& (255 : Int32))), (.int (2 : Int32)), (.ref b121), (.ref b121), (.ref b119), (.ref b119)]))
              obtain ⟨T130, h130, X130, e130, W130, V130, st130⟩ := own_stC X127 hx hZ e127 V121 (by decide) (i := 2) rfl (Nat.le_of_ble_eq_true rfl) (g := (mkF m 183 #[.val (.int mo), .val (.int chs), .val (.int (mo &&& (3 : Int32))), .val (.int ((((mo.toUInt32 >>> ((2 : Int32) &&& 31).toUInt32).toInt32) &&& (7 : Int32)) % (5 : Int32))), .val (.int (chs &&& (255 : Int32))), .val (.int (((chs.toUInt32 >>> ((8 : Int32) &&& 31).toUInt32).toInt32) &&& (255 : Int32))), .val (.int (((chs.toUInt32 >>> ((16 : Int32) &&& 31).toUInt32).toInt32) &&& (255 : Int32))), .val (.int (((chs.toUInt32 >>> ((24 : Int32) &&& 31).toUInt32).toInt32) &&& (255 : Int32)))] [(.int (((chs.toUInt32 >>> ((16 : Int32) &&& 31).toUInt32).toInt32) &&& (255 : Int32))), (.int (2 : Int32)), (.ref b121), (.ref b121), (.ref b119), (.ref b119)])) rfl rfl (hb hby d2_183)
              rw [own_nar255] at V130
              replace V121 : Arv Z h130 b121 k121 .char (4 : Int32) [(.int (chs &&& (255 : Int32))), (.int (((chs.toUInt32 >>> ((8 : Int32) &&& 31).toUInt32).toInt32) &&& (255 : Int32))), (.int (((chs.toUInt32 >>> ((16 : Int32) &&& 31).toUInt32).toInt32) &&& (255 : Int32))), (.int (0 : Int32))] (.int (0 : Int32)) := V130
              have N130 := Fr.snoc X130 N127 g_b121
              refine own_go st130 ?_
              have sa131 := S_b121
              replace S_b119 := Safe.wr W130 sa131 CH S_b119
              replace S_b121 := Safe.wr W130 sa131 CH S_b121
              replace CR := CR.trans (CHr.wr W130 sa131 CH)
              replace CH := CHv.wr W130 sa131 CH
              replace hk := Nat.le_trans hk (Keep.of_wr W130).1
              replace O0 := O0.wr W130 g_b121
              replace A119 := A119.wr W130
              replace F119_value := F119_value.other W130 (Or.inl ne122)
              replace F119_coder := F119_coder.other W130 (Or.inl ne122)
              have K132 := K129.wr W130 (Or.inr sz_b121)
              refine own_go (fun _ kk_ => XS.dup X130.here hx rfl (hb hby d2_184) rfl rfl kk_) ?_
              refine own_go (fun _ kk_ => XS.iconst X130.here hx rfl (hb hby d2_185) kk_) ?_
              refine own_go (fun _ kk_ => XS.iload X130.here hx rfl (hb hby d2_186) rfl kk_) ?_
              show own_Fin p.tables e below _ (T130.setTop (mkF m 188 #[.val (.int mo), .val (.int chs), .val (.int (mo &&& (3 : Int32))), .val (.int ((((mo.toUInt32 >>> ((2 : Int32) &&& 31).toUInt32).toInt32) &&& (7 : Int32)) % (5 : Int32))), .val (.int (chs &&& (255 : Int32))), .val (.int (((chs.toUInt32 >>> ((8 : Int32) &&& 31).toUInt32).toInt32) &&& (255 : Int32))), .val (.int (((chs.toUInt32 >>> ((16 : Int32) &&& 31).toUInt32).toInt32) &&& (255 : Int32))), .val (.int (((chs.toUInt32 >>> ((24 : Int32) &&& 31).toUInt32).toInt32) &&& (255 : Int32)))] [(.int (((chs.toUInt32 >>> ((24 : Int32) &&& 31).toUInt32).toInt32) &&& (255 : Int32))), (.int (3 : Int32)), (.ref b121), (.ref b121), (.ref b119), (.ref b119)]))
              obtain ⟨T133, h133, X133, e133, W133, V133, st133⟩ := own_stC X130 hx hZ e130 V121 (by decide) (i := 3) rfl (Nat.le_of_ble_eq_true rfl) (g := (mkF m 188 #[.val (.int mo), .val (.int chs), .val (.int (mo &&& (3 : Int32))), .val (.int ((((mo.toUInt32 >>> ((2 : Int32) &&& 31).toUInt32).toInt32) &&& (7 : Int32)) % (5 : Int32))), .val (.int (chs &&& (255 : Int32))), .val (.int (((chs.toUInt32 >>> ((8 : Int32) &&& 31).toUInt32).toInt32) &&& (255 : Int32))), .val (.int (((chs.toUInt32 >>> ((16 : Int32) &&& 31).toUInt32).toInt32) &&& (255 : Int32))), .val (.int (((chs.toUInt32 >>> ((24 : Int32) &&& 31).toUInt32).toInt32) &&& (255 : Int32)))] [(.int (((chs.toUInt32 >>> ((24 : Int32) &&& 31).toUInt32).toInt32) &&& (255 : Int32))), (.int (3 : Int32)), (.ref b121), (.ref b121), (.ref b119), (.ref b119)])) rfl rfl (hb hby d2_188)
              rw [own_nar255] at V133
              replace V121 : Arv Z h133 b121 k121 .char (4 : Int32) [(.int (chs &&& (255 : Int32))), (.int (((chs.toUInt32 >>> ((8 : Int32) &&& 31).toUInt32).toInt32) &&& (255 : Int32))), (.int (((chs.toUInt32 >>> ((16 : Int32) &&& 31).toUInt32).toInt32) &&& (255 : Int32))), (.int (((chs.toUInt32 >>> ((24 : Int32) &&& 31).toUInt32).toInt32) &&& (255 : Int32)))] (.int (0 : Int32)) := V133
              have N133 := Fr.snoc X133 N130 g_b121
              refine own_go st133 ?_
              have sa134 := S_b121
              replace S_b119 := Safe.wr W133 sa134 CH S_b119
              replace S_b121 := Safe.wr W133 sa134 CH S_b121
              replace CR := CR.trans (CHr.wr W133 sa134 CH)
              replace CH := CHv.wr W133 sa134 CH
              replace hk := Nat.le_trans hk (Keep.of_wr W133).1
              replace O0 := O0.wr W133 g_b121
              replace A119 := A119.wr W133
              replace F119_value := F119_value.other W133 (Or.inl ne122)
              replace F119_coder := F119_coder.other W133 (Or.inl ne122)
              have K135 := K132.wr W133 (Or.inr sz_b121)
              show own_Fin p.tables e below _ (T133.setTop (mkF m 189 #[.val (.int mo), .val (.int chs), .val (.int (mo &&& (3 : Int32))), .val (.int ((((mo.toUInt32 >>> ((2 : Int32) &&& 31).toUInt32).toInt32) &&& (7 : Int32)) % (5 : Int32))), .val (.int (chs &&& (255 : Int32))), .val (.int (((chs.toUInt32 >>> ((8 : Int32) &&& 31).toUInt32).toInt32) &&& (255 : Int32))), .val (.int (((chs.toUInt32 >>> ((16 : Int32) &&& 31).toUInt32).toInt32) &&& (255 : Int32))), .val (.int (((chs.toUInt32 >>> ((24 : Int32) &&& 31).toUInt32).toInt32) &&& (255 : Int32)))] [(.ref b121), (.ref b119), (.ref b119)]))
              have hp137 : ∀ c ∈ ([(chs &&& (255 : Int32)), (((chs.toUInt32 >>> ((8 : Int32) &&& 31).toUInt32).toInt32) &&& (255 : Int32)), (((chs.toUInt32 >>> ((16 : Int32) &&& 31).toUInt32).toInt32) &&& (255 : Int32)), (((chs.toUInt32 >>> ((24 : Int32) &&& 31).toUInt32).toInt32) &&& (255 : Int32))] : List Int32), ¬ c < 0 ∧ ¬ (255 : Int32) < c := by
                intro c hc
                simp only [List.mem_cons, List.not_mem_nil, or_false] at hc
                rcases hc with rfl | rfl | rfl | rfl
                · exact own_and255 _
                · exact own_and255 _
                · exact own_and255 _
                · exact own_and255 _
              obtain ⟨_, _, ⟨T136, L136, k136, n136⟩, -, X136, ⟨Lc136, hQ136, l136, y136, z136⟩, st136⟩ := X133.specialBack hx (y := (⟨"java/lang/String", "<init>", "([C)V"⟩ : MethodName)) rfl hown (mvT hZ (hw _ (List.mem_of_getElem? (i := 15) rfl))) (mvT hZ (hw _ (List.mem_of_getElem? (i := 16) rfl))) (mvT hZ (hw _ (List.mem_of_getElem? (i := 17) rfl))) (by decide) (StrChars.Road.backV (W := 1) hZ hws (kI := 4) (hw _ (List.mem_of_getElem? (i := 12) rfl)) (cs := ([(chs &&& (255 : Int32)), (((chs.toUInt32 >>> ((8 : Int32) &&& 31).toUInt32).toInt32) &&& (255 : Int32)), (((chs.toUInt32 >>> ((16 : Int32) &&& 31).toUInt32).toInt32) &&& (255 : Int32)), (((chs.toUInt32 >>> ((24 : Int32) &&& 31).toUInt32).toInt32) &&& (255 : Int32))] : List Int32)) (bs := (([(chs &&& (255 : Int32)), (((chs.toUInt32 >>> ((8 : Int32) &&& 31).toUInt32).toInt32) &&& (255 : Int32)), (((chs.toUInt32 >>> ((16 : Int32) &&& 31).toUInt32).toInt32) &&& (255 : Int32)), (((chs.toUInt32 >>> ((24 : Int32) &&& 31).toUInt32).toInt32) &&& (255 : Int32))] : List Int32)).map (fun c => c.toInt8.toInt32)) (n := 4) g_b119 (Nat.le_trans Z0 K135.1) A119 F119_value F119_coder V121 (S_C.ext O0.2) hcs rfl rfl (by decide) (by decide) hp137 rfl (by decide) (by decide)) (g := (mkF m 189 #[.val (.int mo), .val (.int chs), .val (.int (mo &&& (3 : Int32))), .val (.int ((((mo.toUInt32 >>> ((2 : Int32) &&& 31).toUInt32).toInt32) &&& (7 : Int32)) % (5 : Int32))), .val (.int (chs &&& (255 : Int32))), .val (.int (((chs.toUInt32 >>> ((8 : Int32) &&& 31).toUInt32).toInt32) &&& (255 : Int32))), .val (.int (((chs.toUInt32 >>> ((16 : Int32) &&& 31).toUInt32).toInt32) &&& (255 : Int32))), .val (.int (((chs.toUInt32 >>> ((24 : Int32) &&& 31).toUInt32).toInt32) &&& (255 : Int32)))] [(.ref b121), (.ref b119), (.ref b119)])) rfl (by rw [hml]; rfl) (Steps.refl _) (a := b119) (argsL := [(.ref b121)]) (rest := [(.ref b119)]) (lenOf pd_7 rfl) rfl (by show 2 * 0 + _ ≤ _; exact Nat.le_of_eq rfl) (hb hby d2_189) (fun _ _ => ⟨rfl, e133, (by decide : 2 + 1 ≤ _), (by decide : 8 + 4 ≤ _)⟩)
              dsimp only [Pt.U, Pt.locs, Pt.cells, Pt.slots] at X136 l136 y136 z136 st136 hQ136
              subst l136 y136 z136
              obtain ⟨rfl, N136q, KK136, EE136, FC136, t136, kb136, gt136, szt136, netx136, FV136, VV136⟩ := hQ136
              have N136 := Fr.app N133 N136q
              have SS136 : own_Str Z T136.heap b119 t136 ([(chs &&& (255 : Int32)), (((chs.toUInt32 >>> ((8 : Int32) &&& 31).toUInt32).toInt32) &&& (255 : Int32)), (((chs.toUInt32 >>> ((16 : Int32) &&& 31).toUInt32).toInt32) &&& (255 : Int32)), (((chs.toUInt32 >>> ((24 : Int32) &&& 31).toUInt32).toInt32) &&& (255 : Int32))] : List Int32) := ⟨_, _, _, _, EE136, FV136, FC136, VV136, StrChars.Road.codOf (n := 4) rfl (fun c hc => (hp137 c hc).2), own_up _ hp137, Nat.le_of_ble_eq_true rfl⟩
              have sz_t136 : h0.size ≤ t136 := Nat.le_trans K135.1 szt136
              have ne138 : b119 ≠ t136 := Nat.ne_of_lt (Nat.lt_of_lt_of_le A119.lt szt136)
              have ne139 : b121 ≠ t136 := Nat.ne_of_lt (Nat.lt_of_lt_of_le V121.lt szt136)
              have S_t136 := Safe.new (Z := Z) (EL := consts_1) (vm := s.vm) szt136
              have hs140 : ∀ x ∈ [b119], Safe Z consts_1 s.vm h133 x := (sfS S_b119 sf0)
              replace S_b119 := Safe.keep KK136 hs140 CH S_b119
              replace S_b121 := Safe.keep KK136 hs140 CH S_b121
              replace S_t136 := Safe.keep KK136 hs140 CH S_t136
              replace CR := CR.trans (CHr.keep KK136 hs140 CH)
              replace CH := CHv.keep KK136 hs140 CH
              replace hk := Nat.le_trans hk KK136.1
              replace O0 := O0.keep KK136 (allS g_b119 (all0))
              replace A119 := A119.keep KK136
              replace V121 := V121.keep KK136 (ninS (Ne.symm ne122) nin0)
              have K141 := K135.trans KK136 (allS (Or.inr sz_b119) all0)
              refine own_go (fun _ kk_ => st136.trans kk_) ?_
              show own_Fin p.tables e below _ (T136.setTop (mkF m 192 #[.val (.int mo), .val (.int chs), .val (.int (mo &&& (3 : Int32))), .val (.int ((((mo.toUInt32 >>> ((2 : Int32) &&& 31).toUInt32).toInt32) &&& (7 : Int32)) % (5 : Int32))), .val (.int (chs &&& (255 : Int32))), .val (.int (((chs.toUInt32 >>> ((8 : Int32) &&& 31).toUInt32).toInt32) &&& (255 : Int32))), .val (.int (((chs.toUInt32 >>> ((16 : Int32) &&& 31).toUInt32).toInt32) &&& (255 : Int32))), .val (.int (((chs.toUInt32 >>> ((24 : Int32) &&& 31).toUInt32).toInt32) &&& (255 : Int32)))] [(.ref b119)]))
              have CRz : CHr Z consts_1 s.vm s.heap T136.vm T136.heap := by
                rw [hh]
                exact CR.trans (CHv.at X136 hZ hEL CH)
              refine own_retW X136 hx Bd hS hk (t := (.object "java/lang/String")) Bd.returns rfl (Or.inr (Or.inr (Or.inr (Or.inr ⟨rfl, rfl, rfl⟩)))) (hb hby d2_192) CRz ?_ (by decide) (by decide)
              show (Q_rm_tx Z mo chs gc h0 n0) (some (.ref b119)) T136.heap _
              refine ⟨_, _, ([(chs &&& (255 : Int32)), (((chs.toUInt32 >>> ((8 : Int32) &&& 31).toUInt32).toInt32) &&& (255 : Int32)), (((chs.toUInt32 >>> ((16 : Int32) &&& 31).toUInt32).toInt32) &&& (255 : Int32)), (((chs.toUInt32 >>> ((24 : Int32) &&& 31).toUInt32).toInt32) &&& (255 : Int32))] : List Int32), rfl, N136, K141, SS136, ?_⟩
              intro c hc
              simp only [List.mem_cons, List.not_mem_nil, or_false] at hc
              rcases hc with rfl | rfl | rfl | rfl
              · exact own_and255 _
              · exact own_and255 _
              · exact own_and255 _
              · exact own_and255 _
def Q_rm_in (Z : State) (xx : Addr) (tt : Addr) (cs : List Int32) (gc : Int32) (gs : Value) (h0 : Heap) (n0 : Nat) (v : Option Value) (h : Heap) (L : List Loc) : Prop := ∃ z : Int32, v = some (.int z) ∧ Fr n0 L ∧ h = h0 ∧ ((z = 1 ∧ own_isint cs) ∨ (z = 0 ∧ ¬ own_isint cs))
theorem ef_rm_in (m : MethodId) (xx : Addr) (tt : Addr) (gc : Int32) (gs : Value) : entryFrame m #[(.ref xx)] 2 = mkF m 0 #[.val (.ref xx), .unset] [] := by first | (simp [entryFrame, mkF, argsToLocals, Value.category]; done) | rfl
set_option maxRecDepth 65536 in
set_option maxHeartbeats 40000000 in
theorem rm_in (l : Launch) (Z : State) (a0 : Array Value) (hw : ∀ d ∈ tables_1, d.before a0 Z = true) (ws : List Jvm.Cond) (xx : Addr) (tt : Addr) (cs : List Int32) (gc : Int32) (gs : Value) (h0 : Heap) (n0 : Nat) (Z0 : n0 ≤ h0.size) (F_x : own_Str Z h0 xx tt cs) (hl : (∀ c ∈ cs, ¬ c < 0 ∧ ¬ (255 : Int32) < c)) (S_F : Sta Z Z.heap "jdk/internal/util/Preconditions" "SIOOBE_FORMATTER" "Ljava/util/function/BiFunction;" gs) (hgs : gs.isRef = true) (S_C : Sta Z Z.heap "java/lang/String" "COMPACT_STRINGS" "Z" (.int gc)) (hcs : ¬ gc = 0) (O0 : Old Z n0 h0) :
    MetFree l (⟨"com/example/obra/obra/TypeScopeIsBitwidthPinLaw", "isIntName", "(Ljava/lang/String;)Z"⟩ : MethodName) (head1 (Jvm.Cond.code (⟨"com/example/obra/obra/TypeScopeIsBitwidthPinLaw", "isIntName", "(Ljava/lang/String;)Z"⟩ : MethodName) method_5_code 2 (some .boolean) :: ws) ({ frames := 4, cells := 0, slots := 0, locals := 53 } : Room)) (fun a_ U_ => a_ = #[(.ref xx)] ∧ Z.Warmed39 U_.vm ∧ U_.heap = h0) (fun _ _ _ _ _ => True) (fun _ U_ o_ V_ => ∃ v_ L_, o_ = .returned v_ ∧ (Q_rm_in Z xx tt cs gc gs h0 n0) v_ V_.heap L_ ∧ FrameEnd U_ o_ V_ L_ ({ frames := 4, cells := 0, slots := 0, locals := 53 } : Room).cells ({ frames := 4, cells := 0, slots := 0, locals := 53 } : Room).slots) := by
  refine MetFree.of_bodySF (plainFor_of_name pn_6) hisR ?_
  intro p e s m args below meth c s₁ Bd hml0 hP hK
  obtain ⟨rfl, hZ, hh⟩ := hP
  have hx := Bd.exec
  have hby := Bd.bytes
  have hml : c.maxLocals = 2 := hml0
  have hown : s.vm.findClass "com/example/obra/obra/TypeScopeIsBitwidthPinLaw" = some m.cls := findClass_of_methodNamed Bd.named
  have hnm := (name_of_methodNamed Bd.named Bd.method).1
  have X0 : Stand p l e ({ frames := 4, cells := 0, slots := 0, locals := 53 } : Room) s m #[(.ref xx)] below meth c s₁ [] 0 0 := Stand.of_body Bd
  have e0 : s₁.heap = h0 := by rw [← hh, Bd.state]; rfl
  have N0 := Fr.nil n0
  have K0 : Keep h0 h0 [] := Keep.refl _ _
  show own_Fin p.tables e below (own_Post (Q_rm_in Z xx tt cs gc gs h0 n0) ({ frames := 4, cells := 0, slots := 0, locals := 53 } : Room).cells ({ frames := 4, cells := 0, slots := 0, locals := 53 } : Room).slots below s) _
  refine own_go (fun _ kk_ => castTop (ef_rm_in m xx tt gc gs) kk_) ?_
  have hln : ∀ d ∈ StrChars.Road.wordsLen, d.before a0 Z = true := fun d hd => hw d ((by decide +kernel : ∀ d ∈ StrChars.Road.wordsLen, d ∈ tables_1) d hd)
  have hch : ∀ d ∈ StrChars.Road.wordsChN, d.before a0 Z = true := fun d hd => hw d ((by decide +kernel : ∀ d ∈ StrChars.Road.wordsChN, d ∈ tables_1) d hd)
  refine own_go (fun _ kk_ => XS.aloadN X0.here hx rfl (hb hby d14_0) rfl rfl kk_) ?_
  show own_Fin p.tables e below _ (s₁.setTop (mkF m 1 #[.val (.ref xx), .unset] [(.ref xx)]))
  obtain ⟨cq142, kq142, qa142, qb142, qc142⟩ := isOf hZ e0 F_x.exa
  obtain ⟨_, _, ⟨T142, L142, k142, n142⟩, -, X142, ⟨Lc142, hQ142, l142, y142, z142⟩, st142⟩ := X0.virtualBack hx (y := (⟨"java/lang/String", "length", "()I"⟩ : MethodName)) (z := (⟨"java/lang/String", "length", "()I"⟩ : MethodName)) hown (mvT hZ (hw _ (List.mem_of_getElem? (i := 100) rfl))) (mvT hZ (hw _ (List.mem_of_getElem? (i := 101) rfl))) (own_notface (args := #[]) (mvT hZ (hw _ (List.mem_of_getElem? (i := 103) rfl))) rfl) (mvT hZ (hw _ (List.mem_of_getElem? (i := 103) rfl))) (mvT hZ (hw _ (List.mem_of_getElem? (i := 102) rfl))) (by decide) (own_lenB (W := 0) hZ hln (hw _ (List.mem_of_getElem? (i := 12) rfl)) F_x (S_C.ext O0.2) hcs (by decide) (by decide)) qa142 qc142 (g := (mkF m 1 #[.val (.ref xx), .unset] [(.ref xx)])) rfl (by rw [hml]; rfl) (Steps.refl _) (argsL := []) (rest := []) (lenOf pd_8 rfl) rfl (by show 2 * 0 + _ ≤ _; exact Nat.le_of_eq rfl) (hb hby d14_1) (fun _ _ => ⟨rfl, e0, (by decide : 0 + 0 ≤ _), (by decide : 0 + 0 ≤ _)⟩)
  dsimp only [Pt.U, Pt.locs, Pt.cells, Pt.slots] at X142 l142 y142 z142 st142 hQ142
  subst l142 y142 z142
  obtain ⟨rfl, rfl, e142⟩ := hQ142
  have N142 := Fr.app N0 (Fr.nil n0)
  refine own_go (fun _ kk_ => st142.trans kk_) ?_
  refine own_go (fun _ kk_ => XS.iconst X142.here hx rfl (hb hby d14_4) kk_) ?_
  show own_Fin p.tables e below _ (T142.setTop (mkF m 5 #[.val (.ref xx), .unset] [(.int (3 : Int32)), (.int (Int32.ofNat cs.length))]))
  by_cases hc143 : (Int32.ofNat cs.length) = (3 : Int32)
  · skip
    refine own_go (fun _ kk_ => XS.icmpYes X142.here hx rfl (pc0 := 5) (pc' := 10) rfl (hb hby d14_5) rfl (teq hc143).1 (by decide) (by decide) kk_) ?_
    show own_Fin p.tables e below _ (T142.setTop (mkF m 10 #[.val (.ref xx), .unset] []))
    obtain ⟨x0, x1, x2, h3⟩ := own_len3 F_x.len hc143
    have F_3 : own_Str Z h0 xx tt [x0, x1, x2] := h3 ▸ F_x
    have hl3 : ∀ c ∈ [x0, x1, x2], ¬ c < 0 ∧ ¬ (255 : Int32) < c := h3 ▸ hl
    refine own_go (fun _ kk_ => XS.aloadN X142.here hx rfl (hb hby d14_10) rfl rfl kk_) ?_
    refine own_go (fun _ kk_ => XS.iconst X142.here hx rfl (hb hby d14_11) kk_) ?_
    show own_Fin p.tables e below _ (T142.setTop (mkF m 12 #[.val (.ref xx), .unset] [(.int (0 : Int32)), (.ref xx)]))
    obtain ⟨cq144, kq144, qa144, qb144, qc144⟩ := isOf hZ e142 F_3.exa
    obtain ⟨_, _, ⟨T144, L144, k144, n144⟩, -, X144, ⟨Lc144, hQ144, l144, y144, z144⟩, st144⟩ := X142.virtualBack hx (y := (⟨"java/lang/String", "charAt", "(I)C"⟩ : MethodName)) (z := (⟨"java/lang/String", "charAt", "(I)C"⟩ : MethodName)) hown (mvT hZ (hw _ (List.mem_of_getElem? (i := 121) rfl))) (mvT hZ (hw _ (List.mem_of_getElem? (i := 122) rfl))) (own_notface (args := #[]) (mvT hZ (hw _ (List.mem_of_getElem? (i := 103) rfl))) rfl) (mvT hZ (hw _ (List.mem_of_getElem? (i := 124) rfl))) (mvT hZ (hw _ (List.mem_of_getElem? (i := 123) rfl))) (by decide) (own_chB (W := 0) hZ hch (hw _ (List.mem_of_getElem? (i := 12) rfl)) F_3 hl3 (S_C.ext O0.2) hcs (S_F.ext O0.2) hgs (i := 0) (Nat.le_of_ble_eq_true rfl) (j := (0 : Int32)) rfl (by decide) (by decide)) qa144 qc144 (g := (mkF m 12 #[.val (.ref xx), .unset] [(.int (0 : Int32)), (.ref xx)])) rfl (by rw [hml]; rfl) (Steps.refl _) (argsL := [(.int (0 : Int32))]) (rest := []) (lenOf pd_9 rfl) rfl (by show 2 * 0 + _ ≤ _; exact Nat.le_of_eq rfl) (hb hby d14_12) (fun _ _ => ⟨rfl, e142, (by decide : 0 + 0 ≤ _), (by decide : 0 + 0 ≤ _)⟩)
    dsimp only [Pt.U, Pt.locs, Pt.cells, Pt.slots] at X144 l144 y144 z144 st144 hQ144
    subst l144 y144 z144
    obtain ⟨rfl, rfl, e144⟩ := hQ144
    have N144 := Fr.app N142 (Fr.nil n0)
    refine own_go (fun _ kk_ => st144.trans kk_) ?_
    refine own_go (fun _ kk_ => XS.istoreN X144.here hx rfl (hb hby d14_15) rfl (l' := #[.val (.ref xx), .val (.int x0)]) rfl kk_) ?_
    refine own_go (fun _ kk_ => XS.iloadN X144.here hx rfl (hb hby d14_16) rfl kk_) ?_
    refine own_go (fun _ kk_ => XS.bipush X144.here hx rfl (hb hby d14_17) kk_) ?_
    show own_Fin p.tables e below _ (T144.setTop (mkF m 19 #[.val (.ref xx), .val (.int x0)] [(.int (73 : Int32)), (.int x0)]))
    by_cases hc145 : x0 = (73 : Int32)
    · skip
      refine own_go (fun _ kk_ => XS.icmpYes X144.here hx rfl (pc0 := 19) (pc' := 28) rfl (hb hby d14_19) rfl (teq hc145).1 (by decide) (by decide) kk_) ?_
      refine own_go (fun _ kk_ => XS.aloadN X144.here hx rfl (hb hby d14_28) rfl rfl kk_) ?_
      refine own_go (fun _ kk_ => XS.iconst X144.here hx rfl (hb hby d14_29) kk_) ?_
      show own_Fin p.tables e below _ (T144.setTop (mkF m 30 #[.val (.ref xx), .val (.int x0)] [(.int (1 : Int32)), (.ref xx)]))
      obtain ⟨cq146, kq146, qa146, qb146, qc146⟩ := isOf hZ e144 F_3.exa
      obtain ⟨_, _, ⟨T146, L146, k146, n146⟩, -, X146, ⟨Lc146, hQ146, l146, y146, z146⟩, st146⟩ := X144.virtualBack hx (y := (⟨"java/lang/String", "charAt", "(I)C"⟩ : MethodName)) (z := (⟨"java/lang/String", "charAt", "(I)C"⟩ : MethodName)) hown (mvT hZ (hw _ (List.mem_of_getElem? (i := 121) rfl))) (mvT hZ (hw _ (List.mem_of_getElem? (i := 122) rfl))) (own_notface (args := #[]) (mvT hZ (hw _ (List.mem_of_getElem? (i := 103) rfl))) rfl) (mvT hZ (hw _ (List.mem_of_getElem? (i := 124) rfl))) (mvT hZ (hw _ (List.mem_of_getElem? (i := 123) rfl))) (by decide) (own_chB (W := 0) hZ hch (hw _ (List.mem_of_getElem? (i := 12) rfl)) F_3 hl3 (S_C.ext O0.2) hcs (S_F.ext O0.2) hgs (i := 1) (Nat.le_of_ble_eq_true rfl) (j := (1 : Int32)) rfl (by decide) (by decide)) qa146 qc146 (g := (mkF m 30 #[.val (.ref xx), .val (.int x0)] [(.int (1 : Int32)), (.ref xx)])) rfl (by rw [hml]; rfl) (Steps.refl _) (argsL := [(.int (1 : Int32))]) (rest := []) (lenOf pd_9 rfl) rfl (by show 2 * 0 + _ ≤ _; exact Nat.le_of_eq rfl) (hb hby d14_30) (fun _ _ => ⟨rfl, e144, (by decide : 0 + 0 ≤ _), (by decide : 0 + 0 ≤ _)⟩)
      dsimp only [Pt.U, Pt.locs, Pt.cells, Pt.slots] at X146 l146 y146 z146 st146 hQ146
      subst l146 y146 z146
      obtain ⟨rfl, rfl, e146⟩ := hQ146
      have N146 := Fr.app N144 (Fr.nil n0)
      refine own_go (fun _ kk_ => st146.trans kk_) ?_
      refine own_go (fun _ kk_ => XS.bipush X146.here hx rfl (hb hby d14_33) kk_) ?_
      show own_Fin p.tables e below _ (T146.setTop (mkF m 35 #[.val (.ref xx), .val (.int x0)] [(.int (110 : Int32)), (.int x1)]))
      by_cases hc147 : x1 = (110 : Int32)
      · skip
        refine own_go (fun _ kk_ => XS.icmpNo X146.here hx rfl (hb hby d14_35) rfl (teq hc147).2 kk_) ?_
        refine own_go (fun _ kk_ => XS.aloadN X146.here hx rfl (hb hby d14_38) rfl rfl kk_) ?_
        refine own_go (fun _ kk_ => XS.iconst X146.here hx rfl (hb hby d14_39) kk_) ?_
        show own_Fin p.tables e below _ (T146.setTop (mkF m 40 #[.val (.ref xx), .val (.int x0)] [(.int (2 : Int32)), (.ref xx)]))
        obtain ⟨cq148, kq148, qa148, qb148, qc148⟩ := isOf hZ e146 F_3.exa
        obtain ⟨_, _, ⟨T148, L148, k148, n148⟩, -, X148, ⟨Lc148, hQ148, l148, y148, z148⟩, st148⟩ := X146.virtualBack hx (y := (⟨"java/lang/String", "charAt", "(I)C"⟩ : MethodName)) (z := (⟨"java/lang/String", "charAt", "(I)C"⟩ : MethodName)) hown (mvT hZ (hw _ (List.mem_of_getElem? (i := 121) rfl))) (mvT hZ (hw _ (List.mem_of_getElem? (i := 122) rfl))) (own_notface (args := #[]) (mvT hZ (hw _ (List.mem_of_getElem? (i := 103) rfl))) rfl) (mvT hZ (hw _ (List.mem_of_getElem? (i := 124) rfl))) (mvT hZ (hw _ (List.mem_of_getElem? (i := 123) rfl))) (by decide) (own_chB (W := 0) hZ hch (hw _ (List.mem_of_getElem? (i := 12) rfl)) F_3 hl3 (S_C.ext O0.2) hcs (S_F.ext O0.2) hgs (i := 2) (Nat.le_of_ble_eq_true rfl) (j := (2 : Int32)) rfl (by decide) (by decide)) qa148 qc148 (g := (mkF m 40 #[.val (.ref xx), .val (.int x0)] [(.int (2 : Int32)), (.ref xx)])) rfl (by rw [hml]; rfl) (Steps.refl _) (argsL := [(.int (2 : Int32))]) (rest := []) (lenOf pd_9 rfl) rfl (by show 2 * 0 + _ ≤ _; exact Nat.le_of_eq rfl) (hb hby d14_40) (fun _ _ => ⟨rfl, e146, (by decide : 0 + 0 ≤ _), (by decide : 0 + 0 ≤ _)⟩)
        dsimp only [Pt.U, Pt.locs, Pt.cells, Pt.slots] at X148 l148 y148 z148 st148 hQ148
        subst l148 y148 z148
        obtain ⟨rfl, rfl, e148⟩ := hQ148
        have N148 := Fr.app N146 (Fr.nil n0)
        refine own_go (fun _ kk_ => st148.trans kk_) ?_
        refine own_go (fun _ kk_ => XS.bipush X148.here hx rfl (hb hby d14_43) kk_) ?_
        show own_Fin p.tables e below _ (T148.setTop (mkF m 45 #[.val (.ref xx), .val (.int x0)] [(.int (116 : Int32)), (.int x2)]))
        by_cases hc149 : x2 = (116 : Int32)
        · skip
          refine own_go (fun _ kk_ => XS.icmpNo X148.here hx rfl (hb hby d14_45) rfl (teq hc149).2 kk_) ?_
          refine own_go (fun _ kk_ => XS.iconst X148.here hx rfl (hb hby d14_48) kk_) ?_
          refine own_go (fun _ kk_ => XS.goto X148.here hx rfl (pc0 := 49) (pc' := 53) rfl (hb hby d14_49) (by decide) (by decide) kk_) ?_
          show own_Fin p.tables e below _ (T148.setTop (mkF m 53 #[.val (.ref xx), .val (.int x0)] [(.int (1 : Int32))]))
          refine own_retI X148 hx Bd (t := .boolean) Bd.returns rfl (by simp) (hb hby d14_53) ?_ (by decide) (by decide)
          show (Q_rm_in Z xx tt cs gc gs h0 n0) (some (.int (1 : Int32))) T148.heap _
          rw [e148]
          refine ⟨_, rfl, N148, rfl, ?_⟩
          exact Or.inl ⟨rfl, by rw [h3]; simp [own_isint, hc145, hc147, hc149]⟩
        · skip
          refine own_go (fun _ kk_ => XS.icmpYes X148.here hx rfl (pc0 := 45) (pc' := 52) rfl (hb hby d14_45) rfl (feq hc149).2 (by decide) (by decide) kk_) ?_
          refine own_go (fun _ kk_ => XS.iconst X148.here hx rfl (hb hby d14_52) kk_) ?_
          show own_Fin p.tables e below _ (T148.setTop (mkF m 53 #[.val (.ref xx), .val (.int x0)] [(.int (0 : Int32))]))
          refine own_retI X148 hx Bd (t := .boolean) Bd.returns rfl (by simp) (hb hby d14_53) ?_ (by decide) (by decide)
          show (Q_rm_in Z xx tt cs gc gs h0 n0) (some (.int (0 : Int32))) T148.heap _
          rw [e148]
          refine ⟨_, rfl, N148, rfl, ?_⟩
          exact Or.inr ⟨rfl, by rw [h3]; simp [own_isint, hc145, hc147, hc149]⟩
      · skip
        refine own_go (fun _ kk_ => XS.icmpYes X146.here hx rfl (pc0 := 35) (pc' := 52) rfl (hb hby d14_35) rfl (feq hc147).2 (by decide) (by decide) kk_) ?_
        refine own_go (fun _ kk_ => XS.iconst X146.here hx rfl (hb hby d14_52) kk_) ?_
        show own_Fin p.tables e below _ (T146.setTop (mkF m 53 #[.val (.ref xx), .val (.int x0)] [(.int (0 : Int32))]))
        refine own_retI X146 hx Bd (t := .boolean) Bd.returns rfl (by simp) (hb hby d14_53) ?_ (by decide) (by decide)
        show (Q_rm_in Z xx tt cs gc gs h0 n0) (some (.int (0 : Int32))) T146.heap _
        rw [e146]
        refine ⟨_, rfl, N146, rfl, ?_⟩
        exact Or.inr ⟨rfl, by rw [h3]; simp [own_isint, hc145, hc147]⟩
    · skip
      refine own_go (fun _ kk_ => XS.icmpNo X144.here hx rfl (hb hby d14_19) rfl (feq hc145).1 kk_) ?_
      refine own_go (fun _ kk_ => XS.iloadN X144.here hx rfl (hb hby d14_22) rfl kk_) ?_
      refine own_go (fun _ kk_ => XS.bipush X144.here hx rfl (hb hby d14_23) kk_) ?_
      show own_Fin p.tables e below _ (T144.setTop (mkF m 25 #[.val (.ref xx), .val (.int x0)] [(.int (105 : Int32)), (.int x0)]))
      by_cases hc150 : x0 = (105 : Int32)
      · skip
        refine own_go (fun _ kk_ => XS.icmpNo X144.here hx rfl (hb hby d14_25) rfl (teq hc150).2 kk_) ?_
        refine own_go (fun _ kk_ => XS.aloadN X144.here hx rfl (hb hby d14_28) rfl rfl kk_) ?_
        refine own_go (fun _ kk_ => XS.iconst X144.here hx rfl (hb hby d14_29) kk_) ?_
        show own_Fin p.tables e below _ (T144.setTop (mkF m 30 #[.val (.ref xx), .val (.int x0)] [(.int (1 : Int32)), (.ref xx)]))
        obtain ⟨cq151, kq151, qa151, qb151, qc151⟩ := isOf hZ e144 F_3.exa
        obtain ⟨_, _, ⟨T151, L151, k151, n151⟩, -, X151, ⟨Lc151, hQ151, l151, y151, z151⟩, st151⟩ := X144.virtualBack hx (y := (⟨"java/lang/String", "charAt", "(I)C"⟩ : MethodName)) (z := (⟨"java/lang/String", "charAt", "(I)C"⟩ : MethodName)) hown (mvT hZ (hw _ (List.mem_of_getElem? (i := 121) rfl))) (mvT hZ (hw _ (List.mem_of_getElem? (i := 122) rfl))) (own_notface (args := #[]) (mvT hZ (hw _ (List.mem_of_getElem? (i := 103) rfl))) rfl) (mvT hZ (hw _ (List.mem_of_getElem? (i := 124) rfl))) (mvT hZ (hw _ (List.mem_of_getElem? (i := 123) rfl))) (by decide) (own_chB (W := 0) hZ hch (hw _ (List.mem_of_getElem? (i := 12) rfl)) F_3 hl3 (S_C.ext O0.2) hcs (S_F.ext O0.2) hgs (i := 1) (Nat.le_of_ble_eq_true rfl) (j := (1 : Int32)) rfl (by decide) (by decide)) qa151 qc151 (g := (mkF m 30 #[.val (.ref xx), .val (.int x0)] [(.int (1 : Int32)), (.ref xx)])) rfl (by rw [hml]; rfl) (Steps.refl _) (argsL := [(.int (1 : Int32))]) (rest := []) (lenOf pd_9 rfl) rfl (by show 2 * 0 + _ ≤ _; exact Nat.le_of_eq rfl) (hb hby d14_30) (fun _ _ => ⟨rfl, e144, (by decide : 0 + 0 ≤ _), (by decide : 0 + 0 ≤ _)⟩)
        dsimp only [Pt.U, Pt.locs, Pt.cells, Pt.slots] at X151 l151 y151 z151 st151 hQ151
        subst l151 y151 z151
        obtain ⟨rfl, rfl, e151⟩ := hQ151
        have N151 := Fr.app N144 (Fr.nil n0)
        refine own_go (fun _ kk_ => st151.trans kk_) ?_
        refine own_go (fun _ kk_ => XS.bipush X151.here hx rfl (hb hby d14_33) kk_) ?_
        show own_Fin p.tables e below _ (T151.setTop (mkF m 35 #[.val (.ref xx), .val (.int x0)] [(.int (110 : Int32)), (.int x1)]))
        by_cases hc152 : x1 = (110 : Int32)
        · skip
          refine own_go (fun _ kk_ => XS.icmpNo X151.here hx rfl (hb hby d14_35) rfl (teq hc152).2 kk_) ?_
          refine own_go (fun _ kk_ => XS.aloadN X151.here hx rfl (hb hby d14_38) rfl rfl kk_) ?_
          refine own_go (fun _ kk_ => XS.iconst X151.here hx rfl (hb hby d14_39) kk_) ?_
          show own_Fin p.tables e below _ (T151.setTop (mkF m 40 #[.val (.ref xx), .val (.int x0)] [(.int (2 : Int32)), (.ref xx)]))
          obtain ⟨cq153, kq153, qa153, qb153, qc153⟩ := isOf hZ e151 F_3.exa
          obtain ⟨_, _, ⟨T153, L153, k153, n153⟩, -, X153, ⟨Lc153, hQ153, l153, y153, z153⟩, st153⟩ := X151.virtualBack hx (y := (⟨"java/lang/String", "charAt", "(I)C"⟩ : MethodName)) (z := (⟨"java/lang/String", "charAt", "(I)C"⟩ : MethodName)) hown (mvT hZ (hw _ (List.mem_of_getElem? (i := 121) rfl))) (mvT hZ (hw _ (List.mem_of_getElem? (i := 122) rfl))) (own_notface (args := #[]) (mvT hZ (hw _ (List.mem_of_getElem? (i := 103) rfl))) rfl) (mvT hZ (hw _ (List.mem_of_getElem? (i := 124) rfl))) (mvT hZ (hw _ (List.mem_of_getElem? (i := 123) rfl))) (by decide) (own_chB (W := 0) hZ hch (hw _ (List.mem_of_getElem? (i := 12) rfl)) F_3 hl3 (S_C.ext O0.2) hcs (S_F.ext O0.2) hgs (i := 2) (Nat.le_of_ble_eq_true rfl) (j := (2 : Int32)) rfl (by decide) (by decide)) qa153 qc153 (g := (mkF m 40 #[.val (.ref xx), .val (.int x0)] [(.int (2 : Int32)), (.ref xx)])) rfl (by rw [hml]; rfl) (Steps.refl _) (argsL := [(.int (2 : Int32))]) (rest := []) (lenOf pd_9 rfl) rfl (by show 2 * 0 + _ ≤ _; exact Nat.le_of_eq rfl) (hb hby d14_40) (fun _ _ => ⟨rfl, e151, (by decide : 0 + 0 ≤ _), (by decide : 0 + 0 ≤ _)⟩)
          dsimp only [Pt.U, Pt.locs, Pt.cells, Pt.slots] at X153 l153 y153 z153 st153 hQ153
          subst l153 y153 z153
          obtain ⟨rfl, rfl, e153⟩ := hQ153
          have N153 := Fr.app N151 (Fr.nil n0)
          refine own_go (fun _ kk_ => st153.trans kk_) ?_
          refine own_go (fun _ kk_ => XS.bipush X153.here hx rfl (hb hby d14_43) kk_) ?_
          show own_Fin p.tables e below _ (T153.setTop (mkF m 45 #[.val (.ref xx), .val (.int x0)] [(.int (116 : Int32)), (.int x2)]))
          by_cases hc154 : x2 = (116 : Int32)
          · skip
            refine own_go (fun _ kk_ => XS.icmpNo X153.here hx rfl (hb hby d14_45) rfl (teq hc154).2 kk_) ?_
            refine own_go (fun _ kk_ => XS.iconst X153.here hx rfl (hb hby d14_48) kk_) ?_
            refine own_go (fun _ kk_ => XS.goto X153.here hx rfl (pc0 := 49) (pc' := 53) rfl (hb hby d14_49) (by decide) (by decide) kk_) ?_
            show own_Fin p.tables e below _ (T153.setTop (mkF m 53 #[.val (.ref xx), .val (.int x0)] [(.int (1 : Int32))]))
            refine own_retI X153 hx Bd (t := .boolean) Bd.returns rfl (by simp) (hb hby d14_53) ?_ (by decide) (by decide)
            show (Q_rm_in Z xx tt cs gc gs h0 n0) (some (.int (1 : Int32))) T153.heap _
            rw [e153]
            refine ⟨_, rfl, N153, rfl, ?_⟩
            exact Or.inl ⟨rfl, by rw [h3]; simp [own_isint, hc145, hc150, hc152, hc154]⟩
          · skip
            refine own_go (fun _ kk_ => XS.icmpYes X153.here hx rfl (pc0 := 45) (pc' := 52) rfl (hb hby d14_45) rfl (feq hc154).2 (by decide) (by decide) kk_) ?_
            refine own_go (fun _ kk_ => XS.iconst X153.here hx rfl (hb hby d14_52) kk_) ?_
            show own_Fin p.tables e below _ (T153.setTop (mkF m 53 #[.val (.ref xx), .val (.int x0)] [(.int (0 : Int32))]))
            refine own_retI X153 hx Bd (t := .boolean) Bd.returns rfl (by simp) (hb hby d14_53) ?_ (by decide) (by decide)
            show (Q_rm_in Z xx tt cs gc gs h0 n0) (some (.int (0 : Int32))) T153.heap _
            rw [e153]
            refine ⟨_, rfl, N153, rfl, ?_⟩
            exact Or.inr ⟨rfl, by rw [h3]; simp [own_isint, hc145, hc150, hc152, hc154]⟩
        · skip
          refine own_go (fun _ kk_ => XS.icmpYes X151.here hx rfl (pc0 := 35) (pc' := 52) rfl (hb hby d14_35) rfl (feq hc152).2 (by decide) (by decide) kk_) ?_
          refine own_go (fun _ kk_ => XS.iconst X151.here hx rfl (hb hby d14_52) kk_) ?_
          show own_Fin p.tables e below _ (T151.setTop (mkF m 53 #[.val (.ref xx), .val (.int x0)] [(.int (0 : Int32))]))
          refine own_retI X151 hx Bd (t := .boolean) Bd.returns rfl (by simp) (hb hby d14_53) ?_ (by decide) (by decide)
          show (Q_rm_in Z xx tt cs gc gs h0 n0) (some (.int (0 : Int32))) T151.heap _
          rw [e151]
          refine ⟨_, rfl, N151, rfl, ?_⟩
          exact Or.inr ⟨rfl, by rw [h3]; simp [own_isint, hc145, hc150, hc152]⟩
      · skip
        refine own_go (fun _ kk_ => XS.icmpYes X144.here hx rfl (pc0 := 25) (pc' := 52) rfl (hb hby d14_25) rfl (feq hc150).2 (by decide) (by decide) kk_) ?_
        refine own_go (fun _ kk_ => XS.iconst X144.here hx rfl (hb hby d14_52) kk_) ?_
        show own_Fin p.tables e below _ (T144.setTop (mkF m 53 #[.val (.ref xx), .val (.int x0)] [(.int (0 : Int32))]))
        refine own_retI X144 hx Bd (t := .boolean) Bd.returns rfl (by simp) (hb hby d14_53) ?_ (by decide) (by decide)
        show (Q_rm_in Z xx tt cs gc gs h0 n0) (some (.int (0 : Int32))) T144.heap _
        rw [e144]
        refine ⟨_, rfl, N144, rfl, ?_⟩
        exact Or.inr ⟨rfl, by rw [h3]; simp [own_isint, hc145, hc150]⟩
  · skip
    refine own_go (fun _ kk_ => XS.icmpNo X142.here hx rfl (hb hby d14_5) rfl (feq hc143).1 kk_) ?_
    refine own_go (fun _ kk_ => XS.iconst X142.here hx rfl (hb hby d14_8) kk_) ?_
    show own_Fin p.tables e below _ (T142.setTop (mkF m 9 #[.val (.ref xx), .unset] [(.int (0 : Int32))]))
    refine own_retI X142 hx Bd (t := .boolean) Bd.returns rfl (by simp) (hb hby d14_9) ?_ (by decide) (by decide)
    show (Q_rm_in Z xx tt cs gc gs h0 n0) (some (.int (0 : Int32))) T142.heap _
    rw [e142]
    refine ⟨_, rfl, N142, rfl, ?_⟩
    exact Or.inr ⟨rfl, fun q => hc143 (by rcases q with rfl | rfl <;> rfl)⟩
def Q_rm_ts (Z : State) (oo : Addr) (ex : Int32) (cn_ : Int32) (tk : Addr) (h0 : Heap) (n0 : Nat) (v : Option Value) (h : Heap) (L : List Loc) : Prop := v = none ∧ Fr n0 L ∧ Keep h0 h [oo] ∧ Fld Z h oo "com/example/obra/obra/Model$TypeScope" "sig" "Lcom/example/obra/obra/Token;" (.ref tk)
theorem ef_rm_ts (m : MethodId) (oo : Addr) (ex : Int32) (cn_ : Int32) (tk : Addr) : entryFrame m #[(.ref oo), (.int ex), (.int cn_), (.ref tk)] 4 = mkF m 0 #[.val (.ref oo), .val (.int ex), .val (.int cn_), .val (.ref tk)] [] := by first | (simp [entryFrame, mkF, argsToLocals, Value.category]; done) | rfl
set_option maxRecDepth 65536 in
set_option maxHeartbeats 40000000 in
theorem rm_ts (l : Launch) (Z : State) (a0 : Array Value) (hw : ∀ d ∈ tables_1, d.before a0 Z = true) (ws : List Jvm.Cond) (oo : Addr) (ex : Int32) (cn_ : Int32) (tk : Addr) (h0 : Heap) (n0 : Nat) (Z0 : n0 ≤ h0.size) (E_oo : Exa Z h0 oo "com/example/obra/obra/Model$TypeScope") (F_exactly : Fld Z h0 oo "com/example/obra/obra/Model$TypeScope" "exactly" "Z" (.int (0 : Int32))) (F_count : Fld Z h0 oo "com/example/obra/obra/Model$TypeScope" "count" "I" (.int (0 : Int32))) (F_sig : Fld Z h0 oo "com/example/obra/obra/Model$TypeScope" "sig" "Lcom/example/obra/obra/Token;" .null) (g_oo : n0 ≤ oo) :
    MetFree l (⟨"com/example/obra/obra/Model$TypeScope", "<init>", "(ZILcom/example/obra/obra/Token;)V"⟩ : MethodName) (head1 (Jvm.Cond.code (⟨"com/example/obra/obra/Model$TypeScope", "<init>", "(ZILcom/example/obra/obra/Token;)V"⟩ : MethodName) prog_55_method_1_code 4 none :: ws) ({ frames := 2, cells := 0, slots := 0, locals := 24 } : Room)) (fun a_ U_ => a_ = #[(.ref oo), (.int ex), (.int cn_), (.ref tk)] ∧ Z.Warmed39 U_.vm ∧ U_.heap = h0) (fun _ _ _ _ _ => True) (fun _ U_ o_ V_ => ∃ v_ L_, o_ = .returned v_ ∧ (Q_rm_ts Z oo ex cn_ tk h0 n0) v_ V_.heap L_ ∧ FrameEnd U_ o_ V_ L_ ({ frames := 2, cells := 0, slots := 0, locals := 24 } : Room).cells ({ frames := 2, cells := 0, slots := 0, locals := 24 } : Room).slots) := by
  refine MetFree.of_bodySF (plainFor_of_name pn_10) hisR ?_
  intro p e s m args below meth c s₁ Bd hml0 hP hK
  obtain ⟨rfl, hZ, hh⟩ := hP
  have hx := Bd.exec
  have hby := Bd.bytes
  have hml : c.maxLocals = 4 := hml0
  have hown : s.vm.findClass "com/example/obra/obra/Model$TypeScope" = some m.cls := findClass_of_methodNamed Bd.named
  have hnm := (name_of_methodNamed Bd.named Bd.method).1
  have X0 : Stand p l e ({ frames := 2, cells := 0, slots := 0, locals := 24 } : Room) s m #[(.ref oo), (.int ex), (.int cn_), (.ref tk)] below meth c s₁ [] 0 0 := Stand.of_body Bd
  have e0 : s₁.heap = h0 := by rw [← hh, Bd.state]; rfl
  have N0 := Fr.nil n0
  have K0 : Keep h0 h0 [oo] := Keep.refl _ _
  show own_Fin p.tables e below (own_Post (Q_rm_ts Z oo ex cn_ tk h0 n0) ({ frames := 2, cells := 0, slots := 0, locals := 24 } : Room).cells ({ frames := 2, cells := 0, slots := 0, locals := 24 } : Room).slots below s) _
  refine own_go (fun _ kk_ => castTop (ef_rm_ts m oo ex cn_ tk) kk_) ?_
  refine own_go (fun _ kk_ => XS.aloadN X0.here hx rfl (hb hby d8_0) rfl rfl kk_) ?_
  show own_Fin p.tables e below _ (s₁.setTop (mkF m 1 #[.val (.ref oo), .val (.int ex), .val (.int cn_), .val (.ref tk)] [(.ref oo)]))
  obtain ⟨_, _, ⟨T155, L155, k155, n155⟩, -, X155, ⟨Lc155, hQ155, l155, y155, z155⟩, st155⟩ := X0.specialBack hx (y := (⟨"java/lang/Record", "<init>", "()V"⟩ : MethodName)) rfl hown (mvT hZ (hw _ (List.mem_of_getElem? (i := 59) rfl))) (mvT hZ (hw _ (List.mem_of_getElem? (i := 43) rfl))) (mvT hZ (hw _ (List.mem_of_getElem? (i := 46) rfl))) (by decide) (backOf (W := 0) (rm_rec l Z a0 hw [] oo h0 n0 (Nat.le_trans Z0 K0.1)) hZ (hw _ (List.mem_of_getElem? (i := 46) rfl)) (hw _ (List.mem_of_getElem? (i := 45) rfl)) (by decide) (by decide)) (g := (mkF m 1 #[.val (.ref oo), .val (.int ex), .val (.int cn_), .val (.ref tk)] [(.ref oo)])) rfl (by rw [hml]; rfl) (Steps.refl _) (a := oo) (argsL := []) (rest := []) (lenOf pd_4 rfl) rfl (by show 2 * 0 + _ ≤ _; exact Nat.le_of_eq rfl) (hb hby d8_1) (fun _ _ => ⟨rfl, e0, (by decide : 0 + 0 ≤ _), (by decide : 0 + 0 ≤ _)⟩)
  dsimp only [Pt.U, Pt.locs, Pt.cells, Pt.slots] at X155 l155 y155 z155 st155 hQ155
  subst l155 y155 z155
  obtain ⟨rfl, N155q, e155⟩ := hQ155
  have N155 := Fr.app N0 N155q
  refine own_go (fun _ kk_ => st155.trans kk_) ?_
  refine own_go (fun _ kk_ => XS.aloadN X155.here hx rfl (hb hby d8_4) rfl rfl kk_) ?_
  refine own_go (fun _ kk_ => XS.iloadN X155.here hx rfl (hb hby d8_5) rfl kk_) ?_
  show own_Fin p.tables e below _ (T155.setTop (mkF m 6 #[.val (.ref oo), .val (.int ex), .val (.int cn_), .val (.ref tk)] [(.int ex), (.ref oo)]))
  obtain ⟨T156, h156, X156, e156, W156, st156⟩ := putFN X155 hx hZ hown (hw _ (List.mem_of_getElem? (i := 60) rfl)) Via.refl e155 F_exactly E_oo (Or.inr ⟨(hw _ (List.mem_of_getElem? (i := 61) rfl)), rfl, hnm⟩) (hw _ (List.mem_of_getElem? (i := 34) rfl)) (ty := .boolean) (v' := .int (nar .boolean ex)) (by decide) rfl (fits_nar_bool _) (g := (mkF m 6 #[.val (.ref oo), .val (.int ex), .val (.int cn_), .val (.ref tk)] [(.int ex), (.ref oo)])) rfl rfl (hb hby d8_6)
  have N156 := Fr.snoc X156 N155 g_oo
  replace F_exactly := F_exactly.same W156
  refine own_go st156 ?_
  replace E_oo := E_oo.wr W156
  replace F_count := F_count.other W156 (Or.inr (slot_ne (Or.inr (hw _ (List.mem_of_getElem? (i := 63) rfl))) (Or.inr (hw _ (List.mem_of_getElem? (i := 61) rfl))) (by decide) (t := .int) (t' := .boolean) (by decide) (by decide)))
  replace F_sig := F_sig.other W156 (Or.inr (slot_ne (Or.inr (hw _ (List.mem_of_getElem? (i := 65) rfl))) (Or.inr (hw _ (List.mem_of_getElem? (i := 61) rfl))) (by decide) (t := (.object "com/example/obra/obra/Token")) (t' := .boolean) (by decide) (by decide)))
  have K157 := K0.wr W156 (Or.inl (by simp))
  refine own_go (fun _ kk_ => XS.aloadN X156.here hx rfl (hb hby d8_9) rfl rfl kk_) ?_
  refine own_go (fun _ kk_ => XS.iloadN X156.here hx rfl (hb hby d8_10) rfl kk_) ?_
  show own_Fin p.tables e below _ (T156.setTop (mkF m 11 #[.val (.ref oo), .val (.int ex), .val (.int cn_), .val (.ref tk)] [(.int cn_), (.ref oo)]))
  obtain ⟨T158, h158, X158, e158, W158, st158⟩ := putF X156 hx hZ hown (host := "") (Or.inl (hw _ (List.mem_of_getElem? (i := 62) rfl))) Via.refl e156 F_count E_oo (Or.inr ⟨(hw _ (List.mem_of_getElem? (i := 63) rfl)), rfl, hnm⟩) (hw _ (List.mem_of_getElem? (i := 34) rfl)) (ty := .int) (by decide) rfl rfl (g := (mkF m 11 #[.val (.ref oo), .val (.int ex), .val (.int cn_), .val (.ref tk)] [(.int cn_), (.ref oo)])) rfl rfl (hb hby d8_11)
  have N158 := Fr.snoc X158 N156 g_oo
  replace F_count := F_count.same W158
  refine own_go st158 ?_
  replace E_oo := E_oo.wr W158
  replace F_exactly := F_exactly.other W158 (Or.inr (slot_ne (Or.inr (hw _ (List.mem_of_getElem? (i := 61) rfl))) (Or.inr (hw _ (List.mem_of_getElem? (i := 63) rfl))) (by decide) (t := .boolean) (t' := .int) (by decide) (by decide)))
  replace F_sig := F_sig.other W158 (Or.inr (slot_ne (Or.inr (hw _ (List.mem_of_getElem? (i := 65) rfl))) (Or.inr (hw _ (List.mem_of_getElem? (i := 63) rfl))) (by decide) (t := (.object "com/example/obra/obra/Token")) (t' := .int) (by decide) (by decide)))
  have K159 := K157.wr W158 (Or.inl (by simp))
  refine own_go (fun _ kk_ => XS.aloadN X158.here hx rfl (hb hby d8_14) rfl rfl kk_) ?_
  refine own_go (fun _ kk_ => XS.aloadN X158.here hx rfl (hb hby d8_15) rfl rfl kk_) ?_
  show own_Fin p.tables e below _ (T158.setTop (mkF m 16 #[.val (.ref oo), .val (.int ex), .val (.int cn_), .val (.ref tk)] [(.ref tk), (.ref oo)]))
  obtain ⟨T160, h160, X160, e160, W160, st160⟩ := putF X158 hx hZ hown (host := "") (Or.inl (hw _ (List.mem_of_getElem? (i := 64) rfl))) Via.refl e158 F_sig E_oo (Or.inr ⟨(hw _ (List.mem_of_getElem? (i := 65) rfl)), rfl, hnm⟩) (hw _ (List.mem_of_getElem? (i := 34) rfl)) (ty := (.object "com/example/obra/obra/Token")) (by decide) rfl rfl (g := (mkF m 16 #[.val (.ref oo), .val (.int ex), .val (.int cn_), .val (.ref tk)] [(.ref tk), (.ref oo)])) rfl rfl (hb hby d8_16)
  have N160 := Fr.snoc X160 N158 g_oo
  replace F_sig := F_sig.same W160
  refine own_go st160 ?_
  replace E_oo := E_oo.wr W160
  replace F_exactly := F_exactly.other W160 (Or.inr (slot_ne (Or.inr (hw _ (List.mem_of_getElem? (i := 61) rfl))) (Or.inr (hw _ (List.mem_of_getElem? (i := 65) rfl))) (by decide) (t := .boolean) (t' := (.object "com/example/obra/obra/Token")) (by decide) (by decide)))
  replace F_count := F_count.other W160 (Or.inr (slot_ne (Or.inr (hw _ (List.mem_of_getElem? (i := 63) rfl))) (Or.inr (hw _ (List.mem_of_getElem? (i := 65) rfl))) (by decide) (t := .int) (t' := (.object "com/example/obra/obra/Token")) (by decide) (by decide)))
  have K161 := K159.wr W160 (Or.inl (by simp))
  show own_Fin p.tables e below _ (T160.setTop (mkF m 19 #[.val (.ref oo), .val (.int ex), .val (.int cn_), .val (.ref tk)] []))
  refine own_ret0 X160 hx Bd (hb hby d8_19) ?_ (by decide) (by decide)
  show (Q_rm_ts Z oo ex cn_ tk h0 n0) none T160.heap _
  rw [e160]
  exact ⟨rfl, N160, K161, F_sig⟩
def Q_rm_ib (Z : State) (oo : Addr) (tk : Addr) (kd : Addr) (tx : Addr) (tt : Addr) (cs : List Int32) (kk : Addr) (ks : Addr) (gc : Int32) (h0 : Heap) (n0 : Nat) (v : Option Value) (h : Heap) (L : List Loc) : Prop := ∃ z : Int32, v = some (.int z) ∧ Fr n0 L ∧ Keep h0 h [] ∧ ((z = 1 ∧ ((kd = kk ∨ kd = ks) ∧ own_isint cs)) ∨ (z = 0 ∧ ¬ ((kd = kk ∨ kd = ks) ∧ own_isint cs)))
theorem ef_rm_ib (m : MethodId) (oo : Addr) (tk : Addr) (kd : Addr) (tx : Addr) (tt : Addr) (kk : Addr) (ks : Addr) (gc : Int32) : entryFrame m #[(.ref oo)] 1 = mkF m 0 #[.val (.ref oo)] [] := by first | (simp [entryFrame, mkF, argsToLocals, Value.category]; done) | rfl
set_option maxRecDepth 65536 in
set_option maxHeartbeats 40000000 in
theorem rm_ib (l : Launch) (Z : State) (a0 : Array Value) (hw : ∀ d ∈ tables_1, d.before a0 Z = true) (ws : List Jvm.Cond) (hEL : EW Z a0 consts_1) (oo : Addr) (tk : Addr) (kd : Addr) (tx : Addr) (tt : Addr) (cs : List Int32) (kk : Addr) (ks : Addr) (gc : Int32) (h0 : Heap) (n0 : Nat) (Z0 : n0 ≤ h0.size) (F_sig : Fld Z h0 oo "com/example/obra/obra/Model$TypeScope" "sig" "Lcom/example/obra/obra/Token;" (.ref tk)) (E_tk : Exa Z h0 tk "com/example/obra/obra/Token") (F_kind : Fld Z h0 tk "com/example/obra/obra/Token" "kind" "Lcom/example/obra/obra/Token$Kind;" (.ref kd)) (F_text : Fld Z h0 tk "com/example/obra/obra/Token" "text" "Ljava/lang/String;" (.ref tx)) (F_s : own_Str Z h0 tx tt cs) (S_kk : Sta Z Z.heap "com/example/obra/obra/Token$Kind" "KEYWORD" "Lcom/example/obra/obra/Token$Kind;" (.ref kk)) (S_ks : Sta Z Z.heap "com/example/obra/obra/Token$Kind" "SYMBOL" "Lcom/example/obra/obra/Token$Kind;" (.ref ks)) (S_C : Sta Z Z.heap "java/lang/String" "COMPACT_STRINGS" "Z" (.int gc)) (hcs : ¬ gc = 0) (O0 : Old Z n0 h0) :
    MetFree l (⟨"com/example/obra/obra/Model$TypeScope", "isBitwidth", "()Z"⟩ : MethodName) (head1 (Jvm.Cond.code (⟨"com/example/obra/obra/Model$TypeScope", "isBitwidth", "()Z"⟩ : MethodName) prog_55_method_2_code 1 (some .boolean) :: ws) ({ frames := 3, cells := 4, slots := 32, locals := 42 } : Room)) (fun a_ U_ => a_ = #[(.ref oo)] ∧ Z.Warmed39 U_.vm ∧ U_.heap = h0 ∧ CHv Z consts_1 U_.vm h0) (fun _ _ _ _ _ => True) (fun _ U_ o_ V_ => ∃ v_ L_, o_ = .returned v_ ∧ (Q_rm_ib Z oo tk kd tx tt cs kk ks gc h0 n0) v_ V_.heap L_ ∧ CHr Z consts_1 U_.vm U_.heap V_.vm V_.heap ∧ ReturnedEndW U_ o_ V_ L_ ({ frames := 3, cells := 4, slots := 32, locals := 42 } : Room).cells ({ frames := 3, cells := 4, slots := 32, locals := 42 } : Room).slots) := by
  refine MetFree.of_bodySF (plainFor_of_name pn_10) hisR ?_
  intro p e s m args below meth c s₁ Bd hml0 hP hK
  obtain ⟨rfl, hZ, hh, CH⟩ := hP
  have hx := Bd.exec
  have hby := Bd.bytes
  have hml : c.maxLocals = 1 := hml0
  have hown : s.vm.findClass "com/example/obra/obra/Model$TypeScope" = some m.cls := findClass_of_methodNamed Bd.named
  have hnm := (name_of_methodNamed Bd.named Bd.method).1
  have wS : ∀ a ∈ Bundle.stringAtoms, a.before a0 Z = true := fun d hd => hw d ((by decide +kernel : ∀ d ∈ Bundle.stringAtoms, d ∈ tables_1) d hd)
  have X0 : Stand p l e ({ frames := 3, cells := 4, slots := 32, locals := 42 } : Room) (s.setVm s.vm) m #[(.ref oo)] below meth c s₁ [] 0 0 := Stand.of_body Bd
  have e0 : s₁.heap = h0 := by rw [← hh, Bd.state]; rfl
  have N0 := Fr.nil n0
  have K0 : Keep h0 h0 [] := Keep.refl _ _
  replace hZ : Z.Warmed39 (s.setVm s.vm).vm := hZ
  replace hown : (s.setVm s.vm).vm.findClass "com/example/obra/obra/Model$TypeScope" = some m.cls := hown
  have hS : s.Since s.vm h0.size := (State.WarmedH.refl s).since _
  have hk : h0.size ≤ h0.size := Nat.le_refl _
  have CR : CHr Z consts_1 s.vm h0 s.vm h0 := CHr.refl CH
  show own_Fin p.tables e below (own_PostW Z consts_1 (Q_rm_ib Z oo tk kd tx tt cs kk ks gc h0 n0) ({ frames := 3, cells := 4, slots := 32, locals := 42 } : Room).cells ({ frames := 3, cells := 4, slots := 32, locals := 42 } : Room).slots below s) _
  refine own_go (fun _ kk_ => castTop (ef_rm_ib m oo tk kd tx tt kk ks gc) kk_) ?_
  refine own_go (fun _ kk_ => XS.aloadN X0.here hx rfl (hb hby d9_0) rfl rfl kk_) ?_
  show own_Fin p.tables e below _ (s₁.setTop (mkF m 1 #[.val (.ref oo)] [(.ref oo)]))
  obtain ⟨T162, X162, e162, st162⟩ := getF X0 hx hZ hown (host := "") (Or.inl (hw _ (List.mem_of_getElem? (i := 64) rfl))) Via.refl e0 F_sig (g := (mkF m 1 #[.val (.ref oo)] [(.ref oo)])) rfl rfl (hb hby d9_1)
  refine own_go st162 ?_
  show own_Fin p.tables e below _ (T162.setTop (mkF m 4 #[.val (.ref oo)] [(.ref tk)]))
  obtain ⟨a163, T163, h163, k163, tb163, kb163, X163, e163, E163, hS, hk, hZ, hown, EA163, FC163, FV163, VB163, -, -, CR163, -, NE163, st163⟩ := ldcCH X162 hx hZ hown (hw _ (List.mem_of_getElem? (i := 75) rfl)) wS e162 hS hk hEL (by decide) CH (vs := ((([(73 : Int32), (110 : Int32), (116 : Int32)] : List Int32).map (fun c => c.toInt8.toInt32)).map Value.int)) (z := (3 : Int32)) (by exact ⟨by decide, by decide⟩) (by decide) rfl (g := (mkF m 4 #[.val (.ref oo)] [(.ref tk)])) rfl (hb hby d9_4) (n := 12) (by decide) (by decide) (by decide) (by decide)
  replace CR := CR.trans CR163
  replace CH := CR163.1
  replace O0 := O0.ext E163
  replace F_sig := F_sig.ext E163
  replace E_tk := E_tk.ext E163
  replace F_kind := F_kind.ext E163
  replace F_text := F_text.ext E163
  replace F_s := F_s.ext E163
  have K164 := K0.ext E163
  have SS163 : own_Str Z h163 a163 tb163 ([(73 : Int32), (110 : Int32), (116 : Int32)] : List Int32) := ⟨_, _, _, _, EA163, FV163, FC163, VB163, StrChars.Road.codOf (n := 3) rfl (by decide), by decide, Nat.le_of_ble_eq_true rfl⟩
  refine own_go st163 ?_
  show own_Fin p.tables e below _ (T163.setTop (mkF m 6 #[.val (.ref oo)] [(.ref a163), (.ref tk)]))
  obtain ⟨cq165, kq165, qa165, qb165, qc165⟩ := isOf hZ e163 E_tk
  obtain ⟨_, _, ⟨T165, L165, k165, n165⟩, -, X165, ⟨Lc165, hQ165, l165, y165, z165⟩, st165⟩ := X163.virtualBack hx (y := (⟨"com/example/obra/obra/Token", "is", "(Ljava/lang/String;)Z"⟩ : MethodName)) (z := (⟨"com/example/obra/obra/Token", "is", "(Ljava/lang/String;)Z"⟩ : MethodName)) hown (mvT hZ (hw _ (List.mem_of_getElem? (i := 76) rfl))) (mvT hZ (hw _ (List.mem_of_getElem? (i := 77) rfl))) (own_notface (args := #[]) (mvT hZ (hw _ (List.mem_of_getElem? (i := 79) rfl))) rfl) (mvT hZ (hw _ (List.mem_of_getElem? (i := 79) rfl))) (mvT hZ (hw _ (List.mem_of_getElem? (i := 78) rfl))) (by decide) (backOf (W := 0) (rm_isS l Z a0 hw [] tk a163 tb163 ([(73 : Int32), (110 : Int32), (116 : Int32)] : List Int32) kd tx tt cs kk ks gc h163 n0 (Nat.le_trans Z0 K164.1) F_kind F_text F_s SS163 S_kk S_ks S_C hcs O0) hZ (hw _ (List.mem_of_getElem? (i := 80) rfl)) (hw _ (List.mem_of_getElem? (i := 38) rfl)) (by decide) (by decide)) qa165 qc165 (g := (mkF m 6 #[.val (.ref oo)] [(.ref a163), (.ref tk)])) rfl (by rw [hml]; rfl) (Steps.refl _) (argsL := [(.ref a163)]) (rest := []) (lenOf pd_11 rfl) rfl (by show 2 * 0 + _ ≤ _; exact Nat.le_of_eq rfl) (hb hby d9_6) (fun _ _ => ⟨rfl, e163, (by decide : 2 + 0 ≤ _), (by decide : 16 + 0 ≤ _)⟩)
  dsimp only [Pt.U, Pt.locs, Pt.cells, Pt.slots] at X165 l165 y165 z165 st165 hQ165
  subst l165 y165 z165
  obtain ⟨z165, rfl, N165q, e165, hz165⟩ := hQ165
  have N165 := Fr.app N0 N165q
  refine own_go (fun _ kk_ => st165.trans kk_) ?_
  show own_Fin p.tables e below _ (T165.setTop (mkF m 9 #[.val (.ref oo)] [(.int z165)]))
  by_cases hc166 : z165 = (0 : Int32)
  · skip
    refine own_go (fun _ kk_ => XS.ifNo X165.here hx rfl (hb hby d9_9) rfl ((if0 _ _).trans (teq hc166).2) kk_) ?_
    refine own_go (fun _ kk_ => XS.aloadN X165.here hx rfl (hb hby d9_12) rfl rfl kk_) ?_
    show own_Fin p.tables e below _ (T165.setTop (mkF m 13 #[.val (.ref oo)] [(.ref oo)]))
    obtain ⟨T167, X167, e167, st167⟩ := getF X165 hx hZ hown (host := "") (Or.inl (hw _ (List.mem_of_getElem? (i := 64) rfl))) Via.refl e165 F_sig (g := (mkF m 13 #[.val (.ref oo)] [(.ref oo)])) rfl rfl (hb hby d9_13)
    refine own_go st167 ?_
    show own_Fin p.tables e below _ (T167.setTop (mkF m 16 #[.val (.ref oo)] [(.ref tk)]))
    obtain ⟨a168, T168, h168, k168, tb168, kb168, X168, e168, E168, hS, hk, hZ, hown, EA168, FC168, FV168, VB168, -, -, CR168, -, NE168, st168⟩ := ldcCH X167 hx hZ hown (hw _ (List.mem_of_getElem? (i := 83) rfl)) wS e167 hS hk hEL (by decide) CH (vs := ((([(105 : Int32), (110 : Int32), (116 : Int32)] : List Int32).map (fun c => c.toInt8.toInt32)).map Value.int)) (z := (3 : Int32)) (by exact ⟨by decide, by decide⟩) (by decide) rfl (g := (mkF m 16 #[.val (.ref oo)] [(.ref tk)])) rfl (hb hby d9_16) (n := 12) (by decide) (by decide) (by decide) (by decide)
    replace CR := CR.trans CR168
    replace CH := CR168.1
    replace O0 := O0.ext E168
    replace F_sig := F_sig.ext E168
    replace E_tk := E_tk.ext E168
    replace F_kind := F_kind.ext E168
    replace F_text := F_text.ext E168
    replace F_s := F_s.ext E168
    replace SS163 := SS163.ext E168
    have K169 := K164.ext E168
    have SS168 : own_Str Z h168 a168 tb168 ([(105 : Int32), (110 : Int32), (116 : Int32)] : List Int32) := ⟨_, _, _, _, EA168, FV168, FC168, VB168, StrChars.Road.codOf (n := 3) rfl (by decide), by decide, Nat.le_of_ble_eq_true rfl⟩
    refine own_go st168 ?_
    show own_Fin p.tables e below _ (T168.setTop (mkF m 18 #[.val (.ref oo)] [(.ref a168), (.ref tk)]))
    obtain ⟨cq170, kq170, qa170, qb170, qc170⟩ := isOf hZ e168 E_tk
    obtain ⟨_, _, ⟨T170, L170, k170, n170⟩, -, X170, ⟨Lc170, hQ170, l170, y170, z170⟩, st170⟩ := X168.virtualBack hx (y := (⟨"com/example/obra/obra/Token", "is", "(Ljava/lang/String;)Z"⟩ : MethodName)) (z := (⟨"com/example/obra/obra/Token", "is", "(Ljava/lang/String;)Z"⟩ : MethodName)) hown (mvT hZ (hw _ (List.mem_of_getElem? (i := 76) rfl))) (mvT hZ (hw _ (List.mem_of_getElem? (i := 77) rfl))) (own_notface (args := #[]) (mvT hZ (hw _ (List.mem_of_getElem? (i := 79) rfl))) rfl) (mvT hZ (hw _ (List.mem_of_getElem? (i := 79) rfl))) (mvT hZ (hw _ (List.mem_of_getElem? (i := 78) rfl))) (by decide) (backOf (W := 0) (rm_isS l Z a0 hw [] tk a168 tb168 ([(105 : Int32), (110 : Int32), (116 : Int32)] : List Int32) kd tx tt cs kk ks gc h168 n0 (Nat.le_trans Z0 K169.1) F_kind F_text F_s SS168 S_kk S_ks S_C hcs O0) hZ (hw _ (List.mem_of_getElem? (i := 80) rfl)) (hw _ (List.mem_of_getElem? (i := 38) rfl)) (by decide) (by decide)) qa170 qc170 (g := (mkF m 18 #[.val (.ref oo)] [(.ref a168), (.ref tk)])) rfl (by rw [hml]; rfl) (Steps.refl _) (argsL := [(.ref a168)]) (rest := []) (lenOf pd_11 rfl) rfl (by show 2 * 0 + _ ≤ _; exact Nat.le_of_eq rfl) (hb hby d9_18) (fun _ _ => ⟨rfl, e168, (by decide : 4 + 0 ≤ _), (by decide : 32 + 0 ≤ _)⟩)
    dsimp only [Pt.U, Pt.locs, Pt.cells, Pt.slots] at X170 l170 y170 z170 st170 hQ170
    subst l170 y170 z170
    obtain ⟨z170, rfl, N170q, e170, hz170⟩ := hQ170
    have N170 := Fr.app N165 N170q
    refine own_go (fun _ kk_ => st170.trans kk_) ?_
    show own_Fin p.tables e below _ (T170.setTop (mkF m 21 #[.val (.ref oo)] [(.int z170)]))
    by_cases hc171 : z170 = (0 : Int32)
    · skip
      refine own_go (fun _ kk_ => XS.ifYes X170.here hx rfl (pc0 := 21) (pc' := 28) rfl (hb hby d9_21) rfl ((if0 _ _).trans (teq hc171).1) (by decide) (by decide) kk_) ?_
      refine own_go (fun _ kk_ => XS.iconst X170.here hx rfl (hb hby d9_28) kk_) ?_
      show own_Fin p.tables e below _ (T170.setTop (mkF m 29 #[.val (.ref oo)] [(.int (0 : Int32))]))
      have CRz : CHr Z consts_1 s.vm s.heap T170.vm T170.heap := by
        rw [hh, e170]
        exact CR.trans (CHv.at X170 hZ hEL CH)
      refine own_retW X170 hx Bd hS (show _ ≤ T170.heap.size by rw [e170]; exact hk) (t := .boolean) Bd.returns rfl (Or.inl ⟨rfl, by simp, _, rfl⟩) (hb hby d9_29) CRz ?_ (by decide) (by decide)
      show (Q_rm_ib Z oo tk kd tx tt cs kk ks gc h0 n0) (some (.int (0 : Int32))) T170.heap _
      rw [e170]
      refine ⟨_, rfl, N170, K169, ?_⟩
      refine Or.inr ⟨rfl, fun q => ?_⟩
      rcases q with ⟨q1, q2 | q2⟩
      · exact absurd ((own_f1 hz165 q1 q2).symm.trans hc166) (by decide)
      · exact absurd ((own_f1 hz170 q1 q2).symm.trans hc171) (by decide)
    · skip
      refine own_go (fun _ kk_ => XS.ifNo X170.here hx rfl (hb hby d9_21) rfl ((if0 _ _).trans (feq hc171).1) kk_) ?_
      refine own_go (fun _ kk_ => XS.iconst X170.here hx rfl (hb hby d9_24) kk_) ?_
      refine own_go (fun _ kk_ => XS.goto X170.here hx rfl (pc0 := 25) (pc' := 29) rfl (hb hby d9_25) (by decide) (by decide) kk_) ?_
      show own_Fin p.tables e below _ (T170.setTop (mkF m 29 #[.val (.ref oo)] [(.int (1 : Int32))]))
      have CRz : CHr Z consts_1 s.vm s.heap T170.vm T170.heap := by
        rw [hh, e170]
        exact CR.trans (CHv.at X170 hZ hEL CH)
      refine own_retW X170 hx Bd hS (show _ ≤ T170.heap.size by rw [e170]; exact hk) (t := .boolean) Bd.returns rfl (Or.inl ⟨rfl, by simp, _, rfl⟩) (hb hby d9_29) CRz ?_ (by decide) (by decide)
      show (Q_rm_ib Z oo tk kd tx tt cs kk ks gc h0 n0) (some (.int (1 : Int32))) T170.heap _
      rw [e170]
      refine ⟨_, rfl, N170, K169, ?_⟩
      rcases hz170 with ⟨q1, q2, q3⟩ | ⟨q1, q2⟩
      · exact Or.inl ⟨rfl, q2, Or.inr q3⟩
      · exact absurd q1 hc171
  · skip
    refine own_go (fun _ kk_ => XS.ifYes X165.here hx rfl (pc0 := 9) (pc' := 24) rfl (hb hby d9_9) rfl ((if0 _ _).trans (feq hc166).2) (by decide) (by decide) kk_) ?_
    refine own_go (fun _ kk_ => XS.iconst X165.here hx rfl (hb hby d9_24) kk_) ?_
    refine own_go (fun _ kk_ => XS.goto X165.here hx rfl (pc0 := 25) (pc' := 29) rfl (hb hby d9_25) (by decide) (by decide) kk_) ?_
    show own_Fin p.tables e below _ (T165.setTop (mkF m 29 #[.val (.ref oo)] [(.int (1 : Int32))]))
    have CRz : CHr Z consts_1 s.vm s.heap T165.vm T165.heap := by
      rw [hh, e165]
      exact CR.trans (CHv.at X165 hZ hEL CH)
    refine own_retW X165 hx Bd hS (show _ ≤ T165.heap.size by rw [e165]; exact hk) (t := .boolean) Bd.returns rfl (Or.inl ⟨rfl, by simp, _, rfl⟩) (hb hby d9_29) CRz ?_ (by decide) (by decide)
    show (Q_rm_ib Z oo tk kd tx tt cs kk ks gc h0 n0) (some (.int (1 : Int32))) T165.heap _
    rw [e165]
    refine ⟨_, rfl, N165, K164, ?_⟩
    rcases hz165 with ⟨q1, q2, q3⟩ | ⟨q1, q2⟩
    · exact Or.inl ⟨rfl, q2, Or.inl q3⟩
    · exact absurd q1 hc166
def Q_rm_law (Z : State) (ksl : Int32) (mode : Int32) (chs : Int32) (cou : Int32) (line : Int32) (colu : Int32) (gc : Int32) (gs : Value) (kn : Addr) (kk : Addr) (ku : Addr) (ks : Addr) (ke : Addr) (h0 : Heap) (n0 : Nat) (v : Option Value) (h : Heap) (L : List Loc) : Prop := v = some (.int 1) ∧ Fr n0 L
theorem ef_rm_law (m : MethodId) (ksl : Int32) (mode : Int32) (chs : Int32) (cou : Int32) (line : Int32) (colu : Int32) (gc : Int32) (gs : Value) (kn : Addr) (kk : Addr) (ku : Addr) (ks : Addr) (ke : Addr) : entryFrame m #[(.int ksl), (.int mode), (.int chs), (.int cou), (.int line), (.int colu)] maxLocals = mkF m 0 #[.val (.int ksl), .val (.int mode), .val (.int chs), .val (.int cou), .val (.int line), .val (.int colu), .unset, .unset, .unset, .unset, .unset, .unset] [] := by first | (simp [entryFrame, mkF, argsToLocals, Value.category, maxLocals]; done) | rfl
set_option maxRecDepth 65536 in
set_option maxHeartbeats 40000000 in
theorem rm_law (l : Launch) (Z : State) (a0 : Array Value) (hw : ∀ d ∈ tables_1, d.before a0 Z = true) (ws : List Jvm.Cond) (hEL : EW Z a0 consts_1) (ksl : Int32) (mode : Int32) (chs : Int32) (cou : Int32) (line : Int32) (colu : Int32) (gc : Int32) (gs : Value) (kn : Addr) (kk : Addr) (ku : Addr) (ks : Addr) (ke : Addr) (h0 : Heap) (n0 : Nat) (Z0 : n0 ≤ h0.size) (S_kn : Sta Z Z.heap "com/example/obra/obra/Token$Kind" "NAME" "Lcom/example/obra/obra/Token$Kind;" (.ref kn)) (S_kk : Sta Z Z.heap "com/example/obra/obra/Token$Kind" "KEYWORD" "Lcom/example/obra/obra/Token$Kind;" (.ref kk)) (S_ku : Sta Z Z.heap "com/example/obra/obra/Token$Kind" "NUMBER" "Lcom/example/obra/obra/Token$Kind;" (.ref ku)) (S_ks : Sta Z Z.heap "com/example/obra/obra/Token$Kind" "SYMBOL" "Lcom/example/obra/obra/Token$Kind;" (.ref ks)) (S_ke : Sta Z Z.heap "com/example/obra/obra/Token$Kind" "END" "Lcom/example/obra/obra/Token$Kind;" (.ref ke)) (S_F : Sta Z Z.heap "jdk/internal/util/Preconditions" "SIOOBE_FORMATTER" "Ljava/util/function/BiFunction;" gs) (hgs : gs.isRef = true) (S_C : Sta Z Z.heap "java/lang/String" "COMPACT_STRINGS" "Z" (.int gc)) (hcs : ¬ gc = 0) (O0 : Old Z n0 h0) :
    MetFree l x (head1 (Jvm.Cond.code x code maxLocals ret :: ws) room_1) (fun a_ U_ => a_ = #[(.int ksl), (.int mode), (.int chs), (.int cou), (.int line), (.int colu)] ∧ Z.Warmed39 U_.vm ∧ U_.heap = h0 ∧ CHv Z consts_1 U_.vm h0) (fun _ _ _ _ _ => True) (fun _ U_ o_ V_ => ∃ v_ L_, o_ = .returned v_ ∧ (Q_rm_law Z ksl mode chs cou line colu gc gs kn kk ku ks ke h0 n0) v_ V_.heap L_ ∧ CHr Z consts_1 U_.vm U_.heap V_.vm V_.heap ∧ ReturnedEndW U_ o_ V_ L_ room_1.cells room_1.slots) := by
  refine MetFree.of_bodySF (plainFor_of_name pn_6) hisR ?_
  intro p e s m args below meth c s₁ Bd hml0 hP hK
  obtain ⟨rfl, hZ, hh, CH⟩ := hP
  have hx := Bd.exec
  have hby := Bd.bytes
  have hml : c.maxLocals = 12 := hml0
  have hown : s.vm.findClass "com/example/obra/obra/TypeScopeIsBitwidthPinLaw" = some m.cls := findClass_of_methodNamed Bd.named
  have hnm := (name_of_methodNamed Bd.named Bd.method).1
  have wS : ∀ a ∈ Bundle.stringAtoms, a.before a0 Z = true := fun d hd => hw d ((by decide +kernel : ∀ d ∈ Bundle.stringAtoms, d ∈ tables_1) d hd)
  have X0 : Stand p l e room_1 (s.setVm s.vm) m #[(.int ksl), (.int mode), (.int chs), (.int cou), (.int line), (.int colu)] below meth c s₁ [] 0 0 := Stand.of_body Bd
  have e0 : s₁.heap = h0 := by rw [← hh, Bd.state]; rfl
  have N0 := Fr.nil n0
  have K0 : Keep h0 h0 [] := Keep.refl _ _
  replace hZ : Z.Warmed39 (s.setVm s.vm).vm := hZ
  replace hown : (s.setVm s.vm).vm.findClass "com/example/obra/obra/TypeScopeIsBitwidthPinLaw" = some m.cls := hown
  have hS : s.Since s.vm h0.size := (State.WarmedH.refl s).since _
  have hk : h0.size ≤ h0.size := Nat.le_refl _
  have CR : CHr Z consts_1 s.vm h0 s.vm h0 := CHr.refl CH
  show own_Fin p.tables e below (own_PostW Z consts_1 (Q_rm_law Z ksl mode chs cou line colu gc gs kn kk ku ks ke h0 n0) room_1.cells room_1.slots below s) _
  refine own_go (fun _ kk_ => castTop (ef_rm_law m ksl mode chs cou line colu gc gs kn kk ku ks ke) kk_) ?_
  refine own_go (fun _ kk_ => XS.iloadN X0.here hx rfl (hb hby at_0) rfl kk_) ?_
  show own_Fin p.tables e below _ (s₁.setTop (mkF m 1 #[.val (.int ksl), .val (.int mode), .val (.int chs), .val (.int cou), .val (.int line), .val (.int colu), .unset, .unset, .unset, .unset, .unset, .unset] [(.int ksl)]))
  refine own_go (fun _ kk_ => Jvm.Stand.ldcI X0 hx hown (mvT hZ (hw _ (List.mem_of_getElem? (i := 0) rfl))) (g := (mkF m 1 #[.val (.int ksl), .val (.int mode), .val (.int chs), .val (.int cou), .val (.int line), .val (.int colu), .unset, .unset, .unset, .unset, .unset, .unset] [(.int ksl)])) rfl (hb hby at_1) kk_) ?_
  show own_Fin p.tables e below _ (s₁.setTop (mkF m 3 #[.val (.int ksl), .val (.int mode), .val (.int chs), .val (.int cou), .val (.int line), .val (.int colu), .unset, .unset, .unset, .unset, .unset, .unset] [(.int (2147483647 : Int32)), (.int ksl)]))
  refine own_go (fun _ kk_ => XS.iand X0.here hx rfl (hb hby at_3) rfl kk_) ?_
  refine own_go (fun _ kk_ => XS.iconst X0.here hx rfl (hb hby at_4) kk_) ?_
  show own_Fin p.tables e below _ (s₁.setTop (mkF m 5 #[.val (.int ksl), .val (.int mode), .val (.int chs), .val (.int cou), .val (.int line), .val (.int colu), .unset, .unset, .unset, .unset, .unset, .unset] [(.int (5 : Int32)), (.int (ksl &&& (2147483647 : Int32)))]))
  refine own_go (fun _ kk_ => iremM X0 hx rfl  (hb hby at_5) rfl (by decide) kk_) ?_
  show own_Fin p.tables e below _ (s₁.setTop (mkF m 6 #[.val (.int ksl), .val (.int mode), .val (.int chs), .val (.int cou), .val (.int line), .val (.int colu), .unset, .unset, .unset, .unset, .unset, .unset] [(.int ((ksl &&& (2147483647 : Int32)) % (5 : Int32)))]))
  obtain ⟨_, _, ⟨T172, L172, k172, n172⟩, -, X172, ⟨Lc172, hQ172, l172, y172, z172⟩, st172⟩ := Jvm.LawKit.callS X0 hx (y := (⟨"com/example/obra/obra/TypeScopeIsBitwidthPinLaw", "kindOf", "(I)Lcom/example/obra/obra/Token$Kind;"⟩ : MethodName)) hown (mvT hZ (hw _ (List.mem_of_getElem? (i := 1) rfl))) (mvT hZ (hw _ (List.mem_of_getElem? (i := 2) rfl))) (mvT hZ (hw _ (List.mem_of_getElem? (i := 3) rfl))) (mvT hZ (hw _ (List.mem_of_getElem? (i := 4) rfl))) (by decide) (backOf (W := 0) (rm_ko l Z a0 hw [] ((ksl &&& (2147483647 : Int32)) % (5 : Int32)) kn kk ku ks ke h0 n0 (Nat.le_trans Z0 K0.1) S_kn S_kk S_ku S_ks S_ke O0) hZ (hw _ (List.mem_of_getElem? (i := 4) rfl)) (hw _ (List.mem_of_getElem? (i := 3) rfl)) (by decide) (by decide)) (g := (mkF m 6 #[.val (.int ksl), .val (.int mode), .val (.int chs), .val (.int cou), .val (.int line), .val (.int colu), .unset, .unset, .unset, .unset, .unset, .unset] [(.int ((ksl &&& (2147483647 : Int32)) % (5 : Int32)))])) rfl (by rw [hml]; rfl) (argsL := [(.int ((ksl &&& (2147483647 : Int32)) % (5 : Int32)))]) (rest := []) (lenOf pd_12 rfl) rfl (by show 2 * 0 + _ ≤ _; exact Nat.le_of_eq rfl) (hb hby at_6) (fun _ _ => ⟨rfl, e0, (by decide : 0 + 0 ≤ _), (by decide : 0 + 0 ≤ _)⟩)
  dsimp only [Pt.U, Pt.locs, Pt.cells, Pt.slots] at X172 l172 y172 z172 st172 hQ172
  subst l172 y172 z172
  obtain ⟨kd, rfl, N172q, e172⟩ := hQ172
  have N172 := Fr.app N0 N172q
  refine own_go st172 ?_
  refine own_go (fun _ kk_ => XS.astore X172.here hx rfl (hb hby at_9) rfl rfl (l' := #[.val (.int ksl), .val (.int mode), .val (.int chs), .val (.int cou), .val (.int line), .val (.int colu), .val (.ref kd), .unset, .unset, .unset, .unset, .unset]) rfl kk_) ?_
  refine own_go (fun _ kk_ => XS.iloadN X172.here hx rfl (hb hby at_11) rfl kk_) ?_
  refine own_go (fun _ kk_ => XS.iloadN X172.here hx rfl (hb hby at_12) rfl kk_) ?_
  show own_Fin p.tables e below _ (T172.setTop (mkF m 13 #[.val (.int ksl), .val (.int mode), .val (.int chs), .val (.int cou), .val (.int line), .val (.int colu), .val (.ref kd), .unset, .unset, .unset, .unset, .unset] [(.int chs), (.int mode)]))
  obtain ⟨_, _, ⟨T173, L173, k173, n173⟩, -, X173, hSn173, hgr173, ⟨Lc173, hQ173, l173, y173, z173, CR173⟩, st173⟩ := callSS X172 hx (y := (⟨"com/example/obra/obra/TypeScopeIsBitwidthPinLaw", "textOf", "(II)Ljava/lang/String;"⟩ : MethodName)) hown (mvT hZ (hw _ (List.mem_of_getElem? (i := 8) rfl))) (mvT hZ (hw _ (List.mem_of_getElem? (i := 9) rfl))) (mvT hZ (hw _ (List.mem_of_getElem? (i := 3) rfl))) (mvT hZ (hw _ (List.mem_of_getElem? (i := 10) rfl))) (by decide) (backOfSH (s := s) (W := 0) (rm_tx l Z a0 hw [] hEL mode chs gc h0 n0 (Nat.le_trans Z0 K0.1) S_C hcs O0) hZ (hw _ (List.mem_of_getElem? (i := 10) rfl)) (hw _ (List.mem_of_getElem? (i := 3) rfl)) (by decide) (by decide) hEL CH) (g := (mkF m 13 #[.val (.int ksl), .val (.int mode), .val (.int chs), .val (.int cou), .val (.int line), .val (.int colu), .val (.ref kd), .unset, .unset, .unset, .unset, .unset] [(.int chs), (.int mode)])) rfl (by rw [hml]; rfl) (argsL := [(.int mode), (.int chs)]) (rest := []) (lenOf pd_13 rfl) rfl (by show 2 * 0 + _ ≤ _; exact Nat.le_of_eq rfl) (hb hby at_13) (fun _ _ => ⟨rfl, e172, (by decide : 0 + 6 ≤ _), (by decide : 0 + 16 ≤ _)⟩)
  dsimp only [Pt.U, Pt.locs, Pt.cells, Pt.slots] at X173 l173 y173 z173 st173 hQ173 hSn173 hgr173 CR173
  subst l173 y173 z173
  replace hS := foldS hS (show _ ≤ T172.heap.size by rw [e172]; exact hk) hSn173 hgr173
  replace hk : T173.heap.size ≤ T173.heap.size := Nat.le_refl _
  replace hZ : Z.Warmed39 (s.setVm T173.vm).vm := State.Warmed39.trans (t := s.setVm s.vm) hZ hSn173.1
  replace hown : (s.setVm T173.vm).vm.findClass "com/example/obra/obra/TypeScopeIsBitwidthPinLaw" = some m.cls := by rw [show (s.setVm T173.vm).vm = T173.vm from rfl, hSn173.1.alike.findClass]; exact hown
  replace X173 : Stand p l e room_1 (s.setVm T173.vm) m #[(.int ksl), (.int mode), (.int chs), (.int cou), (.int line), (.int colu)] below meth c T173 _ _ _ := X173
  replace CR := CR.trans CR173
  replace CH := CR173.1
  obtain ⟨xs, ts, css, rfl, N173q, KK173, SS173, hlat⟩ := hQ173
  have N173 := Fr.app N172 N173q
  replace O0 := O0.keep KK173 all0
  have K174 := K0.trans KK173 all0
  refine own_go (fun _ kk_ => st173.trans kk_) ?_
  refine own_go (fun _ kk_ => XS.astore X173.here hx rfl (hb hby at_16) rfl rfl (l' := #[.val (.int ksl), .val (.int mode), .val (.int chs), .val (.int cou), .val (.int line), .val (.int colu), .val (.ref kd), .val (.ref xs), .unset, .unset, .unset, .unset]) rfl kk_) ?_
  refine own_go (fun _ kk_ => XS.iloadN X173.here hx rfl (hb hby at_18) rfl kk_) ?_
  refine own_go (fun _ kk_ => XS.iconst X173.here hx rfl (hb hby at_19) kk_) ?_
  show own_Fin p.tables e below _ (T173.setTop (mkF m 20 #[.val (.int ksl), .val (.int mode), .val (.int chs), .val (.int cou), .val (.int line), .val (.int colu), .val (.ref kd), .val (.ref xs), .unset, .unset, .unset, .unset] [(.int (5 : Int32)), (.int mode)]))
  refine own_go (fun _ kk_ => XS.iushr X173.here hx rfl (hb hby at_20) rfl kk_) ?_
  refine own_go (fun _ kk_ => XS.iconst X173.here hx rfl (hb hby at_21) kk_) ?_
  show own_Fin p.tables e below _ (T173.setTop (mkF m 22 #[.val (.int ksl), .val (.int mode), .val (.int chs), .val (.int cou), .val (.int line), .val (.int colu), .val (.ref kd), .val (.ref xs), .unset, .unset, .unset, .unset] [(.int (1 : Int32)), (.int ((mode.toUInt32 >>> ((5 : Int32) &&& 31).toUInt32).toInt32))]))
  refine own_go (fun _ kk_ => XS.iand X173.here hx rfl (hb hby at_22) rfl kk_) ?_
  show own_Fin p.tables e below _ (T173.setTop (mkF m 23 #[.val (.int ksl), .val (.int mode), .val (.int chs), .val (.int cou), .val (.int line), .val (.int colu), .val (.ref kd), .val (.ref xs), .unset, .unset, .unset, .unset] [(.int (((mode.toUInt32 >>> ((5 : Int32) &&& 31).toUInt32).toInt32) &&& (1 : Int32)))]))
  by_cases hc175 : (((mode.toUInt32 >>> ((5 : Int32) &&& 31).toUInt32).toInt32) &&& (1 : Int32)) = (0 : Int32)
  · skip
    refine own_go (fun _ kk_ => XS.ifYes X173.here hx rfl (pc0 := 23) (pc' := 30) rfl (hb hby at_23) rfl ((if0 _ _).trans (teq hc175).1) (by decide) (by decide) kk_) ?_
    refine own_go (fun _ kk_ => XS.iconst X173.here hx rfl (hb hby at_30) kk_) ?_
    refine own_go (fun _ kk_ => XS.istore X173.here hx rfl (hb hby at_31) rfl (l' := #[.val (.int ksl), .val (.int mode), .val (.int chs), .val (.int cou), .val (.int line), .val (.int colu), .val (.ref kd), .val (.ref xs), .val (.int (0 : Int32)), .unset, .unset, .unset]) rfl kk_) ?_
    show own_Fin p.tables e below _ (T173.setTop (mkF m 33 #[.val (.int ksl), .val (.int mode), .val (.int chs), .val (.int cou), .val (.int line), .val (.int colu), .val (.ref kd), .val (.ref xs), .val (.int (0 : Int32)), .unset, .unset, .unset] []))
    obtain ⟨T176, h176, X176, e176, E176, A176, D176, -, st176⟩ := newO X173 hx hZ hown (hw _ (List.mem_of_getElem? (i := 33) rfl)) (hw _ (List.mem_of_getElem? (i := 34) rfl)) (hw _ (List.mem_of_getElem? (i := 35) rfl)) rfl (g := (mkF m 33 #[.val (.int ksl), .val (.int mode), .val (.int chs), .val (.int cou), .val (.int line), .val (.int colu), .val (.ref kd), .val (.ref xs), .val (.int (0 : Int32)), .unset, .unset, .unset] [])) rfl (hb hby at_33) (by decide) (by decide)
    obtain ⟨b176, g176⟩ : ∃ z, z = T173.heap.size := ⟨_, rfl⟩
    rw [← g176] at A176 D176 st176
    have sz_b176 : h0.size ≤ b176 := Nat.le_trans K174.1 (Nat.le_of_eq g176.symm)
    have g_b176 : n0 ≤ b176 := Nat.le_trans Z0 sz_b176
    have ne177 : xs ≠ b176 := Nat.ne_of_lt (Nat.lt_of_lt_of_le SS173.lt (Nat.le_of_eq g176.symm))
    have ne178 : ts ≠ b176 := Nat.ne_of_lt (Nat.lt_of_lt_of_le SS173.ltt (Nat.le_of_eq g176.symm))
    have S_b176 := Safe.new (Z := Z) (EL := consts_1) (vm := T173.vm) (Nat.le_of_eq g176.symm)
    replace S_b176 := Safe.ext E176 CH S_b176
    replace CR := CR.trans (CHr.ext E176 CH)
    replace CH := CH.ext E176
    replace hk := Nat.le_trans hk E176.1
    replace O0 := O0.ext E176
    replace SS173 := SS173.ext E176
    have K179 := K174.ext E176
    have F176_exactly : Fld Z h176 b176 "com/example/obra/obra/Model$TypeScope" "exactly" "Z" (.int (0 : Int32)) := D176 (Or.inr (hw _ (List.mem_of_getElem? (i := 61) rfl))) (ty := .boolean) (by decide)
    have F176_count : Fld Z h176 b176 "com/example/obra/obra/Model$TypeScope" "count" "I" (.int (0 : Int32)) := D176 (Or.inr (hw _ (List.mem_of_getElem? (i := 63) rfl))) (ty := .int) (by decide)
    have F176_sig : Fld Z h176 b176 "com/example/obra/obra/Model$TypeScope" "sig" "Lcom/example/obra/obra/Token;" .null := D176 (Or.inr (hw _ (List.mem_of_getElem? (i := 65) rfl))) (ty := (.object "com/example/obra/obra/Token")) (by decide)
    refine own_go st176 ?_
    refine own_go (fun _ kk_ => XS.dup X176.here hx rfl (hb hby at_36) rfl rfl kk_) ?_
    refine own_go (fun _ kk_ => XS.iload X176.here hx rfl (hb hby at_37) rfl kk_) ?_
    refine own_go (fun _ kk_ => XS.iloadN X176.here hx rfl (hb hby at_39) rfl kk_) ?_
    show own_Fin p.tables e below _ (T176.setTop (mkF m 40 #[.val (.int ksl), .val (.int mode), .val (.int chs), .val (.int cou), .val (.int line), .val (.int colu), .val (.ref kd), .val (.ref xs), .val (.int (0 : Int32)), .unset, .unset, .unset] [(.int cou), (.int (0 : Int32)), (.ref b176), (.ref b176)]))
    obtain ⟨T180, h180, X180, e180, E180, A180, D180, -, st180⟩ := newO X176 hx hZ hown (hw _ (List.mem_of_getElem? (i := 36) rfl)) (hw _ (List.mem_of_getElem? (i := 37) rfl)) (hw _ (List.mem_of_getElem? (i := 38) rfl)) e176 (g := (mkF m 40 #[.val (.int ksl), .val (.int mode), .val (.int chs), .val (.int cou), .val (.int line), .val (.int colu), .val (.ref kd), .val (.ref xs), .val (.int (0 : Int32)), .unset, .unset, .unset] [(.int cou), (.int (0 : Int32)), (.ref b176), (.ref b176)])) rfl (hb hby at_40) (by decide) (by decide)
    obtain ⟨b180, g180⟩ : ∃ z, z = h176.size := ⟨_, rfl⟩
    rw [← g180] at A180 D180 st180
    have sz_b180 : h0.size ≤ b180 := Nat.le_trans K179.1 (Nat.le_of_eq g180.symm)
    have g_b180 : n0 ≤ b180 := Nat.le_trans Z0 sz_b180
    have ne181 : xs ≠ b180 := Nat.ne_of_lt (Nat.lt_of_lt_of_le SS173.lt (Nat.le_of_eq g180.symm))
    have ne182 : ts ≠ b180 := Nat.ne_of_lt (Nat.lt_of_lt_of_le SS173.ltt (Nat.le_of_eq g180.symm))
    have ne183 : b176 ≠ b180 := Nat.ne_of_lt (Nat.lt_of_lt_of_le A176.lt (Nat.le_of_eq g180.symm))
    have S_b180 := Safe.new (Z := Z) (EL := consts_1) (vm := T173.vm) (Nat.le_of_eq g180.symm)
    replace S_b176 := Safe.ext E180 CH S_b176
    replace S_b180 := Safe.ext E180 CH S_b180
    replace CR := CR.trans (CHr.ext E180 CH)
    replace CH := CH.ext E180
    replace hk := Nat.le_trans hk E180.1
    replace O0 := O0.ext E180
    replace SS173 := SS173.ext E180
    replace A176 := A176.ext E180
    replace F176_exactly := F176_exactly.ext E180
    replace F176_count := F176_count.ext E180
    replace F176_sig := F176_sig.ext E180
    have K184 := K179.ext E180
    have F180_kind : Fld Z h180 b180 "com/example/obra/obra/Token" "kind" "Lcom/example/obra/obra/Token$Kind;" .null := D180 (Or.inr (hw _ (List.mem_of_getElem? (i := 49) rfl))) (ty := (.object "com/example/obra/obra/Token$Kind")) (by decide)
    have F180_text : Fld Z h180 b180 "com/example/obra/obra/Token" "text" "Ljava/lang/String;" .null := D180 (Or.inr (hw _ (List.mem_of_getElem? (i := 51) rfl))) (ty := (.object "java/lang/String")) (by decide)
    have F180_line : Fld Z h180 b180 "com/example/obra/obra/Token" "line" "I" (.int (0 : Int32)) := D180 (Or.inr (hw _ (List.mem_of_getElem? (i := 53) rfl))) (ty := .int) (by decide)
    have F180_column : Fld Z h180 b180 "com/example/obra/obra/Token" "column" "I" (.int (0 : Int32)) := D180 (Or.inr (hw _ (List.mem_of_getElem? (i := 55) rfl))) (ty := .int) (by decide)
    refine own_go st180 ?_
    refine own_go (fun _ kk_ => XS.dup X180.here hx rfl (hb hby at_43) rfl rfl kk_) ?_
    refine own_go (fun _ kk_ => XS.aload X180.here hx rfl (hb hby at_44) rfl rfl kk_) ?_
    refine own_go (fun _ kk_ => XS.aload X180.here hx rfl (hb hby at_46) rfl rfl kk_) ?_
    refine own_go (fun _ kk_ => XS.iload X180.here hx rfl (hb hby at_48) rfl kk_) ?_
    refine own_go (fun _ kk_ => XS.iload X180.here hx rfl (hb hby at_50) rfl kk_) ?_
    show own_Fin p.tables e below _ (T180.setTop (mkF m 52 #[.val (.int ksl), .val (.int mode), .val (.int chs), .val (.int cou), .val (.int line), .val (.int colu), .val (.ref kd), .val (.ref xs), .val (.int (0 : Int32)), .unset, .unset, .unset] [(.int colu), (.int line), (.ref xs), (.ref kd), (.ref b180), (.ref b180), (.int cou), (.int (0 : Int32)), (.ref b176), (.ref b176)]))
    obtain ⟨_, _, ⟨T185, L185, k185, n185⟩, -, X185, ⟨Lc185, hQ185, l185, y185, z185⟩, st185⟩ := X180.specialBack hx (y := (⟨"com/example/obra/obra/Token", "<init>", "(Lcom/example/obra/obra/Token$Kind;Ljava/lang/String;II)V"⟩ : MethodName)) rfl hown (mvT hZ (hw _ (List.mem_of_getElem? (i := 39) rfl))) (mvT hZ (hw _ (List.mem_of_getElem? (i := 40) rfl))) (mvT hZ (hw _ (List.mem_of_getElem? (i := 41) rfl))) (by decide) (backOf (W := 5) (rm_tok l Z a0 hw [] b180 kd xs line colu h180 n0 (Nat.le_trans Z0 K184.1) A180 F180_kind F180_text F180_line F180_column g_b180) hZ (hw _ (List.mem_of_getElem? (i := 41) rfl)) (hw _ (List.mem_of_getElem? (i := 38) rfl)) (by decide) (by decide)) (g := (mkF m 52 #[.val (.int ksl), .val (.int mode), .val (.int chs), .val (.int cou), .val (.int line), .val (.int colu), .val (.ref kd), .val (.ref xs), .val (.int (0 : Int32)), .unset, .unset, .unset] [(.int colu), (.int line), (.ref xs), (.ref kd), (.ref b180), (.ref b180), (.int cou), (.int (0 : Int32)), (.ref b176), (.ref b176)])) rfl (by rw [hml]; rfl) (Steps.refl _) (a := b180) (argsL := [(.ref kd), (.ref xs), (.int line), (.int colu)]) (rest := [(.ref b180), (.int cou), (.int (0 : Int32)), (.ref b176), (.ref b176)]) (lenOf pd_14 rfl) rfl (by show 2 * 0 + _ ≤ _; exact Nat.le_of_eq rfl) (hb hby at_52) (fun _ _ => ⟨rfl, e180, (by decide : 8 + 0 ≤ _), (by decide : 23 + 0 ≤ _)⟩)
    dsimp only [Pt.U, Pt.locs, Pt.cells, Pt.slots] at X185 l185 y185 z185 st185 hQ185
    subst l185 y185 z185
    obtain ⟨rfl, N185q, KK185, G185_kind, G185_text, G185_line, G185_column⟩ := hQ185
    have N185 := Fr.app N173 N185q
    have hs186 : ∀ x ∈ [b180], Safe Z consts_1 T173.vm h180 x := (sfS S_b180 sf0)
    replace S_b176 := Safe.keep KK185 hs186 CH S_b176
    replace S_b180 := Safe.keep KK185 hs186 CH S_b180
    replace CR := CR.trans (CHr.keep KK185 hs186 CH)
    replace CH := CHv.keep KK185 hs186 CH
    replace hk := Nat.le_trans hk KK185.1
    replace O0 := O0.keep KK185 (allS g_b180 (all0))
    replace SS173 := SS173.keep KK185 (ninS ne181 nin0) (ninS ne182 nin0)
    replace A176 := A176.keep KK185
    replace F176_exactly := F176_exactly.keep KK185 (ninS ne183 nin0)
    replace F176_count := F176_count.keep KK185 (ninS ne183 nin0)
    replace F176_sig := F176_sig.keep KK185 (ninS ne183 nin0)
    replace A180 := A180.keep KK185
    have K187 := K184.trans KK185 (allS (Or.inr sz_b180) all0)
    refine own_go (fun _ kk_ => st185.trans kk_) ?_
    show own_Fin p.tables e below _ (T185.setTop (mkF m 55 #[.val (.int ksl), .val (.int mode), .val (.int chs), .val (.int cou), .val (.int line), .val (.int colu), .val (.ref kd), .val (.ref xs), .val (.int (0 : Int32)), .unset, .unset, .unset] [(.ref b180), (.int cou), (.int (0 : Int32)), (.ref b176), (.ref b176)]))
    obtain ⟨_, _, ⟨T188, L188, k188, n188⟩, -, X188, ⟨Lc188, hQ188, l188, y188, z188⟩, st188⟩ := X185.specialBack hx (y := (⟨"com/example/obra/obra/Model$TypeScope", "<init>", "(ZILcom/example/obra/obra/Token;)V"⟩ : MethodName)) rfl hown (mvT hZ (hw _ (List.mem_of_getElem? (i := 56) rfl))) (mvT hZ (hw _ (List.mem_of_getElem? (i := 57) rfl))) (mvT hZ (hw _ (List.mem_of_getElem? (i := 58) rfl))) (by decide) (backOf (W := 1) (rm_ts l Z a0 hw [] b176 (0 : Int32) cou b180 T185.heap n0 (Nat.le_trans Z0 K187.1) A176 F176_exactly F176_count F176_sig g_b176) hZ (hw _ (List.mem_of_getElem? (i := 58) rfl)) (hw _ (List.mem_of_getElem? (i := 35) rfl)) (by decide) (by decide)) (g := (mkF m 55 #[.val (.int ksl), .val (.int mode), .val (.int chs), .val (.int cou), .val (.int line), .val (.int colu), .val (.ref kd), .val (.ref xs), .val (.int (0 : Int32)), .unset, .unset, .unset] [(.ref b180), (.int cou), (.int (0 : Int32)), (.ref b176), (.ref b176)])) rfl (by rw [hml]; rfl) (Steps.refl _) (a := b176) (argsL := [(.int (0 : Int32)), (.int cou), (.ref b180)]) (rest := [(.ref b176)]) (lenOf pd_15 rfl) rfl (by show 2 * 0 + _ ≤ _; exact Nat.le_of_eq rfl) (hb hby at_55) (fun _ _ => ⟨rfl, rfl, (by decide : 8 + 0 ≤ _), (by decide : 23 + 0 ≤ _)⟩)
    dsimp only [Pt.U, Pt.locs, Pt.cells, Pt.slots] at X188 l188 y188 z188 st188 hQ188
    subst l188 y188 z188
    obtain ⟨rfl, N188q, KK188, G188⟩ := hQ188
    have N188 := Fr.app N185 N188q
    have hs189 : ∀ x ∈ [b176], Safe Z consts_1 T173.vm T185.heap x := (sfS S_b176 sf0)
    replace S_b176 := Safe.keep KK188 hs189 CH S_b176
    replace S_b180 := Safe.keep KK188 hs189 CH S_b180
    replace CR := CR.trans (CHr.keep KK188 hs189 CH)
    replace CH := CHv.keep KK188 hs189 CH
    replace hk := Nat.le_trans hk KK188.1
    replace O0 := O0.keep KK188 (allS g_b176 (all0))
    replace SS173 := SS173.keep KK188 (ninS ne177 nin0) (ninS ne178 nin0)
    replace A176 := A176.keep KK188
    replace A180 := A180.keep KK188
    replace G185_kind := G185_kind.keep KK188 (ninS (Ne.symm ne183) nin0)
    replace G185_text := G185_text.keep KK188 (ninS (Ne.symm ne183) nin0)
    replace G185_line := G185_line.keep KK188 (ninS (Ne.symm ne183) nin0)
    replace G185_column := G185_column.keep KK188 (ninS (Ne.symm ne183) nin0)
    have K190 := K187.trans KK188 (allS (Or.inr sz_b176) all0)
    refine own_go (fun _ kk_ => st188.trans kk_) ?_
    refine own_go (fun _ kk_ => XS.astore X188.here hx rfl (hb hby at_58) rfl rfl (l' := #[.val (.int ksl), .val (.int mode), .val (.int chs), .val (.int cou), .val (.int line), .val (.int colu), .val (.ref kd), .val (.ref xs), .val (.int (0 : Int32)), .val (.ref b176), .unset, .unset]) rfl kk_) ?_
    refine own_go (fun _ kk_ => XS.aload X188.here hx rfl (hb hby at_60) rfl rfl kk_) ?_
    show own_Fin p.tables e below _ (T188.setTop (mkF m 62 #[.val (.int ksl), .val (.int mode), .val (.int chs), .val (.int cou), .val (.int line), .val (.int colu), .val (.ref kd), .val (.ref xs), .val (.int (0 : Int32)), .val (.ref b176), .unset, .unset] [(.ref kd)]))
    obtain ⟨T191, X191, e191, st191⟩ := getS2 X188 hx hZ hown (host := "") (Or.inl (hw _ (List.mem_of_getElem? (i := 66) rfl))) Via.refl rfl (S_kk.ext O0.2) (g := (mkF m 62 #[.val (.int ksl), .val (.int mode), .val (.int chs), .val (.int cou), .val (.int line), .val (.int colu), .val (.ref kd), .val (.ref xs), .val (.int (0 : Int32)), .val (.ref b176), .unset, .unset] [(.ref kd)])) rfl (hb hby at_62)
    refine own_go st191 ?_
    show own_Fin p.tables e below _ (T191.setTop (mkF m 65 #[.val (.int ksl), .val (.int mode), .val (.int chs), .val (.int cou), .val (.int line), .val (.int colu), .val (.ref kd), .val (.ref xs), .val (.int (0 : Int32)), .val (.ref b176), .unset, .unset] [(.ref kk), (.ref kd)]))
    by_cases hc192 : kd = kk
    · skip
      refine own_go (fun _ kk_ => acmp (g := (mkF m 65 #[.val (.int ksl), .val (.int mode), .val (.int chs), .val (.int cou), .val (.int line), .val (.int colu), .val (.ref kd), .val (.ref xs), .val (.int (0 : Int32)), .val (.ref b176), .unset, .unset] [(.ref kk), (.ref kd)])) X191 hx rfl rfl rfl (pc0 := 65) (pc' := 76) (same := true) rfl (hb hby at_65) rfl (by simp [hc192]) (by decide) (by decide) kk_) ?_
      refine own_go (fun _ kk_ => XS.iconst X191.here hx rfl (hb hby at_76) kk_) ?_
      refine own_go (fun _ kk_ => XS.goto X191.here hx rfl (pc0 := 77) (pc' := 81) rfl (hb hby at_77) (by decide) (by decide) kk_) ?_
      refine own_go (fun _ kk_ => XS.istore X191.here hx rfl (hb hby at_81) rfl (l' := #[.val (.int ksl), .val (.int mode), .val (.int chs), .val (.int cou), .val (.int line), .val (.int colu), .val (.ref kd), .val (.ref xs), .val (.int (0 : Int32)), .val (.ref b176), .val (.int (1 : Int32)), .unset]) rfl kk_) ?_
      refine own_go (fun _ kk_ => XS.iload X191.here hx rfl (hb hby at_83) rfl kk_) ?_
      show own_Fin p.tables e below _ (T191.setTop (mkF m 85 #[.val (.int ksl), .val (.int mode), .val (.int chs), .val (.int cou), .val (.int line), .val (.int colu), .val (.ref kd), .val (.ref xs), .val (.int (0 : Int32)), .val (.ref b176), .val (.int (1 : Int32)), .unset] [(.int (1 : Int32))]))
      refine own_go (fun _ kk_ => XS.ifNo X191.here hx rfl (hb hby at_85) rfl ((if0 _ _).trans (feq (by decide : ¬ (1 : Int32) = (0 : Int32))).1) kk_) ?_
      refine own_go (fun _ kk_ => XS.aload X191.here hx rfl (hb hby at_88) rfl rfl kk_) ?_
      show own_Fin p.tables e below _ (T191.setTop (mkF m 90 #[.val (.int ksl), .val (.int mode), .val (.int chs), .val (.int cou), .val (.int line), .val (.int colu), .val (.ref kd), .val (.ref xs), .val (.int (0 : Int32)), .val (.ref b176), .val (.int (1 : Int32)), .unset] [(.ref xs)]))
      obtain ⟨_, _, ⟨T193, L193, k193, n193⟩, -, X193, ⟨Lc193, hQ193, l193, y193, z193⟩, st193⟩ := Jvm.LawKit.callS X191 hx (y := (⟨"com/example/obra/obra/TypeScopeIsBitwidthPinLaw", "isIntName", "(Ljava/lang/String;)Z"⟩ : MethodName)) hown (mvT hZ (hw _ (List.mem_of_getElem? (i := 97) rfl))) (mvT hZ (hw _ (List.mem_of_getElem? (i := 98) rfl))) (mvT hZ (hw _ (List.mem_of_getElem? (i := 3) rfl))) (mvT hZ (hw _ (List.mem_of_getElem? (i := 99) rfl))) (by decide) (backOf (W := 0) (rm_in l Z a0 hw [] xs ts css gc gs T188.heap n0 (Nat.le_trans Z0 K190.1) SS173 hlat S_F hgs S_C hcs O0) hZ (hw _ (List.mem_of_getElem? (i := 99) rfl)) (hw _ (List.mem_of_getElem? (i := 3) rfl)) (by decide) (by decide)) (g := (mkF m 90 #[.val (.int ksl), .val (.int mode), .val (.int chs), .val (.int cou), .val (.int line), .val (.int colu), .val (.ref kd), .val (.ref xs), .val (.int (0 : Int32)), .val (.ref b176), .val (.int (1 : Int32)), .unset] [(.ref xs)])) rfl (by rw [hml]; rfl) (argsL := [(.ref xs)]) (rest := []) (lenOf pd_11 rfl) rfl (by show 2 * 0 + _ ≤ _; exact Nat.le_of_eq rfl) (hb hby at_90) (fun _ _ => ⟨rfl, e191, (by decide : 8 + 0 ≤ _), (by decide : 23 + 0 ≤ _)⟩)
      dsimp only [Pt.U, Pt.locs, Pt.cells, Pt.slots] at X193 l193 y193 z193 st193 hQ193
      subst l193 y193 z193
      obtain ⟨z193, rfl, N193q, e193, hin193⟩ := hQ193
      have N193 := Fr.app N188 N193q
      refine own_go st193 ?_
      show own_Fin p.tables e below _ (T193.setTop (mkF m 93 #[.val (.int ksl), .val (.int mode), .val (.int chs), .val (.int cou), .val (.int line), .val (.int colu), .val (.ref kd), .val (.ref xs), .val (.int (0 : Int32)), .val (.ref b176), .val (.int (1 : Int32)), .unset] [(.int z193)]))
      by_cases hc194 : z193 = (0 : Int32)
      · skip
        refine own_go (fun _ kk_ => XS.ifYes X193.here hx rfl (pc0 := 93) (pc' := 100) rfl (hb hby at_93) rfl ((if0 _ _).trans (teq hc194).1) (by decide) (by decide) kk_) ?_
        refine own_go (fun _ kk_ => XS.iconst X193.here hx rfl (hb hby at_100) kk_) ?_
        refine own_go (fun _ kk_ => XS.istore X193.here hx rfl (hb hby at_101) rfl (l' := #[.val (.int ksl), .val (.int mode), .val (.int chs), .val (.int cou), .val (.int line), .val (.int colu), .val (.ref kd), .val (.ref xs), .val (.int (0 : Int32)), .val (.ref b176), .val (.int (1 : Int32)), .val (.int (0 : Int32))]) rfl kk_) ?_
        refine own_go (fun _ kk_ => XS.aload X193.here hx rfl (hb hby at_103) rfl rfl kk_) ?_
        show own_Fin p.tables e below _ (T193.setTop (mkF m 105 #[.val (.int ksl), .val (.int mode), .val (.int chs), .val (.int cou), .val (.int line), .val (.int colu), .val (.ref kd), .val (.ref xs), .val (.int (0 : Int32)), .val (.ref b176), .val (.int (1 : Int32)), .val (.int (0 : Int32))] [(.ref b176)]))
        obtain ⟨cq195, kq195, qa195, qb195, qc195⟩ := isOf hZ e193 A176
        obtain ⟨_, _, ⟨T195, L195, k195, n195⟩, -, X195, hSn195, hgr195, ⟨Lc195, hQ195, l195, y195, z195, CR195⟩, st195⟩ := X193.virtualBackS hx (y := (⟨"com/example/obra/obra/Model$TypeScope", "isBitwidth", "()Z"⟩ : MethodName)) (z := (⟨"com/example/obra/obra/Model$TypeScope", "isBitwidth", "()Z"⟩ : MethodName)) hown (mvT hZ (hw _ (List.mem_of_getElem? (i := 70) rfl))) (mvT hZ (hw _ (List.mem_of_getElem? (i := 71) rfl))) (own_notface (args := #[]) (mvT hZ (hw _ (List.mem_of_getElem? (i := 73) rfl))) rfl) (mvT hZ (hw _ (List.mem_of_getElem? (i := 73) rfl))) (mvT hZ (hw _ (List.mem_of_getElem? (i := 72) rfl))) (by decide) (backOfSH (s := s) (W := 0) (rm_ib l Z a0 hw [] hEL b176 b180 kd xs ts css kk ks gc T188.heap n0 (Nat.le_trans Z0 K190.1) G188 A180 G185_kind G185_text SS173 S_kk S_ks S_C hcs O0) hZ (hw _ (List.mem_of_getElem? (i := 74) rfl)) (hw _ (List.mem_of_getElem? (i := 35) rfl)) (by decide) (by decide) hEL CH) qa195 qc195 (g := (mkF m 105 #[.val (.int ksl), .val (.int mode), .val (.int chs), .val (.int cou), .val (.int line), .val (.int colu), .val (.ref kd), .val (.ref xs), .val (.int (0 : Int32)), .val (.ref b176), .val (.int (1 : Int32)), .val (.int (0 : Int32))] [(.ref b176)])) rfl (by rw [hml]; rfl) (Steps.refl _) (argsL := []) (rest := []) (lenOf pd_16 rfl) rfl (by show 2 * 0 + _ ≤ _; exact Nat.le_of_eq rfl) (hb hby at_105) (fun _ _ => ⟨rfl, e193, (by decide : 8 + 4 ≤ _), (by decide : 23 + 32 ≤ _)⟩)
        dsimp only [Pt.U, Pt.locs, Pt.cells, Pt.slots] at X195 l195 y195 z195 st195 hQ195 hSn195 hgr195 CR195
        subst l195 y195 z195
        replace hS := foldS hS (show _ ≤ T193.heap.size by rw [e193]; exact hk) hSn195 hgr195
        replace hk : T195.heap.size ≤ T195.heap.size := Nat.le_refl _
        replace hZ : Z.Warmed39 (s.setVm T195.vm).vm := State.Warmed39.trans (t := s.setVm T173.vm) hZ hSn195.1
        replace hown : (s.setVm T195.vm).vm.findClass "com/example/obra/obra/TypeScopeIsBitwidthPinLaw" = some m.cls := by rw [show (s.setVm T195.vm).vm = T195.vm from rfl, hSn195.1.alike.findClass]; exact hown
        replace X195 : Stand p l e room_1 (s.setVm T195.vm) m #[(.int ksl), (.int mode), (.int chs), (.int cou), (.int line), (.int colu)] below meth c T195 _ _ _ := X195
        replace S_b176 := CR195.safe A176.lt S_b176
        replace S_b180 := CR195.safe A180.lt S_b180
        replace CR := CR.trans CR195
        replace CH := CR195.1
        obtain ⟨z195, rfl, N195q, KK195, hib195⟩ := hQ195
        have N195 := Fr.app N193 N195q
        replace O0 := O0.keep KK195 all0
        replace SS173 := SS173.keep KK195 nin0 nin0
        replace A176 := A176.keep KK195
        replace A180 := A180.keep KK195
        replace G185_kind := G185_kind.keep KK195 nin0
        replace G185_text := G185_text.keep KK195 nin0
        replace G185_line := G185_line.keep KK195 nin0
        replace G185_column := G185_column.keep KK195 nin0
        replace G188 := G188.keep KK195 nin0
        have K196 := K190.trans KK195 all0
        refine own_go (fun _ kk_ => st195.trans kk_) ?_
        refine own_go (fun _ kk_ => XS.iload X195.here hx rfl (hb hby at_108) rfl kk_) ?_
        show own_Fin p.tables e below _ (T195.setTop (mkF m 110 #[.val (.int ksl), .val (.int mode), .val (.int chs), .val (.int cou), .val (.int line), .val (.int colu), .val (.ref kd), .val (.ref xs), .val (.int (0 : Int32)), .val (.ref b176), .val (.int (1 : Int32)), .val (.int (0 : Int32))] [(.int (0 : Int32)), (.int z195)]))
        have hfin : z195 = (0 : Int32) := own_f0 hib195 (fun q => (fun q => absurd (hin193.elim (fun u => u.1.symm.trans hc194) (fun u => absurd q u.2)) (by decide)) q.2)
        refine own_go (fun _ kk_ => XS.icmpNo X195.here hx rfl (hb hby at_110) rfl (teq hfin).2 kk_) ?_
        refine own_go (fun _ kk_ => XS.iconst X195.here hx rfl (hb hby at_113) kk_) ?_
        refine own_go (fun _ kk_ => XS.goto X195.here hx rfl (pc0 := 114) (pc' := 118) rfl (hb hby at_114) (by decide) (by decide) kk_) ?_
        show own_Fin p.tables e below _ (T195.setTop (mkF m 118 #[.val (.int ksl), .val (.int mode), .val (.int chs), .val (.int cou), .val (.int line), .val (.int colu), .val (.ref kd), .val (.ref xs), .val (.int (0 : Int32)), .val (.ref b176), .val (.int (1 : Int32)), .val (.int (0 : Int32))] [(.int (1 : Int32))]))
        have CRz : CHr Z consts_1 s.vm s.heap T195.vm T195.heap := by
          rw [hh]
          exact CR.trans (CHv.at X195 hZ hEL CH)
        refine own_retW X195 hx Bd hS hk (t := .boolean) Bd.returns rfl (Or.inl ⟨rfl, by simp, _, rfl⟩) (hb hby at_118) CRz ?_ (by decide) (by decide)
        show (Q_rm_law Z ksl mode chs cou line colu gc gs kn kk ku ks ke h0 n0) (some (.int (1 : Int32))) T195.heap _
        exact ⟨rfl, N195⟩
      · skip
        refine own_go (fun _ kk_ => XS.ifNo X193.here hx rfl (hb hby at_93) rfl ((if0 _ _).trans (feq hc194).1) kk_) ?_
        refine own_go (fun _ kk_ => XS.iconst X193.here hx rfl (hb hby at_96) kk_) ?_
        refine own_go (fun _ kk_ => XS.goto X193.here hx rfl (pc0 := 97) (pc' := 101) rfl (hb hby at_97) (by decide) (by decide) kk_) ?_
        refine own_go (fun _ kk_ => XS.istore X193.here hx rfl (hb hby at_101) rfl (l' := #[.val (.int ksl), .val (.int mode), .val (.int chs), .val (.int cou), .val (.int line), .val (.int colu), .val (.ref kd), .val (.ref xs), .val (.int (0 : Int32)), .val (.ref b176), .val (.int (1 : Int32)), .val (.int (1 : Int32))]) rfl kk_) ?_
        refine own_go (fun _ kk_ => XS.aload X193.here hx rfl (hb hby at_103) rfl rfl kk_) ?_
        show own_Fin p.tables e below _ (T193.setTop (mkF m 105 #[.val (.int ksl), .val (.int mode), .val (.int chs), .val (.int cou), .val (.int line), .val (.int colu), .val (.ref kd), .val (.ref xs), .val (.int (0 : Int32)), .val (.ref b176), .val (.int (1 : Int32)), .val (.int (1 : Int32))] [(.ref b176)]))
        obtain ⟨cq197, kq197, qa197, qb197, qc197⟩ := isOf hZ e193 A176
        obtain ⟨_, _, ⟨T197, L197, k197, n197⟩, -, X197, hSn197, hgr197, ⟨Lc197, hQ197, l197, y197, z197, CR197⟩, st197⟩ := X193.virtualBackS hx (y := (⟨"com/example/obra/obra/Model$TypeScope", "isBitwidth", "()Z"⟩ : MethodName)) (z := (⟨"com/example/obra/obra/Model$TypeScope", "isBitwidth", "()Z"⟩ : MethodName)) hown (mvT hZ (hw _ (List.mem_of_getElem? (i := 70) rfl))) (mvT hZ (hw _ (List.mem_of_getElem? (i := 71) rfl))) (own_notface (args := #[]) (mvT hZ (hw _ (List.mem_of_getElem? (i := 73) rfl))) rfl) (mvT hZ (hw _ (List.mem_of_getElem? (i := 73) rfl))) (mvT hZ (hw _ (List.mem_of_getElem? (i := 72) rfl))) (by decide) (backOfSH (s := s) (W := 0) (rm_ib l Z a0 hw [] hEL b176 b180 kd xs ts css kk ks gc T188.heap n0 (Nat.le_trans Z0 K190.1) G188 A180 G185_kind G185_text SS173 S_kk S_ks S_C hcs O0) hZ (hw _ (List.mem_of_getElem? (i := 74) rfl)) (hw _ (List.mem_of_getElem? (i := 35) rfl)) (by decide) (by decide) hEL CH) qa197 qc197 (g := (mkF m 105 #[.val (.int ksl), .val (.int mode), .val (.int chs), .val (.int cou), .val (.int line), .val (.int colu), .val (.ref kd), .val (.ref xs), .val (.int (0 : Int32)), .val (.ref b176), .val (.int (1 : Int32)), .val (.int (1 : Int32))] [(.ref b176)])) rfl (by rw [hml]; rfl) (Steps.refl _) (argsL := []) (rest := []) (lenOf pd_16 rfl) rfl (by show 2 * 0 + _ ≤ _; exact Nat.le_of_eq rfl) (hb hby at_105) (fun _ _ => ⟨rfl, e193, (by decide : 8 + 4 ≤ _), (by decide : 23 + 32 ≤ _)⟩)
        dsimp only [Pt.U, Pt.locs, Pt.cells, Pt.slots] at X197 l197 y197 z197 st197 hQ197 hSn197 hgr197 CR197
        subst l197 y197 z197
        replace hS := foldS hS (show _ ≤ T193.heap.size by rw [e193]; exact hk) hSn197 hgr197
        replace hk : T197.heap.size ≤ T197.heap.size := Nat.le_refl _
        replace hZ : Z.Warmed39 (s.setVm T197.vm).vm := State.Warmed39.trans (t := s.setVm T173.vm) hZ hSn197.1
        replace hown : (s.setVm T197.vm).vm.findClass "com/example/obra/obra/TypeScopeIsBitwidthPinLaw" = some m.cls := by rw [show (s.setVm T197.vm).vm = T197.vm from rfl, hSn197.1.alike.findClass]; exact hown
        replace X197 : Stand p l e room_1 (s.setVm T197.vm) m #[(.int ksl), (.int mode), (.int chs), (.int cou), (.int line), (.int colu)] below meth c T197 _ _ _ := X197
        replace S_b176 := CR197.safe A176.lt S_b176
        replace S_b180 := CR197.safe A180.lt S_b180
        replace CR := CR.trans CR197
        replace CH := CR197.1
        obtain ⟨z197, rfl, N197q, KK197, hib197⟩ := hQ197
        have N197 := Fr.app N193 N197q
        replace O0 := O0.keep KK197 all0
        replace SS173 := SS173.keep KK197 nin0 nin0
        replace A176 := A176.keep KK197
        replace A180 := A180.keep KK197
        replace G185_kind := G185_kind.keep KK197 nin0
        replace G185_text := G185_text.keep KK197 nin0
        replace G185_line := G185_line.keep KK197 nin0
        replace G185_column := G185_column.keep KK197 nin0
        replace G188 := G188.keep KK197 nin0
        have K198 := K190.trans KK197 all0
        refine own_go (fun _ kk_ => st197.trans kk_) ?_
        refine own_go (fun _ kk_ => XS.iload X197.here hx rfl (hb hby at_108) rfl kk_) ?_
        show own_Fin p.tables e below _ (T197.setTop (mkF m 110 #[.val (.int ksl), .val (.int mode), .val (.int chs), .val (.int cou), .val (.int line), .val (.int colu), .val (.ref kd), .val (.ref xs), .val (.int (0 : Int32)), .val (.ref b176), .val (.int (1 : Int32)), .val (.int (1 : Int32))] [(.int (1 : Int32)), (.int z197)]))
        have hfin : z197 = (1 : Int32) := own_f1 hib197 (Or.inl hc192) (hin193.elim (fun u => u.2) (fun u => absurd u.1 hc194))
        refine own_go (fun _ kk_ => XS.icmpNo X197.here hx rfl (hb hby at_110) rfl (teq hfin).2 kk_) ?_
        refine own_go (fun _ kk_ => XS.iconst X197.here hx rfl (hb hby at_113) kk_) ?_
        refine own_go (fun _ kk_ => XS.goto X197.here hx rfl (pc0 := 114) (pc' := 118) rfl (hb hby at_114) (by decide) (by decide) kk_) ?_
        show own_Fin p.tables e below _ (T197.setTop (mkF m 118 #[.val (.int ksl), .val (.int mode), .val (.int chs), .val (.int cou), .val (.int line), .val (.int colu), .val (.ref kd), .val (.ref xs), .val (.int (0 : Int32)), .val (.ref b176), .val (.int (1 : Int32)), .val (.int (1 : Int32))] [(.int (1 : Int32))]))
        have CRz : CHr Z consts_1 s.vm s.heap T197.vm T197.heap := by
          rw [hh]
          exact CR.trans (CHv.at X197 hZ hEL CH)
        refine own_retW X197 hx Bd hS hk (t := .boolean) Bd.returns rfl (Or.inl ⟨rfl, by simp, _, rfl⟩) (hb hby at_118) CRz ?_ (by decide) (by decide)
        show (Q_rm_law Z ksl mode chs cou line colu gc gs kn kk ku ks ke h0 n0) (some (.int (1 : Int32))) T197.heap _
        exact ⟨rfl, N197⟩
    · skip
      refine own_go (fun _ kk_ => acmp (g := (mkF m 65 #[.val (.int ksl), .val (.int mode), .val (.int chs), .val (.int cou), .val (.int line), .val (.int colu), .val (.ref kd), .val (.ref xs), .val (.int (0 : Int32)), .val (.ref b176), .unset, .unset] [(.ref kk), (.ref kd)])) X191 hx rfl rfl rfl (pc0 := 65) (pc' := 68) (same := false) rfl (hb hby at_65) rfl (by simp [hc192]) (by decide) (by decide) kk_) ?_
      refine own_go (fun _ kk_ => XS.aload X191.here hx rfl (hb hby at_68) rfl rfl kk_) ?_
      show own_Fin p.tables e below _ (T191.setTop (mkF m 70 #[.val (.int ksl), .val (.int mode), .val (.int chs), .val (.int cou), .val (.int line), .val (.int colu), .val (.ref kd), .val (.ref xs), .val (.int (0 : Int32)), .val (.ref b176), .unset, .unset] [(.ref kd)]))
      obtain ⟨T199, X199, e199, st199⟩ := getS2 X191 hx hZ hown (host := "") (Or.inl (hw _ (List.mem_of_getElem? (i := 68) rfl))) Via.refl e191 (S_ks.ext O0.2) (g := (mkF m 70 #[.val (.int ksl), .val (.int mode), .val (.int chs), .val (.int cou), .val (.int line), .val (.int colu), .val (.ref kd), .val (.ref xs), .val (.int (0 : Int32)), .val (.ref b176), .unset, .unset] [(.ref kd)])) rfl (hb hby at_70)
      refine own_go st199 ?_
      show own_Fin p.tables e below _ (T199.setTop (mkF m 73 #[.val (.int ksl), .val (.int mode), .val (.int chs), .val (.int cou), .val (.int line), .val (.int colu), .val (.ref kd), .val (.ref xs), .val (.int (0 : Int32)), .val (.ref b176), .unset, .unset] [(.ref ks), (.ref kd)]))
      by_cases hc200 : kd = ks
      · skip
        refine own_go (fun _ kk_ => acmp (g := (mkF m 73 #[.val (.int ksl), .val (.int mode), .val (.int chs), .val (.int cou), .val (.int line), .val (.int colu), .val (.ref kd), .val (.ref xs), .val (.int (0 : Int32)), .val (.ref b176), .unset, .unset] [(.ref ks), (.ref kd)])) X199 hx rfl rfl rfl (pc0 := 73) (pc' := 76) (same := true) rfl (hb hby at_73) rfl (by simp [hc200]) (by decide) (by decide) kk_) ?_
        refine own_go (fun _ kk_ => XS.iconst X199.here hx rfl (hb hby at_76) kk_) ?_
        refine own_go (fun _ kk_ => XS.goto X199.here hx rfl (pc0 := 77) (pc' := 81) rfl (hb hby at_77) (by decide) (by decide) kk_) ?_
        refine own_go (fun _ kk_ => XS.istore X199.here hx rfl (hb hby at_81) rfl (l' := #[.val (.int ksl), .val (.int mode), .val (.int chs), .val (.int cou), .val (.int line), .val (.int colu), .val (.ref kd), .val (.ref xs), .val (.int (0 : Int32)), .val (.ref b176), .val (.int (1 : Int32)), .unset]) rfl kk_) ?_
        refine own_go (fun _ kk_ => XS.iload X199.here hx rfl (hb hby at_83) rfl kk_) ?_
        show own_Fin p.tables e below _ (T199.setTop (mkF m 85 #[.val (.int ksl), .val (.int mode), .val (.int chs), .val (.int cou), .val (.int line), .val (.int colu), .val (.ref kd), .val (.ref xs), .val (.int (0 : Int32)), .val (.ref b176), .val (.int (1 : Int32)), .unset] [(.int (1 : Int32))]))
        refine own_go (fun _ kk_ => XS.ifNo X199.here hx rfl (hb hby at_85) rfl ((if0 _ _).trans (feq (by decide : ¬ (1 : Int32) = (0 : Int32))).1) kk_) ?_
        refine own_go (fun _ kk_ => XS.aload X199.here hx rfl (hb hby at_88) rfl rfl kk_) ?_
        show own_Fin p.tables e below _ (T199.setTop (mkF m 90 #[.val (.int ksl), .val (.int mode), .val (.int chs), .val (.int cou), .val (.int line), .val (.int colu), .val (.ref kd), .val (.ref xs), .val (.int (0 : Int32)), .val (.ref b176), .val (.int (1 : Int32)), .unset] [(.ref xs)]))
        obtain ⟨_, _, ⟨T201, L201, k201, n201⟩, -, X201, ⟨Lc201, hQ201, l201, y201, z201⟩, st201⟩ := Jvm.LawKit.callS X199 hx (y := (⟨"com/example/obra/obra/TypeScopeIsBitwidthPinLaw", "isIntName", "(Ljava/lang/String;)Z"⟩ : MethodName)) hown (mvT hZ (hw _ (List.mem_of_getElem? (i := 97) rfl))) (mvT hZ (hw _ (List.mem_of_getElem? (i := 98) rfl))) (mvT hZ (hw _ (List.mem_of_getElem? (i := 3) rfl))) (mvT hZ (hw _ (List.mem_of_getElem? (i := 99) rfl))) (by decide) (backOf (W := 0) (rm_in l Z a0 hw [] xs ts css gc gs T188.heap n0 (Nat.le_trans Z0 K190.1) SS173 hlat S_F hgs S_C hcs O0) hZ (hw _ (List.mem_of_getElem? (i := 99) rfl)) (hw _ (List.mem_of_getElem? (i := 3) rfl)) (by decide) (by decide)) (g := (mkF m 90 #[.val (.int ksl), .val (.int mode), .val (.int chs), .val (.int cou), .val (.int line), .val (.int colu), .val (.ref kd), .val (.ref xs), .val (.int (0 : Int32)), .val (.ref b176), .val (.int (1 : Int32)), .unset] [(.ref xs)])) rfl (by rw [hml]; rfl) (argsL := [(.ref xs)]) (rest := []) (lenOf pd_11 rfl) rfl (by show 2 * 0 + _ ≤ _; exact Nat.le_of_eq rfl) (hb hby at_90) (fun _ _ => ⟨rfl, e199, (by decide : 8 + 0 ≤ _), (by decide : 23 + 0 ≤ _)⟩)
        dsimp only [Pt.U, Pt.locs, Pt.cells, Pt.slots] at X201 l201 y201 z201 st201 hQ201
        subst l201 y201 z201
        obtain ⟨z201, rfl, N201q, e201, hin201⟩ := hQ201
        have N201 := Fr.app N188 N201q
        refine own_go st201 ?_
        show own_Fin p.tables e below _ (T201.setTop (mkF m 93 #[.val (.int ksl), .val (.int mode), .val (.int chs), .val (.int cou), .val (.int line), .val (.int colu), .val (.ref kd), .val (.ref xs), .val (.int (0 : Int32)), .val (.ref b176), .val (.int (1 : Int32)), .unset] [(.int z201)]))
        by_cases hc202 : z201 = (0 : Int32)
        · skip
          refine own_go (fun _ kk_ => XS.ifYes X201.here hx rfl (pc0 := 93) (pc' := 100) rfl (hb hby at_93) rfl ((if0 _ _).trans (teq hc202).1) (by decide) (by decide) kk_) ?_
          refine own_go (fun _ kk_ => XS.iconst X201.here hx rfl (hb hby at_100) kk_) ?_
          refine own_go (fun _ kk_ => XS.istore X201.here hx rfl (hb hby at_101) rfl (l' := #[.val (.int ksl), .val (.int mode), .val (.int chs), .val (.int cou), .val (.int line), .val (.int colu), .val (.ref kd), .val (.ref xs), .val (.int (0 : Int32)), .val (.ref b176), .val (.int (1 : Int32)), .val (.int (0 : Int32))]) rfl kk_) ?_
          refine own_go (fun _ kk_ => XS.aload X201.here hx rfl (hb hby at_103) rfl rfl kk_) ?_
          show own_Fin p.tables e below _ (T201.setTop (mkF m 105 #[.val (.int ksl), .val (.int mode), .val (.int chs), .val (.int cou), .val (.int line), .val (.int colu), .val (.ref kd), .val (.ref xs), .val (.int (0 : Int32)), .val (.ref b176), .val (.int (1 : Int32)), .val (.int (0 : Int32))] [(.ref b176)]))
          obtain ⟨cq203, kq203, qa203, qb203, qc203⟩ := isOf hZ e201 A176
          obtain ⟨_, _, ⟨T203, L203, k203, n203⟩, -, X203, hSn203, hgr203, ⟨Lc203, hQ203, l203, y203, z203, CR203⟩, st203⟩ := X201.virtualBackS hx (y := (⟨"com/example/obra/obra/Model$TypeScope", "isBitwidth", "()Z"⟩ : MethodName)) (z := (⟨"com/example/obra/obra/Model$TypeScope", "isBitwidth", "()Z"⟩ : MethodName)) hown (mvT hZ (hw _ (List.mem_of_getElem? (i := 70) rfl))) (mvT hZ (hw _ (List.mem_of_getElem? (i := 71) rfl))) (own_notface (args := #[]) (mvT hZ (hw _ (List.mem_of_getElem? (i := 73) rfl))) rfl) (mvT hZ (hw _ (List.mem_of_getElem? (i := 73) rfl))) (mvT hZ (hw _ (List.mem_of_getElem? (i := 72) rfl))) (by decide) (backOfSH (s := s) (W := 0) (rm_ib l Z a0 hw [] hEL b176 b180 kd xs ts css kk ks gc T188.heap n0 (Nat.le_trans Z0 K190.1) G188 A180 G185_kind G185_text SS173 S_kk S_ks S_C hcs O0) hZ (hw _ (List.mem_of_getElem? (i := 74) rfl)) (hw _ (List.mem_of_getElem? (i := 35) rfl)) (by decide) (by decide) hEL CH) qa203 qc203 (g := (mkF m 105 #[.val (.int ksl), .val (.int mode), .val (.int chs), .val (.int cou), .val (.int line), .val (.int colu), .val (.ref kd), .val (.ref xs), .val (.int (0 : Int32)), .val (.ref b176), .val (.int (1 : Int32)), .val (.int (0 : Int32))] [(.ref b176)])) rfl (by rw [hml]; rfl) (Steps.refl _) (argsL := []) (rest := []) (lenOf pd_16 rfl) rfl (by show 2 * 0 + _ ≤ _; exact Nat.le_of_eq rfl) (hb hby at_105) (fun _ _ => ⟨rfl, e201, (by decide : 8 + 4 ≤ _), (by decide : 23 + 32 ≤ _)⟩)
          dsimp only [Pt.U, Pt.locs, Pt.cells, Pt.slots] at X203 l203 y203 z203 st203 hQ203 hSn203 hgr203 CR203
          subst l203 y203 z203
          replace hS := foldS hS (show _ ≤ T201.heap.size by rw [e201]; exact hk) hSn203 hgr203
          replace hk : T203.heap.size ≤ T203.heap.size := Nat.le_refl _
          replace hZ : Z.Warmed39 (s.setVm T203.vm).vm := State.Warmed39.trans (t := s.setVm T173.vm) hZ hSn203.1
          replace hown : (s.setVm T203.vm).vm.findClass "com/example/obra/obra/TypeScopeIsBitwidthPinLaw" = some m.cls := by rw [show (s.setVm T203.vm).vm = T203.vm from rfl, hSn203.1.alike.findClass]; exact hown
          replace X203 : Stand p l e room_1 (s.setVm T203.vm) m #[(.int ksl), (.int mode), (.int chs), (.int cou), (.int line), (.int colu)] below meth c T203 _ _ _ := X203
          replace S_b176 := CR203.safe A176.lt S_b176
          replace S_b180 := CR203.safe A180.lt S_b180
          replace CR := CR.trans CR203
          replace CH := CR203.1
          obtain ⟨z203, rfl, N203q, KK203, hib203⟩ := hQ203
          have N203 := Fr.app N201 N203q
          replace O0 := O0.keep KK203 all0
          replace SS173 := SS173.keep KK203 nin0 nin0
          replace A176 := A176.keep KK203
          replace A180 := A180.keep KK203
          replace G185_kind := G185_kind.keep KK203 nin0
          replace G185_text := G185_text.keep KK203 nin0
          replace G185_line := G185_line.keep KK203 nin0
          replace G185_column := G185_column.keep KK203 nin0
          replace G188 := G188.keep KK203 nin0
          have K204 := K190.trans KK203 all0
          refine own_go (fun _ kk_ => st203.trans kk_) ?_
          refine own_go (fun _ kk_ => XS.iload X203.here hx rfl (hb hby at_108) rfl kk_) ?_
          show own_Fin p.tables e below _ (T203.setTop (mkF m 110 #[.val (.int ksl), .val (.int mode), .val (.int chs), .val (.int cou), .val (.int line), .val (.int colu), .val (.ref kd), .val (.ref xs), .val (.int (0 : Int32)), .val (.ref b176), .val (.int (1 : Int32)), .val (.int (0 : Int32))] [(.int (0 : Int32)), (.int z203)]))
          have hfin : z203 = (0 : Int32) := own_f0 hib203 (fun q => (fun q => absurd (hin201.elim (fun u => u.1.symm.trans hc202) (fun u => absurd q u.2)) (by decide)) q.2)
          refine own_go (fun _ kk_ => XS.icmpNo X203.here hx rfl (hb hby at_110) rfl (teq hfin).2 kk_) ?_
          refine own_go (fun _ kk_ => XS.iconst X203.here hx rfl (hb hby at_113) kk_) ?_
          refine own_go (fun _ kk_ => XS.goto X203.here hx rfl (pc0 := 114) (pc' := 118) rfl (hb hby at_114) (by decide) (by decide) kk_) ?_
          show own_Fin p.tables e below _ (T203.setTop (mkF m 118 #[.val (.int ksl), .val (.int mode), .val (.int chs), .val (.int cou), .val (.int line), .val (.int colu), .val (.ref kd), .val (.ref xs), .val (.int (0 : Int32)), .val (.ref b176), .val (.int (1 : Int32)), .val (.int (0 : Int32))] [(.int (1 : Int32))]))
          have CRz : CHr Z consts_1 s.vm s.heap T203.vm T203.heap := by
            rw [hh]
            exact CR.trans (CHv.at X203 hZ hEL CH)
          refine own_retW X203 hx Bd hS hk (t := .boolean) Bd.returns rfl (Or.inl ⟨rfl, by simp, _, rfl⟩) (hb hby at_118) CRz ?_ (by decide) (by decide)
          show (Q_rm_law Z ksl mode chs cou line colu gc gs kn kk ku ks ke h0 n0) (some (.int (1 : Int32))) T203.heap _
          exact ⟨rfl, N203⟩
        · skip
          refine own_go (fun _ kk_ => XS.ifNo X201.here hx rfl (hb hby at_93) rfl ((if0 _ _).trans (feq hc202).1) kk_) ?_
          refine own_go (fun _ kk_ => XS.iconst X201.here hx rfl (hb hby at_96) kk_) ?_
          refine own_go (fun _ kk_ => XS.goto X201.here hx rfl (pc0 := 97) (pc' := 101) rfl (hb hby at_97) (by decide) (by decide) kk_) ?_
          refine own_go (fun _ kk_ => XS.istore X201.here hx rfl (hb hby at_101) rfl (l' := #[.val (.int ksl), .val (.int mode), .val (.int chs), .val (.int cou), .val (.int line), .val (.int colu), .val (.ref kd), .val (.ref xs), .val (.int (0 : Int32)), .val (.ref b176), .val (.int (1 : Int32)), .val (.int (1 : Int32))]) rfl kk_) ?_
          refine own_go (fun _ kk_ => XS.aload X201.here hx rfl (hb hby at_103) rfl rfl kk_) ?_
          show own_Fin p.tables e below _ (T201.setTop (mkF m 105 #[.val (.int ksl), .val (.int mode), .val (.int chs), .val (.int cou), .val (.int line), .val (.int colu), .val (.ref kd), .val (.ref xs), .val (.int (0 : Int32)), .val (.ref b176), .val (.int (1 : Int32)), .val (.int (1 : Int32))] [(.ref b176)]))
          obtain ⟨cq205, kq205, qa205, qb205, qc205⟩ := isOf hZ e201 A176
          obtain ⟨_, _, ⟨T205, L205, k205, n205⟩, -, X205, hSn205, hgr205, ⟨Lc205, hQ205, l205, y205, z205, CR205⟩, st205⟩ := X201.virtualBackS hx (y := (⟨"com/example/obra/obra/Model$TypeScope", "isBitwidth", "()Z"⟩ : MethodName)) (z := (⟨"com/example/obra/obra/Model$TypeScope", "isBitwidth", "()Z"⟩ : MethodName)) hown (mvT hZ (hw _ (List.mem_of_getElem? (i := 70) rfl))) (mvT hZ (hw _ (List.mem_of_getElem? (i := 71) rfl))) (own_notface (args := #[]) (mvT hZ (hw _ (List.mem_of_getElem? (i := 73) rfl))) rfl) (mvT hZ (hw _ (List.mem_of_getElem? (i := 73) rfl))) (mvT hZ (hw _ (List.mem_of_getElem? (i := 72) rfl))) (by decide) (backOfSH (s := s) (W := 0) (rm_ib l Z a0 hw [] hEL b176 b180 kd xs ts css kk ks gc T188.heap n0 (Nat.le_trans Z0 K190.1) G188 A180 G185_kind G185_text SS173 S_kk S_ks S_C hcs O0) hZ (hw _ (List.mem_of_getElem? (i := 74) rfl)) (hw _ (List.mem_of_getElem? (i := 35) rfl)) (by decide) (by decide) hEL CH) qa205 qc205 (g := (mkF m 105 #[.val (.int ksl), .val (.int mode), .val (.int chs), .val (.int cou), .val (.int line), .val (.int colu), .val (.ref kd), .val (.ref xs), .val (.int (0 : Int32)), .val (.ref b176), .val (.int (1 : Int32)), .val (.int (1 : Int32))] [(.ref b176)])) rfl (by rw [hml]; rfl) (Steps.refl _) (argsL := []) (rest := []) (lenOf pd_16 rfl) rfl (by show 2 * 0 + _ ≤ _; exact Nat.le_of_eq rfl) (hb hby at_105) (fun _ _ => ⟨rfl, e201, (by decide : 8 + 4 ≤ _), (by decide : 23 + 32 ≤ _)⟩)
          dsimp only [Pt.U, Pt.locs, Pt.cells, Pt.slots] at X205 l205 y205 z205 st205 hQ205 hSn205 hgr205 CR205
          subst l205 y205 z205
          replace hS := foldS hS (show _ ≤ T201.heap.size by rw [e201]; exact hk) hSn205 hgr205
          replace hk : T205.heap.size ≤ T205.heap.size := Nat.le_refl _
          replace hZ : Z.Warmed39 (s.setVm T205.vm).vm := State.Warmed39.trans (t := s.setVm T173.vm) hZ hSn205.1
          replace hown : (s.setVm T205.vm).vm.findClass "com/example/obra/obra/TypeScopeIsBitwidthPinLaw" = some m.cls := by rw [show (s.setVm T205.vm).vm = T205.vm from rfl, hSn205.1.alike.findClass]; exact hown
          replace X205 : Stand p l e room_1 (s.setVm T205.vm) m #[(.int ksl), (.int mode), (.int chs), (.int cou), (.int line), (.int colu)] below meth c T205 _ _ _ := X205
          replace S_b176 := CR205.safe A176.lt S_b176
          replace S_b180 := CR205.safe A180.lt S_b180
          replace CR := CR.trans CR205
          replace CH := CR205.1
          obtain ⟨z205, rfl, N205q, KK205, hib205⟩ := hQ205
          have N205 := Fr.app N201 N205q
          replace O0 := O0.keep KK205 all0
          replace SS173 := SS173.keep KK205 nin0 nin0
          replace A176 := A176.keep KK205
          replace A180 := A180.keep KK205
          replace G185_kind := G185_kind.keep KK205 nin0
          replace G185_text := G185_text.keep KK205 nin0
          replace G185_line := G185_line.keep KK205 nin0
          replace G185_column := G185_column.keep KK205 nin0
          replace G188 := G188.keep KK205 nin0
          have K206 := K190.trans KK205 all0
          refine own_go (fun _ kk_ => st205.trans kk_) ?_
          refine own_go (fun _ kk_ => XS.iload X205.here hx rfl (hb hby at_108) rfl kk_) ?_
          show own_Fin p.tables e below _ (T205.setTop (mkF m 110 #[.val (.int ksl), .val (.int mode), .val (.int chs), .val (.int cou), .val (.int line), .val (.int colu), .val (.ref kd), .val (.ref xs), .val (.int (0 : Int32)), .val (.ref b176), .val (.int (1 : Int32)), .val (.int (1 : Int32))] [(.int (1 : Int32)), (.int z205)]))
          have hfin : z205 = (1 : Int32) := own_f1 hib205 (Or.inr hc200) (hin201.elim (fun u => u.2) (fun u => absurd u.1 hc202))
          refine own_go (fun _ kk_ => XS.icmpNo X205.here hx rfl (hb hby at_110) rfl (teq hfin).2 kk_) ?_
          refine own_go (fun _ kk_ => XS.iconst X205.here hx rfl (hb hby at_113) kk_) ?_
          refine own_go (fun _ kk_ => XS.goto X205.here hx rfl (pc0 := 114) (pc' := 118) rfl (hb hby at_114) (by decide) (by decide) kk_) ?_
          show own_Fin p.tables e below _ (T205.setTop (mkF m 118 #[.val (.int ksl), .val (.int mode), .val (.int chs), .val (.int cou), .val (.int line), .val (.int colu), .val (.ref kd), .val (.ref xs), .val (.int (0 : Int32)), .val (.ref b176), .val (.int (1 : Int32)), .val (.int (1 : Int32))] [(.int (1 : Int32))]))
          have CRz : CHr Z consts_1 s.vm s.heap T205.vm T205.heap := by
            rw [hh]
            exact CR.trans (CHv.at X205 hZ hEL CH)
          refine own_retW X205 hx Bd hS hk (t := .boolean) Bd.returns rfl (Or.inl ⟨rfl, by simp, _, rfl⟩) (hb hby at_118) CRz ?_ (by decide) (by decide)
          show (Q_rm_law Z ksl mode chs cou line colu gc gs kn kk ku ks ke h0 n0) (some (.int (1 : Int32))) T205.heap _
          exact ⟨rfl, N205⟩
      · skip
        refine own_go (fun _ kk_ => acmp (g := (mkF m 73 #[.val (.int ksl), .val (.int mode), .val (.int chs), .val (.int cou), .val (.int line), .val (.int colu), .val (.ref kd), .val (.ref xs), .val (.int (0 : Int32)), .val (.ref b176), .unset, .unset] [(.ref ks), (.ref kd)])) X199 hx rfl rfl rfl (pc0 := 73) (pc' := 80) (same := false) rfl (hb hby at_73) rfl (by simp [hc200]) (by decide) (by decide) kk_) ?_
        refine own_go (fun _ kk_ => XS.iconst X199.here hx rfl (hb hby at_80) kk_) ?_
        refine own_go (fun _ kk_ => XS.istore X199.here hx rfl (hb hby at_81) rfl (l' := #[.val (.int ksl), .val (.int mode), .val (.int chs), .val (.int cou), .val (.int line), .val (.int colu), .val (.ref kd), .val (.ref xs), .val (.int (0 : Int32)), .val (.ref b176), .val (.int (0 : Int32)), .unset]) rfl kk_) ?_
        refine own_go (fun _ kk_ => XS.iload X199.here hx rfl (hb hby at_83) rfl kk_) ?_
        show own_Fin p.tables e below _ (T199.setTop (mkF m 85 #[.val (.int ksl), .val (.int mode), .val (.int chs), .val (.int cou), .val (.int line), .val (.int colu), .val (.ref kd), .val (.ref xs), .val (.int (0 : Int32)), .val (.ref b176), .val (.int (0 : Int32)), .unset] [(.int (0 : Int32))]))
        refine own_go (fun _ kk_ => XS.ifYes X199.here hx rfl (pc0 := 85) (pc' := 100) rfl (hb hby at_85) rfl ((if0 _ _).trans (teq (by decide : (0 : Int32) = (0 : Int32))).1) (by decide) (by decide) kk_) ?_
        refine own_go (fun _ kk_ => XS.iconst X199.here hx rfl (hb hby at_100) kk_) ?_
        refine own_go (fun _ kk_ => XS.istore X199.here hx rfl (hb hby at_101) rfl (l' := #[.val (.int ksl), .val (.int mode), .val (.int chs), .val (.int cou), .val (.int line), .val (.int colu), .val (.ref kd), .val (.ref xs), .val (.int (0 : Int32)), .val (.ref b176), .val (.int (0 : Int32)), .val (.int (0 : Int32))]) rfl kk_) ?_
        refine own_go (fun _ kk_ => XS.aload X199.here hx rfl (hb hby at_103) rfl rfl kk_) ?_
        show own_Fin p.tables e below _ (T199.setTop (mkF m 105 #[.val (.int ksl), .val (.int mode), .val (.int chs), .val (.int cou), .val (.int line), .val (.int colu), .val (.ref kd), .val (.ref xs), .val (.int (0 : Int32)), .val (.ref b176), .val (.int (0 : Int32)), .val (.int (0 : Int32))] [(.ref b176)]))
        obtain ⟨cq207, kq207, qa207, qb207, qc207⟩ := isOf hZ e199 A176
        obtain ⟨_, _, ⟨T207, L207, k207, n207⟩, -, X207, hSn207, hgr207, ⟨Lc207, hQ207, l207, y207, z207, CR207⟩, st207⟩ := X199.virtualBackS hx (y := (⟨"com/example/obra/obra/Model$TypeScope", "isBitwidth", "()Z"⟩ : MethodName)) (z := (⟨"com/example/obra/obra/Model$TypeScope", "isBitwidth", "()Z"⟩ : MethodName)) hown (mvT hZ (hw _ (List.mem_of_getElem? (i := 70) rfl))) (mvT hZ (hw _ (List.mem_of_getElem? (i := 71) rfl))) (own_notface (args := #[]) (mvT hZ (hw _ (List.mem_of_getElem? (i := 73) rfl))) rfl) (mvT hZ (hw _ (List.mem_of_getElem? (i := 73) rfl))) (mvT hZ (hw _ (List.mem_of_getElem? (i := 72) rfl))) (by decide) (backOfSH (s := s) (W := 0) (rm_ib l Z a0 hw [] hEL b176 b180 kd xs ts css kk ks gc T188.heap n0 (Nat.le_trans Z0 K190.1) G188 A180 G185_kind G185_text SS173 S_kk S_ks S_C hcs O0) hZ (hw _ (List.mem_of_getElem? (i := 74) rfl)) (hw _ (List.mem_of_getElem? (i := 35) rfl)) (by decide) (by decide) hEL CH) qa207 qc207 (g := (mkF m 105 #[.val (.int ksl), .val (.int mode), .val (.int chs), .val (.int cou), .val (.int line), .val (.int colu), .val (.ref kd), .val (.ref xs), .val (.int (0 : Int32)), .val (.ref b176), .val (.int (0 : Int32)), .val (.int (0 : Int32))] [(.ref b176)])) rfl (by rw [hml]; rfl) (Steps.refl _) (argsL := []) (rest := []) (lenOf pd_16 rfl) rfl (by show 2 * 0 + _ ≤ _; exact Nat.le_of_eq rfl) (hb hby at_105) (fun _ _ => ⟨rfl, e199, (by decide : 8 + 4 ≤ _), (by decide : 23 + 32 ≤ _)⟩)
        dsimp only [Pt.U, Pt.locs, Pt.cells, Pt.slots] at X207 l207 y207 z207 st207 hQ207 hSn207 hgr207 CR207
        subst l207 y207 z207
        replace hS := foldS hS (show _ ≤ T199.heap.size by rw [e199]; exact hk) hSn207 hgr207
        replace hk : T207.heap.size ≤ T207.heap.size := Nat.le_refl _
        replace hZ : Z.Warmed39 (s.setVm T207.vm).vm := State.Warmed39.trans (t := s.setVm T173.vm) hZ hSn207.1
        replace hown : (s.setVm T207.vm).vm.findClass "com/example/obra/obra/TypeScopeIsBitwidthPinLaw" = some m.cls := by rw [show (s.setVm T207.vm).vm = T207.vm from rfl, hSn207.1.alike.findClass]; exact hown
        replace X207 : Stand p l e room_1 (s.setVm T207.vm) m #[(.int ksl), (.int mode), (.int chs), (.int cou), (.int line), (.int colu)] below meth c T207 _ _ _ := X207
        replace S_b176 := CR207.safe A176.lt S_b176
        replace S_b180 := CR207.safe A180.lt S_b180
        replace CR := CR.trans CR207
        replace CH := CR207.1
        obtain ⟨z207, rfl, N207q, KK207, hib207⟩ := hQ207
        have N207 := Fr.app N188 N207q
        replace O0 := O0.keep KK207 all0
        replace SS173 := SS173.keep KK207 nin0 nin0
        replace A176 := A176.keep KK207
        replace A180 := A180.keep KK207
        replace G185_kind := G185_kind.keep KK207 nin0
        replace G185_text := G185_text.keep KK207 nin0
        replace G185_line := G185_line.keep KK207 nin0
        replace G185_column := G185_column.keep KK207 nin0
        replace G188 := G188.keep KK207 nin0
        have K208 := K190.trans KK207 all0
        refine own_go (fun _ kk_ => st207.trans kk_) ?_
        refine own_go (fun _ kk_ => XS.iload X207.here hx rfl (hb hby at_108) rfl kk_) ?_
        show own_Fin p.tables e below _ (T207.setTop (mkF m 110 #[.val (.int ksl), .val (.int mode), .val (.int chs), .val (.int cou), .val (.int line), .val (.int colu), .val (.ref kd), .val (.ref xs), .val (.int (0 : Int32)), .val (.ref b176), .val (.int (0 : Int32)), .val (.int (0 : Int32))] [(.int (0 : Int32)), (.int z207)]))
        have hfin : z207 = (0 : Int32) := own_f0 hib207 (fun q => (fun q => q.elim hc192 hc200) q.1)
        refine own_go (fun _ kk_ => XS.icmpNo X207.here hx rfl (hb hby at_110) rfl (teq hfin).2 kk_) ?_
        refine own_go (fun _ kk_ => XS.iconst X207.here hx rfl (hb hby at_113) kk_) ?_
        refine own_go (fun _ kk_ => XS.goto X207.here hx rfl (pc0 := 114) (pc' := 118) rfl (hb hby at_114) (by decide) (by decide) kk_) ?_
        show own_Fin p.tables e below _ (T207.setTop (mkF m 118 #[.val (.int ksl), .val (.int mode), .val (.int chs), .val (.int cou), .val (.int line), .val (.int colu), .val (.ref kd), .val (.ref xs), .val (.int (0 : Int32)), .val (.ref b176), .val (.int (0 : Int32)), .val (.int (0 : Int32))] [(.int (1 : Int32))]))
        have CRz : CHr Z consts_1 s.vm s.heap T207.vm T207.heap := by
          rw [hh]
          exact CR.trans (CHv.at X207 hZ hEL CH)
        refine own_retW X207 hx Bd hS hk (t := .boolean) Bd.returns rfl (Or.inl ⟨rfl, by simp, _, rfl⟩) (hb hby at_118) CRz ?_ (by decide) (by decide)
        show (Q_rm_law Z ksl mode chs cou line colu gc gs kn kk ku ks ke h0 n0) (some (.int (1 : Int32))) T207.heap _
        exact ⟨rfl, N207⟩
  · skip
    refine own_go (fun _ kk_ => XS.ifNo X173.here hx rfl (hb hby at_23) rfl ((if0 _ _).trans (feq hc175).1) kk_) ?_
    refine own_go (fun _ kk_ => XS.iconst X173.here hx rfl (hb hby at_26) kk_) ?_
    refine own_go (fun _ kk_ => XS.goto X173.here hx rfl (pc0 := 27) (pc' := 31) rfl (hb hby at_27) (by decide) (by decide) kk_) ?_
    refine own_go (fun _ kk_ => XS.istore X173.here hx rfl (hb hby at_31) rfl (l' := #[.val (.int ksl), .val (.int mode), .val (.int chs), .val (.int cou), .val (.int line), .val (.int colu), .val (.ref kd), .val (.ref xs), .val (.int (1 : Int32)), .unset, .unset, .unset]) rfl kk_) ?_
    show own_Fin p.tables e below _ (T173.setTop (mkF m 33 #[.val (.int ksl), .val (.int mode), .val (.int chs), .val (.int cou), .val (.int line), .val (.int colu), .val (.ref kd), .val (.ref xs), .val (.int (1 : Int32)), .unset, .unset, .unset] []))
    obtain ⟨T209, h209, X209, e209, E209, A209, D209, -, st209⟩ := newO X173 hx hZ hown (hw _ (List.mem_of_getElem? (i := 33) rfl)) (hw _ (List.mem_of_getElem? (i := 34) rfl)) (hw _ (List.mem_of_getElem? (i := 35) rfl)) rfl (g := (mkF m 33 #[.val (.int ksl), .val (.int mode), .val (.int chs), .val (.int cou), .val (.int line), .val (.int colu), .val (.ref kd), .val (.ref xs), .val (.int (1 : Int32)), .unset, .unset, .unset] [])) rfl (hb hby at_33) (by decide) (by decide)
    obtain ⟨b209, g209⟩ : ∃ z, z = T173.heap.size := ⟨_, rfl⟩
    rw [← g209] at A209 D209 st209
    have sz_b209 : h0.size ≤ b209 := Nat.le_trans K174.1 (Nat.le_of_eq g209.symm)
    have g_b209 : n0 ≤ b209 := Nat.le_trans Z0 sz_b209
    have ne210 : xs ≠ b209 := Nat.ne_of_lt (Nat.lt_of_lt_of_le SS173.lt (Nat.le_of_eq g209.symm))
    have ne211 : ts ≠ b209 := Nat.ne_of_lt (Nat.lt_of_lt_of_le SS173.ltt (Nat.le_of_eq g209.symm))
    have S_b209 := Safe.new (Z := Z) (EL := consts_1) (vm := T173.vm) (Nat.le_of_eq g209.symm)
    replace S_b209 := Safe.ext E209 CH S_b209
    replace CR := CR.trans (CHr.ext E209 CH)
    replace CH := CH.ext E209
    replace hk := Nat.le_trans hk E209.1
    replace O0 := O0.ext E209
    replace SS173 := SS173.ext E209
    have K212 := K174.ext E209
    have F209_exactly : Fld Z h209 b209 "com/example/obra/obra/Model$TypeScope" "exactly" "Z" (.int (0 : Int32)) := D209 (Or.inr (hw _ (List.mem_of_getElem? (i := 61) rfl))) (ty := .boolean) (by decide)
    have F209_count : Fld Z h209 b209 "com/example/obra/obra/Model$TypeScope" "count" "I" (.int (0 : Int32)) := D209 (Or.inr (hw _ (List.mem_of_getElem? (i := 63) rfl))) (ty := .int) (by decide)
    have F209_sig : Fld Z h209 b209 "com/example/obra/obra/Model$TypeScope" "sig" "Lcom/example/obra/obra/Token;" .null := D209 (Or.inr (hw _ (List.mem_of_getElem? (i := 65) rfl))) (ty := (.object "com/example/obra/obra/Token")) (by decide)
    refine own_go st209 ?_
    refine own_go (fun _ kk_ => XS.dup X209.here hx rfl (hb hby at_36) rfl rfl kk_) ?_
    refine own_go (fun _ kk_ => XS.iload X209.here hx rfl (hb hby at_37) rfl kk_) ?_
    refine own_go (fun _ kk_ => XS.iloadN X209.here hx rfl (hb hby at_39) rfl kk_) ?_
    show own_Fin p.tables e below _ (T209.setTop (mkF m 40 #[.val (.int ksl), .val (.int mode), .val (.int chs), .val (.int cou), .val (.int line), .val (.int colu), .val (.ref kd), .val (.ref xs), .val (.int (1 : Int32)), .unset, .unset, .unset] [(.int cou), (.int (1 : Int32)), (.ref b209), (.ref b209)]))
    obtain ⟨T213, h213, X213, e213, E213, A213, D213, -, st213⟩ := newO X209 hx hZ hown (hw _ (List.mem_of_getElem? (i := 36) rfl)) (hw _ (List.mem_of_getElem? (i := 37) rfl)) (hw _ (List.mem_of_getElem? (i := 38) rfl)) e209 (g := (mkF m 40 #[.val (.int ksl), .val (.int mode), .val (.int chs), .val (.int cou), .val (.int line), .val (.int colu), .val (.ref kd), .val (.ref xs), .val (.int (1 : Int32)), .unset, .unset, .unset] [(.int cou), (.int (1 : Int32)), (.ref b209), (.ref b209)])) rfl (hb hby at_40) (by decide) (by decide)
    obtain ⟨b213, g213⟩ : ∃ z, z = h209.size := ⟨_, rfl⟩
    rw [← g213] at A213 D213 st213
    have sz_b213 : h0.size ≤ b213 := Nat.le_trans K212.1 (Nat.le_of_eq g213.symm)
    have g_b213 : n0 ≤ b213 := Nat.le_trans Z0 sz_b213
    have ne214 : xs ≠ b213 := Nat.ne_of_lt (Nat.lt_of_lt_of_le SS173.lt (Nat.le_of_eq g213.symm))
    have ne215 : ts ≠ b213 := Nat.ne_of_lt (Nat.lt_of_lt_of_le SS173.ltt (Nat.le_of_eq g213.symm))
    have ne216 : b209 ≠ b213 := Nat.ne_of_lt (Nat.lt_of_lt_of_le A209.lt (Nat.le_of_eq g213.symm))
    have S_b213 := Safe.new (Z := Z) (EL := consts_1) (vm := T173.vm) (Nat.le_of_eq g213.symm)
    replace S_b209 := Safe.ext E213 CH S_b209
    replace S_b213 := Safe.ext E213 CH S_b213
    replace CR := CR.trans (CHr.ext E213 CH)
    replace CH := CH.ext E213
    replace hk := Nat.le_trans hk E213.1
    replace O0 := O0.ext E213
    replace SS173 := SS173.ext E213
    replace A209 := A209.ext E213
    replace F209_exactly := F209_exactly.ext E213
    replace F209_count := F209_count.ext E213
    replace F209_sig := F209_sig.ext E213
    have K217 := K212.ext E213
    have F213_kind : Fld Z h213 b213 "com/example/obra/obra/Token" "kind" "Lcom/example/obra/obra/Token$Kind;" .null := D213 (Or.inr (hw _ (List.mem_of_getElem? (i := 49) rfl))) (ty := (.object "com/example/obra/obra/Token$Kind")) (by decide)
    have F213_text : Fld Z h213 b213 "com/example/obra/obra/Token" "text" "Ljava/lang/String;" .null := D213 (Or.inr (hw _ (List.mem_of_getElem? (i := 51) rfl))) (ty := (.object "java/lang/String")) (by decide)
    have F213_line : Fld Z h213 b213 "com/example/obra/obra/Token" "line" "I" (.int (0 : Int32)) := D213 (Or.inr (hw _ (List.mem_of_getElem? (i := 53) rfl))) (ty := .int) (by decide)
    have F213_column : Fld Z h213 b213 "com/example/obra/obra/Token" "column" "I" (.int (0 : Int32)) := D213 (Or.inr (hw _ (List.mem_of_getElem? (i := 55) rfl))) (ty := .int) (by decide)
    refine own_go st213 ?_
    refine own_go (fun _ kk_ => XS.dup X213.here hx rfl (hb hby at_43) rfl rfl kk_) ?_
    refine own_go (fun _ kk_ => XS.aload X213.here hx rfl (hb hby at_44) rfl rfl kk_) ?_
    refine own_go (fun _ kk_ => XS.aload X213.here hx rfl (hb hby at_46) rfl rfl kk_) ?_
    refine own_go (fun _ kk_ => XS.iload X213.here hx rfl (hb hby at_48) rfl kk_) ?_
    refine own_go (fun _ kk_ => XS.iload X213.here hx rfl (hb hby at_50) rfl kk_) ?_
    show own_Fin p.tables e below _ (T213.setTop (mkF m 52 #[.val (.int ksl), .val (.int mode), .val (.int chs), .val (.int cou), .val (.int line), .val (.int colu), .val (.ref kd), .val (.ref xs), .val (.int (1 : Int32)), .unset, .unset, .unset] [(.int colu), (.int line), (.ref xs), (.ref kd), (.ref b213), (.ref b213), (.int cou), (.int (1 : Int32)), (.ref b209), (.ref b209)]))
    obtain ⟨_, _, ⟨T218, L218, k218, n218⟩, -, X218, ⟨Lc218, hQ218, l218, y218, z218⟩, st218⟩ := X213.specialBack hx (y := (⟨"com/example/obra/obra/Token", "<init>", "(Lcom/example/obra/obra/Token$Kind;Ljava/lang/String;II)V"⟩ : MethodName)) rfl hown (mvT hZ (hw _ (List.mem_of_getElem? (i := 39) rfl))) (mvT hZ (hw _ (List.mem_of_getElem? (i := 40) rfl))) (mvT hZ (hw _ (List.mem_of_getElem? (i := 41) rfl))) (by decide) (backOf (W := 5) (rm_tok l Z a0 hw [] b213 kd xs line colu h213 n0 (Nat.le_trans Z0 K217.1) A213 F213_kind F213_text F213_line F213_column g_b213) hZ (hw _ (List.mem_of_getElem? (i := 41) rfl)) (hw _ (List.mem_of_getElem? (i := 38) rfl)) (by decide) (by decide)) (g := (mkF m 52 #[.val (.int ksl), .val (.int mode), .val (.int chs), .val (.int cou), .val (.int line), .val (.int colu), .val (.ref kd), .val (.ref xs), .val (.int (1 : Int32)), .unset, .unset, .unset] [(.int colu), (.int line), (.ref xs), (.ref kd), (.ref b213), (.ref b213), (.int cou), (.int (1 : Int32)), (.ref b209), (.ref b209)])) rfl (by rw [hml]; rfl) (Steps.refl _) (a := b213) (argsL := [(.ref kd), (.ref xs), (.int line), (.int colu)]) (rest := [(.ref b213), (.int cou), (.int (1 : Int32)), (.ref b209), (.ref b209)]) (lenOf pd_14 rfl) rfl (by show 2 * 0 + _ ≤ _; exact Nat.le_of_eq rfl) (hb hby at_52) (fun _ _ => ⟨rfl, e213, (by decide : 8 + 0 ≤ _), (by decide : 23 + 0 ≤ _)⟩)
    dsimp only [Pt.U, Pt.locs, Pt.cells, Pt.slots] at X218 l218 y218 z218 st218 hQ218
    subst l218 y218 z218
    obtain ⟨rfl, N218q, KK218, G218_kind, G218_text, G218_line, G218_column⟩ := hQ218
    have N218 := Fr.app N173 N218q
    have hs219 : ∀ x ∈ [b213], Safe Z consts_1 T173.vm h213 x := (sfS S_b213 sf0)
    replace S_b209 := Safe.keep KK218 hs219 CH S_b209
    replace S_b213 := Safe.keep KK218 hs219 CH S_b213
    replace CR := CR.trans (CHr.keep KK218 hs219 CH)
    replace CH := CHv.keep KK218 hs219 CH
    replace hk := Nat.le_trans hk KK218.1
    replace O0 := O0.keep KK218 (allS g_b213 (all0))
    replace SS173 := SS173.keep KK218 (ninS ne214 nin0) (ninS ne215 nin0)
    replace A209 := A209.keep KK218
    replace F209_exactly := F209_exactly.keep KK218 (ninS ne216 nin0)
    replace F209_count := F209_count.keep KK218 (ninS ne216 nin0)
    replace F209_sig := F209_sig.keep KK218 (ninS ne216 nin0)
    replace A213 := A213.keep KK218
    have K220 := K217.trans KK218 (allS (Or.inr sz_b213) all0)
    refine own_go (fun _ kk_ => st218.trans kk_) ?_
    show own_Fin p.tables e below _ (T218.setTop (mkF m 55 #[.val (.int ksl), .val (.int mode), .val (.int chs), .val (.int cou), .val (.int line), .val (.int colu), .val (.ref kd), .val (.ref xs), .val (.int (1 : Int32)), .unset, .unset, .unset] [(.ref b213), (.int cou), (.int (1 : Int32)), (.ref b209), (.ref b209)]))
    obtain ⟨_, _, ⟨T221, L221, k221, n221⟩, -, X221, ⟨Lc221, hQ221, l221, y221, z221⟩, st221⟩ := X218.specialBack hx (y := (⟨"com/example/obra/obra/Model$TypeScope", "<init>", "(ZILcom/example/obra/obra/Token;)V"⟩ : MethodName)) rfl hown (mvT hZ (hw _ (List.mem_of_getElem? (i := 56) rfl))) (mvT hZ (hw _ (List.mem_of_getElem? (i := 57) rfl))) (mvT hZ (hw _ (List.mem_of_getElem? (i := 58) rfl))) (by decide) (backOf (W := 1) (rm_ts l Z a0 hw [] b209 (1 : Int32) cou b213 T218.heap n0 (Nat.le_trans Z0 K220.1) A209 F209_exactly F209_count F209_sig g_b209) hZ (hw _ (List.mem_of_getElem? (i := 58) rfl)) (hw _ (List.mem_of_getElem? (i := 35) rfl)) (by decide) (by decide)) (g := (mkF m 55 #[.val (.int ksl), .val (.int mode), .val (.int chs), .val (.int cou), .val (.int line), .val (.int colu), .val (.ref kd), .val (.ref xs), .val (.int (1 : Int32)), .unset, .unset, .unset] [(.ref b213), (.int cou), (.int (1 : Int32)), (.ref b209), (.ref b209)])) rfl (by rw [hml]; rfl) (Steps.refl _) (a := b209) (argsL := [(.int (1 : Int32)), (.int cou), (.ref b213)]) (rest := [(.ref b209)]) (lenOf pd_15 rfl) rfl (by show 2 * 0 + _ ≤ _; exact Nat.le_of_eq rfl) (hb hby at_55) (fun _ _ => ⟨rfl, rfl, (by decide : 8 + 0 ≤ _), (by decide : 23 + 0 ≤ _)⟩)
    dsimp only [Pt.U, Pt.locs, Pt.cells, Pt.slots] at X221 l221 y221 z221 st221 hQ221
    subst l221 y221 z221
    obtain ⟨rfl, N221q, KK221, G221⟩ := hQ221
    have N221 := Fr.app N218 N221q
    have hs222 : ∀ x ∈ [b209], Safe Z consts_1 T173.vm T218.heap x := (sfS S_b209 sf0)
    replace S_b209 := Safe.keep KK221 hs222 CH S_b209
    replace S_b213 := Safe.keep KK221 hs222 CH S_b213
    replace CR := CR.trans (CHr.keep KK221 hs222 CH)
    replace CH := CHv.keep KK221 hs222 CH
    replace hk := Nat.le_trans hk KK221.1
    replace O0 := O0.keep KK221 (allS g_b209 (all0))
    replace SS173 := SS173.keep KK221 (ninS ne210 nin0) (ninS ne211 nin0)
    replace A209 := A209.keep KK221
    replace A213 := A213.keep KK221
    replace G218_kind := G218_kind.keep KK221 (ninS (Ne.symm ne216) nin0)
    replace G218_text := G218_text.keep KK221 (ninS (Ne.symm ne216) nin0)
    replace G218_line := G218_line.keep KK221 (ninS (Ne.symm ne216) nin0)
    replace G218_column := G218_column.keep KK221 (ninS (Ne.symm ne216) nin0)
    have K223 := K220.trans KK221 (allS (Or.inr sz_b209) all0)
    refine own_go (fun _ kk_ => st221.trans kk_) ?_
    refine own_go (fun _ kk_ => XS.astore X221.here hx rfl (hb hby at_58) rfl rfl (l' := #[.val (.int ksl), .val (.int mode), .val (.int chs), .val (.int cou), .val (.int line), .val (.int colu), .val (.ref kd), .val (.ref xs), .val (.int (1 : Int32)), .val (.ref b209), .unset, .unset]) rfl kk_) ?_
    refine own_go (fun _ kk_ => XS.aload X221.here hx rfl (hb hby at_60) rfl rfl kk_) ?_
    show own_Fin p.tables e below _ (T221.setTop (mkF m 62 #[.val (.int ksl), .val (.int mode), .val (.int chs), .val (.int cou), .val (.int line), .val (.int colu), .val (.ref kd), .val (.ref xs), .val (.int (1 : Int32)), .val (.ref b209), .unset, .unset] [(.ref kd)]))
    obtain ⟨T224, X224, e224, st224⟩ := getS2 X221 hx hZ hown (host := "") (Or.inl (hw _ (List.mem_of_getElem? (i := 66) rfl))) Via.refl rfl (S_kk.ext O0.2) (g := (mkF m 62 #[.val (.int ksl), .val (.int mode), .val (.int chs), .val (.int cou), .val (.int line), .val (.int colu), .val (.ref kd), .val (.ref xs), .val (.int (1 : Int32)), .val (.ref b209), .unset, .unset] [(.ref kd)])) rfl (hb hby at_62)
    refine own_go st224 ?_
    show own_Fin p.tables e below _ (T224.setTop (mkF m 65 #[.val (.int ksl), .val (.int mode), .val (.int chs), .val (.int cou), .val (.int line), .val (.int colu), .val (.ref kd), .val (.ref xs), .val (.int (1 : Int32)), .val (.ref b209), .unset, .unset] [(.ref kk), (.ref kd)]))
    by_cases hc225 : kd = kk
    · skip
      refine own_go (fun _ kk_ => acmp (g := (mkF m 65 #[.val (.int ksl), .val (.int mode), .val (.int chs), .val (.int cou), .val (.int line), .val (.int colu), .val (.ref kd), .val (.ref xs), .val (.int (1 : Int32)), .val (.ref b209), .unset, .unset] [(.ref kk), (.ref kd)])) X224 hx rfl rfl rfl (pc0 := 65) (pc' := 76) (same := true) rfl (hb hby at_65) rfl (by simp [hc225]) (by decide) (by decide) kk_) ?_
      refine own_go (fun _ kk_ => XS.iconst X224.here hx rfl (hb hby at_76) kk_) ?_
      refine own_go (fun _ kk_ => XS.goto X224.here hx rfl (pc0 := 77) (pc' := 81) rfl (hb hby at_77) (by decide) (by decide) kk_) ?_
      refine own_go (fun _ kk_ => XS.istore X224.here hx rfl (hb hby at_81) rfl (l' := #[.val (.int ksl), .val (.int mode), .val (.int chs), .val (.int cou), .val (.int line), .val (.int colu), .val (.ref kd), .val (.ref xs), .val (.int (1 : Int32)), .val (.ref b209), .val (.int (1 : Int32)), .unset]) rfl kk_) ?_
      refine own_go (fun _ kk_ => XS.iload X224.here hx rfl (hb hby at_83) rfl kk_) ?_
      show own_Fin p.tables e below _ (T224.setTop (mkF m 85 #[.val (.int ksl), .val (.int mode), .val (.int chs), .val (.int cou), .val (.int line), .val (.int colu), .val (.ref kd), .val (.ref xs), .val (.int (1 : Int32)), .val (.ref b209), .val (.int (1 : Int32)), .unset] [(.int (1 : Int32))]))
      refine own_go (fun _ kk_ => XS.ifNo X224.here hx rfl (hb hby at_85) rfl ((if0 _ _).trans (feq (by decide : ¬ (1 : Int32) = (0 : Int32))).1) kk_) ?_
      refine own_go (fun _ kk_ => XS.aload X224.here hx rfl (hb hby at_88) rfl rfl kk_) ?_
      show own_Fin p.tables e below _ (T224.setTop (mkF m 90 #[.val (.int ksl), .val (.int mode), .val (.int chs), .val (.int cou), .val (.int line), .val (.int colu), .val (.ref kd), .val (.ref xs), .val (.int (1 : Int32)), .val (.ref b209), .val (.int (1 : Int32)), .unset] [(.ref xs)]))
      obtain ⟨_, _, ⟨T226, L226, k226, n226⟩, -, X226, ⟨Lc226, hQ226, l226, y226, z226⟩, st226⟩ := Jvm.LawKit.callS X224 hx (y := (⟨"com/example/obra/obra/TypeScopeIsBitwidthPinLaw", "isIntName", "(Ljava/lang/String;)Z"⟩ : MethodName)) hown (mvT hZ (hw _ (List.mem_of_getElem? (i := 97) rfl))) (mvT hZ (hw _ (List.mem_of_getElem? (i := 98) rfl))) (mvT hZ (hw _ (List.mem_of_getElem? (i := 3) rfl))) (mvT hZ (hw _ (List.mem_of_getElem? (i := 99) rfl))) (by decide) (backOf (W := 0) (rm_in l Z a0 hw [] xs ts css gc gs T221.heap n0 (Nat.le_trans Z0 K223.1) SS173 hlat S_F hgs S_C hcs O0) hZ (hw _ (List.mem_of_getElem? (i := 99) rfl)) (hw _ (List.mem_of_getElem? (i := 3) rfl)) (by decide) (by decide)) (g := (mkF m 90 #[.val (.int ksl), .val (.int mode), .val (.int chs), .val (.int cou), .val (.int line), .val (.int colu), .val (.ref kd), .val (.ref xs), .val (.int (1 : Int32)), .val (.ref b209), .val (.int (1 : Int32)), .unset] [(.ref xs)])) rfl (by rw [hml]; rfl) (argsL := [(.ref xs)]) (rest := []) (lenOf pd_11 rfl) rfl (by show 2 * 0 + _ ≤ _; exact Nat.le_of_eq rfl) (hb hby at_90) (fun _ _ => ⟨rfl, e224, (by decide : 8 + 0 ≤ _), (by decide : 23 + 0 ≤ _)⟩)
      dsimp only [Pt.U, Pt.locs, Pt.cells, Pt.slots] at X226 l226 y226 z226 st226 hQ226
      subst l226 y226 z226
      obtain ⟨z226, rfl, N226q, e226, hin226⟩ := hQ226
      have N226 := Fr.app N221 N226q
      refine own_go st226 ?_
      show own_Fin p.tables e below _ (T226.setTop (mkF m 93 #[.val (.int ksl), .val (.int mode), .val (.int chs), .val (.int cou), .val (.int line), .val (.int colu), .val (.ref kd), .val (.ref xs), .val (.int (1 : Int32)), .val (.ref b209), .val (.int (1 : Int32)), .unset] [(.int z226)]))
      by_cases hc227 : z226 = (0 : Int32)
      · skip
        refine own_go (fun _ kk_ => XS.ifYes X226.here hx rfl (pc0 := 93) (pc' := 100) rfl (hb hby at_93) rfl ((if0 _ _).trans (teq hc227).1) (by decide) (by decide) kk_) ?_
        refine own_go (fun _ kk_ => XS.iconst X226.here hx rfl (hb hby at_100) kk_) ?_
        refine own_go (fun _ kk_ => XS.istore X226.here hx rfl (hb hby at_101) rfl (l' := #[.val (.int ksl), .val (.int mode), .val (.int chs), .val (.int cou), .val (.int line), .val (.int colu), .val (.ref kd), .val (.ref xs), .val (.int (1 : Int32)), .val (.ref b209), .val (.int (1 : Int32)), .val (.int (0 : Int32))]) rfl kk_) ?_
        refine own_go (fun _ kk_ => XS.aload X226.here hx rfl (hb hby at_103) rfl rfl kk_) ?_
        show own_Fin p.tables e below _ (T226.setTop (mkF m 105 #[.val (.int ksl), .val (.int mode), .val (.int chs), .val (.int cou), .val (.int line), .val (.int colu), .val (.ref kd), .val (.ref xs), .val (.int (1 : Int32)), .val (.ref b209), .val (.int (1 : Int32)), .val (.int (0 : Int32))] [(.ref b209)]))
        obtain ⟨cq228, kq228, qa228, qb228, qc228⟩ := isOf hZ e226 A209
        obtain ⟨_, _, ⟨T228, L228, k228, n228⟩, -, X228, hSn228, hgr228, ⟨Lc228, hQ228, l228, y228, z228, CR228⟩, st228⟩ := X226.virtualBackS hx (y := (⟨"com/example/obra/obra/Model$TypeScope", "isBitwidth", "()Z"⟩ : MethodName)) (z := (⟨"com/example/obra/obra/Model$TypeScope", "isBitwidth", "()Z"⟩ : MethodName)) hown (mvT hZ (hw _ (List.mem_of_getElem? (i := 70) rfl))) (mvT hZ (hw _ (List.mem_of_getElem? (i := 71) rfl))) (own_notface (args := #[]) (mvT hZ (hw _ (List.mem_of_getElem? (i := 73) rfl))) rfl) (mvT hZ (hw _ (List.mem_of_getElem? (i := 73) rfl))) (mvT hZ (hw _ (List.mem_of_getElem? (i := 72) rfl))) (by decide) (backOfSH (s := s) (W := 0) (rm_ib l Z a0 hw [] hEL b209 b213 kd xs ts css kk ks gc T221.heap n0 (Nat.le_trans Z0 K223.1) G221 A213 G218_kind G218_text SS173 S_kk S_ks S_C hcs O0) hZ (hw _ (List.mem_of_getElem? (i := 74) rfl)) (hw _ (List.mem_of_getElem? (i := 35) rfl)) (by decide) (by decide) hEL CH) qa228 qc228 (g := (mkF m 105 #[.val (.int ksl), .val (.int mode), .val (.int chs), .val (.int cou), .val (.int line), .val (.int colu), .val (.ref kd), .val (.ref xs), .val (.int (1 : Int32)), .val (.ref b209), .val (.int (1 : Int32)), .val (.int (0 : Int32))] [(.ref b209)])) rfl (by rw [hml]; rfl) (Steps.refl _) (argsL := []) (rest := []) (lenOf pd_16 rfl) rfl (by show 2 * 0 + _ ≤ _; exact Nat.le_of_eq rfl) (hb hby at_105) (fun _ _ => ⟨rfl, e226, (by decide : 8 + 4 ≤ _), (by decide : 23 + 32 ≤ _)⟩)
        dsimp only [Pt.U, Pt.locs, Pt.cells, Pt.slots] at X228 l228 y228 z228 st228 hQ228 hSn228 hgr228 CR228
        subst l228 y228 z228
        replace hS := foldS hS (show _ ≤ T226.heap.size by rw [e226]; exact hk) hSn228 hgr228
        replace hk : T228.heap.size ≤ T228.heap.size := Nat.le_refl _
        replace hZ : Z.Warmed39 (s.setVm T228.vm).vm := State.Warmed39.trans (t := s.setVm T173.vm) hZ hSn228.1
        replace hown : (s.setVm T228.vm).vm.findClass "com/example/obra/obra/TypeScopeIsBitwidthPinLaw" = some m.cls := by rw [show (s.setVm T228.vm).vm = T228.vm from rfl, hSn228.1.alike.findClass]; exact hown
        replace X228 : Stand p l e room_1 (s.setVm T228.vm) m #[(.int ksl), (.int mode), (.int chs), (.int cou), (.int line), (.int colu)] below meth c T228 _ _ _ := X228
        replace S_b209 := CR228.safe A209.lt S_b209
        replace S_b213 := CR228.safe A213.lt S_b213
        replace CR := CR.trans CR228
        replace CH := CR228.1
        obtain ⟨z228, rfl, N228q, KK228, hib228⟩ := hQ228
        have N228 := Fr.app N226 N228q
        replace O0 := O0.keep KK228 all0
        replace SS173 := SS173.keep KK228 nin0 nin0
        replace A209 := A209.keep KK228
        replace A213 := A213.keep KK228
        replace G218_kind := G218_kind.keep KK228 nin0
        replace G218_text := G218_text.keep KK228 nin0
        replace G218_line := G218_line.keep KK228 nin0
        replace G218_column := G218_column.keep KK228 nin0
        replace G221 := G221.keep KK228 nin0
        have K229 := K223.trans KK228 all0
        refine own_go (fun _ kk_ => st228.trans kk_) ?_
        refine own_go (fun _ kk_ => XS.iload X228.here hx rfl (hb hby at_108) rfl kk_) ?_
        show own_Fin p.tables e below _ (T228.setTop (mkF m 110 #[.val (.int ksl), .val (.int mode), .val (.int chs), .val (.int cou), .val (.int line), .val (.int colu), .val (.ref kd), .val (.ref xs), .val (.int (1 : Int32)), .val (.ref b209), .val (.int (1 : Int32)), .val (.int (0 : Int32))] [(.int (0 : Int32)), (.int z228)]))
        have hfin : z228 = (0 : Int32) := own_f0 hib228 (fun q => (fun q => absurd (hin226.elim (fun u => u.1.symm.trans hc227) (fun u => absurd q u.2)) (by decide)) q.2)
        refine own_go (fun _ kk_ => XS.icmpNo X228.here hx rfl (hb hby at_110) rfl (teq hfin).2 kk_) ?_
        refine own_go (fun _ kk_ => XS.iconst X228.here hx rfl (hb hby at_113) kk_) ?_
        refine own_go (fun _ kk_ => XS.goto X228.here hx rfl (pc0 := 114) (pc' := 118) rfl (hb hby at_114) (by decide) (by decide) kk_) ?_
        show own_Fin p.tables e below _ (T228.setTop (mkF m 118 #[.val (.int ksl), .val (.int mode), .val (.int chs), .val (.int cou), .val (.int line), .val (.int colu), .val (.ref kd), .val (.ref xs), .val (.int (1 : Int32)), .val (.ref b209), .val (.int (1 : Int32)), .val (.int (0 : Int32))] [(.int (1 : Int32))]))
        have CRz : CHr Z consts_1 s.vm s.heap T228.vm T228.heap := by
          rw [hh]
          exact CR.trans (CHv.at X228 hZ hEL CH)
        refine own_retW X228 hx Bd hS hk (t := .boolean) Bd.returns rfl (Or.inl ⟨rfl, by simp, _, rfl⟩) (hb hby at_118) CRz ?_ (by decide) (by decide)
        show (Q_rm_law Z ksl mode chs cou line colu gc gs kn kk ku ks ke h0 n0) (some (.int (1 : Int32))) T228.heap _
        exact ⟨rfl, N228⟩
      · skip
        refine own_go (fun _ kk_ => XS.ifNo X226.here hx rfl (hb hby at_93) rfl ((if0 _ _).trans (feq hc227).1) kk_) ?_
        refine own_go (fun _ kk_ => XS.iconst X226.here hx rfl (hb hby at_96) kk_) ?_
        refine own_go (fun _ kk_ => XS.goto X226.here hx rfl (pc0 := 97) (pc' := 101) rfl (hb hby at_97) (by decide) (by decide) kk_) ?_
        refine own_go (fun _ kk_ => XS.istore X226.here hx rfl (hb hby at_101) rfl (l' := #[.val (.int ksl), .val (.int mode), .val (.int chs), .val (.int cou), .val (.int line), .val (.int colu), .val (.ref kd), .val (.ref xs), .val (.int (1 : Int32)), .val (.ref b209), .val (.int (1 : Int32)), .val (.int (1 : Int32))]) rfl kk_) ?_
        refine own_go (fun _ kk_ => XS.aload X226.here hx rfl (hb hby at_103) rfl rfl kk_) ?_
        show own_Fin p.tables e below _ (T226.setTop (mkF m 105 #[.val (.int ksl), .val (.int mode), .val (.int chs), .val (.int cou), .val (.int line), .val (.int colu), .val (.ref kd), .val (.ref xs), .val (.int (1 : Int32)), .val (.ref b209), .val (.int (1 : Int32)), .val (.int (1 : Int32))] [(.ref b209)]))
        obtain ⟨cq230, kq230, qa230, qb230, qc230⟩ := isOf hZ e226 A209
        obtain ⟨_, _, ⟨T230, L230, k230, n230⟩, -, X230, hSn230, hgr230, ⟨Lc230, hQ230, l230, y230, z230, CR230⟩, st230⟩ := X226.virtualBackS hx (y := (⟨"com/example/obra/obra/Model$TypeScope", "isBitwidth", "()Z"⟩ : MethodName)) (z := (⟨"com/example/obra/obra/Model$TypeScope", "isBitwidth", "()Z"⟩ : MethodName)) hown (mvT hZ (hw _ (List.mem_of_getElem? (i := 70) rfl))) (mvT hZ (hw _ (List.mem_of_getElem? (i := 71) rfl))) (own_notface (args := #[]) (mvT hZ (hw _ (List.mem_of_getElem? (i := 73) rfl))) rfl) (mvT hZ (hw _ (List.mem_of_getElem? (i := 73) rfl))) (mvT hZ (hw _ (List.mem_of_getElem? (i := 72) rfl))) (by decide) (backOfSH (s := s) (W := 0) (rm_ib l Z a0 hw [] hEL b209 b213 kd xs ts css kk ks gc T221.heap n0 (Nat.le_trans Z0 K223.1) G221 A213 G218_kind G218_text SS173 S_kk S_ks S_C hcs O0) hZ (hw _ (List.mem_of_getElem? (i := 74) rfl)) (hw _ (List.mem_of_getElem? (i := 35) rfl)) (by decide) (by decide) hEL CH) qa230 qc230 (g := (mkF m 105 #[.val (.int ksl), .val (.int mode), .val (.int chs), .val (.int cou), .val (.int line), .val (.int colu), .val (.ref kd), .val (.ref xs), .val (.int (1 : Int32)), .val (.ref b209), .val (.int (1 : Int32)), .val (.int (1 : Int32))] [(.ref b209)])) rfl (by rw [hml]; rfl) (Steps.refl _) (argsL := []) (rest := []) (lenOf pd_16 rfl) rfl (by show 2 * 0 + _ ≤ _; exact Nat.le_of_eq rfl) (hb hby at_105) (fun _ _ => ⟨rfl, e226, (by decide : 8 + 4 ≤ _), (by decide : 23 + 32 ≤ _)⟩)
        dsimp only [Pt.U, Pt.locs, Pt.cells, Pt.slots] at X230 l230 y230 z230 st230 hQ230 hSn230 hgr230 CR230
        subst l230 y230 z230
        replace hS := foldS hS (show _ ≤ T226.heap.size by rw [e226]; exact hk) hSn230 hgr230
        replace hk : T230.heap.size ≤ T230.heap.size := Nat.le_refl _
        replace hZ : Z.Warmed39 (s.setVm T230.vm).vm := State.Warmed39.trans (t := s.setVm T173.vm) hZ hSn230.1
        replace hown : (s.setVm T230.vm).vm.findClass "com/example/obra/obra/TypeScopeIsBitwidthPinLaw" = some m.cls := by rw [show (s.setVm T230.vm).vm = T230.vm from rfl, hSn230.1.alike.findClass]; exact hown
        replace X230 : Stand p l e room_1 (s.setVm T230.vm) m #[(.int ksl), (.int mode), (.int chs), (.int cou), (.int line), (.int colu)] below meth c T230 _ _ _ := X230
        replace S_b209 := CR230.safe A209.lt S_b209
        replace S_b213 := CR230.safe A213.lt S_b213
        replace CR := CR.trans CR230
        replace CH := CR230.1
        obtain ⟨z230, rfl, N230q, KK230, hib230⟩ := hQ230
        have N230 := Fr.app N226 N230q
        replace O0 := O0.keep KK230 all0
        replace SS173 := SS173.keep KK230 nin0 nin0
        replace A209 := A209.keep KK230
        replace A213 := A213.keep KK230
        replace G218_kind := G218_kind.keep KK230 nin0
        replace G218_text := G218_text.keep KK230 nin0
        replace G218_line := G218_line.keep KK230 nin0
        replace G218_column := G218_column.keep KK230 nin0
        replace G221 := G221.keep KK230 nin0
        have K231 := K223.trans KK230 all0
        refine own_go (fun _ kk_ => st230.trans kk_) ?_
        refine own_go (fun _ kk_ => XS.iload X230.here hx rfl (hb hby at_108) rfl kk_) ?_
        show own_Fin p.tables e below _ (T230.setTop (mkF m 110 #[.val (.int ksl), .val (.int mode), .val (.int chs), .val (.int cou), .val (.int line), .val (.int colu), .val (.ref kd), .val (.ref xs), .val (.int (1 : Int32)), .val (.ref b209), .val (.int (1 : Int32)), .val (.int (1 : Int32))] [(.int (1 : Int32)), (.int z230)]))
        have hfin : z230 = (1 : Int32) := own_f1 hib230 (Or.inl hc225) (hin226.elim (fun u => u.2) (fun u => absurd u.1 hc227))
        refine own_go (fun _ kk_ => XS.icmpNo X230.here hx rfl (hb hby at_110) rfl (teq hfin).2 kk_) ?_
        refine own_go (fun _ kk_ => XS.iconst X230.here hx rfl (hb hby at_113) kk_) ?_
        refine own_go (fun _ kk_ => XS.goto X230.here hx rfl (pc0 := 114) (pc' := 118) rfl (hb hby at_114) (by decide) (by decide) kk_) ?_
        show own_Fin p.tables e below _ (T230.setTop (mkF m 118 #[.val (.int ksl), .val (.int mode), .val (.int chs), .val (.int cou), .val (.int line), .val (.int colu), .val (.ref kd), .val (.ref xs), .val (.int (1 : Int32)), .val (.ref b209), .val (.int (1 : Int32)), .val (.int (1 : Int32))] [(.int (1 : Int32))]))
        have CRz : CHr Z consts_1 s.vm s.heap T230.vm T230.heap := by
          rw [hh]
          exact CR.trans (CHv.at X230 hZ hEL CH)
        refine own_retW X230 hx Bd hS hk (t := .boolean) Bd.returns rfl (Or.inl ⟨rfl, by simp, _, rfl⟩) (hb hby at_118) CRz ?_ (by decide) (by decide)
        show (Q_rm_law Z ksl mode chs cou line colu gc gs kn kk ku ks ke h0 n0) (some (.int (1 : Int32))) T230.heap _
        exact ⟨rfl, N230⟩
    · skip
      refine own_go (fun _ kk_ => acmp (g := (mkF m 65 #[.val (.int ksl), .val (.int mode), .val (.int chs), .val (.int cou), .val (.int line), .val (.int colu), .val (.ref kd), .val (.ref xs), .val (.int (1 : Int32)), .val (.ref b209), .unset, .unset] [(.ref kk), (.ref kd)])) X224 hx rfl rfl rfl (pc0 := 65) (pc' := 68) (same := false) rfl (hb hby at_65) rfl (by simp [hc225]) (by decide) (by decide) kk_) ?_
      refine own_go (fun _ kk_ => XS.aload X224.here hx rfl (hb hby at_68) rfl rfl kk_) ?_
      show own_Fin p.tables e below _ (T224.setTop (mkF m 70 #[.val (.int ksl), .val (.int mode), .val (.int chs), .val (.int cou), .val (.int line), .val (.int colu), .val (.ref kd), .val (.ref xs), .val (.int (1 : Int32)), .val (.ref b209), .unset, .unset] [(.ref kd)]))
      obtain ⟨T232, X232, e232, st232⟩ := getS2 X224 hx hZ hown (host := "") (Or.inl (hw _ (List.mem_of_getElem? (i := 68) rfl))) Via.refl e224 (S_ks.ext O0.2) (g := (mkF m 70 #[.val (.int ksl), .val (.int mode), .val (.int chs), .val (.int cou), .val (.int line), .val (.int colu), .val (.ref kd), .val (.ref xs), .val (.int (1 : Int32)), .val (.ref b209), .unset, .unset] [(.ref kd)])) rfl (hb hby at_70)
      refine own_go st232 ?_
      show own_Fin p.tables e below _ (T232.setTop (mkF m 73 #[.val (.int ksl), .val (.int mode), .val (.int chs), .val (.int cou), .val (.int line), .val (.int colu), .val (.ref kd), .val (.ref xs), .val (.int (1 : Int32)), .val (.ref b209), .unset, .unset] [(.ref ks), (.ref kd)]))
      by_cases hc233 : kd = ks
      · skip
        refine own_go (fun _ kk_ => acmp (g := (mkF m 73 #[.val (.int ksl), .val (.int mode), .val (.int chs), .val (.int cou), .val (.int line), .val (.int colu), .val (.ref kd), .val (.ref xs), .val (.int (1 : Int32)), .val (.ref b209), .unset, .unset] [(.ref ks), (.ref kd)])) X232 hx rfl rfl rfl (pc0 := 73) (pc' := 76) (same := true) rfl (hb hby at_73) rfl (by simp [hc233]) (by decide) (by decide) kk_) ?_
        refine own_go (fun _ kk_ => XS.iconst X232.here hx rfl (hb hby at_76) kk_) ?_
        refine own_go (fun _ kk_ => XS.goto X232.here hx rfl (pc0 := 77) (pc' := 81) rfl (hb hby at_77) (by decide) (by decide) kk_) ?_
        refine own_go (fun _ kk_ => XS.istore X232.here hx rfl (hb hby at_81) rfl (l' := #[.val (.int ksl), .val (.int mode), .val (.int chs), .val (.int cou), .val (.int line), .val (.int colu), .val (.ref kd), .val (.ref xs), .val (.int (1 : Int32)), .val (.ref b209), .val (.int (1 : Int32)), .unset]) rfl kk_) ?_
        refine own_go (fun _ kk_ => XS.iload X232.here hx rfl (hb hby at_83) rfl kk_) ?_
        show own_Fin p.tables e below _ (T232.setTop (mkF m 85 #[.val (.int ksl), .val (.int mode), .val (.int chs), .val (.int cou), .val (.int line), .val (.int colu), .val (.ref kd), .val (.ref xs), .val (.int (1 : Int32)), .val (.ref b209), .val (.int (1 : Int32)), .unset] [(.int (1 : Int32))]))
        refine own_go (fun _ kk_ => XS.ifNo X232.here hx rfl (hb hby at_85) rfl ((if0 _ _).trans (feq (by decide : ¬ (1 : Int32) = (0 : Int32))).1) kk_) ?_
        refine own_go (fun _ kk_ => XS.aload X232.here hx rfl (hb hby at_88) rfl rfl kk_) ?_
        show own_Fin p.tables e below _ (T232.setTop (mkF m 90 #[.val (.int ksl), .val (.int mode), .val (.int chs), .val (.int cou), .val (.int line), .val (.int colu), .val (.ref kd), .val (.ref xs), .val (.int (1 : Int32)), .val (.ref b209), .val (.int (1 : Int32)), .unset] [(.ref xs)]))
        obtain ⟨_, _, ⟨T234, L234, k234, n234⟩, -, X234, ⟨Lc234, hQ234, l234, y234, z234⟩, st234⟩ := Jvm.LawKit.callS X232 hx (y := (⟨"com/example/obra/obra/TypeScopeIsBitwidthPinLaw", "isIntName", "(Ljava/lang/String;)Z"⟩ : MethodName)) hown (mvT hZ (hw _ (List.mem_of_getElem? (i := 97) rfl))) (mvT hZ (hw _ (List.mem_of_getElem? (i := 98) rfl))) (mvT hZ (hw _ (List.mem_of_getElem? (i := 3) rfl))) (mvT hZ (hw _ (List.mem_of_getElem? (i := 99) rfl))) (by decide) (backOf (W := 0) (rm_in l Z a0 hw [] xs ts css gc gs T221.heap n0 (Nat.le_trans Z0 K223.1) SS173 hlat S_F hgs S_C hcs O0) hZ (hw _ (List.mem_of_getElem? (i := 99) rfl)) (hw _ (List.mem_of_getElem? (i := 3) rfl)) (by decide) (by decide)) (g := (mkF m 90 #[.val (.int ksl), .val (.int mode), .val (.int chs), .val (.int cou), .val (.int line), .val (.int colu), .val (.ref kd), .val (.ref xs), .val (.int (1 : Int32)), .val (.ref b209), .val (.int (1 : Int32)), .unset] [(.ref xs)])) rfl (by rw [hml]; rfl) (argsL := [(.ref xs)]) (rest := []) (lenOf pd_11 rfl) rfl (by show 2 * 0 + _ ≤ _; exact Nat.le_of_eq rfl) (hb hby at_90) (fun _ _ => ⟨rfl, e232, (by decide : 8 + 0 ≤ _), (by decide : 23 + 0 ≤ _)⟩)
        dsimp only [Pt.U, Pt.locs, Pt.cells, Pt.slots] at X234 l234 y234 z234 st234 hQ234
        subst l234 y234 z234
        obtain ⟨z234, rfl, N234q, e234, hin234⟩ := hQ234
        have N234 := Fr.app N221 N234q
        refine own_go st234 ?_
        show own_Fin p.tables e below _ (T234.setTop (mkF m 93 #[.val (.int ksl), .val (.int mode), .val (.int chs), .val (.int cou), .val (.int line), .val (.int colu), .val (.ref kd), .val (.ref xs), .val (.int (1 : Int32)), .val (.ref b209), .val (.int (1 : Int32)), .unset] [(.int z234)]))
        by_cases hc235 : z234 = (0 : Int32)
        · skip
          refine own_go (fun _ kk_ => XS.ifYes X234.here hx rfl (pc0 := 93) (pc' := 100) rfl (hb hby at_93) rfl ((if0 _ _).trans (teq hc235).1) (by decide) (by decide) kk_) ?_
          refine own_go (fun _ kk_ => XS.iconst X234.here hx rfl (hb hby at_100) kk_) ?_
          refine own_go (fun _ kk_ => XS.istore X234.here hx rfl (hb hby at_101) rfl (l' := #[.val (.int ksl), .val (.int mode), .val (.int chs), .val (.int cou), .val (.int line), .val (.int colu), .val (.ref kd), .val (.ref xs), .val (.int (1 : Int32)), .val (.ref b209), .val (.int (1 : Int32)), .val (.int (0 : Int32))]) rfl kk_) ?_
          refine own_go (fun _ kk_ => XS.aload X234.here hx rfl (hb hby at_103) rfl rfl kk_) ?_
          show own_Fin p.tables e below _ (T234.setTop (mkF m 105 #[.val (.int ksl), .val (.int mode), .val (.int chs), .val (.int cou), .val (.int line), .val (.int colu), .val (.ref kd), .val (.ref xs), .val (.int (1 : Int32)), .val (.ref b209), .val (.int (1 : Int32)), .val (.int (0 : Int32))] [(.ref b209)]))
          obtain ⟨cq236, kq236, qa236, qb236, qc236⟩ := isOf hZ e234 A209
          obtain ⟨_, _, ⟨T236, L236, k236, n236⟩, -, X236, hSn236, hgr236, ⟨Lc236, hQ236, l236, y236, z236, CR236⟩, st236⟩ := X234.virtualBackS hx (y := (⟨"com/example/obra/obra/Model$TypeScope", "isBitwidth", "()Z"⟩ : MethodName)) (z := (⟨"com/example/obra/obra/Model$TypeScope", "isBitwidth", "()Z"⟩ : MethodName)) hown (mvT hZ (hw _ (List.mem_of_getElem? (i := 70) rfl))) (mvT hZ (hw _ (List.mem_of_getElem? (i := 71) rfl))) (own_notface (args := #[]) (mvT hZ (hw _ (List.mem_of_getElem? (i := 73) rfl))) rfl) (mvT hZ (hw _ (List.mem_of_getElem? (i := 73) rfl))) (mvT hZ (hw _ (List.mem_of_getElem? (i := 72) rfl))) (by decide) (backOfSH (s := s) (W := 0) (rm_ib l Z a0 hw [] hEL b209 b213 kd xs ts css kk ks gc T221.heap n0 (Nat.le_trans Z0 K223.1) G221 A213 G218_kind G218_text SS173 S_kk S_ks S_C hcs O0) hZ (hw _ (List.mem_of_getElem? (i := 74) rfl)) (hw _ (List.mem_of_getElem? (i := 35) rfl)) (by decide) (by decide) hEL CH) qa236 qc236 (g := (mkF m 105 #[.val (.int ksl), .val (.int mode), .val (.int chs), .val (.int cou), .val (.int line), .val (.int colu), .val (.ref kd), .val (.ref xs), .val (.int (1 : Int32)), .val (.ref b209), .val (.int (1 : Int32)), .val (.int (0 : Int32))] [(.ref b209)])) rfl (by rw [hml]; rfl) (Steps.refl _) (argsL := []) (rest := []) (lenOf pd_16 rfl) rfl (by show 2 * 0 + _ ≤ _; exact Nat.le_of_eq rfl) (hb hby at_105) (fun _ _ => ⟨rfl, e234, (by decide : 8 + 4 ≤ _), (by decide : 23 + 32 ≤ _)⟩)
          dsimp only [Pt.U, Pt.locs, Pt.cells, Pt.slots] at X236 l236 y236 z236 st236 hQ236 hSn236 hgr236 CR236
          subst l236 y236 z236
          replace hS := foldS hS (show _ ≤ T234.heap.size by rw [e234]; exact hk) hSn236 hgr236
          replace hk : T236.heap.size ≤ T236.heap.size := Nat.le_refl _
          replace hZ : Z.Warmed39 (s.setVm T236.vm).vm := State.Warmed39.trans (t := s.setVm T173.vm) hZ hSn236.1
          replace hown : (s.setVm T236.vm).vm.findClass "com/example/obra/obra/TypeScopeIsBitwidthPinLaw" = some m.cls := by rw [show (s.setVm T236.vm).vm = T236.vm from rfl, hSn236.1.alike.findClass]; exact hown
          replace X236 : Stand p l e room_1 (s.setVm T236.vm) m #[(.int ksl), (.int mode), (.int chs), (.int cou), (.int line), (.int colu)] below meth c T236 _ _ _ := X236
          replace S_b209 := CR236.safe A209.lt S_b209
          replace S_b213 := CR236.safe A213.lt S_b213
          replace CR := CR.trans CR236
          replace CH := CR236.1
          obtain ⟨z236, rfl, N236q, KK236, hib236⟩ := hQ236
          have N236 := Fr.app N234 N236q
          replace O0 := O0.keep KK236 all0
          replace SS173 := SS173.keep KK236 nin0 nin0
          replace A209 := A209.keep KK236
          replace A213 := A213.keep KK236
          replace G218_kind := G218_kind.keep KK236 nin0
          replace G218_text := G218_text.keep KK236 nin0
          replace G218_line := G218_line.keep KK236 nin0
          replace G218_column := G218_column.keep KK236 nin0
          replace G221 := G221.keep KK236 nin0
          have K237 := K223.trans KK236 all0
          refine own_go (fun _ kk_ => st236.trans kk_) ?_
          refine own_go (fun _ kk_ => XS.iload X236.here hx rfl (hb hby at_108) rfl kk_) ?_
          show own_Fin p.tables e below _ (T236.setTop (mkF m 110 #[.val (.int ksl), .val (.int mode), .val (.int chs), .val (.int cou), .val (.int line), .val (.int colu), .val (.ref kd), .val (.ref xs), .val (.int (1 : Int32)), .val (.ref b209), .val (.int (1 : Int32)), .val (.int (0 : Int32))] [(.int (0 : Int32)), (.int z236)]))
          have hfin : z236 = (0 : Int32) := own_f0 hib236 (fun q => (fun q => absurd (hin234.elim (fun u => u.1.symm.trans hc235) (fun u => absurd q u.2)) (by decide)) q.2)
          refine own_go (fun _ kk_ => XS.icmpNo X236.here hx rfl (hb hby at_110) rfl (teq hfin).2 kk_) ?_
          refine own_go (fun _ kk_ => XS.iconst X236.here hx rfl (hb hby at_113) kk_) ?_
          refine own_go (fun _ kk_ => XS.goto X236.here hx rfl (pc0 := 114) (pc' := 118) rfl (hb hby at_114) (by decide) (by decide) kk_) ?_
          show own_Fin p.tables e below _ (T236.setTop (mkF m 118 #[.val (.int ksl), .val (.int mode), .val (.int chs), .val (.int cou), .val (.int line), .val (.int colu), .val (.ref kd), .val (.ref xs), .val (.int (1 : Int32)), .val (.ref b209), .val (.int (1 : Int32)), .val (.int (0 : Int32))] [(.int (1 : Int32))]))
          have CRz : CHr Z consts_1 s.vm s.heap T236.vm T236.heap := by
            rw [hh]
            exact CR.trans (CHv.at X236 hZ hEL CH)
          refine own_retW X236 hx Bd hS hk (t := .boolean) Bd.returns rfl (Or.inl ⟨rfl, by simp, _, rfl⟩) (hb hby at_118) CRz ?_ (by decide) (by decide)
          show (Q_rm_law Z ksl mode chs cou line colu gc gs kn kk ku ks ke h0 n0) (some (.int (1 : Int32))) T236.heap _
          exact ⟨rfl, N236⟩
        · skip
          refine own_go (fun _ kk_ => XS.ifNo X234.here hx rfl (hb hby at_93) rfl ((if0 _ _).trans (feq hc235).1) kk_) ?_
          refine own_go (fun _ kk_ => XS.iconst X234.here hx rfl (hb hby at_96) kk_) ?_
          refine own_go (fun _ kk_ => XS.goto X234.here hx rfl (pc0 := 97) (pc' := 101) rfl (hb hby at_97) (by decide) (by decide) kk_) ?_
          refine own_go (fun _ kk_ => XS.istore X234.here hx rfl (hb hby at_101) rfl (l' := #[.val (.int ksl), .val (.int mode), .val (.int chs), .val (.int cou), .val (.int line), .val (.int colu), .val (.ref kd), .val (.ref xs), .val (.int (1 : Int32)), .val (.ref b209), .val (.int (1 : Int32)), .val (.int (1 : Int32))]) rfl kk_) ?_
          refine own_go (fun _ kk_ => XS.aload X234.here hx rfl (hb hby at_103) rfl rfl kk_) ?_
          show own_Fin p.tables e below _ (T234.setTop (mkF m 105 #[.val (.int ksl), .val (.int mode), .val (.int chs), .val (.int cou), .val (.int line), .val (.int colu), .val (.ref kd), .val (.ref xs), .val (.int (1 : Int32)), .val (.ref b209), .val (.int (1 : Int32)), .val (.int (1 : Int32))] [(.ref b209)]))
          obtain ⟨cq238, kq238, qa238, qb238, qc238⟩ := isOf hZ e234 A209
          obtain ⟨_, _, ⟨T238, L238, k238, n238⟩, -, X238, hSn238, hgr238, ⟨Lc238, hQ238, l238, y238, z238, CR238⟩, st238⟩ := X234.virtualBackS hx (y := (⟨"com/example/obra/obra/Model$TypeScope", "isBitwidth", "()Z"⟩ : MethodName)) (z := (⟨"com/example/obra/obra/Model$TypeScope", "isBitwidth", "()Z"⟩ : MethodName)) hown (mvT hZ (hw _ (List.mem_of_getElem? (i := 70) rfl))) (mvT hZ (hw _ (List.mem_of_getElem? (i := 71) rfl))) (own_notface (args := #[]) (mvT hZ (hw _ (List.mem_of_getElem? (i := 73) rfl))) rfl) (mvT hZ (hw _ (List.mem_of_getElem? (i := 73) rfl))) (mvT hZ (hw _ (List.mem_of_getElem? (i := 72) rfl))) (by decide) (backOfSH (s := s) (W := 0) (rm_ib l Z a0 hw [] hEL b209 b213 kd xs ts css kk ks gc T221.heap n0 (Nat.le_trans Z0 K223.1) G221 A213 G218_kind G218_text SS173 S_kk S_ks S_C hcs O0) hZ (hw _ (List.mem_of_getElem? (i := 74) rfl)) (hw _ (List.mem_of_getElem? (i := 35) rfl)) (by decide) (by decide) hEL CH) qa238 qc238 (g := (mkF m 105 #[.val (.int ksl), .val (.int mode), .val (.int chs), .val (.int cou), .val (.int line), .val (.int colu), .val (.ref kd), .val (.ref xs), .val (.int (1 : Int32)), .val (.ref b209), .val (.int (1 : Int32)), .val (.int (1 : Int32))] [(.ref b209)])) rfl (by rw [hml]; rfl) (Steps.refl _) (argsL := []) (rest := []) (lenOf pd_16 rfl) rfl (by show 2 * 0 + _ ≤ _; exact Nat.le_of_eq rfl) (hb hby at_105) (fun _ _ => ⟨rfl, e234, (by decide : 8 + 4 ≤ _), (by decide : 23 + 32 ≤ _)⟩)
          dsimp only [Pt.U, Pt.locs, Pt.cells, Pt.slots] at X238 l238 y238 z238 st238 hQ238 hSn238 hgr238 CR238
          subst l238 y238 z238
          replace hS := foldS hS (show _ ≤ T234.heap.size by rw [e234]; exact hk) hSn238 hgr238
          replace hk : T238.heap.size ≤ T238.heap.size := Nat.le_refl _
          replace hZ : Z.Warmed39 (s.setVm T238.vm).vm := State.Warmed39.trans (t := s.setVm T173.vm) hZ hSn238.1
          replace hown : (s.setVm T238.vm).vm.findClass "com/example/obra/obra/TypeScopeIsBitwidthPinLaw" = some m.cls := by rw [show (s.setVm T238.vm).vm = T238.vm from rfl, hSn238.1.alike.findClass]; exact hown
          replace X238 : Stand p l e room_1 (s.setVm T238.vm) m #[(.int ksl), (.int mode), (.int chs), (.int cou), (.int line), (.int colu)] below meth c T238 _ _ _ := X238
          replace S_b209 := CR238.safe A209.lt S_b209
          replace S_b213 := CR238.safe A213.lt S_b213
          replace CR := CR.trans CR238
          replace CH := CR238.1
          obtain ⟨z238, rfl, N238q, KK238, hib238⟩ := hQ238
          have N238 := Fr.app N234 N238q
          replace O0 := O0.keep KK238 all0
          replace SS173 := SS173.keep KK238 nin0 nin0
          replace A209 := A209.keep KK238
          replace A213 := A213.keep KK238
          replace G218_kind := G218_kind.keep KK238 nin0
          replace G218_text := G218_text.keep KK238 nin0
          replace G218_line := G218_line.keep KK238 nin0
          replace G218_column := G218_column.keep KK238 nin0
          replace G221 := G221.keep KK238 nin0
          have K239 := K223.trans KK238 all0
          refine own_go (fun _ kk_ => st238.trans kk_) ?_
          refine own_go (fun _ kk_ => XS.iload X238.here hx rfl (hb hby at_108) rfl kk_) ?_
          show own_Fin p.tables e below _ (T238.setTop (mkF m 110 #[.val (.int ksl), .val (.int mode), .val (.int chs), .val (.int cou), .val (.int line), .val (.int colu), .val (.ref kd), .val (.ref xs), .val (.int (1 : Int32)), .val (.ref b209), .val (.int (1 : Int32)), .val (.int (1 : Int32))] [(.int (1 : Int32)), (.int z238)]))
          have hfin : z238 = (1 : Int32) := own_f1 hib238 (Or.inr hc233) (hin234.elim (fun u => u.2) (fun u => absurd u.1 hc235))
          refine own_go (fun _ kk_ => XS.icmpNo X238.here hx rfl (hb hby at_110) rfl (teq hfin).2 kk_) ?_
          refine own_go (fun _ kk_ => XS.iconst X238.here hx rfl (hb hby at_113) kk_) ?_
          refine own_go (fun _ kk_ => XS.goto X238.here hx rfl (pc0 := 114) (pc' := 118) rfl (hb hby at_114) (by decide) (by decide) kk_) ?_
          show own_Fin p.tables e below _ (T238.setTop (mkF m 118 #[.val (.int ksl), .val (.int mode), .val (.int chs), .val (.int cou), .val (.int line), .val (.int colu), .val (.ref kd), .val (.ref xs), .val (.int (1 : Int32)), .val (.ref b209), .val (.int (1 : Int32)), .val (.int (1 : Int32))] [(.int (1 : Int32))]))
          have CRz : CHr Z consts_1 s.vm s.heap T238.vm T238.heap := by
            rw [hh]
            exact CR.trans (CHv.at X238 hZ hEL CH)
          refine own_retW X238 hx Bd hS hk (t := .boolean) Bd.returns rfl (Or.inl ⟨rfl, by simp, _, rfl⟩) (hb hby at_118) CRz ?_ (by decide) (by decide)
          show (Q_rm_law Z ksl mode chs cou line colu gc gs kn kk ku ks ke h0 n0) (some (.int (1 : Int32))) T238.heap _
          exact ⟨rfl, N238⟩
      · skip
        refine own_go (fun _ kk_ => acmp (g := (mkF m 73 #[.val (.int ksl), .val (.int mode), .val (.int chs), .val (.int cou), .val (.int line), .val (.int colu), .val (.ref kd), .val (.ref xs), .val (.int (1 : Int32)), .val (.ref b209), .unset, .unset] [(.ref ks), (.ref kd)])) X232 hx rfl rfl rfl (pc0 := 73) (pc' := 80) (same := false) rfl (hb hby at_73) rfl (by simp [hc233]) (by decide) (by decide) kk_) ?_
        refine own_go (fun _ kk_ => XS.iconst X232.here hx rfl (hb hby at_80) kk_) ?_
        refine own_go (fun _ kk_ => XS.istore X232.here hx rfl (hb hby at_81) rfl (l' := #[.val (.int ksl), .val (.int mode), .val (.int chs), .val (.int cou), .val (.int line), .val (.int colu), .val (.ref kd), .val (.ref xs), .val (.int (1 : Int32)), .val (.ref b209), .val (.int (0 : Int32)), .unset]) rfl kk_) ?_
        refine own_go (fun _ kk_ => XS.iload X232.here hx rfl (hb hby at_83) rfl kk_) ?_
        show own_Fin p.tables e below _ (T232.setTop (mkF m 85 #[.val (.int ksl), .val (.int mode), .val (.int chs), .val (.int cou), .val (.int line), .val (.int colu), .val (.ref kd), .val (.ref xs), .val (.int (1 : Int32)), .val (.ref b209), .val (.int (0 : Int32)), .unset] [(.int (0 : Int32))]))
        refine own_go (fun _ kk_ => XS.ifYes X232.here hx rfl (pc0 := 85) (pc' := 100) rfl (hb hby at_85) rfl ((if0 _ _).trans (teq (by decide : (0 : Int32) = (0 : Int32))).1) (by decide) (by decide) kk_) ?_
        refine own_go (fun _ kk_ => XS.iconst X232.here hx rfl (hb hby at_100) kk_) ?_
        refine own_go (fun _ kk_ => XS.istore X232.here hx rfl (hb hby at_101) rfl (l' := #[.val (.int ksl), .val (.int mode), .val (.int chs), .val (.int cou), .val (.int line), .val (.int colu), .val (.ref kd), .val (.ref xs), .val (.int (1 : Int32)), .val (.ref b209), .val (.int (0 : Int32)), .val (.int (0 : Int32))]) rfl kk_) ?_
        refine own_go (fun _ kk_ => XS.aload X232.here hx rfl (hb hby at_103) rfl rfl kk_) ?_
        show own_Fin p.tables e below _ (T232.setTop (mkF m 105 #[.val (.int ksl), .val (.int mode), .val (.int chs), .val (.int cou), .val (.int line), .val (.int colu), .val (.ref kd), .val (.ref xs), .val (.int (1 : Int32)), .val (.ref b209), .val (.int (0 : Int32)), .val (.int (0 : Int32))] [(.ref b209)]))
        obtain ⟨cq240, kq240, qa240, qb240, qc240⟩ := isOf hZ e232 A209
        obtain ⟨_, _, ⟨T240, L240, k240, n240⟩, -, X240, hSn240, hgr240, ⟨Lc240, hQ240, l240, y240, z240, CR240⟩, st240⟩ := X232.virtualBackS hx (y := (⟨"com/example/obra/obra/Model$TypeScope", "isBitwidth", "()Z"⟩ : MethodName)) (z := (⟨"com/example/obra/obra/Model$TypeScope", "isBitwidth", "()Z"⟩ : MethodName)) hown (mvT hZ (hw _ (List.mem_of_getElem? (i := 70) rfl))) (mvT hZ (hw _ (List.mem_of_getElem? (i := 71) rfl))) (own_notface (args := #[]) (mvT hZ (hw _ (List.mem_of_getElem? (i := 73) rfl))) rfl) (mvT hZ (hw _ (List.mem_of_getElem? (i := 73) rfl))) (mvT hZ (hw _ (List.mem_of_getElem? (i := 72) rfl))) (by decide) (backOfSH (s := s) (W := 0) (rm_ib l Z a0 hw [] hEL b209 b213 kd xs ts css kk ks gc T221.heap n0 (Nat.le_trans Z0 K223.1) G221 A213 G218_kind G218_text SS173 S_kk S_ks S_C hcs O0) hZ (hw _ (List.mem_of_getElem? (i := 74) rfl)) (hw _ (List.mem_of_getElem? (i := 35) rfl)) (by decide) (by decide) hEL CH) qa240 qc240 (g := (mkF m 105 #[.val (.int ksl), .val (.int mode), .val (.int chs), .val (.int cou), .val (.int line), .val (.int colu), .val (.ref kd), .val (.ref xs), .val (.int (1 : Int32)), .val (.ref b209), .val (.int (0 : Int32)), .val (.int (0 : Int32))] [(.ref b209)])) rfl (by rw [hml]; rfl) (Steps.refl _) (argsL := []) (rest := []) (lenOf pd_16 rfl) rfl (by show 2 * 0 + _ ≤ _; exact Nat.le_of_eq rfl) (hb hby at_105) (fun _ _ => ⟨rfl, e232, (by decide : 8 + 4 ≤ _), (by decide : 23 + 32 ≤ _)⟩)
        dsimp only [Pt.U, Pt.locs, Pt.cells, Pt.slots] at X240 l240 y240 z240 st240 hQ240 hSn240 hgr240 CR240
        subst l240 y240 z240
        replace hS := foldS hS (show _ ≤ T232.heap.size by rw [e232]; exact hk) hSn240 hgr240
        replace hk : T240.heap.size ≤ T240.heap.size := Nat.le_refl _
        replace hZ : Z.Warmed39 (s.setVm T240.vm).vm := State.Warmed39.trans (t := s.setVm T173.vm) hZ hSn240.1
        replace hown : (s.setVm T240.vm).vm.findClass "com/example/obra/obra/TypeScopeIsBitwidthPinLaw" = some m.cls := by rw [show (s.setVm T240.vm).vm = T240.vm from rfl, hSn240.1.alike.findClass]; exact hown
        replace X240 : Stand p l e room_1 (s.setVm T240.vm) m #[(.int ksl), (.int mode), (.int chs), (.int cou), (.int line), (.int colu)] below meth c T240 _ _ _ := X240
        replace S_b209 := CR240.safe A209.lt S_b209
        replace S_b213 := CR240.safe A213.lt S_b213
        replace CR := CR.trans CR240
        replace CH := CR240.1
        obtain ⟨z240, rfl, N240q, KK240, hib240⟩ := hQ240
        have N240 := Fr.app N221 N240q
        replace O0 := O0.keep KK240 all0
        replace SS173 := SS173.keep KK240 nin0 nin0
        replace A209 := A209.keep KK240
        replace A213 := A213.keep KK240
        replace G218_kind := G218_kind.keep KK240 nin0
        replace G218_text := G218_text.keep KK240 nin0
        replace G218_line := G218_line.keep KK240 nin0
        replace G218_column := G218_column.keep KK240 nin0
        replace G221 := G221.keep KK240 nin0
        have K241 := K223.trans KK240 all0
        refine own_go (fun _ kk_ => st240.trans kk_) ?_
        refine own_go (fun _ kk_ => XS.iload X240.here hx rfl (hb hby at_108) rfl kk_) ?_
        show own_Fin p.tables e below _ (T240.setTop (mkF m 110 #[.val (.int ksl), .val (.int mode), .val (.int chs), .val (.int cou), .val (.int line), .val (.int colu), .val (.ref kd), .val (.ref xs), .val (.int (1 : Int32)), .val (.ref b209), .val (.int (0 : Int32)), .val (.int (0 : Int32))] [(.int (0 : Int32)), (.int z240)]))
        have hfin : z240 = (0 : Int32) := own_f0 hib240 (fun q => (fun q => q.elim hc225 hc233) q.1)
        refine own_go (fun _ kk_ => XS.icmpNo X240.here hx rfl (hb hby at_110) rfl (teq hfin).2 kk_) ?_
        refine own_go (fun _ kk_ => XS.iconst X240.here hx rfl (hb hby at_113) kk_) ?_
        refine own_go (fun _ kk_ => XS.goto X240.here hx rfl (pc0 := 114) (pc' := 118) rfl (hb hby at_114) (by decide) (by decide) kk_) ?_
        show own_Fin p.tables e below _ (T240.setTop (mkF m 118 #[.val (.int ksl), .val (.int mode), .val (.int chs), .val (.int cou), .val (.int line), .val (.int colu), .val (.ref kd), .val (.ref xs), .val (.int (1 : Int32)), .val (.ref b209), .val (.int (0 : Int32)), .val (.int (0 : Int32))] [(.int (1 : Int32))]))
        have CRz : CHr Z consts_1 s.vm s.heap T240.vm T240.heap := by
          rw [hh]
          exact CR.trans (CHv.at X240 hZ hEL CH)
        refine own_retW X240 hx Bd hS hk (t := .boolean) Bd.returns rfl (Or.inl ⟨rfl, by simp, _, rfl⟩) (hb hby at_118) CRz ?_ (by decide) (by decide)
        show (Q_rm_law Z ksl mode chs cou line colu gc gs kn kk ku ks ke h0 n0) (some (.int (1 : Int32))) T240.heap _
        exact ⟨rfl, N240⟩
section OwnStart
variable {args : Array Value} {s : State}
theorem own_eqL {t : Term} {c : Int64} (h : (Jvm.Cond.eq t (.long c)).value args s none s [] = some true) : t.eval args s none [] s = some (.long c) := by
  obtain ⟨x, y, hx, hy, k1, -⟩ := cmp_v (Or.inl h)
  cases Option.some.inj (hy.symm.trans (long_at c))
  cases x <;> simp [Kin, Value.isRef] at k1
  have q := gotT (eq_L hx hy) h
  rw [hx, q]
theorem own_eqI {t : Term} {c : Int32} (h : (Jvm.Cond.eq t (.int c)).value args s none s [] = some true) : t.eval args s none [] s = some (.int c) := by
  obtain ⟨x, y, hx, hy, k1, -⟩ := cmp_v (Or.inl h)
  cases Option.some.inj (hy.symm.trans (Term.int_eval c))
  cases x <;> simp [Kin, Value.isRef] at k1
  have q := gotT (Cond.eq_ints hx hy) h
  rw [hx, q]
theorem own_eqR {t u : Term} {a : Addr} (hu : u.eval args s none [] s = some (.ref a)) (h : (Jvm.Cond.eq t u).value args s none s [] = some true) : t.eval args s none [] s = some (.ref a) := by
  obtain ⟨x, y, hx, hy, k1, -⟩ := cmp_v (Or.inl h)
  cases Option.some.inj (hy.symm.trans hu)
  have hr : x.isRef = true := by cases x <;> simp [Kin, Value.isRef] at k1 ⊢
  have q := gotT (eq_R hx hy hr rfl) h
  rw [hx, q]
theorem own_arr {t : Term} {a : Addr} {ty : FieldType} {N : Int32} (ev : t.eval args s none [] s = some (.ref a)) (h1 : (Jvm.Cond.arrayOf t ty).value args s none s [] = some true) (h2 : (Jvm.Cond.eq (Term.length t) (.int N)).value args s none s [] = some true) :
    ∃ cl, Arr s s.heap a cl ty ∧ s.arrayAt? a = some cl ∧ cl.slots.size < 2 ^ 31 ∧ cl.slots.size.toInt32 = N := by
  obtain ⟨cl, A⟩ := Arr.start ev h1
  have aa : s.arrayAt? a = some cl := A.fin (hal := Vm.Alike.refl _)
  have hlen := own_eqI h2
  simp only [Term.eval, ev, Option.bind_eq_bind, Option.bind_some, aa] at hlen
  split at hlen
  · rename_i q; exact ⟨cl, A, aa, q, by simpa using hlen⟩
  · cases hlen
theorem own_elL {t : Term} {a : Addr} {cl : Cell} {j : Int32} {c : Int64} (ev : t.eval args s none [] s = some (.ref a)) (aa : s.arrayAt? a = some cl) (hj : ¬ j < 0) (h : (Jvm.Cond.eq (Term.elem t (.int j)) (.long c)).value args s none s [] = some true) : cl.slots[j.toNatClampNeg]? = some (.long c) := by
  have q := own_eqL h
  rwa [elem_f ev (Term.int_eval j) aa hj] at q
theorem own_elI {t : Term} {a : Addr} {cl : Cell} {j : Int32} {c : Int32} (ev : t.eval args s none [] s = some (.ref a)) (aa : s.arrayAt? a = some cl) (hj : ¬ j < 0) (h : (Jvm.Cond.eq (Term.elem t (.int j)) (.int c)).value args s none s [] = some true) : cl.slots[j.toNatClampNeg]? = some (.int c) := by
  have q := own_eqI h
  rwa [elem_f ev (Term.int_eval j) aa hj] at q
theorem own_elR {t u : Term} {a b : Addr} {cl : Cell} {j : Int32} (ev : t.eval args s none [] s = some (.ref a)) (aa : s.arrayAt? a = some cl) (hj : ¬ j < 0) (hu : u.eval args s none [] s = some (.ref b)) (h : (Jvm.Cond.eq (Term.elem t (.int j)) u).value args s none s [] = some true) : cl.slots[j.toNatClampNeg]? = some (.ref b) := by
  have q := own_eqR hu h
  rwa [elem_f ev (Term.int_eval j) aa hj] at q
end OwnStart
set_option maxRecDepth 65536 in
set_option maxHeartbeats 40000000 in
theorem comes_1 {Post : Tables → Env → Array Value → State → Outcome → State → Prop} (hpost : ∀ tb e args s v u, (limb_1_1.after args s (.returned v) u = true ∧ limb_1_2.after args s (.returned v) u = true ∧ True) → ReturnedEndW s (.returned v) u (Jvm.fieldLocs frame_1_writes args s ++ Jvm.arrayLocs frame_1_arrays args s ++ Jvm.staticLocs frame_1_statics s) 32 5248 → Post tb e args s (.returned v) u) :
    ArmFor flags0 classFile x code maxLocals ret World_1 tables_1 room_1 Calls_1 rest_1 Pre_1 Post := by
  intro l hfl _ _ p e ha hc hk s m args below hf hA hF happ hP
  obtain ⟨hcalls, hrest, hpre⟩ := hP
  obtain ⟨-, -, -, hnamed, -, -, -, hat⟩ := (Spec.applies_iff hf).mp happ
  obtain ⟨hg, hn⟩ := and_e (Cond.before_iff.mp (show (Jvm.Cond.and given_1 narrow_1).before args s = true from hpre))
  obtain ⟨h1, hg⟩ := and_e hg
  obtain ⟨g0, hg⟩ := and_e hg
  obtain ⟨g1, hg⟩ := and_e hg
  obtain ⟨g2, hg⟩ := and_e hg
  obtain ⟨g3, hg⟩ := and_e hg
  obtain ⟨g4, hg⟩ := and_e hg
  obtain ⟨w0, w1, w2, w3, w4, w5, rfl⟩ : ∃ w0 w1 w2 w3 w4 w5 : Value, args = #[w0, w1, w2, w3, w4, w5] := by
    have hs : args.size = 6 := by simpa [Cond.value, given_1] using h1
    obtain ⟨L⟩ := args
    match L, hs with
    | [w0, w1, w2, w3, w4, w5], _ => exact ⟨w0, w1, w2, w3, w4, w5, rfl⟩
  have hw := fun d (hd : d ∈ tables_1) => atoms_spec (ws := Jvm.Cond.code x code maxLocals ret :: tables_1) hat d (List.mem_cons_of_mem _ hd)
  obtain ⟨hsets, hown0⟩ := atoms_of _ (rest_1_c_eq ▸ (show rest_1_c.before _ s = true from hrest))
  have hfit : Fit s := fun {y c} hc i hi => by
    obtain ⟨ha, rfl⟩ := Array.getElem?_eq_some_iff.mp hc
    have q := List.all_eq_true.mp ((Array.all_eq_true_iff_forall_mem.mp hF) _ (Array.getElem_mem ha)) i (List.mem_range.mpr hi)
    simpa [Array.getElem?_eq_getElem hi] using q
  obtain ⟨i0, e0⟩ := is_v g0
  obtain rfl : w0 = (.int i0) := Option.some.inj e0
  obtain ⟨i1, e1⟩ := is_v g1
  obtain rfl : w1 = (.int i1) := Option.some.inj e1
  obtain ⟨i2, e2⟩ := is_v g2
  obtain rfl : w2 = (.int i2) := Option.some.inj e2
  obtain ⟨i3, e3⟩ := is_v g3
  obtain rfl : w3 = (.int i3) := Option.some.inj e3
  obtain ⟨i4, e4⟩ := is_v g4
  obtain rfl : w4 = (.int i4) := Option.some.inj e4
  obtain ⟨i5, e5⟩ := is_v hg
  obtain rfl : w5 = (.int i5) := Option.some.inj e5
  have n5 := not_v (Cond.before_iff.mp (hsets _ (List.mem_of_getElem? (i := 2) rfl)))
  obtain ⟨gc, e10⟩ := is_v (Cond.before_iff.mp (hsets _ (List.mem_of_getElem? (i := 1) rfl)))
  have SC : Sta s s.heap "java/lang/String" "COMPACT_STRINGS" "Z" (.int gc) := Sta.start e10 (Or.inl (hsets _ (List.mem_of_getElem? (i := 0) rfl)))
  have hcs : ¬ (gc = (0 : Int32)) := gotF (Cond.eq_ints e10 (Term.int_eval (0))) n5
  obtain ⟨gs, e14, hgs⟩ := isR_v (Cond.before_iff.mp (hsets _ (List.mem_of_getElem? (i := 8) rfl)))
  have SF : Sta s s.heap "jdk/internal/util/Preconditions" "SIOOBE_FORMATTER" "Ljava/util/function/BiFunction;" gs := Sta.start e14 (Or.inl (hsets _ (List.mem_of_getElem? (i := 7) rfl)))
  obtain ⟨p0, hn⟩ := and_e hn
  obtain ⟨p1, hn⟩ := and_e hn
  obtain ⟨p2, hn⟩ := and_e hn
  obtain ⟨p3, hn⟩ := and_e hn
  obtain ⟨p4, hn⟩ := and_e hn
  obtain ⟨p5, hn⟩ := and_e hn
  obtain ⟨p6, hn⟩ := and_e hn
  obtain ⟨p7, hn⟩ := and_e hn
  obtain ⟨p8, hn⟩ := and_e hn
  obtain ⟨kn, en⟩ := exa_v p0
  obtain ⟨kk, ek⟩ := exa_v p1
  obtain ⟨ks, es⟩ := exa_v p4
  obtain ⟨ke, ee⟩ := exa_v p6
  obtain ⟨ku, eu⟩ := exa_v p8
  have hini := hw _ (List.mem_of_getElem? (i := 6) rfl)
  have Skn := Sta.start en (Or.inr ⟨hini, hw _ (List.mem_of_getElem? (i := 7) rfl)⟩)
  have Skk := Sta.start ek (Or.inr ⟨hini, hw _ (List.mem_of_getElem? (i := 67) rfl)⟩)
  have Sks := Sta.start es (Or.inr ⟨hini, hw _ (List.mem_of_getElem? (i := 69) rfl)⟩)
  have Sku := Sta.start eu (Or.inr ⟨hini, hw _ (List.mem_of_getElem? (i := 143) rfl)⟩)
  have Ske := Sta.start ee (Or.inr ⟨hini, hw _ (List.mem_of_getElem? (i := 85) rfl)⟩)
  have hEL : EW s _ consts_1 := (EW.cons (hw _ (List.mem_of_getElem? (i := 75) rfl)) (by decide) (EW.cons (hw _ (List.mem_of_getElem? (i := 83) rfl)) (by decide) (EW.cons (hw _ (List.mem_of_getElem? (i := 120) rfl)) (by decide) (EW.cons (hw _ (List.mem_of_getElem? (i := 144) rfl)) (by decide) (EW.cons (hw _ (List.mem_of_getElem? (i := 25) rfl)) (by decide) EW.nil)))))
  have CH0 := CHv.start hEL (fun p hp => hcalls.1 p hp) (hsets _ (List.mem_of_getElem? (i := 2) rfl)) (hw _ (List.mem_of_getElem? (i := 26) rfl)) (hw _ (List.mem_of_getElem? (i := 12) rfl))
  obtain ⟨n, o, h1, h2, h3, _, L, rfl, ⟨rfl, N⟩, -, hq⟩ := rm_law l s _ hw tables_1 hEL i0 i1 i2 i3 i4 i5 gc gs kn kk ku ks ke s.heap s.heap.size (Nat.le_refl _) Skn Skk Sku Sks Ske SF hgs SC hcs (Old.start s) p e ha hc hk s m _ below hf ((Spec.applies_iff_loose hf).mp happ).1 ⟨rfl, State.Warmed39.refl s, rfl, CH0⟩ trivial
  refine ⟨n, _, h1, h2, h3, hpost _ _ _ _ _ _ ⟨Cond.after_iff.mpr rfl, Cond.after_iff.mpr (eq_i res_at (Term.int_eval (1)) rfl), trivial⟩ ⟨hq.1, hq.2.1, hq.2.2.1, (hq.2.2.2.sift fun y hy => Or.inr (N y hy)).mono (by decide) (by decide)⟩⟩
theorem main_1_1 : Claimed_1_1 := comes_1 fun _ _ _ _ _ _ h hF => ⟨h.1, hF⟩
theorem main_1_2 : Claimed_1_2 := comes_1 fun _ _ _ _ _ _ h hF => ⟨h.2.1, hF⟩
end Jvm.Pilot.@@N@@
namespace Jvm.Pilot.@@N@@
open Jvm Jvm.ClassFile Sem Op Lib Jvm.Free Jvm.Stand Jvm.Pilot.@@N@@.Jvm.D
/-! MADE BY PROGRAM (witnessworld.py) out of the Statement's table words and the real class files: 24 classes; the members and pool entries that the words name. The judged class is class 1, her method 1. -/
namespace start1
open Jvm.ClassFile
def u (s : String) : CpInfo := .utf8 (stringToUtf16 s)
/-- a pool by its gaps: so many unusable entries, then the entry; so many at the end -/
def gap : Nat → List CpInfo → List CpInfo
  | 0, r => r
  | n + 1, r => .unusable :: gap n r
def poolList (es : List (Nat × CpInfo)) (last : Nat) : List CpInfo := es.foldr (fun e r => gap e.1 (e.2 :: r)) (gap last [])
def pool (es : List (Nat × CpInfo)) (last : Nat) : Array CpInfo := ⟨poolList es last⟩
def fileOf (pool : Array CpInfo) (this : Nat) (attrs : Array Attribute := #[]) (ms : Array MethodInfo := #[]) (fl : Nat := 33) (sup : Nat := 0) (ifs : Array Nat := #[]) (fds : Array FieldInfo := #[]) : ClassFile where
  minorVersion := 0
  majorVersion := 65
  constantPool := pool
  accessFlags := fl
  thisClass := this
  superClass := sup
  interfaces := ifs
  fields := fds
  methods := ms
  attributes := attrs
def plain (name : String) (sup : Option ClassId) : Class where
  name := name
  kind := .ordinary
  loader := none
  accessFlags := 33
  super := sup
  interfaces := #[]
  cf := none
  fields := #[]
  methods := #[]
  instanceTypes := #[]
  staticTypes := #[]
  resolved := #[]
  callSites := []
  init := .initialized
  statics := none
  mirror := none

def pool0 : Array CpInfo := pool [(5, u "<init>"), (0, u "()V"), (1, .class_ 10), (1, u "java/lang/Object")] 113

def k0c0 : Code := { maxStack := 0, maxLocals := 1, code := object_method_1_code, exceptionTable := #[], attributes := #[] }
def k0m0 : Method := { name := "<init>", desc := "()V", sig := { parameters := [], returnType := none }, accessFlags := 1, code := some k0c0 }
/-- java/lang/Object -/
def k0 : Class := { plain "java/lang/Object" none with
  accessFlags := 33
  interfaces := #[]
  cf := some (fileOf pool0 8 #[] #[{ accessFlags := 1, nameIndex := 5, descriptorIndex := 6, attributes := #[] }] 33 0 #[] #[])
  fields := #[]
  methods := #[k0m0]
  instanceTypes := #[]
  staticTypes := #[]
  resolved := Array.replicate 124 none
  statics := none }

def pool1 : Array CpInfo := pool [(2, .class_ 4), (1, u "java/lang/Object"), (0, u "<init>"), (0, u "()V"), (0, .integer 2147483647), (0, .methodref 9 10), (0, .class_ 11), (0, .nameAndType 12 13), (0, u "com/example/obra/obra/TypeScopeIsBitwidthPinLaw"), (0, u "kindOf"), (0, u "(I)Lcom/example/obra/obra/Token$Kind;"), (0, .methodref 9 15), (0, .nameAndType 16 17), (0, u "textOf"), (0, u "(II)Ljava/lang/String;"), (0, .class_ 19), (0, u "com/example/obra/obra/Model$TypeScope"), (0, .class_ 21), (0, u "com/example/obra/obra/Token"), (0, .methodref 20 23), (0, .nameAndType 5 24), (0, u "(Lcom/example/obra/obra/Token$Kind;Ljava/lang/String;II)V"), (0, .methodref 18 26), (0, .nameAndType 5 27), (0, u "(ZILcom/example/obra/obra/Token;)V"), (0, .fieldref 29 30), (0, .class_ 31), (0, .nameAndType 32 33), (0, u "com/example/obra/obra/Token$Kind"), (0, u "KEYWORD"), (0, u "Lcom/example/obra/obra/Token$Kind;"), (0, .fieldref 29 35), (0, .nameAndType 36 33), (0, u "SYMBOL"), (0, .methodref 9 38), (0, .nameAndType 39 40), (0, u "isIntName"), (0, u "(Ljava/lang/String;)Z"), (0, .methodref 18 42), (0, .nameAndType 43 44), (0, u "isBitwidth"), (0, u "()Z"), (0, .fieldref 29 46), (0, .nameAndType 47 33), (0, u "NAME"), (0, .fieldref 29 49), (0, .nameAndType 50 33), (0, u "NUMBER"), (0, .fieldref 29 52), (0, .nameAndType 53 33), (0, u "END"), (0, .string 55), (0, u "Int"), (0, .string 57), (0, u "int"), (0, .class_ 59), (0, u "java/lang/String"), (0, .methodref 58 61), (0, .nameAndType 5 62), (0, u "([C)V"), (0, .methodref 58 64), (0, .nameAndType 65 66), (0, u "length"), (0, u "()I"), (0, .methodref 58 68), (0, .nameAndType 69 70), (0, u "charAt"), (0, u "(I)C"), (2, u "law"), (0, u "(IIIIII)Z")] 8

def k1m0 : Method := { name := "<init>", desc := "()V", sig := { parameters := [], returnType := none }, accessFlags := 1, code := none }
def k1c1 : Code := { maxStack := 10, maxLocals := 12, code := code, exceptionTable := #[], attributes := #[] }
def k1m1 : Method := { name := "law", desc := "(IIIIII)Z", sig := { parameters := [.int, .int, .int, .int, .int, .int], returnType := some .boolean }, accessFlags := 9, code := some k1c1 }
def k1c2 : Code := { maxStack := 2, maxLocals := 1, code := method_3_code, exceptionTable := #[], attributes := #[] }
def k1m2 : Method := { name := "kindOf", desc := "(I)Lcom/example/obra/obra/Token$Kind;", sig := { parameters := [.int], returnType := some (.object "com/example/obra/obra/Token$Kind") }, accessFlags := 10, code := some k1c2 }
def k1c3 : Code := { maxStack := 6, maxLocals := 8, code := method_4_code, exceptionTable := #[], attributes := #[] }
def k1m3 : Method := { name := "textOf", desc := "(II)Ljava/lang/String;", sig := { parameters := [.int, .int], returnType := some (.object "java/lang/String") }, accessFlags := 10, code := some k1c3 }
def k1c4 : Code := { maxStack := 2, maxLocals := 2, code := method_5_code, exceptionTable := #[], attributes := #[] }
def k1m4 : Method := { name := "isIntName", desc := "(Ljava/lang/String;)Z", sig := { parameters := [(.object "java/lang/String")], returnType := some .boolean }, accessFlags := 10, code := some k1c4 }
/-- com/example/obra/obra/TypeScopeIsBitwidthPinLaw -/
def k1 : Class := { plain "com/example/obra/obra/TypeScopeIsBitwidthPinLaw" (some 0) with
  accessFlags := 49
  interfaces := #[]
  cf := some (fileOf pool1 9 #[] #[{ accessFlags := 1, nameIndex := 5, descriptorIndex := 6, attributes := #[] }, { accessFlags := 9, nameIndex := 73, descriptorIndex := 74, attributes := #[] }, { accessFlags := 10, nameIndex := 12, descriptorIndex := 13, attributes := #[] }, { accessFlags := 10, nameIndex := 16, descriptorIndex := 17, attributes := #[] }, { accessFlags := 10, nameIndex := 39, descriptorIndex := 40, attributes := #[] }] 49 2 #[] #[])
  fields := #[]
  methods := #[k1m0, k1m1, k1m2, k1m3, k1m4]
  instanceTypes := #[]
  staticTypes := #[]
  resolved := Array.replicate 83 none
  statics := none }

def pool2 : Array CpInfo := pool [(1, .class_ 2), (0, u "java/lang/constant/Constable"), (0, .class_ 4), (0, u "java/lang/Object")] 6

/-- java/lang/constant/Constable -/
def k2 : Class := { plain "java/lang/constant/Constable" (some 0) with
  accessFlags := 1537
  interfaces := #[]
  cf := some (fileOf pool2 1 #[] #[] 1537 3 #[] #[])
  fields := #[]
  methods := #[]
  instanceTypes := #[]
  staticTypes := #[]
  resolved := Array.replicate 11 none
  statics := none }

def pool3 : Array CpInfo := pool [(1, .class_ 2), (0, u "java/lang/Comparable"), (0, .class_ 4), (0, u "java/lang/Object")] 7

/-- java/lang/Comparable -/
def k3 : Class := { plain "java/lang/Comparable" (some 0) with
  accessFlags := 1537
  interfaces := #[]
  cf := some (fileOf pool3 1 #[] #[] 1537 3 #[] #[])
  fields := #[]
  methods := #[]
  instanceTypes := #[]
  staticTypes := #[]
  resolved := Array.replicate 12 none
  statics := none }

def pool4 : Array CpInfo := pool [(1, .class_ 2), (0, u "java/io/Serializable"), (0, .class_ 4), (0, u "java/lang/Object")] 2

/-- java/io/Serializable -/
def k4 : Class := { plain "java/io/Serializable" (some 0) with
  accessFlags := 1537
  interfaces := #[]
  cf := some (fileOf pool4 1 #[] #[] 1537 3 #[] #[])
  fields := #[]
  methods := #[]
  instanceTypes := #[]
  staticTypes := #[]
  resolved := Array.replicate 7 none
  statics := none }

def pool5 : Array CpInfo := pool [(2, .class_ 4), (1, u "java/lang/Enum"), (0, u "name"), (0, u "Ljava/lang/String;"), (2, u "ordinal"), (0, u "I"), (1, .class_ 14), (1, u "java/lang/Object"), (4, u "hash"), (86, .class_ 108), (1, u "java/lang/Enum$EnumDesc"), (2, .class_ 112), (0, u "java/lang/constant/Constable"), (0, .class_ 114), (0, u "java/lang/Comparable"), (0, .class_ 116), (0, u "java/io/Serializable")] 87

/-- java/lang/Enum -/
def k5 : Class := { plain "java/lang/Enum" (some 0) with
  accessFlags := 1057
  interfaces := #[2, 3, 4]
  cf := some (fileOf pool5 2 #[.nestMembers #[106]] #[] 1057 12 #[111, 113, 115] #[{ accessFlags := 18, nameIndex := 5, descriptorIndex := 6, attributes := #[] }, { accessFlags := 18, nameIndex := 9, descriptorIndex := 10, attributes := #[] }, { accessFlags := 2, nameIndex := 19, descriptorIndex := 10, attributes := #[] }])
  fields := #[{ name := "name", type := (.object "java/lang/String"), accessFlags := 18, slot := 0, constantValue := 0 }, { name := "ordinal", type := .int, accessFlags := 18, slot := 1, constantValue := 0 }, { name := "hash", type := .int, accessFlags := 2, slot := 2, constantValue := 0 }]
  methods := #[]
  instanceTypes := #[(.object "java/lang/String"), .int, .int]
  staticTypes := #[]
  resolved := Array.replicate 204 none
  statics := none }

def pool6 : Array CpInfo := pool [(1, .class_ 2), (0, u "com/example/obra/obra/Token$Kind"), (2, u "NAME"), (0, u "Lcom/example/obra/obra/Token$Kind;"), (2, u "KEYWORD"), (2, u "NUMBER"), (2, u "SYMBOL"), (2, u "END"), (2, u "$VALUES"), (0, u "[Lcom/example/obra/obra/Token$Kind;"), (6, .class_ 31), (1, u "java/lang/Enum"), (28, .class_ 61), (0, u "com/example/obra/obra/Token")] 2

/-- com/example/obra/obra/Token$Kind -/
def k6 : Class := { plain "com/example/obra/obra/Token$Kind" (some 5) with
  accessFlags := 16432
  interfaces := #[]
  cf := some (fileOf pool6 1 #[.nestHost 60] #[] 16432 29 #[] #[{ accessFlags := 16409, nameIndex := 5, descriptorIndex := 6, attributes := #[] }, { accessFlags := 16409, nameIndex := 9, descriptorIndex := 6, attributes := #[] }, { accessFlags := 16409, nameIndex := 12, descriptorIndex := 6, attributes := #[] }, { accessFlags := 16409, nameIndex := 15, descriptorIndex := 6, attributes := #[] }, { accessFlags := 16409, nameIndex := 18, descriptorIndex := 6, attributes := #[] }, { accessFlags := 4122, nameIndex := 21, descriptorIndex := 22, attributes := #[] }])
  fields := #[{ name := "NAME", type := (.object "com/example/obra/obra/Token$Kind"), accessFlags := 16409, slot := 0, constantValue := 0 }, { name := "KEYWORD", type := (.object "com/example/obra/obra/Token$Kind"), accessFlags := 16409, slot := 1, constantValue := 0 }, { name := "NUMBER", type := (.object "com/example/obra/obra/Token$Kind"), accessFlags := 16409, slot := 2, constantValue := 0 }, { name := "SYMBOL", type := (.object "com/example/obra/obra/Token$Kind"), accessFlags := 16409, slot := 3, constantValue := 0 }, { name := "END", type := (.object "com/example/obra/obra/Token$Kind"), accessFlags := 16409, slot := 4, constantValue := 0 }, { name := "$VALUES", type := (.array (.object "com/example/obra/obra/Token$Kind")), accessFlags := 4122, slot := 5, constantValue := 0 }]
  methods := #[]
  instanceTypes := #[(.object "java/lang/String"), .int, .int]
  staticTypes := #[(.object "com/example/obra/obra/Token$Kind"), (.object "com/example/obra/obra/Token$Kind"), (.object "com/example/obra/obra/Token$Kind"), (.object "com/example/obra/obra/Token$Kind"), (.object "com/example/obra/obra/Token$Kind"), (.array (.object "com/example/obra/obra/Token$Kind"))]
  resolved := Array.replicate 64 none
  statics := some 0 }

def pool7 : Array CpInfo := pool [(2, .class_ 4), (1, u "java/lang/CharSequence"), (42, .class_ 48), (0, u "java/lang/CharSequence$1CodePointIterator"), (10, .class_ 60), (0, u "java/lang/CharSequence$1CharIterator"), (5, .class_ 67), (0, u "java/lang/Object")] 63

/-- java/lang/CharSequence -/
def k7 : Class := { plain "java/lang/CharSequence" (some 0) with
  accessFlags := 1537
  interfaces := #[]
  cf := some (fileOf pool7 2 #[.nestMembers #[47, 59]] #[] 1537 66 #[] #[])
  fields := #[]
  methods := #[]
  instanceTypes := #[]
  staticTypes := #[]
  resolved := Array.replicate 131 none
  statics := none }

def pool8 : Array CpInfo := pool [(1, .class_ 2), (0, u "java/lang/constant/ConstantDesc"), (0, .class_ 4), (0, u "java/lang/Object")] 32

/-- java/lang/constant/ConstantDesc -/
def k8 : Class := { plain "java/lang/constant/ConstantDesc" (some 0) with
  accessFlags := 1537
  interfaces := #[]
  cf := some (fileOf pool8 1 #[] #[] 1537 3 #[] #[])
  fields := #[]
  methods := #[]
  instanceTypes := #[]
  staticTypes := #[]
  resolved := Array.replicate 37 none
  statics := none }

def pool9 : Array CpInfo := pool [(1, .methodref 2 3), (0, .class_ 4), (0, .nameAndType 5 6), (0, u "java/lang/Object"), (0, u "<init>"), (0, u "()V"), (0, .string 8), (0, u ""), (0, .fieldref 10 11), (0, .class_ 12), (0, .nameAndType 13 14), (0, u "java/lang/String"), (0, u "value"), (0, u "[B"), (0, .fieldref 10 16), (0, .nameAndType 17 18), (0, u "coder"), (0, u "B"), (2, u "hash"), (0, u "I"), (2, u "hashIsZero"), (0, u "Z"), (0, .methodref 10 28), (0, .nameAndType 5 29), (0, u "([CIILjava/lang/Void;)V"), (8, .fieldref 10 39), (0, .nameAndType 40 26), (0, u "COMPACT_STRINGS"), (1, .class_ 44), (1, u "java/lang/StringUTF16"), (0, u "compress"), (1, .methodref 42 48), (0, .nameAndType 49 50), (0, u "coderFromArrayLen"), (0, u "([BI)B"), (56, .class_ 109), (1, u "java/lang/StringLatin1"), (32, u "()Z"), (34, .methodref 42 178), (0, .nameAndType 45 179), (0, u "([CII)[B"), (154, u "()I"), (0, .methodref 10 336), (0, .nameAndType 17 337), (0, u "()B"), (25, u "([BI)C"), (27, u "(II)V"), (35, u "(I)C"), (64, .methodref 10 493), (0, .nameAndType 494 142), (0, u "isLatin1"), (0, .methodref 107 496), (0, .nameAndType 497 363), (0, u "charAt"), (3, u "checkIndex"), (5, u "length"), (33, .methodref 107 542), (0, .nameAndType 543 544), (0, u "equals"), (0, u "([B[B)Z"), (28, u "(Ljava/lang/Object;)Z"), (1, .class_ 576), (0, u "java/lang/CharSequence"), (22, u "CASE_INSENSITIVE_ORDER"), (0, u "Ljava/util/Comparator;"), (409, u "([C)V"), (42, .fieldref 1054 1055), (0, .class_ 1056), (0, .nameAndType 1057 1058), (0, u "jdk/internal/util/Preconditions"), (0, u "SIOOBE_FORMATTER"), (0, u "Ljava/util/function/BiFunction;"), (0, .methodref 1054 1060), (0, .nameAndType 501 1061), (0, u "(IILjava/util/function/BiFunction;)I"), (39, u "serialPersistentFields"), (0, u "[Ljava/io/ObjectStreamField;"), (0, .class_ 1104), (0, u "java/lang/String$CaseInsensitiveComparator"), (1, .class_ 1107), (0, u "java/io/Serializable"), (0, .class_ 1109), (0, u "java/lang/Comparable"), (0, .class_ 1111), (0, u "java/lang/constant/Constable"), (0, .class_ 1113), (0, u "java/lang/constant/ConstantDesc"), (2, u "serialVersionUID"), (0, u "J"), (3, u "REPL"), (0, u "C"), (2, u "LATIN1"), (1, u "UTF16")] 323

def k9m0 : Method := { name := "<init>", desc := "()V", sig := { parameters := [], returnType := none }, accessFlags := 1, code := none }
def k9c1 : Code := { maxStack := 5, maxLocals := 2, code := jdk_42_method_3_code, exceptionTable := #[], attributes := #[] }
def k9m1 : Method := { name := "<init>", desc := "([C)V", sig := { parameters := [(.array .char)], returnType := none }, accessFlags := 1, code := some k9c1 }
def k9c2 : Code := { maxStack := 2, maxLocals := 1, code := jdk_42_method_54_code, exceptionTable := #[], attributes := #[] }
def k9m2 : Method := { name := "length", desc := "()I", sig := { parameters := [], returnType := some .int }, accessFlags := 1, code := some k9c2 }
def k9c3 : Code := { maxStack := 2, maxLocals := 2, code := jdk_42_method_56_code, exceptionTable := #[], attributes := #[] }
def k9m3 : Method := { name := "charAt", desc := "(I)C", sig := { parameters := [.int], returnType := some .char }, accessFlags := 1, code := some k9c3 }
def k9c4 : Code := { maxStack := 2, maxLocals := 3, code := jdk_42_method_66_code, exceptionTable := #[], attributes := #[] }
def k9m4 : Method := { name := "equals", desc := "(Ljava/lang/Object;)Z", sig := { parameters := [(.object "java/lang/Object")], returnType := some .boolean }, accessFlags := 1, code := some k9c4 }
def k9c5 : Code := { maxStack := 4, maxLocals := 6, code := jdk_42_method_149_code, exceptionTable := #[], attributes := #[] }
def k9m5 : Method := { name := "<init>", desc := "([CIILjava/lang/Void;)V", sig := { parameters := [(.array .char), .int, .int, (.object "java/lang/Void")], returnType := none }, accessFlags := 2, code := some k9c5 }
def k9c6 : Code := { maxStack := 1, maxLocals := 1, code := jdk_42_method_152_code, exceptionTable := #[], attributes := #[] }
def k9m6 : Method := { name := "coder", desc := "()B", sig := { parameters := [], returnType := some .byte }, accessFlags := 0, code := some k9c6 }
def k9c7 : Code := { maxStack := 1, maxLocals := 1, code := jdk_42_method_154_code, exceptionTable := #[], attributes := #[] }
def k9m7 : Method := { name := "isLatin1", desc := "()Z", sig := { parameters := [], returnType := some .boolean }, accessFlags := 0, code := some k9c7 }
def k9c8 : Code := { maxStack := 3, maxLocals := 2, code := jdk_42_method_155_code, exceptionTable := #[], attributes := #[] }
def k9m8 : Method := { name := "checkIndex", desc := "(II)V", sig := { parameters := [.int, .int], returnType := none }, accessFlags := 8, code := some k9c8 }
/-- java/lang/String -/
def k9 : Class := { plain "java/lang/String" (some 0) with
  accessFlags := 49
  interfaces := #[4, 3, 7, 2, 8]
  cf := some (fileOf pool9 10 #[.nestMembers #[1103]] #[{ accessFlags := 1, nameIndex := 5, descriptorIndex := 6, attributes := #[] }, { accessFlags := 1, nameIndex := 5, descriptorIndex := 1010, attributes := #[] }, { accessFlags := 1, nameIndex := 507, descriptorIndex := 334, attributes := #[] }, { accessFlags := 1, nameIndex := 497, descriptorIndex := 427, attributes := #[] }, { accessFlags := 1, nameIndex := 543, descriptorIndex := 573, attributes := #[] }, { accessFlags := 2, nameIndex := 5, descriptorIndex := 29, attributes := #[] }, { accessFlags := 0, nameIndex := 17, descriptorIndex := 337, attributes := #[] }, { accessFlags := 0, nameIndex := 494, descriptorIndex := 142, attributes := #[] }, { accessFlags := 8, nameIndex := 501, descriptorIndex := 391, attributes := #[] }] 49 2 #[1106, 1108, 575, 1110, 1112] #[{ accessFlags := 18, nameIndex := 13, descriptorIndex := 14, attributes := #[] }, { accessFlags := 18, nameIndex := 17, descriptorIndex := 18, attributes := #[] }, { accessFlags := 2, nameIndex := 21, descriptorIndex := 22, attributes := #[] }, { accessFlags := 2, nameIndex := 25, descriptorIndex := 26, attributes := #[] }, { accessFlags := 26, nameIndex := 1116, descriptorIndex := 1117, attributes := #[] }, { accessFlags := 24, nameIndex := 40, descriptorIndex := 26, attributes := #[] }, { accessFlags := 26, nameIndex := 1101, descriptorIndex := 1102, attributes := #[] }, { accessFlags := 26, nameIndex := 1121, descriptorIndex := 1122, attributes := #[] }, { accessFlags := 25, nameIndex := 599, descriptorIndex := 600, attributes := #[] }, { accessFlags := 24, nameIndex := 1125, descriptorIndex := 18, attributes := #[] }, { accessFlags := 24, nameIndex := 1127, descriptorIndex := 18, attributes := #[] }])
  fields := #[{ name := "value", type := (.array .byte), accessFlags := 18, slot := 0, constantValue := 0 }, { name := "coder", type := .byte, accessFlags := 18, slot := 1, constantValue := 0 }, { name := "hash", type := .int, accessFlags := 2, slot := 2, constantValue := 0 }, { name := "hashIsZero", type := .boolean, accessFlags := 2, slot := 3, constantValue := 0 }, { name := "serialVersionUID", type := .long, accessFlags := 26, slot := 0, constantValue := 0 }, { name := "COMPACT_STRINGS", type := .boolean, accessFlags := 24, slot := 1, constantValue := 0 }, { name := "serialPersistentFields", type := (.array (.object "java/io/ObjectStreamField")), accessFlags := 26, slot := 2, constantValue := 0 }, { name := "REPL", type := .char, accessFlags := 26, slot := 3, constantValue := 0 }, { name := "CASE_INSENSITIVE_ORDER", type := (.object "java/util/Comparator"), accessFlags := 25, slot := 4, constantValue := 0 }, { name := "LATIN1", type := .byte, accessFlags := 24, slot := 5, constantValue := 0 }, { name := "UTF16", type := .byte, accessFlags := 24, slot := 6, constantValue := 0 }]
  methods := #[k9m0, k9m1, k9m2, k9m3, k9m4, k9m5, k9m6, k9m7, k9m8]
  instanceTypes := #[(.array .byte), .byte, .int, .boolean]
  staticTypes := #[.long, .boolean, (.array (.object "java/io/ObjectStreamField")), .char, (.object "java/util/Comparator"), .byte, .byte]
  resolved := Array.replicate 1451 none
  statics := some 1 }

def pool10 : Array CpInfo := pool [(1, .methodref 2 3), (0, .class_ 4), (0, .nameAndType 5 6), (0, u "java/lang/Object"), (0, u "<init>"), (0, u "()V"), (0, .class_ 8), (0, u "java/lang/Record")] 13

def k10c0 : Code := { maxStack := 1, maxLocals := 1, code := jdk_30_method_1_code, exceptionTable := #[], attributes := #[] }
def k10m0 : Method := { name := "<init>", desc := "()V", sig := { parameters := [], returnType := none }, accessFlags := 4, code := some k10c0 }
/-- java/lang/Record -/
def k10 : Class := { plain "java/lang/Record" (some 0) with
  accessFlags := 1057
  interfaces := #[]
  cf := some (fileOf pool10 7 #[] #[{ accessFlags := 4, nameIndex := 5, descriptorIndex := 6, attributes := #[] }] 1057 2 #[] #[])
  fields := #[]
  methods := #[k10m0]
  instanceTypes := #[]
  staticTypes := #[]
  resolved := Array.replicate 22 none
  statics := none }

def pool11 : Array CpInfo := pool [(1, .methodref 2 3), (0, .class_ 4), (0, .nameAndType 5 6), (0, u "java/lang/Record"), (0, u "<init>"), (0, u "()V"), (0, .fieldref 8 9), (0, .class_ 10), (0, .nameAndType 11 12), (0, u "com/example/obra/obra/Model$TypeScope"), (0, u "exactly"), (0, u "Z"), (0, .fieldref 8 14), (0, .nameAndType 15 16), (0, u "count"), (0, u "I"), (0, .fieldref 8 18), (0, .nameAndType 19 20), (0, u "sig"), (0, u "Lcom/example/obra/obra/Token;"), (0, .string 22), (0, u "Int"), (0, .methodref 24 25), (0, .class_ 26), (0, .nameAndType 27 28), (0, u "com/example/obra/obra/Token"), (0, u "is"), (0, u "(Ljava/lang/String;)Z"), (0, .string 30), (0, u "int"), (12, u "(ZILcom/example/obra/obra/Token;)V"), (3, u "isBitwidth"), (0, u "()Z"), (8, .class_ 58), (0, u "com/example/obra/obra/Model")] 21

def k11c0 : Code := { maxStack := 2, maxLocals := 4, code := prog_55_method_1_code, exceptionTable := #[], attributes := #[] }
def k11m0 : Method := { name := "<init>", desc := "(ZILcom/example/obra/obra/Token;)V", sig := { parameters := [.boolean, .int, (.object "com/example/obra/obra/Token")], returnType := none }, accessFlags := 0, code := some k11c0 }
def k11c1 : Code := { maxStack := 2, maxLocals := 1, code := prog_55_method_2_code, exceptionTable := #[], attributes := #[] }
def k11m1 : Method := { name := "isBitwidth", desc := "()Z", sig := { parameters := [], returnType := some .boolean }, accessFlags := 0, code := some k11c1 }
/-- com/example/obra/obra/Model$TypeScope -/
def k11 : Class := { plain "com/example/obra/obra/Model$TypeScope" (some 10) with
  accessFlags := 48
  interfaces := #[]
  cf := some (fileOf pool11 8 #[.nestHost 57] #[{ accessFlags := 0, nameIndex := 5, descriptorIndex := 43, attributes := #[] }, { accessFlags := 0, nameIndex := 47, descriptorIndex := 48, attributes := #[] }] 48 2 #[] #[{ accessFlags := 18, nameIndex := 11, descriptorIndex := 12, attributes := #[] }, { accessFlags := 18, nameIndex := 15, descriptorIndex := 16, attributes := #[] }, { accessFlags := 18, nameIndex := 19, descriptorIndex := 20, attributes := #[] }])
  fields := #[{ name := "exactly", type := .boolean, accessFlags := 18, slot := 0, constantValue := 0 }, { name := "count", type := .int, accessFlags := 18, slot := 1, constantValue := 0 }, { name := "sig", type := (.object "com/example/obra/obra/Token"), accessFlags := 18, slot := 2, constantValue := 0 }]
  methods := #[k11m0, k11m1]
  instanceTypes := #[.boolean, .int, (.object "com/example/obra/obra/Token")]
  staticTypes := #[]
  resolved := Array.replicate 80 none
  statics := none }

def pool12 : Array CpInfo := pool [(1, .methodref 2 3), (0, .class_ 4), (0, .nameAndType 5 6), (0, u "java/lang/Record"), (0, u "<init>"), (0, u "()V"), (0, .fieldref 8 9), (0, .class_ 10), (0, .nameAndType 11 12), (0, u "com/example/obra/obra/Token"), (0, u "kind"), (0, u "Lcom/example/obra/obra/Token$Kind;"), (0, .fieldref 8 14), (0, .nameAndType 15 16), (0, u "text"), (0, u "Ljava/lang/String;"), (0, .fieldref 8 18), (0, .nameAndType 19 20), (0, u "line"), (0, u "I"), (0, .fieldref 8 22), (0, .nameAndType 23 20), (0, u "column"), (0, .fieldref 25 26), (0, .class_ 27), (0, .nameAndType 28 12), (0, u "com/example/obra/obra/Token$Kind"), (0, u "KEYWORD"), (0, .fieldref 25 30), (0, .nameAndType 31 12), (0, u "SYMBOL"), (0, .methodref 33 34), (0, .class_ 35), (0, .nameAndType 36 37), (0, u "java/lang/String"), (0, u "equals"), (0, u "(Ljava/lang/Object;)Z"), (20, u "(Lcom/example/obra/obra/Token$Kind;Ljava/lang/String;II)V"), (3, u "is"), (0, u "(Ljava/lang/String;)Z")] 38

def k12c0 : Code := { maxStack := 2, maxLocals := 5, code := prog_84_method_1_code, exceptionTable := #[], attributes := #[] }
def k12m0 : Method := { name := "<init>", desc := "(Lcom/example/obra/obra/Token$Kind;Ljava/lang/String;II)V", sig := { parameters := [(.object "com/example/obra/obra/Token$Kind"), (.object "java/lang/String"), .int, .int], returnType := none }, accessFlags := 0, code := some k12c0 }
def k12c1 : Code := { maxStack := 2, maxLocals := 2, code := prog_84_method_2_code, exceptionTable := #[], attributes := #[] }
def k12m1 : Method := { name := "is", desc := "(Ljava/lang/String;)Z", sig := { parameters := [(.object "java/lang/String")], returnType := some .boolean }, accessFlags := 0, code := some k12c1 }
/-- com/example/obra/obra/Token -/
def k12 : Class := { plain "com/example/obra/obra/Token" (some 10) with
  accessFlags := 48
  interfaces := #[]
  cf := some (fileOf pool12 8 #[.nestMembers #[25]] #[{ accessFlags := 0, nameIndex := 5, descriptorIndex := 58, attributes := #[] }, { accessFlags := 0, nameIndex := 62, descriptorIndex := 63, attributes := #[] }] 48 2 #[] #[{ accessFlags := 18, nameIndex := 11, descriptorIndex := 12, attributes := #[] }, { accessFlags := 18, nameIndex := 15, descriptorIndex := 16, attributes := #[] }, { accessFlags := 18, nameIndex := 19, descriptorIndex := 20, attributes := #[] }, { accessFlags := 18, nameIndex := 23, descriptorIndex := 20, attributes := #[] }])
  fields := #[{ name := "kind", type := (.object "com/example/obra/obra/Token$Kind"), accessFlags := 18, slot := 0, constantValue := 0 }, { name := "text", type := (.object "java/lang/String"), accessFlags := 18, slot := 1, constantValue := 0 }, { name := "line", type := .int, accessFlags := 18, slot := 2, constantValue := 0 }, { name := "column", type := .int, accessFlags := 18, slot := 3, constantValue := 0 }]
  methods := #[k12m0, k12m1]
  instanceTypes := #[(.object "com/example/obra/obra/Token$Kind"), (.object "java/lang/String"), .int, .int]
  staticTypes := #[]
  resolved := Array.replicate 102 none
  statics := none }

def pool13 : Array CpInfo := pool [(6, .class_ 8), (1, u "java/lang/Object"), (0, u "<init>"), (0, u "()V"), (1, .class_ 14), (1, u "java/lang/StringUTF16"), (31, u "$assertionsDisabled"), (0, u "Z"), (13, u "HI_BYTE_SHIFT"), (0, u "I"), (2, u "LO_BYTE_SHIFT"), (49, .methodref 12 116), (0, .nameAndType 117 118), (0, u "compress"), (0, u "([CI[BII)I"), (3, u "([CII)[B"), (138, u "coderFromArrayLen"), (0, u "([BI)B"), (106, .class_ 371), (1, u "java/lang/StringUTF16$LinesSpliterator"), (58, u "MAX_LENGTH"), (196, .class_ 628), (0, u "java/lang/StringUTF16$CodePointsSpliterator"), (0, .class_ 630), (0, u "java/lang/StringUTF16$CharsSpliterator")] 4

def k13m0 : Method := { name := "<init>", desc := "()V", sig := { parameters := [], returnType := none }, accessFlags := 0, code := none }
def k13c1 : Code := { maxStack := 2, maxLocals := 2, code := jdk_52_method_15_code, exceptionTable := #[], attributes := #[] }
def k13m1 : Method := { name := "coderFromArrayLen", desc := "([BI)B", sig := { parameters := [(.array .byte), .int], returnType := some .byte }, accessFlags := 8, code := some k13c1 }
def k13c2 : Code := { maxStack := 5, maxLocals := 6, code := jdk_52_method_16_code, exceptionTable := #[], attributes := #[] }
def k13m2 : Method := { name := "compress", desc := "([CII)[B", sig := { parameters := [(.array .char), .int, .int], returnType := some (.array .byte) }, accessFlags := 9, code := some k13c2 }
def k13c3 : Code := { maxStack := 3, maxLocals := 7, code := jdk_52_method_21_code, exceptionTable := #[], attributes := #[] }
def k13m3 : Method := { name := "compress", desc := "([CI[BII)I", sig := { parameters := [(.array .char), .int, (.array .byte), .int, .int], returnType := some .int }, accessFlags := 9, code := some k13c3 }
/-- java/lang/StringUTF16 -/
def k13 : Class := { plain "java/lang/StringUTF16" (some 0) with
  accessFlags := 48
  interfaces := #[]
  cf := some (fileOf pool13 12 #[.nestMembers #[627, 629, 369]] #[{ accessFlags := 0, nameIndex := 9, descriptorIndex := 10, attributes := #[] }, { accessFlags := 8, nameIndex := 261, descriptorIndex := 262, attributes := #[] }, { accessFlags := 9, nameIndex := 117, descriptorIndex := 122, attributes := #[] }, { accessFlags := 9, nameIndex := 117, descriptorIndex := 118, attributes := #[] }] 48 6 #[] #[{ accessFlags := 26, nameIndex := 61, descriptorIndex := 62, attributes := #[] }, { accessFlags := 26, nameIndex := 65, descriptorIndex := 62, attributes := #[] }, { accessFlags := 24, nameIndex := 430, descriptorIndex := 62, attributes := #[] }, { accessFlags := 4120, nameIndex := 46, descriptorIndex := 47, attributes := #[] }])
  fields := #[{ name := "HI_BYTE_SHIFT", type := .int, accessFlags := 26, slot := 0, constantValue := 0 }, { name := "LO_BYTE_SHIFT", type := .int, accessFlags := 26, slot := 1, constantValue := 0 }, { name := "MAX_LENGTH", type := .int, accessFlags := 24, slot := 2, constantValue := 0 }, { name := "$assertionsDisabled", type := .boolean, accessFlags := 4120, slot := 3, constantValue := 0 }]
  methods := #[k13m0, k13m1, k13m2, k13m3]
  instanceTypes := #[]
  staticTypes := #[.int, .int, .int, .boolean]
  resolved := Array.replicate 635 none
  statics := none }

def pool14 : Array CpInfo := pool [(1, .class_ 2), (0, u "java/lang/String"), (1, .class_ 6), (1, u "java/lang/Object"), (0, u "<init>"), (0, u "()V"), (0, .methodref 1 10), (0, .nameAndType 11 12), (0, u "checkIndex"), (0, u "(II)V"), (1, .class_ 16), (1, u "java/lang/StringLatin1"), (36, u "([BI)C"), (67, u "$assertionsDisabled"), (0, u "Z"), (98, .class_ 223), (1, u "java/lang/StringLatin1$LinesSpliterator"), (28, u "charAt"), (28, u "equals"), (0, u "([B[B)Z"), (107, .class_ 391), (0, u "java/lang/StringLatin1$CharsSpliterator")] 3

def k14m0 : Method := { name := "<init>", desc := "()V", sig := { parameters := [], returnType := none }, accessFlags := 0, code := none }
def k14c1 : Code := { maxStack := 2, maxLocals := 2, code := jdk_43_method_2_code, exceptionTable := #[], attributes := #[] }
def k14m1 : Method := { name := "charAt", desc := "([BI)C", sig := { parameters := [(.array .byte), .int], returnType := some .char }, accessFlags := 9, code := some k14c1 }
def k14c2 : Code := { maxStack := 3, maxLocals := 3, code := jdk_43_method_13_code, exceptionTable := #[], attributes := #[] }
def k14m2 : Method := { name := "equals", desc := "([B[B)Z", sig := { parameters := [(.array .byte), (.array .byte)], returnType := some .boolean }, accessFlags := 9, code := some k14c2 }
/-- java/lang/StringLatin1 -/
def k14 : Class := { plain "java/lang/StringLatin1" (some 0) with
  accessFlags := 48
  interfaces := #[]
  cf := some (fileOf pool14 14 #[.nestMembers #[390, 221]] #[{ accessFlags := 0, nameIndex := 7, descriptorIndex := 8, attributes := #[] }, { accessFlags := 9, nameIndex := 252, descriptorIndex := 53, attributes := #[] }, { accessFlags := 9, nameIndex := 281, descriptorIndex := 282, attributes := #[] }] 48 4 #[] #[{ accessFlags := 4120, nameIndex := 121, descriptorIndex := 122, attributes := #[] }])
  fields := #[{ name := "$assertionsDisabled", type := .boolean, accessFlags := 4120, slot := 0, constantValue := 0 }]
  methods := #[k14m0, k14m1, k14m2]
  instanceTypes := #[]
  staticTypes := #[.boolean]
  resolved := Array.replicate 395 none
  statics := none }

def pool15 : Array CpInfo := pool [(2, .class_ 4), (1, u "java/lang/Object"), (0, u "<init>"), (0, u "()V"), (17, .class_ 26), (1, u "jdk/internal/util/Preconditions"), (6, u "checkIndex"), (21, .class_ 56), (0, u "jdk/internal/util/Preconditions$4"), (57, .class_ 115), (0, u "jdk/internal/util/Preconditions$1"), (7, u "SIOOBE_FORMATTER"), (0, u "Ljava/util/function/BiFunction;"), (0, .class_ 126), (0, u "jdk/internal/util/Preconditions$2"), (3, u "AIOOBE_FORMATTER"), (0, .class_ 132), (0, u "jdk/internal/util/Preconditions$3"), (3, u "IOOBE_FORMATTER"), (41, u "(IILjava/util/function/BiFunction;)I")] 15

def k15m0 : Method := { name := "<init>", desc := "()V", sig := { parameters := [], returnType := none }, accessFlags := 1, code := none }
def k15c1 : Code := { maxStack := 3, maxLocals := 3, code := jdk_41_method_11_code, exceptionTable := #[], attributes := #[] }
def k15m1 : Method := { name := "checkIndex", desc := "(IILjava/util/function/BiFunction;)I", sig := { parameters := [.int, .int, (.object "java/util/function/BiFunction")], returnType := some .int }, accessFlags := 9, code := some k15c1 }
/-- jdk/internal/util/Preconditions -/
def k15 : Class := { plain "jdk/internal/util/Preconditions" (some 0) with
  accessFlags := 33
  interfaces := #[]
  cf := some (fileOf pool15 24 #[.nestMembers #[55, 131, 125, 114]] #[{ accessFlags := 1, nameIndex := 5, descriptorIndex := 6, attributes := #[] }, { accessFlags := 9, nameIndex := 33, descriptorIndex := 178, attributes := #[] }] 33 2 #[] #[{ accessFlags := 25, nameIndex := 123, descriptorIndex := 124, attributes := #[] }, { accessFlags := 25, nameIndex := 130, descriptorIndex := 124, attributes := #[] }, { accessFlags := 25, nameIndex := 136, descriptorIndex := 124, attributes := #[] }])
  fields := #[{ name := "SIOOBE_FORMATTER", type := (.object "java/util/function/BiFunction"), accessFlags := 25, slot := 0, constantValue := 0 }, { name := "AIOOBE_FORMATTER", type := (.object "java/util/function/BiFunction"), accessFlags := 25, slot := 1, constantValue := 0 }, { name := "IOOBE_FORMATTER", type := (.object "java/util/function/BiFunction"), accessFlags := 25, slot := 2, constantValue := 0 }]
  methods := #[k15m0, k15m1]
  instanceTypes := #[]
  staticTypes := #[(.object "java/util/function/BiFunction"), (.object "java/util/function/BiFunction"), (.object "java/util/function/BiFunction")]
  resolved := Array.replicate 194 none
  statics := some 2 }

def pool16 : Array CpInfo := pool [(9, u "<init>"), (6, .class_ 18), (1, u "java/lang/Object"), (0, u "()V"), (1, .class_ 23), (1, u "jdk/internal/util/ArraysSupport"), (0, u "LOG2_ARRAY_LONG_INDEX_SCALE"), (0, u "I"), (2, u "U"), (0, u "Ljdk/internal/misc/Unsafe;"), (8, u "BIG_ENDIAN"), (0, u "Z"), (8, u "LOG2_BYTE_BIT_SIZE"), (4, u "LOG2_ARRAY_INT_INDEX_SCALE"), (54, u "JLA"), (0, u "Ljdk/internal/access/JavaLangAccess;"), (11, u "LOG2_ARRAY_BOOLEAN_INDEX_SCALE"), (9, u "LOG2_ARRAY_BYTE_INDEX_SCALE"), (5, u "LOG2_ARRAY_CHAR_INDEX_SCALE"), (5, u "LOG2_ARRAY_SHORT_INDEX_SCALE"), (18, u "LOG2_ARRAY_FLOAT_INDEX_SCALE"), (24, u "LOG2_ARRAY_DOUBLE_INDEX_SCALE"), (89, u "T_BOOLEAN"), (2, u "T_CHAR"), (1, u "T_FLOAT"), (1, u "T_DOUBLE"), (1, u "T_BYTE"), (1, u "T_SHORT"), (1, u "T_INT"), (1, u "T_LONG"), (1, u "SOFT_MAX_ARRAY_LENGTH")] 83

def k16m0 : Method := { name := "<init>", desc := "()V", sig := { parameters := [], returnType := none }, accessFlags := 2, code := none }
/-- jdk/internal/util/ArraysSupport -/
def k16 : Class := { plain "jdk/internal/util/ArraysSupport" (some 0) with
  accessFlags := 33
  interfaces := #[]
  cf := some (fileOf pool16 21 #[] #[{ accessFlags := 2, nameIndex := 9, descriptorIndex := 19, attributes := #[] }] 33 16 #[] #[{ accessFlags := 24, nameIndex := 28, descriptorIndex := 29, attributes := #[] }, { accessFlags := 26, nameIndex := 38, descriptorIndex := 39, attributes := #[] }, { accessFlags := 25, nameIndex := 121, descriptorIndex := 25, attributes := #[] }, { accessFlags := 25, nameIndex := 131, descriptorIndex := 25, attributes := #[] }, { accessFlags := 25, nameIndex := 137, descriptorIndex := 25, attributes := #[] }, { accessFlags := 25, nameIndex := 143, descriptorIndex := 25, attributes := #[] }, { accessFlags := 25, nameIndex := 53, descriptorIndex := 25, attributes := #[] }, { accessFlags := 25, nameIndex := 24, descriptorIndex := 25, attributes := #[] }, { accessFlags := 25, nameIndex := 162, descriptorIndex := 25, attributes := #[] }, { accessFlags := 25, nameIndex := 187, descriptorIndex := 25, attributes := #[] }, { accessFlags := 26, nameIndex := 48, descriptorIndex := 25, attributes := #[] }, { accessFlags := 25, nameIndex := 277, descriptorIndex := 25, attributes := #[] }, { accessFlags := 25, nameIndex := 280, descriptorIndex := 25, attributes := #[] }, { accessFlags := 25, nameIndex := 282, descriptorIndex := 25, attributes := #[] }, { accessFlags := 25, nameIndex := 284, descriptorIndex := 25, attributes := #[] }, { accessFlags := 25, nameIndex := 286, descriptorIndex := 25, attributes := #[] }, { accessFlags := 25, nameIndex := 288, descriptorIndex := 25, attributes := #[] }, { accessFlags := 25, nameIndex := 290, descriptorIndex := 25, attributes := #[] }, { accessFlags := 25, nameIndex := 292, descriptorIndex := 25, attributes := #[] }, { accessFlags := 26, nameIndex := 108, descriptorIndex := 109, attributes := #[] }, { accessFlags := 25, nameIndex := 294, descriptorIndex := 25, attributes := #[] }])
  fields := #[{ name := "U", type := (.object "jdk/internal/misc/Unsafe"), accessFlags := 24, slot := 0, constantValue := 0 }, { name := "BIG_ENDIAN", type := .boolean, accessFlags := 26, slot := 1, constantValue := 0 }, { name := "LOG2_ARRAY_BOOLEAN_INDEX_SCALE", type := .int, accessFlags := 25, slot := 2, constantValue := 0 }, { name := "LOG2_ARRAY_BYTE_INDEX_SCALE", type := .int, accessFlags := 25, slot := 3, constantValue := 0 }, { name := "LOG2_ARRAY_CHAR_INDEX_SCALE", type := .int, accessFlags := 25, slot := 4, constantValue := 0 }, { name := "LOG2_ARRAY_SHORT_INDEX_SCALE", type := .int, accessFlags := 25, slot := 5, constantValue := 0 }, { name := "LOG2_ARRAY_INT_INDEX_SCALE", type := .int, accessFlags := 25, slot := 6, constantValue := 0 }, { name := "LOG2_ARRAY_LONG_INDEX_SCALE", type := .int, accessFlags := 25, slot := 7, constantValue := 0 }, { name := "LOG2_ARRAY_FLOAT_INDEX_SCALE", type := .int, accessFlags := 25, slot := 8, constantValue := 0 }, { name := "LOG2_ARRAY_DOUBLE_INDEX_SCALE", type := .int, accessFlags := 25, slot := 9, constantValue := 0 }, { name := "LOG2_BYTE_BIT_SIZE", type := .int, accessFlags := 26, slot := 10, constantValue := 0 }, { name := "T_BOOLEAN", type := .int, accessFlags := 25, slot := 11, constantValue := 0 }, { name := "T_CHAR", type := .int, accessFlags := 25, slot := 12, constantValue := 0 }, { name := "T_FLOAT", type := .int, accessFlags := 25, slot := 13, constantValue := 0 }, { name := "T_DOUBLE", type := .int, accessFlags := 25, slot := 14, constantValue := 0 }, { name := "T_BYTE", type := .int, accessFlags := 25, slot := 15, constantValue := 0 }, { name := "T_SHORT", type := .int, accessFlags := 25, slot := 16, constantValue := 0 }, { name := "T_INT", type := .int, accessFlags := 25, slot := 17, constantValue := 0 }, { name := "T_LONG", type := .int, accessFlags := 25, slot := 18, constantValue := 0 }, { name := "JLA", type := (.object "jdk/internal/access/JavaLangAccess"), accessFlags := 26, slot := 19, constantValue := 0 }, { name := "SOFT_MAX_ARRAY_LENGTH", type := .int, accessFlags := 25, slot := 20, constantValue := 0 }]
  methods := #[k16m0]
  instanceTypes := #[]
  staticTypes := #[(.object "jdk/internal/misc/Unsafe"), .boolean, .int, .int, .int, .int, .int, .int, .int, .int, .int, .int, .int, .int, .int, .int, .int, .int, .int, (.object "jdk/internal/access/JavaLangAccess"), .int]
  resolved := Array.replicate 378 none
  statics := none }

def pool17 : Array CpInfo := pool [(1, u "java/lang/Cloneable"), (0, .class_ 1), (0, u "java/lang/Object"), (0, .class_ 3)] 3

/-- java/lang/Cloneable -/
def k17 : Class := { plain "java/lang/Cloneable" (some 0) with
  accessFlags := 1537
  interfaces := #[]
  cf := some (fileOf pool17 2 #[] #[] 1537 4 #[] #[])
  fields := #[]
  methods := #[]
  instanceTypes := #[]
  staticTypes := #[]
  resolved := Array.replicate 8 none
  statics := none }

/-- the primitive byte -/
def k18 : Class := { plain "byte" none with kind := .primitive 'B', accessFlags := 0x411 }
/-- [B -/
def k19 : Class := { plain "[B" (some 0) with kind := .array 18 .byte, interfaces := #[17, 4], accessFlags := 1041 }

/-- the primitive char -/
def k20 : Class := { plain "char" none with kind := .primitive 'C', accessFlags := 0x411 }
/-- [C -/
def k21 : Class := { plain "[C" (some 0) with kind := .array 20 .char, interfaces := #[17, 4], accessFlags := 1041 }

/-- the primitive int -/
def k22 : Class := { plain "int" none with kind := .primitive 'I', accessFlags := 0x411 }
/-- [I -/
def k23 : Class := { plain "[I" (some 0) with kind := .array 22 .int, interfaces := #[17, 4], accessFlags := 1041 }

def heap : Heap := #[{ cls := 6, slots := #[.ref 3, .ref 4, .ref 5, .ref 6, .ref 7, .null], vm := .statics 6 },
  { cls := 9, slots := #[.long 0, .int 1, .null, .int 0, .null, .int 0, .int 0], vm := .statics 9 },
  { cls := 15, slots := #[.null, .null, .null], vm := .statics 15 },
  { cls := 6, slots := #[.null, .int 0, .int 0], vm := .none },
  { cls := 6, slots := #[.null, .int 1, .int 0], vm := .none },
  { cls := 6, slots := #[.null, .int 2, .int 0], vm := .none },
  { cls := 6, slots := #[.null, .int 3, .int 0], vm := .none },
  { cls := 6, slots := #[.null, .int 4, .int 0], vm := .none }]
def classes : Array Class := #[k0, k1, k2, k3, k4, k5, k6, k7, k8, k9, k10, k11, k12, k13, k14, k15, k16, k17, k18, k19, k20, k21, k22, k23]
def interned : List (Array UInt16 × Addr) := []
def slotsUsed : Nat := 31
def theMethod : MethodId := ⟨1, 1⟩
def args0 : Array Value := #[.int 1, .int 1, .int 1, .int 1, .int 1, .int 1]
def aboutOver (below : List Frame) : State where
  vm := { classes := classes, interned := interned.toArray }
  heap := heap
  slotsUsed := slotsUsed
  threads := #[{ frames := .invoking theMethod args0 :: below }]
def below0 : List Frame := [.native { method := ⟨0, 0⟩, args := #[] }]
def about1 : State := aboutOver below0
def p0 : Program := .bare "" "" ""
def e0 : Env := launch0.env 0 0 0
theorem w_frames : about1.frames = Frame.invoking theMethod args0 :: below0 := rfl
set_option maxRecDepth 65536 in
theorem w_args : argsFit about1.vm theMethod args0 = true := by decide +kernel
set_option maxRecDepth 65536 in
theorem w_heap : heapFits about1 = true := by decide +kernel
set_option maxRecDepth 65536 in
theorem w_runnable : about1.curStatus? = some .runnable := by decide +kernel
set_option maxRecDepth 65536 in
theorem w_alone : about1.alone = true := by decide +kernel
set_option maxRecDepth 65536 in
theorem w_named : about1.methodNamed? x = some theMethod := by decide +kernel
set_option maxRecDepth 65536 in
theorem w_hears : about1.hears theMethod below0 = true := by decide +kernel
set_option maxRecDepth 65536 in
theorem w_ripe : about1.ripe theMethod args0 below0 = true := by decide +kernel
theorem w_running : about1.status = .running := rfl
set_option maxRecDepth 65536 in
theorem w_room : about1.hasRoom e0.platform room_1 = true :=
  launch0.hasRoom_least _ room_1 (by decide +kernel) (by decide +kernel) (by decide +kernel) (by decide +kernel) (by decide +kernel) (by decide +kernel)
theorem allAtoms_all (ts : List Jvm.Cond) (a : Array Jvm.Value) (st : Jvm.State) : (allAtoms ts).before a st = ts.all (fun c => c.before a st) := by
  induction ts with
  | nil => rfl
  | cons c t ih =>
    show (Jvm.Cond.and c (allAtoms t)).before a st = _
    rw [Jvm.Cond.before_and, ih, List.all_cons]
def words1 : List Jvm.Cond := Jvm.Cond.code x code maxLocals ret :: tables_1
/-- a 'code' word, met by the world's own term for the bytes: nothing is compared byte by byte -/
theorem code_word {y : MethodName} {bytes : ByteArray} {mx : Nat} {rt : Option FieldType} {a : Array Value} {s : State} {m : MethodId} {meth : Method} {c : Code} (h1 : s.methodNamed? y = some m) (h2 : s.vm.method? m = some meth) (h3 : meth.code = some c) (h4 : c.code = bytes)
    (h5 : (c.maxLocals == mx && c.exceptionTable.isEmpty && decide (c.maxStack ≤ mostOperands) && decide (meth.sig.returnType = rt) && !meth.locks && decide (parseMethodDescriptor y.desc = some meth.sig)) = true) : (Jvm.Cond.code y bytes mx rt).before a s = true := by
  simp only [Bool.and_eq_true, beq_iff_eq, Bool.not_eq_true', decide_eq_true_eq] at h5
  obtain ⟨⟨⟨⟨⟨g1, g2⟩, g3⟩, g4⟩, g5⟩, g6⟩ := h5
  simp [Cond.before, Cond.holds, Cond.value, h1, h2, h3, h4, g1, g2, g3, g4, g5, g6]
def isCode : Jvm.Cond → Bool
  | .code _ _ _ _ => true
  | _ => false
theorem all_split {L : List Jvm.Cond} {P : Jvm.Cond → Bool} (h1 : L.all (fun c => isCode c || P c) = true) (h2 : ∀ c ∈ L.filter isCode, P c = true) : L.all P = true := by
  refine List.all_eq_true.mpr fun c hc => ?_
  have h := List.all_eq_true.mp h1 c hc
  rcases Bool.eq_false_or_eq_true (isCode c) with hi | hi
  · exact h2 c (List.mem_filter.mpr ⟨hc, hi⟩)
  · simpa [hi] using h
set_option maxRecDepth 65536 in
theorem w_c0 : (Jvm.Cond.code x code maxLocals ret).before args0 about1 = true := code_word (m := ⟨1, 1⟩) (meth := k1m1) (c := k1c1) (by decide +kernel) rfl rfl rfl (by decide +kernel)
set_option maxRecDepth 65536 in
theorem w_c1 : (Jvm.Cond.code ({ cls := "com/example/obra/obra/TypeScopeIsBitwidthPinLaw", name := "kindOf", desc := "(I)Lcom/example/obra/obra/Token$Kind;" } : Jvm.MethodName) method_3_code (1 : Nat) (Option.some (Jvm.ClassFile.FieldType.object "com/example/obra/obra/Token$Kind"))).before args0 about1 = true := code_word (m := ⟨1, 2⟩) (meth := k1m2) (c := k1c2) (by decide +kernel) rfl rfl rfl (by decide +kernel)
set_option maxRecDepth 65536 in
theorem w_c2 : (Jvm.Cond.code ({ cls := "com/example/obra/obra/TypeScopeIsBitwidthPinLaw", name := "textOf", desc := "(II)Ljava/lang/String;" } : Jvm.MethodName) method_4_code (8 : Nat) (Option.some (Jvm.ClassFile.FieldType.object "java/lang/String"))).before args0 about1 = true := code_word (m := ⟨1, 3⟩) (meth := k1m3) (c := k1c3) (by decide +kernel) rfl rfl rfl (by decide +kernel)
set_option maxRecDepth 65536 in
theorem w_c3 : (Jvm.Cond.code ({ cls := "java/lang/String", name := "<init>", desc := "([C)V" } : Jvm.MethodName) jdk_42_method_3_code (2 : Nat) (Option.none : Option Jvm.ClassFile.FieldType)).before args0 about1 = true := code_word (m := ⟨9, 1⟩) (meth := k9m1) (c := k9c1) (by decide +kernel) rfl rfl rfl (by decide +kernel)
set_option maxRecDepth 65536 in
theorem w_c4 : (Jvm.Cond.code ({ cls := "java/lang/String", name := "<init>", desc := "([CIILjava/lang/Void;)V" } : Jvm.MethodName) jdk_42_method_149_code (6 : Nat) (Option.none : Option Jvm.ClassFile.FieldType)).before args0 about1 = true := code_word (m := ⟨9, 5⟩) (meth := k9m5) (c := k9c5) (by decide +kernel) rfl rfl rfl (by decide +kernel)
set_option maxRecDepth 65536 in
theorem w_c5 : (Jvm.Cond.code ({ cls := "java/lang/Object", name := "<init>", desc := "()V" } : Jvm.MethodName) object_method_1_code (1 : Nat) (Option.none : Option Jvm.ClassFile.FieldType)).before args0 about1 = true := code_word (m := ⟨0, 0⟩) (meth := k0m0) (c := k0c0) (by decide +kernel) rfl rfl rfl (by decide +kernel)
set_option maxRecDepth 65536 in
theorem w_c6 : (Jvm.Cond.code ({ cls := "com/example/obra/obra/Token", name := "<init>", desc := "(Lcom/example/obra/obra/Token$Kind;Ljava/lang/String;II)V" } : Jvm.MethodName) prog_84_method_1_code (5 : Nat) (Option.none : Option Jvm.ClassFile.FieldType)).before args0 about1 = true := code_word (m := ⟨12, 0⟩) (meth := k12m0) (c := k12c0) (by decide +kernel) rfl rfl rfl (by decide +kernel)
set_option maxRecDepth 65536 in
theorem w_c7 : (Jvm.Cond.code ({ cls := "java/lang/Record", name := "<init>", desc := "()V" } : Jvm.MethodName) jdk_30_method_1_code (1 : Nat) (Option.none : Option Jvm.ClassFile.FieldType)).before args0 about1 = true := code_word (m := ⟨10, 0⟩) (meth := k10m0) (c := k10c0) (by decide +kernel) rfl rfl rfl (by decide +kernel)
set_option maxRecDepth 65536 in
theorem w_c8 : (Jvm.Cond.code ({ cls := "com/example/obra/obra/Model$TypeScope", name := "<init>", desc := "(ZILcom/example/obra/obra/Token;)V" } : Jvm.MethodName) prog_55_method_1_code (4 : Nat) (Option.none : Option Jvm.ClassFile.FieldType)).before args0 about1 = true := code_word (m := ⟨11, 0⟩) (meth := k11m0) (c := k11c0) (by decide +kernel) rfl rfl rfl (by decide +kernel)
set_option maxRecDepth 65536 in
theorem w_c9 : (Jvm.Cond.code ({ cls := "com/example/obra/obra/Model$TypeScope", name := "isBitwidth", desc := "()Z" } : Jvm.MethodName) prog_55_method_2_code (1 : Nat) (Option.some Jvm.ClassFile.FieldType.boolean)).before args0 about1 = true := code_word (m := ⟨11, 1⟩) (meth := k11m1) (c := k11c1) (by decide +kernel) rfl rfl rfl (by decide +kernel)
set_option maxRecDepth 65536 in
theorem w_c10 : (Jvm.Cond.code ({ cls := "com/example/obra/obra/Token", name := "is", desc := "(Ljava/lang/String;)Z" } : Jvm.MethodName) prog_84_method_2_code (2 : Nat) (Option.some Jvm.ClassFile.FieldType.boolean)).before args0 about1 = true := code_word (m := ⟨12, 1⟩) (meth := k12m1) (c := k12c1) (by decide +kernel) rfl rfl rfl (by decide +kernel)
set_option maxRecDepth 65536 in
theorem w_c11 : (Jvm.Cond.code ({ cls := "java/lang/StringUTF16", name := "compress", desc := "([CII)[B" } : Jvm.MethodName) jdk_52_method_16_code (6 : Nat) (Option.some (Jvm.ClassFile.FieldType.array Jvm.ClassFile.FieldType.byte))).before args0 about1 = true := code_word (m := ⟨13, 2⟩) (meth := k13m2) (c := k13c2) (by decide +kernel) rfl rfl rfl (by decide +kernel)
set_option maxRecDepth 65536 in
theorem w_c12 : (Jvm.Cond.code ({ cls := "java/lang/StringUTF16", name := "compress", desc := "([CI[BII)I" } : Jvm.MethodName) jdk_52_method_21_code (7 : Nat) (Option.some Jvm.ClassFile.FieldType.int)).before args0 about1 = true := code_word (m := ⟨13, 3⟩) (meth := k13m3) (c := k13c3) (by decide +kernel) rfl rfl rfl (by decide +kernel)
set_option maxRecDepth 65536 in
theorem w_c13 : (Jvm.Cond.code ({ cls := "java/lang/StringUTF16", name := "coderFromArrayLen", desc := "([BI)B" } : Jvm.MethodName) jdk_52_method_15_code (2 : Nat) (Option.some Jvm.ClassFile.FieldType.byte)).before args0 about1 = true := code_word (m := ⟨13, 1⟩) (meth := k13m1) (c := k13c1) (by decide +kernel) rfl rfl rfl (by decide +kernel)
set_option maxRecDepth 65536 in
theorem w_c14 : (Jvm.Cond.code ({ cls := "com/example/obra/obra/TypeScopeIsBitwidthPinLaw", name := "isIntName", desc := "(Ljava/lang/String;)Z" } : Jvm.MethodName) method_5_code (2 : Nat) (Option.some Jvm.ClassFile.FieldType.boolean)).before args0 about1 = true := code_word (m := ⟨1, 4⟩) (meth := k1m4) (c := k1c4) (by decide +kernel) rfl rfl rfl (by decide +kernel)
set_option maxRecDepth 65536 in
theorem w_c15 : (Jvm.Cond.code ({ cls := "java/lang/String", name := "length", desc := "()I" } : Jvm.MethodName) jdk_42_method_54_code (1 : Nat) (Option.some Jvm.ClassFile.FieldType.int)).before args0 about1 = true := code_word (m := ⟨9, 2⟩) (meth := k9m2) (c := k9c2) (by decide +kernel) rfl rfl rfl (by decide +kernel)
set_option maxRecDepth 65536 in
theorem w_c16 : (Jvm.Cond.code ({ cls := "java/lang/String", name := "coder", desc := "()B" } : Jvm.MethodName) jdk_42_method_152_code (1 : Nat) (Option.some Jvm.ClassFile.FieldType.byte)).before args0 about1 = true := code_word (m := ⟨9, 6⟩) (meth := k9m6) (c := k9c6) (by decide +kernel) rfl rfl rfl (by decide +kernel)
set_option maxRecDepth 65536 in
theorem w_c17 : (Jvm.Cond.code ({ cls := "java/lang/String", name := "equals", desc := "(Ljava/lang/Object;)Z" } : Jvm.MethodName) jdk_42_method_66_code (3 : Nat) (Option.some Jvm.ClassFile.FieldType.boolean)).before args0 about1 = true := code_word (m := ⟨9, 4⟩) (meth := k9m4) (c := k9c4) (by decide +kernel) rfl rfl rfl (by decide +kernel)
set_option maxRecDepth 65536 in
theorem w_c18 : (Jvm.Cond.code ({ cls := "java/lang/StringLatin1", name := "equals", desc := "([B[B)Z" } : Jvm.MethodName) jdk_43_method_13_code (3 : Nat) (Option.some Jvm.ClassFile.FieldType.boolean)).before args0 about1 = true := code_word (m := ⟨14, 2⟩) (meth := k14m2) (c := k14c2) (by decide +kernel) rfl rfl rfl (by decide +kernel)
set_option maxRecDepth 65536 in
theorem w_c19 : (Jvm.Cond.code ({ cls := "java/lang/String", name := "charAt", desc := "(I)C" } : Jvm.MethodName) jdk_42_method_56_code (2 : Nat) (Option.some Jvm.ClassFile.FieldType.char)).before args0 about1 = true := code_word (m := ⟨9, 3⟩) (meth := k9m3) (c := k9c3) (by decide +kernel) rfl rfl rfl (by decide +kernel)
set_option maxRecDepth 65536 in
theorem w_c20 : (Jvm.Cond.code ({ cls := "java/lang/String", name := "isLatin1", desc := "()Z" } : Jvm.MethodName) jdk_42_method_154_code (1 : Nat) (Option.some Jvm.ClassFile.FieldType.boolean)).before args0 about1 = true := code_word (m := ⟨9, 7⟩) (meth := k9m7) (c := k9c7) (by decide +kernel) rfl rfl rfl (by decide +kernel)
set_option maxRecDepth 65536 in
theorem w_c21 : (Jvm.Cond.code ({ cls := "java/lang/StringLatin1", name := "charAt", desc := "([BI)C" } : Jvm.MethodName) jdk_43_method_2_code (2 : Nat) (Option.some Jvm.ClassFile.FieldType.char)).before args0 about1 = true := code_word (m := ⟨14, 1⟩) (meth := k14m1) (c := k14c1) (by decide +kernel) rfl rfl rfl (by decide +kernel)
set_option maxRecDepth 65536 in
theorem w_c22 : (Jvm.Cond.code ({ cls := "java/lang/String", name := "checkIndex", desc := "(II)V" } : Jvm.MethodName) jdk_42_method_155_code (2 : Nat) (Option.none : Option Jvm.ClassFile.FieldType)).before args0 about1 = true := code_word (m := ⟨9, 8⟩) (meth := k9m8) (c := k9c8) (by decide +kernel) rfl rfl rfl (by decide +kernel)
set_option maxRecDepth 65536 in
theorem w_c23 : (Jvm.Cond.code ({ cls := "jdk/internal/util/Preconditions", name := "checkIndex", desc := "(IILjava/util/function/BiFunction;)I" } : Jvm.MethodName) jdk_41_method_11_code (3 : Nat) (Option.some Jvm.ClassFile.FieldType.int)).before args0 about1 = true := code_word (m := ⟨15, 1⟩) (meth := k15m1) (c := k15c1) (by decide +kernel) rfl rfl rfl (by decide +kernel)
def codes1 : List Jvm.Cond := [Jvm.Cond.code x code maxLocals ret, Jvm.Cond.code ({ cls := "com/example/obra/obra/TypeScopeIsBitwidthPinLaw", name := "kindOf", desc := "(I)Lcom/example/obra/obra/Token$Kind;" } : Jvm.MethodName) method_3_code (1 : Nat) (Option.some (Jvm.ClassFile.FieldType.object "com/example/obra/obra/Token$Kind")), Jvm.Cond.code ({ cls := "com/example/obra/obra/TypeScopeIsBitwidthPinLaw", name := "textOf", desc := "(II)Ljava/lang/String;" } : Jvm.MethodName) method_4_code (8 : Nat) (Option.some (Jvm.ClassFile.FieldType.object "java/lang/String")), Jvm.Cond.code ({ cls := "java/lang/String", name := "<init>", desc := "([C)V" } : Jvm.MethodName) jdk_42_method_3_code (2 : Nat) (Option.none : Option Jvm.ClassFile.FieldType), Jvm.Cond.code ({ cls := "java/lang/String", name := "<init>", desc := "([CIILjava/lang/Void;)V" } : Jvm.MethodName) jdk_42_method_149_code (6 : Nat) (Option.none : Option Jvm.ClassFile.FieldType), Jvm.Cond.code ({ cls := "java/lang/Object", name := "<init>", desc := "()V" } : Jvm.MethodName) object_method_1_code (1 : Nat) (Option.none : Option Jvm.ClassFile.FieldType), Jvm.Cond.code ({ cls := "com/example/obra/obra/Token", name := "<init>", desc := "(Lcom/example/obra/obra/Token$Kind;Ljava/lang/String;II)V" } : Jvm.MethodName) prog_84_method_1_code (5 : Nat) (Option.none : Option Jvm.ClassFile.FieldType), Jvm.Cond.code ({ cls := "java/lang/Record", name := "<init>", desc := "()V" } : Jvm.MethodName) jdk_30_method_1_code (1 : Nat) (Option.none : Option Jvm.ClassFile.FieldType), Jvm.Cond.code ({ cls := "com/example/obra/obra/Model$TypeScope", name := "<init>", desc := "(ZILcom/example/obra/obra/Token;)V" } : Jvm.MethodName) prog_55_method_1_code (4 : Nat) (Option.none : Option Jvm.ClassFile.FieldType), Jvm.Cond.code ({ cls := "com/example/obra/obra/Model$TypeScope", name := "isBitwidth", desc := "()Z" } : Jvm.MethodName) prog_55_method_2_code (1 : Nat) (Option.some Jvm.ClassFile.FieldType.boolean), Jvm.Cond.code ({ cls := "com/example/obra/obra/Token", name := "is", desc := "(Ljava/lang/String;)Z" } : Jvm.MethodName) prog_84_method_2_code (2 : Nat) (Option.some Jvm.ClassFile.FieldType.boolean), Jvm.Cond.code ({ cls := "java/lang/StringUTF16", name := "compress", desc := "([CII)[B" } : Jvm.MethodName) jdk_52_method_16_code (6 : Nat) (Option.some (Jvm.ClassFile.FieldType.array Jvm.ClassFile.FieldType.byte)), Jvm.Cond.code ({ cls := "java/lang/StringUTF16", name := "compress", desc := "([CI[BII)I" } : Jvm.MethodName) jdk_52_method_21_code (7 : Nat) (Option.some Jvm.ClassFile.FieldType.int), Jvm.Cond.code ({ cls := "java/lang/StringUTF16", name := "coderFromArrayLen", desc := "([BI)B" } : Jvm.MethodName) jdk_52_method_15_code (2 : Nat) (Option.some Jvm.ClassFile.FieldType.byte), Jvm.Cond.code ({ cls := "com/example/obra/obra/TypeScopeIsBitwidthPinLaw", name := "isIntName", desc := "(Ljava/lang/String;)Z" } : Jvm.MethodName) method_5_code (2 : Nat) (Option.some Jvm.ClassFile.FieldType.boolean), Jvm.Cond.code ({ cls := "java/lang/String", name := "length", desc := "()I" } : Jvm.MethodName) jdk_42_method_54_code (1 : Nat) (Option.some Jvm.ClassFile.FieldType.int), Jvm.Cond.code ({ cls := "java/lang/String", name := "coder", desc := "()B" } : Jvm.MethodName) jdk_42_method_152_code (1 : Nat) (Option.some Jvm.ClassFile.FieldType.byte), Jvm.Cond.code ({ cls := "java/lang/String", name := "equals", desc := "(Ljava/lang/Object;)Z" } : Jvm.MethodName) jdk_42_method_66_code (3 : Nat) (Option.some Jvm.ClassFile.FieldType.boolean), Jvm.Cond.code ({ cls := "java/lang/StringLatin1", name := "equals", desc := "([B[B)Z" } : Jvm.MethodName) jdk_43_method_13_code (3 : Nat) (Option.some Jvm.ClassFile.FieldType.boolean), Jvm.Cond.code ({ cls := "java/lang/String", name := "charAt", desc := "(I)C" } : Jvm.MethodName) jdk_42_method_56_code (2 : Nat) (Option.some Jvm.ClassFile.FieldType.char), Jvm.Cond.code ({ cls := "java/lang/String", name := "isLatin1", desc := "()Z" } : Jvm.MethodName) jdk_42_method_154_code (1 : Nat) (Option.some Jvm.ClassFile.FieldType.boolean), Jvm.Cond.code ({ cls := "java/lang/StringLatin1", name := "charAt", desc := "([BI)C" } : Jvm.MethodName) jdk_43_method_2_code (2 : Nat) (Option.some Jvm.ClassFile.FieldType.char), Jvm.Cond.code ({ cls := "java/lang/String", name := "checkIndex", desc := "(II)V" } : Jvm.MethodName) jdk_42_method_155_code (2 : Nat) (Option.none : Option Jvm.ClassFile.FieldType), Jvm.Cond.code ({ cls := "jdk/internal/util/Preconditions", name := "checkIndex", desc := "(IILjava/util/function/BiFunction;)I" } : Jvm.MethodName) jdk_41_method_11_code (3 : Nat) (Option.some Jvm.ClassFile.FieldType.int)]
set_option maxRecDepth 65536 in
theorem codes_eq : words1.filter isCode = codes1 := rfl
theorem w_codes : ∀ c ∈ words1.filter isCode, c.before args0 about1 = true := by
  rw [codes_eq]
  intro c hc
  simp only [codes1, List.mem_cons, List.not_mem_nil, or_false] at hc
  rcases hc with rfl | rfl | rfl | rfl | rfl | rfl | rfl | rfl | rfl | rfl | rfl | rfl | rfl | rfl | rfl | rfl | rfl | rfl | rfl | rfl | rfl | rfl | rfl | rfl
  · exact w_c0
  · exact w_c1
  · exact w_c2
  · exact w_c3
  · exact w_c4
  · exact w_c5
  · exact w_c6
  · exact w_c7
  · exact w_c8
  · exact w_c9
  · exact w_c10
  · exact w_c11
  · exact w_c12
  · exact w_c13
  · exact w_c14
  · exact w_c15
  · exact w_c16
  · exact w_c17
  · exact w_c18
  · exact w_c19
  · exact w_c20
  · exact w_c21
  · exact w_c22
  · exact w_c23
set_option maxRecDepth 65536 in
theorem w_t1 : (words1.take 24).all (fun c => isCode c || c.before args0 about1) = true := by decide +kernel
set_option maxRecDepth 65536 in
theorem w_t2 : ((words1.drop 24).take 24).all (fun c => isCode c || c.before args0 about1) = true := by decide +kernel
set_option maxRecDepth 65536 in
theorem w_t3 : (((words1.drop 24).drop 24).take 24).all (fun c => isCode c || c.before args0 about1) = true := by decide +kernel
set_option maxRecDepth 65536 in
theorem w_t4 : ((((words1.drop 24).drop 24).drop 24).take 24).all (fun c => isCode c || c.before args0 about1) = true := by decide +kernel
set_option maxRecDepth 65536 in
theorem w_t5 : (((((words1.drop 24).drop 24).drop 24).drop 24).take 24).all (fun c => isCode c || c.before args0 about1) = true := by decide +kernel
set_option maxRecDepth 65536 in
theorem w_t6 : ((((((words1.drop 24).drop 24).drop 24).drop 24).drop 24).take 24).all (fun c => isCode c || c.before args0 about1) = true := by decide +kernel
set_option maxRecDepth 65536 in
theorem w_t7 : ((((((words1.drop 24).drop 24).drop 24).drop 24).drop 24).drop 24).all (fun c => isCode c || c.before args0 about1) = true := by decide +kernel
theorem w_tables : (allAtoms (Jvm.Cond.code x code maxLocals ret :: tables_1)).before args0 about1 = true := by
  rw [allAtoms_all]
  show words1.all (fun c => c.before args0 about1) = true
  refine all_split ?_ w_codes
  rw [← List.take_append_drop 24 words1, List.all_append, w_t1, ← List.take_append_drop 24 (words1.drop 24), List.all_append, w_t2, ← List.take_append_drop 24 ((words1.drop 24).drop 24), List.all_append, w_t3, ← List.take_append_drop 24 (((words1.drop 24).drop 24).drop 24), List.all_append, w_t4, ← List.take_append_drop 24 ((((words1.drop 24).drop 24).drop 24).drop 24), List.all_append, w_t5, ← List.take_append_drop 24 (((((words1.drop 24).drop 24).drop 24).drop 24).drop 24), List.all_append, w_t6, w_t7]
  rfl
set_option maxRecDepth 65536 in
theorem w_rest : rest_1_c.before args0 about1 = true := by decide +kernel
set_option maxRecDepth 65536 in
theorem w_case : (Jvm.Cond.and given_1 narrow_1).before args0 about1 = true := by decide +kernel
set_option maxRecDepth 65536 in
theorem w_consts : constsHeld consts_1 about1 := Jvm.Lit.constsHeldB_iff.mp (by decide +kernel)
theorem w_applies : (headSpec (Jvm.Cond.code x code maxLocals ret :: tables_1) room_1).applies x e0.platform about1 = true :=
  (Spec.applies_iff w_frames).mpr ⟨w_running, w_runnable, w_alone, w_named, w_hears, w_ripe, w_room, w_tables⟩
theorem atStart : AtStart classFile x code maxLocals ret World_1 tables_1 room_1 Calls_1 rest_1 Pre_1 launch0 p0 e0 about1 theMethod args0 below0 :=
  ⟨lists_1, trivial, launch0.admits_env _ _ _, launch0.least_env, fairChoices_fair.cas, fairChoices_fair.clock, w_frames, w_args, w_heap, w_applies, ⟨w_consts, trivial⟩, w_rest, w_case⟩
end start1
theorem witness_1 : WitnessClaimed_1 := ⟨start1.p0, start1.e0, start1.about1, start1.theMethod, start1.args0, start1.below0, start1.atStart⟩
end Jvm.Pilot.@@N@@
