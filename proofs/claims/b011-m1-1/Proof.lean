import JvmDerived
import JvmDerived.Pilot.@@N@@Statement
import JvmDerived.Pilot.@@N@@Code
set_option linter.unusedVariables false
set_option linter.unusedSimpArgs false
/- laws to paste: Road.backV, Road.eqW, Road.codOf (cut by pick.py; bodies as the Statement names them) -/
namespace Jvm.Pilot.@@N@@
namespace StrChars
open Jvm Sem ClassFile Op Lib Jvm.Stand Jvm.Free.XT Jvm.Free.ALB Jvm.Free.JM Jvm.Free
open Jvm.Lib.Cold (StaticIs)
/-- a char array whose places are chars -/
def Ch (a : Addr) (A : Cell) (U : State) : Prop := Arr .char a A U ∧ Typed .char A
theorem Ch.mv {a : Addr} {A : Cell} {U U' : State} (h : Ch a A U) (hal : U.vm.Alike U'.vm) (hh : U'.heap = U.heap) : Ch a A U' := ⟨h.1.mv hal hh, h.2⟩
theorem Ch.keep {a : Addr} {A : Cell} {U U' : State} (h : Ch a A U) (hal : U.vm.Alike U'.vm) (hk : U'.heap[a]? = some A) : Ch a A U' := ⟨h.1.keep hal hk, h.2⟩
/-- what place i of a char[]'s cell holds -/
def cv (A : Cell) (i : Nat) : Int32 := match A.slots[i]? with | some (.int x) => x | _ => 0
theorem Ch.get {a : Addr} {A : Cell} {U : State} (h : Ch a A U) {i : Nat} (hi : i < A.slots.size) : A.slots[i]? = some (.int (cv A i)) := by
  have e := Array.getElem?_eq_getElem hi
  have f := h.2 i _ e
  unfold cv; rw [e]
  generalize A.slots[i] = v at f
  cases v <;> simp [fits] at f ⊢
/-- the byte that i2b leaves of a char -/
def lo8 (x : Int32) : Int32 := x.toInt8.toInt32
theorem fits_lo8 (y : Int32) : fits .byte (.int (lo8 y)) = true := by
  have h1 := y.toInt8.le_toInt
  have h2 := y.toInt8.toInt_lt
  simp only [lo8, fits, Bool.and_eq_true, decide_eq_true_eq, Int32.le_iff_toInt_le, Int8.toInt_toInt32, show (-128 : Int32).toInt = -128 from by decide, show (127 : Int32).toInt = 127 from by decide]
  omega
/-- A' is A but that each place j of lo .. hi - 1 holds f j -/
def Laid (A A' : Cell) (lo hi : Nat) (f : Nat → Value) : Prop := A'.cls = A.cls ∧ A'.vm = A.vm ∧ A'.slots.size = A.slots.size ∧ ∀ i, A'.slots[i]? = if lo ≤ i ∧ i < hi then some (f i) else A.slots[i]?
theorem Laid.zero (A : Cell) (lo : Nat) (f : Nat → Value) : Laid A A lo (lo + 0) f := ⟨rfl, rfl, rfl, fun i => by rw [if_neg (by omega)]⟩
theorem Laid.step {A Ak : Cell} {lo k : Nat} {f : Nat → Value} {v : Value} (h : Laid A Ak lo k f) (hlo : lo ≤ k) (hk : k < Ak.slots.size) (hv : v = f k) : Laid A (Ak.setSlot k v) lo (k + 1) f := by
  refine ⟨h.1, h.2.1, by simpa [Cell.setSlot] using h.2.2.1, fun i => ?_⟩
  by_cases e : k = i
  · subst e; rw [Cell.slots_setSlot_self v hk, if_pos (by omega), hv]
  · rw [Cell.slots_setSlot_ne v e, h.2.2.2 i]
    by_cases q : lo ≤ i ∧ i < k
    · rw [if_pos q, if_pos (by omega)]
    · rw [if_neg q, if_neg (by omega)]
def U16 : String := "java/lang/StringUTF16"
namespace Cmp5
def yN : MethodName := ⟨"java/lang/StringUTF16", "compress", "([CI[BII)I"⟩
abbrev yB : ByteArray := jdk_52_method_21_code
theorem d0 : decode yB 0 = .ok (.iconst 0, 1) := by decide +kernel
theorem d1 : decode yB 1 = .ok (.istore 5, 2) := by decide +kernel
theorem d3 : decode yB 3 = .ok (.iload 5, 2) := by decide +kernel
theorem d5 : decode yB 5 = .ok (.iload 4, 2) := by decide +kernel
theorem d7 : decode yB 7 = .ok (.if_icmp (.ge) 37, 3) := by decide +kernel
theorem d10 : decode yB 10 = .ok (.aload_n 0, 1) := by decide +kernel
theorem d11 : decode yB 11 = .ok (.iload_n 1, 1) := by decide +kernel
theorem d12 : decode yB 12 = .ok (.caload, 1) := by decide +kernel
theorem d13 : decode yB 13 = .ok (.istore 6, 2) := by decide +kernel
theorem d15 : decode yB 15 = .ok (.iload 6, 2) := by decide +kernel
theorem d17 : decode yB 17 = .ok (.sipush 255, 3) := by decide +kernel
theorem d20 : decode yB 20 = .ok (.if_icmp (.le) 6, 3) := by decide +kernel
theorem d26 : decode yB 26 = .ok (.aload_n 2, 1) := by decide +kernel
theorem d27 : decode yB 27 = .ok (.iload_n 3, 1) := by decide +kernel
theorem d28 : decode yB 28 = .ok (.iload 6, 2) := by decide +kernel
theorem d30 : decode yB 30 = .ok (.i2b, 1) := by decide +kernel
theorem d31 : decode yB 31 = .ok (.bastore, 1) := by decide +kernel
theorem d32 : decode yB 32 = .ok (.iinc 1 1, 3) := by decide +kernel
theorem d35 : decode yB 35 = .ok (.iinc 3 1, 3) := by decide +kernel
theorem d38 : decode yB 38 = .ok (.iinc 5 1, 3) := by decide +kernel
theorem d41 : decode yB 41 = .ok (.goto (-38), 3) := by decide +kernel
theorem d44 : decode yB 44 = .ok (.iload 4, 2) := by decide +kernel
theorem d46 : decode yB 46 = .ok (.ireturn, 1) := by decide +kernel
def site : List Cond := []
def tab : Cond := tabOf yN yB 7 (some .int) site
def P (b : Addr) (A : Cell) (d : Addr) (B : Cell) (o q len : Nat) (args : Array Value) (s : State) : Prop := args = #[.ref b, .int (Int32.ofNat o), .ref d, .int (Int32.ofNat q), .int (Int32.ofNat len)] ∧ Ch b A s ∧ Arr .byte d B s ∧ b ≠ d ∧ o + len ≤ A.slots.size ∧ q + len ≤ B.slots.size ∧ ∀ i, i < len → ¬ 255 < cv A (o + i)
def E (b : Addr) (A : Cell) (d : Addr) (B : Cell) (o q len : Nat) (r : Option Value) (s u : State) : Prop := r = some (.int (Int32.ofNat len)) ∧ ∃ B', Put d B' s u ∧ Laid B B' q (q + len) (fun j => Value.int (lo8 (cv A (o + (j - q)))))
/-- no char of the range above 255: len; the places written hold each char's low byte -/
theorem law (l : Launch) (b : Addr) (A : Cell) (d : Addr) (B : Cell) (o q len : Nat) : Law l yN 5 5 0 0 yB 7 (some .int) site (P b A d B o q len) (E b A d B o q len) (copyLocs d q len) 0 0 := by
  refine Law.of_walk (plainFor_of_name (by decide +kernel)) (by decide +kernel) (by decide +kernel) (by decide) (fun _ _ h => by rw [h.1]; rfl) (fun _ U U' hal hh h => ⟨h.1, h.2.1.mv hal hh, h.2.2.1.mv hal hh, h.2.2.2⟩) (fun r U U' V V' h1 hal h2 h => ⟨h.1, h.2.elim fun B' q => ⟨B', q.1.mv h1 h2, q.2⟩⟩) ?_
  intro p e s m args below meth c s₁ X0 hexec hbytes hml hret hlk hnm hown hh0 W hP
  obtain ⟨rfl, hA, hB, hne, l1, l2, hp⟩ := hP
  have c1 : Steps p.tables e below (s₁.setTop (entryFrame m #[.ref b, .int (Int32.ofNat o), .ref d, .int (Int32.ofNat q), .int (Int32.ofNat len)] 7)) (s₁.setTop (mkF m 0 #[.val (.ref b), .val (.int (Int32.ofNat o)), .val (.ref d), .val (.int (Int32.ofNat q)), .val (.int (Int32.ofNat len)), .unset, .unset] [])) := entry rfl
  have hA0 := hA.1.mv X0.warmed.alike hh0
  have hB0 := hB.mv X0.warmed.alike hh0
  have a31 := hA.1.2.2.2
  have c2 : Steps p.tables e below (s₁.setTop (entryFrame m #[.ref b, .int (Int32.ofNat o), .ref d, .int (Int32.ofNat q), .int (Int32.ofNat len)] 7)) (s₁.setTop (mkF m 3 #[.val (.ref b), .val (.int (Int32.ofNat o)), .val (.ref d), .val (.int (Int32.ofNat q)), .val (.int (Int32.ofNat len)), .val (.int 0), .unset] [])) := c1.trans (by
    refine iconstV X0.here hexec rfl 0 (hb hbytes d0) (by decide) ?_
    refine XS.istore X0.here hexec rfl (hb hbytes d1) rfl rfl ?_
    exact Steps.refl _)
  have loop : ∀ (r i : Nat), i + r = len → ∀ (z : Slot), (z = .unset ∨ ∃ w, z = .val w ∧ w.category = 1) → ∀ (Tl : State) (Bk : Cell), Stand p l e { frames := 0, locals := 0, cells := 0, slots := 0 } s m #[.ref b, .int (Int32.ofNat o), .ref d, .int (Int32.ofNat q), .int (Int32.ofNat len)] below meth c Tl ([] ++ copyLocs d q i) 0 0 → Put d Bk s₁ Tl → Laid B Bk q (q + i) (fun j => Value.int (lo8 (cv A (o + (j - q))))) →
      Steps p.tables e below (s₁.setTop (entryFrame m #[.ref b, .int (Int32.ofNat o), .ref d, .int (Int32.ofNat q), .int (Int32.ofNat len)] 7)) (Tl.setTop (mkF m 3 #[.val (.ref b), .val (.int (Int32.ofNat (o + i))), .val (.ref d), .val (.int (Int32.ofNat (q + i))), .val (.int (Int32.ofNat len)), .val (.int (Int32.ofNat i)), z] [])) → ∃ (T' : State) (B' : Cell) (z' : Slot), Stand p l e { frames := 0, locals := 0, cells := 0, slots := 0 } s m #[.ref b, .int (Int32.ofNat o), .ref d, .int (Int32.ofNat q), .int (Int32.ofNat len)] below meth c T' ([] ++ copyLocs d q len) 0 0 ∧ Put d B' s₁ T' ∧ Laid B B' q (q + len) (fun j => Value.int (lo8 (cv A (o + (j - q))))) ∧
      Steps p.tables e below (s₁.setTop (entryFrame m #[.ref b, .int (Int32.ofNat o), .ref d, .int (Int32.ofNat q), .int (Int32.ofNat len)] 7)) (T'.setTop (mkF m 3 #[.val (.ref b), .val (.int (Int32.ofNat (o + len))), .val (.ref d), .val (.int (Int32.ofNat (q + len))), .val (.int (Int32.ofNat len)), .val (.int (Int32.ofNat len)), z'] [])) := by
    intro r
    induction r with
    | zero =>
      intro i hi z hz Tl Bk Xl pl fl cl
      have hil : i = len := by omega
      rw [hil] at Xl fl cl
      exact ⟨Tl, Bk, z, Xl, pl, fl, cl⟩
    | succ r ih =>
      intro i hi z hz Tl Bk Xl pl fl cl
      have all := X0.warmed.alike.symm.trans Xl.warmed.alike
      have hAl := hA0.keep all (pl.other hne hA0.1)
      have hBk := hB0.like all pl.1 fl.1 fl.2.1 fl.2.2.1
      have hlt : q + i < Bk.slots.size := by rw [fl.2.2.1]; omega
      have c3 : Steps p.tables e below (s₁.setTop (entryFrame m #[.ref b, .int (Int32.ofNat o), .ref d, .int (Int32.ofNat q), .int (Int32.ofNat len)] 7)) (Tl.setTop (mkF m 12 #[.val (.ref b), .val (.int (Int32.ofNat (o + i))), .val (.ref d), .val (.int (Int32.ofNat (q + i))), .val (.int (Int32.ofNat len)), .val (.int (Int32.ofNat i)), z] [.int (Int32.ofNat (o + i)), .ref b])) := cl.trans (by
        refine XS.iload Xl.here hexec rfl (hb hbytes d3) rfl ?_
        refine XS.iload Xl.here hexec rfl (hb hbytes d5) rfl ?_
        refine XS.icmpNo Xl.here hexec rfl (hb hbytes d7) rfl (ii_ge_f (lt32 (by omega) (by omega))) ?_
        refine XS.aloadN Xl.here hexec rfl (hb hbytes d10) rfl rfl ?_
        refine XS.iloadN Xl.here hexec rfl (hb hbytes d11) rfl ?_
        exact Steps.refl _)
      have c4 : Steps p.tables e below (s₁.setTop (entryFrame m #[.ref b, .int (Int32.ofNat o), .ref d, .int (Int32.ofNat q), .int (Int32.ofNat len)] 7)) (Tl.setTop (mkF m 13 #[.val (.ref b), .val (.int (Int32.ofNat (o + i))), .val (.ref d), .val (.int (Int32.ofNat (q + i))), .val (.int (Int32.ofNat len)), .val (.int (Int32.ofNat i)), z] [.int (cv A (o + i))])) := c3.trans (by
        refine Xl.aget hexec hAl rfl (hA.get (i := o + i) (by omega)) rfl rfl (hb hbytes d12) ?_
        exact Steps.refl _)
      have c5 : Steps p.tables e below (s₁.setTop (entryFrame m #[.ref b, .int (Int32.ofNat o), .ref d, .int (Int32.ofNat q), .int (Int32.ofNat len)] 7)) (Tl.setTop (mkF m 15 #[.val (.ref b), .val (.int (Int32.ofNat (o + i))), .val (.ref d), .val (.int (Int32.ofNat (q + i))), .val (.int (Int32.ofNat len)), .val (.int (Int32.ofNat i)), .val (.int (cv A (o + i)))] [])) := c4.trans (by
        refine XS.istoreS Xl.here hexec rfl (hb hbytes d13) rfl rfl hz ?_
        exact Steps.refl _)
      have c6 : Steps p.tables e below (s₁.setTop (entryFrame m #[.ref b, .int (Int32.ofNat o), .ref d, .int (Int32.ofNat q), .int (Int32.ofNat len)] 7)) (Tl.setTop (mkF m 31 #[.val (.ref b), .val (.int (Int32.ofNat (o + i))), .val (.ref d), .val (.int (Int32.ofNat (q + i))), .val (.int (Int32.ofNat len)), .val (.int (Int32.ofNat i)), .val (.int (cv A (o + i)))] [.int (lo8 (cv A (o + i))), .int (Int32.ofNat (q + i)), .ref d])) := c5.trans (by
        refine XS.iload Xl.here hexec rfl (hb hbytes d15) rfl ?_
        refine sipushV Xl.here hexec rfl 255 (hb hbytes d17) (by decide) ?_
        refine XS.icmpYes Xl.here hexec rfl (pc0 := 20) rfl (hb hbytes d20) rfl (ii_le_t (hp i (by omega))) (by decide) rfl ?_
        refine XS.aloadN Xl.here hexec rfl (hb hbytes d26) rfl rfl ?_
        refine XS.iloadN Xl.here hexec rfl (hb hbytes d27) rfl ?_
        refine XS.iload Xl.here hexec rfl (hb hbytes d28) rfl ?_
        refine i2b Xl.here hexec rfl (hb hbytes d30) rfl ?_
        exact Steps.refl _)
      obtain ⟨T7, X7, p7, st7⟩ := Xl.aput hexec hBk rfl hlt rfl (fits_lo8 (cv A (o + i))) (g := (mkF m 31 #[.val (.ref b), .val (.int (Int32.ofNat (o + i))), .val (.ref d), .val (.int (Int32.ofNat (q + i))), .val (.int (Int32.ofNat len)), .val (.int (Int32.ofNat i)), .val (.int (cv A (o + i)))] [.int (lo8 (cv A (o + i))), .int (Int32.ofNat (q + i)), .ref d])) rfl (rest := []) rfl (hb hbytes d31)
      have c8 : Steps p.tables e below (s₁.setTop (entryFrame m #[.ref b, .int (Int32.ofNat o), .ref d, .int (Int32.ofNat q), .int (Int32.ofNat len)] 7)) (T7.setTop (mkF m 32 #[.val (.ref b), .val (.int (Int32.ofNat (o + i))), .val (.ref d), .val (.int (Int32.ofNat (q + i))), .val (.int (Int32.ofNat len)), .val (.int (Int32.ofNat i)), .val (.int (cv A (o + i)))] [])) := c6.trans (st7 _ (Steps.refl _))
      have c9 : Steps p.tables e below (s₁.setTop (entryFrame m #[.ref b, .int (Int32.ofNat o), .ref d, .int (Int32.ofNat q), .int (Int32.ofNat len)] 7)) (T7.setTop (mkF m 3 #[.val (.ref b), .val (.int (Int32.ofNat (o + i) + 1)), .val (.ref d), .val (.int (Int32.ofNat (q + i) + 1)), .val (.int (Int32.ofNat len)), .val (.int (Int32.ofNat i + 1)), .val (.int (cv A (o + i)))] [])) := c8.trans (by
        refine iincV X7.here hexec rfl 1 (hb hbytes d32) (by decide) rfl rfl ?_
        refine iincV X7.here hexec rfl 1 (hb hbytes d35) (by decide) rfl rfl ?_
        refine iincV X7.here hexec rfl 1 (hb hbytes d38) (by decide) rfl rfl ?_
        refine XS.goto X7.here hexec rfl (pc0 := 41) rfl (hb hbytes d41) (by decide) rfl ?_
        exact Steps.refl _)
      have c10 : Steps p.tables e below (s₁.setTop (entryFrame m #[.ref b, .int (Int32.ofNat o), .ref d, .int (Int32.ofNat q), .int (Int32.ofNat len)] 7)) (T7.setTop (mkF m 3 #[.val (.ref b), .val (.int (Int32.ofNat (o + (i + 1)))), .val (.ref d), .val (.int (Int32.ofNat (q + (i + 1)))), .val (.int (Int32.ofNat len)), .val (.int (Int32.ofNat (i + 1))), .val (.int (cv A (o + i)))] [])) := by
        have := c9
        rw [succ32, succ32, succ32] at this
        exact this
      exact ih (i + 1) (by omega) _ (Or.inr ⟨_, rfl, rfl⟩) T7 _ (by rw [copyLocs_step, ← List.append_assoc]; exact X7) (pl.trans p7) (fl.step (by omega) hlt (by simp)) c10
  obtain ⟨T9, B9, z9, X9, p9, f9, g9⟩ := loop len 0 (by omega) .unset (Or.inl rfl) s₁ B (by simpa [copyLocs] using X0) ⟨hB0.1, fun _ _ => rfl, rfl⟩ (Laid.zero _ _ _) c2
  have c11 : Steps p.tables e below (s₁.setTop (entryFrame m #[.ref b, .int (Int32.ofNat o), .ref d, .int (Int32.ofNat q), .int (Int32.ofNat len)] 7)) (T9.setTop (mkF m 46 #[.val (.ref b), .val (.int (Int32.ofNat (o + len))), .val (.ref d), .val (.int (Int32.ofNat (q + len))), .val (.int (Int32.ofNat len)), .val (.int (Int32.ofNat len)), z9] [.int (Int32.ofNat len)])) := g9.trans (by
    refine XS.iload X9.here hexec rfl (hb hbytes d3) rfl ?_
    refine XS.iload X9.here hexec rfl (hb hbytes d5) rfl ?_
    refine XS.icmpYes X9.here hexec rfl (pc0 := 7) rfl (hb hbytes d7) rfl (ii_ge_t (nlt32 (by omega) (Nat.le_refl _))) (by decide) rfl ?_
    refine XS.iload X9.here hexec rfl (hb hbytes d44) rfl ?_
    exact Steps.refl _)
  exact ⟨T9, some (.int (Int32.ofNat len)), _, _, _, X9, by simp, rfl, rfl, (fun h => by cases h), ⟨rfl, B9, p9.from hh0, f9⟩, fun fs hl => c11.trans (X9.ireturnOut hexec hret rfl (Or.inl rfl) (hb hbytes d46) hl)⟩
end Cmp5
namespace Cmp3
def yN : MethodName := ⟨"java/lang/StringUTF16", "compress", "([CII)[B"⟩
abbrev yB : ByteArray := jdk_52_method_16_code
theorem d0 : decode yB 0 = .ok (.iload_n 2, 1) := by decide +kernel
theorem d1 : decode yB 1 = .ok (.newarray .byte, 2) := by decide +kernel
theorem d3 : decode yB 3 = .ok (.astore_n 3, 1) := by decide +kernel
theorem d4 : decode yB 4 = .ok (.aload_n 0, 1) := by decide +kernel
theorem d5 : decode yB 5 = .ok (.iload_n 1, 1) := by decide +kernel
theorem d6 : decode yB 6 = .ok (.aload_n 3, 1) := by decide +kernel
theorem d7 : decode yB 7 = .ok (.iconst 0, 1) := by decide +kernel
theorem d8 : decode yB 8 = .ok (.iload_n 2, 1) := by decide +kernel
theorem d9 : decode yB 9 = .ok (.invokestatic 115, 3) := by decide +kernel
theorem d12 : decode yB 12 = .ok (.istore 4, 2) := by decide +kernel
theorem d14 : decode yB 14 = .ok (.iload 4, 2) := by decide +kernel
theorem d16 : decode yB 16 = .ok (.iload_n 2, 1) := by decide +kernel
theorem d17 : decode yB 17 = .ok (.if_icmp (.eq) 40, 3) := by decide +kernel
theorem d57 : decode yB 57 = .ok (.aload_n 3, 1) := by decide +kernel
theorem d58 : decode yB 58 = .ok (.areturn, 1) := by decide +kernel
def site : List Cond := [.arrayClass .byte, Cmp5.tab] ++ staticW U16 115 Cmp5.yN
def tab : Cond := tabOf yN yB 6 (some (.array .byte)) site
def P (b : Addr) (A : Cell) (o len : Nat) (args : Array Value) (s : State) : Prop := args = #[.ref b, .int (Int32.ofNat o), .int (Int32.ofNat len)] ∧ Ch b A s ∧ o + len ≤ A.slots.size ∧ len ≤ 536870912 ∧ ∀ i, i < len → ¬ 255 < cv A (o + i)
def E (b : Addr) (A : Cell) (o len : Nat) (r : Option Value) (s u : State) : Prop := NewArr .byte "[B" len (fun j => .int (lo8 (cv A (o + j)))) r s u ∧ u.heap.size = s.heap.size + 1
/-- no char of the range above 255: a new byte[] of their low bytes -/
theorem law (l : Launch) (b : Addr) (A : Cell) (o len : Nat) : Law l yN 3 3 1 18 yB 6 (some (.array .byte)) site (P b A o len) (E b A o len) [] 1 len := by
  refine Law.of_walk (plainFor_of_name (by decide +kernel)) (by decide +kernel) (by decide +kernel) (by decide) (fun _ _ h => by rw [h.1]; rfl) (fun _ U U' hal hh h => ⟨h.1, h.2.1.mv hal hh, h.2.2⟩) (fun r U U' V V' h1 hal h2 h => ⟨NewArr.mv r U U' V V' h1 hal h2 h.1, by rw [h1, h2]; exact h.2⟩) ?_
  intro p e s m args below meth c s₁ X0 hexec hbytes hml hret hlk hnm hown hh0 W hP
  obtain ⟨rfl, hA, l1, l2, hp⟩ := hP
  have a31 := hA.1.2.2.2
  have c1 : Steps p.tables e below (s₁.setTop (entryFrame m #[.ref b, .int (Int32.ofNat o), .int (Int32.ofNat len)] 6)) (s₁.setTop (mkF m 0 #[.val (.ref b), .val (.int (Int32.ofNat o)), .val (.int (Int32.ofNat len)), .unset, .unset, .unset] [])) := entry rfl
  have c2 : Steps p.tables e below (s₁.setTop (entryFrame m #[.ref b, .int (Int32.ofNat o), .int (Int32.ofNat len)] 6)) (s₁.setTop (mkF m 1 #[.val (.ref b), .val (.int (Int32.ofNat o)), .val (.int (Int32.ofNat len)), .unset, .unset, .unset] [.int (Int32.ofNat len)])) := c1.trans (by
    refine XS.iloadN X0.here hexec rfl (hb hbytes d0) rfl ?_
    exact Steps.refl _)
  obtain ⟨T3, B3, X3, ba3, bs3, bv3, bh3, bf3, st3⟩ := X0.anew hexec (atype := .byte) (wk W (.arrayClass .byte)) rfl (by show len * 1 ≤ _; omega) (by omega) (g := (mkF m 1 #[.val (.ref b), .val (.int (Int32.ofNat o)), .val (.int (Int32.ofNat len)), .unset, .unset, .unset] [.int (Int32.ofNat len)])) rfl (hb hbytes d1) (rest := []) rfl (Nat.le_refl _) (by show 0 + len ≤ len; omega)
  rw [hh0] at ba3 st3
  have kp3 : XT.Kept s T3 := (XT.Kept.of_eq hh0).push bh3
  have hA3 := hA.keep X3.warmed.alike (kp3 _ _ hA.1.1)
  have hne : b ≠ s.heap.size := hA.1.ne
  have c4 : Steps p.tables e below (s₁.setTop (entryFrame m #[.ref b, .int (Int32.ofNat o), .int (Int32.ofNat len)] 6)) (T3.setTop (mkF m 3 #[.val (.ref b), .val (.int (Int32.ofNat o)), .val (.int (Int32.ofNat len)), .unset, .unset, .unset] [.ref s.heap.size])) := c2.trans (st3 _ (Steps.refl _))
  have c5 : Steps p.tables e below (s₁.setTop (entryFrame m #[.ref b, .int (Int32.ofNat o), .int (Int32.ofNat len)] 6)) (T3.setTop (mkF m 9 #[.val (.ref b), .val (.int (Int32.ofNat o)), .val (.int (Int32.ofNat len)), .val (.ref s.heap.size), .unset, .unset] [.int (Int32.ofNat len), .int 0, .ref s.heap.size, .int (Int32.ofNat o), .ref b])) := c4.trans (by
    refine XS.astoreN X3.here hexec rfl (hb hbytes d3) rfl rfl rfl ?_
    refine XS.aloadN X3.here hexec rfl (hb hbytes d4) rfl rfl ?_
    refine XS.iloadN X3.here hexec rfl (hb hbytes d5) rfl ?_
    refine XS.aloadN X3.here hexec rfl (hb hbytes d6) rfl rfl ?_
    refine iconstV X3.here hexec rfl 0 (hb hbytes d7) (by decide) ?_
    refine XS.iloadN X3.here hexec rfl (hb hbytes d8) rfl ?_
    exact Steps.refl _)
  obtain ⟨v6, T6, X6, E6, g6⟩ := X3.callS hexec (Cmp5.law l b A s.heap.size B3 o 0 len) hown (wks W (staticW U16 115 Cmp5.yN)) (wk W Cmp5.tab) (W := 0) (Nat.le_of_ble_eq_true rfl) (Nat.le_of_ble_eq_true rfl) (Nat.le_refl _) (by show 0 + len + 0 ≤ len; omega) (g := (mkF m 9 #[.val (.ref b), .val (.int (Int32.ofNat o)), .val (.int (Int32.ofNat len)), .val (.ref s.heap.size), .unset, .unset] [.int (Int32.ofNat len), .int (Int32.ofNat 0), .ref s.heap.size, .int (Int32.ofNat o), .ref b])) rfl (by rw [hml]; rfl) c5 (argsL := [.ref b, .int (Int32.ofNat o), .ref s.heap.size, .int (Int32.ofNat 0), .int (Int32.ofNat len)]) (rest := []) rfl rfl (by show 2 * 0 + 0 ≤ _; decide) (hb hbytes d9) (⟨rfl, hA3, ba3, hne, l1, by rw [bs3]; simp, hp⟩)
  obtain ⟨rfl, B6, p6, f6⟩ := E6
  have c7 : Steps p.tables e below (s₁.setTop (entryFrame m #[.ref b, .int (Int32.ofNat o), .int (Int32.ofNat len)] 6)) (T6.setTop (mkF m 12 #[.val (.ref b), .val (.int (Int32.ofNat o)), .val (.int (Int32.ofNat len)), .val (.ref s.heap.size), .unset, .unset] [.int (Int32.ofNat len)])) := g6
  have c8 : Steps p.tables e below (s₁.setTop (entryFrame m #[.ref b, .int (Int32.ofNat o), .int (Int32.ofNat len)] 6)) (T6.setTop (mkF m 58 #[.val (.ref b), .val (.int (Int32.ofNat o)), .val (.int (Int32.ofNat len)), .val (.ref s.heap.size), .val (.int (Int32.ofNat len)), .unset] [.ref s.heap.size])) := c7.trans (by
    refine XS.istore X6.here hexec rfl (hb hbytes d12) rfl rfl ?_
    refine XS.iload X6.here hexec rfl (hb hbytes d14) rfl ?_
    refine XS.iloadN X6.here hexec rfl (hb hbytes d16) rfl ?_
    refine XS.icmpYes X6.here hexec rfl (pc0 := 17) rfl (hb hbytes d17) rfl (ii_eq_t rfl) (by decide) rfl ?_
    refine XS.aloadN X6.here hexec rfl (hb hbytes d57) rfl rfl ?_
    exact Steps.refl _)
  have X8 := X6.wide (L' := []) (cells' := 1) (slots' := len) (fun x hx hlt => by
    simp only [List.nil_append, copyLocs, List.mem_map, List.mem_range] at hx
    obtain ⟨i, -, rfl⟩ := hx
    exact absurd hlt (Nat.lt_irrefl _)) (Nat.le_refl _) (by omega)
  exact ⟨T6, some (.ref s.heap.size), _, _, _, X8, rfl, rfl, rfl, (fun h => by cases h), ⟨⟨rfl, B6, ba3.like (X3.warmed.alike.symm.trans X6.warmed.alike) p6.1 f6.1 f6.2.1 f6.2.2.1, f6.2.1.trans bv3, by rw [X6.warmed.alike.findClass, f6.1]; exact bf3, by rw [f6.2.2.1, bs3]; simp, fun j hj => by rw [f6.2.2.2 j, if_pos (by omega)]; rfl, kp3.put p6 (Nat.le_refl _)⟩, by rw [p6.2.2, bh3, hh0]; simp⟩, fun fs hl => c8.trans (X8.areturnOut hexec rfl hret rfl (hb hbytes d58) hl)⟩
end Cmp3
namespace CodL
def yN : MethodName := ⟨"java/lang/StringUTF16", "coderFromArrayLen", "([BI)B"⟩
abbrev yB : ByteArray := jdk_52_method_15_code
theorem d0 : decode yB 0 = .ok (.iload_n 1, 1) := by decide +kernel
theorem d1 : decode yB 1 = .ok (.aload_n 0, 1) := by decide +kernel
theorem d2 : decode yB 2 = .ok (.arraylength, 1) := by decide +kernel
theorem d3 : decode yB 3 = .ok (.isub, 1) := by decide +kernel
theorem d4 : decode yB 4 = .ok (.bipush 31, 2) := by decide +kernel
theorem d6 : decode yB 6 = .ok (.iushr, 1) := by decide +kernel
theorem d7 : decode yB 7 = .ok (.i2b, 1) := by decide +kernel
theorem d8 : decode yB 8 = .ok (.ireturn, 1) := by decide +kernel
def site : List Cond := []
def tab : Cond := tabOf yN yB 2 (some .byte) site
def P (d : Addr) (B : Cell) (args : Array Value) (s : State) : Prop := args = #[.ref d, .int (Int32.ofNat B.slots.size)] ∧ Arr .byte d B s
def E (r : Option Value) (s u : State) : Prop := XT.PureE (some (.int 0)) r s u
/-- an array as long as the number of chars: LATIN1 -/
theorem law (l : Launch) (d : Addr) (B : Cell) : Law l yN 2 2 0 0 yB 2 (some .byte) site (P d B) E [] 0 0 := by
  refine Law.of_walk (plainFor_of_name (by decide +kernel)) (by decide +kernel) (by decide +kernel) (by decide) (fun _ _ h => by rw [h.1]; rfl) (fun _ U U' hal hh h => ⟨h.1, h.2.mv hal hh⟩) (fun r U U' V V' h1 hal h2 h => XT.PureE.mv r U U' V V' h1 hal h2 h) ?_
  intro p e s m args below meth c s₁ X0 hexec hbytes hml hret hlk hnm hown hh0 W hP
  obtain ⟨rfl, hB⟩ := hP
  have hB0 := hB.mv X0.warmed.alike hh0
  have c1 : Steps p.tables e below (s₁.setTop (entryFrame m #[.ref d, .int (Int32.ofNat B.slots.size)] 2)) (s₁.setTop (mkF m 0 #[.val (.ref d), .val (.int (Int32.ofNat B.slots.size))] [])) := entry rfl
  have c2 : Steps p.tables e below (s₁.setTop (entryFrame m #[.ref d, .int (Int32.ofNat B.slots.size)] 2)) (s₁.setTop (mkF m 2 #[.val (.ref d), .val (.int (Int32.ofNat B.slots.size))] [.ref d, .int (Int32.ofNat B.slots.size)])) := c1.trans (by
    refine XS.iloadN X0.here hexec rfl (hb hbytes d0) rfl ?_
    refine XS.aloadN X0.here hexec rfl (hb hbytes d1) rfl rfl ?_
    exact Steps.refl _)
  have c3 : Steps p.tables e below (s₁.setTop (entryFrame m #[.ref d, .int (Int32.ofNat B.slots.size)] 2)) (s₁.setTop (mkF m 8 #[.val (.ref d), .val (.int (Int32.ofNat B.slots.size))] [.int (lo8 (ushr (Int32.ofNat B.slots.size - Int32.ofNat B.slots.size) 31))])) := c2.trans (by
    refine X0.alen hexec hB0 rfl rfl (hb hbytes d2) ?_
    refine XS.isub X0.here hexec rfl (hb hbytes d3) rfl ?_
    refine bipushV X0.here hexec rfl 31 (hb hbytes d4) (by decide) ?_
    refine iushr X0.here hexec rfl (hb hbytes d6) rfl ?_
    refine i2b X0.here hexec rfl (hb hbytes d7) rfl ?_
    exact Steps.refl _)
  have e0 : lo8 (ushr (Int32.ofNat B.slots.size - Int32.ofNat B.slots.size) 31) = 0 := by rw [Int32.sub_self]; decide
  rw [e0] at c3
  exact ⟨s₁, some (.int 0), _, _, _, X0, rfl, rfl, rfl, (fun h => by cases h), ⟨rfl, hh0⟩, fun fs hl => c3.trans (X0.ireturnOut hexec hret rfl (Or.inr (Or.inr (Or.inl rfl))) (hb hbytes d8) hl)⟩
end CodL
/-- the String at a is Latin-1 over a new byte[] (the heap's one new cell): the low bytes of the len chars of A from o on; every cell but a is kept -/
def Got (a : Addr) (D : Cell) (fV fC : Field) (A : Cell) (o len : Nat) (r : Option Value) (s u : State) : Prop := r = none ∧ ∃ D' V : Cell, Blank "java/lang/String" a D' u ∧ Same D D' [fV.slot, fC.slot] ∧ D'.slots[fV.slot]? = some (.ref s.heap.size) ∧ D'.slots[fC.slot]? = some (.int 0) ∧ Arr .byte s.heap.size V u ∧ V.vm = .none ∧ u.vm.findClass "[B" = some V.cls ∧ V.slots.size = len ∧ (∀ j, j < len → V.slots[j]? = some (.int (lo8 (cv A (o + j))))) ∧ (∀ (y : Addr) (c : Cell), y ≠ a → s.heap[y]? = some c → u.heap[y]? = some c) ∧ u.heap.size = s.heap.size + 1
theorem Got.mv {a : Addr} {D A : Cell} {fV fC : Field} {o len : Nat} : ∀ r (U U' V V' : State), U'.heap = U.heap → V.vm.Alike V'.vm → V'.heap = V.heap → Got a D fV fC A o len r U V → Got a D fV fC A o len r U' V' :=
  fun r U U' V V' h1 hal h2 ⟨e0, D', X, a1, a2, a3, a4, a5, a6, a7, a8, a9, a10, a11⟩ => ⟨e0, D', X, a1.mv hal h2, a2, by rw [h1]; exact a3, a4, by rw [h1]; exact a5.mv hal h2, a6, by rw [hal.findClass]; exact a7, a8, a9, by rw [h1, h2]; exact a10, by rw [h1, h2]; exact a11⟩
namespace New4
def yN : MethodName := ⟨"java/lang/String", "<init>", "([CIILjava/lang/Void;)V"⟩
abbrev yB : ByteArray := jdk_42_method_149_code
theorem d0 : decode yB 0 = .ok (.aload_n 0, 1) := by decide +kernel
theorem d1 : decode yB 1 = .ok (.invokespecial 1, 3) := by decide +kernel
theorem d4 : decode yB 4 = .ok (.iload_n 3, 1) := by decide +kernel
theorem d5 : decode yB 5 = .ok (.ifCond (.ne) 22, 3) := by decide +kernel
theorem d27 : decode yB 27 = .ok (.getstatic 38, 3) := by decide +kernel
theorem d30 : decode yB 30 = .ok (.ifCond (.eq) 28, 3) := by decide +kernel
theorem d33 : decode yB 33 = .ok (.aload_n 1, 1) := by decide +kernel
theorem d34 : decode yB 34 = .ok (.iload_n 2, 1) := by decide +kernel
theorem d35 : decode yB 35 = .ok (.iload_n 3, 1) := by decide +kernel
theorem d36 : decode yB 36 = .ok (.invokestatic 177, 3) := by decide +kernel
theorem d39 : decode yB 39 = .ok (.astore 5, 2) := by decide +kernel
theorem d41 : decode yB 41 = .ok (.aload_n 0, 1) := by decide +kernel
theorem d42 : decode yB 42 = .ok (.aload 5, 2) := by decide +kernel
theorem d44 : decode yB 44 = .ok (.iload_n 3, 1) := by decide +kernel
theorem d45 : decode yB 45 = .ok (.invokestatic 47, 3) := by decide +kernel
theorem d48 : decode yB 48 = .ok (.putfield 15, 3) := by decide +kernel
theorem d51 : decode yB 51 = .ok (.aload_n 0, 1) := by decide +kernel
theorem d52 : decode yB 52 = .ok (.aload 5, 2) := by decide +kernel
theorem d54 : decode yB 54 = .ok (.putfield 9, 3) := by decide +kernel
theorem d57 : decode yB 57 = .ok (.return_, 1) := by decide +kernel
def site : List Cond := [.fieldLink "java/lang/String" 38 "java/lang/String" "COMPACT_STRINGS" "Z", Cmp3.tab, CodL.tab, .laysFinal "java/lang/String" "java/lang/String" "value" "[B", .fieldLink "java/lang/String" 9 "java/lang/String" "value" "[B", .laysFinal "java/lang/String" "java/lang/String" "coder" "B", .fieldLink "java/lang/String" 15 "java/lang/String" "coder" "B"] ++ objW "java/lang/String" 1 ++ staticW "java/lang/String" 177 Cmp3.yN ++ staticW "java/lang/String" 47 CodL.yN
def tab : Cond := tabOf yN yB 6 none site
def P (a : Addr) (D : Cell) (fV fC : Field) (b : Addr) (A : Cell) (z : Int32) (o len : Nat) (args : Array Value) (s : State) : Prop := args = #[.ref a, .ref b, .int (Int32.ofNat o), .int (Int32.ofNat len), .null] ∧ Blank "java/lang/String" a D s ∧ Found "java/lang/String" "value" "[B" fV s ∧ Found "java/lang/String" "coder" "B" fC s ∧ Ch b A s ∧ StaticIs s "java/lang/String" "COMPACT_STRINGS" "Z" (.int z) ∧ ¬ z = 0 ∧ 0 < len ∧ o + len ≤ A.slots.size ∧ len ≤ 536870912 ∧ ∀ i, i < len → ¬ 255 < cv A (o + i)
def E (a : Addr) (D : Cell) (fV fC : Field) (A : Cell) (o len : Nat) (r : Option Value) (s u : State) : Prop := Got a D fV fC A o len r s u
/-- len > 0, no char of the range above 255: a Latin-1 String of their low bytes -/
theorem law (l : Launch) (a : Addr) (D : Cell) (fV fC : Field) (b : Addr) (A : Cell) (z : Int32) (o len : Nat) : Law l yN 5 4 2 35 yB 6 none site (P a D fV fC b A z o len) (E a D fV fC A o len) [⟨a, fC.slot⟩, ⟨a, fV.slot⟩] 1 len := by
  refine Law.of_walk (plainFor_of_name (by decide +kernel)) (by decide +kernel) (by decide +kernel) (by decide) (fun _ _ h => by rw [h.1]; rfl) (fun _ U U' hal hh h => ⟨h.1, h.2.1.mv hal hh, h.2.2.1.al hal, h.2.2.2.1.al hal, h.2.2.2.2.1.mv hal hh, h.2.2.2.2.2.1.there hal hh, h.2.2.2.2.2.2⟩) (fun r U U' V V' h1 hal h2 h => Got.mv r U U' V V' h1 hal h2 h) ?_
  intro p e s m args below meth c s₁ X0 hexec hbytes hml hret hlk hnm hown hh0 W hP
  obtain ⟨rfl, hB, f1, f2, hA, s1, hz, l0, l1, l2, hp⟩ := hP
  have a31 := hA.1.2.2.2
  have c1 : Steps p.tables e below (s₁.setTop (entryFrame m #[.ref a, .ref b, .int (Int32.ofNat o), .int (Int32.ofNat len), .null] 6)) (s₁.setTop (mkF m 0 #[.val (.ref a), .val (.ref b), .val (.int (Int32.ofNat o)), .val (.int (Int32.ofNat len)), .val .null, .unset] [])) := entry rfl
  have c2 : Steps p.tables e below (s₁.setTop (entryFrame m #[.ref a, .ref b, .int (Int32.ofNat o), .int (Int32.ofNat len), .null] 6)) (s₁.setTop (mkF m 1 #[.val (.ref a), .val (.ref b), .val (.int (Int32.ofNat o)), .val (.int (Int32.ofNat len)), .val .null, .unset] [.ref a])) := c1.trans (by
    refine XS.aloadN X0.here hexec rfl (hb hbytes d0) rfl rfl ?_
    exact Steps.refl _)
  obtain ⟨T3, X3, q3, st3⟩ := X0.oinit hexec hown (wks W (objW "java/lang/String" 1)) (g := (mkF m 1 #[.val (.ref a), .val (.ref b), .val (.int (Int32.ofNat o)), .val (.int (Int32.ofNat len)), .val .null, .unset] [.ref a])) rfl (by rw [hml]; rfl) (rest := []) rfl (hb hbytes d1) (W := 0) (by show 2 * 0 + 0 ≤ _; decide) (Nat.le_of_ble_eq_true rfl) (Nat.le_of_ble_eq_true rfl)
  have hh3 := q3.trans hh0
  have c4 : Steps p.tables e below (s₁.setTop (entryFrame m #[.ref a, .ref b, .int (Int32.ofNat o), .int (Int32.ofNat len), .null] 6)) (T3.setTop (mkF m 27 #[.val (.ref a), .val (.ref b), .val (.int (Int32.ofNat o)), .val (.int (Int32.ofNat len)), .val .null, .unset] [])) := (c2.trans (st3 _ (Steps.refl _))).trans (by
    refine XS.iloadN X3.here hexec rfl (hb hbytes d4) rfl ?_
    refine XS.ifYes X3.here hexec rfl (pc0 := 5) rfl (hb hbytes d5) rfl (i0_ne_t (nz32 (by omega) l0)) (by decide) rfl ?_
    exact Steps.refl _)
  obtain ⟨T5, X5, q5, st5⟩ := X3.sget hexec hown (wk W (.fieldLink "java/lang/String" 38 "java/lang/String" "COMPACT_STRINGS" "Z")) s1 (fun _ _ h => by rw [hh3]; exact h) (g := (mkF m 27 #[.val (.ref a), .val (.ref b), .val (.int (Int32.ofNat o)), .val (.int (Int32.ofNat len)), .val .null, .unset] [])) rfl (hb hbytes d27)
  have hh5 := q5.trans hh3
  have c6 : Steps p.tables e below (s₁.setTop (entryFrame m #[.ref a, .ref b, .int (Int32.ofNat o), .int (Int32.ofNat len), .null] 6)) (T5.setTop (mkF m 30 #[.val (.ref a), .val (.ref b), .val (.int (Int32.ofNat o)), .val (.int (Int32.ofNat len)), .val .null, .unset] [.int z])) := c4.trans (st5 _ (Steps.refl _))
  have c7 : Steps p.tables e below (s₁.setTop (entryFrame m #[.ref a, .ref b, .int (Int32.ofNat o), .int (Int32.ofNat len), .null] 6)) (T5.setTop (mkF m 36 #[.val (.ref a), .val (.ref b), .val (.int (Int32.ofNat o)), .val (.int (Int32.ofNat len)), .val .null, .unset] [.int (Int32.ofNat len), .int (Int32.ofNat o), .ref b])) := c6.trans (by
    refine XS.ifNo X5.here hexec rfl (hb hbytes d30) rfl (i0_eq_f hz) ?_
    refine XS.aloadN X5.here hexec rfl (hb hbytes d33) rfl rfl ?_
    refine XS.iloadN X5.here hexec rfl (hb hbytes d34) rfl ?_
    refine XS.iloadN X5.here hexec rfl (hb hbytes d35) rfl ?_
    exact Steps.refl _)
  obtain ⟨v8, T8, X8, E8, g8⟩ := X5.callS hexec (Cmp3.law l b A o len) hown (wks W (staticW "java/lang/String" 177 Cmp3.yN)) (wk W Cmp3.tab) (W := 0) (Nat.le_of_ble_eq_true rfl) (Nat.le_of_ble_eq_true rfl) (Nat.le_refl _) (by show 0 + len ≤ len; omega) (g := (mkF m 36 #[.val (.ref a), .val (.ref b), .val (.int (Int32.ofNat o)), .val (.int (Int32.ofNat len)), .val .null, .unset] [.int (Int32.ofNat len), .int (Int32.ofNat o), .ref b])) rfl (by rw [hml]; rfl) c7 (argsL := [.ref b, .int (Int32.ofNat o), .int (Int32.ofNat len)]) (rest := []) rfl rfl (by show 2 * 0 + 0 ≤ _; decide) (hb hbytes d36) (⟨rfl, hA.mv X5.warmed.alike hh5, l1, l2, hp⟩)
  obtain ⟨e8, z8⟩ := E8
  obtain ⟨rfl, N, n1, n2, n3, n4, n5, n6⟩ := NewArr.mv _ T5 s _ _ hh5.symm (Vm.Alike.refl _) rfl e8
  rw [hh5] at z8
  have hB1 := hB.keep X8.warmed.alike (n6 _ _ hB.1)
  have hne : s.heap.size ≠ a := (Nat.ne_of_lt (Array.getElem?_eq_some_iff.mp hB.1).1).symm
  have c9 : Steps p.tables e below (s₁.setTop (entryFrame m #[.ref a, .ref b, .int (Int32.ofNat o), .int (Int32.ofNat len), .null] 6)) (T8.setTop (mkF m 39 #[.val (.ref a), .val (.ref b), .val (.int (Int32.ofNat o)), .val (.int (Int32.ofNat len)), .val .null, .unset] [.ref s.heap.size])) := g8
  have c10 : Steps p.tables e below (s₁.setTop (entryFrame m #[.ref a, .ref b, .int (Int32.ofNat o), .int (Int32.ofNat len), .null] 6)) (T8.setTop (mkF m 45 #[.val (.ref a), .val (.ref b), .val (.int (Int32.ofNat o)), .val (.int (Int32.ofNat len)), .val .null, .val (.ref s.heap.size)] [.int (Int32.ofNat N.slots.size), .ref s.heap.size, .ref a])) := by
    have hc : Steps p.tables e below (s₁.setTop (entryFrame m #[.ref a, .ref b, .int (Int32.ofNat o), .int (Int32.ofNat len), .null] 6)) (T8.setTop (mkF m 45 #[.val (.ref a), .val (.ref b), .val (.int (Int32.ofNat o)), .val (.int (Int32.ofNat len)), .val .null, .val (.ref s.heap.size)] [.int (Int32.ofNat len), .ref s.heap.size, .ref a])) := c9.trans (by
      refine XS.astore X8.here hexec rfl (hb hbytes d39) rfl rfl rfl ?_
      refine XS.aloadN X8.here hexec rfl (hb hbytes d41) rfl rfl ?_
      refine XS.aload X8.here hexec rfl (hb hbytes d42) rfl rfl ?_
      refine XS.iloadN X8.here hexec rfl (hb hbytes d44) rfl ?_
      exact Steps.refl _)
    rw [n4]; exact hc
  obtain ⟨v11, T11, X11, E11, g11⟩ := X8.callS hexec (CodL.law l s.heap.size N) hown (wks W (staticW "java/lang/String" 47 CodL.yN)) (wk W CodL.tab) (W := 1) (Nat.le_of_ble_eq_true rfl) (Nat.le_of_ble_eq_true rfl) (Nat.le_refl _) (by show 0 + len + 0 ≤ len; omega) (g := (mkF m 45 #[.val (.ref a), .val (.ref b), .val (.int (Int32.ofNat o)), .val (.int (Int32.ofNat len)), .val .null, .val (.ref s.heap.size)] [.int (Int32.ofNat N.slots.size), .ref s.heap.size, .ref a])) rfl (by rw [hml]; rfl) c10 (argsL := [.ref s.heap.size, .int (Int32.ofNat N.slots.size)]) (rest := [.ref a]) rfl rfl (by show 2 * 0 + (1 + 0) ≤ _; decide) (hb hbytes d45) (⟨rfl, n1⟩)
  obtain ⟨rfl, q11⟩ := E11
  have hB11 := hB1.mv (X8.warmed.alike.symm.trans X11.warmed.alike) q11
  have c12 : Steps p.tables e below (s₁.setTop (entryFrame m #[.ref a, .ref b, .int (Int32.ofNat o), .int (Int32.ofNat len), .null] 6)) (T11.setTop (mkF m 48 #[.val (.ref a), .val (.ref b), .val (.int (Int32.ofNat o)), .val (.int (Int32.ofNat len)), .val .null, .val (.ref s.heap.size)] [.int 0, .ref a])) := g11
  obtain ⟨T13, X13, p13, bl13, sl13, st13⟩ := X11.finit hexec hown (wk W (.fieldLink "java/lang/String" 15 "java/lang/String" "coder" "B")) (Or.inr ⟨_, (wk W (.laysFinal "java/lang/String" "java/lang/String" "coder" "B"))⟩) (Or.inl ⟨rfl, hnm⟩) f2 (Or.inl rfl) hB11 (t := .byte) (by decide +kernel) rfl (g := (mkF m 48 #[.val (.ref a), .val (.ref b), .val (.int (Int32.ofNat o)), .val (.int (Int32.ofNat len)), .val .null, .val (.ref s.heap.size)] [.int 0, .ref a])) rfl (rest := []) rfl (hb hbytes d48)
  have c14 : Steps p.tables e below (s₁.setTop (entryFrame m #[.ref a, .ref b, .int (Int32.ofNat o), .int (Int32.ofNat len), .null] 6)) (T13.setTop (mkF m 54 #[.val (.ref a), .val (.ref b), .val (.int (Int32.ofNat o)), .val (.int (Int32.ofNat len)), .val .null, .val (.ref s.heap.size)] [.ref s.heap.size, .ref a])) := (c12.trans (st13 _ (Steps.refl _))).trans (by
    refine XS.aloadN X13.here hexec rfl (hb hbytes d51) rfl rfl ?_
    refine XS.aload X13.here hexec rfl (hb hbytes d52) rfl rfl ?_
    exact Steps.refl _)
  obtain ⟨T15, X15, p15, bl15, sl15, st15⟩ := X13.finit hexec hown (wk W (.fieldLink "java/lang/String" 9 "java/lang/String" "value" "[B")) (Or.inr ⟨_, (wk W (.laysFinal "java/lang/String" "java/lang/String" "value" "[B"))⟩) (Or.inl ⟨rfl, hnm⟩) f1 (Or.inl rfl) bl13 (t := (.array .byte)) (by decide +kernel) rfl (g := (mkF m 54 #[.val (.ref a), .val (.ref b), .val (.int (Int32.ofNat o)), .val (.int (Int32.ofNat len)), .val .null, .val (.ref s.heap.size)] [.ref s.heap.size, .ref a])) rfl (rest := []) rfl (hb hbytes d54)
  have c16 : Steps p.tables e below (s₁.setTop (entryFrame m #[.ref a, .ref b, .int (Int32.ofNat o), .int (Int32.ofNat len), .null] 6)) (T15.setTop (mkF m 57 #[.val (.ref a), .val (.ref b), .val (.int (Int32.ofNat o)), .val (.int (Int32.ofNat len)), .val .null, .val (.ref s.heap.size)] [])) := c14.trans (st15 _ (Steps.refl _))
  have ap := apart (Or.inr ⟨_, (wk W (.laysFinal "java/lang/String" "java/lang/String" "value" "[B"))⟩) (Or.inr ⟨_, (wk W (.laysFinal "java/lang/String" "java/lang/String" "coder" "B"))⟩) f1 f2 (t₁ := .array .byte) (t₂ := .byte) (by decide +kernel) (by decide +kernel) (by decide)
  have al := X8.warmed.alike.symm.trans X15.warmed.alike
  have n7 : T11.heap[s.heap.size]? = some N := by rw [q11]; exact n1.1
  exact ⟨T15, none, _, _, _, X15, by simp, rfl, by omega, (fun _ => rfl), ⟨rfl, _, N, bl15, ((Same.refl D _).set _ (by simp)).set _ (by simp), sl15, (Cell.slots_setSlot_ne _ ap).trans sl13, n1.keep al (p15.other hne (p13.other hne n7)), n2, by rw [al.findClass]; exact n3, n4, n5, fun y c h1 h2 => p15.other h1 (p13.other h1 (by rw [q11]; exact n6 y c h2)), by rw [p15.2.2, p13.2.2, q11]; exact z8⟩, fun fs hl => c16.trans (X15.returnOut hexec hret (hb hbytes d57) hl)⟩
end New4
namespace New1
def yN : MethodName := ⟨"java/lang/String", "<init>", "([C)V"⟩
abbrev yB : ByteArray := jdk_42_method_3_code
theorem d0 : decode yB 0 = .ok (.aload_n 0, 1) := by decide +kernel
theorem d1 : decode yB 1 = .ok (.aload_n 1, 1) := by decide +kernel
theorem d2 : decode yB 2 = .ok (.iconst 0, 1) := by decide +kernel
theorem d3 : decode yB 3 = .ok (.aload_n 1, 1) := by decide +kernel
theorem d4 : decode yB 4 = .ok (.arraylength, 1) := by decide +kernel
theorem d5 : decode yB 5 = .ok (.aconst_null, 1) := by decide +kernel
theorem d6 : decode yB 6 = .ok (.invokespecial 27, 3) := by decide +kernel
theorem d9 : decode yB 9 = .ok (.return_, 1) := by decide +kernel
def site : List Cond := [New4.tab] ++ initW "java/lang/String" 27 New4.yN
def tab : Cond := tabOf yN yB 2 none site
def P (a : Addr) (D : Cell) (fV fC : Field) (b : Addr) (A : Cell) (z : Int32) (args : Array Value) (s : State) : Prop := args = #[.ref a, .ref b] ∧ Blank "java/lang/String" a D s ∧ Found "java/lang/String" "value" "[B" fV s ∧ Found "java/lang/String" "coder" "B" fC s ∧ Ch b A s ∧ StaticIs s "java/lang/String" "COMPACT_STRINGS" "Z" (.int z) ∧ ¬ z = 0 ∧ 0 < A.slots.size ∧ A.slots.size ≤ 536870912 ∧ ∀ i, i < A.slots.size → ¬ 255 < cv A i
def E (a : Addr) (D : Cell) (fV fC : Field) (A : Cell) (r : Option Value) (s u : State) : Prop := Got a D fV fC A 0 A.slots.size r s u
/-- new String(chars), not empty, no char above 255: a Latin-1 String of their low bytes -/
theorem law (l : Launch) (a : Addr) (D : Cell) (fV fC : Field) (b : Addr) (A : Cell) (z : Int32) : Law l yN 2 1 3 52 yB 2 none site (P a D fV fC b A z) (E a D fV fC A) [⟨a, fC.slot⟩, ⟨a, fV.slot⟩] 1 A.slots.size := by
  refine Law.of_walk (plainFor_of_name (by decide +kernel)) (by decide +kernel) (by decide +kernel) (by decide) (fun _ _ h => by rw [h.1]; rfl) (fun _ U U' hal hh h => ⟨h.1, h.2.1.mv hal hh, h.2.2.1.al hal, h.2.2.2.1.al hal, h.2.2.2.2.1.mv hal hh, h.2.2.2.2.2.1.there hal hh, h.2.2.2.2.2.2⟩) (fun r U U' V V' h1 hal h2 h => Got.mv r U U' V V' h1 hal h2 h) ?_
  intro p e s m args below meth c s₁ X0 hexec hbytes hml hret hlk hnm hown hh0 W hP
  obtain ⟨rfl, hB, f1, f2, hA, s1, hz, l0, l2, hp⟩ := hP
  have c1 : Steps p.tables e below (s₁.setTop (entryFrame m #[.ref a, .ref b] 2)) (s₁.setTop (mkF m 0 #[.val (.ref a), .val (.ref b)] [])) := entry rfl
  have c2 : Steps p.tables e below (s₁.setTop (entryFrame m #[.ref a, .ref b] 2)) (s₁.setTop (mkF m 6 #[.val (.ref a), .val (.ref b)] [.null, .int (Int32.ofNat A.slots.size), .int 0, .ref b, .ref a])) := c1.trans (by
    refine XS.aloadN X0.here hexec rfl (hb hbytes d0) rfl rfl ?_
    refine XS.aloadN X0.here hexec rfl (hb hbytes d1) rfl rfl ?_
    refine iconstV X0.here hexec rfl 0 (hb hbytes d2) (by decide) ?_
    refine XS.aloadN X0.here hexec rfl (hb hbytes d3) rfl rfl ?_
    refine X0.alen hexec (hA.1.mv X0.warmed.alike hh0) rfl rfl (hb hbytes d4) ?_
    refine XS.aconstNull X0.here hexec rfl (hb hbytes d5) ?_
    exact Steps.refl _)
  obtain ⟨v3, T3, X3, E3, g3⟩ := X0.callN hexec (New4.law l a D fV fC b A z 0 A.slots.size) rfl hown (wks W (initW "java/lang/String" 27 New4.yN)) (W New4.tab (by simp only [site, List.mem_cons, List.mem_append, true_or, or_true])) (W := 0) (Nat.le_of_ble_eq_true rfl) (Nat.le_of_ble_eq_true rfl) (Nat.le_refl _) (by show 0 + A.slots.size ≤ A.slots.size; omega) (g := (mkF m 6 #[.val (.ref a), .val (.ref b)] [.null, .int (Int32.ofNat A.slots.size), .int (Int32.ofNat 0), .ref b, .ref a])) rfl (by rw [hml]; rfl) c2 (argsL := [.ref b, .int (Int32.ofNat 0), .int (Int32.ofNat A.slots.size), .null]) (rest := []) rfl rfl (by show 2 * 0 + 0 ≤ _; decide) (hb hbytes d6) (⟨rfl, hB.mv X0.warmed.alike hh0, f1.al X0.warmed.alike, f2.al X0.warmed.alike, hA.mv X0.warmed.alike hh0, s1.there X0.warmed.alike hh0, hz, l0, by omega, l2, fun i hi => by rw [Nat.zero_add]; exact hp i hi⟩)
  have e0 := Got.mv _ s₁ s _ _ hh0.symm (Vm.Alike.refl _) rfl E3
  obtain rfl := e0.1
  have c4 : Steps p.tables e below (s₁.setTop (entryFrame m #[.ref a, .ref b] 2)) (T3.setTop (mkF m 9 #[.val (.ref a), .val (.ref b)] [])) := g3
  exact ⟨T3, none, _, _, _, X3, by simp, rfl, by omega, (fun _ => rfl), e0, fun fs hl => c4.trans (X3.returnOut hexec hret (hb hbytes d9) hl)⟩
theorem pays {l : Launch} {R : Room} {p : Program} {e : Env} {below : List Frame} {s : State} {sargs : Array Value} {len W : Nat} (a : Addr) (D : Cell) (fV fC : Field) (b : Addr) (A : Cell) (z : Int32) (htab : tab.before sargs s = true) (hfr : 4 ≤ R.frames) (hlo : W + 65 ≤ R.locals) :
    Back l R p e below s sargs yN len W (fun A₁ a₁ => A₁.cells + 1 ≤ R.cells ∧ A₁.slots + A.slots.size ≤ R.slots ∧ P a D fV fC b A z a₁ A₁.U) (fun A₁ _ v₁ B₁ => E a D fV fC A v₁ A₁.U B₁.U ∧ B₁.locs = A₁.locs ++ [⟨a, fC.slot⟩, ⟨a, fV.slot⟩] ∧ B₁.cells = A₁.cells + 1 ∧ B₁.slots = A₁.slots + A.slots.size) :=
  (law l a D fV fC b A z).pays htab hfr (by omega)
end New1
/-- the byte, read back as charAt reads it, is the char -/
theorem lo8_mask {x : Int32} (h0 : ¬ x < 0) (h1 : ¬ 255 < x) : lo8 x &&& 255 = x := by
  have t : ∀ k : Fin 256, lo8 (Int32.ofNat k.val) &&& 255 = Int32.ofNat k.val := by decide +kernel
  rw [Int32.lt_iff_toInt_lt] at h0 h1
  have e0 : (0 : Int32).toInt = 0 := rfl
  have e1 : (255 : Int32).toInt = 255 := rfl
  obtain ⟨k, hk⟩ : ∃ k : Nat, x.toInt = k := ⟨x.toInt.toNat, by omega⟩
  have hx : x = Int32.ofNat k := Int32.toInt_inj.mp (by rw [hk, Int32.toInt_ofNat_small (by omega)])
  rw [hx]
  exact t ⟨k, by omega⟩
end StrChars
namespace StrChars.Road
open Jvm Sem ClassFile Op Lib Jvm.Stand Jvm.Free Jvm.Free.XT
open Jvm.Lib.Cold (StaticIs)
abbrev ST : String := "java/lang/String"
/-- every table word that New1's law asks, flat -/
abbrev words : List Jvm.Cond := [.code New1.yN New1.yB 2 none, .initialized ST, .methodLink ST 27 New4.yN, .instanceMethod New4.yN,
  .code New4.yN New4.yB 6 none, .fieldLink ST 38 ST "COMPACT_STRINGS" "Z", .laysFinal ST ST "value" "[B", .fieldLink ST 9 ST "value" "[B", .laysFinal ST ST "coder" "B", .fieldLink ST 15 ST "coder" "B",
  .methodLink ST 1 Lib.objectInit, .instanceMethod Lib.objectInit, .code Lib.objectInit ⟨#[0xb1]⟩ 1 none, .methodLink ST 177 Cmp3.yN, .static Cmp3.yN, .methodLink ST 47 CodL.yN, .static CodL.yN,
  .code Cmp3.yN Cmp3.yB 6 (some (.array .byte)), .initialized U16, .arrayClass .byte, .methodLink U16 115 Cmp5.yN, .static Cmp5.yN, .code Cmp5.yN Cmp5.yB 7 (some .int), .code CodL.yN CodL.yB 2 (some .byte)]
theorem tab_of {a : Array Value} {s : State} (h : ∀ w ∈ words, w.before a s = true) : New1.tab.before a s = true := by
  have h5 : Cmp5.tab.before a s = true := unparts (wk h (.code Cmp5.yN Cmp5.yB 7 (some .int))) (wks h (.initialized Cmp5.yN.cls :: Cmp5.site))
  have hc : CodL.tab.before a s = true := unparts (wk h (.code CodL.yN CodL.yB 2 (some .byte))) (wks h (.initialized CodL.yN.cls :: CodL.site))
  have q5 : ∀ w ∈ Cmp5.tab :: words, w.before a s = true := fun w hw => (List.mem_cons.mp hw).elim (fun e => e ▸ h5) (h w)
  have h3 : Cmp3.tab.before a s = true := unparts (wk q5 (.code Cmp3.yN Cmp3.yB 6 (some (.array .byte)))) (wks q5 (.initialized Cmp3.yN.cls :: Cmp3.site))
  have q3 : ∀ w ∈ Cmp3.tab :: CodL.tab :: words, w.before a s = true := fun w hw => (List.mem_cons.mp hw).elim (fun e => e ▸ h3) fun hw => (List.mem_cons.mp hw).elim (fun e => e ▸ hc) (h w)
  have h4 : New4.tab.before a s = true := unparts (wk q3 (.code New4.yN New4.yB 6 none)) (wks q3 (.initialized New4.yN.cls :: New4.site))
  have q4 : ∀ w ∈ New4.tab :: words, w.before a s = true := fun w hw => (List.mem_cons.mp hw).elim (fun e => e ▸ h4) (h w)
  exact unparts (wk q4 (.code New1.yN New1.yB 2 none)) (wks q4 (.initialized New1.yN.cls :: New1.site))
/-- the words ride from the start Z to the walk's own state -/
theorem moved {Z s : State} {a0 args : Array Value} (hZ : Z.Warmed39 s.vm) (hw : ∀ d ∈ words, d.before a0 Z = true) : ∀ d ∈ words, d.before args s = true := fun d hd => by
  have q := hw d hd
  have t : ∀ d ∈ words, d = .arrayClass .byte ∨ (d.onTables && d.keepsFace) = true := by decide +kernel
  rcases t d hd with rfl | t
  · exact RoadKit.mvA hZ q
  · exact RoadKit.mv hZ q t
/-- WHAT COMES BACK, over the tables of the start Z: h the heap at the call, h' behind it -/
def Q (Z : State) (x : Addr) (A : Cell) (h : Heap) (v : Option Value) (h' : Heap) (L : List Loc) : Prop := v = none ∧ (∀ y ∈ L, y.base = x) ∧ RoadKit.Keep h h' [x] ∧ h'.size = h.size + 1 ∧ RoadKit.Exa Z h' x ST ∧ RoadKit.Fld Z h' x ST "value" "[B" (.ref h.size) ∧ RoadKit.Fld Z h' x ST "coder" "B" (.int 0) ∧
  (∃ V : Cell, RoadKit.Arr Z h' h.size V .byte ∧ V.vm = .none ∧ Z.vm.findClass "[B" = some V.cls ∧ V.slots.size = A.slots.size ∧ ∀ j, j < A.slots.size → V.slots[j]? = some (.int (lo8 (cv A j)))) ∧
  ∀ (O n d : String) (w : Value), RoadKit.Fld Z h x O n d w → RoadKit.slotOf Z O n d ≠ RoadKit.slotOf Z ST "value" "[B" → RoadKit.slotOf Z O n d ≠ RoadKit.slotOf Z ST "coder" "B" → RoadKit.Fld Z h' x O n d w
/-- **new String(chars) AT A CALL, IN THE ROAD'S FORM**: for specialBack behind newO: x the fresh String, b the char[] with the cell A -/
theorem back {p : Program} {l : Launch} {e : Env} {R : Room} {s : State} {args : Array Value} {below : List Frame} {len W : Nat} {Z : State} {a0 : Array Value} {h : Heap} (hZ : Z.Warmed39 s.vm) (hw : ∀ d ∈ words, d.before a0 Z = true) {kI : Nat} (wi : (Jvm.Cond.instantiable ST kI).before a0 Z = true)
    {x b : Addr} {A : Cell} {z : Int32} {v0 c0 : Value} (E : RoadKit.Exa Z h x ST) (V : RoadKit.Fld Z h x ST "value" "[B" v0) (C : RoadKit.Fld Z h x ST "coder" "B" c0) (K : RoadKit.Arr Z h b A .char) (hty : Typed .char A) (S : RoadKit.Sta Z h ST "COMPACT_STRINGS" "Z" (.int z)) (hz : ¬ z = 0)
    (l0 : 0 < A.slots.size) (l2 : A.slots.size ≤ 536870912) (hp : ∀ i, i < A.slots.size → ¬ 255 < cv A i) (hfr : 4 ≤ R.frames) (hlo : W + 65 ≤ R.locals) :
    Back l R p e below s args New1.yN len W (fun P a => a = #[.ref x, .ref b] ∧ P.U.heap = h ∧ P.cells + 1 ≤ R.cells ∧ P.slots + A.slots.size ≤ R.slots)
      (fun P _ v B => ∃ L, Q Z x A h v B.U.heap L ∧ B.locs = P.locs ++ L ∧ B.cells = P.cells + 1 ∧ B.slots = P.slots + A.slots.size) := by
  intro m meth c P g ig mk a X hg hsize hdg hW hn hp'
  obtain ⟨rfl, rfl, r1, r2⟩ := hp'
  have al : Z.vm.Alike P.U.vm := hZ.alike.trans X.warmed.alike
  obtain ⟨D, cfV, kV, iV, fV, hD, gV, stV, knV, obV, asV, slV⟩ := id V
  obtain ⟨D', cfC, kC, iC, fC, hD', gC, stC, -, -, asC, slC⟩ := id C
  cases hD.symm.trans hD'
  obtain ⟨D2, kD, e1, e2, e3, e4, e5⟩ := id E
  cases hD.symm.trans e1
  obtain ⟨c2, k2, i1, i2, i3, -⟩ := Cond.instantiable_spec wi
  cases e2.symm.trans i1
  cases e3.symm.trans i2
  obtain ⟨kU, u1, u2⟩ := al.2.2 _ _ e3
  have hB : Blank ST x D P.U := ⟨hD, ⟨knV, fun q hq => by rw [hq] at obV; cases obV⟩, by rw [al.findClass]; exact e2, kU, u1, by rw [u2]; exact i3, by rw [u2]; exact e5 i3⟩
  have F1 : Found ST "value" "[B" fV P.U := ⟨SBG.found_only al ⟨cfV, kV, iV, gV⟩, stV⟩
  have F2 : Found ST "coder" "B" fC P.U := ⟨SBG.found_only al ⟨cfC, kC, iC, gC⟩, stC⟩
  have hA : Ch b A P.U := ⟨⟨K.1, State.isArrayOf_alike al K.2.1, K.2.2, by omega⟩, hty⟩
  have hS : StaticIs P.U ST "COMPACT_STRINGS" "Z" (.int z) := by
    obtain ⟨cfS, iS, kS, fS, st, cS, t1, t2, t3, t4, t5, t6, t7⟩ := S
    exact StaticIs.there (s := { Z with heap := P.U.heap }) ⟨cfS, iS, kS, fS, st, cS, t1, t2, t3, t4, t5, (fun q => by rw [q] at t6; cases t6), t7⟩ al rfl
  obtain ⟨v, B, X', ⟨⟨hv, E', V', q1, q2, q3, q4, q5, q6, q7, q8, q9, q10, q11⟩, hl, hc, hs⟩, st⟩ := New1.pays x D fV fC b A z (tab_of (moved hZ hw)) hfr hlo m meth c P g ig mk _ X hg hsize hdg hW hn ⟨r1, r2, rfl, hB, F1, F2, hA, hS, hz, l0, l2, hp⟩
  have al' : Z.vm.Alike B.U.vm := hZ.alike.trans X'.warmed.alike
  have hsz : E'.slots.size = D.slots.size := by
    obtain ⟨-, -, -, kB, w1, w2, w3⟩ := q1
    obtain ⟨kB', y1, y2⟩ := al'.2.2 _ _ e3
    rw [q2.2.1] at w1
    cases w1.symm.trans y1
    rw [w3, e5 i3, y2]
  refine ⟨v, B, X', ⟨_, ⟨hv, ?_, ⟨by omega, fun y cy hy hn' => q10 y cy (by simpa using hn') hy, fun y cy hy => ?_⟩, q11, ⟨E', _, q1.1, by rw [q2.2.1]; exact e2, by rw [q2.2.1]; exact e3, by rw [q2.1]; exact obV, fun _ => by rw [hsz]; exact e5 i3⟩,
    ⟨E', cfV, kV, iV, fV, q1.1, gV, stV, by rw [q2.1]; exact knV, by rw [q2.1]; exact obV, by rw [q2.2.1]; exact asV, q3⟩, ⟨E', cfC, kC, iC, fC, q1.1, gC, stC, by rw [q2.1]; exact knV, by rw [q2.1]; exact obV, by rw [q2.2.1]; exact asC, q4⟩,
    ⟨V', ⟨q5.1, State.isArrayOf_alike al'.symm q5.2.1, q5.2.2.1⟩, q6, by rw [← al'.findClass]; exact q7, q8, fun j hj => by have := q9 j hj; rwa [Nat.zero_add] at this⟩, fun O n d w F n1 n2 => ?_⟩, hl, hc, hs⟩, st⟩
  · intro y hy
    simp only [List.mem_cons, List.not_mem_nil, or_false] at hy
    rcases hy with rfl | rfl <;> rfl
  · by_cases q : y = x
    · subst q
      cases hD.symm.trans hy
      exact ⟨E', q1.1, q2.2.1, q2.1, hsz⟩
    · exact ⟨cy, q10 y cy q hy, rfl, rfl, rfl⟩
  · obtain ⟨D3, cf, k, i, f, g1, g2, g3, g4, g5, g6, g7⟩ := F
    cases hD.symm.trans g1
    simp only [RoadKit.slotOf, g2, gV, gC, Option.map_some, Option.getD_some] at n1 n2
    exact ⟨E', cf, k, i, f, q1.1, g2, g3, by rw [q2.1]; exact g4, by rw [q2.1]; exact g5, by rw [q2.2.1]; exact g6, by rw [q2.2.2 f.slot (by simp [n1, n2])]; exact g7⟩
end StrChars.Road
namespace StrChars.Road
open Jvm Sem ClassFile Op Lib Jvm.Stand Jvm.Free Jvm.Free.XT
/-- WHAT COMES BACK, the byte[] as a list of values -/
def QA (Z : State) (x : Addr) (zn : Int32) (cs : List Int32) (h : Heap) (v : Option Value) (h' : Heap) (L : List Loc) : Prop := v = none ∧ (∀ y ∈ L, y.base = x) ∧ RoadKit.Keep h h' [x] ∧ h'.size = h.size + 1 ∧ RoadKit.Exa Z h' x ST ∧ RoadKit.Fld Z h' x ST "value" "[B" (.ref h.size) ∧ RoadKit.Fld Z h' x ST "coder" "B" (.int 0) ∧
  (∃ kb, Z.vm.findClass "[B" = some kb ∧ RoadKit.Arv Z h' h.size kb .byte zn (cs.map fun c => .int (lo8 c)) (.int 0)) ∧
  ∀ (O n d : String) (w : Value), RoadKit.Fld Z h x O n d w → RoadKit.slotOf Z O n d ≠ RoadKit.slotOf Z ST "value" "[B" → RoadKit.slotOf Z O n d ≠ RoadKit.slotOf Z ST "coder" "B" → RoadKit.Fld Z h' x O n d w
/-- **new String(chars) AT A CALL, THE ARRAYS AS LISTS**: the char[] at b holds cs, not empty, no char above 255 -/
theorem backArv {p : Program} {l : Launch} {e : Env} {R : Room} {s : State} {args : Array Value} {below : List Frame} {len W : Nat} {Z : State} {a0 : Array Value} {h : Heap} (hZ : Z.Warmed39 s.vm) (hw : ∀ d ∈ words, d.before a0 Z = true) {kI : Nat} (wi : (Jvm.Cond.instantiable ST kI).before a0 Z = true)
    {x b : Addr} {k : ClassId} {zn z : Int32} {cs : List Int32} {dv v0 c0 : Value} (E : RoadKit.Exa Z h x ST) (V : RoadKit.Fld Z h x ST "value" "[B" v0) (C : RoadKit.Fld Z h x ST "coder" "B" c0) (K : RoadKit.Arv Z h b k .char zn (cs.map Value.int) dv) (S : RoadKit.Sta Z h ST "COMPACT_STRINGS" "Z" (.int z)) (hz : ¬ z = 0)
    (hlen : zn.toNatClampNeg = cs.length) (h0 : 0 < cs.length) (hbig : cs.length ≤ 536870912) (hall : ∀ c ∈ cs, ¬ 255 < c) (hfr : 4 ≤ R.frames) (hlo : W + 65 ≤ R.locals) :
    Back l R p e below s args New1.yN len W (fun P a => a = #[.ref x, .ref b] ∧ P.U.heap = h ∧ P.cells + 1 ≤ R.cells ∧ P.slots + cs.length ≤ R.slots)
      (fun P _ v B => ∃ L, QA Z x zn cs h v B.U.heap L ∧ B.locs = P.locs ++ L ∧ B.cells = P.cells + 1 ∧ B.slots = P.slots + cs.length) := by
  obtain ⟨A, K1, K2, K3, K4, K5, K6⟩ := K
  have e : A.slots.size = cs.length := K3.trans hlen
  have hat : ∀ (i : Nat) (hi : i < cs.length), A.slots[i]? = some (.int cs[i]) := fun i hi => by rw [K5 i (by omega)]; simp [List.getD_eq_getElem?_getD, hi]
  have hcv : ∀ (i : Nat) (hi : i < cs.length), cv A i = cs[i] := fun i hi => by unfold cv; rw [hat i hi]
  have hty : Typed .char A := fun i v hv => by
    have hi : i < A.slots.size := (Array.getElem?_eq_some_iff.mp hv).1
    have q := K5 i hi
    rw [hv] at q
    rw [Option.some.inj q]
    exact K6 i hi
  refine Back.mono (back hZ hw wi E V C K1 hty S hz (by omega) (by omega) (fun i hi => by rw [hcv i (by omega)]; exact hall _ (List.getElem_mem _)) hfr hlo) (fun P a hp => ⟨hp.1, hp.2.1, hp.2.2.1, by rw [e]; exact hp.2.2.2⟩) (fun P a v B hp hq => ?_)
  obtain ⟨L, ⟨q1, q2, q3, q4, q5, q6, q7, ⟨V', v1, v2, v3, v4, v5⟩, q9⟩, hl, hc, hs⟩ := hq
  refine ⟨L, ⟨q1, q2, q3, q4, q5, q6, q7, ⟨V'.cls, v3, V', v1, rfl, by rw [v4, e, hlen], K4, fun i hi => ?_, fun i hi => ?_⟩, q9⟩, hl, hc, by rw [hs, e]⟩
  · have hi' : i < cs.length := by omega
    rw [v5 i (by omega), hcv i hi']; simp [List.getD_eq_getElem?_getD, hi']
  · have hi' : i < cs.length := by omega
    simp only [List.getD_eq_getElem?_getD, List.getElem?_map, List.getElem?_eq_getElem hi', Option.map_some, Option.getD_some]
    exact fits_lo8 _
end StrChars.Road
namespace StrChars.Road
open Jvm Sem ClassFile Op Lib Jvm.Stand Jvm.Free Jvm.Free.XT
/-- WHAT COMES BACK, in the writer's own shape -/
def QV (Z : State) (x : Addr) (N : Int32) (bs : List Int32) (h : Heap) (n0 : Nat) (v : Option Value) (h' : Heap) (L : List Loc) : Prop := v = none ∧ RoadKit.Fr n0 L ∧ RoadKit.Keep h h' [x] ∧ RoadKit.Exa Z h' x ST ∧ RoadKit.Fld Z h' x ST "coder" "B" (.int 0) ∧
  ∃ (t : Addr) (kb : ClassId), n0 ≤ t ∧ h.size ≤ t ∧ ¬ t = x ∧ RoadKit.Fld Z h' x ST "value" "[B" (.ref t) ∧ RoadKit.Arv Z h' t kb .byte N (bs.map Value.int) (.int 0)
/-- **new String(chars) AT A CALL, FOR THE WRITER**: a char[] of n known ints, each 0 to 255 -/
theorem backV {p : Program} {l : Launch} {e : Env} {R : Room} {s : State} {args : Array Value} {below : List Frame} {len W : Nat} {Z : State} {a0 : Array Value} {h : Heap} (hZ : Z.Warmed39 s.vm) (hw : ∀ d ∈ words, d.before a0 Z = true) {kI : Nat} (wi : (Jvm.Cond.instantiable ST kI).before a0 Z = true)
    {x b : Addr} {kC : ClassId} {cs bs : List Int32} {d v0 c0 : Value} {z N : Int32} {n n0 : Nat} (hx0 : n0 ≤ x) (hh0 : n0 ≤ h.size) (E : RoadKit.Exa Z h x ST) (V : RoadKit.Fld Z h x ST "value" "[B" v0) (C : RoadKit.Fld Z h x ST "coder" "B" c0) (K : RoadKit.Arv Z h b kC .char N (cs.map Value.int) d) (S : RoadKit.Sta Z h ST "COMPACT_STRINGS" "Z" (.int z)) (hz : ¬ z = 0)
    (hn : cs.length = n) (hN : N = Int32.ofNat n) (l0 : 0 < n) (l2 : n ≤ 4000) (hp : ∀ c ∈ cs, ¬ c < 0 ∧ ¬ (255 : Int32) < c) (hb : bs = cs.map (fun c => c.toInt8.toInt32)) (hfr : 4 ≤ R.frames) (hlo : W + 65 ≤ R.locals) :
    Back l R p e below s args (⟨"java/lang/String", "<init>", "([C)V"⟩ : MethodName) len W (fun P a => a = #[.ref x, .ref b] ∧ P.U.heap = h ∧ P.cells + 1 ≤ R.cells ∧ P.slots + n ≤ R.slots)
      (fun P _ v B => ∃ L, QV Z x N bs h n0 v B.U.heap L ∧ B.locs = P.locs ++ L ∧ B.cells = P.cells + 1 ∧ B.slots = P.slots + n) := by
  subst hn hN hb
  refine Back.mono (backArv hZ hw wi E V C K S hz (n32 (by omega)) l0 (by omega) (fun c hc => (hp c hc).2) hfr hlo) (fun P a hp => hp) (fun P a v B hp hq => ?_)
  obtain ⟨L, ⟨q1, q2, q3, q4, q5, q6, q7, ⟨kb, v1, v2⟩, q9⟩, hl, hc, hs⟩ := hq
  exact ⟨L, ⟨q1, fun y hy => by rw [q2 y hy]; exact hx0, q3, q5, q7, h.size, kb, hh0, Nat.le_refl _, Nat.ne_of_gt E.lt, q6, by rw [List.map_map]; exact v2⟩, hl, hc, hs⟩
end StrChars.Road
namespace StrChars
open Jvm Sem ClassFile Op Lib Jvm.Stand Jvm.Free.XT Jvm.Free.ALB Jvm.Free.JM Jvm.Free
open Jvm.Lib.Cold (StaticIs)
def hi8 (x : Int32) : Int32 := lo8 (x >>> ((8 : Int32) &&& 31))
/-- what StringUTF16.getChar makes of two bytes -/
def pairCh (u v : Int32) : Int32 := (((u &&& 255) <<< ((0 : Int32) &&& 31)) ||| ((v &&& 255) <<< ((8 : Int32) &&& 31))).toUInt32.toUInt16.toUInt32.toInt32
theorem lo8_and (x : Int32) : (lo8 x &&& 255).toBitVec.toNat = x.toBitVec.toNat % 256 := by
  have h : (lo8 x).toBitVec = (x.toBitVec.signExtend 8).signExtend 32 := by rw [lo8, Int8.toBitVec_toInt32, Int32.toBitVec_toInt8]
  rw [Int32.toBitVec_and, BitVec.toNat_and, h]
  have e : ((x.toBitVec.signExtend 8).signExtend 32).toNat % 256 = x.toBitVec.toNat % 256 := by
    rw [BitVec.toNat_signExtend]
    have hlt := x.toBitVec.isLt
    simp only [BitVec.toNat_setWidth, BitVec.toNat_signExtend]
    split <;> split <;> omega
  rw [← e]
  exact Nat.and_two_pow_sub_one_eq_mod _ 8
theorem pair_says {c : Int32} (h0 : ¬ c < 0) (h1 : ¬ 65535 < c) : pairCh (lo8 c) (hi8 c) = c := by
  rw [Int32.lt_iff_toInt_lt] at h0 h1
  have e0 : (0 : Int32).toInt = 0 := rfl
  have e1 : (65535 : Int32).toInt = 65535 := rfl
  have hc : c.toInt = c.toBitVec.toNat := by
    have := c.toBitVec.isLt
    have e : c.toInt = c.toBitVec.toInt := rfl
    rw [e] at h0 h1
    rw [e]
    rw [BitVec.toInt_eq_toNat_cond] at h0 h1 ⊢
    split at h0 <;> split <;> omega
  have hn : c.toBitVec.toNat < 65536 := by omega
  have a1 := lo8_and c
  have a2 : (hi8 c &&& 255).toBitVec.toNat = c.toBitVec.toNat / 256 := by
    rw [hi8, lo8_and]
    have e : ((8 : Int32) &&& 31) = 8 := by decide
    rw [e, Int32.toBitVec_shiftRight]
    have e2 : ((8 : Int32).toBitVec.smod 32) = 8#32 := by decide
    rw [e2, BitVec.sshiftRight_eq', BitVec.toNat_sshiftRight_of_msb_false (by rw [BitVec.msb_eq_false_iff_two_mul_lt]; omega)]
    show c.toBitVec.toNat >>> 8 % 256 = _
    rw [Nat.shiftRight_eq_div_pow]
    omega
  unfold pairCh
  apply Int32.toBitVec_inj.mp
  apply BitVec.eq_of_toNat_eq
  have f0 : ((0 : Int32) &&& 31) = 0 := by decide
  have f8 : ((8 : Int32) &&& 31) = 8 := by decide
  rw [f0, f8]
  have g : (((lo8 c &&& 255) <<< (0 : Int32)) ||| ((hi8 c &&& 255) <<< (8 : Int32))).toBitVec.toNat = c.toBitVec.toNat := by
    rw [Int32.toBitVec_or, Int32.toBitVec_shiftLeft, Int32.toBitVec_shiftLeft]
    have s0 : ((0 : Int32).toBitVec.smod 32) = 0#32 := by decide
    have s8 : ((8 : Int32).toBitVec.smod 32) = 8#32 := by decide
    rw [s0, s8, BitVec.toNat_or]
    simp only [BitVec.shiftLeft_eq', BitVec.toNat_shiftLeft, a1, a2]
    show (c.toBitVec.toNat % 256) <<< 0 % 2 ^ 32 ||| (c.toBitVec.toNat / 256) <<< 8 % 2 ^ 32 = _
    rw [Nat.shiftLeft_zero, Nat.mod_eq_of_lt (show c.toBitVec.toNat % 256 < 2 ^ 32 by omega), Nat.mod_eq_of_lt (show (c.toBitVec.toNat / 256) <<< 8 < 2 ^ 32 by rw [Nat.shiftLeft_eq]; omega), Nat.or_comm, ← Nat.shiftLeft_add_eq_or_of_lt (by omega), Nat.shiftLeft_eq]
    omega
  show BitVec.toNat (((((lo8 c &&& 255) <<< (0 : Int32)) ||| ((hi8 c &&& 255) <<< (8 : Int32))).toBitVec.setWidth 16).setWidth 32) = _
  rw [BitVec.toNat_setWidth, BitVec.toNat_setWidth, g]
  omega
end StrChars
namespace StrChars
open Jvm Sem ClassFile Op Lib Jvm.Stand Jvm.Free.XT Jvm.Free.ALB Jvm.Free.JM Jvm.Free
open Jvm.Lib.Cold (StaticIs)
/-- the array's cell V codes the n chars f 0 .. f (n - 1) by the coder cd, as the JDK does: coder 1 just where some char is above 255 -/
def Cod (cd : Int32) (n : Nat) (f : Nat → Int32) (V : Cell) : Prop := (cd = 0 ∧ V.slots.size = n ∧ ∀ j, j < n → V.slots[j]? = some (.int (lo8 (f j))) ∧ ¬ 255 < f j) ∨ (cd = 1 ∧ V.slots.size = 2 * n ∧ (∀ j, j < n → V.slots[2 * j]? = some (.int (lo8 (f j))) ∧ V.slots[2 * j + 1]? = some (.int (hi8 (f j)))) ∧ ∃ j, j < n ∧ 255 < f j)
/-- **x is a String of the n chars f 0 .. f (n - 1)**, Latin-1 or UTF-16; its array at t has the cell V -/
def Txt (x t : Addr) (V : Cell) (cd : Int32) (n : Nat) (f : Nat → Int32) (U : State) : Prop := Exact "java/lang/String" x U ∧ Has x "java/lang/String" "value" "[B" (.ref t) U ∧ Has x "java/lang/String" "coder" "B" (.int cd) U ∧ XT.Arr .byte t V U ∧ Cod cd n f V ∧ ∀ j, j < n → ¬ f j < 0 ∧ ¬ 65535 < f j
theorem Txt.mv {x t : Addr} {V : Cell} {cd : Int32} {n : Nat} {f : Nat → Int32} {U U' : State} (h : Txt x t V cd n f U) (hal : U.vm.Alike U'.vm) (hh : U'.heap = U.heap) : Txt x t V cd n f U' := ⟨h.1.mv hal hh, h.2.1.mv hal hh, h.2.2.1.mv hal hh, h.2.2.2.1.mv hal hh, h.2.2.2.2⟩
end StrChars
namespace StrChars.Road
open Jvm Sem ClassFile Op Lib Jvm.Stand Jvm.Free Jvm.Free.XT
open Jvm.Lib.Cold (StaticIs)
theorem consq {a : Array Value} {s : State} {c : Jvm.Cond} {L : List Jvm.Cond} (h0 : c.before a s = true) (h : ∀ w ∈ L, w.before a s = true) : ∀ w ∈ c :: L, w.before a s = true := fun w hw => (List.mem_cons.mp hw).elim (fun e => e ▸ h0) (h w)
/-- the bytes of the chars cs, low before high -/
def wideBytes : List Int32 → List Value
  | [] => []
  | c :: cs => .int (lo8 c) :: .int (hi8 c) :: wideBytes cs
theorem wide_lo (d : Value) : ∀ (cs : List Int32) (j : Nat), j < cs.length → (wideBytes cs).getD (2 * j) d = .int (lo8 (cs.getD j 0))
  | [], j, h => absurd h (Nat.not_lt_zero j)
  | c :: cs, 0, _ => rfl
  | c :: cs, j + 1, h => by
    have q := wide_lo d cs j (by simpa using h)
    rw [show 2 * (j + 1) = 2 * j + 1 + 1 from by omega]
    simpa [wideBytes] using q
theorem wide_hi (d : Value) : ∀ (cs : List Int32) (j : Nat), j < cs.length → (wideBytes cs).getD (2 * j + 1) d = .int (hi8 (cs.getD j 0))
  | [], j, h => absurd h (Nat.not_lt_zero j)
  | c :: cs, 0, _ => rfl
  | c :: cs, j + 1, h => by
    have q := wide_hi d cs j (by simpa using h)
    rw [show 2 * (j + 1) + 1 = 2 * j + 1 + 1 + 1 from by omega]
    simpa [wideBytes] using q
theorem low_at (d : Value) (cs : List Int32) (j : Nat) (h : j < cs.length) : (cs.map fun c => Value.int (lo8 c)).getD j d = .int (lo8 (cs.getD j 0)) := by
  simp [List.getD_eq_getElem?_getD, h]
/-- an array of N2 bytes vs codes the chars cs by the coder cd -/
def CodA (cs : List Int32) (cd N2 : Int32) (vs : List Value) : Prop := (cd = 0 ∧ N2 = Int32.ofNat cs.length ∧ vs = (cs.map fun c => Value.int (lo8 c)) ∧ ∀ c ∈ cs, ¬ 255 < c) ∨ (cd = 1 ∧ N2 = Int32.ofNat (2 * cs.length) ∧ vs = wideBytes cs ∧ ∃ c ∈ cs, 255 < c)
theorem CodA.cod {cs : List Int32} {cd N2 : Int32} {vs : List Value} {V : Cell} (h : CodA cs cd N2 vs) (hn : 2 * cs.length < 2 ^ 31) (hs : V.slots.size = N2.toNatClampNeg) (hv : RoadKit.Has V vs (.int 0)) : Cod cd cs.length (fun j => cs.getD j 0) V := by
  rcases h with ⟨rfl, rfl, rfl, h⟩ | ⟨rfl, rfl, rfl, c, hc, hw⟩
  · rw [n32 (by omega)] at hs
    exact Or.inl ⟨rfl, hs, fun j hj => ⟨by rw [hv j (by omega), low_at _ _ _ hj], by
      have e : cs.getD j 0 = cs[j] := by simp [List.getD_eq_getElem?_getD, hj]
      show ¬ 255 < cs.getD j 0
      rw [e]; exact h _ (List.getElem_mem _)⟩⟩
  · rw [n32 (by omega)] at hs
    obtain ⟨j, hj, rfl⟩ := List.getElem_of_mem hc
    exact Or.inr ⟨rfl, hs, fun j hj => ⟨by rw [hv _ (by omega), wide_lo _ _ _ hj], by rw [hv _ (by omega), wide_hi _ _ _ hj]⟩, j, hj, by
      have e : cs.getD j 0 = cs[j] := by simp [List.getD_eq_getElem?_getD, hj]
      show 255 < cs.getD j 0
      rw [e]; exact hw⟩
/-- an object of exactly java/lang/String, its two fields found: as the laws ask it -/
theorem strObj {Z U : State} {a0 : Array Value} {kI : Nat} (wi : (Jvm.Cond.instantiable ST kI).before a0 Z = true) (al : Z.vm.Alike U.vm) {x : Addr} {v0 c0 : Value} (E : RoadKit.Exa Z U.heap x ST) (V : RoadKit.Fld Z U.heap x ST "value" "[B" v0) (C : RoadKit.Fld Z U.heap x ST "coder" "B" c0) :
    ∃ (D : Cell) (fV fC : Field), Blank ST x D U ∧ Found ST "value" "[B" fV U ∧ Found ST "coder" "B" fC U ∧ D.slots[fV.slot]? = some v0 ∧ D.slots[fC.slot]? = some c0 ∧ RoadKit.slotOf Z ST "value" "[B" = fV.slot ∧ RoadKit.slotOf Z ST "coder" "B" = fC.slot := by
  obtain ⟨D, cfV, kV, iV, fV, hD, gV, stV, knV, obV, asV, slV⟩ := V
  obtain ⟨D', cfC, kC, iC, fC, hD', gC, stC, -, -, asC, slC⟩ := C
  cases hD.symm.trans hD'
  obtain ⟨D2, kD, e1, e2, e3, e4, e5⟩ := E
  cases hD.symm.trans e1
  obtain ⟨c2, k2, i1, i2, i3, -⟩ := Cond.instantiable_spec wi
  cases e2.symm.trans i1
  cases e3.symm.trans i2
  obtain ⟨kU, u1, u2⟩ := al.2.2 _ _ e3
  exact ⟨D, fV, fC, ⟨hD, ⟨knV, fun q hq => by rw [hq] at obV; cases obV⟩, by rw [al.findClass]; exact e2, kU, u1, by rw [u2]; exact i3, by rw [u2]; exact e5 i3⟩, ⟨SBG.found_only al ⟨cfV, kV, iV, gV⟩, stV⟩, ⟨SBG.found_only al ⟨cfC, kC, iC, gC⟩, stC⟩, slV, slC, by simp [RoadKit.slotOf, gV], by simp [RoadKit.slotOf, gC]⟩
theorem sta_is {Z U : State} (al : Z.vm.Alike U.vm) {C n d : String} {v : Value} (S : RoadKit.Sta Z U.heap C n d v) : StaticIs U C n d v := by
  obtain ⟨cfS, iS, kS, fS, st, cS, t1, t2, t3, t4, t5, t6, t7⟩ := S
  exact StaticIs.there (s := { Z with heap := U.heap }) ⟨cfS, iS, kS, fS, st, cS, t1, t2, t3, t4, t5, (fun q => by rw [q] at t6; cases t6), t7⟩ al rfl
end StrChars.Road
namespace StrChars
open Jvm Sem ClassFile Op Lib Jvm.Stand Jvm.Free.XT Jvm.Free.ALB Jvm.Free.JM Jvm.Free
open Jvm.Lib.Cold (StaticIs)
/-- what place i of a byte[]'s cell holds -/
def yv (A : Cell) (i : Nat) : Int32 := match A.slots[i]? with | some (.int x) => x | _ => 0
theorem yv_get {a : Addr} {A : Cell} {U : State} (h : XT.Arr .byte a A U) (ht : Typed .byte A) {i : Nat} (hi : i < A.slots.size) : A.slots[i]? = some (.int (yv A i)) := by
  have e := Array.getElem?_eq_getElem hi
  have f := ht i _ e
  unfold yv; rw [e]
  generalize A.slots[i] = v at f
  cases v <;> simp [fits] at f ⊢
/-- the two arrays are equal, place for place -/
def EqC (A B : Cell) : Prop := A.slots.size = B.slots.size ∧ ∀ i, i < A.slots.size → yv A i = yv B i
/-- a boolean that says whether p -/
def Says01 (q : Prop) (r : Option Value) (s u : State) : Prop := ∃ v : Int32, r = some (.int v) ∧ u.heap = s.heap ∧ ((v = 1 ∧ q) ∨ (v = 0 ∧ ¬ q))
theorem Says01.mv {q : Prop} : ∀ r (U U' V V' : State), U'.heap = U.heap → V.vm.Alike V'.vm → V'.heap = V.heap → Says01 q r U V → Says01 q r U' V' :=
  fun r U U' V V' h1 _ h2 ⟨v, a, b, c⟩ => ⟨v, a, by rw [h1, h2]; exact b, c⟩
namespace LEq
def yN : MethodName := ⟨"java/lang/StringLatin1", "equals", "([B[B)Z"⟩
abbrev yB : ByteArray := jdk_43_method_13_code
theorem d0 : decode yB 0 = .ok (.aload_n 0, 1) := by decide +kernel
theorem d1 : decode yB 1 = .ok (.arraylength, 1) := by decide +kernel
theorem d2 : decode yB 2 = .ok (.aload_n 1, 1) := by decide +kernel
theorem d3 : decode yB 3 = .ok (.arraylength, 1) := by decide +kernel
theorem d4 : decode yB 4 = .ok (.if_icmp (.ne) 30, 3) := by decide +kernel
theorem d7 : decode yB 7 = .ok (.iconst 0, 1) := by decide +kernel
theorem d8 : decode yB 8 = .ok (.istore_n 2, 1) := by decide +kernel
theorem d9 : decode yB 9 = .ok (.iload_n 2, 1) := by decide +kernel
theorem d10 : decode yB 10 = .ok (.aload_n 0, 1) := by decide +kernel
theorem d11 : decode yB 11 = .ok (.arraylength, 1) := by decide +kernel
theorem d12 : decode yB 12 = .ok (.if_icmp (.ge) 20, 3) := by decide +kernel
theorem d15 : decode yB 15 = .ok (.aload_n 0, 1) := by decide +kernel
theorem d16 : decode yB 16 = .ok (.iload_n 2, 1) := by decide +kernel
theorem d17 : decode yB 17 = .ok (.baload, 1) := by decide +kernel
theorem d18 : decode yB 18 = .ok (.aload_n 1, 1) := by decide +kernel
theorem d19 : decode yB 19 = .ok (.iload_n 2, 1) := by decide +kernel
theorem d20 : decode yB 20 = .ok (.baload, 1) := by decide +kernel
theorem d21 : decode yB 21 = .ok (.if_icmp (.eq) 5, 3) := by decide +kernel
theorem d24 : decode yB 24 = .ok (.iconst 0, 1) := by decide +kernel
theorem d25 : decode yB 25 = .ok (.ireturn, 1) := by decide +kernel
theorem d26 : decode yB 26 = .ok (.iinc 2 1, 3) := by decide +kernel
theorem d29 : decode yB 29 = .ok (.goto (-20), 3) := by decide +kernel
theorem d32 : decode yB 32 = .ok (.iconst 1, 1) := by decide +kernel
theorem d33 : decode yB 33 = .ok (.ireturn, 1) := by decide +kernel
theorem d34 : decode yB 34 = .ok (.iconst 0, 1) := by decide +kernel
theorem d35 : decode yB 35 = .ok (.ireturn, 1) := by decide +kernel
def site : List Cond := []
def tab : Cond := tabOf yN yB 3 (some .boolean) site
def P (a : Addr) (A : Cell) (b : Addr) (B : Cell) (args : Array Value) (s : State) : Prop := args = #[.ref a, .ref b] ∧ XT.Arr .byte a A s ∧ Typed .byte A ∧ XT.Arr .byte b B s ∧ Typed .byte B
/-- whether two byte[] are equal, place for place -/
theorem law (l : Launch) (a : Addr) (A : Cell) (b : Addr) (B : Cell) : Law l yN 2 2 0 0 yB 3 (some .boolean) site (P a A b B) (Says01 (EqC A B)) [] 0 0 := by
  refine Law.of_walk (plainFor_of_name (by decide +kernel)) (by decide +kernel) (by decide +kernel) (by decide) (fun _ _ h => by rw [h.1]; rfl) (fun _ U U' hal hh h => ⟨h.1, h.2.1.mv hal hh, h.2.2.1, h.2.2.2.1.mv hal hh, h.2.2.2.2⟩) (fun r U U' V V' h1 hal h2 h => Says01.mv r U U' V V' h1 hal h2 h) ?_
  intro p e s m args below meth c s₁ X0 hexec hbytes hml hret hlk hnm hown hh0 W hP
  obtain ⟨rfl, hA, tA, hB, tB⟩ := hP
  have a31 := hA.2.2.2
  have b31 := hB.2.2.2
  have hA0 := hA.mv X0.warmed.alike hh0
  have hB0 := hB.mv X0.warmed.alike hh0
  have c1 : Steps p.tables e below (s₁.setTop (entryFrame m #[.ref a, .ref b] 3)) (s₁.setTop (mkF m 0 #[.val (.ref a), .val (.ref b), .unset] [])) := entry rfl
  have c2 : Steps p.tables e below (s₁.setTop (entryFrame m #[.ref a, .ref b] 3)) (s₁.setTop (mkF m 4 #[.val (.ref a), .val (.ref b), .unset] [.int (Int32.ofNat B.slots.size), .int (Int32.ofNat A.slots.size)])) := c1.trans (by
    refine XS.aloadN X0.here hexec rfl (hb hbytes d0) rfl rfl ?_
    refine X0.alen hexec hA0 rfl rfl (hb hbytes d1) ?_
    refine XS.aloadN X0.here hexec rfl (hb hbytes d2) rfl rfl ?_
    refine X0.alen hexec hB0 rfl rfl (hb hbytes d3) ?_
    exact Steps.refl _)
  by_cases hs : A.slots.size = B.slots.size
  · have c3 : Steps p.tables e below (s₁.setTop (entryFrame m #[.ref a, .ref b] 3)) (s₁.setTop (mkF m 9 #[.val (.ref a), .val (.ref b), .val (.int 0)] [])) := c2.trans (by
      refine XS.icmpNo X0.here hexec rfl (hb hbytes d4) rfl (ii_ne_f (by rw [hs])) ?_
      refine iconstV X0.here hexec rfl 0 (hb hbytes d7) (by decide) ?_
      refine XS.istoreN X0.here hexec rfl (hb hbytes d8) rfl rfl ?_
      exact Steps.refl _)
    have loop : ∀ (r i : Nat), i + r = A.slots.size → (∀ j, j < i → yv A j = yv B j) → Steps p.tables e below (s₁.setTop (entryFrame m #[.ref a, .ref b] 3)) (s₁.setTop (mkF m 9 #[.val (.ref a), .val (.ref b), .val (.int (Int32.ofNat i))] [])) → ∃ (pc : Nat) (Ls : Array Slot) (v : Int32), (pc = 25 ∨ pc = 33) ∧ ((v = 1 ∧ EqC A B) ∨ (v = 0 ∧ ¬ EqC A B)) ∧ Steps p.tables e below (s₁.setTop (entryFrame m #[.ref a, .ref b] 3)) (s₁.setTop (mkF m pc Ls [.int v])) := by
      intro r
      induction r with
      | zero =>
        intro i hi he cl
        exact ⟨33, _, 1, Or.inr rfl, Or.inl ⟨rfl, hs, fun j hj => he j (by omega)⟩, cl.trans (by
          refine XS.iloadN X0.here hexec rfl (hb hbytes d9) rfl ?_
          refine XS.aloadN X0.here hexec rfl (hb hbytes d10) rfl rfl ?_
          refine X0.alen hexec hA0 rfl rfl (hb hbytes d11) ?_
          refine XS.icmpYes X0.here hexec rfl (pc0 := 12) rfl (hb hbytes d12) rfl (ii_ge_t (nlt32 (by omega) (by omega))) (by decide) rfl ?_
          refine iconstV X0.here hexec rfl 1 (hb hbytes d32) (by decide) ?_
          exact Steps.refl _)⟩
      | succ r ih =>
        intro i hi he cl
        have c4 : Steps p.tables e below (s₁.setTop (entryFrame m #[.ref a, .ref b] 3)) (s₁.setTop (mkF m 21 #[.val (.ref a), .val (.ref b), .val (.int (Int32.ofNat i))] [.int (yv B i), .int (yv A i)])) := cl.trans (by
          refine XS.iloadN X0.here hexec rfl (hb hbytes d9) rfl ?_
          refine XS.aloadN X0.here hexec rfl (hb hbytes d10) rfl rfl ?_
          refine X0.alen hexec hA0 rfl rfl (hb hbytes d11) ?_
          refine XS.icmpNo X0.here hexec rfl (hb hbytes d12) rfl (ii_ge_f (lt32 (by omega) (by omega))) ?_
          refine XS.aloadN X0.here hexec rfl (hb hbytes d15) rfl rfl ?_
          refine XS.iloadN X0.here hexec rfl (hb hbytes d16) rfl ?_
          refine X0.aget hexec hA0 rfl (yv_get hA tA (i := i) (by omega)) rfl rfl (hb hbytes d17) ?_
          refine XS.aloadN X0.here hexec rfl (hb hbytes d18) rfl rfl ?_
          refine XS.iloadN X0.here hexec rfl (hb hbytes d19) rfl ?_
          refine X0.aget hexec hB0 rfl (yv_get hB tB (i := i) (by omega)) rfl rfl (hb hbytes d20) ?_
          exact Steps.refl _)
        by_cases hv : yv A i = yv B i
        · have c5 : Steps p.tables e below (s₁.setTop (entryFrame m #[.ref a, .ref b] 3)) (s₁.setTop (mkF m 9 #[.val (.ref a), .val (.ref b), .val (.int (Int32.ofNat i + 1))] [])) := c4.trans (by
            refine XS.icmpYes X0.here hexec rfl (pc0 := 21) rfl (hb hbytes d21) rfl (ii_eq_t hv) (by decide) rfl ?_
            refine iincV X0.here hexec rfl 1 (hb hbytes d26) (by decide) rfl rfl ?_
            refine XS.goto X0.here hexec rfl (pc0 := 29) rfl (hb hbytes d29) (by decide) rfl ?_
            exact Steps.refl _)
          rw [succ32] at c5
          exact ih (i + 1) (by omega) (fun j hj => by
            by_cases e : j = i
            · rw [e]; exact hv
            · exact he j (by omega)) c5
        · exact ⟨25, _, 0, Or.inl rfl, Or.inr ⟨rfl, fun q => hv (q.2 i (by omega))⟩, c4.trans (by
            refine XS.icmpNo X0.here hexec rfl (hb hbytes d21) rfl (ii_eq_f hv) ?_
            refine iconstV X0.here hexec rfl 0 (hb hbytes d24) (by decide) ?_
            exact Steps.refl _)⟩
    obtain ⟨pc, Ls, v, hpc, hv, cz⟩ := loop A.slots.size 0 (by omega) (fun j hj => absurd hj (Nat.not_lt_zero j)) c3
    have nv : narrow .boolean (.int v) = .int v := by rcases hv with ⟨rfl, -⟩ | ⟨rfl, -⟩ <;> rfl
    rcases hpc with rfl | rfl
    · exact ⟨s₁, some (.int v), _, _, _, X0, rfl, rfl, rfl, (fun h => by cases h), ⟨v, rfl, hh0, hv⟩, fun fs hl => cz.trans (X0.ireturnOut hexec hret nv (Or.inr (Or.inl rfl)) (hb hbytes d25) hl)⟩
    · exact ⟨s₁, some (.int v), _, _, _, X0, rfl, rfl, rfl, (fun h => by cases h), ⟨v, rfl, hh0, hv⟩, fun fs hl => cz.trans (X0.ireturnOut hexec hret nv (Or.inr (Or.inl rfl)) (hb hbytes d33) hl)⟩
  · have c3 : Steps p.tables e below (s₁.setTop (entryFrame m #[.ref a, .ref b] 3)) (s₁.setTop (mkF m 35 #[.val (.ref a), .val (.ref b), .unset] [.int 0])) := c2.trans (by
      refine XS.icmpYes X0.here hexec rfl (pc0 := 4) rfl (hb hbytes d4) rfl (ii_ne_t (ne32 a31 b31 hs)) (by decide) rfl ?_
      refine iconstV X0.here hexec rfl 0 (hb hbytes d34) (by decide) ?_
      exact Steps.refl _)
    exact ⟨s₁, some (.int 0), _, _, _, X0, rfl, rfl, rfl, (fun h => by cases h), ⟨0, rfl, hh0, Or.inr ⟨rfl, fun q => hs q.1⟩⟩, fun fs hl => c3.trans (X0.ireturnOut hexec hret rfl (Or.inr (Or.inl rfl)) (hb hbytes d35) hl)⟩
end LEq
theorem Cod.ty {cd : Int32} {n : Nat} {f : Nat → Int32} {V : Cell} (h : Cod cd n f V) : Typed .byte V := fun i v hv => by
  have hi : i < V.slots.size := (Array.getElem?_eq_some_iff.mp hv).1
  rcases h with ⟨-, k1, k2⟩ | ⟨-, k1, k2, -⟩
  · rw [(k2 i (by omega)).1] at hv; cases hv; exact fits_lo8 _
  · rcases Nat.mod_two_eq_zero_or_one i with e | e
    · obtain ⟨j, rfl⟩ : ∃ j, i = 2 * j := ⟨i / 2, by omega⟩
      rw [(k2 j (by omega)).1] at hv; cases hv; exact fits_lo8 _
    · obtain ⟨j, rfl⟩ : ∃ j, i = 2 * j + 1 := ⟨i / 2, by omega⟩
      rw [(k2 j (by omega)).2] at hv; cases hv; exact fits_lo8 _
/-- the same text -/
def SameT (n : Nat) (f : Nat → Int32) (k : Nat) (g : Nat → Int32) : Prop := n = k ∧ ∀ j, j < n → f j = g j
theorem lo8_inj {x y : Int32} (h0 : ¬ x < 0) (h1 : ¬ 255 < x) (k0 : ¬ y < 0) (k1 : ¬ 255 < y) (h : lo8 x = lo8 y) : x = y := by
  rw [← lo8_mask h0 h1, ← lo8_mask k0 k1, h]
/-- arrays coded by one coder are equal just where the texts are -/
theorem Cod.eqv {cd : Int32} {n k : Nat} {f g : Nat → Int32} {V V' : Cell} (h : Cod cd n f V) (h' : Cod cd k g V') (hf : ∀ j, j < n → ¬ f j < 0 ∧ ¬ 65535 < f j) (hg : ∀ j, j < k → ¬ g j < 0 ∧ ¬ 65535 < g j) : EqC V V' ↔ SameT n f k g := by
  have yvv : ∀ {W : Cell} {i : Nat} {x : Int32}, W.slots[i]? = some (.int x) → yv W i = x := fun q => by unfold yv; rw [q]
  rcases h with ⟨rfl, k1, k2⟩ | ⟨rfl, k1, k2, -⟩
  · rcases h' with ⟨-, m1, m2⟩ | ⟨e, -⟩
    · constructor
      · rintro ⟨e1, e2⟩
        refine ⟨by omega, fun j hj => ?_⟩
        have q := e2 j (by omega)
        rw [yvv (k2 j hj).1, yvv (m2 j (by omega)).1] at q
        exact lo8_inj (hf j hj).1 (k2 j hj).2 (hg j (by omega)).1 (m2 j (by omega)).2 q
      · rintro ⟨rfl, e2⟩
        refine ⟨by omega, fun j hj => ?_⟩
        rw [yvv (k2 j (by omega)).1, yvv (m2 j (by omega)).1, e2 j (by omega)]
    · exact absurd e (by decide)
  · rcases h' with ⟨e, -⟩ | ⟨-, m1, m2, -⟩
    · exact absurd e (by decide)
    · constructor
      · rintro ⟨e1, e2⟩
        refine ⟨by omega, fun j hj => ?_⟩
        have q1 := e2 (2 * j) (by omega)
        have q2 := e2 (2 * j + 1) (by omega)
        rw [yvv (k2 j hj).1, yvv (m2 j (by omega)).1] at q1
        rw [yvv (k2 j hj).2, yvv (m2 j (by omega)).2] at q2
        rw [← pair_says (hf j hj).1 (hf j hj).2, ← pair_says (hg j (by omega)).1 (hg j (by omega)).2, q1, q2]
      · rintro ⟨rfl, e2⟩
        refine ⟨by omega, fun i hi => ?_⟩
        rcases Nat.mod_two_eq_zero_or_one i with e | e
        · obtain ⟨j, rfl⟩ : ∃ j, i = 2 * j := ⟨i / 2, by omega⟩
          rw [yvv (k2 j (by omega)).1, yvv (m2 j (by omega)).1, e2 j (by omega)]
        · obtain ⟨j, rfl⟩ : ∃ j, i = 2 * j + 1 := ⟨i / 2, by omega⟩
          rw [yvv (k2 j (by omega)).2, yvv (m2 j (by omega)).2, e2 j (by omega)]
/-- two codings differ: so do the texts -/
theorem Cod.dif {cd cd' : Int32} {n k : Nat} {f g : Nat → Int32} {V V' : Cell} (h : Cod cd n f V) (h' : Cod cd' k g V') (hne : ¬ cd = cd') : ¬ SameT n f k g := by
  rintro ⟨rfl, e⟩
  rcases h with ⟨rfl, -, k2⟩ | ⟨rfl, -, -, j, hj, hw⟩
  · rcases h' with ⟨rfl, -⟩ | ⟨-, -, -, j, hj, hw⟩
    · exact hne rfl
    · exact (k2 j hj).2 (by rw [e j hj]; exact hw)
  · rcases h' with ⟨-, -, m2⟩ | ⟨rfl, -⟩
    · exact (m2 j hj).2 (by rw [← e j hj]; exact hw)
    · exact hne rfl
/-- an object of exactly C is an instance of C -/
theorem cinst {p : Program} {l : Launch} {e : Env} {R : Room} {s : State} {m : MethodId} {args : Array Value} {below : List Frame} {meth : Method} {c : Code} {T : State} {locs : List Loc} {cells slots : Nat} (X : Stand p l e R s m args below meth c T locs cells slots) (hexec : p.tables.exec = Jvm.exec) {own C : String} {index : Nat} (hown : s.vm.findClass own = some m.cls) (hlink : (Cond.classLink own index C).before args s = true) {a : Addr} (hE : Exact C a T)
    {g : JFrame} (hg : g.method = m) {rest : List Value} (hstack : g.stack = .ref a :: rest) (hdg : decode c.code g.pc = .ok (.instanceof index, 3)) :
    ∃ T', Stand p l e R s m args below meth c T' locs cells slots ∧ T'.heap = T.heap ∧ ∀ target, Steps p.tables e below (T'.setTop { g with pc := g.pc + 3, stack := .int 1 :: rest }) target → Steps p.tables e below (T.setTop g) target := by
  obtain ⟨cB, h1, D, h2, h3, h4⟩ := hE
  have h1' : s.vm.findClass C = some cB := by rw [← X.warmed.alike.findClass]; exact h1
  obtain ⟨vm', X', st⟩ := X.instanceofYes hexec hown hlink h2 h4 h1' (by rw [h3]; exact Jvm.Free.SB.assignable_self _ _) hg hstack hdg
  exact ⟨_, X', rfl, st⟩
theorem cself {p : Program} {l : Launch} {e : Env} {R : Room} {s : State} {m : MethodId} {args : Array Value} {below : List Frame} {meth : Method} {c : Code} {T : State} {locs : List Loc} {cells slots : Nat} (X : Stand p l e R s m args below meth c T locs cells slots) (hexec : p.tables.exec = Jvm.exec) {own C : String} {index : Nat} (hown : s.vm.findClass own = some m.cls) (hlink : (Cond.classLink own index C).before args s = true) {a : Addr} (hE : Exact C a T)
    {g : JFrame} (hg : g.method = m) {rest : List Value} (hstack : g.stack = .ref a :: rest) (hdg : decode c.code g.pc = .ok (.checkcast index, 3)) :
    ∃ T', Stand p l e R s m args below meth c T' locs cells slots ∧ T'.heap = T.heap ∧ ∀ target, Steps p.tables e below (T'.setTop { g with pc := g.pc + 3, stack := .ref a :: rest }) target → Steps p.tables e below (T.setTop g) target := by
  obtain ⟨cB, h1, D, h2, h3, h4⟩ := hE
  have h1' : s.vm.findClass C = some cB := by rw [← X.warmed.alike.findClass]; exact h1
  obtain ⟨vm', X', st⟩ := X.checkcastYes hexec hown hlink h2 h4 h1' (by rw [h3]; exact Jvm.Free.SB.assignable_self _ _) hg hstack hdg
  exact ⟨_, X', rfl, fun t h => st t (by rw [← hstack] at h; exact h)⟩
namespace SEq
def yN : MethodName := ⟨"java/lang/String", "equals", "(Ljava/lang/Object;)Z"⟩
abbrev yB : ByteArray := jdk_42_method_66_code
theorem d0 : decode yB 0 = .ok (.aload_n 0, 1) := by decide +kernel
theorem d1 : decode yB 1 = .ok (.aload_n 1, 1) := by decide +kernel
theorem d2 : decode yB 2 = .ok (.if_acmp (.ne) 5, 3) := by decide +kernel
theorem d5 : decode yB 5 = .ok (.iconst 1, 1) := by decide +kernel
theorem d6 : decode yB 6 = .ok (.ireturn, 1) := by decide +kernel
theorem d7 : decode yB 7 = .ok (.aload_n 1, 1) := by decide +kernel
theorem d8 : decode yB 8 = .ok (.instanceof 10, 3) := by decide +kernel
theorem d11 : decode yB 11 = .ok (.ifCond (.eq) 43, 3) := by decide +kernel
theorem d14 : decode yB 14 = .ok (.aload_n 1, 1) := by decide +kernel
theorem d15 : decode yB 15 = .ok (.checkcast 10, 3) := by decide +kernel
theorem d18 : decode yB 18 = .ok (.astore_n 2, 1) := by decide +kernel
theorem d19 : decode yB 19 = .ok (.getstatic 38, 3) := by decide +kernel
theorem d22 : decode yB 22 = .ok (.ifCond (.eq) 14, 3) := by decide +kernel
theorem d25 : decode yB 25 = .ok (.aload_n 0, 1) := by decide +kernel
theorem d26 : decode yB 26 = .ok (.getfield 15, 3) := by decide +kernel
theorem d29 : decode yB 29 = .ok (.aload_n 2, 1) := by decide +kernel
theorem d30 : decode yB 30 = .ok (.getfield 15, 3) := by decide +kernel
theorem d33 : decode yB 33 = .ok (.if_icmp (.ne) 21, 3) := by decide +kernel
theorem d36 : decode yB 36 = .ok (.aload_n 0, 1) := by decide +kernel
theorem d37 : decode yB 37 = .ok (.getfield 9, 3) := by decide +kernel
theorem d40 : decode yB 40 = .ok (.aload_n 2, 1) := by decide +kernel
theorem d41 : decode yB 41 = .ok (.getfield 9, 3) := by decide +kernel
theorem d44 : decode yB 44 = .ok (.invokestatic 541, 3) := by decide +kernel
theorem d47 : decode yB 47 = .ok (.ifCond (.eq) 7, 3) := by decide +kernel
theorem d50 : decode yB 50 = .ok (.iconst 1, 1) := by decide +kernel
theorem d51 : decode yB 51 = .ok (.goto 4, 3) := by decide +kernel
theorem d54 : decode yB 54 = .ok (.iconst 0, 1) := by decide +kernel
theorem d55 : decode yB 55 = .ok (.ireturn, 1) := by decide +kernel
def site : List Cond := [.classLink "java/lang/String" 10 "java/lang/String", .fieldLink "java/lang/String" 38 "java/lang/String" "COMPACT_STRINGS" "Z", .fieldLink "java/lang/String" 15 "java/lang/String" "coder" "B", .fieldLink "java/lang/String" 9 "java/lang/String" "value" "[B", LEq.tab] ++ staticW "java/lang/String" 541 LEq.yN
def tab : Cond := tabOf yN yB 3 (some .boolean) site
def P (x t : Addr) (V : Cell) (cd : Int32) (n : Nat) (f : Nat → Int32) (y t' : Addr) (V' : Cell) (cd' : Int32) (k : Nat) (g : Nat → Int32) (z : Int32) (args : Array Value) (s : State) : Prop := args = #[.ref x, .ref y] ∧ Txt x t V cd n f s ∧ Txt y t' V' cd' k g s ∧ StaticIs s "java/lang/String" "COMPACT_STRINGS" "Z" (.int z) ∧ ¬ z = 0
/-- equals(Object) of two Strings: whether the texts are the same -/
theorem law (l : Launch) (x t : Addr) (V : Cell) (cd : Int32) (n : Nat) (f : Nat → Int32) (y t' : Addr) (V' : Cell) (cd' : Int32) (k : Nat) (g : Nat → Int32) (z : Int32) : Law l yN 2 1 1 14 yB 3 (some .boolean) site (P x t V cd n f y t' V' cd' k g z) (Says01 (SameT n f k g)) [] 0 0 := by
  refine Law.of_walk (plainFor_of_name (by decide +kernel)) (by decide +kernel) (by decide +kernel) (by decide) (fun _ _ h => by rw [h.1]; rfl) (fun _ U U' hal hh h => ⟨h.1, h.2.1.mv hal hh, h.2.2.1.mv hal hh, h.2.2.2.1.there hal hh, h.2.2.2.2⟩) (fun r U U' V V' h1 hal h2 h => Says01.mv r U U' V V' h1 hal h2 h) ?_
  intro p e s m args below meth c s₁ X0 hexec hbytes hml hret hlk hnm hown hh0 W hP
  obtain ⟨rfl, hx, hy, s1, hz⟩ := hP
  have c1 : Steps p.tables e below (s₁.setTop (entryFrame m #[.ref x, .ref y] 3)) (s₁.setTop (mkF m 2 #[.val (.ref x), .val (.ref y), .unset] [.ref y, .ref x])) := Steps.trans (entry rfl) (by
    show Steps p.tables e below (s₁.setTop (mkF m 0 #[.val (.ref x), .val (.ref y), .unset] [])) _
    refine XS.aloadN X0.here hexec rfl (hb hbytes d0) rfl rfl ?_
    refine XS.aloadN X0.here hexec rfl (hb hbytes d1) rfl rfl ?_
    exact Steps.refl _)
  by_cases hxy : x = y
  · have c2 : Steps p.tables e below (s₁.setTop (entryFrame m #[.ref x, .ref y] 3)) (s₁.setTop (mkF m 6 #[.val (.ref x), .val (.ref y), .unset] [.int 1])) := c1.trans (by
      refine acmpNo X0.here hexec rfl (hb hbytes d2) rfl rfl rfl (by simp [acmp, hxy]) ?_
      refine iconstV X0.here hexec rfl 1 (hb hbytes d5) (by decide) ?_
      exact Steps.refl _)
    subst hxy
    have ec : cd = cd' := by
      obtain ⟨D, fd, a1, a2, a3⟩ := hx.2.2.1
      obtain ⟨D', fd', b1, b2, b3⟩ := hy.2.2.1
      cases a1.symm.trans b1
      obtain ⟨q1, q2, q3, q4⟩ := a2.1
      obtain ⟨r1, r2, r3, r4⟩ := b2.1
      cases q4.symm.trans r4
      cases a3.symm.trans b3; rfl
    have et : t = t' := by
      obtain ⟨D, fd, a1, a2, a3⟩ := hx.2.1
      obtain ⟨D', fd', b1, b2, b3⟩ := hy.2.1
      cases a1.symm.trans b1
      obtain ⟨q1, q2, q3, q4⟩ := a2.1
      obtain ⟨r1, r2, r3, r4⟩ := b2.1
      cases q4.symm.trans r4
      cases a3.symm.trans b3; rfl
    subst ec et
    have ev : V = V' := by cases hx.2.2.2.1.1.symm.trans hy.2.2.2.1.1; rfl
    subst ev
    have hs : SameT n f k g := (Cod.eqv hx.2.2.2.2.1 hy.2.2.2.2.1 hx.2.2.2.2.2 hy.2.2.2.2.2).mp ⟨rfl, fun _ _ => rfl⟩
    exact ⟨s₁, some (.int 1), _, _, _, X0, rfl, rfl, rfl, (fun h => by cases h), ⟨1, rfl, hh0, Or.inl ⟨rfl, hs⟩⟩, fun fs hl => c2.trans (X0.ireturnOut hexec hret rfl (Or.inr (Or.inl rfl)) (hb hbytes d6) hl)⟩
  · have c2 : Steps p.tables e below (s₁.setTop (entryFrame m #[.ref x, .ref y] 3)) (s₁.setTop (mkF m 8 #[.val (.ref x), .val (.ref y), .unset] [.ref y])) := c1.trans (by
      refine acmpYes X0.here hexec rfl (pc0 := 2) rfl (hb hbytes d2) rfl rfl rfl (by simp [acmp, hxy]) (by decide) rfl ?_
      refine XS.aloadN X0.here hexec rfl (hb hbytes d7) rfl rfl ?_
      exact Steps.refl _)
    obtain ⟨T3, X3, q3, st3⟩ := cinst X0 hexec hown (wk W (.classLink "java/lang/String" 10 "java/lang/String")) (hy.mv X0.warmed.alike hh0).1 (g := (mkF m 8 #[.val (.ref x), .val (.ref y), .unset] [.ref y])) rfl (rest := []) rfl (hb hbytes d8)
    have hh3 := q3.trans hh0
    have c4 : Steps p.tables e below (s₁.setTop (entryFrame m #[.ref x, .ref y] 3)) (T3.setTop (mkF m 15 #[.val (.ref x), .val (.ref y), .unset] [.ref y])) := (c2.trans (st3 _ (Steps.refl _))).trans (by
      refine XS.ifNo X3.here hexec rfl (hb hbytes d11) rfl (i0_eq_f (by decide)) ?_
      refine XS.aloadN X3.here hexec rfl (hb hbytes d14) rfl rfl ?_
      exact Steps.refl _)
    obtain ⟨T5, X5, q5, st5⟩ := cself X3 hexec hown (wk W (.classLink "java/lang/String" 10 "java/lang/String")) (hy.mv X3.warmed.alike hh3).1 (g := (mkF m 15 #[.val (.ref x), .val (.ref y), .unset] [.ref y])) rfl (rest := []) rfl (hb hbytes d15)
    have hh5 := q5.trans hh3
    have c6 : Steps p.tables e below (s₁.setTop (entryFrame m #[.ref x, .ref y] 3)) (T5.setTop (mkF m 19 #[.val (.ref x), .val (.ref y), .val (.ref y)] [])) := (c4.trans (st5 _ (Steps.refl _))).trans (by
      refine XS.astoreN X5.here hexec rfl (hb hbytes d18) rfl rfl rfl ?_
      exact Steps.refl _)
    obtain ⟨T7, X7, q7, st7⟩ := X5.sget hexec hown (wk W (.fieldLink "java/lang/String" 38 "java/lang/String" "COMPACT_STRINGS" "Z")) s1 (fun _ _ h => by rw [hh5]; exact h) (g := (mkF m 19 #[.val (.ref x), .val (.ref y), .val (.ref y)] [])) rfl (hb hbytes d19)
    have hh7 := q7.trans hh5
    have c8 : Steps p.tables e below (s₁.setTop (entryFrame m #[.ref x, .ref y] 3)) (T7.setTop (mkF m 26 #[.val (.ref x), .val (.ref y), .val (.ref y)] [.ref x])) := (c6.trans (st7 _ (Steps.refl _))).trans (by
      refine XS.ifNo X7.here hexec rfl (hb hbytes d22) rfl (i0_eq_f hz) ?_
      refine XS.aloadN X7.here hexec rfl (hb hbytes d25) rfl rfl ?_
      exact Steps.refl _)
    obtain ⟨T9, X9, q9, st9⟩ := X7.hget hexec hown (wk W (.fieldLink "java/lang/String" 15 "java/lang/String" "coder" "B")) (hx.mv X7.warmed.alike hh7).2.2.1 (g := (mkF m 26 #[.val (.ref x), .val (.ref y), .val (.ref y)] [.ref x])) rfl (rest := []) rfl (hb hbytes d26)
    have hh9 := q9.trans hh7
    have c10 : Steps p.tables e below (s₁.setTop (entryFrame m #[.ref x, .ref y] 3)) (T9.setTop (mkF m 30 #[.val (.ref x), .val (.ref y), .val (.ref y)] [.ref y, .int cd])) := (c8.trans (st9 _ (Steps.refl _))).trans (by
      refine XS.aloadN X9.here hexec rfl (hb hbytes d29) rfl rfl ?_
      exact Steps.refl _)
    obtain ⟨T11, X11, q11, st11⟩ := X9.hget hexec hown (wk W (.fieldLink "java/lang/String" 15 "java/lang/String" "coder" "B")) (hy.mv X9.warmed.alike hh9).2.2.1 (g := (mkF m 30 #[.val (.ref x), .val (.ref y), .val (.ref y)] [.ref y, .int cd])) rfl (rest := [.int cd]) rfl (hb hbytes d30)
    have hh11 := q11.trans hh9
    have c12 : Steps p.tables e below (s₁.setTop (entryFrame m #[.ref x, .ref y] 3)) (T11.setTop (mkF m 33 #[.val (.ref x), .val (.ref y), .val (.ref y)] [.int cd', .int cd])) := c10.trans (st11 _ (Steps.refl _))
    by_cases hcd : cd = cd'
    · subst hcd
      have c13 : Steps p.tables e below (s₁.setTop (entryFrame m #[.ref x, .ref y] 3)) (T11.setTop (mkF m 37 #[.val (.ref x), .val (.ref y), .val (.ref y)] [.ref x])) := c12.trans (by
        refine XS.icmpNo X11.here hexec rfl (hb hbytes d33) rfl (ii_ne_f rfl) ?_
        refine XS.aloadN X11.here hexec rfl (hb hbytes d36) rfl rfl ?_
        exact Steps.refl _)
      obtain ⟨T14, X14, q14, st14⟩ := X11.hget hexec hown (wk W (.fieldLink "java/lang/String" 9 "java/lang/String" "value" "[B")) (hx.mv X11.warmed.alike hh11).2.1 (g := (mkF m 37 #[.val (.ref x), .val (.ref y), .val (.ref y)] [.ref x])) rfl (rest := []) rfl (hb hbytes d37)
      have hh14 := q14.trans hh11
      have c15 : Steps p.tables e below (s₁.setTop (entryFrame m #[.ref x, .ref y] 3)) (T14.setTop (mkF m 41 #[.val (.ref x), .val (.ref y), .val (.ref y)] [.ref y, .ref t])) := (c13.trans (st14 _ (Steps.refl _))).trans (by
        refine XS.aloadN X14.here hexec rfl (hb hbytes d40) rfl rfl ?_
        exact Steps.refl _)
      obtain ⟨T16, X16, q16, st16⟩ := X14.hget hexec hown (wk W (.fieldLink "java/lang/String" 9 "java/lang/String" "value" "[B")) (hy.mv X14.warmed.alike hh14).2.1 (g := (mkF m 41 #[.val (.ref x), .val (.ref y), .val (.ref y)] [.ref y, .ref t])) rfl (rest := [.ref t]) rfl (hb hbytes d41)
      have hh16 := q16.trans hh14
      have c17 : Steps p.tables e below (s₁.setTop (entryFrame m #[.ref x, .ref y] 3)) (T16.setTop (mkF m 44 #[.val (.ref x), .val (.ref y), .val (.ref y)] [.ref t', .ref t])) := c15.trans (st16 _ (Steps.refl _))
      obtain ⟨v18, T18, X18, E18, g18⟩ := X16.callS hexec (LEq.law l t V t' V') hown (wks W (staticW "java/lang/String" 541 LEq.yN)) (wk W LEq.tab) (W := 0) (Nat.le_of_ble_eq_true rfl) (Nat.le_of_ble_eq_true rfl) (Nat.le_refl _) (Nat.le_refl _) (g := (mkF m 44 #[.val (.ref x), .val (.ref y), .val (.ref y)] [.ref t', .ref t])) rfl (by rw [hml]; rfl) c17 (argsL := [.ref t, .ref t']) (rest := []) rfl rfl (by show 2 * 0 + 0 ≤ _; decide) (hb hbytes d44) (⟨rfl, hx.2.2.2.1.mv X16.warmed.alike hh16, hx.2.2.2.2.1.ty, hy.2.2.2.1.mv X16.warmed.alike hh16, hy.2.2.2.2.1.ty⟩)
      obtain ⟨v, rfl, q18, hv⟩ := E18
      have iff := Cod.eqv hx.2.2.2.2.1 hy.2.2.2.2.1 hx.2.2.2.2.2 hy.2.2.2.2.2
      rcases hv with ⟨rfl, he⟩ | ⟨rfl, he⟩
      · have c19 : Steps p.tables e below (s₁.setTop (entryFrame m #[.ref x, .ref y] 3)) (T18.setTop (mkF m 55 #[.val (.ref x), .val (.ref y), .val (.ref y)] [.int 1])) := Steps.trans g18 (by
          refine XS.ifNo X18.here hexec rfl (hb hbytes d47) rfl (i0_eq_f (by decide)) ?_
          refine iconstV X18.here hexec rfl 1 (hb hbytes d50) (by decide) ?_
          refine XS.goto X18.here hexec rfl (pc0 := 51) rfl (hb hbytes d51) (by decide) rfl ?_
          exact Steps.refl _)
        exact ⟨T18, some (.int 1), _, _, _, X18, rfl, rfl, rfl, (fun h => by cases h), ⟨1, rfl, q18.trans hh16, Or.inl ⟨rfl, iff.mp he⟩⟩, fun fs hl => c19.trans (X18.ireturnOut hexec hret rfl (Or.inr (Or.inl rfl)) (hb hbytes d55) hl)⟩
      · have c19 : Steps p.tables e below (s₁.setTop (entryFrame m #[.ref x, .ref y] 3)) (T18.setTop (mkF m 55 #[.val (.ref x), .val (.ref y), .val (.ref y)] [.int 0])) := Steps.trans g18 (by
          refine XS.ifYes X18.here hexec rfl (pc0 := 47) rfl (hb hbytes d47) rfl (i0_eq_t rfl) (by decide) rfl ?_
          refine iconstV X18.here hexec rfl 0 (hb hbytes d54) (by decide) ?_
          exact Steps.refl _)
        exact ⟨T18, some (.int 0), _, _, _, X18, rfl, rfl, rfl, (fun h => by cases h), ⟨0, rfl, q18.trans hh16, Or.inr ⟨rfl, fun q => he (iff.mpr q)⟩⟩, fun fs hl => c19.trans (X18.ireturnOut hexec hret rfl (Or.inr (Or.inl rfl)) (hb hbytes d55) hl)⟩
    · have c13 : Steps p.tables e below (s₁.setTop (entryFrame m #[.ref x, .ref y] 3)) (T11.setTop (mkF m 55 #[.val (.ref x), .val (.ref y), .val (.ref y)] [.int 0])) := c12.trans (by
        refine XS.icmpYes X11.here hexec rfl (pc0 := 33) rfl (hb hbytes d33) rfl (ii_ne_t hcd) (by decide) rfl ?_
        refine iconstV X11.here hexec rfl 0 (hb hbytes d54) (by decide) ?_
        exact Steps.refl _)
      exact ⟨T11, some (.int 0), _, _, _, X11, rfl, rfl, rfl, (fun h => by cases h), ⟨0, rfl, hh11, Or.inr ⟨rfl, Cod.dif hx.2.2.2.2.1 hy.2.2.2.2.1 hcd⟩⟩, fun fs hl => c13.trans (X11.ireturnOut hexec hret rfl (Or.inr (Or.inl rfl)) (hb hbytes d55) hl)⟩
theorem pays {l : Launch} {R : Room} {p : Program} {e : Env} {below : List Frame} {s : State} {sargs : Array Value} {len W : Nat} (x t : Addr) (V : Cell) (cd : Int32) (n : Nat) (f : Nat → Int32) (y t' : Addr) (V' : Cell) (cd' : Int32) (k : Nat) (g : Nat → Int32) (z : Int32) (htab : tab.before sargs s = true) (hfr : 2 ≤ R.frames) (hlo : W + 28 ≤ R.locals) :
    Back l R p e below s sargs yN len W (fun A₁ a₁ => A₁.cells + 0 ≤ R.cells ∧ A₁.slots + 0 ≤ R.slots ∧ P x t V cd n f y t' V' cd' k g z a₁ A₁.U) (fun A₁ _ v₁ B₁ => Says01 (SameT n f k g) v₁ A₁.U B₁.U ∧ B₁.locs = A₁.locs ++ [] ∧ B₁.cells = A₁.cells + 0 ∧ B₁.slots = A₁.slots + 0) :=
  (law l x t V cd n f y t' V' cd' k g z).pays htab hfr (by omega)
end SEq
end StrChars
namespace StrChars.Road
open Jvm Sem ClassFile Op Lib Jvm.Stand Jvm.Free Jvm.Free.XT
open Jvm.Lib.Cold (StaticIs)
/-- the words of String.equals(Object) -/
abbrev wordsEq : List Jvm.Cond := [.code SEq.yN SEq.yB 3 (some .boolean), .initialized ST, .classLink ST 10 ST, .fieldLink ST 38 ST "COMPACT_STRINGS" "Z", .fieldLink ST 15 ST "coder" "B", .fieldLink ST 9 ST "value" "[B", .methodLink ST 541 LEq.yN, .static LEq.yN, .code LEq.yN LEq.yB 3 (some .boolean), .initialized "java/lang/StringLatin1"]
theorem tabEq_of {a : Array Value} {s : State} (h : ∀ w ∈ wordsEq, w.before a s = true) : SEq.tab.before a s = true := by
  have hl : LEq.tab.before a s = true := unparts (wk h (.code LEq.yN LEq.yB 3 (some .boolean))) (wks h (.initialized LEq.yN.cls :: LEq.site))
  have q := consq hl h
  exact unparts (wk q (.code SEq.yN SEq.yB 3 (some .boolean))) (wks q (.initialized SEq.yN.cls :: SEq.site))
theorem movedEq {Z s : State} {a0 args : Array Value} (hZ : Z.Warmed39 s.vm) (hw : ∀ d ∈ wordsEq, d.before a0 Z = true) : ∀ d ∈ wordsEq, d.before args s = true := fun d hd => by
  have t : ∀ d ∈ wordsEq, (d.onTables && d.keepsFace) = true := by decide +kernel
  exact RoadKit.mv hZ (hw d hd) (t d hd)
/-- the road's facts of a String, as the laws ask it -/
theorem txt_of {Z U : State} {a0 : Array Value} {kI : Nat} (wi : (Jvm.Cond.instantiable ST kI).before a0 Z = true) (al : Z.vm.Alike U.vm) {x t : Addr} {kb : ClassId} {cs : List Int32} {cd N2 : Int32} {vs : List Value} (E : RoadKit.Exa Z U.heap x ST) (V : RoadKit.Fld Z U.heap x ST "value" "[B" (.ref t)) (C : RoadKit.Fld Z U.heap x ST "coder" "B" (.int cd)) (K : RoadKit.Arv Z U.heap t kb .byte N2 vs (.int 0)) (hc : CodA cs cd N2 vs) (hb : ∀ c ∈ cs, ¬ c < 0 ∧ ¬ (65535 : Int32) < c) (l2 : cs.length ≤ 4000) :
    ∃ A, Txt x t A cd cs.length (fun j => cs.getD j 0) U := by
  obtain ⟨A, K1, K2, K3, K4, K5, K6⟩ := K
  have hcod := hc.cod (by omega) K3 K5
  obtain ⟨D, fV, fC, hB, F1, F2, g1, g2, -, -⟩ := strObj wi al E V C
  exact ⟨A, ⟨_, hB.2.2.1, D, hB.1, rfl, by cases q : D.vm <;> first | rfl | exact absurd q (hB.2.1.2 _)⟩, Has.of hB F1 g1, Has.of hB F2 g2, ⟨K1.1, State.isArrayOf_alike al K1.2.1, K1.2.2, by rcases hcod with ⟨-, q, -⟩ | ⟨-, q, -⟩ <;> omega⟩, hcod, fun j hj => by
    have e : cs.getD j 0 = cs[j] := by simp [List.getD_eq_getElem?_getD, hj]
    show ¬ cs.getD j 0 < 0 ∧ ¬ 65535 < cs.getD j 0
    rw [e]; exact hb _ (List.getElem_mem _)⟩
theorem same_list (cs ds : List Int32) : SameT cs.length (fun j => cs.getD j 0) ds.length (fun j => ds.getD j 0) ↔ cs = ds := by
  constructor
  · rintro ⟨e, q⟩
    refine List.ext_getElem e fun j h1 h2 => ?_
    have := q j h1
    simpa [List.getD_eq_getElem?_getD, h1, h2] using this
  · rintro rfl
    exact ⟨rfl, fun _ _ => rfl⟩
/-- **equals(Object) OF TWO SUCH STRINGS**: 1 just where the chars are the same -/
theorem eqW {p : Program} {l : Launch} {e : Env} {R : Room} {s : State} {args : Array Value} {below : List Frame} {len W : Nat} {Z : State} {a0 : Array Value} {h : Heap} (hZ : Z.Warmed39 s.vm) (hw : ∀ d ∈ wordsEq, d.before a0 Z = true) {kI : Nat} (wi : (Jvm.Cond.instantiable ST kI).before a0 Z = true)
    {x t : Addr} {kb : ClassId} {cs : List Int32} {cd N2 : Int32} {vs : List Value} (E : RoadKit.Exa Z h x ST) (V : RoadKit.Fld Z h x ST "value" "[B" (.ref t)) (C : RoadKit.Fld Z h x ST "coder" "B" (.int cd)) (K : RoadKit.Arv Z h t kb .byte N2 vs (.int 0)) (hc : CodA cs cd N2 vs) (hb : ∀ c ∈ cs, ¬ c < 0 ∧ ¬ (65535 : Int32) < c) (l2 : cs.length ≤ 4000)
    {y t' : Addr} {kb' : ClassId} {ds : List Int32} {cd' N2' : Int32} {vs' : List Value} (E' : RoadKit.Exa Z h y ST) (V' : RoadKit.Fld Z h y ST "value" "[B" (.ref t')) (C' : RoadKit.Fld Z h y ST "coder" "B" (.int cd')) (K' : RoadKit.Arv Z h t' kb' .byte N2' vs' (.int 0)) (hc' : CodA ds cd' N2' vs') (hb' : ∀ c ∈ ds, ¬ c < 0 ∧ ¬ (65535 : Int32) < c) (l2' : ds.length ≤ 4000)
    {z : Int32} (S : RoadKit.Sta Z h ST "COMPACT_STRINGS" "Z" (.int z)) (hz : ¬ z = 0) (hfr : 2 ≤ R.frames) (hlo : W + 28 ≤ R.locals) :
    Back l R p e below s args (⟨"java/lang/String", "equals", "(Ljava/lang/Object;)Z"⟩ : MethodName) len W (fun P a => a = #[.ref x, .ref y] ∧ P.U.heap = h ∧ P.cells + 0 ≤ R.cells ∧ P.slots + 0 ≤ R.slots)
      (fun P _ v B => ∃ L, (((v = some (.int 1) ∧ cs = ds) ∨ (v = some (.int 0) ∧ ¬ cs = ds)) ∧ L = [] ∧ B.U.heap = h) ∧ B.locs = P.locs ++ L ∧ B.cells = P.cells + 0 ∧ B.slots = P.slots + 0) := by
  intro m meth c P g ig mk a X hg hsize hdg hW hn hp'
  obtain ⟨rfl, rfl, r1, r2⟩ := hp'
  have al : Z.vm.Alike P.U.vm := hZ.alike.trans X.warmed.alike
  obtain ⟨A, hx⟩ := txt_of wi al E V C K hc hb l2
  obtain ⟨A', hy⟩ := txt_of wi al E' V' C' K' hc' hb' l2'
  obtain ⟨v, B, X', ⟨⟨w, hv, hh, hq⟩, hl, hk, hs⟩, st⟩ := SEq.pays x t A cd cs.length (fun j => cs.getD j 0) y t' A' cd' ds.length (fun j => ds.getD j 0) z (tabEq_of (movedEq hZ hw)) hfr hlo m meth c P g ig mk _ X hg hsize hdg hW hn ⟨r1, r2, rfl, hx, hy, sta_is al S, hz⟩
  refine ⟨v, B, X', ⟨[], ⟨?_, rfl, hh⟩, hl, hk, hs⟩, st⟩
  rcases hq with ⟨rfl, q⟩ | ⟨rfl, q⟩
  · exact Or.inl ⟨hv, (same_list cs ds).mp q⟩
  · exact Or.inr ⟨hv, fun e => q ((same_list cs ds).mpr e)⟩
end StrChars.Road
namespace StrChars.Road
open Jvm Sem ClassFile Op Lib Jvm.Stand Jvm.Free Jvm.Free.XT
open Jvm.Lib.Cold (StaticIs)
/-- what backV says of its String, as the contracts of this text ask it: cs's low bytes, coder 0 -/
theorem codOf {cs : List Int32} {n : Nat} (hn : cs.length = n) (hb : ∀ c ∈ cs, ¬ 255 < c) : CodA cs 0 (Int32.ofNat n) ((cs.map lo8).map Value.int) := Or.inl ⟨rfl, by rw [hn], by simp [List.map_map, Function.comp_def], hb⟩
end StrChars.Road
end Jvm.Pilot.@@N@@

namespace Jvm.Pilot.@@N@@
open Jvm Jvm.ClassFile Sem Op Lib Jvm.Free Jvm.Stand Jvm.LawKit Jvm.RoadKit Bundle Jvm.Pilot.@@N@@.Jvm.D
section OwnKit
variable {p : Program} {l : Launch} {e : Env} {R : Room} {s : State} {m : MethodId} {args : Array Value} {below : List Frame} {meth : Method} {c : Code} {T : State} {locs : List Loc} {cells slots : Nat} {Z : State} {h : Heap}
def own_Post (Q : Option Value → Heap → List Loc → Prop) (k n : Nat) (below : List Frame) (U : State) (t : State) (o : Outcome) : Prop :=
  t.status = .running ∧ Ended t below o ∧ ∃ v L, o = .returned v ∧ Q v t.heap L ∧ FrameEnd U o t L k n
def own_Fin (tb : Tables) (e : Env) (below : List Frame) (P : State → Outcome → Prop) (t0 : State) : Prop := ∃ t o, Steps tb e below t0 t ∧ P t o
theorem own_go {tb : Tables} {P : State → Outcome → Prop} {t0 t1 : State} (st : ∀ t, Steps tb e below t1 t → Steps tb e below t0 t) (q : own_Fin tb e below P t1) : own_Fin tb e below P t0 := by
  obtain ⟨t, o, h1, h2⟩ := q
  exact ⟨t, o, st _ h1, h2⟩
theorem own_retI {x : MethodName} {S : Spec} {code : ByteArray} {mx : Nat} {rt : Option FieldType} {s₁ : State} {Q : Option Value → Heap → List Loc → Prop} {kc kn : Nat} (X : Stand p l e R s m args below meth c T locs cells slots) (hx : p.tables.exec = Jvm.exec) (Bd : BodyLoose p l x S code mx rt e s m args below meth c s₁) {pc : Nat} {Ls : Array Slot} {z : Int32} {t : FieldType} {rest : List Value} (hret : meth.sig.returnType = some t) (hn : narrow t (.int z) = .int z)
    (ht : t = .int ∨ t = .boolean ∨ t = .byte ∨ t = .char ∨ t = .short) (hd : decode c.code pc = .ok (.ireturn, 1)) (hQ : Q (some (.int z)) T.heap locs) (hc : cells ≤ kc) (hs : slots ≤ kn) : own_Fin p.tables e below (own_Post Q kc kn below s) (T.setTop (mkF m pc Ls (.int z :: rest))) := by
  obtain ⟨fs, hr, hrun, hended, hW, hsame⟩ := X.leave (v := some (.int z)) (fun h => by rw [hret] at h; cases h) Bd.notSynchronized
  exact ⟨_, _, retOut X hx hret hn (Or.inl ⟨rfl, ht, z, rfl⟩) hd hr, hrun, hended, _, _, rfl, hQ, ⟨_, rfl⟩, hW, hsame.mono hc hs⟩
theorem own_retJ {x : MethodName} {S : Spec} {code : ByteArray} {mx : Nat} {rt : Option FieldType} {s₁ : State} {Q : Option Value → Heap → List Loc → Prop} {kc kn : Nat} (X : Stand p l e R s m args below meth c T locs cells slots) (hx : p.tables.exec = Jvm.exec) (Bd : BodyLoose p l x S code mx rt e s m args below meth c s₁) {pc : Nat} {Ls : Array Slot} {z : Int64} {rest : List Value} (hret : meth.sig.returnType = some .long)
    (hd : decode c.code pc = .ok (.lreturn, 1)) (hQ : Q (some (.long z)) T.heap locs) (hc : cells ≤ kc) (hs : slots ≤ kn) : own_Fin p.tables e below (own_Post Q kc kn below s) (T.setTop (mkF m pc Ls (.long z :: rest))) := by
  obtain ⟨fs, hr, hrun, hended, hW, hsame⟩ := X.leave (v := some (.long z)) (fun h => by rw [hret] at h; cases h) Bd.notSynchronized
  exact ⟨_, _, retOut X hx hret rfl (Or.inr (Or.inl ⟨rfl, rfl, z, rfl⟩)) hd hr, hrun, hended, _, _, rfl, hQ, ⟨_, rfl⟩, hW, hsame.mono hc hs⟩
theorem own_retA {x : MethodName} {S : Spec} {code : ByteArray} {mx : Nat} {rt : Option FieldType} {s₁ : State} {Q : Option Value → Heap → List Loc → Prop} {kc kn : Nat} (X : Stand p l e R s m args below meth c T locs cells slots) (hx : p.tables.exec = Jvm.exec) (Bd : BodyLoose p l x S code mx rt e s m args below meth c s₁) {pc : Nat} {Ls : Array Slot} {w : Value} {t : FieldType} {rest : List Value} (hret : meth.sig.returnType = some t) (ht : t.isReference = true) (hw : w.isRef = true) (hn : narrow t w = w)
    (hd : decode c.code pc = .ok (.areturn, 1)) (hQ : Q (some w) T.heap locs) (hc : cells ≤ kc) (hs : slots ≤ kn) : own_Fin p.tables e below (own_Post Q kc kn below s) (T.setTop (mkF m pc Ls (w :: rest))) := by
  obtain ⟨fs, hr, hrun, hended, hW, hsame⟩ := X.leave (v := some w) (fun h => by rw [hret] at h; cases h) Bd.notSynchronized
  exact ⟨_, _, retOut X hx hret hn (Or.inr (Or.inr (Or.inr (Or.inr ⟨rfl, ht, hw⟩)))) hd hr, hrun, hended, _, _, rfl, hQ, ⟨_, rfl⟩, hW, hsame.mono hc hs⟩
theorem own_ret0 {x : MethodName} {S : Spec} {code : ByteArray} {mx : Nat} {s₁ : State} {Q : Option Value → Heap → List Loc → Prop} {kc kn : Nat} (X : Stand p l e R s m args below meth c T locs cells slots) (hx : p.tables.exec = Jvm.exec) (Bd : BodyLoose p l x S code mx none e s m args below meth c s₁) {pc : Nat} {Ls : Array Slot}
    (hd : decode c.code pc = .ok (.return_, 1)) (hQ : Q none T.heap locs) (hc : cells ≤ kc) (hs : slots ≤ kn) : own_Fin p.tables e below (own_Post Q kc kn below s) (T.setTop (mkF m pc Ls [])) := by
  obtain ⟨fs, hr, hrun, hended, hW, hsame⟩ := X.leave (v := none) (fun _ => rfl) Bd.notSynchronized
  exact ⟨_, _, X.returnOut hx Bd.returns hd hr, hrun, hended, _, _, rfl, hQ, ⟨_, rfl⟩, hW, hsame.mono hc hs⟩
theorem own_alen {a : Addr} {k : ClassId} {ty : FieldType} {n : Int32} {vs : List Value} {d : Value} (X : Stand p l e R s m args below meth c T locs cells slots) (hx : p.tables.exec = Jvm.exec) (hZ : Z.Warmed39 s.vm) (eT : T.heap = h) (V : Arv Z h a k ty n vs d) {g : JFrame} (hg : g.method = m) {rest : List Value} (hs : g.stack = .ref a :: rest) (hd : decode c.code g.pc = .ok (.arraylength, 1)) (target : State)
    (q : Steps p.tables e below (T.setTop { g with pc := g.pc + 1, stack := .int n :: rest }) target) : Steps p.tables e below (T.setTop g) target := by
  obtain ⟨cl, A, -, S, M, -, -⟩ := V
  refine X.arraylength hx (by rw [eT]; exact A.1) (State.isArrayOf_alike hZ.alike A.2.1) hg hs hd _ ?_
  rw [len_of S M]; exact q
theorem own_laload {a : Addr} {k : ClassId} {n : Int32} {vs : List Value} {d : Value} (X : Stand p l e R s m args below meth c T locs cells slots) (hx : p.tables.exec = Jvm.exec) (hZ : Z.Warmed39 s.vm) (eT : T.heap = h) (V : Arv Z h a k .long n vs d) {j : Int32} (hj : ¬ j < 0 ∧ j < n) {v : Value} (hv : vs.getD j.toNatClampNeg d = v) {g : JFrame} (hg : g.method = m) {rest : List Value} (hs : g.stack = .int j :: .ref a :: rest) (hd : decode c.code g.pc = .ok (.laload, 1)) (target : State)
    (q : Steps p.tables e below (T.setTop { g with pc := g.pc + 1, stack := v :: rest }) target) : Steps p.tables e below (T.setTop g) target := by
  obtain ⟨cl, A, -, S, M, H, -⟩ := V
  exact X.laload hx (by rw [eT]; exact A.1) (State.isArrayOf_alike hZ.alike A.2.1) A.2.2 (inb_of S hj) (Has.at H (inb_of S hj) hv) hg hs hd _ q
theorem own_iaload {a : Addr} {k : ClassId} {n : Int32} {vs : List Value} {d : Value} (X : Stand p l e R s m args below meth c T locs cells slots) (hx : p.tables.exec = Jvm.exec) (hZ : Z.Warmed39 s.vm) (eT : T.heap = h) (V : Arv Z h a k .int n vs d) {j : Int32} (hj : ¬ j < 0 ∧ j < n) {v : Value} (hv : vs.getD j.toNatClampNeg d = v) {g : JFrame} (hg : g.method = m) {rest : List Value} (hs : g.stack = .int j :: .ref a :: rest) (hd : decode c.code g.pc = .ok (.iaload, 1)) (target : State)
    (q : Steps p.tables e below (T.setTop { g with pc := g.pc + 1, stack := v :: rest }) target) : Steps p.tables e below (T.setTop g) target := by
  obtain ⟨cl, A, -, S, M, H, -⟩ := V
  exact X.iaload hx (by rw [eT]; exact A.1) (State.isArrayOf_alike hZ.alike A.2.1) A.2.2 (inb_of S hj) (Has.at H (inb_of S hj) hv) hg hs hd _ q
theorem own_caload {a : Addr} {k : ClassId} {n : Int32} {vs : List Value} {d : Value} (X : Stand p l e R s m args below meth c T locs cells slots) (hx : p.tables.exec = Jvm.exec) (hZ : Z.Warmed39 s.vm) (eT : T.heap = h) (V : Arv Z h a k .char n vs d) {j : Int32} (hj : ¬ j < 0 ∧ j < n) {v : Value} (hv : vs.getD j.toNatClampNeg d = v) {g : JFrame} (hg : g.method = m) {rest : List Value} (hs : g.stack = .int j :: .ref a :: rest) (hd : decode c.code g.pc = .ok (.caload, 1)) (target : State)
    (q : Steps p.tables e below (T.setTop { g with pc := g.pc + 1, stack := v :: rest }) target) : Steps p.tables e below (T.setTop g) target := by
  obtain ⟨cl, A, -, S, M, H, -⟩ := V
  exact X.caload hx (by rw [eT]; exact A.1) (State.isArrayOf_alike hZ.alike A.2.1) A.2.2 (inb_of S hj) (Has.at H (inb_of S hj) hv) hg hs hd _ q
theorem own_baload {a : Addr} {k : ClassId} {n : Int32} {vs : List Value} {d : Value} (X : Stand p l e R s m args below meth c T locs cells slots) (hx : p.tables.exec = Jvm.exec) (hZ : Z.Warmed39 s.vm) (eT : T.heap = h) (V : Arv Z h a k .byte n vs d) {j : Int32} (hj : ¬ j < 0 ∧ j < n) {v : Value} (hv : vs.getD j.toNatClampNeg d = v) {g : JFrame} (hg : g.method = m) {rest : List Value} (hs : g.stack = .int j :: .ref a :: rest) (hd : decode c.code g.pc = .ok (.baload, 1)) (target : State)
    (q : Steps p.tables e below (T.setTop { g with pc := g.pc + 1, stack := v :: rest }) target) : Steps p.tables e below (T.setTop g) target := by
  obtain ⟨cl, A, -, S, M, H, -⟩ := V
  exact X.baloadBytes hx (by rw [eT]; exact A.1) (State.isArrayOf_alike hZ.alike A.2.1) A.2.2 (inb_of S hj) (Has.at H (inb_of S hj) hv) hg hs hd _ q
theorem own_aaload {a : Addr} {k : ClassId} {ty : FieldType} {n : Int32} {vs : List Value} {d : Value} (X : Stand p l e R s m args below meth c T locs cells slots) (hx : p.tables.exec = Jvm.exec) (hZ : Z.Warmed39 s.vm) (eT : T.heap = h) (V : Arv Z h a k ty n vs d) {j : Int32} (hj : ¬ j < 0 ∧ j < n) {v : Value} (hr : ty.isReference = true) (hv : vs.getD j.toNatClampNeg d = v) {g : JFrame} (hg : g.method = m) {rest : List Value} (hs : g.stack = .int j :: .ref a :: rest) (hd : decode c.code g.pc = .ok (.aaload, 1)) (target : State)
    (q : Steps p.tables e below (T.setTop { g with pc := g.pc + 1, stack := v :: rest }) target) : Steps p.tables e below (T.setTop g) target := by
  obtain ⟨cl, A, -, S, M, H, -⟩ := V
  exact X.aaload hx (by rw [eT]; exact A.1) (State.isArrayOf_alike hZ.alike A.2.1) hr A.2.2 (inb_of S hj) (Has.at H (inb_of S hj) hv) hg hs hd _ q
theorem own_stJ {a : Addr} {k : ClassId} {n : Int32} {vs : List Value} {d : Value} (X : Stand p l e R s m args below meth c T locs cells slots) (hx : p.tables.exec = Jvm.exec) (hZ : Z.Warmed39 s.vm) (eT : T.heap = h) (V : Arv Z h a k .long n vs d) {j : Int32} (hj : ¬ j < 0 ∧ j < n) {i : Nat} (hji : j.toNatClampNeg = i) (hi : i < vs.length) {x : Int64} {g : JFrame} (hg : g.method = m) {rest : List Value} (hs : g.stack = .long x :: .int j :: .ref a :: rest) (hd : decode c.code g.pc = .ok (.lastore, 1)) :
    ∃ T' h', Stand p l e R s m args below meth c T' (locs ++ [⟨a, j.toNatClampNeg⟩]) cells slots ∧ T'.heap = h' ∧ Wr h h' a j.toNatClampNeg (.long x) ∧ Arv Z h' a k .long n (vs.set i (.long x)) d ∧ ∀ target, Steps p.tables e below (T'.setTop { g with pc := g.pc + 1, stack := rest }) target → Steps p.tables e below (T.setTop g) target := by
  obtain ⟨cl, A, q1, S, M, H, G⟩ := V
  obtain ⟨T', h', X', e', W, st⟩ := stJ X hx hZ eT A (j := j) (inb_of S hj) hg hs hd
  exact ⟨T', h', X', e', W, Arv.set A q1 S M H G rfl W i hji hi, st⟩
theorem own_stC {a : Addr} {k : ClassId} {n : Int32} {vs : List Value} {d : Value} (X : Stand p l e R s m args below meth c T locs cells slots) (hx : p.tables.exec = Jvm.exec) (hZ : Z.Warmed39 s.vm) (eT : T.heap = h) (V : Arv Z h a k .char n vs d) {j : Int32} (hj : ¬ j < 0 ∧ j < n) {i : Nat} (hji : j.toNatClampNeg = i) (hi : i < vs.length) {x : Int32} {g : JFrame} (hg : g.method = m) {rest : List Value} (hs : g.stack = .int x :: .int j :: .ref a :: rest) (hd : decode c.code g.pc = .ok (.castore, 1)) :
    ∃ T' h', Stand p l e R s m args below meth c T' (locs ++ [⟨a, j.toNatClampNeg⟩]) cells slots ∧ T'.heap = h' ∧ Wr h h' a j.toNatClampNeg (.int (nar .char x)) ∧ Arv Z h' a k .char n (vs.set i (.int (nar .char x))) d ∧ ∀ target, Steps p.tables e below (T'.setTop { g with pc := g.pc + 1, stack := rest }) target → Steps p.tables e below (T.setTop g) target := by
  obtain ⟨cl, A, q1, S, M, H, G⟩ := V
  obtain ⟨T', h', X', e', W, st⟩ := stC X hx hZ eT A (j := j) (inb_of S hj) hg hs hd
  exact ⟨T', h', X', e', W, Arv.set A q1 S M H G (fits_nar_char _) W i hji hi, st⟩
theorem own_stB {a : Addr} {k : ClassId} {n : Int32} {vs : List Value} {d : Value} (X : Stand p l e R s m args below meth c T locs cells slots) (hx : p.tables.exec = Jvm.exec) (hZ : Z.Warmed39 s.vm) (eT : T.heap = h) (V : Arv Z h a k .byte n vs d) {j : Int32} (hj : ¬ j < 0 ∧ j < n) {i : Nat} (hji : j.toNatClampNeg = i) (hi : i < vs.length) {x : Int32} {g : JFrame} (hg : g.method = m) {rest : List Value} (hs : g.stack = .int x :: .int j :: .ref a :: rest) (hd : decode c.code g.pc = .ok (.bastore, 1)) :
    ∃ T' h', Stand p l e R s m args below meth c T' (locs ++ [⟨a, j.toNatClampNeg⟩]) cells slots ∧ T'.heap = h' ∧ Wr h h' a j.toNatClampNeg (.int (x.toInt8.toInt32)) ∧ Arv Z h' a k .byte n (vs.set i (.int (x.toInt8.toInt32))) d ∧ ∀ target, Steps p.tables e below (T'.setTop { g with pc := g.pc + 1, stack := rest }) target → Steps p.tables e below (T.setTop g) target := by
  obtain ⟨cl, A, q1, S, M, H, G⟩ := V
  obtain ⟨T', h', X', e', W, st⟩ := stB X hx hZ eT A (j := j) (inb_of S hj) hg hs hd
  exact ⟨T', h', X', e', W, Arv.set A q1 S M H G (fits_nar_byte _) W i hji hi, st⟩
theorem own_notface {C : String} {y z y' : MethodName} (hsel : (Jvm.Cond.selects C y z).before args s = true) (hc : y'.cls = z.cls) : NotFace s y' := fun r0 h0 => by
  obtain ⟨c2, r2, m2, q1, q2, q3, q4, kP, hkP, hkPi⟩ := Cond.selects_spec hsel
  have f1 := findClass_of_methodNamed h0
  have f2 := findClass_of_methodNamed q3
  rw [hc, f2] at f1
  rw [← Option.some.inj f1]
  exact ⟨kP, hkP, hkPi⟩
end OwnKit
theorem own_up (cs : List Int32) (h : ∀ c ∈ cs, ¬ c < 0 ∧ ¬ (255 : Int32) < c) : ∀ c ∈ cs, ¬ c < 0 ∧ ¬ (65535 : Int32) < c := fun c hc => ⟨(h c hc).1, fun q => (h c hc).2 (by rw [Int32.lt_iff_toInt_lt] at q ⊢; have e1 : (65535 : Int32).toInt = 65535 := rfl; have e2 : (255 : Int32).toInt = 255 := rfl; omega)⟩
theorem own_eqv {v : Option Value} {P : Prop} (h : (v = some (.int 1) ∧ P) ∨ (v = some (.int 0) ∧ ¬ P)) : ∃ z : Int32, v = some (.int z) ∧ ((z = 1 ∧ P) ∨ (z = 0 ∧ ¬ P)) := by
  rcases h with ⟨h1, h2⟩ | ⟨h1, h2⟩
  · exact ⟨1, h1, Or.inl ⟨rfl, h2⟩⟩
  · exact ⟨0, h1, Or.inr ⟨rfl, h2⟩⟩
def own_Str (Z : State) (h : Heap) (x t : Addr) (cs : List Int32) : Prop := ∃ (k : ClassId) (N cd : Int32) (vs : List Value), Exa Z h x "java/lang/String" ∧ Fld Z h x "java/lang/String" "value" "[B" (.ref t) ∧ Fld Z h x "java/lang/String" "coder" "B" (.int cd) ∧ Arv Z h t k .byte N vs (.int 0) ∧ StrChars.Road.CodA cs cd N vs ∧ (∀ c ∈ cs, ¬ c < 0 ∧ ¬ (65535 : Int32) < c) ∧ cs.length ≤ 4000
section OwnStr
variable {Z : State} {h h' : Heap} {x t a : Addr} {cs ds : List Int32} {sl : Nat} {v : Value} {ws : List Addr}
theorem own_Str.lt (F : own_Str Z h x t cs) : x < h.size := by obtain ⟨_, _, _, _, E, -⟩ := F; exact E.lt
theorem own_Str.ltt (F : own_Str Z h x t cs) : t < h.size := by obtain ⟨_, _, _, _, -, -, -, K, -⟩ := F; exact K.lt
theorem own_Str.exa (F : own_Str Z h x t cs) : Exa Z h x "java/lang/String" := by obtain ⟨_, _, _, _, E, -⟩ := F; exact E
theorem own_Str.ext (F : own_Str Z h x t cs) (E : Ext h h') : own_Str Z h' x t cs := by obtain ⟨k, N, cd, vs, f1, f2, f3, f4, r⟩ := F; exact ⟨k, N, cd, vs, f1.ext E, f2.ext E, f3.ext E, f4.ext E, r⟩
theorem own_Str.other (F : own_Str Z h x t cs) (W : Wr h h' a sl v) (n1 : x ≠ a) (n2 : t ≠ a) : own_Str Z h' x t cs := by obtain ⟨k, N, cd, vs, f1, f2, f3, f4, r⟩ := F; exact ⟨k, N, cd, vs, f1.wr W, f2.other W (Or.inl n1), f3.other W (Or.inl n1), f4.other W n2, r⟩
theorem own_Str.keep (F : own_Str Z h x t cs) (K : Keep h h' ws) (n1 : x ∉ ws) (n2 : t ∉ ws) : own_Str Z h' x t cs := by obtain ⟨k, N, cd, vs, f1, f2, f3, f4, r⟩ := F; exact ⟨k, N, cd, vs, f1.keep K, f2.keep K n1, f3.keep K n1, f4.keep K n2, r⟩
end OwnStr
theorem own_eqB {p : Program} {l : Launch} {e : Env} {R : Room} {s : State} {args : Array Value} {below : List Frame} {len W : Nat} {Z : State} {a0 : Array Value} {h : Heap} (hZ : Z.Warmed39 s.vm) (hw : ∀ d ∈ StrChars.Road.wordsEq, d.before a0 Z = true) (wi : (Jvm.Cond.instantiable "java/lang/String" 4).before a0 Z = true) {x t y t' : Addr} {cs ds : List Int32} {z : Int32} (A : own_Str Z h x t cs) (B : own_Str Z h y t' ds) (S : Sta Z h "java/lang/String" "COMPACT_STRINGS" "Z" (.int z)) (hz : ¬ z = 0) (hfr : 2 ≤ R.frames) (hlo : W + 28 ≤ R.locals) :
    Back l R p e below s args (⟨"java/lang/String", "equals", "(Ljava/lang/Object;)Z"⟩ : MethodName) len W (fun P a => a = #[.ref x, .ref y] ∧ P.U.heap = h ∧ P.cells + 0 ≤ R.cells ∧ P.slots + 0 ≤ R.slots)
      (fun P _ v B => ∃ L, (((v = some (.int 1) ∧ cs = ds) ∨ (v = some (.int 0) ∧ ¬ cs = ds)) ∧ L = [] ∧ B.U.heap = h) ∧ B.locs = P.locs ++ L ∧ B.cells = P.cells + 0 ∧ B.slots = P.slots + 0) := by
  obtain ⟨_, _, _, _, f1, f2, f3, f4, f5, f6, f7⟩ := A
  obtain ⟨_, _, _, _, g1, g2, g3, g4, g5, g6, g7⟩ := B
  exact StrChars.Road.eqW hZ hw wi f1 f2 f3 f4 f5 f6 f7 g1 g2 g3 g4 g5 g6 g7 S hz hfr hlo
section OwnKitS
variable {p : Program} {l : Launch} {e : Env} {R : Room} {s : State} {m : MethodId} {args : Array Value} {below : List Frame} {meth : Method} {c : Code} {T : State} {locs : List Loc} {cells slots : Nat} {Z : State} {h : Heap} {vm0 : Vm} {EL : List (String × Nat)} {a0 : Array Value}
def own_PostW (Z : State) (EL : List (String × Nat)) (Q : Option Value → Heap → List Loc → Prop) (k n : Nat) (below : List Frame) (U : State) (t : State) (o : Outcome) : Prop :=
  t.status = .running ∧ Ended t below o ∧ ∃ v L, o = .returned v ∧ Q v t.heap L ∧ CHr Z EL U.vm U.heap t.vm t.heap ∧ ReturnedEndW U o t L k n
theorem own_retW {x : MethodName} {S : Spec} {code : ByteArray} {mx : Nat} {rt : Option FieldType} {s₁ : State} {Q : Option Value → Heap → List Loc → Prop} {kc kn k0 : Nat} (X : Stand p l e R (s.setVm vm0) m args below meth c T locs cells slots) (hx : p.tables.exec = Jvm.exec) (Bd : BodyLoose p l x S code mx rt e s m args below meth c s₁) (hS : s.Since vm0 k0) (hk : k0 ≤ T.heap.size) {pc : Nat} {Ls : Array Slot} {w : Value} {t : FieldType} {i : Instr} {rest : List Value} (hret : meth.sig.returnType = some t) (hn : narrow t w = w)
    (hi : (i = .ireturn ∧ (t = .int ∨ t = .boolean ∨ t = .byte ∨ t = .char ∨ t = .short) ∧ ∃ z, w = .int z) ∨ (i = .lreturn ∧ t = .long ∧ ∃ z, w = .long z) ∨ (i = .dreturn ∧ t = .double ∧ ∃ z, w = .double z) ∨ (i = .freturn ∧ t = .float ∧ ∃ z, w = .float z) ∨ (i = .areturn ∧ t.isReference = true ∧ w.isRef = true))
    (hd : decode c.code pc = .ok (i, 1)) (hCR : CHr Z EL s.vm s.heap T.vm T.heap) (hQ : Q (some w) T.heap locs) (hc : cells ≤ kc) (hs : slots ≤ kn) : own_Fin p.tables e below (own_PostW Z EL Q kc kn below s) (T.setTop (mkF m pc Ls (w :: rest))) := by
  obtain ⟨fs, hr, hrun, hended, hW⟩ := X.leaveW hS hk (v := some w) (fun h => by rw [hret] at h; cases h) Bd.notSynchronized
  exact ⟨_, _, retOut X hx hret hn hi hd hr, hrun, hended, _, _, rfl, hQ, hCR, hW.1, hW.2.1, hW.2.2.1, hW.2.2.2.mono hc hs⟩
theorem own_retW0 {x : MethodName} {S : Spec} {code : ByteArray} {mx : Nat} {s₁ : State} {Q : Option Value → Heap → List Loc → Prop} {kc kn k0 : Nat} (X : Stand p l e R (s.setVm vm0) m args below meth c T locs cells slots) (hx : p.tables.exec = Jvm.exec) (Bd : BodyLoose p l x S code mx none e s m args below meth c s₁) (hS : s.Since vm0 k0) (hk : k0 ≤ T.heap.size) {pc : Nat} {Ls : Array Slot}
    (hd : decode c.code pc = .ok (.return_, 1)) (hCR : CHr Z EL s.vm s.heap T.vm T.heap) (hQ : Q none T.heap locs) (hc : cells ≤ kc) (hs : slots ≤ kn) : own_Fin p.tables e below (own_PostW Z EL Q kc kn below s) (T.setTop (mkF m pc Ls [])) := by
  obtain ⟨fs, hr, hrun, hended, hW⟩ := X.leaveW hS hk (v := none) (fun _ => rfl) Bd.notSynchronized
  exact ⟨_, _, X.returnOut hx Bd.returns hd hr, hrun, hended, _, _, rfl, hQ, hCR, hW.1, hW.2.1, hW.2.2.1, hW.2.2.2.mono hc hs⟩
theorem own_safe_null {x : Addr} (hal : Z.vm.Alike vm0) (E : Exa Z h x "java/lang/String") (F : Fld Z h x "java/lang/String" "value" "[B" .null) : Safe Z EL vm0 h x := fun B => by
  obtain ⟨cell, k, e1, e2, e3, -, -⟩ := E
  obtain ⟨p, -, u, a, -, q, -, G, rfl | rfl⟩ := B
  · cases (show h[q.sa]? = some q.sC from G.ha).symm.trans e1
    obtain ⟨cS, ⟨⟨-, -, -, ⟨c1, k1, i1, f1, -⟩, -, -, -, v1, -⟩, -⟩, -⟩ := G
    obtain ⟨cl2, cf, kf, i, f, g1, g2, -, -, -, -, g7⟩ := F
    cases (show h[q.sa]? = some q.sC from e1).symm.trans g1
    obtain ⟨k3, e4, -⟩ := State.fieldFound?_setVm (s := Z) hal g2
    have e5 := (show (Wst Z vm0 h).fieldFound? _ _ _ = _ from e4).symm.trans f1
    simp only [Option.some.injEq, Prod.mk.injEq] at e5
    rw [e5.2.2.2, v1] at g7
    simp at g7
  · cases (show h[q.sd]? = some q.SA from G.hd).symm.trans e1
    obtain ⟨cS, -, -, f, -⟩ := G
    rw [show (Wst Z vm0 h).vm = vm0 from rfl, hal.findClass] at f
    obtain ⟨k1, q1, q2⟩ := Vm.findClass_spec f
    obtain ⟨k2, q3, q4⟩ := Vm.findClass_spec e2
    cases q1.symm.trans q3
    exact absurd (q2.symm.trans q4) (by decide)
end OwnKitS
theorem own_b8 {x : Int32} : x.toInt8.toInt32.toInt8.toInt32 = x.toInt8.toInt32 := by simp
theorem own_and255 (x : Int32) : ¬ (x &&& 255) < 0 ∧ ¬ (255 : Int32) < (x &&& 255) := by
  have t : ∀ k : Fin 256, ¬ (Int32.ofNat k.val) < 0 ∧ ¬ (255 : Int32) < Int32.ofNat k.val := by decide +kernel
  have h : (x &&& 255).toBitVec.toNat < 256 := by
    simp only [Int32.toBitVec_and, BitVec.toNat_and]
    exact Nat.lt_succ_of_le Nat.and_le_right
  have e : (x &&& 255) = Int32.ofNat (x &&& 255).toBitVec.toNat := by
    apply Int32.toBitVec_inj.mp
    show _ = BitVec.ofNat 32 _
    rw [BitVec.ofNat_toNat]; simp
  rw [e]
  exact t ⟨_, h⟩
theorem own_nar255 {x : Int32} : nar .char (x &&& 255) = x &&& 255 := i2c_mask x
theorem own_and_max (x : Int32) : 0 ≤ (x &&& 2147483647).toInt := by
  have e : (2147483647 : Int32).toBitVec.msb = false := by decide
  have h : (x &&& 2147483647).toBitVec.msb = false := by rw [Int32.toBitVec_and, BitVec.msb_and, e, Bool.and_false]
  have := BitVec.toInt_eq_toNat_of_msb h
  show 0 ≤ (x &&& 2147483647).toBitVec.toInt
  omega
theorem own_mod9 (x : Int32) : (x &&& 2147483647) % 9 = 0 ∨ (x &&& 2147483647) % 9 = 1 ∨ (x &&& 2147483647) % 9 = 2 ∨ (x &&& 2147483647) % 9 = 3 ∨ (x &&& 2147483647) % 9 = 4 ∨ (x &&& 2147483647) % 9 = 5 ∨ (x &&& 2147483647) % 9 = 6 ∨ (x &&& 2147483647) % 9 = 7 ∨ (x &&& 2147483647) % 9 = 8 := by
  have e : ((x &&& 2147483647) % 9).toInt = (x &&& 2147483647).toInt.tmod 9 := by rw [Int32.toInt_mod]; rfl
  have h0 := own_and_max x
  rw [Int.tmod_eq_emod_of_nonneg h0] at e
  simp only [← Int32.toInt_inj]
  have : (0 : Int32).toInt = 0 ∧ (1 : Int32).toInt = 1 ∧ (2 : Int32).toInt = 2 ∧ (3 : Int32).toInt = 3 ∧ (4 : Int32).toInt = 4 ∧ (5 : Int32).toInt = 5 ∧ (6 : Int32).toInt = 6 ∧ (7 : Int32).toInt = 7 ∧ (8 : Int32).toInt = 8 := by decide
  omega
theorem own_getD (cs : List Int32) (n : Nat) : (cs.map Value.int).getD n (.int 0) = .int (cs.getD n 0) := by
  simp only [List.getD_eq_getElem?_getD, List.getElem?_map]
  cases cs[n]? <;> rfl
theorem own_clampN {p N : Int32} {n : Nat} (h0 : ¬ p < 0) (h1 : p < N) (hN : N.toInt = n) : p.toNatClampNeg < n := by
  rw [Int32.lt_iff_toInt_lt] at h0 h1
  have z : (0 : Int32).toInt = 0 := rfl
  have e : p.toNatClampNeg = p.toInt.toNat := rfl
  omega
theorem own_set255 {cs : List Int32} {n : Nat} {c : Int32} (h : ∀ c ∈ cs, ¬ c < 0 ∧ ¬ (255 : Int32) < c) (hc : ¬ c < 0 ∧ ¬ (255 : Int32) < c) : ∀ d ∈ cs.set n c, ¬ d < 0 ∧ ¬ (255 : Int32) < d := fun d hd => by
  rcases List.mem_or_eq_of_mem_set hd with q | rfl
  · exact h d q
  · exact hc
theorem own_set_self {cs : List Int32} {n : Nat} {c : Int32} (hn : n < cs.length) (h : c = cs.getD n 0) : cs.set n c = cs := by
  rw [h, List.getD_eq_getElem?_getD, List.getElem?_eq_getElem hn]
  simp
theorem own_set_ne {cs : List Int32} {n : Nat} {c : Int32} (hn : n < cs.length) (h : ¬ c = cs.getD n 0) : ¬ cs.set n c = cs := fun q => h (by
  rw [List.getD_eq_getElem?_getD, ← q, List.getElem?_set_self hn]; rfl)
theorem own_modr (x : Int32) {N : Int32} {n : Int} (hN : N.toInt = n) (hp : 0 < n) : ¬ (x &&& 2147483647) % N < 0 ∧ (x &&& 2147483647) % N < N := by
  have e : ((x &&& 2147483647) % N).toInt = (x &&& 2147483647).toInt.tmod N.toInt := by rw [Int32.toInt_mod]
  have h0 := own_and_max x
  rw [Int.tmod_eq_emod_of_nonneg h0, hN] at e
  have z : (0 : Int32).toInt = 0 := rfl
  have l1 := Int.emod_nonneg (x &&& 2147483647).toInt (show n ≠ 0 by omega)
  have l2 := Int.emod_lt_of_pos (x &&& 2147483647).toInt hp
  rw [Int32.lt_iff_toInt_lt, Int32.lt_iff_toInt_lt]
  omega
theorem own_mod108 (x : Int32) : ¬ (x &&& 2147483647) % 8 < 0 ∧ (x &&& 2147483647) % 8 < 8 := own_modr x (n := 8) rfl (by decide)
theorem own_mod110 (x : Int32) : ¬ (x &&& 2147483647) % 10 < 0 ∧ (x &&& 2147483647) % 10 < 10 := own_modr x (n := 10) rfl (by decide)
theorem pn_0 : plainName "java/lang/String" = true := by first | (simp [plainName, overriddenIn]; done) | decide +kernel
theorem d9_0 : decode jdk_42_method_66_code 0 = .ok (.aload_n 0, 1) := by decide +kernel
theorem d9_1 : decode jdk_42_method_66_code 1 = .ok (.aload_n 1, 1) := by decide +kernel
theorem d9_2 : decode jdk_42_method_66_code 2 = .ok (.if_acmp .ne 5, 3) := by decide +kernel
theorem d9_7 : decode jdk_42_method_66_code 7 = .ok (.aload_n 1, 1) := by decide +kernel
theorem d9_8 : decode jdk_42_method_66_code 8 = .ok (.instanceof 10, 3) := by decide +kernel
theorem d9_11 : decode jdk_42_method_66_code 11 = .ok (.ifCond .eq 43, 3) := by decide +kernel
theorem d9_54 : decode jdk_42_method_66_code 54 = .ok (.iconst 0, 1) := by decide +kernel
theorem d9_55 : decode jdk_42_method_66_code 55 = .ok (.ireturn, 1) := by decide +kernel
theorem pn_1 : plainName "com/example/hebelwerk/hebelwerk/model/DividendMethod" = true := by first | (simp [plainName, overriddenIn]; done) | decide +kernel
theorem d8_0 : decode prog_19_method_1_code 0 = .ok (.getstatic 10, 3) := by decide +kernel
theorem d8_3 : decode prog_19_method_1_code 3 = .ok (.invokevirtual 14, 3) := by decide +kernel
theorem d8_6 : decode prog_19_method_1_code 6 = .ok (.checkcast 15, 3) := by decide +kernel
theorem d8_9 : decode prog_19_method_1_code 9 = .ok (.areturn, 1) := by decide +kernel
theorem d7_0 : decode prog_19_method_4_code 0 = .ok (.invokestatic 33, 3) := by decide +kernel
theorem pd_2 : parseMethodDescriptor "()[Lcom/example/hebelwerk/hebelwerk/model/DividendMethod;" = some ⟨[], some (.array (.object "com/example/hebelwerk/hebelwerk/model/DividendMethod"))⟩ := by decide +kernel
theorem d7_3 : decode prog_19_method_4_code 3 = .ok (.astore_n 1, 1) := by decide +kernel
theorem d7_4 : decode prog_19_method_4_code 4 = .ok (.aload_n 1, 1) := by decide +kernel
theorem d7_5 : decode prog_19_method_4_code 5 = .ok (.arraylength, 1) := by decide +kernel
theorem d7_6 : decode prog_19_method_4_code 6 = .ok (.istore_n 2, 1) := by decide +kernel
theorem d7_7 : decode prog_19_method_4_code 7 = .ok (.iconst 0, 1) := by decide +kernel
theorem d7_8 : decode prog_19_method_4_code 8 = .ok (.istore_n 3, 1) := by decide +kernel
theorem d7_9 : decode prog_19_method_4_code 9 = .ok (.iload_n 3, 1) := by decide +kernel
theorem d7_10 : decode prog_19_method_4_code 10 = .ok (.iload_n 2, 1) := by decide +kernel
theorem d7_11 : decode prog_19_method_4_code 11 = .ok (.if_icmp .ge 29, 3) := by decide +kernel
theorem d7_14 : decode prog_19_method_4_code 14 = .ok (.aload_n 1, 1) := by decide +kernel
theorem d7_15 : decode prog_19_method_4_code 15 = .ok (.iload_n 3, 1) := by decide +kernel
theorem d7_16 : decode prog_19_method_4_code 16 = .ok (.aaload, 1) := by decide +kernel
theorem d7_17 : decode prog_19_method_4_code 17 = .ok (.astore 4, 2) := by decide +kernel
theorem d7_19 : decode prog_19_method_4_code 19 = .ok (.aload 4, 2) := by decide +kernel
theorem d7_21 : decode prog_19_method_4_code 21 = .ok (.getfield 29, 3) := by decide +kernel
theorem d7_24 : decode prog_19_method_4_code 24 = .ok (.aload_n 0, 1) := by decide +kernel
theorem d7_25 : decode prog_19_method_4_code 25 = .ok (.invokevirtual 37, 3) := by decide +kernel
theorem pd_3 : parseMethodDescriptor "(Ljava/lang/Object;)Z" = some ⟨[(.object "java/lang/Object")], some .boolean⟩ := by decide +kernel
theorem d7_28 : decode prog_19_method_4_code 28 = .ok (.ifCond .eq 6, 3) := by decide +kernel
theorem d7_34 : decode prog_19_method_4_code 34 = .ok (.iinc 3 1, 3) := by decide +kernel
theorem d7_37 : decode prog_19_method_4_code 37 = .ok (.goto (-28), 3) := by decide +kernel
theorem d7_40 : decode prog_19_method_4_code 40 = .ok (.aconst_null, 1) := by decide +kernel
theorem d7_41 : decode prog_19_method_4_code 41 = .ok (.areturn, 1) := by decide +kernel
theorem d7_31 : decode prog_19_method_4_code 31 = .ok (.aload 4, 2) := by decide +kernel
theorem d7_33 : decode prog_19_method_4_code 33 = .ok (.areturn, 1) := by decide +kernel
theorem pn_4 : plainName "com/example/hebelwerk/hebelwerk/model/DividendMethodWrittenPinLaw" = true := by first | (simp [plainName, overriddenIn]; done) | decide +kernel
theorem pd_5 : parseMethodDescriptor "([C)V" = some ⟨[(.array .char)], none⟩ := by decide +kernel
theorem pd_6 : parseMethodDescriptor "(Ljava/lang/String;)Lcom/example/hebelwerk/hebelwerk/model/DividendMethod;" = some ⟨[(.object "java/lang/String")], some (.object "com/example/hebelwerk/hebelwerk/model/DividendMethod")⟩ := by decide +kernel
def Q_rm_eqn (Z : State) (xx : Addr) (h0 : Heap) (n0 : Nat) (v : Option Value) (h : Heap) (L : List Loc) : Prop := v = some (.int (0 : Int32)) ∧ Fr n0 L ∧ h = h0
theorem ef_rm_eqn (m : MethodId) (xx : Addr) : entryFrame m #[(.ref xx), .null] 3 = mkF m 0 #[.val (.ref xx), .val .null, .unset] [] := by first | (simp [entryFrame, mkF, argsToLocals, Value.category]; done) | rfl
set_option maxRecDepth 65536 in
set_option maxHeartbeats 40000000 in
theorem rm_eqn (l : Launch) (Z : State) (a0 : Array Value) (hw : ∀ d ∈ tables_1, d.before a0 Z = true) (ws : List Jvm.Cond) (xx : Addr) (h0 : Heap) (n0 : Nat) (Z0 : n0 ≤ h0.size) :
    MetFree l (⟨"java/lang/String", "equals", "(Ljava/lang/Object;)Z"⟩ : MethodName) (head1 (Jvm.Cond.code (⟨"java/lang/String", "equals", "(Ljava/lang/Object;)Z"⟩ : MethodName) jdk_42_method_66_code 3 (some .boolean) :: ws) ({ frames := 0, cells := 0, slots := 0, locals := 0 } : Room)) (fun a_ U_ => a_ = #[(.ref xx), .null] ∧ Z.Warmed39 U_.vm ∧ U_.heap = h0) (fun _ _ _ _ _ => True) (fun _ U_ o_ V_ => ∃ v_ L_, o_ = .returned v_ ∧ (Q_rm_eqn Z xx h0 n0) v_ V_.heap L_ ∧ FrameEnd U_ o_ V_ L_ ({ frames := 0, cells := 0, slots := 0, locals := 0 } : Room).cells ({ frames := 0, cells := 0, slots := 0, locals := 0 } : Room).slots) := by
  refine MetFree.of_bodySF (plainFor_of_name pn_0) hisR ?_
  intro p e s m args below meth c s₁ Bd hml0 hP hK
  obtain ⟨rfl, hZ, hh⟩ := hP
  have hx := Bd.exec
  have hby := Bd.bytes
  have hml : c.maxLocals = 3 := hml0
  have hown : s.vm.findClass "java/lang/String" = some m.cls := findClass_of_methodNamed Bd.named
  have hnm := (name_of_methodNamed Bd.named Bd.method).1
  have X0 : Stand p l e ({ frames := 0, cells := 0, slots := 0, locals := 0 } : Room) s m #[(.ref xx), .null] below meth c s₁ [] 0 0 := Stand.of_body Bd
  have e0 : s₁.heap = h0 := by rw [← hh, Bd.state]; rfl
  have N0 := Fr.nil n0
  have K0 : Keep h0 h0 [] := Keep.refl _ _
  show own_Fin p.tables e below (own_Post (Q_rm_eqn Z xx h0 n0) ({ frames := 0, cells := 0, slots := 0, locals := 0 } : Room).cells ({ frames := 0, cells := 0, slots := 0, locals := 0 } : Room).slots below s) _
  refine own_go (fun _ kk_ => castTop (ef_rm_eqn m xx) kk_) ?_
  refine own_go (fun _ kk_ => XS.aloadN X0.here hx rfl (hb hby d9_0) rfl rfl kk_) ?_
  refine own_go (fun _ kk_ => XS.aloadN X0.here hx rfl (hb hby d9_1) rfl rfl kk_) ?_
  show own_Fin p.tables e below _ (s₁.setTop (mkF m 2 #[.val (.ref xx), .val .null, .unset] [.null, (.ref xx)]))
  refine own_go (fun _ kk_ => acmp (g := (mkF m 2 #[.val (.ref xx), .val .null, .unset] [.null, (.ref xx)])) X0 hx rfl rfl rfl (pc0 := 2) (pc' := 7) (same := false) rfl (hb hby d9_2) rfl (by simp) (by decide) (by decide) kk_) ?_
  refine own_go (fun _ kk_ => XS.aloadN X0.here hx rfl (hb hby d9_7) rfl rfl kk_) ?_
  show own_Fin p.tables e below _ (s₁.setTop (mkF m 8 #[.val (.ref xx), .val .null, .unset] [.null]))
  refine own_go (fun _ kk_ => X0.instanceofNull hx (g := (mkF m 8 #[.val (.ref xx), .val .null, .unset] [.null])) rfl rfl (hb hby d9_8) _ kk_) ?_
  show own_Fin p.tables e below _ (s₁.setTop (mkF m 11 #[.val (.ref xx), .val .null, .unset] [(.int (0 : Int32))]))
  refine own_go (fun _ kk_ => XS.ifYes X0.here hx rfl (pc0 := 11) (pc' := 54) rfl (hb hby d9_11) rfl ((if0 _ _).trans (teq (by decide : (0 : Int32) = (0 : Int32))).1) (by decide) (by decide) kk_) ?_
  refine own_go (fun _ kk_ => XS.iconst X0.here hx rfl (hb hby d9_54) kk_) ?_
  show own_Fin p.tables e below _ (s₁.setTop (mkF m 55 #[.val (.ref xx), .val .null, .unset] [(.int (0 : Int32))]))
  refine own_retI X0 hx Bd (t := .boolean) Bd.returns rfl (by simp) (hb hby d9_55) ?_ (by decide) (by decide)
  show (Q_rm_eqn Z xx h0 n0) (some (.int (0 : Int32))) s₁.heap _
  rw [e0]
  exact ⟨rfl, N0, rfl⟩
def Q_rm_va (Z : State) (va : Addr) (vk : ClassId) (ia : Addr) (sa : Addr) (h0 : Heap) (n0 : Nat) (v : Option Value) (h : Heap) (L : List Loc) : Prop := ∃ a : Addr, v = some (.ref a) ∧ Fr n0 L ∧ Keep h0 h [] ∧ h0.size ≤ a ∧ Arv Z h a vk (.object "com/example/hebelwerk/hebelwerk/model/DividendMethod") (2 : Int32) [.ref ia, .ref sa] .null
theorem ef_rm_va (m : MethodId) (va : Addr) (ia : Addr) (sa : Addr) : entryFrame m #[] 0 = mkF m 0 #[] [] := by first | (simp [entryFrame, mkF, argsToLocals, Value.category]; done) | rfl
set_option maxRecDepth 65536 in
set_option maxHeartbeats 40000000 in
theorem rm_va (l : Launch) (Z : State) (a0 : Array Value) (hw : ∀ d ∈ tables_1, d.before a0 Z = true) (ws : List Jvm.Cond) (va : Addr) (vk : ClassId) (ia : Addr) (sa : Addr) (h0 : Heap) (n0 : Nat) (Z0 : n0 ≤ h0.size) (S_V : Sta Z Z.heap "com/example/hebelwerk/hebelwerk/model/DividendMethod" "$VALUES" "[Lcom/example/hebelwerk/hebelwerk/model/DividendMethod;" (.ref va)) (V_V : Arv Z Z.heap va vk (.object "com/example/hebelwerk/hebelwerk/model/DividendMethod") (2 : Int32) [.ref ia, .ref sa] .null) (E_V : Exa Z Z.heap va "[Lcom/example/hebelwerk/hebelwerk/model/DividendMethod;") (O0 : Old Z n0 h0) :
    MetFree l (⟨"com/example/hebelwerk/hebelwerk/model/DividendMethod", "values", "()[Lcom/example/hebelwerk/hebelwerk/model/DividendMethod;"⟩ : MethodName) (head1 (Jvm.Cond.code (⟨"com/example/hebelwerk/hebelwerk/model/DividendMethod", "values", "()[Lcom/example/hebelwerk/hebelwerk/model/DividendMethod;"⟩ : MethodName) prog_19_method_1_code 0 (some (.array (.object "com/example/hebelwerk/hebelwerk/model/DividendMethod"))) :: ws) ({ frames := 1, cells := 1, slots := 2, locals := 14 } : Room)) (fun a_ U_ => a_ = #[] ∧ Z.Warmed39 U_.vm ∧ U_.heap = h0) (fun _ _ _ _ _ => True) (fun _ U_ o_ V_ => ∃ v_ L_, o_ = .returned v_ ∧ (Q_rm_va Z va vk ia sa h0 n0) v_ V_.heap L_ ∧ FrameEnd U_ o_ V_ L_ ({ frames := 1, cells := 1, slots := 2, locals := 14 } : Room).cells ({ frames := 1, cells := 1, slots := 2, locals := 14 } : Room).slots) := by
  refine MetFree.of_bodySF (plainFor_of_name pn_1) hisR ?_
  intro p e s m args below meth c s₁ Bd hml0 hP hK
  obtain ⟨rfl, hZ, hh⟩ := hP
  have hx := Bd.exec
  have hby := Bd.bytes
  have hml : c.maxLocals = 0 := hml0
  have hown : s.vm.findClass "com/example/hebelwerk/hebelwerk/model/DividendMethod" = some m.cls := findClass_of_methodNamed Bd.named
  have hnm := (name_of_methodNamed Bd.named Bd.method).1
  have X0 : Stand p l e ({ frames := 1, cells := 1, slots := 2, locals := 14 } : Room) s m #[] below meth c s₁ [] 0 0 := Stand.of_body Bd
  have e0 : s₁.heap = h0 := by rw [← hh, Bd.state]; rfl
  have N0 := Fr.nil n0
  have K0 : Keep h0 h0 [] := Keep.refl _ _
  show own_Fin p.tables e below (own_Post (Q_rm_va Z va vk ia sa h0 n0) ({ frames := 1, cells := 1, slots := 2, locals := 14 } : Room).cells ({ frames := 1, cells := 1, slots := 2, locals := 14 } : Room).slots below s) _
  refine own_go (fun _ kk_ => castTop (ef_rm_va m va ia sa) kk_) ?_
  show own_Fin p.tables e below _ (s₁.setTop (mkF m 0 #[] []))
  obtain ⟨T1, X1, e1, st1⟩ := getS2 X0 hx hZ hown (host := "") (Or.inl (hw _ (List.mem_of_getElem? (i := 40) rfl))) Via.refl e0 (S_V.ext O0.2) (g := (mkF m 0 #[] [])) rfl (hb hby d8_0)
  refine own_go st1 ?_
  show own_Fin p.tables e below _ (T1.setTop (mkF m 3 #[] [(.ref va)]))
  obtain ⟨T2, h2, X2, e2, E2, A2, B2, st2⟩ := cloneH X1 hx hZ hown (hw _ (List.mem_of_getElem? (i := 42) rfl)) (hw _ (List.mem_of_getElem? (i := 43) rfl)) (hw _ (List.mem_of_getElem? (i := 47) rfl)) (hw _ (List.mem_of_getElem? (i := 45) rfl)) (hw _ (List.mem_of_getElem? (i := 46) rfl)) (hw _ (List.mem_of_getElem? (i := 48) rfl)) e1 (Arv.arh (V_V.ext O0.2)) (E_V.ext O0.2) (g := (mkF m 3 #[] [(.ref va)])) rfl (by rw [hml]; rfl) rfl (hb hby d8_3) (by decide) (W := 0) (cap := 2) (by show 2 * 0 + _ ≤ _; exact Nat.le_of_eq rfl) (by decide) (by decide) (by decide) (by decide)
  obtain ⟨b2, g2⟩ : ∃ z, z = h0.size := ⟨_, rfl⟩
  rw [← g2] at A2 B2 st2
  have sz_b2 : h0.size ≤ b2 := Nat.le_trans K0.1 (Nat.le_of_eq g2.symm)
  have g_b2 : n0 ≤ b2 := Nat.le_trans Z0 sz_b2
  have ne3 : va ≠ b2 := O0.ne V_V.lt g_b2
  replace O0 := O0.ext E2
  have K4 := K0.ext E2
  have V2 : Arv Z h2 b2 vk (.object "com/example/hebelwerk/hebelwerk/model/DividendMethod") (2 : Int32) [(.ref ia), (.ref sa)] .null := A2
  refine own_go st2 ?_
  show own_Fin p.tables e below _ (T2.setTop (mkF m 6 #[] [(.ref b2)]))
  obtain ⟨T5, X5, e5, st5⟩ := castY X2 hx hZ hown (hw _ (List.mem_of_getElem? (i := 51) rfl)) e2 (Ins.self B2) (g := (mkF m 6 #[] [(.ref b2)])) rfl rfl (hb hby d8_6)
  refine own_go st5 ?_
  show own_Fin p.tables e below _ (T5.setTop (mkF m 9 #[] [(.ref b2)]))
  refine own_retA X5 hx Bd (t := (.array (.object "com/example/hebelwerk/hebelwerk/model/DividendMethod"))) Bd.returns rfl rfl rfl (hb hby d8_9) ?_ (by decide) (by decide)
  show (Q_rm_va Z va vk ia sa h0 n0) (some (.ref b2)) T5.heap _
  rw [e5]
  exact ⟨_, rfl, N0, K4, sz_b2, V2⟩
def Q_rm_wrN (Z : State) (va : Addr) (vk : ClassId) (ia : Addr) (sa : Addr) (wi : Addr) (ti : Addr) (wj : Addr) (tj : Addr) (gc : Int32) (h0 : Heap) (n0 : Nat) (v : Option Value) (h : Heap) (L : List Loc) : Prop := v = some .null ∧ Fr n0 L ∧ Keep h0 h []
theorem ef_rm_wrN (m : MethodId) (va : Addr) (ia : Addr) (sa : Addr) (wi : Addr) (ti : Addr) (wj : Addr) (tj : Addr) (gc : Int32) : entryFrame m #[.null] 5 = mkF m 0 #[.val .null, .unset, .unset, .unset, .unset] [] := by first | (simp [entryFrame, mkF, argsToLocals, Value.category]; done) | rfl
set_option maxRecDepth 65536 in
set_option maxHeartbeats 40000000 in
theorem rm_wrN (l : Launch) (Z : State) (a0 : Array Value) (hw : ∀ d ∈ tables_1, d.before a0 Z = true) (ws : List Jvm.Cond) (va : Addr) (vk : ClassId) (ia : Addr) (sa : Addr) (wi : Addr) (ti : Addr) (wj : Addr) (tj : Addr) (gc : Int32) (h0 : Heap) (n0 : Nat) (Z0 : n0 ≤ h0.size) (S_V : Sta Z Z.heap "com/example/hebelwerk/hebelwerk/model/DividendMethod" "$VALUES" "[Lcom/example/hebelwerk/hebelwerk/model/DividendMethod;" (.ref va)) (V_V : Arv Z Z.heap va vk (.object "com/example/hebelwerk/hebelwerk/model/DividendMethod") (2 : Int32) [.ref ia, .ref sa] .null) (E_V : Exa Z Z.heap va "[Lcom/example/hebelwerk/hebelwerk/model/DividendMethod;") (F_i : Fld Z Z.heap ia "com/example/hebelwerk/hebelwerk/model/DividendMethod" "written" "Ljava/lang/String;" (.ref wi)) (F_j : Fld Z Z.heap sa "com/example/hebelwerk/hebelwerk/model/DividendMethod" "written" "Ljava/lang/String;" (.ref wj)) (S_i : own_Str Z Z.heap wi ti ([(105 : Int32), (110 : Int32), (100 : Int32), (105 : Int32), (118 : Int32), (105 : Int32), (100 : Int32), (117 : Int32), (97 : Int32), (108 : Int32)] : List Int32)) (S_j : own_Str Z Z.heap wj tj ([(115 : Int32), (109 : Int32), (111 : Int32), (111 : Int32), (116 : Int32), (104 : Int32), (101 : Int32), (100 : Int32)] : List Int32)) (S_C : Sta Z Z.heap "java/lang/String" "COMPACT_STRINGS" "Z" (.int gc)) (hcs : ¬ gc = 0) (O0 : Old Z n0 h0) :
    MetFree l (⟨"com/example/hebelwerk/hebelwerk/model/DividendMethod", "written", "(Ljava/lang/String;)Lcom/example/hebelwerk/hebelwerk/model/DividendMethod;"⟩ : MethodName) (head1 (Jvm.Cond.code (⟨"com/example/hebelwerk/hebelwerk/model/DividendMethod", "written", "(Ljava/lang/String;)Lcom/example/hebelwerk/hebelwerk/model/DividendMethod;"⟩ : MethodName) prog_19_method_4_code 5 (some (.object "com/example/hebelwerk/hebelwerk/model/DividendMethod")) :: ws) ({ frames := 3, cells := 1, slots := 2, locals := 28 } : Room)) (fun a_ U_ => a_ = #[.null] ∧ Z.Warmed39 U_.vm ∧ U_.heap = h0) (fun _ _ _ _ _ => True) (fun _ U_ o_ V_ => ∃ v_ L_, o_ = .returned v_ ∧ (Q_rm_wrN Z va vk ia sa wi ti wj tj gc h0 n0) v_ V_.heap L_ ∧ FrameEnd U_ o_ V_ L_ ({ frames := 3, cells := 1, slots := 2, locals := 28 } : Room).cells ({ frames := 3, cells := 1, slots := 2, locals := 28 } : Room).slots) := by
  refine MetFree.of_bodySF (plainFor_of_name pn_1) hisR ?_
  intro p e s m args below meth c s₁ Bd hml0 hP hK
  obtain ⟨rfl, hZ, hh⟩ := hP
  have hx := Bd.exec
  have hby := Bd.bytes
  have hml : c.maxLocals = 5 := hml0
  have hown : s.vm.findClass "com/example/hebelwerk/hebelwerk/model/DividendMethod" = some m.cls := findClass_of_methodNamed Bd.named
  have hnm := (name_of_methodNamed Bd.named Bd.method).1
  have X0 : Stand p l e ({ frames := 3, cells := 1, slots := 2, locals := 28 } : Room) s m #[.null] below meth c s₁ [] 0 0 := Stand.of_body Bd
  have e0 : s₁.heap = h0 := by rw [← hh, Bd.state]; rfl
  have N0 := Fr.nil n0
  have K0 : Keep h0 h0 [] := Keep.refl _ _
  show own_Fin p.tables e below (own_Post (Q_rm_wrN Z va vk ia sa wi ti wj tj gc h0 n0) ({ frames := 3, cells := 1, slots := 2, locals := 28 } : Room).cells ({ frames := 3, cells := 1, slots := 2, locals := 28 } : Room).slots below s) _
  refine own_go (fun _ kk_ => castTop (ef_rm_wrN m va ia sa wi ti wj tj gc) kk_) ?_
  show own_Fin p.tables e below _ (s₁.setTop (mkF m 0 #[.val .null, .unset, .unset, .unset, .unset] []))
  obtain ⟨_, _, ⟨T6, L6, k6, n6⟩, -, X6, ⟨Lc6, hQ6, l6, y6, z6⟩, st6⟩ := Jvm.LawKit.callS X0 hx (y := (⟨"com/example/hebelwerk/hebelwerk/model/DividendMethod", "values", "()[Lcom/example/hebelwerk/hebelwerk/model/DividendMethod;"⟩ : MethodName)) hown (mvT hZ (hw _ (List.mem_of_getElem? (i := 37) rfl))) (mvT hZ (hw _ (List.mem_of_getElem? (i := 38) rfl))) (mvT hZ (hw _ (List.mem_of_getElem? (i := 2) rfl))) (mvT hZ (hw _ (List.mem_of_getElem? (i := 39) rfl))) (by decide) (backOf (W := 0) (rm_va l Z a0 hw [] va vk ia sa h0 n0 (Nat.le_trans Z0 K0.1) S_V V_V E_V O0) hZ (hw _ (List.mem_of_getElem? (i := 39) rfl)) (hw _ (List.mem_of_getElem? (i := 2) rfl)) (by decide) (by decide)) (g := (mkF m 0 #[.val .null, .unset, .unset, .unset, .unset] [])) rfl (by rw [hml]; rfl) (argsL := []) (rest := []) (lenOf pd_2 rfl) rfl (by show 2 * 0 + _ ≤ _; exact Nat.le_of_eq rfl) (hb hby d7_0) (fun _ _ => ⟨rfl, e0, (by decide : 0 + 1 ≤ _), (by decide : 0 + 2 ≤ _)⟩)
  dsimp only [Pt.U, Pt.locs, Pt.cells, Pt.slots] at X6 l6 y6 z6 st6 hQ6
  subst l6 y6 z6
  obtain ⟨r6, rfl, N6q, KK6, sz6, V6⟩ := hQ6
  have N6 := Fr.app N0 N6q
  have sz_r6 : h0.size ≤ r6 := Nat.le_trans K0.1 sz6
  have g_r6 : n0 ≤ r6 := Nat.le_trans Z0 sz_r6
  have ne7 : va ≠ r6 := O0.ne V_V.lt g_r6
  have ne8 : ia ≠ r6 := O0.ne F_i.lt g_r6
  have ne9 : sa ≠ r6 := O0.ne F_j.lt g_r6
  have ne10 : wi ≠ r6 := O0.ne S_i.lt g_r6
  have ne11 : ti ≠ r6 := O0.ne S_i.ltt g_r6
  have ne12 : wj ≠ r6 := O0.ne S_j.lt g_r6
  have ne13 : tj ≠ r6 := O0.ne S_j.ltt g_r6
  replace O0 := O0.keep KK6 all0
  have K14 := K0.trans KK6 all0
  refine own_go st6 ?_
  refine own_go (fun _ kk_ => XS.astoreN X6.here hx rfl (hb hby d7_3) rfl rfl (l' := #[.val .null, .val (.ref r6), .unset, .unset, .unset]) rfl kk_) ?_
  refine own_go (fun _ kk_ => XS.aloadN X6.here hx rfl (hb hby d7_4) rfl rfl kk_) ?_
  show own_Fin p.tables e below _ (T6.setTop (mkF m 5 #[.val .null, .val (.ref r6), .unset, .unset, .unset] [(.ref r6)]))
  refine own_go (fun _ kk_ => own_alen X6 hx hZ rfl V6 (g := (mkF m 5 #[.val .null, .val (.ref r6), .unset, .unset, .unset] [(.ref r6)])) rfl rfl (hb hby d7_5) _ kk_) ?_
  refine own_go (fun _ kk_ => XS.istoreN X6.here hx rfl (hb hby d7_6) rfl (l' := #[.val .null, .val (.ref r6), .val (.int (2 : Int32)), .unset, .unset]) rfl kk_) ?_
  refine own_go (fun _ kk_ => XS.iconst X6.here hx rfl (hb hby d7_7) kk_) ?_
  refine own_go (fun _ kk_ => XS.istoreN X6.here hx rfl (hb hby d7_8) rfl (l' := #[.val .null, .val (.ref r6), .val (.int (2 : Int32)), .val (.int (0 : Int32)), .unset]) rfl kk_) ?_
  refine own_go (fun _ kk_ => XS.iloadN X6.here hx rfl (hb hby d7_9) rfl kk_) ?_
  refine own_go (fun _ kk_ => XS.iloadN X6.here hx rfl (hb hby d7_10) rfl kk_) ?_
  show own_Fin p.tables e below _ (T6.setTop (mkF m 11 #[.val .null, .val (.ref r6), .val (.int (2 : Int32)), .val (.int (0 : Int32)), .unset] [(.int (2 : Int32)), (.int (0 : Int32))]))
  refine own_go (fun _ kk_ => XS.icmpNo X6.here hx rfl (hb hby d7_11) rfl (tlt (by decide : (0 : Int32) < (2 : Int32))).2.1 kk_) ?_
  refine own_go (fun _ kk_ => XS.aloadN X6.here hx rfl (hb hby d7_14) rfl rfl kk_) ?_
  refine own_go (fun _ kk_ => XS.iloadN X6.here hx rfl (hb hby d7_15) rfl kk_) ?_
  show own_Fin p.tables e below _ (T6.setTop (mkF m 16 #[.val .null, .val (.ref r6), .val (.int (2 : Int32)), .val (.int (0 : Int32)), .unset] [(.int (0 : Int32)), (.ref r6)]))
  refine own_go (fun _ kk_ => own_aaload X6 hx hZ rfl V6 (by decide) (v := (.ref ia)) rfl (rfl) (g := (mkF m 16 #[.val .null, .val (.ref r6), .val (.int (2 : Int32)), .val (.int (0 : Int32)), .unset] [(.int (0 : Int32)), (.ref r6)])) rfl rfl (hb hby d7_16) _ kk_) ?_
  refine own_go (fun _ kk_ => XS.astore X6.here hx rfl (hb hby d7_17) rfl rfl (l' := #[.val .null, .val (.ref r6), .val (.int (2 : Int32)), .val (.int (0 : Int32)), .val (.ref ia)]) rfl kk_) ?_
  refine own_go (fun _ kk_ => XS.aload X6.here hx rfl (hb hby d7_19) rfl rfl kk_) ?_
  show own_Fin p.tables e below _ (T6.setTop (mkF m 21 #[.val .null, .val (.ref r6), .val (.int (2 : Int32)), .val (.int (0 : Int32)), .val (.ref ia)] [(.ref ia)]))
  obtain ⟨T15, X15, e15, st15⟩ := getF X6 hx hZ hown (host := "") (Or.inl (hw _ (List.mem_of_getElem? (i := 53) rfl))) Via.refl rfl (F_i.ext O0.2) (g := (mkF m 21 #[.val .null, .val (.ref r6), .val (.int (2 : Int32)), .val (.int (0 : Int32)), .val (.ref ia)] [(.ref ia)])) rfl rfl (hb hby d7_21)
  refine own_go st15 ?_
  refine own_go (fun _ kk_ => XS.aloadN X15.here hx rfl (hb hby d7_24) rfl rfl kk_) ?_
  show own_Fin p.tables e below _ (T15.setTop (mkF m 25 #[.val .null, .val (.ref r6), .val (.int (2 : Int32)), .val (.int (0 : Int32)), .val (.ref ia)] [.null, (.ref wi)]))
  obtain ⟨cq16, kq16, qa16, qb16, qc16⟩ := isOf hZ e15 (S_i.ext O0.2).exa
  obtain ⟨_, _, ⟨T16, L16, k16, n16⟩, -, X16, ⟨Lc16, hQ16, l16, y16, z16⟩, st16⟩ := X15.virtualBack hx (y := (⟨"java/lang/String", "equals", "(Ljava/lang/Object;)Z"⟩ : MethodName)) (z := (⟨"java/lang/String", "equals", "(Ljava/lang/Object;)Z"⟩ : MethodName)) hown (mvT hZ (hw _ (List.mem_of_getElem? (i := 55) rfl))) (mvT hZ (hw _ (List.mem_of_getElem? (i := 56) rfl))) (own_notface (args := #[]) (mvT hZ (hw _ (List.mem_of_getElem? (i := 58) rfl))) rfl) (mvT hZ (hw _ (List.mem_of_getElem? (i := 58) rfl))) (mvT hZ (hw _ (List.mem_of_getElem? (i := 57) rfl))) (by decide) (backOf (W := 0) (rm_eqn l Z a0 hw [] wi T6.heap n0 (Nat.le_trans Z0 K14.1)) hZ (hw _ (List.mem_of_getElem? (i := 59) rfl)) (hw _ (List.mem_of_getElem? (i := 7) rfl)) (by decide) (by decide)) qa16 qc16 (g := (mkF m 25 #[.val .null, .val (.ref r6), .val (.int (2 : Int32)), .val (.int (0 : Int32)), .val (.ref ia)] [.null, (.ref wi)])) rfl (by rw [hml]; rfl) (Steps.refl _) (argsL := [.null]) (rest := []) (lenOf pd_3 rfl) rfl (by show 2 * 0 + _ ≤ _; exact Nat.le_of_eq rfl) (hb hby d7_25) (fun _ _ => ⟨rfl, e15, (by decide : 1 + 0 ≤ _), (by decide : 2 + 0 ≤ _)⟩)
  dsimp only [Pt.U, Pt.locs, Pt.cells, Pt.slots] at X16 l16 y16 z16 st16 hQ16
  subst l16 y16 z16
  obtain ⟨rfl, N16q, e16⟩ := hQ16
  have N16 := Fr.app N6 N16q
  refine own_go (fun _ kk_ => st16.trans kk_) ?_
  show own_Fin p.tables e below _ (T16.setTop (mkF m 28 #[.val .null, .val (.ref r6), .val (.int (2 : Int32)), .val (.int (0 : Int32)), .val (.ref ia)] [(.int (0 : Int32))]))
  refine own_go (fun _ kk_ => XS.ifYes X16.here hx rfl (pc0 := 28) (pc' := 34) rfl (hb hby d7_28) rfl ((if0 _ _).trans (teq (by decide : (0 : Int32) = (0 : Int32))).1) (by decide) (by decide) kk_) ?_
  show own_Fin p.tables e below _ (T16.setTop (mkF m 34 #[.val .null, .val (.ref r6), .val (.int (2 : Int32)), .val (.int (0 : Int32)), .val (.ref ia)] []))
  refine own_go (fun _ kk_ => XS.iinc X16.here hx rfl (hb hby d7_34) rfl (l' := #[.val .null, .val (.ref r6), .val (.int (2 : Int32)), .val (.int (1 : Int32)), .val (.ref ia)]) rfl kk_) ?_
  refine own_go (fun _ kk_ => XS.goto X16.here hx rfl (pc0 := 37) (pc' := 9) rfl (hb hby d7_37) (by decide) (by decide) kk_) ?_
  refine own_go (fun _ kk_ => XS.iloadN X16.here hx rfl (hb hby d7_9) rfl kk_) ?_
  refine own_go (fun _ kk_ => XS.iloadN X16.here hx rfl (hb hby d7_10) rfl kk_) ?_
  show own_Fin p.tables e below _ (T16.setTop (mkF m 11 #[.val .null, .val (.ref r6), .val (.int (2 : Int32)), .val (.int (1 : Int32)), .val (.ref ia)] [(.int (2 : Int32)), (.int (1 : Int32))]))
  refine own_go (fun _ kk_ => XS.icmpNo X16.here hx rfl (hb hby d7_11) rfl (tlt (by decide : (1 : Int32) < (2 : Int32))).2.1 kk_) ?_
  refine own_go (fun _ kk_ => XS.aloadN X16.here hx rfl (hb hby d7_14) rfl rfl kk_) ?_
  refine own_go (fun _ kk_ => XS.iloadN X16.here hx rfl (hb hby d7_15) rfl kk_) ?_
  show own_Fin p.tables e below _ (T16.setTop (mkF m 16 #[.val .null, .val (.ref r6), .val (.int (2 : Int32)), .val (.int (1 : Int32)), .val (.ref ia)] [(.int (1 : Int32)), (.ref r6)]))
  refine own_go (fun _ kk_ => own_aaload X16 hx hZ e16 V6 (by decide) (v := (.ref sa)) rfl (rfl) (g := (mkF m 16 #[.val .null, .val (.ref r6), .val (.int (2 : Int32)), .val (.int (1 : Int32)), .val (.ref ia)] [(.int (1 : Int32)), (.ref r6)])) rfl rfl (hb hby d7_16) _ kk_) ?_
  refine own_go (fun _ kk_ => XS.astore X16.here hx rfl (hb hby d7_17) rfl rfl (l' := #[.val .null, .val (.ref r6), .val (.int (2 : Int32)), .val (.int (1 : Int32)), .val (.ref sa)]) rfl kk_) ?_
  refine own_go (fun _ kk_ => XS.aload X16.here hx rfl (hb hby d7_19) rfl rfl kk_) ?_
  show own_Fin p.tables e below _ (T16.setTop (mkF m 21 #[.val .null, .val (.ref r6), .val (.int (2 : Int32)), .val (.int (1 : Int32)), .val (.ref sa)] [(.ref sa)]))
  obtain ⟨T17, X17, e17, st17⟩ := getF X16 hx hZ hown (host := "") (Or.inl (hw _ (List.mem_of_getElem? (i := 53) rfl))) Via.refl e16 (F_j.ext O0.2) (g := (mkF m 21 #[.val .null, .val (.ref r6), .val (.int (2 : Int32)), .val (.int (1 : Int32)), .val (.ref sa)] [(.ref sa)])) rfl rfl (hb hby d7_21)
  refine own_go st17 ?_
  refine own_go (fun _ kk_ => XS.aloadN X17.here hx rfl (hb hby d7_24) rfl rfl kk_) ?_
  show own_Fin p.tables e below _ (T17.setTop (mkF m 25 #[.val .null, .val (.ref r6), .val (.int (2 : Int32)), .val (.int (1 : Int32)), .val (.ref sa)] [.null, (.ref wj)]))
  obtain ⟨cq18, kq18, qa18, qb18, qc18⟩ := isOf hZ e17 (S_j.ext O0.2).exa
  obtain ⟨_, _, ⟨T18, L18, k18, n18⟩, -, X18, ⟨Lc18, hQ18, l18, y18, z18⟩, st18⟩ := X17.virtualBack hx (y := (⟨"java/lang/String", "equals", "(Ljava/lang/Object;)Z"⟩ : MethodName)) (z := (⟨"java/lang/String", "equals", "(Ljava/lang/Object;)Z"⟩ : MethodName)) hown (mvT hZ (hw _ (List.mem_of_getElem? (i := 55) rfl))) (mvT hZ (hw _ (List.mem_of_getElem? (i := 56) rfl))) (own_notface (args := #[]) (mvT hZ (hw _ (List.mem_of_getElem? (i := 58) rfl))) rfl) (mvT hZ (hw _ (List.mem_of_getElem? (i := 58) rfl))) (mvT hZ (hw _ (List.mem_of_getElem? (i := 57) rfl))) (by decide) (backOf (W := 0) (rm_eqn l Z a0 hw [] wj T6.heap n0 (Nat.le_trans Z0 K14.1)) hZ (hw _ (List.mem_of_getElem? (i := 59) rfl)) (hw _ (List.mem_of_getElem? (i := 7) rfl)) (by decide) (by decide)) qa18 qc18 (g := (mkF m 25 #[.val .null, .val (.ref r6), .val (.int (2 : Int32)), .val (.int (1 : Int32)), .val (.ref sa)] [.null, (.ref wj)])) rfl (by rw [hml]; rfl) (Steps.refl _) (argsL := [.null]) (rest := []) (lenOf pd_3 rfl) rfl (by show 2 * 0 + _ ≤ _; exact Nat.le_of_eq rfl) (hb hby d7_25) (fun _ _ => ⟨rfl, e17, (by decide : 1 + 0 ≤ _), (by decide : 2 + 0 ≤ _)⟩)
  dsimp only [Pt.U, Pt.locs, Pt.cells, Pt.slots] at X18 l18 y18 z18 st18 hQ18
  subst l18 y18 z18
  obtain ⟨rfl, N18q, e18⟩ := hQ18
  have N18 := Fr.app N16 N18q
  refine own_go (fun _ kk_ => st18.trans kk_) ?_
  show own_Fin p.tables e below _ (T18.setTop (mkF m 28 #[.val .null, .val (.ref r6), .val (.int (2 : Int32)), .val (.int (1 : Int32)), .val (.ref sa)] [(.int (0 : Int32))]))
  refine own_go (fun _ kk_ => XS.ifYes X18.here hx rfl (pc0 := 28) (pc' := 34) rfl (hb hby d7_28) rfl ((if0 _ _).trans (teq (by decide : (0 : Int32) = (0 : Int32))).1) (by decide) (by decide) kk_) ?_
  show own_Fin p.tables e below _ (T18.setTop (mkF m 34 #[.val .null, .val (.ref r6), .val (.int (2 : Int32)), .val (.int (1 : Int32)), .val (.ref sa)] []))
  refine own_go (fun _ kk_ => XS.iinc X18.here hx rfl (hb hby d7_34) rfl (l' := #[.val .null, .val (.ref r6), .val (.int (2 : Int32)), .val (.int (2 : Int32)), .val (.ref sa)]) rfl kk_) ?_
  refine own_go (fun _ kk_ => XS.goto X18.here hx rfl (pc0 := 37) (pc' := 9) rfl (hb hby d7_37) (by decide) (by decide) kk_) ?_
  refine own_go (fun _ kk_ => XS.iloadN X18.here hx rfl (hb hby d7_9) rfl kk_) ?_
  refine own_go (fun _ kk_ => XS.iloadN X18.here hx rfl (hb hby d7_10) rfl kk_) ?_
  show own_Fin p.tables e below _ (T18.setTop (mkF m 11 #[.val .null, .val (.ref r6), .val (.int (2 : Int32)), .val (.int (2 : Int32)), .val (.ref sa)] [(.int (2 : Int32)), (.int (2 : Int32))]))
  refine own_go (fun _ kk_ => XS.icmpYes X18.here hx rfl (pc0 := 11) (pc' := 40) rfl (hb hby d7_11) rfl (flt (by decide : ¬ (2 : Int32) < (2 : Int32))).2.1 (by decide) (by decide) kk_) ?_
  refine own_go (fun _ kk_ => XS.aconstNull X18.here hx rfl (hb hby d7_40) kk_) ?_
  show own_Fin p.tables e below _ (T18.setTop (mkF m 41 #[.val .null, .val (.ref r6), .val (.int (2 : Int32)), .val (.int (2 : Int32)), .val (.ref sa)] [.null]))
  refine own_retA X18 hx Bd (t := (.object "com/example/hebelwerk/hebelwerk/model/DividendMethod")) Bd.returns rfl rfl rfl (hb hby d7_41) ?_ (by decide) (by decide)
  show (Q_rm_wrN Z va vk ia sa wi ti wj tj gc h0 n0) (some .null) T18.heap _
  rw [e18]
  exact ⟨rfl, N18, K14⟩
def Q_rm_wrS (Z : State) (xx : Addr) (tt : Addr) (cs : List Int32) (va : Addr) (vk : ClassId) (ia : Addr) (sa : Addr) (wi : Addr) (ti : Addr) (wj : Addr) (tj : Addr) (gc : Int32) (h0 : Heap) (n0 : Nat) (v : Option Value) (h : Heap) (L : List Loc) : Prop := Fr n0 L ∧ Keep h0 h [] ∧ (cs = ([(105 : Int32), (110 : Int32), (100 : Int32), (105 : Int32), (118 : Int32), (105 : Int32), (100 : Int32), (117 : Int32), (97 : Int32), (108 : Int32)] : List Int32) → v = some (.ref ia)) ∧ (¬ cs = ([(105 : Int32), (110 : Int32), (100 : Int32), (105 : Int32), (118 : Int32), (105 : Int32), (100 : Int32), (117 : Int32), (97 : Int32), (108 : Int32)] : List Int32) → cs = ([(115 : Int32), (109 : Int32), (111 : Int32), (111 : Int32), (116 : Int32), (104 : Int32), (101 : Int32), (100 : Int32)] : List Int32) → v = some (.ref sa)) ∧ (¬ cs = ([(105 : Int32), (110 : Int32), (100 : Int32), (105 : Int32), (118 : Int32), (105 : Int32), (100 : Int32), (117 : Int32), (97 : Int32), (108 : Int32)] : List Int32) → ¬ cs = ([(115 : Int32), (109 : Int32), (111 : Int32), (111 : Int32), (116 : Int32), (104 : Int32), (101 : Int32), (100 : Int32)] : List Int32) → v = some .null)
theorem ef_rm_wrS (m : MethodId) (xx : Addr) (tt : Addr) (va : Addr) (ia : Addr) (sa : Addr) (wi : Addr) (ti : Addr) (wj : Addr) (tj : Addr) (gc : Int32) : entryFrame m #[(.ref xx)] 5 = mkF m 0 #[.val (.ref xx), .unset, .unset, .unset, .unset] [] := by first | (simp [entryFrame, mkF, argsToLocals, Value.category]; done) | rfl
set_option maxRecDepth 65536 in
set_option maxHeartbeats 40000000 in
theorem rm_wrS (l : Launch) (Z : State) (a0 : Array Value) (hw : ∀ d ∈ tables_1, d.before a0 Z = true) (ws : List Jvm.Cond) (xx : Addr) (tt : Addr) (cs : List Int32) (va : Addr) (vk : ClassId) (ia : Addr) (sa : Addr) (wi : Addr) (ti : Addr) (wj : Addr) (tj : Addr) (gc : Int32) (h0 : Heap) (n0 : Nat) (Z0 : n0 ≤ h0.size) (F_x : own_Str Z h0 xx tt cs) (S_V : Sta Z Z.heap "com/example/hebelwerk/hebelwerk/model/DividendMethod" "$VALUES" "[Lcom/example/hebelwerk/hebelwerk/model/DividendMethod;" (.ref va)) (V_V : Arv Z Z.heap va vk (.object "com/example/hebelwerk/hebelwerk/model/DividendMethod") (2 : Int32) [.ref ia, .ref sa] .null) (E_V : Exa Z Z.heap va "[Lcom/example/hebelwerk/hebelwerk/model/DividendMethod;") (F_i : Fld Z Z.heap ia "com/example/hebelwerk/hebelwerk/model/DividendMethod" "written" "Ljava/lang/String;" (.ref wi)) (F_j : Fld Z Z.heap sa "com/example/hebelwerk/hebelwerk/model/DividendMethod" "written" "Ljava/lang/String;" (.ref wj)) (S_i : own_Str Z Z.heap wi ti ([(105 : Int32), (110 : Int32), (100 : Int32), (105 : Int32), (118 : Int32), (105 : Int32), (100 : Int32), (117 : Int32), (97 : Int32), (108 : Int32)] : List Int32)) (S_j : own_Str Z Z.heap wj tj ([(115 : Int32), (109 : Int32), (111 : Int32), (111 : Int32), (116 : Int32), (104 : Int32), (101 : Int32), (100 : Int32)] : List Int32)) (S_C : Sta Z Z.heap "java/lang/String" "COMPACT_STRINGS" "Z" (.int gc)) (hcs : ¬ gc = 0) (O0 : Old Z n0 h0) :
    MetFree l (⟨"com/example/hebelwerk/hebelwerk/model/DividendMethod", "written", "(Ljava/lang/String;)Lcom/example/hebelwerk/hebelwerk/model/DividendMethod;"⟩ : MethodName) (head1 (Jvm.Cond.code (⟨"com/example/hebelwerk/hebelwerk/model/DividendMethod", "written", "(Ljava/lang/String;)Lcom/example/hebelwerk/hebelwerk/model/DividendMethod;"⟩ : MethodName) prog_19_method_4_code 5 (some (.object "com/example/hebelwerk/hebelwerk/model/DividendMethod")) :: ws) ({ frames := 3, cells := 1, slots := 2, locals := 28 } : Room)) (fun a_ U_ => a_ = #[(.ref xx)] ∧ Z.Warmed39 U_.vm ∧ U_.heap = h0) (fun _ _ _ _ _ => True) (fun _ U_ o_ V_ => ∃ v_ L_, o_ = .returned v_ ∧ (Q_rm_wrS Z xx tt cs va vk ia sa wi ti wj tj gc h0 n0) v_ V_.heap L_ ∧ FrameEnd U_ o_ V_ L_ ({ frames := 3, cells := 1, slots := 2, locals := 28 } : Room).cells ({ frames := 3, cells := 1, slots := 2, locals := 28 } : Room).slots) := by
  refine MetFree.of_bodySF (plainFor_of_name pn_1) hisR ?_
  intro p e s m args below meth c s₁ Bd hml0 hP hK
  obtain ⟨rfl, hZ, hh⟩ := hP
  have hx := Bd.exec
  have hby := Bd.bytes
  have hml : c.maxLocals = 5 := hml0
  have hown : s.vm.findClass "com/example/hebelwerk/hebelwerk/model/DividendMethod" = some m.cls := findClass_of_methodNamed Bd.named
  have hnm := (name_of_methodNamed Bd.named Bd.method).1
  have X0 : Stand p l e ({ frames := 3, cells := 1, slots := 2, locals := 28 } : Room) s m #[(.ref xx)] below meth c s₁ [] 0 0 := Stand.of_body Bd
  have e0 : s₁.heap = h0 := by rw [← hh, Bd.state]; rfl
  have N0 := Fr.nil n0
  have K0 : Keep h0 h0 [] := Keep.refl _ _
  show own_Fin p.tables e below (own_Post (Q_rm_wrS Z xx tt cs va vk ia sa wi ti wj tj gc h0 n0) ({ frames := 3, cells := 1, slots := 2, locals := 28 } : Room).cells ({ frames := 3, cells := 1, slots := 2, locals := 28 } : Room).slots below s) _
  refine own_go (fun _ kk_ => castTop (ef_rm_wrS m xx tt va ia sa wi ti wj tj gc) kk_) ?_
  have heq : ∀ d ∈ StrChars.Road.wordsEq, d.before a0 Z = true := fun d hd => hw d ((by decide +kernel : ∀ d ∈ StrChars.Road.wordsEq, d ∈ tables_1) d hd)
  show own_Fin p.tables e below _ (s₁.setTop (mkF m 0 #[.val (.ref xx), .unset, .unset, .unset, .unset] []))
  obtain ⟨_, _, ⟨T19, L19, k19, n19⟩, -, X19, ⟨Lc19, hQ19, l19, y19, z19⟩, st19⟩ := Jvm.LawKit.callS X0 hx (y := (⟨"com/example/hebelwerk/hebelwerk/model/DividendMethod", "values", "()[Lcom/example/hebelwerk/hebelwerk/model/DividendMethod;"⟩ : MethodName)) hown (mvT hZ (hw _ (List.mem_of_getElem? (i := 37) rfl))) (mvT hZ (hw _ (List.mem_of_getElem? (i := 38) rfl))) (mvT hZ (hw _ (List.mem_of_getElem? (i := 2) rfl))) (mvT hZ (hw _ (List.mem_of_getElem? (i := 39) rfl))) (by decide) (backOf (W := 0) (rm_va l Z a0 hw [] va vk ia sa h0 n0 (Nat.le_trans Z0 K0.1) S_V V_V E_V O0) hZ (hw _ (List.mem_of_getElem? (i := 39) rfl)) (hw _ (List.mem_of_getElem? (i := 2) rfl)) (by decide) (by decide)) (g := (mkF m 0 #[.val (.ref xx), .unset, .unset, .unset, .unset] [])) rfl (by rw [hml]; rfl) (argsL := []) (rest := []) (lenOf pd_2 rfl) rfl (by show 2 * 0 + _ ≤ _; exact Nat.le_of_eq rfl) (hb hby d7_0) (fun _ _ => ⟨rfl, e0, (by decide : 0 + 1 ≤ _), (by decide : 0 + 2 ≤ _)⟩)
  dsimp only [Pt.U, Pt.locs, Pt.cells, Pt.slots] at X19 l19 y19 z19 st19 hQ19
  subst l19 y19 z19
  obtain ⟨r19, rfl, N19q, KK19, sz19, V19⟩ := hQ19
  have N19 := Fr.app N0 N19q
  have sz_r19 : h0.size ≤ r19 := Nat.le_trans K0.1 sz19
  have g_r19 : n0 ≤ r19 := Nat.le_trans Z0 sz_r19
  have ne20 : va ≠ r19 := O0.ne V_V.lt g_r19
  have ne21 : ia ≠ r19 := O0.ne F_i.lt g_r19
  have ne22 : sa ≠ r19 := O0.ne F_j.lt g_r19
  have ne23 : wi ≠ r19 := O0.ne S_i.lt g_r19
  have ne24 : ti ≠ r19 := O0.ne S_i.ltt g_r19
  have ne25 : wj ≠ r19 := O0.ne S_j.lt g_r19
  have ne26 : tj ≠ r19 := O0.ne S_j.ltt g_r19
  have ne27 : xx ≠ r19 := Nat.ne_of_lt (Nat.lt_of_lt_of_le F_x.lt sz19)
  have ne28 : tt ≠ r19 := Nat.ne_of_lt (Nat.lt_of_lt_of_le F_x.ltt sz19)
  replace O0 := O0.keep KK19 all0
  replace F_x := F_x.keep KK19 nin0 nin0
  have K29 := K0.trans KK19 all0
  refine own_go st19 ?_
  refine own_go (fun _ kk_ => XS.astoreN X19.here hx rfl (hb hby d7_3) rfl rfl (l' := #[.val (.ref xx), .val (.ref r19), .unset, .unset, .unset]) rfl kk_) ?_
  refine own_go (fun _ kk_ => XS.aloadN X19.here hx rfl (hb hby d7_4) rfl rfl kk_) ?_
  show own_Fin p.tables e below _ (T19.setTop (mkF m 5 #[.val (.ref xx), .val (.ref r19), .unset, .unset, .unset] [(.ref r19)]))
  refine own_go (fun _ kk_ => own_alen X19 hx hZ rfl V19 (g := (mkF m 5 #[.val (.ref xx), .val (.ref r19), .unset, .unset, .unset] [(.ref r19)])) rfl rfl (hb hby d7_5) _ kk_) ?_
  refine own_go (fun _ kk_ => XS.istoreN X19.here hx rfl (hb hby d7_6) rfl (l' := #[.val (.ref xx), .val (.ref r19), .val (.int (2 : Int32)), .unset, .unset]) rfl kk_) ?_
  refine own_go (fun _ kk_ => XS.iconst X19.here hx rfl (hb hby d7_7) kk_) ?_
  refine own_go (fun _ kk_ => XS.istoreN X19.here hx rfl (hb hby d7_8) rfl (l' := #[.val (.ref xx), .val (.ref r19), .val (.int (2 : Int32)), .val (.int (0 : Int32)), .unset]) rfl kk_) ?_
  refine own_go (fun _ kk_ => XS.iloadN X19.here hx rfl (hb hby d7_9) rfl kk_) ?_
  refine own_go (fun _ kk_ => XS.iloadN X19.here hx rfl (hb hby d7_10) rfl kk_) ?_
  show own_Fin p.tables e below _ (T19.setTop (mkF m 11 #[.val (.ref xx), .val (.ref r19), .val (.int (2 : Int32)), .val (.int (0 : Int32)), .unset] [(.int (2 : Int32)), (.int (0 : Int32))]))
  refine own_go (fun _ kk_ => XS.icmpNo X19.here hx rfl (hb hby d7_11) rfl (tlt (by decide : (0 : Int32) < (2 : Int32))).2.1 kk_) ?_
  refine own_go (fun _ kk_ => XS.aloadN X19.here hx rfl (hb hby d7_14) rfl rfl kk_) ?_
  refine own_go (fun _ kk_ => XS.iloadN X19.here hx rfl (hb hby d7_15) rfl kk_) ?_
  show own_Fin p.tables e below _ (T19.setTop (mkF m 16 #[.val (.ref xx), .val (.ref r19), .val (.int (2 : Int32)), .val (.int (0 : Int32)), .unset] [(.int (0 : Int32)), (.ref r19)]))
  refine own_go (fun _ kk_ => own_aaload X19 hx hZ rfl V19 (by decide) (v := (.ref ia)) rfl (rfl) (g := (mkF m 16 #[.val (.ref xx), .val (.ref r19), .val (.int (2 : Int32)), .val (.int (0 : Int32)), .unset] [(.int (0 : Int32)), (.ref r19)])) rfl rfl (hb hby d7_16) _ kk_) ?_
  refine own_go (fun _ kk_ => XS.astore X19.here hx rfl (hb hby d7_17) rfl rfl (l' := #[.val (.ref xx), .val (.ref r19), .val (.int (2 : Int32)), .val (.int (0 : Int32)), .val (.ref ia)]) rfl kk_) ?_
  refine own_go (fun _ kk_ => XS.aload X19.here hx rfl (hb hby d7_19) rfl rfl kk_) ?_
  show own_Fin p.tables e below _ (T19.setTop (mkF m 21 #[.val (.ref xx), .val (.ref r19), .val (.int (2 : Int32)), .val (.int (0 : Int32)), .val (.ref ia)] [(.ref ia)]))
  obtain ⟨T30, X30, e30, st30⟩ := getF X19 hx hZ hown (host := "") (Or.inl (hw _ (List.mem_of_getElem? (i := 53) rfl))) Via.refl rfl (F_i.ext O0.2) (g := (mkF m 21 #[.val (.ref xx), .val (.ref r19), .val (.int (2 : Int32)), .val (.int (0 : Int32)), .val (.ref ia)] [(.ref ia)])) rfl rfl (hb hby d7_21)
  refine own_go st30 ?_
  refine own_go (fun _ kk_ => XS.aloadN X30.here hx rfl (hb hby d7_24) rfl rfl kk_) ?_
  show own_Fin p.tables e below _ (T30.setTop (mkF m 25 #[.val (.ref xx), .val (.ref r19), .val (.int (2 : Int32)), .val (.int (0 : Int32)), .val (.ref ia)] [(.ref xx), (.ref wi)]))
  obtain ⟨cq31, kq31, qa31, qb31, qc31⟩ := isOf hZ e30 (S_i.ext O0.2).exa
  obtain ⟨_, _, ⟨T31, L31, k31, n31⟩, -, X31, ⟨Lc31, hQ31, l31, y31, z31⟩, st31⟩ := X30.virtualBack hx (y := (⟨"java/lang/String", "equals", "(Ljava/lang/Object;)Z"⟩ : MethodName)) (z := (⟨"java/lang/String", "equals", "(Ljava/lang/Object;)Z"⟩ : MethodName)) hown (mvT hZ (hw _ (List.mem_of_getElem? (i := 55) rfl))) (mvT hZ (hw _ (List.mem_of_getElem? (i := 56) rfl))) (own_notface (args := #[]) (mvT hZ (hw _ (List.mem_of_getElem? (i := 58) rfl))) rfl) (mvT hZ (hw _ (List.mem_of_getElem? (i := 58) rfl))) (mvT hZ (hw _ (List.mem_of_getElem? (i := 57) rfl))) (by decide) (own_eqB (W := 0) hZ heq (hw _ (List.mem_of_getElem? (i := 6) rfl)) (S_i.ext O0.2) F_x (S_C.ext O0.2) hcs (by decide) (by decide)) qa31 qc31 (g := (mkF m 25 #[.val (.ref xx), .val (.ref r19), .val (.int (2 : Int32)), .val (.int (0 : Int32)), .val (.ref ia)] [(.ref xx), (.ref wi)])) rfl (by rw [hml]; rfl) (Steps.refl _) (argsL := [(.ref xx)]) (rest := []) (lenOf pd_3 rfl) rfl (by show 2 * 0 + _ ≤ _; exact Nat.le_of_eq rfl) (hb hby d7_25) (fun _ _ => ⟨rfl, e30, (by decide : 1 + 0 ≤ _), (by decide : 2 + 0 ≤ _)⟩)
  dsimp only [Pt.U, Pt.locs, Pt.cells, Pt.slots] at X31 l31 y31 z31 st31 hQ31
  subst l31 y31 z31
  obtain ⟨hq31, rfl, e31⟩ := hQ31
  obtain ⟨z31, rfl, hz31⟩ := own_eqv hq31
  have N31 := Fr.app N19 (Fr.nil n0)
  refine own_go (fun _ kk_ => st31.trans kk_) ?_
  show own_Fin p.tables e below _ (T31.setTop (mkF m 28 #[.val (.ref xx), .val (.ref r19), .val (.int (2 : Int32)), .val (.int (0 : Int32)), .val (.ref ia)] [(.int z31)]))
  by_cases hc32 : z31 = (0 : Int32)
  · skip
    refine own_go (fun _ kk_ => XS.ifYes X31.here hx rfl (pc0 := 28) (pc' := 34) rfl (hb hby d7_28) rfl ((if0 _ _).trans (teq hc32).1) (by decide) (by decide) kk_) ?_
    show own_Fin p.tables e below _ (T31.setTop (mkF m 34 #[.val (.ref xx), .val (.ref r19), .val (.int (2 : Int32)), .val (.int (0 : Int32)), .val (.ref ia)] []))
    refine own_go (fun _ kk_ => XS.iinc X31.here hx rfl (hb hby d7_34) rfl (l' := #[.val (.ref xx), .val (.ref r19), .val (.int (2 : Int32)), .val (.int (1 : Int32)), .val (.ref ia)]) rfl kk_) ?_
    refine own_go (fun _ kk_ => XS.goto X31.here hx rfl (pc0 := 37) (pc' := 9) rfl (hb hby d7_37) (by decide) (by decide) kk_) ?_
    refine own_go (fun _ kk_ => XS.iloadN X31.here hx rfl (hb hby d7_9) rfl kk_) ?_
    refine own_go (fun _ kk_ => XS.iloadN X31.here hx rfl (hb hby d7_10) rfl kk_) ?_
    show own_Fin p.tables e below _ (T31.setTop (mkF m 11 #[.val (.ref xx), .val (.ref r19), .val (.int (2 : Int32)), .val (.int (1 : Int32)), .val (.ref ia)] [(.int (2 : Int32)), (.int (1 : Int32))]))
    refine own_go (fun _ kk_ => XS.icmpNo X31.here hx rfl (hb hby d7_11) rfl (tlt (by decide : (1 : Int32) < (2 : Int32))).2.1 kk_) ?_
    refine own_go (fun _ kk_ => XS.aloadN X31.here hx rfl (hb hby d7_14) rfl rfl kk_) ?_
    refine own_go (fun _ kk_ => XS.iloadN X31.here hx rfl (hb hby d7_15) rfl kk_) ?_
    show own_Fin p.tables e below _ (T31.setTop (mkF m 16 #[.val (.ref xx), .val (.ref r19), .val (.int (2 : Int32)), .val (.int (1 : Int32)), .val (.ref ia)] [(.int (1 : Int32)), (.ref r19)]))
    refine own_go (fun _ kk_ => own_aaload X31 hx hZ e31 V19 (by decide) (v := (.ref sa)) rfl (rfl) (g := (mkF m 16 #[.val (.ref xx), .val (.ref r19), .val (.int (2 : Int32)), .val (.int (1 : Int32)), .val (.ref ia)] [(.int (1 : Int32)), (.ref r19)])) rfl rfl (hb hby d7_16) _ kk_) ?_
    refine own_go (fun _ kk_ => XS.astore X31.here hx rfl (hb hby d7_17) rfl rfl (l' := #[.val (.ref xx), .val (.ref r19), .val (.int (2 : Int32)), .val (.int (1 : Int32)), .val (.ref sa)]) rfl kk_) ?_
    refine own_go (fun _ kk_ => XS.aload X31.here hx rfl (hb hby d7_19) rfl rfl kk_) ?_
    show own_Fin p.tables e below _ (T31.setTop (mkF m 21 #[.val (.ref xx), .val (.ref r19), .val (.int (2 : Int32)), .val (.int (1 : Int32)), .val (.ref sa)] [(.ref sa)]))
    obtain ⟨T33, X33, e33, st33⟩ := getF X31 hx hZ hown (host := "") (Or.inl (hw _ (List.mem_of_getElem? (i := 53) rfl))) Via.refl e31 (F_j.ext O0.2) (g := (mkF m 21 #[.val (.ref xx), .val (.ref r19), .val (.int (2 : Int32)), .val (.int (1 : Int32)), .val (.ref sa)] [(.ref sa)])) rfl rfl (hb hby d7_21)
    refine own_go st33 ?_
    refine own_go (fun _ kk_ => XS.aloadN X33.here hx rfl (hb hby d7_24) rfl rfl kk_) ?_
    show own_Fin p.tables e below _ (T33.setTop (mkF m 25 #[.val (.ref xx), .val (.ref r19), .val (.int (2 : Int32)), .val (.int (1 : Int32)), .val (.ref sa)] [(.ref xx), (.ref wj)]))
    obtain ⟨cq34, kq34, qa34, qb34, qc34⟩ := isOf hZ e33 (S_j.ext O0.2).exa
    obtain ⟨_, _, ⟨T34, L34, k34, n34⟩, -, X34, ⟨Lc34, hQ34, l34, y34, z34⟩, st34⟩ := X33.virtualBack hx (y := (⟨"java/lang/String", "equals", "(Ljava/lang/Object;)Z"⟩ : MethodName)) (z := (⟨"java/lang/String", "equals", "(Ljava/lang/Object;)Z"⟩ : MethodName)) hown (mvT hZ (hw _ (List.mem_of_getElem? (i := 55) rfl))) (mvT hZ (hw _ (List.mem_of_getElem? (i := 56) rfl))) (own_notface (args := #[]) (mvT hZ (hw _ (List.mem_of_getElem? (i := 58) rfl))) rfl) (mvT hZ (hw _ (List.mem_of_getElem? (i := 58) rfl))) (mvT hZ (hw _ (List.mem_of_getElem? (i := 57) rfl))) (by decide) (own_eqB (W := 0) hZ heq (hw _ (List.mem_of_getElem? (i := 6) rfl)) (S_j.ext O0.2) F_x (S_C.ext O0.2) hcs (by decide) (by decide)) qa34 qc34 (g := (mkF m 25 #[.val (.ref xx), .val (.ref r19), .val (.int (2 : Int32)), .val (.int (1 : Int32)), .val (.ref sa)] [(.ref xx), (.ref wj)])) rfl (by rw [hml]; rfl) (Steps.refl _) (argsL := [(.ref xx)]) (rest := []) (lenOf pd_3 rfl) rfl (by show 2 * 0 + _ ≤ _; exact Nat.le_of_eq rfl) (hb hby d7_25) (fun _ _ => ⟨rfl, e33, (by decide : 1 + 0 ≤ _), (by decide : 2 + 0 ≤ _)⟩)
    dsimp only [Pt.U, Pt.locs, Pt.cells, Pt.slots] at X34 l34 y34 z34 st34 hQ34
    subst l34 y34 z34
    obtain ⟨hq34, rfl, e34⟩ := hQ34
    obtain ⟨z34, rfl, hz34⟩ := own_eqv hq34
    have N34 := Fr.app N31 (Fr.nil n0)
    refine own_go (fun _ kk_ => st34.trans kk_) ?_
    show own_Fin p.tables e below _ (T34.setTop (mkF m 28 #[.val (.ref xx), .val (.ref r19), .val (.int (2 : Int32)), .val (.int (1 : Int32)), .val (.ref sa)] [(.int z34)]))
    by_cases hc35 : z34 = (0 : Int32)
    · skip
      refine own_go (fun _ kk_ => XS.ifYes X34.here hx rfl (pc0 := 28) (pc' := 34) rfl (hb hby d7_28) rfl ((if0 _ _).trans (teq hc35).1) (by decide) (by decide) kk_) ?_
      show own_Fin p.tables e below _ (T34.setTop (mkF m 34 #[.val (.ref xx), .val (.ref r19), .val (.int (2 : Int32)), .val (.int (1 : Int32)), .val (.ref sa)] []))
      refine own_go (fun _ kk_ => XS.iinc X34.here hx rfl (hb hby d7_34) rfl (l' := #[.val (.ref xx), .val (.ref r19), .val (.int (2 : Int32)), .val (.int (2 : Int32)), .val (.ref sa)]) rfl kk_) ?_
      refine own_go (fun _ kk_ => XS.goto X34.here hx rfl (pc0 := 37) (pc' := 9) rfl (hb hby d7_37) (by decide) (by decide) kk_) ?_
      refine own_go (fun _ kk_ => XS.iloadN X34.here hx rfl (hb hby d7_9) rfl kk_) ?_
      refine own_go (fun _ kk_ => XS.iloadN X34.here hx rfl (hb hby d7_10) rfl kk_) ?_
      show own_Fin p.tables e below _ (T34.setTop (mkF m 11 #[.val (.ref xx), .val (.ref r19), .val (.int (2 : Int32)), .val (.int (2 : Int32)), .val (.ref sa)] [(.int (2 : Int32)), (.int (2 : Int32))]))
      refine own_go (fun _ kk_ => XS.icmpYes X34.here hx rfl (pc0 := 11) (pc' := 40) rfl (hb hby d7_11) rfl (flt (by decide : ¬ (2 : Int32) < (2 : Int32))).2.1 (by decide) (by decide) kk_) ?_
      refine own_go (fun _ kk_ => XS.aconstNull X34.here hx rfl (hb hby d7_40) kk_) ?_
      show own_Fin p.tables e below _ (T34.setTop (mkF m 41 #[.val (.ref xx), .val (.ref r19), .val (.int (2 : Int32)), .val (.int (2 : Int32)), .val (.ref sa)] [.null]))
      refine own_retA X34 hx Bd (t := (.object "com/example/hebelwerk/hebelwerk/model/DividendMethod")) Bd.returns rfl rfl rfl (hb hby d7_41) ?_ (by decide) (by decide)
      show (Q_rm_wrS Z xx tt cs va vk ia sa wi ti wj tj gc h0 n0) (some .null) T34.heap _
      rw [e34]
      refine ⟨N34, K29, fun q => ?_, fun q r => ?_, fun q r => ?_⟩
      · exact absurd q (hz31.elim (fun u => absurd (u.1.symm.trans hc32) (by decide)) (fun u => fun q => u.2 q.symm))
      · exact absurd r (hz34.elim (fun u => absurd (u.1.symm.trans hc35) (by decide)) (fun u => fun q => u.2 q.symm))
      · rfl
    · skip
      refine own_go (fun _ kk_ => XS.ifNo X34.here hx rfl (hb hby d7_28) rfl ((if0 _ _).trans (feq hc35).1) kk_) ?_
      refine own_go (fun _ kk_ => XS.aload X34.here hx rfl (hb hby d7_31) rfl rfl kk_) ?_
      show own_Fin p.tables e below _ (T34.setTop (mkF m 33 #[.val (.ref xx), .val (.ref r19), .val (.int (2 : Int32)), .val (.int (1 : Int32)), .val (.ref sa)] [(.ref sa)]))
      refine own_retA X34 hx Bd (t := (.object "com/example/hebelwerk/hebelwerk/model/DividendMethod")) Bd.returns rfl rfl rfl (hb hby d7_33) ?_ (by decide) (by decide)
      show (Q_rm_wrS Z xx tt cs va vk ia sa wi ti wj tj gc h0 n0) (some (.ref sa)) T34.heap _
      rw [e34]
      refine ⟨N34, K29, fun q => ?_, fun q r => ?_, fun q r => ?_⟩
      · exact absurd q (hz31.elim (fun u => absurd (u.1.symm.trans hc32) (by decide)) (fun u => fun q => u.2 q.symm))
      · rfl
      · exact absurd (hz34.elim (fun u => u.2.symm) (fun u => absurd u.1 hc35)) r
  · skip
    refine own_go (fun _ kk_ => XS.ifNo X31.here hx rfl (hb hby d7_28) rfl ((if0 _ _).trans (feq hc32).1) kk_) ?_
    refine own_go (fun _ kk_ => XS.aload X31.here hx rfl (hb hby d7_31) rfl rfl kk_) ?_
    show own_Fin p.tables e below _ (T31.setTop (mkF m 33 #[.val (.ref xx), .val (.ref r19), .val (.int (2 : Int32)), .val (.int (0 : Int32)), .val (.ref ia)] [(.ref ia)]))
    refine own_retA X31 hx Bd (t := (.object "com/example/hebelwerk/hebelwerk/model/DividendMethod")) Bd.returns rfl rfl rfl (hb hby d7_33) ?_ (by decide) (by decide)
    show (Q_rm_wrS Z xx tt cs va vk ia sa wi ti wj tj gc h0 n0) (some (.ref ia)) T31.heap _
    rw [e31]
    refine ⟨N31, K29, fun q => ?_, fun q r => ?_, fun q r => ?_⟩
    · rfl
    · exact absurd (hz31.elim (fun u => u.2.symm) (fun u => absurd u.1 hc32)) q
    · exact absurd (hz31.elim (fun u => u.2.symm) (fun u => absurd u.1 hc32)) q
def Q_rm_law (Z : State) (mode : Int32) (pos : Int32) (ch : Int32) (oth : Int32) (va : Addr) (vk : ClassId) (ia : Addr) (sa : Addr) (wi : Addr) (ti : Addr) (wj : Addr) (tj : Addr) (gc : Int32) (h0 : Heap) (n0 : Nat) (v : Option Value) (h : Heap) (L : List Loc) : Prop := v = some (.int 1) ∧ Fr n0 L
theorem ef_rm_law (m : MethodId) (mode : Int32) (pos : Int32) (ch : Int32) (oth : Int32) (va : Addr) (ia : Addr) (sa : Addr) (wi : Addr) (ti : Addr) (wj : Addr) (tj : Addr) (gc : Int32) : entryFrame m #[(.int mode), (.int pos), (.int ch), (.int oth)] maxLocals = mkF m 0 #[.val (.int mode), .val (.int pos), .val (.int ch), .val (.int oth), .unset, .unset, .unset, .unset, .unset, .unset, .unset, .unset, .unset, .unset] [] := by first | (simp [entryFrame, mkF, argsToLocals, Value.category, maxLocals]; done) | rfl
set_option maxRecDepth 65536 in
set_option maxHeartbeats 40000000 in
theorem rm_law (l : Launch) (Z : State) (a0 : Array Value) (hw : ∀ d ∈ tables_1, d.before a0 Z = true) (ws : List Jvm.Cond) (hEL : EW Z a0 consts_1) (mode : Int32) (pos : Int32) (ch : Int32) (oth : Int32) (va : Addr) (vk : ClassId) (ia : Addr) (sa : Addr) (wi : Addr) (ti : Addr) (wj : Addr) (tj : Addr) (gc : Int32) (h0 : Heap) (n0 : Nat) (Z0 : n0 ≤ h0.size) (S_V : Sta Z Z.heap "com/example/hebelwerk/hebelwerk/model/DividendMethod" "$VALUES" "[Lcom/example/hebelwerk/hebelwerk/model/DividendMethod;" (.ref va)) (V_V : Arv Z Z.heap va vk (.object "com/example/hebelwerk/hebelwerk/model/DividendMethod") (2 : Int32) [.ref ia, .ref sa] .null) (E_V : Exa Z Z.heap va "[Lcom/example/hebelwerk/hebelwerk/model/DividendMethod;") (F_i : Fld Z Z.heap ia "com/example/hebelwerk/hebelwerk/model/DividendMethod" "written" "Ljava/lang/String;" (.ref wi)) (F_j : Fld Z Z.heap sa "com/example/hebelwerk/hebelwerk/model/DividendMethod" "written" "Ljava/lang/String;" (.ref wj)) (S_i : own_Str Z Z.heap wi ti ([(105 : Int32), (110 : Int32), (100 : Int32), (105 : Int32), (118 : Int32), (105 : Int32), (100 : Int32), (117 : Int32), (97 : Int32), (108 : Int32)] : List Int32)) (S_j : own_Str Z Z.heap wj tj ([(115 : Int32), (109 : Int32), (111 : Int32), (111 : Int32), (116 : Int32), (104 : Int32), (101 : Int32), (100 : Int32)] : List Int32)) (S_ia : Sta Z Z.heap "com/example/hebelwerk/hebelwerk/model/DividendMethod" "INDIVIDUAL" "Lcom/example/hebelwerk/hebelwerk/model/DividendMethod;" (.ref ia)) (S_sa : Sta Z Z.heap "com/example/hebelwerk/hebelwerk/model/DividendMethod" "SMOOTHED" "Lcom/example/hebelwerk/hebelwerk/model/DividendMethod;" (.ref sa)) (S_C : Sta Z Z.heap "java/lang/String" "COMPACT_STRINGS" "Z" (.int gc)) (hcs : ¬ gc = 0) (O0 : Old Z n0 h0) :
    MetFree l x (head1 (Jvm.Cond.code x code maxLocals ret :: ws) room_1) (fun a_ U_ => a_ = #[(.int mode), (.int pos), (.int ch), (.int oth)] ∧ Z.Warmed39 U_.vm ∧ U_.heap = h0 ∧ CHv Z consts_1 U_.vm h0) (fun _ _ _ _ _ => True) (fun _ U_ o_ V_ => ∃ v_ L_, o_ = .returned v_ ∧ (Q_rm_law Z mode pos ch oth va vk ia sa wi ti wj tj gc h0 n0) v_ V_.heap L_ ∧ CHr Z consts_1 U_.vm U_.heap V_.vm V_.heap ∧ ReturnedEndW U_ o_ V_ L_ room_1.cells room_1.slots) := by
  refine MetFree.of_bodySF (plainFor_of_name pn_4) hisR ?_
  intro p e s m args below meth c s₁ Bd hml0 hP hK
  obtain ⟨rfl, hZ, hh, CH⟩ := hP
  have hx := Bd.exec
  have hby := Bd.bytes
  have hml : c.maxLocals = 14 := hml0
  have hown : s.vm.findClass "com/example/hebelwerk/hebelwerk/model/DividendMethodWrittenPinLaw" = some m.cls := findClass_of_methodNamed Bd.named
  have hnm := (name_of_methodNamed Bd.named Bd.method).1
  have wS : ∀ a ∈ Bundle.stringAtoms, a.before a0 Z = true := fun d hd => hw d ((by decide +kernel : ∀ d ∈ Bundle.stringAtoms, d ∈ tables_1) d hd)
  have X0 : Stand p l e room_1 (s.setVm s.vm) m #[(.int mode), (.int pos), (.int ch), (.int oth)] below meth c s₁ [] 0 0 := Stand.of_body Bd
  have e0 : s₁.heap = h0 := by rw [← hh, Bd.state]; rfl
  have N0 := Fr.nil n0
  have K0 : Keep h0 h0 [] := Keep.refl _ _
  replace hZ : Z.Warmed39 (s.setVm s.vm).vm := hZ
  replace hown : (s.setVm s.vm).vm.findClass "com/example/hebelwerk/hebelwerk/model/DividendMethodWrittenPinLaw" = some m.cls := hown
  have hS : s.Since s.vm h0.size := (State.WarmedH.refl s).since _
  have hk : h0.size ≤ h0.size := Nat.le_refl _
  have CR : CHr Z consts_1 s.vm h0 s.vm h0 := CHr.refl CH
  show own_Fin p.tables e below (own_PostW Z consts_1 (Q_rm_law Z mode pos ch oth va vk ia sa wi ti wj tj gc h0 n0) room_1.cells room_1.slots below s) _
  refine own_go (fun _ kk_ => castTop (ef_rm_law m mode pos ch oth va ia sa wi ti wj tj gc) kk_) ?_
  have hws : ∀ d ∈ StrChars.Road.words, d.before a0 Z = true := fun d hd => hw d ((by decide +kernel : ∀ d ∈ StrChars.Road.words, d ∈ tables_1) d hd)
  have heq : ∀ d ∈ StrChars.Road.wordsEq, d.before a0 Z = true := fun d hd => hw d ((by decide +kernel : ∀ d ∈ StrChars.Road.wordsEq, d ∈ tables_1) d hd)
  refine own_go (fun _ kk_ => XS.iloadN X0.here hx rfl (hb hby at_0) rfl kk_) ?_
  refine own_go (fun _ kk_ => XS.bipush X0.here hx rfl (hb hby at_1) kk_) ?_
  show own_Fin p.tables e below _ (s₁.setTop (mkF m 3 #[.val (.int mode), .val (.int pos), .val (.int ch), .val (.int oth), .unset, .unset, .unset, .unset, .unset, .unset, .unset, .unset, .unset, .unset] [(.int (7 : Int32)), (.int mode)]))
  refine own_go (fun _ kk_ => XS.iand X0.here hx rfl (hb hby at_3) rfl kk_) ?_
  refine own_go (fun _ kk_ => XS.istore X0.here hx rfl (hb hby at_4) rfl (l' := #[.val (.int mode), .val (.int pos), .val (.int ch), .val (.int oth), .val (.int (mode &&& (7 : Int32))), .unset, .unset, .unset, .unset, .unset, .unset, .unset, .unset, .unset]) rfl kk_) ?_
  refine own_go (fun _ kk_ => XS.iloadN X0.here hx rfl (hb hby at_6) rfl kk_) ?_
  refine own_go (fun _ kk_ => XS.bipush X0.here hx rfl (hb hby at_7) kk_) ?_
  show own_Fin p.tables e below _ (s₁.setTop (mkF m 9 #[.val (.int mode), .val (.int pos), .val (.int ch), .val (.int oth), .val (.int (mode &&& (7 : Int32))), .unset, .unset, .unset, .unset, .unset, .unset, .unset, .unset, .unset] [(.int (8 : Int32)), (.int mode)]))
  refine own_go (fun _ kk_ => XS.iand X0.here hx rfl (hb hby at_9) rfl kk_) ?_
  show own_Fin p.tables e below _ (s₁.setTop (mkF m 10 #[.val (.int mode), .val (.int pos), .val (.int ch), .val (.int oth), .val (.int (mode &&& (7 : Int32))), .unset, .unset, .unset, .unset, .unset, .unset, .unset, .unset, .unset] [(.int (mode &&& (8 : Int32)))]))
  by_cases hc36 : (mode &&& (8 : Int32)) = (0 : Int32)
  · skip
    refine own_go (fun _ kk_ => XS.ifYes X0.here hx rfl (pc0 := 10) (pc' := 17) rfl (hb hby at_10) rfl ((if0 _ _).trans (teq hc36).1) (by decide) (by decide) kk_) ?_
    refine own_go (fun _ kk_ => XS.iconst X0.here hx rfl (hb hby at_17) kk_) ?_
    refine own_go (fun _ kk_ => XS.istore X0.here hx rfl (hb hby at_18) rfl (l' := #[.val (.int mode), .val (.int pos), .val (.int ch), .val (.int oth), .val (.int (mode &&& (7 : Int32))), .val (.int (0 : Int32)), .unset, .unset, .unset, .unset, .unset, .unset, .unset, .unset]) rfl kk_) ?_
    refine own_go (fun _ kk_ => XS.iloadN X0.here hx rfl (hb hby at_20) rfl kk_) ?_
    refine own_go (fun _ kk_ => XS.sipush X0.here hx rfl (hb hby at_21) kk_) ?_
    show own_Fin p.tables e below _ (s₁.setTop (mkF m 24 #[.val (.int mode), .val (.int pos), .val (.int ch), .val (.int oth), .val (.int (mode &&& (7 : Int32))), .val (.int (0 : Int32)), .unset, .unset, .unset, .unset, .unset, .unset, .unset, .unset] [(.int (255 : Int32)), (.int ch)]))
    refine own_go (fun _ kk_ => XS.iand X0.here hx rfl (hb hby at_24) rfl kk_) ?_
    show own_Fin p.tables e below _ (s₁.setTop (mkF m 25 #[.val (.int mode), .val (.int pos), .val (.int ch), .val (.int oth), .val (.int (mode &&& (7 : Int32))), .val (.int (0 : Int32)), .unset, .unset, .unset, .unset, .unset, .unset, .unset, .unset] [(.int (ch &&& (255 : Int32)))]))
    refine own_go (fun _ kk_ => XS.i2c X0.here hx rfl (hb hby at_25) rfl kk_) ?_
    rw [i2c_mask]
    refine own_go (fun _ kk_ => XS.istore X0.here hx rfl (hb hby at_26) rfl (l' := #[.val (.int mode), .val (.int pos), .val (.int ch), .val (.int oth), .val (.int (mode &&& (7 : Int32))), .val (.int (0 : Int32)), .val (.int (ch &&& (255 : Int32))), .unset, .unset, .unset, .unset, .unset, .unset, .unset]) rfl kk_) ?_
    show own_Fin p.tables e below _ (s₁.setTop (mkF m 28 #[.val (.int mode), .val (.int pos), .val (.int ch), .val (.int oth), .val (.int (mode &&& (7 : Int32))), .val (.int (0 : Int32)), .val (.int (ch &&& (255 : Int32))), .unset, .unset, .unset, .unset, .unset, .unset, .unset] []))
    have tail : ∀ cz : Int32, own_Fin p.tables e below (own_PostW Z consts_1 (Q_rm_law Z mode pos ch oth va vk ia sa wi ti wj tj gc h0 n0) room_1.cells room_1.slots below s) (s₁.setTop (mkF m 41 #[.val (.int mode), .val (.int pos), .val (.int ch), .val (.int oth), .val (.int (mode &&& (7 : Int32))), .val (.int (0 : Int32)), .val (.int (ch &&& (255 : Int32))), .unset, .unset, .unset, .unset, .unset, .unset, .unset] [(.int cz)])) := by
      intro cz
      refine own_go (fun _ kk_ => XS.istore X0.here hx rfl (hb hby at_41) rfl (l' := #[.val (.int mode), .val (.int pos), .val (.int ch), .val (.int oth), .val (.int (mode &&& (7 : Int32))), .val (.int (0 : Int32)), .val (.int (ch &&& (255 : Int32))), .val (.int cz), .unset, .unset, .unset, .unset, .unset, .unset]) rfl kk_) ?_
      refine own_go (fun _ kk_ => XS.iload X0.here hx rfl (hb hby at_43) rfl kk_) ?_
      show own_Fin p.tables e below _ (s₁.setTop (mkF m 45 #[.val (.int mode), .val (.int pos), .val (.int ch), .val (.int oth), .val (.int (mode &&& (7 : Int32))), .val (.int (0 : Int32)), .val (.int (ch &&& (255 : Int32))), .val (.int cz), .unset, .unset, .unset, .unset, .unset, .unset] [(.int (0 : Int32))]))
      refine own_go (fun _ kk_ => XS.ifYes X0.here hx rfl (pc0 := 45) (pc' := 97) rfl (hb hby at_45) rfl ((if0 _ _).trans (teq (by decide : (0 : Int32) = (0 : Int32))).1) (by decide) (by decide) kk_) ?_
      refine own_go (fun _ kk_ => XS.bipush X0.here hx rfl (hb hby at_97) kk_) ?_
      show own_Fin p.tables e below _ (s₁.setTop (mkF m 99 #[.val (.int mode), .val (.int pos), .val (.int ch), .val (.int oth), .val (.int (mode &&& (7 : Int32))), .val (.int (0 : Int32)), .val (.int (ch &&& (255 : Int32))), .val (.int cz), .unset, .unset, .unset, .unset, .unset, .unset] [(.int (10 : Int32))]))
      obtain ⟨T37, h37, k37, X37, e37, E37, A37, st37⟩ := newP X0 hx hZ (hw _ (List.mem_of_getElem? (i := 0) rfl)) e0 (g := (mkF m 99 #[.val (.int mode), .val (.int pos), .val (.int ch), .val (.int oth), .val (.int (mode &&& (7 : Int32))), .val (.int (0 : Int32)), .val (.int (ch &&& (255 : Int32))), .val (.int cz), .unset, .unset, .unset, .unset, .unset, .unset] [(.int (10 : Int32))])) rfl (hb hby at_99) rfl (by decide) (cap := 10) (by decide) (by decide) (by decide) (by decide)
      obtain ⟨b37, g37⟩ : ∃ z, z = h0.size := ⟨_, rfl⟩
      rw [← g37] at A37 st37
      have sz_b37 : h0.size ≤ b37 := Nat.le_trans K0.1 (Nat.le_of_eq g37.symm)
      have g_b37 : n0 ≤ b37 := Nat.le_trans Z0 sz_b37
      have ne38 : va ≠ b37 := O0.ne V_V.lt g_b37
      have ne39 : ia ≠ b37 := O0.ne F_i.lt g_b37
      have ne40 : sa ≠ b37 := O0.ne F_j.lt g_b37
      have ne41 : wi ≠ b37 := O0.ne S_i.lt g_b37
      have ne42 : ti ≠ b37 := O0.ne S_i.ltt g_b37
      have ne43 : wj ≠ b37 := O0.ne S_j.lt g_b37
      have ne44 : tj ≠ b37 := O0.ne S_j.ltt g_b37
      have S_b37 := Safe.new (Z := Z) (EL := consts_1) (vm := s.vm) (Nat.le_of_eq g37.symm)
      replace S_b37 := Safe.ext E37 CH S_b37
      replace CR := CR.trans (CHr.ext E37 CH)
      replace CH := CH.ext E37
      replace hk := Nat.le_trans hk E37.1
      replace O0 := O0.ext E37
      have K45 := K0.ext E37
      have V37 : Arv Z h37 b37 k37 .char (10 : Int32) [(.int (0 : Int32)), (.int (0 : Int32)), (.int (0 : Int32)), (.int (0 : Int32)), (.int (0 : Int32)), (.int (0 : Int32)), (.int (0 : Int32)), (.int (0 : Int32)), (.int (0 : Int32)), (.int (0 : Int32))] (.int (0 : Int32)) := (Arv.new A37 (by decide)).pad (pad_rep [] (.int (0 : Int32)) 10)
      refine own_go st37 ?_
      refine own_go (fun _ kk_ => XS.dup X37.here hx rfl (hb hby at_101) rfl rfl kk_) ?_
      refine own_go (fun _ kk_ => XS.iconst X37.here hx rfl (hb hby at_102) kk_) ?_
      refine own_go (fun _ kk_ => XS.bipush X37.here hx rfl (hb hby at_103) kk_) ?_
      show own_Fin p.tables e below _ (T37.setTop (mkF m 105 #[.val (.int mode), .val (.int pos), .val (.int ch), .val (.int oth), .val (.int (mode &&& (7 : Int32))), .val (.int (0 : Int32)), .val (.int (ch &&& (255 : Int32))), .val (.int cz), .unset, .unset, .unset, .unset, .unset, .unset] [(.int (105 : Int32)), (.int (0 : Int32)), (.ref b37), (.ref b37)]))
      obtain ⟨T46, h46, X46, e46, W46, V46, st46⟩ := own_stC X37 hx hZ e37 V37 (by decide) (i := 0) rfl (Nat.le_of_ble_eq_true rfl) (g := (mkF m 105 #[.val (.int mode), .val (.int pos), .val (.int ch), .val (.int oth), .val (.int (mode &&& (7 : Int32))), .val (.int (0 : Int32)), .val (.int (ch &&& (255 : Int32))), .val (.int cz), .unset, .unset, .unset, .unset, .unset, .unset] [(.int (105 : Int32)), (.int (0 : Int32)), (.ref b37), (.ref b37)])) rfl rfl (hb hby at_105)
      replace V37 : Arv Z h46 b37 k37 .char (10 : Int32) [(.int (105 : Int32)), (.int (0 : Int32)), (.int (0 : Int32)), (.int (0 : Int32)), (.int (0 : Int32)), (.int (0 : Int32)), (.int (0 : Int32)), (.int (0 : Int32)), (.int (0 : Int32)), (.int (0 : Int32))] (.int (0 : Int32)) := V46
      have N46 := Fr.snoc X46 N0 g_b37
      refine own_go st46 ?_
      have sa47 := S_b37
      replace S_b37 := Safe.wr W46 sa47 CH S_b37
      replace CR := CR.trans (CHr.wr W46 sa47 CH)
      replace CH := CHv.wr W46 sa47 CH
      replace hk := Nat.le_trans hk (Keep.of_wr W46).1
      replace O0 := O0.wr W46 g_b37
      have K48 := K45.wr W46 (Or.inr sz_b37)
      refine own_go (fun _ kk_ => XS.dup X46.here hx rfl (hb hby at_106) rfl rfl kk_) ?_
      refine own_go (fun _ kk_ => XS.iconst X46.here hx rfl (hb hby at_107) kk_) ?_
      refine own_go (fun _ kk_ => XS.bipush X46.here hx rfl (hb hby at_108) kk_) ?_
      show own_Fin p.tables e below _ (T46.setTop (mkF m 110 #[.val (.int mode), .val (.int pos), .val (.int ch), .val (.int oth), .val (.int (mode &&& (7 : Int32))), .val (.int (0 : Int32)), .val (.int (ch &&& (255 : Int32))), .val (.int cz), .unset, .unset, .unset, .unset, .unset, .unset] [(.int (110 : Int32)), (.int (1 : Int32)), (.ref b37), (.ref b37)]))
      obtain ⟨T49, h49, X49, e49, W49, V49, st49⟩ := own_stC X46 hx hZ e46 V37 (by decide) (i := 1) rfl (Nat.le_of_ble_eq_true rfl) (g := (mkF m 110 #[.val (.int mode), .val (.int pos), .val (.int ch), .val (.int oth), .val (.int (mode &&& (7 : Int32))), .val (.int (0 : Int32)), .val (.int (ch &&& (255 : Int32))), .val (.int cz), .unset, .unset, .unset, .unset, .unset, .unset] [(.int (110 : Int32)), (.int (1 : Int32)), (.ref b37), (.ref b37)])) rfl rfl (hb hby at_110)
      replace V37 : Arv Z h49 b37 k37 .char (10 : Int32) [(.int (105 : Int32)), (.int (110 : Int32)), (.int (0 : Int32)), (.int (0 : Int32)), (.int (0 : Int32)), (.int (0 : Int32)), (.int (0 : Int32)), (.int (0 : Int32)), (.int (0 : Int32)), (.int (0 : Int32))] (.int (0 : Int32)) := V49
      have N49 := Fr.snoc X49 N46 g_b37
      refine own_go st49 ?_
      have sa50 := S_b37
      replace S_b37 := Safe.wr W49 sa50 CH S_b37
      replace CR := CR.trans (CHr.wr W49 sa50 CH)
      replace CH := CHv.wr W49 sa50 CH
      replace hk := Nat.le_trans hk (Keep.of_wr W49).1
      replace O0 := O0.wr W49 g_b37
      have K51 := K48.wr W49 (Or.inr sz_b37)
      refine own_go (fun _ kk_ => XS.dup X49.here hx rfl (hb hby at_111) rfl rfl kk_) ?_
      refine own_go (fun _ kk_ => XS.iconst X49.here hx rfl (hb hby at_112) kk_) ?_
      refine own_go (fun _ kk_ => XS.bipush X49.here hx rfl (hb hby at_113) kk_) ?_
      show own_Fin p.tables e below _ (T49.setTop (mkF m 115 #[.val (.int mode), .val (.int pos), .val (.int ch), .val (.int oth), .val (.int (mode &&& (7 : Int32))), .val (.int (0 : Int32)), .val (.int (ch &&& (255 : Int32))), .val (.int cz), .unset, .unset, .unset, .unset, .unset, .unset] [(.int (100 : Int32)), (.int (2 : Int32)), (.ref b37), (.ref b37)]))
      obtain ⟨T52, h52, X52, e52, W52, V52, st52⟩ := own_stC X49 hx hZ e49 V37 (by decide) (i := 2) rfl (Nat.le_of_ble_eq_true rfl) (g := (mkF m 115 #[.val (.int mode), .val (.int pos), .val (.int ch), .val (.int oth), .val (.int (mode &&& (7 : Int32))), .val (.int (0 : Int32)), .val (.int (ch &&& (255 : Int32))), .val (.int cz), .unset, .unset, .unset, .unset, .unset, .unset] [(.int (100 : Int32)), (.int (2 : Int32)), (.ref b37), (.ref b37)])) rfl rfl (hb hby at_115)
      replace V37 : Arv Z h52 b37 k37 .char (10 : Int32) [(.int (105 : Int32)), (.int (110 : Int32)), (.int (100 : Int32)), (.int (0 : Int32)), (.int (0 : Int32)), (.int (0 : Int32)), (.int (0 : Int32)), (.int (0 : Int32)), (.int (0 : Int32)), (.int (0 : Int32))] (.int (0 : Int32)) := V52
      have N52 := Fr.snoc X52 N49 g_b37
      refine own_go st52 ?_
      have sa53 := S_b37
      replace S_b37 := Safe.wr W52 sa53 CH S_b37
      replace CR := CR.trans (CHr.wr W52 sa53 CH)
      replace CH := CHv.wr W52 sa53 CH
      replace hk := Nat.le_trans hk (Keep.of_wr W52).1
      replace O0 := O0.wr W52 g_b37
      have K54 := K51.wr W52 (Or.inr sz_b37)
      refine own_go (fun _ kk_ => XS.dup X52.here hx rfl (hb hby at_116) rfl rfl kk_) ?_
      refine own_go (fun _ kk_ => XS.iconst X52.here hx rfl (hb hby at_117) kk_) ?_
      refine own_go (fun _ kk_ => XS.bipush X52.here hx rfl (hb hby at_118) kk_) ?_
      show own_Fin p.tables e below _ (T52.setTop (mkF m 120 #[.val (.int mode), .val (.int pos), .val (.int ch), .val (.int oth), .val (.int (mode &&& (7 : Int32))), .val (.int (0 : Int32)), .val (.int (ch &&& (255 : Int32))), .val (.int cz), .unset, .unset, .unset, .unset, .unset, .unset] [(.int (105 : Int32)), (.int (3 : Int32)), (.ref b37), (.ref b37)]))
      obtain ⟨T55, h55, X55, e55, W55, V55, st55⟩ := own_stC X52 hx hZ e52 V37 (by decide) (i := 3) rfl (Nat.le_of_ble_eq_true rfl) (g := (mkF m 120 #[.val (.int mode), .val (.int pos), .val (.int ch), .val (.int oth), .val (.int (mode &&& (7 : Int32))), .val (.int (0 : Int32)), .val (.int (ch &&& (255 : Int32))), .val (.int cz), .unset, .unset, .unset, .unset, .unset, .unset] [(.int (105 : Int32)), (.int (3 : Int32)), (.ref b37), (.ref b37)])) rfl rfl (hb hby at_120)
      replace V37 : Arv Z h55 b37 k37 .char (10 : Int32) [(.int (105 : Int32)), (.int (110 : Int32)), (.int (100 : Int32)), (.int (105 : Int32)), (.int (0 : Int32)), (.int (0 : Int32)), (.int (0 : Int32)), (.int (0 : Int32)), (.int (0 : Int32)), (.int (0 : Int32))] (.int (0 : Int32)) := V55
      have N55 := Fr.snoc X55 N52 g_b37
      refine own_go st55 ?_
      have sa56 := S_b37
      replace S_b37 := Safe.wr W55 sa56 CH S_b37
      replace CR := CR.trans (CHr.wr W55 sa56 CH)
      replace CH := CHv.wr W55 sa56 CH
      replace hk := Nat.le_trans hk (Keep.of_wr W55).1
      replace O0 := O0.wr W55 g_b37
      have K57 := K54.wr W55 (Or.inr sz_b37)
      refine own_go (fun _ kk_ => XS.dup X55.here hx rfl (hb hby at_121) rfl rfl kk_) ?_
      refine own_go (fun _ kk_ => XS.iconst X55.here hx rfl (hb hby at_122) kk_) ?_
      refine own_go (fun _ kk_ => XS.bipush X55.here hx rfl (hb hby at_123) kk_) ?_
      show own_Fin p.tables e below _ (T55.setTop (mkF m 125 #[.val (.int mode), .val (.int pos), .val (.int ch), .val (.int oth), .val (.int (mode &&& (7 : Int32))), .val (.int (0 : Int32)), .val (.int (ch &&& (255 : Int32))), .val (.int cz), .unset, .unset, .unset, .unset, .unset, .unset] [(.int (118 : Int32)), (.int (4 : Int32)), (.ref b37), (.ref b37)]))
      obtain ⟨T58, h58, X58, e58, W58, V58, st58⟩ := own_stC X55 hx hZ e55 V37 (by decide) (i := 4) rfl (Nat.le_of_ble_eq_true rfl) (g := (mkF m 125 #[.val (.int mode), .val (.int pos), .val (.int ch), .val (.int oth), .val (.int (mode &&& (7 : Int32))), .val (.int (0 : Int32)), .val (.int (ch &&& (255 : Int32))), .val (.int cz), .unset, .unset, .unset, .unset, .unset, .unset] [(.int (118 : Int32)), (.int (4 : Int32)), (.ref b37), (.ref b37)])) rfl rfl (hb hby at_125)
      replace V37 : Arv Z h58 b37 k37 .char (10 : Int32) [(.int (105 : Int32)), (.int (110 : Int32)), (.int (100 : Int32)), (.int (105 : Int32)), (.int (118 : Int32)), (.int (0 : Int32)), (.int (0 : Int32)), (.int (0 : Int32)), (.int (0 : Int32)), (.int (0 : Int32))] (.int (0 : Int32)) := V58
      have N58 := Fr.snoc X58 N55 g_b37
      refine own_go st58 ?_
      have sa59 := S_b37
      replace S_b37 := Safe.wr W58 sa59 CH S_b37
      replace CR := CR.trans (CHr.wr W58 sa59 CH)
      replace CH := CHv.wr W58 sa59 CH
      replace hk := Nat.le_trans hk (Keep.of_wr W58).1
      replace O0 := O0.wr W58 g_b37
      have K60 := K57.wr W58 (Or.inr sz_b37)
      refine own_go (fun _ kk_ => XS.dup X58.here hx rfl (hb hby at_126) rfl rfl kk_) ?_
      refine own_go (fun _ kk_ => XS.iconst X58.here hx rfl (hb hby at_127) kk_) ?_
      refine own_go (fun _ kk_ => XS.bipush X58.here hx rfl (hb hby at_128) kk_) ?_
      show own_Fin p.tables e below _ (T58.setTop (mkF m 130 #[.val (.int mode), .val (.int pos), .val (.int ch), .val (.int oth), .val (.int (mode &&& (7 : Int32))), .val (.int (0 : Int32)), .val (.int (ch &&& (255 : Int32))), .val (.int cz), .unset, .unset, .unset, .unset, .unset, .unset] [(.int (105 : Int32)), (.int (5 : Int32)), (.ref b37), (.ref b37)]))
      obtain ⟨T61, h61, X61, e61, W61, V61, st61⟩ := own_stC X58 hx hZ e58 V37 (by decide) (i := 5) rfl (Nat.le_of_ble_eq_true rfl) (g := (mkF m 130 #[.val (.int mode), .val (.int pos), .val (.int ch), .val (.int oth), .val (.int (mode &&& (7 : Int32))), .val (.int (0 : Int32)), .val (.int (ch &&& (255 : Int32))), .val (.int cz), .unset, .unset, .unset, .unset, .unset, .unset] [(.int (105 : Int32)), (.int (5 : Int32)), (.ref b37), (.ref b37)])) rfl rfl (hb hby at_130)
      replace V37 : Arv Z h61 b37 k37 .char (10 : Int32) [(.int (105 : Int32)), (.int (110 : Int32)), (.int (100 : Int32)), (.int (105 : Int32)), (.int (118 : Int32)), (.int (105 : Int32)), (.int (0 : Int32)), (.int (0 : Int32)), (.int (0 : Int32)), (.int (0 : Int32))] (.int (0 : Int32)) := V61
      have N61 := Fr.snoc X61 N58 g_b37
      refine own_go st61 ?_
      have sa62 := S_b37
      replace S_b37 := Safe.wr W61 sa62 CH S_b37
      replace CR := CR.trans (CHr.wr W61 sa62 CH)
      replace CH := CHv.wr W61 sa62 CH
      replace hk := Nat.le_trans hk (Keep.of_wr W61).1
      replace O0 := O0.wr W61 g_b37
      have K63 := K60.wr W61 (Or.inr sz_b37)
      refine own_go (fun _ kk_ => XS.dup X61.here hx rfl (hb hby at_131) rfl rfl kk_) ?_
      refine own_go (fun _ kk_ => XS.bipush X61.here hx rfl (hb hby at_132) kk_) ?_
      refine own_go (fun _ kk_ => XS.bipush X61.here hx rfl (hb hby at_134) kk_) ?_
      show own_Fin p.tables e below _ (T61.setTop (mkF m 136 #[.val (.int mode), .val (.int pos), .val (.int ch), .val (.int oth), .val (.int (mode &&& (7 : Int32))), .val (.int (0 : Int32)), .val (.int (ch &&& (255 : Int32))), .val (.int cz), .unset, .unset, .unset, .unset, .unset, .unset] [(.int (100 : Int32)), (.int (6 : Int32)), (.ref b37), (.ref b37)]))
      obtain ⟨T64, h64, X64, e64, W64, V64, st64⟩ := own_stC X61 hx hZ e61 V37 (by decide) (i := 6) rfl (Nat.le_of_ble_eq_true rfl) (g := (mkF m 136 #[.val (.int mode), .val (.int pos), .val (.int ch), .val (.int oth), .val (.int (mode &&& (7 : Int32))), .val (.int (0 : Int32)), .val (.int (ch &&& (255 : Int32))), .val (.int cz), .unset, .unset, .unset, .unset, .unset, .unset] [(.int (100 : Int32)), (.int (6 : Int32)), (.ref b37), (.ref b37)])) rfl rfl (hb hby at_136)
      replace V37 : Arv Z h64 b37 k37 .char (10 : Int32) [(.int (105 : Int32)), (.int (110 : Int32)), (.int (100 : Int32)), (.int (105 : Int32)), (.int (118 : Int32)), (.int (105 : Int32)), (.int (100 : Int32)), (.int (0 : Int32)), (.int (0 : Int32)), (.int (0 : Int32))] (.int (0 : Int32)) := V64
      have N64 := Fr.snoc X64 N61 g_b37
      refine own_go st64 ?_
      have sa65 := S_b37
      replace S_b37 := Safe.wr W64 sa65 CH S_b37
      replace CR := CR.trans (CHr.wr W64 sa65 CH)
      replace CH := CHv.wr W64 sa65 CH
      replace hk := Nat.le_trans hk (Keep.of_wr W64).1
      replace O0 := O0.wr W64 g_b37
      have K66 := K63.wr W64 (Or.inr sz_b37)
      refine own_go (fun _ kk_ => XS.dup X64.here hx rfl (hb hby at_137) rfl rfl kk_) ?_
      refine own_go (fun _ kk_ => XS.bipush X64.here hx rfl (hb hby at_138) kk_) ?_
      refine own_go (fun _ kk_ => XS.bipush X64.here hx rfl (hb hby at_140) kk_) ?_
      show own_Fin p.tables e below _ (T64.setTop (mkF m 142 #[.val (.int mode), .val (.int pos), .val (.int ch), .val (.int oth), .val (.int (mode &&& (7 : Int32))), .val (.int (0 : Int32)), .val (.int (ch &&& (255 : Int32))), .val (.int cz), .unset, .unset, .unset, .unset, .unset, .unset] [(.int (117 : Int32)), (.int (7 : Int32)), (.ref b37), (.ref b37)]))
      obtain ⟨T67, h67, X67, e67, W67, V67, st67⟩ := own_stC X64 hx hZ e64 V37 (by decide) (i := 7) rfl (Nat.le_of_ble_eq_true rfl) (g := (mkF m 142 #[.val (.int mode), .val (.int pos), .val (.int ch), .val (.int oth), .val (.int (mode &&& (7 : Int32))), .val (.int (0 : Int32)), .val (.int (ch &&& (255 : Int32))), .val (.int cz), .unset, .unset, .unset, .unset, .unset, .unset] [(.int (117 : Int32)), (.int (7 : Int32)), (.ref b37), (.ref b37)])) rfl rfl (hb hby at_142)
      replace V37 : Arv Z h67 b37 k37 .char (10 : Int32) [(.int (105 : Int32)), (.int (110 : Int32)), (.int (100 : Int32)), (.int (105 : Int32)), (.int (118 : Int32)), (.int (105 : Int32)), (.int (100 : Int32)), (.int (117 : Int32)), (.int (0 : Int32)), (.int (0 : Int32))] (.int (0 : Int32)) := V67
      have N67 := Fr.snoc X67 N64 g_b37
      refine own_go st67 ?_
      have sa68 := S_b37
      replace S_b37 := Safe.wr W67 sa68 CH S_b37
      replace CR := CR.trans (CHr.wr W67 sa68 CH)
      replace CH := CHv.wr W67 sa68 CH
      replace hk := Nat.le_trans hk (Keep.of_wr W67).1
      replace O0 := O0.wr W67 g_b37
      have K69 := K66.wr W67 (Or.inr sz_b37)
      refine own_go (fun _ kk_ => XS.dup X67.here hx rfl (hb hby at_143) rfl rfl kk_) ?_
      refine own_go (fun _ kk_ => XS.bipush X67.here hx rfl (hb hby at_144) kk_) ?_
      refine own_go (fun _ kk_ => XS.bipush X67.here hx rfl (hb hby at_146) kk_) ?_
      show own_Fin p.tables e below _ (T67.setTop (mkF m 148 #[.val (.int mode), .val (.int pos), .val (.int ch), .val (.int oth), .val (.int (mode &&& (7 : Int32))), .val (.int (0 : Int32)), .val (.int (ch &&& (255 : Int32))), .val (.int cz), .unset, .unset, .unset, .unset, .unset, .unset] [(.int (97 : Int32)), (.int (8 : Int32)), (.ref b37), (.ref b37)]))
      obtain ⟨T70, h70, X70, e70, W70, V70, st70⟩ := own_stC X67 hx hZ e67 V37 (by decide) (i := 8) rfl (Nat.le_of_ble_eq_true rfl) (g := (mkF m 148 #[.val (.int mode), .val (.int pos), .val (.int ch), .val (.int oth), .val (.int (mode &&& (7 : Int32))), .val (.int (0 : Int32)), .val (.int (ch &&& (255 : Int32))), .val (.int cz), .unset, .unset, .unset, .unset, .unset, .unset] [(.int (97 : Int32)), (.int (8 : Int32)), (.ref b37), (.ref b37)])) rfl rfl (hb hby at_148)
      replace V37 : Arv Z h70 b37 k37 .char (10 : Int32) [(.int (105 : Int32)), (.int (110 : Int32)), (.int (100 : Int32)), (.int (105 : Int32)), (.int (118 : Int32)), (.int (105 : Int32)), (.int (100 : Int32)), (.int (117 : Int32)), (.int (97 : Int32)), (.int (0 : Int32))] (.int (0 : Int32)) := V70
      have N70 := Fr.snoc X70 N67 g_b37
      refine own_go st70 ?_
      have sa71 := S_b37
      replace S_b37 := Safe.wr W70 sa71 CH S_b37
      replace CR := CR.trans (CHr.wr W70 sa71 CH)
      replace CH := CHv.wr W70 sa71 CH
      replace hk := Nat.le_trans hk (Keep.of_wr W70).1
      replace O0 := O0.wr W70 g_b37
      have K72 := K69.wr W70 (Or.inr sz_b37)
      refine own_go (fun _ kk_ => XS.dup X70.here hx rfl (hb hby at_149) rfl rfl kk_) ?_
      refine own_go (fun _ kk_ => XS.bipush X70.here hx rfl (hb hby at_150) kk_) ?_
      refine own_go (fun _ kk_ => XS.bipush X70.here hx rfl (hb hby at_152) kk_) ?_
      show own_Fin p.tables e below _ (T70.setTop (mkF m 154 #[.val (.int mode), .val (.int pos), .val (.int ch), .val (.int oth), .val (.int (mode &&& (7 : Int32))), .val (.int (0 : Int32)), .val (.int (ch &&& (255 : Int32))), .val (.int cz), .unset, .unset, .unset, .unset, .unset, .unset] [(.int (108 : Int32)), (.int (9 : Int32)), (.ref b37), (.ref b37)]))
      obtain ⟨T73, h73, X73, e73, W73, V73, st73⟩ := own_stC X70 hx hZ e70 V37 (by decide) (i := 9) rfl (Nat.le_of_ble_eq_true rfl) (g := (mkF m 154 #[.val (.int mode), .val (.int pos), .val (.int ch), .val (.int oth), .val (.int (mode &&& (7 : Int32))), .val (.int (0 : Int32)), .val (.int (ch &&& (255 : Int32))), .val (.int cz), .unset, .unset, .unset, .unset, .unset, .unset] [(.int (108 : Int32)), (.int (9 : Int32)), (.ref b37), (.ref b37)])) rfl rfl (hb hby at_154)
      replace V37 : Arv Z h73 b37 k37 .char (10 : Int32) [(.int (105 : Int32)), (.int (110 : Int32)), (.int (100 : Int32)), (.int (105 : Int32)), (.int (118 : Int32)), (.int (105 : Int32)), (.int (100 : Int32)), (.int (117 : Int32)), (.int (97 : Int32)), (.int (108 : Int32))] (.int (0 : Int32)) := V73
      have N73 := Fr.snoc X73 N70 g_b37
      refine own_go st73 ?_
      have sa74 := S_b37
      replace S_b37 := Safe.wr W73 sa74 CH S_b37
      replace CR := CR.trans (CHr.wr W73 sa74 CH)
      replace CH := CHv.wr W73 sa74 CH
      replace hk := Nat.le_trans hk (Keep.of_wr W73).1
      replace O0 := O0.wr W73 g_b37
      have K75 := K72.wr W73 (Or.inr sz_b37)
      refine own_go (fun _ kk_ => XS.astore X73.here hx rfl (hb hby at_155) rfl rfl (l' := #[.val (.int mode), .val (.int pos), .val (.int ch), .val (.int oth), .val (.int (mode &&& (7 : Int32))), .val (.int (0 : Int32)), .val (.int (ch &&& (255 : Int32))), .val (.int cz), .val (.ref b37), .unset, .unset, .unset, .unset, .unset]) rfl kk_) ?_
      refine own_go (fun _ kk_ => XS.iload X73.here hx rfl (hb hby at_157) rfl kk_) ?_
      show own_Fin p.tables e below _ (T73.setTop (mkF m 159 #[.val (.int mode), .val (.int pos), .val (.int ch), .val (.int oth), .val (.int (mode &&& (7 : Int32))), .val (.int (0 : Int32)), .val (.int (ch &&& (255 : Int32))), .val (.int cz), .val (.ref b37), .unset, .unset, .unset, .unset, .unset] [(.int (0 : Int32))]))
      refine own_go (fun _ kk_ => XS.ifYes X73.here hx rfl (pc0 := 159) (pc' := 168) rfl (hb hby at_159) rfl ((if0 _ _).trans (teq (by decide : (0 : Int32) = (0 : Int32))).1) (by decide) (by decide) kk_) ?_
      show own_Fin p.tables e below _ (T73.setTop (mkF m 168 #[.val (.int mode), .val (.int pos), .val (.int ch), .val (.int oth), .val (.int (mode &&& (7 : Int32))), .val (.int (0 : Int32)), .val (.int (ch &&& (255 : Int32))), .val (.int cz), .val (.ref b37), .unset, .unset, .unset, .unset, .unset] []))
      obtain ⟨T76, X76, e76, st76⟩ := getS2 X73 hx hZ hown (host := "") (Or.inl (hw _ (List.mem_of_getElem? (i := 1) rfl))) Via.refl e73 (S_ia.ext O0.2) (g := (mkF m 168 #[.val (.int mode), .val (.int pos), .val (.int ch), .val (.int oth), .val (.int (mode &&& (7 : Int32))), .val (.int (0 : Int32)), .val (.int (ch &&& (255 : Int32))), .val (.int cz), .val (.ref b37), .unset, .unset, .unset, .unset, .unset] [])) rfl (hb hby at_168)
      refine own_go st76 ?_
      refine own_go (fun _ kk_ => XS.astore X76.here hx rfl (hb hby at_171) rfl rfl (l' := #[.val (.int mode), .val (.int pos), .val (.int ch), .val (.int oth), .val (.int (mode &&& (7 : Int32))), .val (.int (0 : Int32)), .val (.int (ch &&& (255 : Int32))), .val (.int cz), .val (.ref b37), .val (.ref ia), .unset, .unset, .unset, .unset]) rfl kk_) ?_
      refine own_go (fun _ kk_ => XS.iloadN X76.here hx rfl (hb hby at_173) rfl kk_) ?_
      show own_Fin p.tables e below _ (T76.setTop (mkF m 174 #[.val (.int mode), .val (.int pos), .val (.int ch), .val (.int oth), .val (.int (mode &&& (7 : Int32))), .val (.int (0 : Int32)), .val (.int (ch &&& (255 : Int32))), .val (.int cz), .val (.ref b37), .val (.ref ia), .unset, .unset, .unset, .unset] [(.int pos)]))
      refine own_go (fun _ kk_ => Jvm.Stand.ldcI X76 hx hown (mvT hZ (hw _ (List.mem_of_getElem? (i := 4) rfl))) (g := (mkF m 174 #[.val (.int mode), .val (.int pos), .val (.int ch), .val (.int oth), .val (.int (mode &&& (7 : Int32))), .val (.int (0 : Int32)), .val (.int (ch &&& (255 : Int32))), .val (.int cz), .val (.ref b37), .val (.ref ia), .unset, .unset, .unset, .unset] [(.int pos)])) rfl (hb hby at_174) kk_) ?_
      show own_Fin p.tables e below _ (T76.setTop (mkF m 176 #[.val (.int mode), .val (.int pos), .val (.int ch), .val (.int oth), .val (.int (mode &&& (7 : Int32))), .val (.int (0 : Int32)), .val (.int (ch &&& (255 : Int32))), .val (.int cz), .val (.ref b37), .val (.ref ia), .unset, .unset, .unset, .unset] [(.int (2147483647 : Int32)), (.int pos)]))
      refine own_go (fun _ kk_ => XS.iand X76.here hx rfl (hb hby at_176) rfl kk_) ?_
      refine own_go (fun _ kk_ => XS.aload X76.here hx rfl (hb hby at_177) rfl rfl kk_) ?_
      show own_Fin p.tables e below _ (T76.setTop (mkF m 179 #[.val (.int mode), .val (.int pos), .val (.int ch), .val (.int oth), .val (.int (mode &&& (7 : Int32))), .val (.int (0 : Int32)), .val (.int (ch &&& (255 : Int32))), .val (.int cz), .val (.ref b37), .val (.ref ia), .unset, .unset, .unset, .unset] [(.ref b37), (.int (pos &&& (2147483647 : Int32)))]))
      refine own_go (fun _ kk_ => own_alen X76 hx hZ e76 V37 (g := (mkF m 179 #[.val (.int mode), .val (.int pos), .val (.int ch), .val (.int oth), .val (.int (mode &&& (7 : Int32))), .val (.int (0 : Int32)), .val (.int (ch &&& (255 : Int32))), .val (.int cz), .val (.ref b37), .val (.ref ia), .unset, .unset, .unset, .unset] [(.ref b37), (.int (pos &&& (2147483647 : Int32)))])) rfl rfl (hb hby at_179) _ kk_) ?_
      show own_Fin p.tables e below _ (T76.setTop (mkF m 180 #[.val (.int mode), .val (.int pos), .val (.int ch), .val (.int oth), .val (.int (mode &&& (7 : Int32))), .val (.int (0 : Int32)), .val (.int (ch &&& (255 : Int32))), .val (.int cz), .val (.ref b37), .val (.ref ia), .unset, .unset, .unset, .unset] [(.int (10 : Int32)), (.int (pos &&& (2147483647 : Int32)))]))
      refine own_go (fun _ kk_ => iremM X76 hx rfl  (hb hby at_180) rfl (by decide) kk_) ?_
      show own_Fin p.tables e below _ (T76.setTop (mkF m 181 #[.val (.int mode), .val (.int pos), .val (.int ch), .val (.int oth), .val (.int (mode &&& (7 : Int32))), .val (.int (0 : Int32)), .val (.int (ch &&& (255 : Int32))), .val (.int cz), .val (.ref b37), .val (.ref ia), .unset, .unset, .unset, .unset] [(.int ((pos &&& (2147483647 : Int32)) % (10 : Int32)))]))
      obtain ⟨pp, q_pp⟩ : ∃ z : Int32, z = ((pos &&& (2147483647 : Int32)) % (10 : Int32)) := ⟨_, rfl⟩
      rw [← q_pp]
      have hpp : ¬ pp < 0 ∧ pp < 10 := by rw [q_pp]; exact own_mod110 _
      have hpn : pp.toNatClampNeg < 10 := own_clampN hpp.1 hpp.2 rfl
      refine own_go (fun _ kk_ => XS.istore X76.here hx rfl (hb hby at_181) rfl (l' := #[.val (.int mode), .val (.int pos), .val (.int ch), .val (.int oth), .val (.int (mode &&& (7 : Int32))), .val (.int (0 : Int32)), .val (.int (ch &&& (255 : Int32))), .val (.int cz), .val (.ref b37), .val (.ref ia), .val (.int pp), .unset, .unset, .unset]) rfl kk_) ?_
      refine own_go (fun _ kk_ => XS.iload X76.here hx rfl (hb hby at_183) rfl kk_) ?_
      show own_Fin p.tables e below _ (T76.setTop (mkF m 185 #[.val (.int mode), .val (.int pos), .val (.int ch), .val (.int oth), .val (.int (mode &&& (7 : Int32))), .val (.int (0 : Int32)), .val (.int (ch &&& (255 : Int32))), .val (.int cz), .val (.ref b37), .val (.ref ia), .val (.int pp), .unset, .unset, .unset] [(.int (mode &&& (7 : Int32)))]))
      by_cases hc77 : (mode &&& (7 : Int32)) = (0 : Int32)
      · skip
        refine own_go (fun _ kk_ => XS.ifYes X76.here hx rfl (pc0 := 185) (pc' := 194) rfl (hb hby at_185) rfl ((if0 _ _).trans (teq hc77).1) (by decide) (by decide) kk_) ?_
        refine own_go (fun _ kk_ => XS.aload X76.here hx rfl (hb hby at_194) rfl rfl kk_) ?_
        refine own_go (fun _ kk_ => XS.iload X76.here hx rfl (hb hby at_196) rfl kk_) ?_
        show own_Fin p.tables e below _ (T76.setTop (mkF m 198 #[.val (.int mode), .val (.int pos), .val (.int ch), .val (.int oth), .val (.int (mode &&& (7 : Int32))), .val (.int (0 : Int32)), .val (.int (ch &&& (255 : Int32))), .val (.int cz), .val (.ref b37), .val (.ref ia), .val (.int pp), .unset, .unset, .unset] [(.int pp), (.ref b37)]))
        refine own_go (fun _ kk_ => own_caload X76 hx hZ e76 V37 hpp (v := (.int (([(105 : Int32), (110 : Int32), (100 : Int32), (105 : Int32), (118 : Int32), (105 : Int32), (100 : Int32), (117 : Int32), (97 : Int32), (108 : Int32)] : List Int32).getD pp.toNatClampNeg 0))) (own_getD ([(105 : Int32), (110 : Int32), (100 : Int32), (105 : Int32), (118 : Int32), (105 : Int32), (100 : Int32), (117 : Int32), (97 : Int32), (108 : Int32)] : List Int32) _) (g := (mkF m 198 #[.val (.int mode), .val (.int pos), .val (.int ch), .val (.int oth), .val (.int (mode &&& (7 : Int32))), .val (.int (0 : Int32)), .val (.int (ch &&& (255 : Int32))), .val (.int cz), .val (.ref b37), .val (.ref ia), .val (.int pp), .unset, .unset, .unset] [(.int pp), (.ref b37)])) rfl rfl (hb hby at_198) _ kk_) ?_
        refine own_go (fun _ kk_ => XS.istore X76.here hx rfl (hb hby at_199) rfl (l' := #[.val (.int mode), .val (.int pos), .val (.int ch), .val (.int oth), .val (.int (mode &&& (7 : Int32))), .val (.int (0 : Int32)), .val (.int (ch &&& (255 : Int32))), .val (.int cz), .val (.ref b37), .val (.ref ia), .val (.int pp), .unset, .unset, .val (.int (([(105 : Int32), (110 : Int32), (100 : Int32), (105 : Int32), (118 : Int32), (105 : Int32), (100 : Int32), (117 : Int32), (97 : Int32), (108 : Int32)] : List Int32).getD pp.toNatClampNeg 0))]) rfl kk_) ?_
        refine own_go (fun _ kk_ => XS.iload X76.here hx rfl (hb hby at_201) rfl kk_) ?_
        show own_Fin p.tables e below _ (T76.setTop (mkF m 203 #[.val (.int mode), .val (.int pos), .val (.int ch), .val (.int oth), .val (.int (mode &&& (7 : Int32))), .val (.int (0 : Int32)), .val (.int (ch &&& (255 : Int32))), .val (.int cz), .val (.ref b37), .val (.ref ia), .val (.int pp), .unset, .unset, .val (.int (([(105 : Int32), (110 : Int32), (100 : Int32), (105 : Int32), (118 : Int32), (105 : Int32), (100 : Int32), (117 : Int32), (97 : Int32), (108 : Int32)] : List Int32).getD pp.toNatClampNeg 0))] [(.int cz)]))
        by_cases hc78 : cz = (0 : Int32)
        · skip
          refine own_go (fun _ kk_ => XS.ifYes X76.here hx rfl (pc0 := 203) (pc' := 213) rfl (hb hby at_203) rfl ((if0 _ _).trans (teq hc78).1) (by decide) (by decide) kk_) ?_
          show own_Fin p.tables e below _ (T76.setTop (mkF m 213 #[.val (.int mode), .val (.int pos), .val (.int ch), .val (.int oth), .val (.int (mode &&& (7 : Int32))), .val (.int (0 : Int32)), .val (.int (ch &&& (255 : Int32))), .val (.int cz), .val (.ref b37), .val (.ref ia), .val (.int pp), .unset, .unset, .val (.int (([(105 : Int32), (110 : Int32), (100 : Int32), (105 : Int32), (118 : Int32), (105 : Int32), (100 : Int32), (117 : Int32), (97 : Int32), (108 : Int32)] : List Int32).getD pp.toNatClampNeg 0))] []))
          obtain ⟨T79, h79, X79, e79, E79, A79, D79, -, st79⟩ := newO X76 hx hZ hown (hw _ (List.mem_of_getElem? (i := 5) rfl)) (hw _ (List.mem_of_getElem? (i := 6) rfl)) (hw _ (List.mem_of_getElem? (i := 7) rfl)) e76 (g := (mkF m 213 #[.val (.int mode), .val (.int pos), .val (.int ch), .val (.int oth), .val (.int (mode &&& (7 : Int32))), .val (.int (0 : Int32)), .val (.int (ch &&& (255 : Int32))), .val (.int cz), .val (.ref b37), .val (.ref ia), .val (.int pp), .unset, .unset, .val (.int (([(105 : Int32), (110 : Int32), (100 : Int32), (105 : Int32), (118 : Int32), (105 : Int32), (100 : Int32), (117 : Int32), (97 : Int32), (108 : Int32)] : List Int32).getD pp.toNatClampNeg 0))] [])) rfl (hb hby at_213) (by decide) (by decide)
          obtain ⟨b79, g79⟩ : ∃ z, z = h73.size := ⟨_, rfl⟩
          rw [← g79] at A79 D79 st79
          have sz_b79 : h0.size ≤ b79 := Nat.le_trans K75.1 (Nat.le_of_eq g79.symm)
          have g_b79 : n0 ≤ b79 := Nat.le_trans Z0 sz_b79
          have ne80 : va ≠ b79 := O0.ne V_V.lt g_b79
          have ne81 : ia ≠ b79 := O0.ne F_i.lt g_b79
          have ne82 : sa ≠ b79 := O0.ne F_j.lt g_b79
          have ne83 : wi ≠ b79 := O0.ne S_i.lt g_b79
          have ne84 : ti ≠ b79 := O0.ne S_i.ltt g_b79
          have ne85 : wj ≠ b79 := O0.ne S_j.lt g_b79
          have ne86 : tj ≠ b79 := O0.ne S_j.ltt g_b79
          have ne87 : b37 ≠ b79 := Nat.ne_of_lt (Nat.lt_of_lt_of_le V37.lt (Nat.le_of_eq g79.symm))
          have S_b79 := Safe.new (Z := Z) (EL := consts_1) (vm := s.vm) (Nat.le_of_eq g79.symm)
          replace S_b37 := Safe.ext E79 CH S_b37
          replace S_b79 := Safe.ext E79 CH S_b79
          replace CR := CR.trans (CHr.ext E79 CH)
          replace CH := CH.ext E79
          replace hk := Nat.le_trans hk E79.1
          replace O0 := O0.ext E79
          replace V37 := V37.ext E79
          have K88 := K75.ext E79
          have F79_coder : Fld Z h79 b79 "java/lang/String" "coder" "B" (.int (0 : Int32)) := D79 (Or.inr (hw _ (List.mem_of_getElem? (i := 31) rfl))) (ty := .byte) (by decide)
          have F79_value : Fld Z h79 b79 "java/lang/String" "value" "[B" .null := D79 (Or.inr (hw _ (List.mem_of_getElem? (i := 33) rfl))) (ty := (.array .byte)) (by decide)
          refine own_go st79 ?_
          refine own_go (fun _ kk_ => XS.dup X79.here hx rfl (hb hby at_216) rfl rfl kk_) ?_
          refine own_go (fun _ kk_ => XS.aload X79.here hx rfl (hb hby at_217) rfl rfl kk_) ?_
          show own_Fin p.tables e below _ (T79.setTop (mkF m 219 #[.val (.int mode), .val (.int pos), .val (.int ch), .val (.int oth), .val (.int (mode &&& (7 : Int32))), .val (.int (0 : Int32)), .val (.int (ch &&& (255 : Int32))), .val (.int cz), .val (.ref b37), .val (.ref ia), .val (.int pp), .unset, .unset, .val (.int (([(105 : Int32), (110 : Int32), (100 : Int32), (105 : Int32), (118 : Int32), (105 : Int32), (100 : Int32), (117 : Int32), (97 : Int32), (108 : Int32)] : List Int32).getD pp.toNatClampNeg 0))] [(.ref b37), (.ref b79), (.ref b79)]))
          have hp90 : ∀ c ∈ ([(105 : Int32), (110 : Int32), (100 : Int32), (105 : Int32), (118 : Int32), (105 : Int32), (100 : Int32), (117 : Int32), (97 : Int32), (108 : Int32)] : List Int32), ¬ c < 0 ∧ ¬ (255 : Int32) < c := by
            intro c hc
            simp only [List.mem_cons, List.not_mem_nil, or_false] at hc
            rcases hc with rfl | rfl | rfl | rfl | rfl | rfl | rfl | rfl | rfl | rfl
            · exact by decide
            · exact by decide
            · exact by decide
            · exact by decide
            · exact by decide
            · exact by decide
            · exact by decide
            · exact by decide
            · exact by decide
            · exact by decide
          obtain ⟨_, _, ⟨T89, L89, k89, n89⟩, -, X89, ⟨Lc89, hQ89, l89, y89, z89⟩, st89⟩ := X79.specialBack hx (y := (⟨"java/lang/String", "<init>", "([C)V"⟩ : MethodName)) rfl hown (mvT hZ (hw _ (List.mem_of_getElem? (i := 8) rfl))) (mvT hZ (hw _ (List.mem_of_getElem? (i := 9) rfl))) (mvT hZ (hw _ (List.mem_of_getElem? (i := 10) rfl))) (by decide) (StrChars.Road.backV (W := 1) hZ hws (kI := 4) (hw _ (List.mem_of_getElem? (i := 6) rfl)) (cs := ([(105 : Int32), (110 : Int32), (100 : Int32), (105 : Int32), (118 : Int32), (105 : Int32), (100 : Int32), (117 : Int32), (97 : Int32), (108 : Int32)] : List Int32)) (bs := (([(105 : Int32), (110 : Int32), (100 : Int32), (105 : Int32), (118 : Int32), (105 : Int32), (100 : Int32), (117 : Int32), (97 : Int32), (108 : Int32)] : List Int32)).map (fun c => c.toInt8.toInt32)) (n := 10) g_b79 (Nat.le_trans Z0 K88.1) A79 F79_value F79_coder V37 (S_C.ext O0.2) hcs rfl rfl (by decide) (by decide) hp90 rfl (by decide) (by decide)) (g := (mkF m 219 #[.val (.int mode), .val (.int pos), .val (.int ch), .val (.int oth), .val (.int (mode &&& (7 : Int32))), .val (.int (0 : Int32)), .val (.int (ch &&& (255 : Int32))), .val (.int cz), .val (.ref b37), .val (.ref ia), .val (.int pp), .unset, .unset, .val (.int (([(105 : Int32), (110 : Int32), (100 : Int32), (105 : Int32), (118 : Int32), (105 : Int32), (100 : Int32), (117 : Int32), (97 : Int32), (108 : Int32)] : List Int32).getD pp.toNatClampNeg 0))] [(.ref b37), (.ref b79), (.ref b79)])) rfl (by rw [hml]; rfl) (Steps.refl _) (a := b79) (argsL := [(.ref b37)]) (rest := [(.ref b79)]) (lenOf pd_5 rfl) rfl (by show 2 * 0 + _ ≤ _; exact Nat.le_of_eq rfl) (hb hby at_219) (fun _ _ => ⟨rfl, e79, (by decide : 2 + 1 ≤ _), (by decide : 14 + 10 ≤ _)⟩)
          dsimp only [Pt.U, Pt.locs, Pt.cells, Pt.slots] at X89 l89 y89 z89 st89 hQ89
          subst l89 y89 z89
          obtain ⟨rfl, N89q, KK89, EE89, FC89, t89, kb89, gt89, szt89, netx89, FV89, VV89⟩ := hQ89
          have N89 := Fr.app N73 N89q
          have SS89 : own_Str Z T89.heap b79 t89 ([(105 : Int32), (110 : Int32), (100 : Int32), (105 : Int32), (118 : Int32), (105 : Int32), (100 : Int32), (117 : Int32), (97 : Int32), (108 : Int32)] : List Int32) := ⟨_, _, _, _, EE89, FV89, FC89, VV89, StrChars.Road.codOf (n := 10) rfl (fun c hc => (hp90 c hc).2), own_up _ hp90, Nat.le_of_ble_eq_true rfl⟩
          have sz_t89 : h0.size ≤ t89 := Nat.le_trans K88.1 szt89
          have ne91 : va ≠ t89 := O0.ne V_V.lt gt89
          have ne92 : ia ≠ t89 := O0.ne F_i.lt gt89
          have ne93 : sa ≠ t89 := O0.ne F_j.lt gt89
          have ne94 : wi ≠ t89 := O0.ne S_i.lt gt89
          have ne95 : ti ≠ t89 := O0.ne S_i.ltt gt89
          have ne96 : wj ≠ t89 := O0.ne S_j.lt gt89
          have ne97 : tj ≠ t89 := O0.ne S_j.ltt gt89
          have ne98 : b37 ≠ t89 := Nat.ne_of_lt (Nat.lt_of_lt_of_le V37.lt szt89)
          have ne99 : b79 ≠ t89 := Nat.ne_of_lt (Nat.lt_of_lt_of_le A79.lt szt89)
          have S_t89 := Safe.new (Z := Z) (EL := consts_1) (vm := s.vm) szt89
          have hs100 : ∀ x ∈ [b79], Safe Z consts_1 s.vm h79 x := (sfS S_b79 sf0)
          replace S_b37 := Safe.keep KK89 hs100 CH S_b37
          replace S_b79 := Safe.keep KK89 hs100 CH S_b79
          replace S_t89 := Safe.keep KK89 hs100 CH S_t89
          replace CR := CR.trans (CHr.keep KK89 hs100 CH)
          replace CH := CHv.keep KK89 hs100 CH
          replace hk := Nat.le_trans hk KK89.1
          replace O0 := O0.keep KK89 (allS g_b79 (all0))
          replace V37 := V37.keep KK89 (ninS ne87 nin0)
          replace A79 := A79.keep KK89
          have K101 := K88.trans KK89 (allS (Or.inr sz_b79) all0)
          refine own_go (fun _ kk_ => st89.trans kk_) ?_
          refine own_go (fun _ kk_ => XS.astore X89.here hx rfl (hb hby at_222) rfl rfl (l' := #[.val (.int mode), .val (.int pos), .val (.int ch), .val (.int oth), .val (.int (mode &&& (7 : Int32))), .val (.int (0 : Int32)), .val (.int (ch &&& (255 : Int32))), .val (.int cz), .val (.ref b37), .val (.ref ia), .val (.int pp), .val (.ref b79), .unset, .val (.int (([(105 : Int32), (110 : Int32), (100 : Int32), (105 : Int32), (118 : Int32), (105 : Int32), (100 : Int32), (117 : Int32), (97 : Int32), (108 : Int32)] : List Int32).getD pp.toNatClampNeg 0))]) rfl kk_) ?_
          refine own_go (fun _ kk_ => XS.iload X89.here hx rfl (hb hby at_224) rfl kk_) ?_
          show own_Fin p.tables e below _ (T89.setTop (mkF m 226 #[.val (.int mode), .val (.int pos), .val (.int ch), .val (.int oth), .val (.int (mode &&& (7 : Int32))), .val (.int (0 : Int32)), .val (.int (ch &&& (255 : Int32))), .val (.int cz), .val (.ref b37), .val (.ref ia), .val (.int pp), .val (.ref b79), .unset, .val (.int (([(105 : Int32), (110 : Int32), (100 : Int32), (105 : Int32), (118 : Int32), (105 : Int32), (100 : Int32), (117 : Int32), (97 : Int32), (108 : Int32)] : List Int32).getD pp.toNatClampNeg 0))] [(.int cz)]))
          refine own_go (fun _ kk_ => XS.ifYes X89.here hx rfl (pc0 := 226) (pc' := 236) rfl (hb hby at_226) rfl ((if0 _ _).trans (teq hc78).1) (by decide) (by decide) kk_) ?_
          refine own_go (fun _ kk_ => XS.aload X89.here hx rfl (hb hby at_236) rfl rfl kk_) ?_
          refine own_go (fun _ kk_ => XS.goto X89.here hx rfl (pc0 := 238) (pc' := 242) rfl (hb hby at_238) (by decide) (by decide) kk_) ?_
          refine own_go (fun _ kk_ => XS.astore X89.here hx rfl (hb hby at_242) rfl rfl (l' := #[.val (.int mode), .val (.int pos), .val (.int ch), .val (.int oth), .val (.int (mode &&& (7 : Int32))), .val (.int (0 : Int32)), .val (.int (ch &&& (255 : Int32))), .val (.int cz), .val (.ref b37), .val (.ref ia), .val (.int pp), .val (.ref b79), .val (.ref ia), .val (.int (([(105 : Int32), (110 : Int32), (100 : Int32), (105 : Int32), (118 : Int32), (105 : Int32), (100 : Int32), (117 : Int32), (97 : Int32), (108 : Int32)] : List Int32).getD pp.toNatClampNeg 0))]) rfl kk_) ?_
          refine own_go (fun _ kk_ => XS.goto X89.here hx rfl (pc0 := 244) (pc' := 651) rfl (hb hby at_244) (by decide) (by decide) kk_) ?_
          refine own_go (fun _ kk_ => XS.aload X89.here hx rfl (hb hby at_651) rfl rfl kk_) ?_
          show own_Fin p.tables e below _ (T89.setTop (mkF m 653 #[.val (.int mode), .val (.int pos), .val (.int ch), .val (.int oth), .val (.int (mode &&& (7 : Int32))), .val (.int (0 : Int32)), .val (.int (ch &&& (255 : Int32))), .val (.int cz), .val (.ref b37), .val (.ref ia), .val (.int pp), .val (.ref b79), .val (.ref ia), .val (.int (([(105 : Int32), (110 : Int32), (100 : Int32), (105 : Int32), (118 : Int32), (105 : Int32), (100 : Int32), (117 : Int32), (97 : Int32), (108 : Int32)] : List Int32).getD pp.toNatClampNeg 0))] [(.ref b79)]))
          obtain ⟨_, _, ⟨T102, L102, k102, n102⟩, -, X102, ⟨Lc102, hQ102, l102, y102, z102⟩, st102⟩ := Jvm.LawKit.callS X89 hx (y := (⟨"com/example/hebelwerk/hebelwerk/model/DividendMethod", "written", "(Ljava/lang/String;)Lcom/example/hebelwerk/hebelwerk/model/DividendMethod;"⟩ : MethodName)) hown (mvT hZ (hw _ (List.mem_of_getElem? (i := 34) rfl))) (mvT hZ (hw _ (List.mem_of_getElem? (i := 35) rfl))) (mvT hZ (hw _ (List.mem_of_getElem? (i := 2) rfl))) (mvT hZ (hw _ (List.mem_of_getElem? (i := 36) rfl))) (by decide) (backOf (W := 0) (rm_wrS l Z a0 hw [] b79 t89 ([(105 : Int32), (110 : Int32), (100 : Int32), (105 : Int32), (118 : Int32), (105 : Int32), (100 : Int32), (117 : Int32), (97 : Int32), (108 : Int32)] : List Int32) va vk ia sa wi ti wj tj gc T89.heap n0 (Nat.le_trans Z0 K101.1) SS89 S_V V_V E_V F_i F_j S_i S_j S_C hcs O0) hZ (hw _ (List.mem_of_getElem? (i := 36) rfl)) (hw _ (List.mem_of_getElem? (i := 2) rfl)) (by decide) (by decide)) (g := (mkF m 653 #[.val (.int mode), .val (.int pos), .val (.int ch), .val (.int oth), .val (.int (mode &&& (7 : Int32))), .val (.int (0 : Int32)), .val (.int (ch &&& (255 : Int32))), .val (.int cz), .val (.ref b37), .val (.ref ia), .val (.int pp), .val (.ref b79), .val (.ref ia), .val (.int (([(105 : Int32), (110 : Int32), (100 : Int32), (105 : Int32), (118 : Int32), (105 : Int32), (100 : Int32), (117 : Int32), (97 : Int32), (108 : Int32)] : List Int32).getD pp.toNatClampNeg 0))] [(.ref b79)])) rfl (by rw [hml]; rfl) (argsL := [(.ref b79)]) (rest := []) (lenOf pd_6 rfl) rfl (by show 2 * 0 + _ ≤ _; exact Nat.le_of_eq rfl) (hb hby at_653) (fun _ _ => ⟨rfl, rfl, (by decide : 3 + 1 ≤ _), (by decide : 24 + 2 ≤ _)⟩)
          dsimp only [Pt.U, Pt.locs, Pt.cells, Pt.slots] at X102 l102 y102 z102 st102 hQ102
          subst l102 y102 z102
          obtain ⟨N102q, KK102, y1_102, y2_102, y3_102⟩ := hQ102
          obtain rfl := y1_102 rfl
          have N102 := Fr.app N89 N102q
          have hs103 : ∀ x ∈ [], Safe Z consts_1 s.vm T89.heap x := sf0
          replace S_b37 := Safe.keep KK102 hs103 CH S_b37
          replace S_b79 := Safe.keep KK102 hs103 CH S_b79
          replace S_t89 := Safe.keep KK102 hs103 CH S_t89
          replace CR := CR.trans (CHr.keep KK102 hs103 CH)
          replace CH := CHv.keep KK102 hs103 CH
          replace hk := Nat.le_trans hk KK102.1
          replace O0 := O0.keep KK102 all0
          replace V37 := V37.keep KK102 nin0
          replace SS89 := SS89.keep KK102 nin0 nin0
          have K104 := K101.trans KK102 all0
          refine own_go st102 ?_
          refine own_go (fun _ kk_ => XS.aload X102.here hx rfl (hb hby at_656) rfl rfl kk_) ?_
          show own_Fin p.tables e below _ (T102.setTop (mkF m 658 #[.val (.int mode), .val (.int pos), .val (.int ch), .val (.int oth), .val (.int (mode &&& (7 : Int32))), .val (.int (0 : Int32)), .val (.int (ch &&& (255 : Int32))), .val (.int cz), .val (.ref b37), .val (.ref ia), .val (.int pp), .val (.ref b79), .val (.ref ia), .val (.int (([(105 : Int32), (110 : Int32), (100 : Int32), (105 : Int32), (118 : Int32), (105 : Int32), (100 : Int32), (117 : Int32), (97 : Int32), (108 : Int32)] : List Int32).getD pp.toNatClampNeg 0))] [(.ref ia), (.ref ia)]))
          refine own_go (fun _ kk_ => acmp (g := (mkF m 658 #[.val (.int mode), .val (.int pos), .val (.int ch), .val (.int oth), .val (.int (mode &&& (7 : Int32))), .val (.int (0 : Int32)), .val (.int (ch &&& (255 : Int32))), .val (.int cz), .val (.ref b37), .val (.ref ia), .val (.int pp), .val (.ref b79), .val (.ref ia), .val (.int (([(105 : Int32), (110 : Int32), (100 : Int32), (105 : Int32), (118 : Int32), (105 : Int32), (100 : Int32), (117 : Int32), (97 : Int32), (108 : Int32)] : List Int32).getD pp.toNatClampNeg 0))] [(.ref ia), (.ref ia)])) X102 hx rfl rfl rfl (pc0 := 658) (pc' := 661) (same := true) rfl (hb hby at_658) rfl (by simp) (by decide) (by decide) kk_) ?_
          refine own_go (fun _ kk_ => XS.iconst X102.here hx rfl (hb hby at_661) kk_) ?_
          refine own_go (fun _ kk_ => XS.goto X102.here hx rfl (pc0 := 662) (pc' := 666) rfl (hb hby at_662) (by decide) (by decide) kk_) ?_
          show own_Fin p.tables e below _ (T102.setTop (mkF m 666 #[.val (.int mode), .val (.int pos), .val (.int ch), .val (.int oth), .val (.int (mode &&& (7 : Int32))), .val (.int (0 : Int32)), .val (.int (ch &&& (255 : Int32))), .val (.int cz), .val (.ref b37), .val (.ref ia), .val (.int pp), .val (.ref b79), .val (.ref ia), .val (.int (([(105 : Int32), (110 : Int32), (100 : Int32), (105 : Int32), (118 : Int32), (105 : Int32), (100 : Int32), (117 : Int32), (97 : Int32), (108 : Int32)] : List Int32).getD pp.toNatClampNeg 0))] [(.int (1 : Int32))]))
          have CRz : CHr Z consts_1 s.vm s.heap T102.vm T102.heap := by
            rw [hh]
            exact CR.trans (CHv.at X102 hZ hEL CH)
          refine own_retW X102 hx Bd hS hk (t := .boolean) Bd.returns rfl (Or.inl ⟨rfl, by simp, _, rfl⟩) (hb hby at_666) CRz ?_ (by decide) (by decide)
          show (Q_rm_law Z mode pos ch oth va vk ia sa wi ti wj tj gc h0 n0) (some (.int (1 : Int32))) T102.heap _
          exact ⟨rfl, N102⟩
        · skip
          refine own_go (fun _ kk_ => XS.ifNo X76.here hx rfl (hb hby at_203) rfl ((if0 _ _).trans (feq hc78).1) kk_) ?_
          refine own_go (fun _ kk_ => XS.aload X76.here hx rfl (hb hby at_206) rfl rfl kk_) ?_
          refine own_go (fun _ kk_ => XS.iload X76.here hx rfl (hb hby at_208) rfl kk_) ?_
          refine own_go (fun _ kk_ => XS.iload X76.here hx rfl (hb hby at_210) rfl kk_) ?_
          show own_Fin p.tables e below _ (T76.setTop (mkF m 212 #[.val (.int mode), .val (.int pos), .val (.int ch), .val (.int oth), .val (.int (mode &&& (7 : Int32))), .val (.int (0 : Int32)), .val (.int (ch &&& (255 : Int32))), .val (.int cz), .val (.ref b37), .val (.ref ia), .val (.int pp), .unset, .unset, .val (.int (([(105 : Int32), (110 : Int32), (100 : Int32), (105 : Int32), (118 : Int32), (105 : Int32), (100 : Int32), (117 : Int32), (97 : Int32), (108 : Int32)] : List Int32).getD pp.toNatClampNeg 0))] [(.int (ch &&& (255 : Int32))), (.int pp), (.ref b37)]))
          obtain ⟨T105, h105, X105, e105, W105, V105, st105⟩ := own_stC X76 hx hZ e76 V37 hpp (i := pp.toNatClampNeg) rfl hpn (g := (mkF m 212 #[.val (.int mode), .val (.int pos), .val (.int ch), .val (.int oth), .val (.int (mode &&& (7 : Int32))), .val (.int (0 : Int32)), .val (.int (ch &&& (255 : Int32))), .val (.int cz), .val (.ref b37), .val (.ref ia), .val (.int pp), .unset, .unset, .val (.int (([(105 : Int32), (110 : Int32), (100 : Int32), (105 : Int32), (118 : Int32), (105 : Int32), (100 : Int32), (117 : Int32), (97 : Int32), (108 : Int32)] : List Int32).getD pp.toNatClampNeg 0))] [(.int (ch &&& (255 : Int32))), (.int pp), (.ref b37)])) rfl rfl (hb hby at_212)
          rw [own_nar255] at V105
          replace V37 : Arv Z h105 b37 k37 .char (10 : Int32) ([(.int (105 : Int32)), (.int (110 : Int32)), (.int (100 : Int32)), (.int (105 : Int32)), (.int (118 : Int32)), (.int (105 : Int32)), (.int (100 : Int32)), (.int (117 : Int32)), (.int (97 : Int32)), (.int (108 : Int32))].set pp.toNatClampNeg (.int (ch &&& (255 : Int32)))) (.int (0 : Int32)) := V105
          have N105 := Fr.snoc X105 N73 g_b37
          refine own_go st105 ?_
          have sa106 := S_b37
          replace S_b37 := Safe.wr W105 sa106 CH S_b37
          replace CR := CR.trans (CHr.wr W105 sa106 CH)
          replace CH := CHv.wr W105 sa106 CH
          replace hk := Nat.le_trans hk (Keep.of_wr W105).1
          replace O0 := O0.wr W105 g_b37
          have K107 := K75.wr W105 (Or.inr sz_b37)
          replace V37 : Arv Z h105 b37 k37 .char (10 : Int32) ((([(105 : Int32), (110 : Int32), (100 : Int32), (105 : Int32), (118 : Int32), (105 : Int32), (100 : Int32), (117 : Int32), (97 : Int32), (108 : Int32)] : List Int32).set pp.toNatClampNeg (ch &&& (255 : Int32))).map Value.int) (.int (0 : Int32)) := by rw [List.map_set]; exact V37
          show own_Fin p.tables e below _ (T105.setTop (mkF m 213 #[.val (.int mode), .val (.int pos), .val (.int ch), .val (.int oth), .val (.int (mode &&& (7 : Int32))), .val (.int (0 : Int32)), .val (.int (ch &&& (255 : Int32))), .val (.int cz), .val (.ref b37), .val (.ref ia), .val (.int pp), .unset, .unset, .val (.int (([(105 : Int32), (110 : Int32), (100 : Int32), (105 : Int32), (118 : Int32), (105 : Int32), (100 : Int32), (117 : Int32), (97 : Int32), (108 : Int32)] : List Int32).getD pp.toNatClampNeg 0))] []))
          obtain ⟨T108, h108, X108, e108, E108, A108, D108, -, st108⟩ := newO X105 hx hZ hown (hw _ (List.mem_of_getElem? (i := 5) rfl)) (hw _ (List.mem_of_getElem? (i := 6) rfl)) (hw _ (List.mem_of_getElem? (i := 7) rfl)) e105 (g := (mkF m 213 #[.val (.int mode), .val (.int pos), .val (.int ch), .val (.int oth), .val (.int (mode &&& (7 : Int32))), .val (.int (0 : Int32)), .val (.int (ch &&& (255 : Int32))), .val (.int cz), .val (.ref b37), .val (.ref ia), .val (.int pp), .unset, .unset, .val (.int (([(105 : Int32), (110 : Int32), (100 : Int32), (105 : Int32), (118 : Int32), (105 : Int32), (100 : Int32), (117 : Int32), (97 : Int32), (108 : Int32)] : List Int32).getD pp.toNatClampNeg 0))] [])) rfl (hb hby at_213) (by decide) (by decide)
          obtain ⟨b108, g108⟩ : ∃ z, z = h105.size := ⟨_, rfl⟩
          rw [← g108] at A108 D108 st108
          have sz_b108 : h0.size ≤ b108 := Nat.le_trans K107.1 (Nat.le_of_eq g108.symm)
          have g_b108 : n0 ≤ b108 := Nat.le_trans Z0 sz_b108
          have ne109 : va ≠ b108 := O0.ne V_V.lt g_b108
          have ne110 : ia ≠ b108 := O0.ne F_i.lt g_b108
          have ne111 : sa ≠ b108 := O0.ne F_j.lt g_b108
          have ne112 : wi ≠ b108 := O0.ne S_i.lt g_b108
          have ne113 : ti ≠ b108 := O0.ne S_i.ltt g_b108
          have ne114 : wj ≠ b108 := O0.ne S_j.lt g_b108
          have ne115 : tj ≠ b108 := O0.ne S_j.ltt g_b108
          have ne116 : b37 ≠ b108 := Nat.ne_of_lt (Nat.lt_of_lt_of_le V37.lt (Nat.le_of_eq g108.symm))
          have S_b108 := Safe.new (Z := Z) (EL := consts_1) (vm := s.vm) (Nat.le_of_eq g108.symm)
          replace S_b37 := Safe.ext E108 CH S_b37
          replace S_b108 := Safe.ext E108 CH S_b108
          replace CR := CR.trans (CHr.ext E108 CH)
          replace CH := CH.ext E108
          replace hk := Nat.le_trans hk E108.1
          replace O0 := O0.ext E108
          replace V37 := V37.ext E108
          have K117 := K107.ext E108
          have F108_coder : Fld Z h108 b108 "java/lang/String" "coder" "B" (.int (0 : Int32)) := D108 (Or.inr (hw _ (List.mem_of_getElem? (i := 31) rfl))) (ty := .byte) (by decide)
          have F108_value : Fld Z h108 b108 "java/lang/String" "value" "[B" .null := D108 (Or.inr (hw _ (List.mem_of_getElem? (i := 33) rfl))) (ty := (.array .byte)) (by decide)
          refine own_go st108 ?_
          refine own_go (fun _ kk_ => XS.dup X108.here hx rfl (hb hby at_216) rfl rfl kk_) ?_
          refine own_go (fun _ kk_ => XS.aload X108.here hx rfl (hb hby at_217) rfl rfl kk_) ?_
          show own_Fin p.tables e below _ (T108.setTop (mkF m 219 #[.val (.int mode), .val (.int pos), .val (.int ch), .val (.int oth), .val (.int (mode &&& (7 : Int32))), .val (.int (0 : Int32)), .val (.int (ch &&& (255 : Int32))), .val (.int cz), .val (.ref b37), .val (.ref ia), .val (.int pp), .unset, .unset, .val (.int (([(105 : Int32), (110 : Int32), (100 : Int32), (105 : Int32), (118 : Int32), (105 : Int32), (100 : Int32), (117 : Int32), (97 : Int32), (108 : Int32)] : List Int32).getD pp.toNatClampNeg 0))] [(.ref b37), (.ref b108), (.ref b108)]))
          have hp119 : ∀ c ∈ (([(105 : Int32), (110 : Int32), (100 : Int32), (105 : Int32), (118 : Int32), (105 : Int32), (100 : Int32), (117 : Int32), (97 : Int32), (108 : Int32)] : List Int32).set pp.toNatClampNeg (ch &&& (255 : Int32))), ¬ c < 0 ∧ ¬ (255 : Int32) < c := own_set255 (by decide) (own_and255 _)
          obtain ⟨_, _, ⟨T118, L118, k118, n118⟩, -, X118, ⟨Lc118, hQ118, l118, y118, z118⟩, st118⟩ := X108.specialBack hx (y := (⟨"java/lang/String", "<init>", "([C)V"⟩ : MethodName)) rfl hown (mvT hZ (hw _ (List.mem_of_getElem? (i := 8) rfl))) (mvT hZ (hw _ (List.mem_of_getElem? (i := 9) rfl))) (mvT hZ (hw _ (List.mem_of_getElem? (i := 10) rfl))) (by decide) (StrChars.Road.backV (W := 1) hZ hws (kI := 4) (hw _ (List.mem_of_getElem? (i := 6) rfl)) (cs := (([(105 : Int32), (110 : Int32), (100 : Int32), (105 : Int32), (118 : Int32), (105 : Int32), (100 : Int32), (117 : Int32), (97 : Int32), (108 : Int32)] : List Int32).set pp.toNatClampNeg (ch &&& (255 : Int32)))) (bs := ((([(105 : Int32), (110 : Int32), (100 : Int32), (105 : Int32), (118 : Int32), (105 : Int32), (100 : Int32), (117 : Int32), (97 : Int32), (108 : Int32)] : List Int32).set pp.toNatClampNeg (ch &&& (255 : Int32)))).map (fun c => c.toInt8.toInt32)) (n := 10) g_b108 (Nat.le_trans Z0 K117.1) A108 F108_value F108_coder V37 (S_C.ext O0.2) hcs (by simp) rfl (by decide) (by decide) hp119 rfl (by decide) (by decide)) (g := (mkF m 219 #[.val (.int mode), .val (.int pos), .val (.int ch), .val (.int oth), .val (.int (mode &&& (7 : Int32))), .val (.int (0 : Int32)), .val (.int (ch &&& (255 : Int32))), .val (.int cz), .val (.ref b37), .val (.ref ia), .val (.int pp), .unset, .unset, .val (.int (([(105 : Int32), (110 : Int32), (100 : Int32), (105 : Int32), (118 : Int32), (105 : Int32), (100 : Int32), (117 : Int32), (97 : Int32), (108 : Int32)] : List Int32).getD pp.toNatClampNeg 0))] [(.ref b37), (.ref b108), (.ref b108)])) rfl (by rw [hml]; rfl) (Steps.refl _) (a := b108) (argsL := [(.ref b37)]) (rest := [(.ref b108)]) (lenOf pd_5 rfl) rfl (by show 2 * 0 + _ ≤ _; exact Nat.le_of_eq rfl) (hb hby at_219) (fun _ _ => ⟨rfl, e108, (by decide : 2 + 1 ≤ _), (by decide : 14 + 10 ≤ _)⟩)
          dsimp only [Pt.U, Pt.locs, Pt.cells, Pt.slots] at X118 l118 y118 z118 st118 hQ118
          subst l118 y118 z118
          obtain ⟨rfl, N118q, KK118, EE118, FC118, t118, kb118, gt118, szt118, netx118, FV118, VV118⟩ := hQ118
          have N118 := Fr.app N105 N118q
          have SS118 : own_Str Z T118.heap b108 t118 (([(105 : Int32), (110 : Int32), (100 : Int32), (105 : Int32), (118 : Int32), (105 : Int32), (100 : Int32), (117 : Int32), (97 : Int32), (108 : Int32)] : List Int32).set pp.toNatClampNeg (ch &&& (255 : Int32))) := ⟨_, _, _, _, EE118, FV118, FC118, VV118, StrChars.Road.codOf (n := 10) (by simp) (fun c hc => (hp119 c hc).2), own_up _ hp119, by simp⟩
          have sz_t118 : h0.size ≤ t118 := Nat.le_trans K117.1 szt118
          have ne120 : va ≠ t118 := O0.ne V_V.lt gt118
          have ne121 : ia ≠ t118 := O0.ne F_i.lt gt118
          have ne122 : sa ≠ t118 := O0.ne F_j.lt gt118
          have ne123 : wi ≠ t118 := O0.ne S_i.lt gt118
          have ne124 : ti ≠ t118 := O0.ne S_i.ltt gt118
          have ne125 : wj ≠ t118 := O0.ne S_j.lt gt118
          have ne126 : tj ≠ t118 := O0.ne S_j.ltt gt118
          have ne127 : b37 ≠ t118 := Nat.ne_of_lt (Nat.lt_of_lt_of_le V37.lt szt118)
          have ne128 : b108 ≠ t118 := Nat.ne_of_lt (Nat.lt_of_lt_of_le A108.lt szt118)
          have S_t118 := Safe.new (Z := Z) (EL := consts_1) (vm := s.vm) szt118
          have hs129 : ∀ x ∈ [b108], Safe Z consts_1 s.vm h108 x := (sfS S_b108 sf0)
          replace S_b37 := Safe.keep KK118 hs129 CH S_b37
          replace S_b108 := Safe.keep KK118 hs129 CH S_b108
          replace S_t118 := Safe.keep KK118 hs129 CH S_t118
          replace CR := CR.trans (CHr.keep KK118 hs129 CH)
          replace CH := CHv.keep KK118 hs129 CH
          replace hk := Nat.le_trans hk KK118.1
          replace O0 := O0.keep KK118 (allS g_b108 (all0))
          replace V37 := V37.keep KK118 (ninS ne116 nin0)
          replace A108 := A108.keep KK118
          have K130 := K117.trans KK118 (allS (Or.inr sz_b108) all0)
          refine own_go (fun _ kk_ => st118.trans kk_) ?_
          refine own_go (fun _ kk_ => XS.astore X118.here hx rfl (hb hby at_222) rfl rfl (l' := #[.val (.int mode), .val (.int pos), .val (.int ch), .val (.int oth), .val (.int (mode &&& (7 : Int32))), .val (.int (0 : Int32)), .val (.int (ch &&& (255 : Int32))), .val (.int cz), .val (.ref b37), .val (.ref ia), .val (.int pp), .val (.ref b108), .unset, .val (.int (([(105 : Int32), (110 : Int32), (100 : Int32), (105 : Int32), (118 : Int32), (105 : Int32), (100 : Int32), (117 : Int32), (97 : Int32), (108 : Int32)] : List Int32).getD pp.toNatClampNeg 0))]) rfl kk_) ?_
          refine own_go (fun _ kk_ => XS.iload X118.here hx rfl (hb hby at_224) rfl kk_) ?_
          show own_Fin p.tables e below _ (T118.setTop (mkF m 226 #[.val (.int mode), .val (.int pos), .val (.int ch), .val (.int oth), .val (.int (mode &&& (7 : Int32))), .val (.int (0 : Int32)), .val (.int (ch &&& (255 : Int32))), .val (.int cz), .val (.ref b37), .val (.ref ia), .val (.int pp), .val (.ref b108), .unset, .val (.int (([(105 : Int32), (110 : Int32), (100 : Int32), (105 : Int32), (118 : Int32), (105 : Int32), (100 : Int32), (117 : Int32), (97 : Int32), (108 : Int32)] : List Int32).getD pp.toNatClampNeg 0))] [(.int cz)]))
          refine own_go (fun _ kk_ => XS.ifNo X118.here hx rfl (hb hby at_226) rfl ((if0 _ _).trans (feq hc78).1) kk_) ?_
          refine own_go (fun _ kk_ => XS.iload X118.here hx rfl (hb hby at_229) rfl kk_) ?_
          refine own_go (fun _ kk_ => XS.iload X118.here hx rfl (hb hby at_231) rfl kk_) ?_
          show own_Fin p.tables e below _ (T118.setTop (mkF m 233 #[.val (.int mode), .val (.int pos), .val (.int ch), .val (.int oth), .val (.int (mode &&& (7 : Int32))), .val (.int (0 : Int32)), .val (.int (ch &&& (255 : Int32))), .val (.int cz), .val (.ref b37), .val (.ref ia), .val (.int pp), .val (.ref b108), .unset, .val (.int (([(105 : Int32), (110 : Int32), (100 : Int32), (105 : Int32), (118 : Int32), (105 : Int32), (100 : Int32), (117 : Int32), (97 : Int32), (108 : Int32)] : List Int32).getD pp.toNatClampNeg 0))] [(.int (([(105 : Int32), (110 : Int32), (100 : Int32), (105 : Int32), (118 : Int32), (105 : Int32), (100 : Int32), (117 : Int32), (97 : Int32), (108 : Int32)] : List Int32).getD pp.toNatClampNeg 0)), (.int (ch &&& (255 : Int32)))]))
          by_cases hc131 : (ch &&& (255 : Int32)) = (([(105 : Int32), (110 : Int32), (100 : Int32), (105 : Int32), (118 : Int32), (105 : Int32), (100 : Int32), (117 : Int32), (97 : Int32), (108 : Int32)] : List Int32).getD pp.toNatClampNeg 0)
          · skip
            refine own_go (fun _ kk_ => XS.icmpNo X118.here hx rfl (hb hby at_233) rfl (teq hc131).2 kk_) ?_
            refine own_go (fun _ kk_ => XS.aload X118.here hx rfl (hb hby at_236) rfl rfl kk_) ?_
            refine own_go (fun _ kk_ => XS.goto X118.here hx rfl (pc0 := 238) (pc' := 242) rfl (hb hby at_238) (by decide) (by decide) kk_) ?_
            refine own_go (fun _ kk_ => XS.astore X118.here hx rfl (hb hby at_242) rfl rfl (l' := #[.val (.int mode), .val (.int pos), .val (.int ch), .val (.int oth), .val (.int (mode &&& (7 : Int32))), .val (.int (0 : Int32)), .val (.int (ch &&& (255 : Int32))), .val (.int cz), .val (.ref b37), .val (.ref ia), .val (.int pp), .val (.ref b108), .val (.ref ia), .val (.int (([(105 : Int32), (110 : Int32), (100 : Int32), (105 : Int32), (118 : Int32), (105 : Int32), (100 : Int32), (117 : Int32), (97 : Int32), (108 : Int32)] : List Int32).getD pp.toNatClampNeg 0))]) rfl kk_) ?_
            refine own_go (fun _ kk_ => XS.goto X118.here hx rfl (pc0 := 244) (pc' := 651) rfl (hb hby at_244) (by decide) (by decide) kk_) ?_
            refine own_go (fun _ kk_ => XS.aload X118.here hx rfl (hb hby at_651) rfl rfl kk_) ?_
            show own_Fin p.tables e below _ (T118.setTop (mkF m 653 #[.val (.int mode), .val (.int pos), .val (.int ch), .val (.int oth), .val (.int (mode &&& (7 : Int32))), .val (.int (0 : Int32)), .val (.int (ch &&& (255 : Int32))), .val (.int cz), .val (.ref b37), .val (.ref ia), .val (.int pp), .val (.ref b108), .val (.ref ia), .val (.int (([(105 : Int32), (110 : Int32), (100 : Int32), (105 : Int32), (118 : Int32), (105 : Int32), (100 : Int32), (117 : Int32), (97 : Int32), (108 : Int32)] : List Int32).getD pp.toNatClampNeg 0))] [(.ref b108)]))
            obtain ⟨_, _, ⟨T132, L132, k132, n132⟩, -, X132, ⟨Lc132, hQ132, l132, y132, z132⟩, st132⟩ := Jvm.LawKit.callS X118 hx (y := (⟨"com/example/hebelwerk/hebelwerk/model/DividendMethod", "written", "(Ljava/lang/String;)Lcom/example/hebelwerk/hebelwerk/model/DividendMethod;"⟩ : MethodName)) hown (mvT hZ (hw _ (List.mem_of_getElem? (i := 34) rfl))) (mvT hZ (hw _ (List.mem_of_getElem? (i := 35) rfl))) (mvT hZ (hw _ (List.mem_of_getElem? (i := 2) rfl))) (mvT hZ (hw _ (List.mem_of_getElem? (i := 36) rfl))) (by decide) (backOf (W := 0) (rm_wrS l Z a0 hw [] b108 t118 (([(105 : Int32), (110 : Int32), (100 : Int32), (105 : Int32), (118 : Int32), (105 : Int32), (100 : Int32), (117 : Int32), (97 : Int32), (108 : Int32)] : List Int32).set pp.toNatClampNeg (ch &&& (255 : Int32))) va vk ia sa wi ti wj tj gc T118.heap n0 (Nat.le_trans Z0 K130.1) SS118 S_V V_V E_V F_i F_j S_i S_j S_C hcs O0) hZ (hw _ (List.mem_of_getElem? (i := 36) rfl)) (hw _ (List.mem_of_getElem? (i := 2) rfl)) (by decide) (by decide)) (g := (mkF m 653 #[.val (.int mode), .val (.int pos), .val (.int ch), .val (.int oth), .val (.int (mode &&& (7 : Int32))), .val (.int (0 : Int32)), .val (.int (ch &&& (255 : Int32))), .val (.int cz), .val (.ref b37), .val (.ref ia), .val (.int pp), .val (.ref b108), .val (.ref ia), .val (.int (([(105 : Int32), (110 : Int32), (100 : Int32), (105 : Int32), (118 : Int32), (105 : Int32), (100 : Int32), (117 : Int32), (97 : Int32), (108 : Int32)] : List Int32).getD pp.toNatClampNeg 0))] [(.ref b108)])) rfl (by rw [hml]; rfl) (argsL := [(.ref b108)]) (rest := []) (lenOf pd_6 rfl) rfl (by show 2 * 0 + _ ≤ _; exact Nat.le_of_eq rfl) (hb hby at_653) (fun _ _ => ⟨rfl, rfl, (by decide : 3 + 1 ≤ _), (by decide : 24 + 2 ≤ _)⟩)
            dsimp only [Pt.U, Pt.locs, Pt.cells, Pt.slots] at X132 l132 y132 z132 st132 hQ132
            subst l132 y132 z132
            obtain ⟨N132q, KK132, y1_132, y2_132, y3_132⟩ := hQ132
            obtain rfl := y1_132 (own_set_self hpn hc131)
            have N132 := Fr.app N118 N132q
            have hs133 : ∀ x ∈ [], Safe Z consts_1 s.vm T118.heap x := sf0
            replace S_b37 := Safe.keep KK132 hs133 CH S_b37
            replace S_b108 := Safe.keep KK132 hs133 CH S_b108
            replace S_t118 := Safe.keep KK132 hs133 CH S_t118
            replace CR := CR.trans (CHr.keep KK132 hs133 CH)
            replace CH := CHv.keep KK132 hs133 CH
            replace hk := Nat.le_trans hk KK132.1
            replace O0 := O0.keep KK132 all0
            replace V37 := V37.keep KK132 nin0
            replace SS118 := SS118.keep KK132 nin0 nin0
            have K134 := K130.trans KK132 all0
            refine own_go st132 ?_
            refine own_go (fun _ kk_ => XS.aload X132.here hx rfl (hb hby at_656) rfl rfl kk_) ?_
            show own_Fin p.tables e below _ (T132.setTop (mkF m 658 #[.val (.int mode), .val (.int pos), .val (.int ch), .val (.int oth), .val (.int (mode &&& (7 : Int32))), .val (.int (0 : Int32)), .val (.int (ch &&& (255 : Int32))), .val (.int cz), .val (.ref b37), .val (.ref ia), .val (.int pp), .val (.ref b108), .val (.ref ia), .val (.int (([(105 : Int32), (110 : Int32), (100 : Int32), (105 : Int32), (118 : Int32), (105 : Int32), (100 : Int32), (117 : Int32), (97 : Int32), (108 : Int32)] : List Int32).getD pp.toNatClampNeg 0))] [(.ref ia), (.ref ia)]))
            refine own_go (fun _ kk_ => acmp (g := (mkF m 658 #[.val (.int mode), .val (.int pos), .val (.int ch), .val (.int oth), .val (.int (mode &&& (7 : Int32))), .val (.int (0 : Int32)), .val (.int (ch &&& (255 : Int32))), .val (.int cz), .val (.ref b37), .val (.ref ia), .val (.int pp), .val (.ref b108), .val (.ref ia), .val (.int (([(105 : Int32), (110 : Int32), (100 : Int32), (105 : Int32), (118 : Int32), (105 : Int32), (100 : Int32), (117 : Int32), (97 : Int32), (108 : Int32)] : List Int32).getD pp.toNatClampNeg 0))] [(.ref ia), (.ref ia)])) X132 hx rfl rfl rfl (pc0 := 658) (pc' := 661) (same := true) rfl (hb hby at_658) rfl (by simp) (by decide) (by decide) kk_) ?_
            refine own_go (fun _ kk_ => XS.iconst X132.here hx rfl (hb hby at_661) kk_) ?_
            refine own_go (fun _ kk_ => XS.goto X132.here hx rfl (pc0 := 662) (pc' := 666) rfl (hb hby at_662) (by decide) (by decide) kk_) ?_
            show own_Fin p.tables e below _ (T132.setTop (mkF m 666 #[.val (.int mode), .val (.int pos), .val (.int ch), .val (.int oth), .val (.int (mode &&& (7 : Int32))), .val (.int (0 : Int32)), .val (.int (ch &&& (255 : Int32))), .val (.int cz), .val (.ref b37), .val (.ref ia), .val (.int pp), .val (.ref b108), .val (.ref ia), .val (.int (([(105 : Int32), (110 : Int32), (100 : Int32), (105 : Int32), (118 : Int32), (105 : Int32), (100 : Int32), (117 : Int32), (97 : Int32), (108 : Int32)] : List Int32).getD pp.toNatClampNeg 0))] [(.int (1 : Int32))]))
            have CRz : CHr Z consts_1 s.vm s.heap T132.vm T132.heap := by
              rw [hh]
              exact CR.trans (CHv.at X132 hZ hEL CH)
            refine own_retW X132 hx Bd hS hk (t := .boolean) Bd.returns rfl (Or.inl ⟨rfl, by simp, _, rfl⟩) (hb hby at_666) CRz ?_ (by decide) (by decide)
            show (Q_rm_law Z mode pos ch oth va vk ia sa wi ti wj tj gc h0 n0) (some (.int (1 : Int32))) T132.heap _
            exact ⟨rfl, N132⟩
          · skip
            refine own_go (fun _ kk_ => XS.icmpYes X118.here hx rfl (pc0 := 233) (pc' := 241) rfl (hb hby at_233) rfl (feq hc131).2 (by decide) (by decide) kk_) ?_
            refine own_go (fun _ kk_ => XS.aconstNull X118.here hx rfl (hb hby at_241) kk_) ?_
            refine own_go (fun _ kk_ => XS.astore X118.here hx rfl (hb hby at_242) rfl rfl (l' := #[.val (.int mode), .val (.int pos), .val (.int ch), .val (.int oth), .val (.int (mode &&& (7 : Int32))), .val (.int (0 : Int32)), .val (.int (ch &&& (255 : Int32))), .val (.int cz), .val (.ref b37), .val (.ref ia), .val (.int pp), .val (.ref b108), .val .null, .val (.int (([(105 : Int32), (110 : Int32), (100 : Int32), (105 : Int32), (118 : Int32), (105 : Int32), (100 : Int32), (117 : Int32), (97 : Int32), (108 : Int32)] : List Int32).getD pp.toNatClampNeg 0))]) rfl kk_) ?_
            refine own_go (fun _ kk_ => XS.goto X118.here hx rfl (pc0 := 244) (pc' := 651) rfl (hb hby at_244) (by decide) (by decide) kk_) ?_
            refine own_go (fun _ kk_ => XS.aload X118.here hx rfl (hb hby at_651) rfl rfl kk_) ?_
            show own_Fin p.tables e below _ (T118.setTop (mkF m 653 #[.val (.int mode), .val (.int pos), .val (.int ch), .val (.int oth), .val (.int (mode &&& (7 : Int32))), .val (.int (0 : Int32)), .val (.int (ch &&& (255 : Int32))), .val (.int cz), .val (.ref b37), .val (.ref ia), .val (.int pp), .val (.ref b108), .val .null, .val (.int (([(105 : Int32), (110 : Int32), (100 : Int32), (105 : Int32), (118 : Int32), (105 : Int32), (100 : Int32), (117 : Int32), (97 : Int32), (108 : Int32)] : List Int32).getD pp.toNatClampNeg 0))] [(.ref b108)]))
            obtain ⟨_, _, ⟨T135, L135, k135, n135⟩, -, X135, ⟨Lc135, hQ135, l135, y135, z135⟩, st135⟩ := Jvm.LawKit.callS X118 hx (y := (⟨"com/example/hebelwerk/hebelwerk/model/DividendMethod", "written", "(Ljava/lang/String;)Lcom/example/hebelwerk/hebelwerk/model/DividendMethod;"⟩ : MethodName)) hown (mvT hZ (hw _ (List.mem_of_getElem? (i := 34) rfl))) (mvT hZ (hw _ (List.mem_of_getElem? (i := 35) rfl))) (mvT hZ (hw _ (List.mem_of_getElem? (i := 2) rfl))) (mvT hZ (hw _ (List.mem_of_getElem? (i := 36) rfl))) (by decide) (backOf (W := 0) (rm_wrS l Z a0 hw [] b108 t118 (([(105 : Int32), (110 : Int32), (100 : Int32), (105 : Int32), (118 : Int32), (105 : Int32), (100 : Int32), (117 : Int32), (97 : Int32), (108 : Int32)] : List Int32).set pp.toNatClampNeg (ch &&& (255 : Int32))) va vk ia sa wi ti wj tj gc T118.heap n0 (Nat.le_trans Z0 K130.1) SS118 S_V V_V E_V F_i F_j S_i S_j S_C hcs O0) hZ (hw _ (List.mem_of_getElem? (i := 36) rfl)) (hw _ (List.mem_of_getElem? (i := 2) rfl)) (by decide) (by decide)) (g := (mkF m 653 #[.val (.int mode), .val (.int pos), .val (.int ch), .val (.int oth), .val (.int (mode &&& (7 : Int32))), .val (.int (0 : Int32)), .val (.int (ch &&& (255 : Int32))), .val (.int cz), .val (.ref b37), .val (.ref ia), .val (.int pp), .val (.ref b108), .val .null, .val (.int (([(105 : Int32), (110 : Int32), (100 : Int32), (105 : Int32), (118 : Int32), (105 : Int32), (100 : Int32), (117 : Int32), (97 : Int32), (108 : Int32)] : List Int32).getD pp.toNatClampNeg 0))] [(.ref b108)])) rfl (by rw [hml]; rfl) (argsL := [(.ref b108)]) (rest := []) (lenOf pd_6 rfl) rfl (by show 2 * 0 + _ ≤ _; exact Nat.le_of_eq rfl) (hb hby at_653) (fun _ _ => ⟨rfl, rfl, (by decide : 3 + 1 ≤ _), (by decide : 24 + 2 ≤ _)⟩)
            dsimp only [Pt.U, Pt.locs, Pt.cells, Pt.slots] at X135 l135 y135 z135 st135 hQ135
            subst l135 y135 z135
            obtain ⟨N135q, KK135, y1_135, y2_135, y3_135⟩ := hQ135
            obtain rfl := y3_135 (own_set_ne hpn hc131) (fun q => absurd (congrArg List.length q) (by simp))
            have N135 := Fr.app N118 N135q
            have hs136 : ∀ x ∈ [], Safe Z consts_1 s.vm T118.heap x := sf0
            replace S_b37 := Safe.keep KK135 hs136 CH S_b37
            replace S_b108 := Safe.keep KK135 hs136 CH S_b108
            replace S_t118 := Safe.keep KK135 hs136 CH S_t118
            replace CR := CR.trans (CHr.keep KK135 hs136 CH)
            replace CH := CHv.keep KK135 hs136 CH
            replace hk := Nat.le_trans hk KK135.1
            replace O0 := O0.keep KK135 all0
            replace V37 := V37.keep KK135 nin0
            replace SS118 := SS118.keep KK135 nin0 nin0
            have K137 := K130.trans KK135 all0
            refine own_go st135 ?_
            refine own_go (fun _ kk_ => XS.aload X135.here hx rfl (hb hby at_656) rfl rfl kk_) ?_
            show own_Fin p.tables e below _ (T135.setTop (mkF m 658 #[.val (.int mode), .val (.int pos), .val (.int ch), .val (.int oth), .val (.int (mode &&& (7 : Int32))), .val (.int (0 : Int32)), .val (.int (ch &&& (255 : Int32))), .val (.int cz), .val (.ref b37), .val (.ref ia), .val (.int pp), .val (.ref b108), .val .null, .val (.int (([(105 : Int32), (110 : Int32), (100 : Int32), (105 : Int32), (118 : Int32), (105 : Int32), (100 : Int32), (117 : Int32), (97 : Int32), (108 : Int32)] : List Int32).getD pp.toNatClampNeg 0))] [.null, .null]))
            refine own_go (fun _ kk_ => acmp (g := (mkF m 658 #[.val (.int mode), .val (.int pos), .val (.int ch), .val (.int oth), .val (.int (mode &&& (7 : Int32))), .val (.int (0 : Int32)), .val (.int (ch &&& (255 : Int32))), .val (.int cz), .val (.ref b37), .val (.ref ia), .val (.int pp), .val (.ref b108), .val .null, .val (.int (([(105 : Int32), (110 : Int32), (100 : Int32), (105 : Int32), (118 : Int32), (105 : Int32), (100 : Int32), (117 : Int32), (97 : Int32), (108 : Int32)] : List Int32).getD pp.toNatClampNeg 0))] [.null, .null])) X135 hx rfl rfl rfl (pc0 := 658) (pc' := 661) (same := true) rfl (hb hby at_658) rfl rfl (by decide) (by decide) kk_) ?_
            refine own_go (fun _ kk_ => XS.iconst X135.here hx rfl (hb hby at_661) kk_) ?_
            refine own_go (fun _ kk_ => XS.goto X135.here hx rfl (pc0 := 662) (pc' := 666) rfl (hb hby at_662) (by decide) (by decide) kk_) ?_
            show own_Fin p.tables e below _ (T135.setTop (mkF m 666 #[.val (.int mode), .val (.int pos), .val (.int ch), .val (.int oth), .val (.int (mode &&& (7 : Int32))), .val (.int (0 : Int32)), .val (.int (ch &&& (255 : Int32))), .val (.int cz), .val (.ref b37), .val (.ref ia), .val (.int pp), .val (.ref b108), .val .null, .val (.int (([(105 : Int32), (110 : Int32), (100 : Int32), (105 : Int32), (118 : Int32), (105 : Int32), (100 : Int32), (117 : Int32), (97 : Int32), (108 : Int32)] : List Int32).getD pp.toNatClampNeg 0))] [(.int (1 : Int32))]))
            have CRz : CHr Z consts_1 s.vm s.heap T135.vm T135.heap := by
              rw [hh]
              exact CR.trans (CHv.at X135 hZ hEL CH)
            refine own_retW X135 hx Bd hS hk (t := .boolean) Bd.returns rfl (Or.inl ⟨rfl, by simp, _, rfl⟩) (hb hby at_666) CRz ?_ (by decide) (by decide)
            show (Q_rm_law Z mode pos ch oth va vk ia sa wi ti wj tj gc h0 n0) (some (.int (1 : Int32))) T135.heap _
            exact ⟨rfl, N135⟩
      · skip
        refine own_go (fun _ kk_ => XS.ifNo X76.here hx rfl (hb hby at_185) rfl ((if0 _ _).trans (feq hc77).1) kk_) ?_
        refine own_go (fun _ kk_ => XS.iload X76.here hx rfl (hb hby at_188) rfl kk_) ?_
        refine own_go (fun _ kk_ => XS.iconst X76.here hx rfl (hb hby at_190) kk_) ?_
        show own_Fin p.tables e below _ (T76.setTop (mkF m 191 #[.val (.int mode), .val (.int pos), .val (.int ch), .val (.int oth), .val (.int (mode &&& (7 : Int32))), .val (.int (0 : Int32)), .val (.int (ch &&& (255 : Int32))), .val (.int cz), .val (.ref b37), .val (.ref ia), .val (.int pp), .unset, .unset, .unset] [(.int (1 : Int32)), (.int (mode &&& (7 : Int32)))]))
        by_cases hc138 : (mode &&& (7 : Int32)) = (1 : Int32)
        · skip
          refine own_go (fun _ kk_ => XS.icmpNo X76.here hx rfl (hb hby at_191) rfl (teq hc138).2 kk_) ?_
          refine own_go (fun _ kk_ => XS.aload X76.here hx rfl (hb hby at_194) rfl rfl kk_) ?_
          refine own_go (fun _ kk_ => XS.iload X76.here hx rfl (hb hby at_196) rfl kk_) ?_
          show own_Fin p.tables e below _ (T76.setTop (mkF m 198 #[.val (.int mode), .val (.int pos), .val (.int ch), .val (.int oth), .val (.int (mode &&& (7 : Int32))), .val (.int (0 : Int32)), .val (.int (ch &&& (255 : Int32))), .val (.int cz), .val (.ref b37), .val (.ref ia), .val (.int pp), .unset, .unset, .unset] [(.int pp), (.ref b37)]))
          refine own_go (fun _ kk_ => own_caload X76 hx hZ e76 V37 hpp (v := (.int (([(105 : Int32), (110 : Int32), (100 : Int32), (105 : Int32), (118 : Int32), (105 : Int32), (100 : Int32), (117 : Int32), (97 : Int32), (108 : Int32)] : List Int32).getD pp.toNatClampNeg 0))) (own_getD ([(105 : Int32), (110 : Int32), (100 : Int32), (105 : Int32), (118 : Int32), (105 : Int32), (100 : Int32), (117 : Int32), (97 : Int32), (108 : Int32)] : List Int32) _) (g := (mkF m 198 #[.val (.int mode), .val (.int pos), .val (.int ch), .val (.int oth), .val (.int (mode &&& (7 : Int32))), .val (.int (0 : Int32)), .val (.int (ch &&& (255 : Int32))), .val (.int cz), .val (.ref b37), .val (.ref ia), .val (.int pp), .unset, .unset, .unset] [(.int pp), (.ref b37)])) rfl rfl (hb hby at_198) _ kk_) ?_
          refine own_go (fun _ kk_ => XS.istore X76.here hx rfl (hb hby at_199) rfl (l' := #[.val (.int mode), .val (.int pos), .val (.int ch), .val (.int oth), .val (.int (mode &&& (7 : Int32))), .val (.int (0 : Int32)), .val (.int (ch &&& (255 : Int32))), .val (.int cz), .val (.ref b37), .val (.ref ia), .val (.int pp), .unset, .unset, .val (.int (([(105 : Int32), (110 : Int32), (100 : Int32), (105 : Int32), (118 : Int32), (105 : Int32), (100 : Int32), (117 : Int32), (97 : Int32), (108 : Int32)] : List Int32).getD pp.toNatClampNeg 0))]) rfl kk_) ?_
          refine own_go (fun _ kk_ => XS.iload X76.here hx rfl (hb hby at_201) rfl kk_) ?_
          show own_Fin p.tables e below _ (T76.setTop (mkF m 203 #[.val (.int mode), .val (.int pos), .val (.int ch), .val (.int oth), .val (.int (mode &&& (7 : Int32))), .val (.int (0 : Int32)), .val (.int (ch &&& (255 : Int32))), .val (.int cz), .val (.ref b37), .val (.ref ia), .val (.int pp), .unset, .unset, .val (.int (([(105 : Int32), (110 : Int32), (100 : Int32), (105 : Int32), (118 : Int32), (105 : Int32), (100 : Int32), (117 : Int32), (97 : Int32), (108 : Int32)] : List Int32).getD pp.toNatClampNeg 0))] [(.int cz)]))
          by_cases hc139 : cz = (0 : Int32)
          · skip
            refine own_go (fun _ kk_ => XS.ifYes X76.here hx rfl (pc0 := 203) (pc' := 213) rfl (hb hby at_203) rfl ((if0 _ _).trans (teq hc139).1) (by decide) (by decide) kk_) ?_
            show own_Fin p.tables e below _ (T76.setTop (mkF m 213 #[.val (.int mode), .val (.int pos), .val (.int ch), .val (.int oth), .val (.int (mode &&& (7 : Int32))), .val (.int (0 : Int32)), .val (.int (ch &&& (255 : Int32))), .val (.int cz), .val (.ref b37), .val (.ref ia), .val (.int pp), .unset, .unset, .val (.int (([(105 : Int32), (110 : Int32), (100 : Int32), (105 : Int32), (118 : Int32), (105 : Int32), (100 : Int32), (117 : Int32), (97 : Int32), (108 : Int32)] : List Int32).getD pp.toNatClampNeg 0))] []))
            obtain ⟨T140, h140, X140, e140, E140, A140, D140, -, st140⟩ := newO X76 hx hZ hown (hw _ (List.mem_of_getElem? (i := 5) rfl)) (hw _ (List.mem_of_getElem? (i := 6) rfl)) (hw _ (List.mem_of_getElem? (i := 7) rfl)) e76 (g := (mkF m 213 #[.val (.int mode), .val (.int pos), .val (.int ch), .val (.int oth), .val (.int (mode &&& (7 : Int32))), .val (.int (0 : Int32)), .val (.int (ch &&& (255 : Int32))), .val (.int cz), .val (.ref b37), .val (.ref ia), .val (.int pp), .unset, .unset, .val (.int (([(105 : Int32), (110 : Int32), (100 : Int32), (105 : Int32), (118 : Int32), (105 : Int32), (100 : Int32), (117 : Int32), (97 : Int32), (108 : Int32)] : List Int32).getD pp.toNatClampNeg 0))] [])) rfl (hb hby at_213) (by decide) (by decide)
            obtain ⟨b140, g140⟩ : ∃ z, z = h73.size := ⟨_, rfl⟩
            rw [← g140] at A140 D140 st140
            have sz_b140 : h0.size ≤ b140 := Nat.le_trans K75.1 (Nat.le_of_eq g140.symm)
            have g_b140 : n0 ≤ b140 := Nat.le_trans Z0 sz_b140
            have ne141 : va ≠ b140 := O0.ne V_V.lt g_b140
            have ne142 : ia ≠ b140 := O0.ne F_i.lt g_b140
            have ne143 : sa ≠ b140 := O0.ne F_j.lt g_b140
            have ne144 : wi ≠ b140 := O0.ne S_i.lt g_b140
            have ne145 : ti ≠ b140 := O0.ne S_i.ltt g_b140
            have ne146 : wj ≠ b140 := O0.ne S_j.lt g_b140
            have ne147 : tj ≠ b140 := O0.ne S_j.ltt g_b140
            have ne148 : b37 ≠ b140 := Nat.ne_of_lt (Nat.lt_of_lt_of_le V37.lt (Nat.le_of_eq g140.symm))
            have S_b140 := Safe.new (Z := Z) (EL := consts_1) (vm := s.vm) (Nat.le_of_eq g140.symm)
            replace S_b37 := Safe.ext E140 CH S_b37
            replace S_b140 := Safe.ext E140 CH S_b140
            replace CR := CR.trans (CHr.ext E140 CH)
            replace CH := CH.ext E140
            replace hk := Nat.le_trans hk E140.1
            replace O0 := O0.ext E140
            replace V37 := V37.ext E140
            have K149 := K75.ext E140
            have F140_coder : Fld Z h140 b140 "java/lang/String" "coder" "B" (.int (0 : Int32)) := D140 (Or.inr (hw _ (List.mem_of_getElem? (i := 31) rfl))) (ty := .byte) (by decide)
            have F140_value : Fld Z h140 b140 "java/lang/String" "value" "[B" .null := D140 (Or.inr (hw _ (List.mem_of_getElem? (i := 33) rfl))) (ty := (.array .byte)) (by decide)
            refine own_go st140 ?_
            refine own_go (fun _ kk_ => XS.dup X140.here hx rfl (hb hby at_216) rfl rfl kk_) ?_
            refine own_go (fun _ kk_ => XS.aload X140.here hx rfl (hb hby at_217) rfl rfl kk_) ?_
            show own_Fin p.tables e below _ (T140.setTop (mkF m 219 #[.val (.int mode), .val (.int pos), .val (.int ch), .val (.int oth), .val (.int (mode &&& (7 : Int32))), .val (.int (0 : Int32)), .val (.int (ch &&& (255 : Int32))), .val (.int cz), .val (.ref b37), .val (.ref ia), .val (.int pp), .unset, .unset, .val (.int (([(105 : Int32), (110 : Int32), (100 : Int32), (105 : Int32), (118 : Int32), (105 : Int32), (100 : Int32), (117 : Int32), (97 : Int32), (108 : Int32)] : List Int32).getD pp.toNatClampNeg 0))] [(.ref b37), (.ref b140), (.ref b140)]))
            have hp151 : ∀ c ∈ ([(105 : Int32), (110 : Int32), (100 : Int32), (105 : Int32), (118 : Int32), (105 : Int32), (100 : Int32), (117 : Int32), (97 : Int32), (108 : Int32)] : List Int32), ¬ c < 0 ∧ ¬ (255 : Int32) < c := by
              intro c hc
              simp only [List.mem_cons, List.not_mem_nil, or_false] at hc
              rcases hc with rfl | rfl | rfl | rfl | rfl | rfl | rfl | rfl | rfl | rfl
              · exact by decide
              · exact by decide
              · exact by decide
              · exact by decide
              · exact by decide
              · exact by decide
              · exact by decide
              · exact by decide
              · exact by decide
              · exact by decide
            obtain ⟨_, _, ⟨T150, L150, k150, n150⟩, -, X150, ⟨Lc150, hQ150, l150, y150, z150⟩, st150⟩ := X140.specialBack hx (y := (⟨"java/lang/String", "<init>", "([C)V"⟩ : MethodName)) rfl hown (mvT hZ (hw _ (List.mem_of_getElem? (i := 8) rfl))) (mvT hZ (hw _ (List.mem_of_getElem? (i := 9) rfl))) (mvT hZ (hw _ (List.mem_of_getElem? (i := 10) rfl))) (by decide) (StrChars.Road.backV (W := 1) hZ hws (kI := 4) (hw _ (List.mem_of_getElem? (i := 6) rfl)) (cs := ([(105 : Int32), (110 : Int32), (100 : Int32), (105 : Int32), (118 : Int32), (105 : Int32), (100 : Int32), (117 : Int32), (97 : Int32), (108 : Int32)] : List Int32)) (bs := (([(105 : Int32), (110 : Int32), (100 : Int32), (105 : Int32), (118 : Int32), (105 : Int32), (100 : Int32), (117 : Int32), (97 : Int32), (108 : Int32)] : List Int32)).map (fun c => c.toInt8.toInt32)) (n := 10) g_b140 (Nat.le_trans Z0 K149.1) A140 F140_value F140_coder V37 (S_C.ext O0.2) hcs rfl rfl (by decide) (by decide) hp151 rfl (by decide) (by decide)) (g := (mkF m 219 #[.val (.int mode), .val (.int pos), .val (.int ch), .val (.int oth), .val (.int (mode &&& (7 : Int32))), .val (.int (0 : Int32)), .val (.int (ch &&& (255 : Int32))), .val (.int cz), .val (.ref b37), .val (.ref ia), .val (.int pp), .unset, .unset, .val (.int (([(105 : Int32), (110 : Int32), (100 : Int32), (105 : Int32), (118 : Int32), (105 : Int32), (100 : Int32), (117 : Int32), (97 : Int32), (108 : Int32)] : List Int32).getD pp.toNatClampNeg 0))] [(.ref b37), (.ref b140), (.ref b140)])) rfl (by rw [hml]; rfl) (Steps.refl _) (a := b140) (argsL := [(.ref b37)]) (rest := [(.ref b140)]) (lenOf pd_5 rfl) rfl (by show 2 * 0 + _ ≤ _; exact Nat.le_of_eq rfl) (hb hby at_219) (fun _ _ => ⟨rfl, e140, (by decide : 2 + 1 ≤ _), (by decide : 14 + 10 ≤ _)⟩)
            dsimp only [Pt.U, Pt.locs, Pt.cells, Pt.slots] at X150 l150 y150 z150 st150 hQ150
            subst l150 y150 z150
            obtain ⟨rfl, N150q, KK150, EE150, FC150, t150, kb150, gt150, szt150, netx150, FV150, VV150⟩ := hQ150
            have N150 := Fr.app N73 N150q
            have SS150 : own_Str Z T150.heap b140 t150 ([(105 : Int32), (110 : Int32), (100 : Int32), (105 : Int32), (118 : Int32), (105 : Int32), (100 : Int32), (117 : Int32), (97 : Int32), (108 : Int32)] : List Int32) := ⟨_, _, _, _, EE150, FV150, FC150, VV150, StrChars.Road.codOf (n := 10) rfl (fun c hc => (hp151 c hc).2), own_up _ hp151, Nat.le_of_ble_eq_true rfl⟩
            have sz_t150 : h0.size ≤ t150 := Nat.le_trans K149.1 szt150
            have ne152 : va ≠ t150 := O0.ne V_V.lt gt150
            have ne153 : ia ≠ t150 := O0.ne F_i.lt gt150
            have ne154 : sa ≠ t150 := O0.ne F_j.lt gt150
            have ne155 : wi ≠ t150 := O0.ne S_i.lt gt150
            have ne156 : ti ≠ t150 := O0.ne S_i.ltt gt150
            have ne157 : wj ≠ t150 := O0.ne S_j.lt gt150
            have ne158 : tj ≠ t150 := O0.ne S_j.ltt gt150
            have ne159 : b37 ≠ t150 := Nat.ne_of_lt (Nat.lt_of_lt_of_le V37.lt szt150)
            have ne160 : b140 ≠ t150 := Nat.ne_of_lt (Nat.lt_of_lt_of_le A140.lt szt150)
            have S_t150 := Safe.new (Z := Z) (EL := consts_1) (vm := s.vm) szt150
            have hs161 : ∀ x ∈ [b140], Safe Z consts_1 s.vm h140 x := (sfS S_b140 sf0)
            replace S_b37 := Safe.keep KK150 hs161 CH S_b37
            replace S_b140 := Safe.keep KK150 hs161 CH S_b140
            replace S_t150 := Safe.keep KK150 hs161 CH S_t150
            replace CR := CR.trans (CHr.keep KK150 hs161 CH)
            replace CH := CHv.keep KK150 hs161 CH
            replace hk := Nat.le_trans hk KK150.1
            replace O0 := O0.keep KK150 (allS g_b140 (all0))
            replace V37 := V37.keep KK150 (ninS ne148 nin0)
            replace A140 := A140.keep KK150
            have K162 := K149.trans KK150 (allS (Or.inr sz_b140) all0)
            refine own_go (fun _ kk_ => st150.trans kk_) ?_
            refine own_go (fun _ kk_ => XS.astore X150.here hx rfl (hb hby at_222) rfl rfl (l' := #[.val (.int mode), .val (.int pos), .val (.int ch), .val (.int oth), .val (.int (mode &&& (7 : Int32))), .val (.int (0 : Int32)), .val (.int (ch &&& (255 : Int32))), .val (.int cz), .val (.ref b37), .val (.ref ia), .val (.int pp), .val (.ref b140), .unset, .val (.int (([(105 : Int32), (110 : Int32), (100 : Int32), (105 : Int32), (118 : Int32), (105 : Int32), (100 : Int32), (117 : Int32), (97 : Int32), (108 : Int32)] : List Int32).getD pp.toNatClampNeg 0))]) rfl kk_) ?_
            refine own_go (fun _ kk_ => XS.iload X150.here hx rfl (hb hby at_224) rfl kk_) ?_
            show own_Fin p.tables e below _ (T150.setTop (mkF m 226 #[.val (.int mode), .val (.int pos), .val (.int ch), .val (.int oth), .val (.int (mode &&& (7 : Int32))), .val (.int (0 : Int32)), .val (.int (ch &&& (255 : Int32))), .val (.int cz), .val (.ref b37), .val (.ref ia), .val (.int pp), .val (.ref b140), .unset, .val (.int (([(105 : Int32), (110 : Int32), (100 : Int32), (105 : Int32), (118 : Int32), (105 : Int32), (100 : Int32), (117 : Int32), (97 : Int32), (108 : Int32)] : List Int32).getD pp.toNatClampNeg 0))] [(.int cz)]))
            refine own_go (fun _ kk_ => XS.ifYes X150.here hx rfl (pc0 := 226) (pc' := 236) rfl (hb hby at_226) rfl ((if0 _ _).trans (teq hc139).1) (by decide) (by decide) kk_) ?_
            refine own_go (fun _ kk_ => XS.aload X150.here hx rfl (hb hby at_236) rfl rfl kk_) ?_
            refine own_go (fun _ kk_ => XS.goto X150.here hx rfl (pc0 := 238) (pc' := 242) rfl (hb hby at_238) (by decide) (by decide) kk_) ?_
            refine own_go (fun _ kk_ => XS.astore X150.here hx rfl (hb hby at_242) rfl rfl (l' := #[.val (.int mode), .val (.int pos), .val (.int ch), .val (.int oth), .val (.int (mode &&& (7 : Int32))), .val (.int (0 : Int32)), .val (.int (ch &&& (255 : Int32))), .val (.int cz), .val (.ref b37), .val (.ref ia), .val (.int pp), .val (.ref b140), .val (.ref ia), .val (.int (([(105 : Int32), (110 : Int32), (100 : Int32), (105 : Int32), (118 : Int32), (105 : Int32), (100 : Int32), (117 : Int32), (97 : Int32), (108 : Int32)] : List Int32).getD pp.toNatClampNeg 0))]) rfl kk_) ?_
            refine own_go (fun _ kk_ => XS.goto X150.here hx rfl (pc0 := 244) (pc' := 651) rfl (hb hby at_244) (by decide) (by decide) kk_) ?_
            refine own_go (fun _ kk_ => XS.aload X150.here hx rfl (hb hby at_651) rfl rfl kk_) ?_
            show own_Fin p.tables e below _ (T150.setTop (mkF m 653 #[.val (.int mode), .val (.int pos), .val (.int ch), .val (.int oth), .val (.int (mode &&& (7 : Int32))), .val (.int (0 : Int32)), .val (.int (ch &&& (255 : Int32))), .val (.int cz), .val (.ref b37), .val (.ref ia), .val (.int pp), .val (.ref b140), .val (.ref ia), .val (.int (([(105 : Int32), (110 : Int32), (100 : Int32), (105 : Int32), (118 : Int32), (105 : Int32), (100 : Int32), (117 : Int32), (97 : Int32), (108 : Int32)] : List Int32).getD pp.toNatClampNeg 0))] [(.ref b140)]))
            obtain ⟨_, _, ⟨T163, L163, k163, n163⟩, -, X163, ⟨Lc163, hQ163, l163, y163, z163⟩, st163⟩ := Jvm.LawKit.callS X150 hx (y := (⟨"com/example/hebelwerk/hebelwerk/model/DividendMethod", "written", "(Ljava/lang/String;)Lcom/example/hebelwerk/hebelwerk/model/DividendMethod;"⟩ : MethodName)) hown (mvT hZ (hw _ (List.mem_of_getElem? (i := 34) rfl))) (mvT hZ (hw _ (List.mem_of_getElem? (i := 35) rfl))) (mvT hZ (hw _ (List.mem_of_getElem? (i := 2) rfl))) (mvT hZ (hw _ (List.mem_of_getElem? (i := 36) rfl))) (by decide) (backOf (W := 0) (rm_wrS l Z a0 hw [] b140 t150 ([(105 : Int32), (110 : Int32), (100 : Int32), (105 : Int32), (118 : Int32), (105 : Int32), (100 : Int32), (117 : Int32), (97 : Int32), (108 : Int32)] : List Int32) va vk ia sa wi ti wj tj gc T150.heap n0 (Nat.le_trans Z0 K162.1) SS150 S_V V_V E_V F_i F_j S_i S_j S_C hcs O0) hZ (hw _ (List.mem_of_getElem? (i := 36) rfl)) (hw _ (List.mem_of_getElem? (i := 2) rfl)) (by decide) (by decide)) (g := (mkF m 653 #[.val (.int mode), .val (.int pos), .val (.int ch), .val (.int oth), .val (.int (mode &&& (7 : Int32))), .val (.int (0 : Int32)), .val (.int (ch &&& (255 : Int32))), .val (.int cz), .val (.ref b37), .val (.ref ia), .val (.int pp), .val (.ref b140), .val (.ref ia), .val (.int (([(105 : Int32), (110 : Int32), (100 : Int32), (105 : Int32), (118 : Int32), (105 : Int32), (100 : Int32), (117 : Int32), (97 : Int32), (108 : Int32)] : List Int32).getD pp.toNatClampNeg 0))] [(.ref b140)])) rfl (by rw [hml]; rfl) (argsL := [(.ref b140)]) (rest := []) (lenOf pd_6 rfl) rfl (by show 2 * 0 + _ ≤ _; exact Nat.le_of_eq rfl) (hb hby at_653) (fun _ _ => ⟨rfl, rfl, (by decide : 3 + 1 ≤ _), (by decide : 24 + 2 ≤ _)⟩)
            dsimp only [Pt.U, Pt.locs, Pt.cells, Pt.slots] at X163 l163 y163 z163 st163 hQ163
            subst l163 y163 z163
            obtain ⟨N163q, KK163, y1_163, y2_163, y3_163⟩ := hQ163
            obtain rfl := y1_163 rfl
            have N163 := Fr.app N150 N163q
            have hs164 : ∀ x ∈ [], Safe Z consts_1 s.vm T150.heap x := sf0
            replace S_b37 := Safe.keep KK163 hs164 CH S_b37
            replace S_b140 := Safe.keep KK163 hs164 CH S_b140
            replace S_t150 := Safe.keep KK163 hs164 CH S_t150
            replace CR := CR.trans (CHr.keep KK163 hs164 CH)
            replace CH := CHv.keep KK163 hs164 CH
            replace hk := Nat.le_trans hk KK163.1
            replace O0 := O0.keep KK163 all0
            replace V37 := V37.keep KK163 nin0
            replace SS150 := SS150.keep KK163 nin0 nin0
            have K165 := K162.trans KK163 all0
            refine own_go st163 ?_
            refine own_go (fun _ kk_ => XS.aload X163.here hx rfl (hb hby at_656) rfl rfl kk_) ?_
            show own_Fin p.tables e below _ (T163.setTop (mkF m 658 #[.val (.int mode), .val (.int pos), .val (.int ch), .val (.int oth), .val (.int (mode &&& (7 : Int32))), .val (.int (0 : Int32)), .val (.int (ch &&& (255 : Int32))), .val (.int cz), .val (.ref b37), .val (.ref ia), .val (.int pp), .val (.ref b140), .val (.ref ia), .val (.int (([(105 : Int32), (110 : Int32), (100 : Int32), (105 : Int32), (118 : Int32), (105 : Int32), (100 : Int32), (117 : Int32), (97 : Int32), (108 : Int32)] : List Int32).getD pp.toNatClampNeg 0))] [(.ref ia), (.ref ia)]))
            refine own_go (fun _ kk_ => acmp (g := (mkF m 658 #[.val (.int mode), .val (.int pos), .val (.int ch), .val (.int oth), .val (.int (mode &&& (7 : Int32))), .val (.int (0 : Int32)), .val (.int (ch &&& (255 : Int32))), .val (.int cz), .val (.ref b37), .val (.ref ia), .val (.int pp), .val (.ref b140), .val (.ref ia), .val (.int (([(105 : Int32), (110 : Int32), (100 : Int32), (105 : Int32), (118 : Int32), (105 : Int32), (100 : Int32), (117 : Int32), (97 : Int32), (108 : Int32)] : List Int32).getD pp.toNatClampNeg 0))] [(.ref ia), (.ref ia)])) X163 hx rfl rfl rfl (pc0 := 658) (pc' := 661) (same := true) rfl (hb hby at_658) rfl (by simp) (by decide) (by decide) kk_) ?_
            refine own_go (fun _ kk_ => XS.iconst X163.here hx rfl (hb hby at_661) kk_) ?_
            refine own_go (fun _ kk_ => XS.goto X163.here hx rfl (pc0 := 662) (pc' := 666) rfl (hb hby at_662) (by decide) (by decide) kk_) ?_
            show own_Fin p.tables e below _ (T163.setTop (mkF m 666 #[.val (.int mode), .val (.int pos), .val (.int ch), .val (.int oth), .val (.int (mode &&& (7 : Int32))), .val (.int (0 : Int32)), .val (.int (ch &&& (255 : Int32))), .val (.int cz), .val (.ref b37), .val (.ref ia), .val (.int pp), .val (.ref b140), .val (.ref ia), .val (.int (([(105 : Int32), (110 : Int32), (100 : Int32), (105 : Int32), (118 : Int32), (105 : Int32), (100 : Int32), (117 : Int32), (97 : Int32), (108 : Int32)] : List Int32).getD pp.toNatClampNeg 0))] [(.int (1 : Int32))]))
            have CRz : CHr Z consts_1 s.vm s.heap T163.vm T163.heap := by
              rw [hh]
              exact CR.trans (CHv.at X163 hZ hEL CH)
            refine own_retW X163 hx Bd hS hk (t := .boolean) Bd.returns rfl (Or.inl ⟨rfl, by simp, _, rfl⟩) (hb hby at_666) CRz ?_ (by decide) (by decide)
            show (Q_rm_law Z mode pos ch oth va vk ia sa wi ti wj tj gc h0 n0) (some (.int (1 : Int32))) T163.heap _
            exact ⟨rfl, N163⟩
          · skip
            refine own_go (fun _ kk_ => XS.ifNo X76.here hx rfl (hb hby at_203) rfl ((if0 _ _).trans (feq hc139).1) kk_) ?_
            refine own_go (fun _ kk_ => XS.aload X76.here hx rfl (hb hby at_206) rfl rfl kk_) ?_
            refine own_go (fun _ kk_ => XS.iload X76.here hx rfl (hb hby at_208) rfl kk_) ?_
            refine own_go (fun _ kk_ => XS.iload X76.here hx rfl (hb hby at_210) rfl kk_) ?_
            show own_Fin p.tables e below _ (T76.setTop (mkF m 212 #[.val (.int mode), .val (.int pos), .val (.int ch), .val (.int oth), .val (.int (mode &&& (7 : Int32))), .val (.int (0 : Int32)), .val (.int (ch &&& (255 : Int32))), .val (.int cz), .val (.ref b37), .val (.ref ia), .val (.int pp), .unset, .unset, .val (.int (([(105 : Int32), (110 : Int32), (100 : Int32), (105 : Int32), (118 : Int32), (105 : Int32), (100 : Int32), (117 : Int32), (97 : Int32), (108 : Int32)] : List Int32).getD pp.toNatClampNeg 0))] [(.int (ch &&& (255 : Int32))), (.int pp), (.ref b37)]))
            obtain ⟨T166, h166, X166, e166, W166, V166, st166⟩ := own_stC X76 hx hZ e76 V37 hpp (i := pp.toNatClampNeg) rfl hpn (g := (mkF m 212 #[.val (.int mode), .val (.int pos), .val (.int ch), .val (.int oth), .val (.int (mode &&& (7 : Int32))), .val (.int (0 : Int32)), .val (.int (ch &&& (255 : Int32))), .val (.int cz), .val (.ref b37), .val (.ref ia), .val (.int pp), .unset, .unset, .val (.int (([(105 : Int32), (110 : Int32), (100 : Int32), (105 : Int32), (118 : Int32), (105 : Int32), (100 : Int32), (117 : Int32), (97 : Int32), (108 : Int32)] : List Int32).getD pp.toNatClampNeg 0))] [(.int (ch &&& (255 : Int32))), (.int pp), (.ref b37)])) rfl rfl (hb hby at_212)
            rw [own_nar255] at V166
            replace V37 : Arv Z h166 b37 k37 .char (10 : Int32) ([(.int (105 : Int32)), (.int (110 : Int32)), (.int (100 : Int32)), (.int (105 : Int32)), (.int (118 : Int32)), (.int (105 : Int32)), (.int (100 : Int32)), (.int (117 : Int32)), (.int (97 : Int32)), (.int (108 : Int32))].set pp.toNatClampNeg (.int (ch &&& (255 : Int32)))) (.int (0 : Int32)) := V166
            have N166 := Fr.snoc X166 N73 g_b37
            refine own_go st166 ?_
            have sa167 := S_b37
            replace S_b37 := Safe.wr W166 sa167 CH S_b37
            replace CR := CR.trans (CHr.wr W166 sa167 CH)
            replace CH := CHv.wr W166 sa167 CH
            replace hk := Nat.le_trans hk (Keep.of_wr W166).1
            replace O0 := O0.wr W166 g_b37
            have K168 := K75.wr W166 (Or.inr sz_b37)
            replace V37 : Arv Z h166 b37 k37 .char (10 : Int32) ((([(105 : Int32), (110 : Int32), (100 : Int32), (105 : Int32), (118 : Int32), (105 : Int32), (100 : Int32), (117 : Int32), (97 : Int32), (108 : Int32)] : List Int32).set pp.toNatClampNeg (ch &&& (255 : Int32))).map Value.int) (.int (0 : Int32)) := by rw [List.map_set]; exact V37
            show own_Fin p.tables e below _ (T166.setTop (mkF m 213 #[.val (.int mode), .val (.int pos), .val (.int ch), .val (.int oth), .val (.int (mode &&& (7 : Int32))), .val (.int (0 : Int32)), .val (.int (ch &&& (255 : Int32))), .val (.int cz), .val (.ref b37), .val (.ref ia), .val (.int pp), .unset, .unset, .val (.int (([(105 : Int32), (110 : Int32), (100 : Int32), (105 : Int32), (118 : Int32), (105 : Int32), (100 : Int32), (117 : Int32), (97 : Int32), (108 : Int32)] : List Int32).getD pp.toNatClampNeg 0))] []))
            obtain ⟨T169, h169, X169, e169, E169, A169, D169, -, st169⟩ := newO X166 hx hZ hown (hw _ (List.mem_of_getElem? (i := 5) rfl)) (hw _ (List.mem_of_getElem? (i := 6) rfl)) (hw _ (List.mem_of_getElem? (i := 7) rfl)) e166 (g := (mkF m 213 #[.val (.int mode), .val (.int pos), .val (.int ch), .val (.int oth), .val (.int (mode &&& (7 : Int32))), .val (.int (0 : Int32)), .val (.int (ch &&& (255 : Int32))), .val (.int cz), .val (.ref b37), .val (.ref ia), .val (.int pp), .unset, .unset, .val (.int (([(105 : Int32), (110 : Int32), (100 : Int32), (105 : Int32), (118 : Int32), (105 : Int32), (100 : Int32), (117 : Int32), (97 : Int32), (108 : Int32)] : List Int32).getD pp.toNatClampNeg 0))] [])) rfl (hb hby at_213) (by decide) (by decide)
            obtain ⟨b169, g169⟩ : ∃ z, z = h166.size := ⟨_, rfl⟩
            rw [← g169] at A169 D169 st169
            have sz_b169 : h0.size ≤ b169 := Nat.le_trans K168.1 (Nat.le_of_eq g169.symm)
            have g_b169 : n0 ≤ b169 := Nat.le_trans Z0 sz_b169
            have ne170 : va ≠ b169 := O0.ne V_V.lt g_b169
            have ne171 : ia ≠ b169 := O0.ne F_i.lt g_b169
            have ne172 : sa ≠ b169 := O0.ne F_j.lt g_b169
            have ne173 : wi ≠ b169 := O0.ne S_i.lt g_b169
            have ne174 : ti ≠ b169 := O0.ne S_i.ltt g_b169
            have ne175 : wj ≠ b169 := O0.ne S_j.lt g_b169
            have ne176 : tj ≠ b169 := O0.ne S_j.ltt g_b169
            have ne177 : b37 ≠ b169 := Nat.ne_of_lt (Nat.lt_of_lt_of_le V37.lt (Nat.le_of_eq g169.symm))
            have S_b169 := Safe.new (Z := Z) (EL := consts_1) (vm := s.vm) (Nat.le_of_eq g169.symm)
            replace S_b37 := Safe.ext E169 CH S_b37
            replace S_b169 := Safe.ext E169 CH S_b169
            replace CR := CR.trans (CHr.ext E169 CH)
            replace CH := CH.ext E169
            replace hk := Nat.le_trans hk E169.1
            replace O0 := O0.ext E169
            replace V37 := V37.ext E169
            have K178 := K168.ext E169
            have F169_coder : Fld Z h169 b169 "java/lang/String" "coder" "B" (.int (0 : Int32)) := D169 (Or.inr (hw _ (List.mem_of_getElem? (i := 31) rfl))) (ty := .byte) (by decide)
            have F169_value : Fld Z h169 b169 "java/lang/String" "value" "[B" .null := D169 (Or.inr (hw _ (List.mem_of_getElem? (i := 33) rfl))) (ty := (.array .byte)) (by decide)
            refine own_go st169 ?_
            refine own_go (fun _ kk_ => XS.dup X169.here hx rfl (hb hby at_216) rfl rfl kk_) ?_
            refine own_go (fun _ kk_ => XS.aload X169.here hx rfl (hb hby at_217) rfl rfl kk_) ?_
            show own_Fin p.tables e below _ (T169.setTop (mkF m 219 #[.val (.int mode), .val (.int pos), .val (.int ch), .val (.int oth), .val (.int (mode &&& (7 : Int32))), .val (.int (0 : Int32)), .val (.int (ch &&& (255 : Int32))), .val (.int cz), .val (.ref b37), .val (.ref ia), .val (.int pp), .unset, .unset, .val (.int (([(105 : Int32), (110 : Int32), (100 : Int32), (105 : Int32), (118 : Int32), (105 : Int32), (100 : Int32), (117 : Int32), (97 : Int32), (108 : Int32)] : List Int32).getD pp.toNatClampNeg 0))] [(.ref b37), (.ref b169), (.ref b169)]))
            have hp180 : ∀ c ∈ (([(105 : Int32), (110 : Int32), (100 : Int32), (105 : Int32), (118 : Int32), (105 : Int32), (100 : Int32), (117 : Int32), (97 : Int32), (108 : Int32)] : List Int32).set pp.toNatClampNeg (ch &&& (255 : Int32))), ¬ c < 0 ∧ ¬ (255 : Int32) < c := own_set255 (by decide) (own_and255 _)
            obtain ⟨_, _, ⟨T179, L179, k179, n179⟩, -, X179, ⟨Lc179, hQ179, l179, y179, z179⟩, st179⟩ := X169.specialBack hx (y := (⟨"java/lang/String", "<init>", "([C)V"⟩ : MethodName)) rfl hown (mvT hZ (hw _ (List.mem_of_getElem? (i := 8) rfl))) (mvT hZ (hw _ (List.mem_of_getElem? (i := 9) rfl))) (mvT hZ (hw _ (List.mem_of_getElem? (i := 10) rfl))) (by decide) (StrChars.Road.backV (W := 1) hZ hws (kI := 4) (hw _ (List.mem_of_getElem? (i := 6) rfl)) (cs := (([(105 : Int32), (110 : Int32), (100 : Int32), (105 : Int32), (118 : Int32), (105 : Int32), (100 : Int32), (117 : Int32), (97 : Int32), (108 : Int32)] : List Int32).set pp.toNatClampNeg (ch &&& (255 : Int32)))) (bs := ((([(105 : Int32), (110 : Int32), (100 : Int32), (105 : Int32), (118 : Int32), (105 : Int32), (100 : Int32), (117 : Int32), (97 : Int32), (108 : Int32)] : List Int32).set pp.toNatClampNeg (ch &&& (255 : Int32)))).map (fun c => c.toInt8.toInt32)) (n := 10) g_b169 (Nat.le_trans Z0 K178.1) A169 F169_value F169_coder V37 (S_C.ext O0.2) hcs (by simp) rfl (by decide) (by decide) hp180 rfl (by decide) (by decide)) (g := (mkF m 219 #[.val (.int mode), .val (.int pos), .val (.int ch), .val (.int oth), .val (.int (mode &&& (7 : Int32))), .val (.int (0 : Int32)), .val (.int (ch &&& (255 : Int32))), .val (.int cz), .val (.ref b37), .val (.ref ia), .val (.int pp), .unset, .unset, .val (.int (([(105 : Int32), (110 : Int32), (100 : Int32), (105 : Int32), (118 : Int32), (105 : Int32), (100 : Int32), (117 : Int32), (97 : Int32), (108 : Int32)] : List Int32).getD pp.toNatClampNeg 0))] [(.ref b37), (.ref b169), (.ref b169)])) rfl (by rw [hml]; rfl) (Steps.refl _) (a := b169) (argsL := [(.ref b37)]) (rest := [(.ref b169)]) (lenOf pd_5 rfl) rfl (by show 2 * 0 + _ ≤ _; exact Nat.le_of_eq rfl) (hb hby at_219) (fun _ _ => ⟨rfl, e169, (by decide : 2 + 1 ≤ _), (by decide : 14 + 10 ≤ _)⟩)
            dsimp only [Pt.U, Pt.locs, Pt.cells, Pt.slots] at X179 l179 y179 z179 st179 hQ179
            subst l179 y179 z179
            obtain ⟨rfl, N179q, KK179, EE179, FC179, t179, kb179, gt179, szt179, netx179, FV179, VV179⟩ := hQ179
            have N179 := Fr.app N166 N179q
            have SS179 : own_Str Z T179.heap b169 t179 (([(105 : Int32), (110 : Int32), (100 : Int32), (105 : Int32), (118 : Int32), (105 : Int32), (100 : Int32), (117 : Int32), (97 : Int32), (108 : Int32)] : List Int32).set pp.toNatClampNeg (ch &&& (255 : Int32))) := ⟨_, _, _, _, EE179, FV179, FC179, VV179, StrChars.Road.codOf (n := 10) (by simp) (fun c hc => (hp180 c hc).2), own_up _ hp180, by simp⟩
            have sz_t179 : h0.size ≤ t179 := Nat.le_trans K178.1 szt179
            have ne181 : va ≠ t179 := O0.ne V_V.lt gt179
            have ne182 : ia ≠ t179 := O0.ne F_i.lt gt179
            have ne183 : sa ≠ t179 := O0.ne F_j.lt gt179
            have ne184 : wi ≠ t179 := O0.ne S_i.lt gt179
            have ne185 : ti ≠ t179 := O0.ne S_i.ltt gt179
            have ne186 : wj ≠ t179 := O0.ne S_j.lt gt179
            have ne187 : tj ≠ t179 := O0.ne S_j.ltt gt179
            have ne188 : b37 ≠ t179 := Nat.ne_of_lt (Nat.lt_of_lt_of_le V37.lt szt179)
            have ne189 : b169 ≠ t179 := Nat.ne_of_lt (Nat.lt_of_lt_of_le A169.lt szt179)
            have S_t179 := Safe.new (Z := Z) (EL := consts_1) (vm := s.vm) szt179
            have hs190 : ∀ x ∈ [b169], Safe Z consts_1 s.vm h169 x := (sfS S_b169 sf0)
            replace S_b37 := Safe.keep KK179 hs190 CH S_b37
            replace S_b169 := Safe.keep KK179 hs190 CH S_b169
            replace S_t179 := Safe.keep KK179 hs190 CH S_t179
            replace CR := CR.trans (CHr.keep KK179 hs190 CH)
            replace CH := CHv.keep KK179 hs190 CH
            replace hk := Nat.le_trans hk KK179.1
            replace O0 := O0.keep KK179 (allS g_b169 (all0))
            replace V37 := V37.keep KK179 (ninS ne177 nin0)
            replace A169 := A169.keep KK179
            have K191 := K178.trans KK179 (allS (Or.inr sz_b169) all0)
            refine own_go (fun _ kk_ => st179.trans kk_) ?_
            refine own_go (fun _ kk_ => XS.astore X179.here hx rfl (hb hby at_222) rfl rfl (l' := #[.val (.int mode), .val (.int pos), .val (.int ch), .val (.int oth), .val (.int (mode &&& (7 : Int32))), .val (.int (0 : Int32)), .val (.int (ch &&& (255 : Int32))), .val (.int cz), .val (.ref b37), .val (.ref ia), .val (.int pp), .val (.ref b169), .unset, .val (.int (([(105 : Int32), (110 : Int32), (100 : Int32), (105 : Int32), (118 : Int32), (105 : Int32), (100 : Int32), (117 : Int32), (97 : Int32), (108 : Int32)] : List Int32).getD pp.toNatClampNeg 0))]) rfl kk_) ?_
            refine own_go (fun _ kk_ => XS.iload X179.here hx rfl (hb hby at_224) rfl kk_) ?_
            show own_Fin p.tables e below _ (T179.setTop (mkF m 226 #[.val (.int mode), .val (.int pos), .val (.int ch), .val (.int oth), .val (.int (mode &&& (7 : Int32))), .val (.int (0 : Int32)), .val (.int (ch &&& (255 : Int32))), .val (.int cz), .val (.ref b37), .val (.ref ia), .val (.int pp), .val (.ref b169), .unset, .val (.int (([(105 : Int32), (110 : Int32), (100 : Int32), (105 : Int32), (118 : Int32), (105 : Int32), (100 : Int32), (117 : Int32), (97 : Int32), (108 : Int32)] : List Int32).getD pp.toNatClampNeg 0))] [(.int cz)]))
            refine own_go (fun _ kk_ => XS.ifNo X179.here hx rfl (hb hby at_226) rfl ((if0 _ _).trans (feq hc139).1) kk_) ?_
            refine own_go (fun _ kk_ => XS.iload X179.here hx rfl (hb hby at_229) rfl kk_) ?_
            refine own_go (fun _ kk_ => XS.iload X179.here hx rfl (hb hby at_231) rfl kk_) ?_
            show own_Fin p.tables e below _ (T179.setTop (mkF m 233 #[.val (.int mode), .val (.int pos), .val (.int ch), .val (.int oth), .val (.int (mode &&& (7 : Int32))), .val (.int (0 : Int32)), .val (.int (ch &&& (255 : Int32))), .val (.int cz), .val (.ref b37), .val (.ref ia), .val (.int pp), .val (.ref b169), .unset, .val (.int (([(105 : Int32), (110 : Int32), (100 : Int32), (105 : Int32), (118 : Int32), (105 : Int32), (100 : Int32), (117 : Int32), (97 : Int32), (108 : Int32)] : List Int32).getD pp.toNatClampNeg 0))] [(.int (([(105 : Int32), (110 : Int32), (100 : Int32), (105 : Int32), (118 : Int32), (105 : Int32), (100 : Int32), (117 : Int32), (97 : Int32), (108 : Int32)] : List Int32).getD pp.toNatClampNeg 0)), (.int (ch &&& (255 : Int32)))]))
            by_cases hc192 : (ch &&& (255 : Int32)) = (([(105 : Int32), (110 : Int32), (100 : Int32), (105 : Int32), (118 : Int32), (105 : Int32), (100 : Int32), (117 : Int32), (97 : Int32), (108 : Int32)] : List Int32).getD pp.toNatClampNeg 0)
            · skip
              refine own_go (fun _ kk_ => XS.icmpNo X179.here hx rfl (hb hby at_233) rfl (teq hc192).2 kk_) ?_
              refine own_go (fun _ kk_ => XS.aload X179.here hx rfl (hb hby at_236) rfl rfl kk_) ?_
              refine own_go (fun _ kk_ => XS.goto X179.here hx rfl (pc0 := 238) (pc' := 242) rfl (hb hby at_238) (by decide) (by decide) kk_) ?_
              refine own_go (fun _ kk_ => XS.astore X179.here hx rfl (hb hby at_242) rfl rfl (l' := #[.val (.int mode), .val (.int pos), .val (.int ch), .val (.int oth), .val (.int (mode &&& (7 : Int32))), .val (.int (0 : Int32)), .val (.int (ch &&& (255 : Int32))), .val (.int cz), .val (.ref b37), .val (.ref ia), .val (.int pp), .val (.ref b169), .val (.ref ia), .val (.int (([(105 : Int32), (110 : Int32), (100 : Int32), (105 : Int32), (118 : Int32), (105 : Int32), (100 : Int32), (117 : Int32), (97 : Int32), (108 : Int32)] : List Int32).getD pp.toNatClampNeg 0))]) rfl kk_) ?_
              refine own_go (fun _ kk_ => XS.goto X179.here hx rfl (pc0 := 244) (pc' := 651) rfl (hb hby at_244) (by decide) (by decide) kk_) ?_
              refine own_go (fun _ kk_ => XS.aload X179.here hx rfl (hb hby at_651) rfl rfl kk_) ?_
              show own_Fin p.tables e below _ (T179.setTop (mkF m 653 #[.val (.int mode), .val (.int pos), .val (.int ch), .val (.int oth), .val (.int (mode &&& (7 : Int32))), .val (.int (0 : Int32)), .val (.int (ch &&& (255 : Int32))), .val (.int cz), .val (.ref b37), .val (.ref ia), .val (.int pp), .val (.ref b169), .val (.ref ia), .val (.int (([(105 : Int32), (110 : Int32), (100 : Int32), (105 : Int32), (118 : Int32), (105 : Int32), (100 : Int32), (117 : Int32), (97 : Int32), (108 : Int32)] : List Int32).getD pp.toNatClampNeg 0))] [(.ref b169)]))
              obtain ⟨_, _, ⟨T193, L193, k193, n193⟩, -, X193, ⟨Lc193, hQ193, l193, y193, z193⟩, st193⟩ := Jvm.LawKit.callS X179 hx (y := (⟨"com/example/hebelwerk/hebelwerk/model/DividendMethod", "written", "(Ljava/lang/String;)Lcom/example/hebelwerk/hebelwerk/model/DividendMethod;"⟩ : MethodName)) hown (mvT hZ (hw _ (List.mem_of_getElem? (i := 34) rfl))) (mvT hZ (hw _ (List.mem_of_getElem? (i := 35) rfl))) (mvT hZ (hw _ (List.mem_of_getElem? (i := 2) rfl))) (mvT hZ (hw _ (List.mem_of_getElem? (i := 36) rfl))) (by decide) (backOf (W := 0) (rm_wrS l Z a0 hw [] b169 t179 (([(105 : Int32), (110 : Int32), (100 : Int32), (105 : Int32), (118 : Int32), (105 : Int32), (100 : Int32), (117 : Int32), (97 : Int32), (108 : Int32)] : List Int32).set pp.toNatClampNeg (ch &&& (255 : Int32))) va vk ia sa wi ti wj tj gc T179.heap n0 (Nat.le_trans Z0 K191.1) SS179 S_V V_V E_V F_i F_j S_i S_j S_C hcs O0) hZ (hw _ (List.mem_of_getElem? (i := 36) rfl)) (hw _ (List.mem_of_getElem? (i := 2) rfl)) (by decide) (by decide)) (g := (mkF m 653 #[.val (.int mode), .val (.int pos), .val (.int ch), .val (.int oth), .val (.int (mode &&& (7 : Int32))), .val (.int (0 : Int32)), .val (.int (ch &&& (255 : Int32))), .val (.int cz), .val (.ref b37), .val (.ref ia), .val (.int pp), .val (.ref b169), .val (.ref ia), .val (.int (([(105 : Int32), (110 : Int32), (100 : Int32), (105 : Int32), (118 : Int32), (105 : Int32), (100 : Int32), (117 : Int32), (97 : Int32), (108 : Int32)] : List Int32).getD pp.toNatClampNeg 0))] [(.ref b169)])) rfl (by rw [hml]; rfl) (argsL := [(.ref b169)]) (rest := []) (lenOf pd_6 rfl) rfl (by show 2 * 0 + _ ≤ _; exact Nat.le_of_eq rfl) (hb hby at_653) (fun _ _ => ⟨rfl, rfl, (by decide : 3 + 1 ≤ _), (by decide : 24 + 2 ≤ _)⟩)
              dsimp only [Pt.U, Pt.locs, Pt.cells, Pt.slots] at X193 l193 y193 z193 st193 hQ193
              subst l193 y193 z193
              obtain ⟨N193q, KK193, y1_193, y2_193, y3_193⟩ := hQ193
              obtain rfl := y1_193 (own_set_self hpn hc192)
              have N193 := Fr.app N179 N193q
              have hs194 : ∀ x ∈ [], Safe Z consts_1 s.vm T179.heap x := sf0
              replace S_b37 := Safe.keep KK193 hs194 CH S_b37
              replace S_b169 := Safe.keep KK193 hs194 CH S_b169
              replace S_t179 := Safe.keep KK193 hs194 CH S_t179
              replace CR := CR.trans (CHr.keep KK193 hs194 CH)
              replace CH := CHv.keep KK193 hs194 CH
              replace hk := Nat.le_trans hk KK193.1
              replace O0 := O0.keep KK193 all0
              replace V37 := V37.keep KK193 nin0
              replace SS179 := SS179.keep KK193 nin0 nin0
              have K195 := K191.trans KK193 all0
              refine own_go st193 ?_
              refine own_go (fun _ kk_ => XS.aload X193.here hx rfl (hb hby at_656) rfl rfl kk_) ?_
              show own_Fin p.tables e below _ (T193.setTop (mkF m 658 #[.val (.int mode), .val (.int pos), .val (.int ch), .val (.int oth), .val (.int (mode &&& (7 : Int32))), .val (.int (0 : Int32)), .val (.int (ch &&& (255 : Int32))), .val (.int cz), .val (.ref b37), .val (.ref ia), .val (.int pp), .val (.ref b169), .val (.ref ia), .val (.int (([(105 : Int32), (110 : Int32), (100 : Int32), (105 : Int32), (118 : Int32), (105 : Int32), (100 : Int32), (117 : Int32), (97 : Int32), (108 : Int32)] : List Int32).getD pp.toNatClampNeg 0))] [(.ref ia), (.ref ia)]))
              refine own_go (fun _ kk_ => acmp (g := (mkF m 658 #[.val (.int mode), .val (.int pos), .val (.int ch), .val (.int oth), .val (.int (mode &&& (7 : Int32))), .val (.int (0 : Int32)), .val (.int (ch &&& (255 : Int32))), .val (.int cz), .val (.ref b37), .val (.ref ia), .val (.int pp), .val (.ref b169), .val (.ref ia), .val (.int (([(105 : Int32), (110 : Int32), (100 : Int32), (105 : Int32), (118 : Int32), (105 : Int32), (100 : Int32), (117 : Int32), (97 : Int32), (108 : Int32)] : List Int32).getD pp.toNatClampNeg 0))] [(.ref ia), (.ref ia)])) X193 hx rfl rfl rfl (pc0 := 658) (pc' := 661) (same := true) rfl (hb hby at_658) rfl (by simp) (by decide) (by decide) kk_) ?_
              refine own_go (fun _ kk_ => XS.iconst X193.here hx rfl (hb hby at_661) kk_) ?_
              refine own_go (fun _ kk_ => XS.goto X193.here hx rfl (pc0 := 662) (pc' := 666) rfl (hb hby at_662) (by decide) (by decide) kk_) ?_
              show own_Fin p.tables e below _ (T193.setTop (mkF m 666 #[.val (.int mode), .val (.int pos), .val (.int ch), .val (.int oth), .val (.int (mode &&& (7 : Int32))), .val (.int (0 : Int32)), .val (.int (ch &&& (255 : Int32))), .val (.int cz), .val (.ref b37), .val (.ref ia), .val (.int pp), .val (.ref b169), .val (.ref ia), .val (.int (([(105 : Int32), (110 : Int32), (100 : Int32), (105 : Int32), (118 : Int32), (105 : Int32), (100 : Int32), (117 : Int32), (97 : Int32), (108 : Int32)] : List Int32).getD pp.toNatClampNeg 0))] [(.int (1 : Int32))]))
              have CRz : CHr Z consts_1 s.vm s.heap T193.vm T193.heap := by
                rw [hh]
                exact CR.trans (CHv.at X193 hZ hEL CH)
              refine own_retW X193 hx Bd hS hk (t := .boolean) Bd.returns rfl (Or.inl ⟨rfl, by simp, _, rfl⟩) (hb hby at_666) CRz ?_ (by decide) (by decide)
              show (Q_rm_law Z mode pos ch oth va vk ia sa wi ti wj tj gc h0 n0) (some (.int (1 : Int32))) T193.heap _
              exact ⟨rfl, N193⟩
            · skip
              refine own_go (fun _ kk_ => XS.icmpYes X179.here hx rfl (pc0 := 233) (pc' := 241) rfl (hb hby at_233) rfl (feq hc192).2 (by decide) (by decide) kk_) ?_
              refine own_go (fun _ kk_ => XS.aconstNull X179.here hx rfl (hb hby at_241) kk_) ?_
              refine own_go (fun _ kk_ => XS.astore X179.here hx rfl (hb hby at_242) rfl rfl (l' := #[.val (.int mode), .val (.int pos), .val (.int ch), .val (.int oth), .val (.int (mode &&& (7 : Int32))), .val (.int (0 : Int32)), .val (.int (ch &&& (255 : Int32))), .val (.int cz), .val (.ref b37), .val (.ref ia), .val (.int pp), .val (.ref b169), .val .null, .val (.int (([(105 : Int32), (110 : Int32), (100 : Int32), (105 : Int32), (118 : Int32), (105 : Int32), (100 : Int32), (117 : Int32), (97 : Int32), (108 : Int32)] : List Int32).getD pp.toNatClampNeg 0))]) rfl kk_) ?_
              refine own_go (fun _ kk_ => XS.goto X179.here hx rfl (pc0 := 244) (pc' := 651) rfl (hb hby at_244) (by decide) (by decide) kk_) ?_
              refine own_go (fun _ kk_ => XS.aload X179.here hx rfl (hb hby at_651) rfl rfl kk_) ?_
              show own_Fin p.tables e below _ (T179.setTop (mkF m 653 #[.val (.int mode), .val (.int pos), .val (.int ch), .val (.int oth), .val (.int (mode &&& (7 : Int32))), .val (.int (0 : Int32)), .val (.int (ch &&& (255 : Int32))), .val (.int cz), .val (.ref b37), .val (.ref ia), .val (.int pp), .val (.ref b169), .val .null, .val (.int (([(105 : Int32), (110 : Int32), (100 : Int32), (105 : Int32), (118 : Int32), (105 : Int32), (100 : Int32), (117 : Int32), (97 : Int32), (108 : Int32)] : List Int32).getD pp.toNatClampNeg 0))] [(.ref b169)]))
              obtain ⟨_, _, ⟨T196, L196, k196, n196⟩, -, X196, ⟨Lc196, hQ196, l196, y196, z196⟩, st196⟩ := Jvm.LawKit.callS X179 hx (y := (⟨"com/example/hebelwerk/hebelwerk/model/DividendMethod", "written", "(Ljava/lang/String;)Lcom/example/hebelwerk/hebelwerk/model/DividendMethod;"⟩ : MethodName)) hown (mvT hZ (hw _ (List.mem_of_getElem? (i := 34) rfl))) (mvT hZ (hw _ (List.mem_of_getElem? (i := 35) rfl))) (mvT hZ (hw _ (List.mem_of_getElem? (i := 2) rfl))) (mvT hZ (hw _ (List.mem_of_getElem? (i := 36) rfl))) (by decide) (backOf (W := 0) (rm_wrS l Z a0 hw [] b169 t179 (([(105 : Int32), (110 : Int32), (100 : Int32), (105 : Int32), (118 : Int32), (105 : Int32), (100 : Int32), (117 : Int32), (97 : Int32), (108 : Int32)] : List Int32).set pp.toNatClampNeg (ch &&& (255 : Int32))) va vk ia sa wi ti wj tj gc T179.heap n0 (Nat.le_trans Z0 K191.1) SS179 S_V V_V E_V F_i F_j S_i S_j S_C hcs O0) hZ (hw _ (List.mem_of_getElem? (i := 36) rfl)) (hw _ (List.mem_of_getElem? (i := 2) rfl)) (by decide) (by decide)) (g := (mkF m 653 #[.val (.int mode), .val (.int pos), .val (.int ch), .val (.int oth), .val (.int (mode &&& (7 : Int32))), .val (.int (0 : Int32)), .val (.int (ch &&& (255 : Int32))), .val (.int cz), .val (.ref b37), .val (.ref ia), .val (.int pp), .val (.ref b169), .val .null, .val (.int (([(105 : Int32), (110 : Int32), (100 : Int32), (105 : Int32), (118 : Int32), (105 : Int32), (100 : Int32), (117 : Int32), (97 : Int32), (108 : Int32)] : List Int32).getD pp.toNatClampNeg 0))] [(.ref b169)])) rfl (by rw [hml]; rfl) (argsL := [(.ref b169)]) (rest := []) (lenOf pd_6 rfl) rfl (by show 2 * 0 + _ ≤ _; exact Nat.le_of_eq rfl) (hb hby at_653) (fun _ _ => ⟨rfl, rfl, (by decide : 3 + 1 ≤ _), (by decide : 24 + 2 ≤ _)⟩)
              dsimp only [Pt.U, Pt.locs, Pt.cells, Pt.slots] at X196 l196 y196 z196 st196 hQ196
              subst l196 y196 z196
              obtain ⟨N196q, KK196, y1_196, y2_196, y3_196⟩ := hQ196
              obtain rfl := y3_196 (own_set_ne hpn hc192) (fun q => absurd (congrArg List.length q) (by simp))
              have N196 := Fr.app N179 N196q
              have hs197 : ∀ x ∈ [], Safe Z consts_1 s.vm T179.heap x := sf0
              replace S_b37 := Safe.keep KK196 hs197 CH S_b37
              replace S_b169 := Safe.keep KK196 hs197 CH S_b169
              replace S_t179 := Safe.keep KK196 hs197 CH S_t179
              replace CR := CR.trans (CHr.keep KK196 hs197 CH)
              replace CH := CHv.keep KK196 hs197 CH
              replace hk := Nat.le_trans hk KK196.1
              replace O0 := O0.keep KK196 all0
              replace V37 := V37.keep KK196 nin0
              replace SS179 := SS179.keep KK196 nin0 nin0
              have K198 := K191.trans KK196 all0
              refine own_go st196 ?_
              refine own_go (fun _ kk_ => XS.aload X196.here hx rfl (hb hby at_656) rfl rfl kk_) ?_
              show own_Fin p.tables e below _ (T196.setTop (mkF m 658 #[.val (.int mode), .val (.int pos), .val (.int ch), .val (.int oth), .val (.int (mode &&& (7 : Int32))), .val (.int (0 : Int32)), .val (.int (ch &&& (255 : Int32))), .val (.int cz), .val (.ref b37), .val (.ref ia), .val (.int pp), .val (.ref b169), .val .null, .val (.int (([(105 : Int32), (110 : Int32), (100 : Int32), (105 : Int32), (118 : Int32), (105 : Int32), (100 : Int32), (117 : Int32), (97 : Int32), (108 : Int32)] : List Int32).getD pp.toNatClampNeg 0))] [.null, .null]))
              refine own_go (fun _ kk_ => acmp (g := (mkF m 658 #[.val (.int mode), .val (.int pos), .val (.int ch), .val (.int oth), .val (.int (mode &&& (7 : Int32))), .val (.int (0 : Int32)), .val (.int (ch &&& (255 : Int32))), .val (.int cz), .val (.ref b37), .val (.ref ia), .val (.int pp), .val (.ref b169), .val .null, .val (.int (([(105 : Int32), (110 : Int32), (100 : Int32), (105 : Int32), (118 : Int32), (105 : Int32), (100 : Int32), (117 : Int32), (97 : Int32), (108 : Int32)] : List Int32).getD pp.toNatClampNeg 0))] [.null, .null])) X196 hx rfl rfl rfl (pc0 := 658) (pc' := 661) (same := true) rfl (hb hby at_658) rfl rfl (by decide) (by decide) kk_) ?_
              refine own_go (fun _ kk_ => XS.iconst X196.here hx rfl (hb hby at_661) kk_) ?_
              refine own_go (fun _ kk_ => XS.goto X196.here hx rfl (pc0 := 662) (pc' := 666) rfl (hb hby at_662) (by decide) (by decide) kk_) ?_
              show own_Fin p.tables e below _ (T196.setTop (mkF m 666 #[.val (.int mode), .val (.int pos), .val (.int ch), .val (.int oth), .val (.int (mode &&& (7 : Int32))), .val (.int (0 : Int32)), .val (.int (ch &&& (255 : Int32))), .val (.int cz), .val (.ref b37), .val (.ref ia), .val (.int pp), .val (.ref b169), .val .null, .val (.int (([(105 : Int32), (110 : Int32), (100 : Int32), (105 : Int32), (118 : Int32), (105 : Int32), (100 : Int32), (117 : Int32), (97 : Int32), (108 : Int32)] : List Int32).getD pp.toNatClampNeg 0))] [(.int (1 : Int32))]))
              have CRz : CHr Z consts_1 s.vm s.heap T196.vm T196.heap := by
                rw [hh]
                exact CR.trans (CHv.at X196 hZ hEL CH)
              refine own_retW X196 hx Bd hS hk (t := .boolean) Bd.returns rfl (Or.inl ⟨rfl, by simp, _, rfl⟩) (hb hby at_666) CRz ?_ (by decide) (by decide)
              show (Q_rm_law Z mode pos ch oth va vk ia sa wi ti wj tj gc h0 n0) (some (.int (1 : Int32))) T196.heap _
              exact ⟨rfl, N196⟩
        · skip
          refine own_go (fun _ kk_ => XS.icmpYes X76.here hx rfl (pc0 := 191) (pc' := 247) rfl (hb hby at_191) rfl (feq hc138).2 (by decide) (by decide) kk_) ?_
          refine own_go (fun _ kk_ => XS.iload X76.here hx rfl (hb hby at_247) rfl kk_) ?_
          refine own_go (fun _ kk_ => XS.iconst X76.here hx rfl (hb hby at_249) kk_) ?_
          show own_Fin p.tables e below _ (T76.setTop (mkF m 250 #[.val (.int mode), .val (.int pos), .val (.int ch), .val (.int oth), .val (.int (mode &&& (7 : Int32))), .val (.int (0 : Int32)), .val (.int (ch &&& (255 : Int32))), .val (.int cz), .val (.ref b37), .val (.ref ia), .val (.int pp), .unset, .unset, .unset] [(.int (2 : Int32)), (.int (mode &&& (7 : Int32)))]))
          by_cases hc199 : (mode &&& (7 : Int32)) = (2 : Int32)
          · skip
            refine own_go (fun _ kk_ => XS.icmpNo X76.here hx rfl (hb hby at_250) rfl (teq hc199).2 kk_) ?_
            refine own_go (fun _ kk_ => XS.iload X76.here hx rfl (hb hby at_253) rfl kk_) ?_
            show own_Fin p.tables e below _ (T76.setTop (mkF m 255 #[.val (.int mode), .val (.int pos), .val (.int ch), .val (.int oth), .val (.int (mode &&& (7 : Int32))), .val (.int (0 : Int32)), .val (.int (ch &&& (255 : Int32))), .val (.int cz), .val (.ref b37), .val (.ref ia), .val (.int pp), .unset, .unset, .unset] [(.int (0 : Int32))]))
            refine own_go (fun _ kk_ => XS.ifYes X76.here hx rfl (pc0 := 255) (pc' := 313) rfl (hb hby at_255) rfl ((if0 _ _).trans (teq (by decide : (0 : Int32) = (0 : Int32))).1) (by decide) (by decide) kk_) ?_
            refine own_go (fun _ kk_ => XS.bipush X76.here hx rfl (hb hby at_313) kk_) ?_
            show own_Fin p.tables e below _ (T76.setTop (mkF m 315 #[.val (.int mode), .val (.int pos), .val (.int ch), .val (.int oth), .val (.int (mode &&& (7 : Int32))), .val (.int (0 : Int32)), .val (.int (ch &&& (255 : Int32))), .val (.int cz), .val (.ref b37), .val (.ref ia), .val (.int pp), .unset, .unset, .unset] [(.int (11 : Int32))]))
            obtain ⟨T200, h200, k200, X200, e200, E200, A200, st200⟩ := newP X76 hx hZ (hw _ (List.mem_of_getElem? (i := 0) rfl)) e76 (g := (mkF m 315 #[.val (.int mode), .val (.int pos), .val (.int ch), .val (.int oth), .val (.int (mode &&& (7 : Int32))), .val (.int (0 : Int32)), .val (.int (ch &&& (255 : Int32))), .val (.int cz), .val (.ref b37), .val (.ref ia), .val (.int pp), .unset, .unset, .unset] [(.int (11 : Int32))])) rfl (hb hby at_315) rfl (by decide) (cap := 11) (by decide) (by decide) (by decide) (by decide)
            obtain ⟨b200, g200⟩ : ∃ z, z = h73.size := ⟨_, rfl⟩
            rw [← g200] at A200 st200
            have sz_b200 : h0.size ≤ b200 := Nat.le_trans K75.1 (Nat.le_of_eq g200.symm)
            have g_b200 : n0 ≤ b200 := Nat.le_trans Z0 sz_b200
            have ne201 : va ≠ b200 := O0.ne V_V.lt g_b200
            have ne202 : ia ≠ b200 := O0.ne F_i.lt g_b200
            have ne203 : sa ≠ b200 := O0.ne F_j.lt g_b200
            have ne204 : wi ≠ b200 := O0.ne S_i.lt g_b200
            have ne205 : ti ≠ b200 := O0.ne S_i.ltt g_b200
            have ne206 : wj ≠ b200 := O0.ne S_j.lt g_b200
            have ne207 : tj ≠ b200 := O0.ne S_j.ltt g_b200
            have ne208 : b37 ≠ b200 := Nat.ne_of_lt (Nat.lt_of_lt_of_le V37.lt (Nat.le_of_eq g200.symm))
            have S_b200 := Safe.new (Z := Z) (EL := consts_1) (vm := s.vm) (Nat.le_of_eq g200.symm)
            replace S_b37 := Safe.ext E200 CH S_b37
            replace S_b200 := Safe.ext E200 CH S_b200
            replace CR := CR.trans (CHr.ext E200 CH)
            replace CH := CH.ext E200
            replace hk := Nat.le_trans hk E200.1
            replace O0 := O0.ext E200
            replace V37 := V37.ext E200
            have K209 := K75.ext E200
            have V200 : Arv Z h200 b200 k200 .char (11 : Int32) [(.int (0 : Int32)), (.int (0 : Int32)), (.int (0 : Int32)), (.int (0 : Int32)), (.int (0 : Int32)), (.int (0 : Int32)), (.int (0 : Int32)), (.int (0 : Int32)), (.int (0 : Int32)), (.int (0 : Int32)), (.int (0 : Int32))] (.int (0 : Int32)) := (Arv.new A200 (by decide)).pad (pad_rep [] (.int (0 : Int32)) 11)
            refine own_go st200 ?_
            refine own_go (fun _ kk_ => XS.dup X200.here hx rfl (hb hby at_317) rfl rfl kk_) ?_
            refine own_go (fun _ kk_ => XS.iconst X200.here hx rfl (hb hby at_318) kk_) ?_
            refine own_go (fun _ kk_ => XS.bipush X200.here hx rfl (hb hby at_319) kk_) ?_
            show own_Fin p.tables e below _ (T200.setTop (mkF m 321 #[.val (.int mode), .val (.int pos), .val (.int ch), .val (.int oth), .val (.int (mode &&& (7 : Int32))), .val (.int (0 : Int32)), .val (.int (ch &&& (255 : Int32))), .val (.int cz), .val (.ref b37), .val (.ref ia), .val (.int pp), .unset, .unset, .unset] [(.int (105 : Int32)), (.int (0 : Int32)), (.ref b200), (.ref b200)]))
            obtain ⟨T210, h210, X210, e210, W210, V210, st210⟩ := own_stC X200 hx hZ e200 V200 (by decide) (i := 0) rfl (Nat.le_of_ble_eq_true rfl) (g := (mkF m 321 #[.val (.int mode), .val (.int pos), .val (.int ch), .val (.int oth), .val (.int (mode &&& (7 : Int32))), .val (.int (0 : Int32)), .val (.int (ch &&& (255 : Int32))), .val (.int cz), .val (.ref b37), .val (.ref ia), .val (.int pp), .unset, .unset, .unset] [(.int (105 : Int32)), (.int (0 : Int32)), (.ref b200), (.ref b200)])) rfl rfl (hb hby at_321)
            replace V200 : Arv Z h210 b200 k200 .char (11 : Int32) [(.int (105 : Int32)), (.int (0 : Int32)), (.int (0 : Int32)), (.int (0 : Int32)), (.int (0 : Int32)), (.int (0 : Int32)), (.int (0 : Int32)), (.int (0 : Int32)), (.int (0 : Int32)), (.int (0 : Int32)), (.int (0 : Int32))] (.int (0 : Int32)) := V210
            have N210 := Fr.snoc X210 N73 g_b200
            refine own_go st210 ?_
            have sa211 := S_b200
            replace S_b37 := Safe.wr W210 sa211 CH S_b37
            replace S_b200 := Safe.wr W210 sa211 CH S_b200
            replace CR := CR.trans (CHr.wr W210 sa211 CH)
            replace CH := CHv.wr W210 sa211 CH
            replace hk := Nat.le_trans hk (Keep.of_wr W210).1
            replace O0 := O0.wr W210 g_b200
            replace V37 := V37.other W210 ne208
            have K212 := K209.wr W210 (Or.inr sz_b200)
            refine own_go (fun _ kk_ => XS.dup X210.here hx rfl (hb hby at_322) rfl rfl kk_) ?_
            refine own_go (fun _ kk_ => XS.iconst X210.here hx rfl (hb hby at_323) kk_) ?_
            refine own_go (fun _ kk_ => XS.bipush X210.here hx rfl (hb hby at_324) kk_) ?_
            show own_Fin p.tables e below _ (T210.setTop (mkF m 326 #[.val (.int mode), .val (.int pos), .val (.int ch), .val (.int oth), .val (.int (mode &&& (7 : Int32))), .val (.int (0 : Int32)), .val (.int (ch &&& (255 : Int32))), .val (.int cz), .val (.ref b37), .val (.ref ia), .val (.int pp), .unset, .unset, .unset] [(.int (110 : Int32)), (.int (1 : Int32)), (.ref b200), (.ref b200)]))
            obtain ⟨T213, h213, X213, e213, W213, V213, st213⟩ := own_stC X210 hx hZ e210 V200 (by decide) (i := 1) rfl (Nat.le_of_ble_eq_true rfl) (g := (mkF m 326 #[.val (.int mode), .val (.int pos), .val (.int ch), .val (.int oth), .val (.int (mode &&& (7 : Int32))), .val (.int (0 : Int32)), .val (.int (ch &&& (255 : Int32))), .val (.int cz), .val (.ref b37), .val (.ref ia), .val (.int pp), .unset, .unset, .unset] [(.int (110 : Int32)), (.int (1 : Int32)), (.ref b200), (.ref b200)])) rfl rfl (hb hby at_326)
            replace V200 : Arv Z h213 b200 k200 .char (11 : Int32) [(.int (105 : Int32)), (.int (110 : Int32)), (.int (0 : Int32)), (.int (0 : Int32)), (.int (0 : Int32)), (.int (0 : Int32)), (.int (0 : Int32)), (.int (0 : Int32)), (.int (0 : Int32)), (.int (0 : Int32)), (.int (0 : Int32))] (.int (0 : Int32)) := V213
            have N213 := Fr.snoc X213 N210 g_b200
            refine own_go st213 ?_
            have sa214 := S_b200
            replace S_b37 := Safe.wr W213 sa214 CH S_b37
            replace S_b200 := Safe.wr W213 sa214 CH S_b200
            replace CR := CR.trans (CHr.wr W213 sa214 CH)
            replace CH := CHv.wr W213 sa214 CH
            replace hk := Nat.le_trans hk (Keep.of_wr W213).1
            replace O0 := O0.wr W213 g_b200
            replace V37 := V37.other W213 ne208
            have K215 := K212.wr W213 (Or.inr sz_b200)
            refine own_go (fun _ kk_ => XS.dup X213.here hx rfl (hb hby at_327) rfl rfl kk_) ?_
            refine own_go (fun _ kk_ => XS.iconst X213.here hx rfl (hb hby at_328) kk_) ?_
            refine own_go (fun _ kk_ => XS.bipush X213.here hx rfl (hb hby at_329) kk_) ?_
            show own_Fin p.tables e below _ (T213.setTop (mkF m 331 #[.val (.int mode), .val (.int pos), .val (.int ch), .val (.int oth), .val (.int (mode &&& (7 : Int32))), .val (.int (0 : Int32)), .val (.int (ch &&& (255 : Int32))), .val (.int cz), .val (.ref b37), .val (.ref ia), .val (.int pp), .unset, .unset, .unset] [(.int (100 : Int32)), (.int (2 : Int32)), (.ref b200), (.ref b200)]))
            obtain ⟨T216, h216, X216, e216, W216, V216, st216⟩ := own_stC X213 hx hZ e213 V200 (by decide) (i := 2) rfl (Nat.le_of_ble_eq_true rfl) (g := (mkF m 331 #[.val (.int mode), .val (.int pos), .val (.int ch), .val (.int oth), .val (.int (mode &&& (7 : Int32))), .val (.int (0 : Int32)), .val (.int (ch &&& (255 : Int32))), .val (.int cz), .val (.ref b37), .val (.ref ia), .val (.int pp), .unset, .unset, .unset] [(.int (100 : Int32)), (.int (2 : Int32)), (.ref b200), (.ref b200)])) rfl rfl (hb hby at_331)
            replace V200 : Arv Z h216 b200 k200 .char (11 : Int32) [(.int (105 : Int32)), (.int (110 : Int32)), (.int (100 : Int32)), (.int (0 : Int32)), (.int (0 : Int32)), (.int (0 : Int32)), (.int (0 : Int32)), (.int (0 : Int32)), (.int (0 : Int32)), (.int (0 : Int32)), (.int (0 : Int32))] (.int (0 : Int32)) := V216
            have N216 := Fr.snoc X216 N213 g_b200
            refine own_go st216 ?_
            have sa217 := S_b200
            replace S_b37 := Safe.wr W216 sa217 CH S_b37
            replace S_b200 := Safe.wr W216 sa217 CH S_b200
            replace CR := CR.trans (CHr.wr W216 sa217 CH)
            replace CH := CHv.wr W216 sa217 CH
            replace hk := Nat.le_trans hk (Keep.of_wr W216).1
            replace O0 := O0.wr W216 g_b200
            replace V37 := V37.other W216 ne208
            have K218 := K215.wr W216 (Or.inr sz_b200)
            refine own_go (fun _ kk_ => XS.dup X216.here hx rfl (hb hby at_332) rfl rfl kk_) ?_
            refine own_go (fun _ kk_ => XS.iconst X216.here hx rfl (hb hby at_333) kk_) ?_
            refine own_go (fun _ kk_ => XS.bipush X216.here hx rfl (hb hby at_334) kk_) ?_
            show own_Fin p.tables e below _ (T216.setTop (mkF m 336 #[.val (.int mode), .val (.int pos), .val (.int ch), .val (.int oth), .val (.int (mode &&& (7 : Int32))), .val (.int (0 : Int32)), .val (.int (ch &&& (255 : Int32))), .val (.int cz), .val (.ref b37), .val (.ref ia), .val (.int pp), .unset, .unset, .unset] [(.int (105 : Int32)), (.int (3 : Int32)), (.ref b200), (.ref b200)]))
            obtain ⟨T219, h219, X219, e219, W219, V219, st219⟩ := own_stC X216 hx hZ e216 V200 (by decide) (i := 3) rfl (Nat.le_of_ble_eq_true rfl) (g := (mkF m 336 #[.val (.int mode), .val (.int pos), .val (.int ch), .val (.int oth), .val (.int (mode &&& (7 : Int32))), .val (.int (0 : Int32)), .val (.int (ch &&& (255 : Int32))), .val (.int cz), .val (.ref b37), .val (.ref ia), .val (.int pp), .unset, .unset, .unset] [(.int (105 : Int32)), (.int (3 : Int32)), (.ref b200), (.ref b200)])) rfl rfl (hb hby at_336)
            replace V200 : Arv Z h219 b200 k200 .char (11 : Int32) [(.int (105 : Int32)), (.int (110 : Int32)), (.int (100 : Int32)), (.int (105 : Int32)), (.int (0 : Int32)), (.int (0 : Int32)), (.int (0 : Int32)), (.int (0 : Int32)), (.int (0 : Int32)), (.int (0 : Int32)), (.int (0 : Int32))] (.int (0 : Int32)) := V219
            have N219 := Fr.snoc X219 N216 g_b200
            refine own_go st219 ?_
            have sa220 := S_b200
            replace S_b37 := Safe.wr W219 sa220 CH S_b37
            replace S_b200 := Safe.wr W219 sa220 CH S_b200
            replace CR := CR.trans (CHr.wr W219 sa220 CH)
            replace CH := CHv.wr W219 sa220 CH
            replace hk := Nat.le_trans hk (Keep.of_wr W219).1
            replace O0 := O0.wr W219 g_b200
            replace V37 := V37.other W219 ne208
            have K221 := K218.wr W219 (Or.inr sz_b200)
            refine own_go (fun _ kk_ => XS.dup X219.here hx rfl (hb hby at_337) rfl rfl kk_) ?_
            refine own_go (fun _ kk_ => XS.iconst X219.here hx rfl (hb hby at_338) kk_) ?_
            refine own_go (fun _ kk_ => XS.bipush X219.here hx rfl (hb hby at_339) kk_) ?_
            show own_Fin p.tables e below _ (T219.setTop (mkF m 341 #[.val (.int mode), .val (.int pos), .val (.int ch), .val (.int oth), .val (.int (mode &&& (7 : Int32))), .val (.int (0 : Int32)), .val (.int (ch &&& (255 : Int32))), .val (.int cz), .val (.ref b37), .val (.ref ia), .val (.int pp), .unset, .unset, .unset] [(.int (118 : Int32)), (.int (4 : Int32)), (.ref b200), (.ref b200)]))
            obtain ⟨T222, h222, X222, e222, W222, V222, st222⟩ := own_stC X219 hx hZ e219 V200 (by decide) (i := 4) rfl (Nat.le_of_ble_eq_true rfl) (g := (mkF m 341 #[.val (.int mode), .val (.int pos), .val (.int ch), .val (.int oth), .val (.int (mode &&& (7 : Int32))), .val (.int (0 : Int32)), .val (.int (ch &&& (255 : Int32))), .val (.int cz), .val (.ref b37), .val (.ref ia), .val (.int pp), .unset, .unset, .unset] [(.int (118 : Int32)), (.int (4 : Int32)), (.ref b200), (.ref b200)])) rfl rfl (hb hby at_341)
            replace V200 : Arv Z h222 b200 k200 .char (11 : Int32) [(.int (105 : Int32)), (.int (110 : Int32)), (.int (100 : Int32)), (.int (105 : Int32)), (.int (118 : Int32)), (.int (0 : Int32)), (.int (0 : Int32)), (.int (0 : Int32)), (.int (0 : Int32)), (.int (0 : Int32)), (.int (0 : Int32))] (.int (0 : Int32)) := V222
            have N222 := Fr.snoc X222 N219 g_b200
            refine own_go st222 ?_
            have sa223 := S_b200
            replace S_b37 := Safe.wr W222 sa223 CH S_b37
            replace S_b200 := Safe.wr W222 sa223 CH S_b200
            replace CR := CR.trans (CHr.wr W222 sa223 CH)
            replace CH := CHv.wr W222 sa223 CH
            replace hk := Nat.le_trans hk (Keep.of_wr W222).1
            replace O0 := O0.wr W222 g_b200
            replace V37 := V37.other W222 ne208
            have K224 := K221.wr W222 (Or.inr sz_b200)
            refine own_go (fun _ kk_ => XS.dup X222.here hx rfl (hb hby at_342) rfl rfl kk_) ?_
            refine own_go (fun _ kk_ => XS.iconst X222.here hx rfl (hb hby at_343) kk_) ?_
            refine own_go (fun _ kk_ => XS.bipush X222.here hx rfl (hb hby at_344) kk_) ?_
            show own_Fin p.tables e below _ (T222.setTop (mkF m 346 #[.val (.int mode), .val (.int pos), .val (.int ch), .val (.int oth), .val (.int (mode &&& (7 : Int32))), .val (.int (0 : Int32)), .val (.int (ch &&& (255 : Int32))), .val (.int cz), .val (.ref b37), .val (.ref ia), .val (.int pp), .unset, .unset, .unset] [(.int (105 : Int32)), (.int (5 : Int32)), (.ref b200), (.ref b200)]))
            obtain ⟨T225, h225, X225, e225, W225, V225, st225⟩ := own_stC X222 hx hZ e222 V200 (by decide) (i := 5) rfl (Nat.le_of_ble_eq_true rfl) (g := (mkF m 346 #[.val (.int mode), .val (.int pos), .val (.int ch), .val (.int oth), .val (.int (mode &&& (7 : Int32))), .val (.int (0 : Int32)), .val (.int (ch &&& (255 : Int32))), .val (.int cz), .val (.ref b37), .val (.ref ia), .val (.int pp), .unset, .unset, .unset] [(.int (105 : Int32)), (.int (5 : Int32)), (.ref b200), (.ref b200)])) rfl rfl (hb hby at_346)
            replace V200 : Arv Z h225 b200 k200 .char (11 : Int32) [(.int (105 : Int32)), (.int (110 : Int32)), (.int (100 : Int32)), (.int (105 : Int32)), (.int (118 : Int32)), (.int (105 : Int32)), (.int (0 : Int32)), (.int (0 : Int32)), (.int (0 : Int32)), (.int (0 : Int32)), (.int (0 : Int32))] (.int (0 : Int32)) := V225
            have N225 := Fr.snoc X225 N222 g_b200
            refine own_go st225 ?_
            have sa226 := S_b200
            replace S_b37 := Safe.wr W225 sa226 CH S_b37
            replace S_b200 := Safe.wr W225 sa226 CH S_b200
            replace CR := CR.trans (CHr.wr W225 sa226 CH)
            replace CH := CHv.wr W225 sa226 CH
            replace hk := Nat.le_trans hk (Keep.of_wr W225).1
            replace O0 := O0.wr W225 g_b200
            replace V37 := V37.other W225 ne208
            have K227 := K224.wr W225 (Or.inr sz_b200)
            refine own_go (fun _ kk_ => XS.dup X225.here hx rfl (hb hby at_347) rfl rfl kk_) ?_
            refine own_go (fun _ kk_ => XS.bipush X225.here hx rfl (hb hby at_348) kk_) ?_
            refine own_go (fun _ kk_ => XS.bipush X225.here hx rfl (hb hby at_350) kk_) ?_
            show own_Fin p.tables e below _ (T225.setTop (mkF m 352 #[.val (.int mode), .val (.int pos), .val (.int ch), .val (.int oth), .val (.int (mode &&& (7 : Int32))), .val (.int (0 : Int32)), .val (.int (ch &&& (255 : Int32))), .val (.int cz), .val (.ref b37), .val (.ref ia), .val (.int pp), .unset, .unset, .unset] [(.int (100 : Int32)), (.int (6 : Int32)), (.ref b200), (.ref b200)]))
            obtain ⟨T228, h228, X228, e228, W228, V228, st228⟩ := own_stC X225 hx hZ e225 V200 (by decide) (i := 6) rfl (Nat.le_of_ble_eq_true rfl) (g := (mkF m 352 #[.val (.int mode), .val (.int pos), .val (.int ch), .val (.int oth), .val (.int (mode &&& (7 : Int32))), .val (.int (0 : Int32)), .val (.int (ch &&& (255 : Int32))), .val (.int cz), .val (.ref b37), .val (.ref ia), .val (.int pp), .unset, .unset, .unset] [(.int (100 : Int32)), (.int (6 : Int32)), (.ref b200), (.ref b200)])) rfl rfl (hb hby at_352)
            replace V200 : Arv Z h228 b200 k200 .char (11 : Int32) [(.int (105 : Int32)), (.int (110 : Int32)), (.int (100 : Int32)), (.int (105 : Int32)), (.int (118 : Int32)), (.int (105 : Int32)), (.int (100 : Int32)), (.int (0 : Int32)), (.int (0 : Int32)), (.int (0 : Int32)), (.int (0 : Int32))] (.int (0 : Int32)) := V228
            have N228 := Fr.snoc X228 N225 g_b200
            refine own_go st228 ?_
            have sa229 := S_b200
            replace S_b37 := Safe.wr W228 sa229 CH S_b37
            replace S_b200 := Safe.wr W228 sa229 CH S_b200
            replace CR := CR.trans (CHr.wr W228 sa229 CH)
            replace CH := CHv.wr W228 sa229 CH
            replace hk := Nat.le_trans hk (Keep.of_wr W228).1
            replace O0 := O0.wr W228 g_b200
            replace V37 := V37.other W228 ne208
            have K230 := K227.wr W228 (Or.inr sz_b200)
            refine own_go (fun _ kk_ => XS.dup X228.here hx rfl (hb hby at_353) rfl rfl kk_) ?_
            refine own_go (fun _ kk_ => XS.bipush X228.here hx rfl (hb hby at_354) kk_) ?_
            refine own_go (fun _ kk_ => XS.bipush X228.here hx rfl (hb hby at_356) kk_) ?_
            show own_Fin p.tables e below _ (T228.setTop (mkF m 358 #[.val (.int mode), .val (.int pos), .val (.int ch), .val (.int oth), .val (.int (mode &&& (7 : Int32))), .val (.int (0 : Int32)), .val (.int (ch &&& (255 : Int32))), .val (.int cz), .val (.ref b37), .val (.ref ia), .val (.int pp), .unset, .unset, .unset] [(.int (117 : Int32)), (.int (7 : Int32)), (.ref b200), (.ref b200)]))
            obtain ⟨T231, h231, X231, e231, W231, V231, st231⟩ := own_stC X228 hx hZ e228 V200 (by decide) (i := 7) rfl (Nat.le_of_ble_eq_true rfl) (g := (mkF m 358 #[.val (.int mode), .val (.int pos), .val (.int ch), .val (.int oth), .val (.int (mode &&& (7 : Int32))), .val (.int (0 : Int32)), .val (.int (ch &&& (255 : Int32))), .val (.int cz), .val (.ref b37), .val (.ref ia), .val (.int pp), .unset, .unset, .unset] [(.int (117 : Int32)), (.int (7 : Int32)), (.ref b200), (.ref b200)])) rfl rfl (hb hby at_358)
            replace V200 : Arv Z h231 b200 k200 .char (11 : Int32) [(.int (105 : Int32)), (.int (110 : Int32)), (.int (100 : Int32)), (.int (105 : Int32)), (.int (118 : Int32)), (.int (105 : Int32)), (.int (100 : Int32)), (.int (117 : Int32)), (.int (0 : Int32)), (.int (0 : Int32)), (.int (0 : Int32))] (.int (0 : Int32)) := V231
            have N231 := Fr.snoc X231 N228 g_b200
            refine own_go st231 ?_
            have sa232 := S_b200
            replace S_b37 := Safe.wr W231 sa232 CH S_b37
            replace S_b200 := Safe.wr W231 sa232 CH S_b200
            replace CR := CR.trans (CHr.wr W231 sa232 CH)
            replace CH := CHv.wr W231 sa232 CH
            replace hk := Nat.le_trans hk (Keep.of_wr W231).1
            replace O0 := O0.wr W231 g_b200
            replace V37 := V37.other W231 ne208
            have K233 := K230.wr W231 (Or.inr sz_b200)
            refine own_go (fun _ kk_ => XS.dup X231.here hx rfl (hb hby at_359) rfl rfl kk_) ?_
            refine own_go (fun _ kk_ => XS.bipush X231.here hx rfl (hb hby at_360) kk_) ?_
            refine own_go (fun _ kk_ => XS.bipush X231.here hx rfl (hb hby at_362) kk_) ?_
            show own_Fin p.tables e below _ (T231.setTop (mkF m 364 #[.val (.int mode), .val (.int pos), .val (.int ch), .val (.int oth), .val (.int (mode &&& (7 : Int32))), .val (.int (0 : Int32)), .val (.int (ch &&& (255 : Int32))), .val (.int cz), .val (.ref b37), .val (.ref ia), .val (.int pp), .unset, .unset, .unset] [(.int (97 : Int32)), (.int (8 : Int32)), (.ref b200), (.ref b200)]))
            obtain ⟨T234, h234, X234, e234, W234, V234, st234⟩ := own_stC X231 hx hZ e231 V200 (by decide) (i := 8) rfl (Nat.le_of_ble_eq_true rfl) (g := (mkF m 364 #[.val (.int mode), .val (.int pos), .val (.int ch), .val (.int oth), .val (.int (mode &&& (7 : Int32))), .val (.int (0 : Int32)), .val (.int (ch &&& (255 : Int32))), .val (.int cz), .val (.ref b37), .val (.ref ia), .val (.int pp), .unset, .unset, .unset] [(.int (97 : Int32)), (.int (8 : Int32)), (.ref b200), (.ref b200)])) rfl rfl (hb hby at_364)
            replace V200 : Arv Z h234 b200 k200 .char (11 : Int32) [(.int (105 : Int32)), (.int (110 : Int32)), (.int (100 : Int32)), (.int (105 : Int32)), (.int (118 : Int32)), (.int (105 : Int32)), (.int (100 : Int32)), (.int (117 : Int32)), (.int (97 : Int32)), (.int (0 : Int32)), (.int (0 : Int32))] (.int (0 : Int32)) := V234
            have N234 := Fr.snoc X234 N231 g_b200
            refine own_go st234 ?_
            have sa235 := S_b200
            replace S_b37 := Safe.wr W234 sa235 CH S_b37
            replace S_b200 := Safe.wr W234 sa235 CH S_b200
            replace CR := CR.trans (CHr.wr W234 sa235 CH)
            replace CH := CHv.wr W234 sa235 CH
            replace hk := Nat.le_trans hk (Keep.of_wr W234).1
            replace O0 := O0.wr W234 g_b200
            replace V37 := V37.other W234 ne208
            have K236 := K233.wr W234 (Or.inr sz_b200)
            refine own_go (fun _ kk_ => XS.dup X234.here hx rfl (hb hby at_365) rfl rfl kk_) ?_
            refine own_go (fun _ kk_ => XS.bipush X234.here hx rfl (hb hby at_366) kk_) ?_
            refine own_go (fun _ kk_ => XS.bipush X234.here hx rfl (hb hby at_368) kk_) ?_
            show own_Fin p.tables e below _ (T234.setTop (mkF m 370 #[.val (.int mode), .val (.int pos), .val (.int ch), .val (.int oth), .val (.int (mode &&& (7 : Int32))), .val (.int (0 : Int32)), .val (.int (ch &&& (255 : Int32))), .val (.int cz), .val (.ref b37), .val (.ref ia), .val (.int pp), .unset, .unset, .unset] [(.int (108 : Int32)), (.int (9 : Int32)), (.ref b200), (.ref b200)]))
            obtain ⟨T237, h237, X237, e237, W237, V237, st237⟩ := own_stC X234 hx hZ e234 V200 (by decide) (i := 9) rfl (Nat.le_of_ble_eq_true rfl) (g := (mkF m 370 #[.val (.int mode), .val (.int pos), .val (.int ch), .val (.int oth), .val (.int (mode &&& (7 : Int32))), .val (.int (0 : Int32)), .val (.int (ch &&& (255 : Int32))), .val (.int cz), .val (.ref b37), .val (.ref ia), .val (.int pp), .unset, .unset, .unset] [(.int (108 : Int32)), (.int (9 : Int32)), (.ref b200), (.ref b200)])) rfl rfl (hb hby at_370)
            replace V200 : Arv Z h237 b200 k200 .char (11 : Int32) [(.int (105 : Int32)), (.int (110 : Int32)), (.int (100 : Int32)), (.int (105 : Int32)), (.int (118 : Int32)), (.int (105 : Int32)), (.int (100 : Int32)), (.int (117 : Int32)), (.int (97 : Int32)), (.int (108 : Int32)), (.int (0 : Int32))] (.int (0 : Int32)) := V237
            have N237 := Fr.snoc X237 N234 g_b200
            refine own_go st237 ?_
            have sa238 := S_b200
            replace S_b37 := Safe.wr W237 sa238 CH S_b37
            replace S_b200 := Safe.wr W237 sa238 CH S_b200
            replace CR := CR.trans (CHr.wr W237 sa238 CH)
            replace CH := CHv.wr W237 sa238 CH
            replace hk := Nat.le_trans hk (Keep.of_wr W237).1
            replace O0 := O0.wr W237 g_b200
            replace V37 := V37.other W237 ne208
            have K239 := K236.wr W237 (Or.inr sz_b200)
            refine own_go (fun _ kk_ => XS.dup X237.here hx rfl (hb hby at_371) rfl rfl kk_) ?_
            refine own_go (fun _ kk_ => XS.bipush X237.here hx rfl (hb hby at_372) kk_) ?_
            refine own_go (fun _ kk_ => XS.iload X237.here hx rfl (hb hby at_374) rfl kk_) ?_
            show own_Fin p.tables e below _ (T237.setTop (mkF m 376 #[.val (.int mode), .val (.int pos), .val (.int ch), .val (.int oth), .val (.int (mode &&& (7 : Int32))), .val (.int (0 : Int32)), .val (.int (ch &&& (255 : Int32))), .val (.int cz), .val (.ref b37), .val (.ref ia), .val (.int pp), .unset, .unset, .unset] [(.int (ch &&& (255 : Int32))), (.int (10 : Int32)), (.ref b200), (.ref b200)]))
            obtain ⟨T240, h240, X240, e240, W240, V240, st240⟩ := own_stC X237 hx hZ e237 V200 (by decide) (i := 10) rfl (Nat.le_of_ble_eq_true rfl) (g := (mkF m 376 #[.val (.int mode), .val (.int pos), .val (.int ch), .val (.int oth), .val (.int (mode &&& (7 : Int32))), .val (.int (0 : Int32)), .val (.int (ch &&& (255 : Int32))), .val (.int cz), .val (.ref b37), .val (.ref ia), .val (.int pp), .unset, .unset, .unset] [(.int (ch &&& (255 : Int32))), (.int (10 : Int32)), (.ref b200), (.ref b200)])) rfl rfl (hb hby at_376)
            rw [own_nar255] at V240
            replace V200 : Arv Z h240 b200 k200 .char (11 : Int32) [(.int (105 : Int32)), (.int (110 : Int32)), (.int (100 : Int32)), (.int (105 : Int32)), (.int (118 : Int32)), (.int (105 : Int32)), (.int (100 : Int32)), (.int (117 : Int32)), (.int (97 : Int32)), (.int (108 : Int32)), (.int (ch &&& (255 : Int32)))] (.int (0 : Int32)) := V240
            have N240 := Fr.snoc X240 N237 g_b200
            refine own_go st240 ?_
            have sa241 := S_b200
            replace S_b37 := Safe.wr W240 sa241 CH S_b37
            replace S_b200 := Safe.wr W240 sa241 CH S_b200
            replace CR := CR.trans (CHr.wr W240 sa241 CH)
            replace CH := CHv.wr W240 sa241 CH
            replace hk := Nat.le_trans hk (Keep.of_wr W240).1
            replace O0 := O0.wr W240 g_b200
            replace V37 := V37.other W240 ne208
            have K242 := K239.wr W240 (Or.inr sz_b200)
            refine own_go (fun _ kk_ => XS.astore X240.here hx rfl (hb hby at_377) rfl rfl (l' := #[.val (.int mode), .val (.int pos), .val (.int ch), .val (.int oth), .val (.int (mode &&& (7 : Int32))), .val (.int (0 : Int32)), .val (.int (ch &&& (255 : Int32))), .val (.int cz), .val (.ref b37), .val (.ref ia), .val (.int pp), .unset, .unset, .val (.ref b200)]) rfl kk_) ?_
            show own_Fin p.tables e below _ (T240.setTop (mkF m 379 #[.val (.int mode), .val (.int pos), .val (.int ch), .val (.int oth), .val (.int (mode &&& (7 : Int32))), .val (.int (0 : Int32)), .val (.int (ch &&& (255 : Int32))), .val (.int cz), .val (.ref b37), .val (.ref ia), .val (.int pp), .unset, .unset, .val (.ref b200)] []))
            obtain ⟨T243, h243, X243, e243, E243, A243, D243, -, st243⟩ := newO X240 hx hZ hown (hw _ (List.mem_of_getElem? (i := 5) rfl)) (hw _ (List.mem_of_getElem? (i := 6) rfl)) (hw _ (List.mem_of_getElem? (i := 7) rfl)) e240 (g := (mkF m 379 #[.val (.int mode), .val (.int pos), .val (.int ch), .val (.int oth), .val (.int (mode &&& (7 : Int32))), .val (.int (0 : Int32)), .val (.int (ch &&& (255 : Int32))), .val (.int cz), .val (.ref b37), .val (.ref ia), .val (.int pp), .unset, .unset, .val (.ref b200)] [])) rfl (hb hby at_379) (by decide) (by decide)
            obtain ⟨b243, g243⟩ : ∃ z, z = h240.size := ⟨_, rfl⟩
            rw [← g243] at A243 D243 st243
            have sz_b243 : h0.size ≤ b243 := Nat.le_trans K242.1 (Nat.le_of_eq g243.symm)
            have g_b243 : n0 ≤ b243 := Nat.le_trans Z0 sz_b243
            have ne244 : va ≠ b243 := O0.ne V_V.lt g_b243
            have ne245 : ia ≠ b243 := O0.ne F_i.lt g_b243
            have ne246 : sa ≠ b243 := O0.ne F_j.lt g_b243
            have ne247 : wi ≠ b243 := O0.ne S_i.lt g_b243
            have ne248 : ti ≠ b243 := O0.ne S_i.ltt g_b243
            have ne249 : wj ≠ b243 := O0.ne S_j.lt g_b243
            have ne250 : tj ≠ b243 := O0.ne S_j.ltt g_b243
            have ne251 : b37 ≠ b243 := Nat.ne_of_lt (Nat.lt_of_lt_of_le V37.lt (Nat.le_of_eq g243.symm))
            have ne252 : b200 ≠ b243 := Nat.ne_of_lt (Nat.lt_of_lt_of_le V200.lt (Nat.le_of_eq g243.symm))
            have S_b243 := Safe.new (Z := Z) (EL := consts_1) (vm := s.vm) (Nat.le_of_eq g243.symm)
            replace S_b37 := Safe.ext E243 CH S_b37
            replace S_b200 := Safe.ext E243 CH S_b200
            replace S_b243 := Safe.ext E243 CH S_b243
            replace CR := CR.trans (CHr.ext E243 CH)
            replace CH := CH.ext E243
            replace hk := Nat.le_trans hk E243.1
            replace O0 := O0.ext E243
            replace V37 := V37.ext E243
            replace V200 := V200.ext E243
            have K253 := K242.ext E243
            have F243_coder : Fld Z h243 b243 "java/lang/String" "coder" "B" (.int (0 : Int32)) := D243 (Or.inr (hw _ (List.mem_of_getElem? (i := 31) rfl))) (ty := .byte) (by decide)
            have F243_value : Fld Z h243 b243 "java/lang/String" "value" "[B" .null := D243 (Or.inr (hw _ (List.mem_of_getElem? (i := 33) rfl))) (ty := (.array .byte)) (by decide)
            refine own_go st243 ?_
            refine own_go (fun _ kk_ => XS.dup X243.here hx rfl (hb hby at_382) rfl rfl kk_) ?_
            refine own_go (fun _ kk_ => XS.aload X243.here hx rfl (hb hby at_383) rfl rfl kk_) ?_
            show own_Fin p.tables e below _ (T243.setTop (mkF m 385 #[.val (.int mode), .val (.int pos), .val (.int ch), .val (.int oth), .val (.int (mode &&& (7 : Int32))), .val (.int (0 : Int32)), .val (.int (ch &&& (255 : Int32))), .val (.int cz), .val (.ref b37), .val (.ref ia), .val (.int pp), .unset, .unset, .val (.ref b200)] [(.ref b200), (.ref b243), (.ref b243)]))
            have hp255 : ∀ c ∈ ([(105 : Int32), (110 : Int32), (100 : Int32), (105 : Int32), (118 : Int32), (105 : Int32), (100 : Int32), (117 : Int32), (97 : Int32), (108 : Int32), (ch &&& (255 : Int32))] : List Int32), ¬ c < 0 ∧ ¬ (255 : Int32) < c := by
              intro c hc
              simp only [List.mem_cons, List.not_mem_nil, or_false] at hc
              rcases hc with rfl | rfl | rfl | rfl | rfl | rfl | rfl | rfl | rfl | rfl | rfl
              · exact by decide
              · exact by decide
              · exact by decide
              · exact by decide
              · exact by decide
              · exact by decide
              · exact by decide
              · exact by decide
              · exact by decide
              · exact by decide
              · exact own_and255 _
            obtain ⟨_, _, ⟨T254, L254, k254, n254⟩, -, X254, ⟨Lc254, hQ254, l254, y254, z254⟩, st254⟩ := X243.specialBack hx (y := (⟨"java/lang/String", "<init>", "([C)V"⟩ : MethodName)) rfl hown (mvT hZ (hw _ (List.mem_of_getElem? (i := 8) rfl))) (mvT hZ (hw _ (List.mem_of_getElem? (i := 9) rfl))) (mvT hZ (hw _ (List.mem_of_getElem? (i := 10) rfl))) (by decide) (StrChars.Road.backV (W := 1) hZ hws (kI := 4) (hw _ (List.mem_of_getElem? (i := 6) rfl)) (cs := ([(105 : Int32), (110 : Int32), (100 : Int32), (105 : Int32), (118 : Int32), (105 : Int32), (100 : Int32), (117 : Int32), (97 : Int32), (108 : Int32), (ch &&& (255 : Int32))] : List Int32)) (bs := (([(105 : Int32), (110 : Int32), (100 : Int32), (105 : Int32), (118 : Int32), (105 : Int32), (100 : Int32), (117 : Int32), (97 : Int32), (108 : Int32), (ch &&& (255 : Int32))] : List Int32)).map (fun c => c.toInt8.toInt32)) (n := 11) g_b243 (Nat.le_trans Z0 K253.1) A243 F243_value F243_coder V200 (S_C.ext O0.2) hcs rfl rfl (by decide) (by decide) hp255 rfl (by decide) (by decide)) (g := (mkF m 385 #[.val (.int mode), .val (.int pos), .val (.int ch), .val (.int oth), .val (.int (mode &&& (7 : Int32))), .val (.int (0 : Int32)), .val (.int (ch &&& (255 : Int32))), .val (.int cz), .val (.ref b37), .val (.ref ia), .val (.int pp), .unset, .unset, .val (.ref b200)] [(.ref b200), (.ref b243), (.ref b243)])) rfl (by rw [hml]; rfl) (Steps.refl _) (a := b243) (argsL := [(.ref b200)]) (rest := [(.ref b243)]) (lenOf pd_5 rfl) rfl (by show 2 * 0 + _ ≤ _; exact Nat.le_of_eq rfl) (hb hby at_385) (fun _ _ => ⟨rfl, e243, (by decide : 3 + 1 ≤ _), (by decide : 25 + 11 ≤ _)⟩)
            dsimp only [Pt.U, Pt.locs, Pt.cells, Pt.slots] at X254 l254 y254 z254 st254 hQ254
            subst l254 y254 z254
            obtain ⟨rfl, N254q, KK254, EE254, FC254, t254, kb254, gt254, szt254, netx254, FV254, VV254⟩ := hQ254
            have N254 := Fr.app N240 N254q
            have SS254 : own_Str Z T254.heap b243 t254 ([(105 : Int32), (110 : Int32), (100 : Int32), (105 : Int32), (118 : Int32), (105 : Int32), (100 : Int32), (117 : Int32), (97 : Int32), (108 : Int32), (ch &&& (255 : Int32))] : List Int32) := ⟨_, _, _, _, EE254, FV254, FC254, VV254, StrChars.Road.codOf (n := 11) rfl (fun c hc => (hp255 c hc).2), own_up _ hp255, Nat.le_of_ble_eq_true rfl⟩
            have sz_t254 : h0.size ≤ t254 := Nat.le_trans K253.1 szt254
            have ne256 : va ≠ t254 := O0.ne V_V.lt gt254
            have ne257 : ia ≠ t254 := O0.ne F_i.lt gt254
            have ne258 : sa ≠ t254 := O0.ne F_j.lt gt254
            have ne259 : wi ≠ t254 := O0.ne S_i.lt gt254
            have ne260 : ti ≠ t254 := O0.ne S_i.ltt gt254
            have ne261 : wj ≠ t254 := O0.ne S_j.lt gt254
            have ne262 : tj ≠ t254 := O0.ne S_j.ltt gt254
            have ne263 : b37 ≠ t254 := Nat.ne_of_lt (Nat.lt_of_lt_of_le V37.lt szt254)
            have ne264 : b200 ≠ t254 := Nat.ne_of_lt (Nat.lt_of_lt_of_le V200.lt szt254)
            have ne265 : b243 ≠ t254 := Nat.ne_of_lt (Nat.lt_of_lt_of_le A243.lt szt254)
            have S_t254 := Safe.new (Z := Z) (EL := consts_1) (vm := s.vm) szt254
            have hs266 : ∀ x ∈ [b243], Safe Z consts_1 s.vm h243 x := (sfS S_b243 sf0)
            replace S_b37 := Safe.keep KK254 hs266 CH S_b37
            replace S_b200 := Safe.keep KK254 hs266 CH S_b200
            replace S_b243 := Safe.keep KK254 hs266 CH S_b243
            replace S_t254 := Safe.keep KK254 hs266 CH S_t254
            replace CR := CR.trans (CHr.keep KK254 hs266 CH)
            replace CH := CHv.keep KK254 hs266 CH
            replace hk := Nat.le_trans hk KK254.1
            replace O0 := O0.keep KK254 (allS g_b243 (all0))
            replace V37 := V37.keep KK254 (ninS ne251 nin0)
            replace V200 := V200.keep KK254 (ninS ne252 nin0)
            replace A243 := A243.keep KK254
            have K267 := K253.trans KK254 (allS (Or.inr sz_b243) all0)
            refine own_go (fun _ kk_ => st254.trans kk_) ?_
            refine own_go (fun _ kk_ => XS.astore X254.here hx rfl (hb hby at_388) rfl rfl (l' := #[.val (.int mode), .val (.int pos), .val (.int ch), .val (.int oth), .val (.int (mode &&& (7 : Int32))), .val (.int (0 : Int32)), .val (.int (ch &&& (255 : Int32))), .val (.int cz), .val (.ref b37), .val (.ref ia), .val (.int pp), .val (.ref b243), .unset, .val (.ref b200)]) rfl kk_) ?_
            refine own_go (fun _ kk_ => XS.aconstNull X254.here hx rfl (hb hby at_390) kk_) ?_
            refine own_go (fun _ kk_ => XS.astore X254.here hx rfl (hb hby at_391) rfl rfl (l' := #[.val (.int mode), .val (.int pos), .val (.int ch), .val (.int oth), .val (.int (mode &&& (7 : Int32))), .val (.int (0 : Int32)), .val (.int (ch &&& (255 : Int32))), .val (.int cz), .val (.ref b37), .val (.ref ia), .val (.int pp), .val (.ref b243), .val .null, .val (.ref b200)]) rfl kk_) ?_
            refine own_go (fun _ kk_ => XS.goto X254.here hx rfl (pc0 := 393) (pc' := 651) rfl (hb hby at_393) (by decide) (by decide) kk_) ?_
            refine own_go (fun _ kk_ => XS.aload X254.here hx rfl (hb hby at_651) rfl rfl kk_) ?_
            show own_Fin p.tables e below _ (T254.setTop (mkF m 653 #[.val (.int mode), .val (.int pos), .val (.int ch), .val (.int oth), .val (.int (mode &&& (7 : Int32))), .val (.int (0 : Int32)), .val (.int (ch &&& (255 : Int32))), .val (.int cz), .val (.ref b37), .val (.ref ia), .val (.int pp), .val (.ref b243), .val .null, .val (.ref b200)] [(.ref b243)]))
            obtain ⟨_, _, ⟨T268, L268, k268, n268⟩, -, X268, ⟨Lc268, hQ268, l268, y268, z268⟩, st268⟩ := Jvm.LawKit.callS X254 hx (y := (⟨"com/example/hebelwerk/hebelwerk/model/DividendMethod", "written", "(Ljava/lang/String;)Lcom/example/hebelwerk/hebelwerk/model/DividendMethod;"⟩ : MethodName)) hown (mvT hZ (hw _ (List.mem_of_getElem? (i := 34) rfl))) (mvT hZ (hw _ (List.mem_of_getElem? (i := 35) rfl))) (mvT hZ (hw _ (List.mem_of_getElem? (i := 2) rfl))) (mvT hZ (hw _ (List.mem_of_getElem? (i := 36) rfl))) (by decide) (backOf (W := 0) (rm_wrS l Z a0 hw [] b243 t254 ([(105 : Int32), (110 : Int32), (100 : Int32), (105 : Int32), (118 : Int32), (105 : Int32), (100 : Int32), (117 : Int32), (97 : Int32), (108 : Int32), (ch &&& (255 : Int32))] : List Int32) va vk ia sa wi ti wj tj gc T254.heap n0 (Nat.le_trans Z0 K267.1) SS254 S_V V_V E_V F_i F_j S_i S_j S_C hcs O0) hZ (hw _ (List.mem_of_getElem? (i := 36) rfl)) (hw _ (List.mem_of_getElem? (i := 2) rfl)) (by decide) (by decide)) (g := (mkF m 653 #[.val (.int mode), .val (.int pos), .val (.int ch), .val (.int oth), .val (.int (mode &&& (7 : Int32))), .val (.int (0 : Int32)), .val (.int (ch &&& (255 : Int32))), .val (.int cz), .val (.ref b37), .val (.ref ia), .val (.int pp), .val (.ref b243), .val .null, .val (.ref b200)] [(.ref b243)])) rfl (by rw [hml]; rfl) (argsL := [(.ref b243)]) (rest := []) (lenOf pd_6 rfl) rfl (by show 2 * 0 + _ ≤ _; exact Nat.le_of_eq rfl) (hb hby at_653) (fun _ _ => ⟨rfl, rfl, (by decide : 4 + 1 ≤ _), (by decide : 36 + 2 ≤ _)⟩)
            dsimp only [Pt.U, Pt.locs, Pt.cells, Pt.slots] at X268 l268 y268 z268 st268 hQ268
            subst l268 y268 z268
            obtain ⟨N268q, KK268, y1_268, y2_268, y3_268⟩ := hQ268
            obtain rfl := y3_268 (by simp) (by simp)
            have N268 := Fr.app N254 N268q
            have hs269 : ∀ x ∈ [], Safe Z consts_1 s.vm T254.heap x := sf0
            replace S_b37 := Safe.keep KK268 hs269 CH S_b37
            replace S_b200 := Safe.keep KK268 hs269 CH S_b200
            replace S_b243 := Safe.keep KK268 hs269 CH S_b243
            replace S_t254 := Safe.keep KK268 hs269 CH S_t254
            replace CR := CR.trans (CHr.keep KK268 hs269 CH)
            replace CH := CHv.keep KK268 hs269 CH
            replace hk := Nat.le_trans hk KK268.1
            replace O0 := O0.keep KK268 all0
            replace V37 := V37.keep KK268 nin0
            replace V200 := V200.keep KK268 nin0
            replace SS254 := SS254.keep KK268 nin0 nin0
            have K270 := K267.trans KK268 all0
            refine own_go st268 ?_
            refine own_go (fun _ kk_ => XS.aload X268.here hx rfl (hb hby at_656) rfl rfl kk_) ?_
            show own_Fin p.tables e below _ (T268.setTop (mkF m 658 #[.val (.int mode), .val (.int pos), .val (.int ch), .val (.int oth), .val (.int (mode &&& (7 : Int32))), .val (.int (0 : Int32)), .val (.int (ch &&& (255 : Int32))), .val (.int cz), .val (.ref b37), .val (.ref ia), .val (.int pp), .val (.ref b243), .val .null, .val (.ref b200)] [.null, .null]))
            refine own_go (fun _ kk_ => acmp (g := (mkF m 658 #[.val (.int mode), .val (.int pos), .val (.int ch), .val (.int oth), .val (.int (mode &&& (7 : Int32))), .val (.int (0 : Int32)), .val (.int (ch &&& (255 : Int32))), .val (.int cz), .val (.ref b37), .val (.ref ia), .val (.int pp), .val (.ref b243), .val .null, .val (.ref b200)] [.null, .null])) X268 hx rfl rfl rfl (pc0 := 658) (pc' := 661) (same := true) rfl (hb hby at_658) rfl rfl (by decide) (by decide) kk_) ?_
            refine own_go (fun _ kk_ => XS.iconst X268.here hx rfl (hb hby at_661) kk_) ?_
            refine own_go (fun _ kk_ => XS.goto X268.here hx rfl (pc0 := 662) (pc' := 666) rfl (hb hby at_662) (by decide) (by decide) kk_) ?_
            show own_Fin p.tables e below _ (T268.setTop (mkF m 666 #[.val (.int mode), .val (.int pos), .val (.int ch), .val (.int oth), .val (.int (mode &&& (7 : Int32))), .val (.int (0 : Int32)), .val (.int (ch &&& (255 : Int32))), .val (.int cz), .val (.ref b37), .val (.ref ia), .val (.int pp), .val (.ref b243), .val .null, .val (.ref b200)] [(.int (1 : Int32))]))
            have CRz : CHr Z consts_1 s.vm s.heap T268.vm T268.heap := by
              rw [hh]
              exact CR.trans (CHv.at X268 hZ hEL CH)
            refine own_retW X268 hx Bd hS hk (t := .boolean) Bd.returns rfl (Or.inl ⟨rfl, by simp, _, rfl⟩) (hb hby at_666) CRz ?_ (by decide) (by decide)
            show (Q_rm_law Z mode pos ch oth va vk ia sa wi ti wj tj gc h0 n0) (some (.int (1 : Int32))) T268.heap _
            exact ⟨rfl, N268⟩
          · skip
            refine own_go (fun _ kk_ => XS.icmpYes X76.here hx rfl (pc0 := 250) (pc' := 396) rfl (hb hby at_250) rfl (feq hc199).2 (by decide) (by decide) kk_) ?_
            refine own_go (fun _ kk_ => XS.iload X76.here hx rfl (hb hby at_396) rfl kk_) ?_
            refine own_go (fun _ kk_ => XS.iconst X76.here hx rfl (hb hby at_398) kk_) ?_
            show own_Fin p.tables e below _ (T76.setTop (mkF m 399 #[.val (.int mode), .val (.int pos), .val (.int ch), .val (.int oth), .val (.int (mode &&& (7 : Int32))), .val (.int (0 : Int32)), .val (.int (ch &&& (255 : Int32))), .val (.int cz), .val (.ref b37), .val (.ref ia), .val (.int pp), .unset, .unset, .unset] [(.int (3 : Int32)), (.int (mode &&& (7 : Int32)))]))
            by_cases hc271 : (mode &&& (7 : Int32)) = (3 : Int32)
            · skip
              refine own_go (fun _ kk_ => XS.icmpNo X76.here hx rfl (hb hby at_399) rfl (teq hc271).2 kk_) ?_
              refine own_go (fun _ kk_ => XS.iload X76.here hx rfl (hb hby at_402) rfl kk_) ?_
              show own_Fin p.tables e below _ (T76.setTop (mkF m 404 #[.val (.int mode), .val (.int pos), .val (.int ch), .val (.int oth), .val (.int (mode &&& (7 : Int32))), .val (.int (0 : Int32)), .val (.int (ch &&& (255 : Int32))), .val (.int cz), .val (.ref b37), .val (.ref ia), .val (.int pp), .unset, .unset, .unset] [(.int (0 : Int32))]))
              refine own_go (fun _ kk_ => XS.ifYes X76.here hx rfl (pc0 := 404) (pc' := 412) rfl (hb hby at_404) rfl ((if0 _ _).trans (teq (by decide : (0 : Int32) = (0 : Int32))).1) (by decide) (by decide) kk_) ?_
              show own_Fin p.tables e below _ (T76.setTop (mkF m 412 #[.val (.int mode), .val (.int pos), .val (.int ch), .val (.int oth), .val (.int (mode &&& (7 : Int32))), .val (.int (0 : Int32)), .val (.int (ch &&& (255 : Int32))), .val (.int cz), .val (.ref b37), .val (.ref ia), .val (.int pp), .unset, .unset, .unset] []))
              obtain ⟨a272, T272, h272, k272, tb272, kb272, X272, e272, E272, hS, hk, hZ, hown, EA272, FC272, FV272, VB272, -, -, CR272, -, NE272, st272⟩ := ldcCH X76 hx hZ hown (hw _ (List.mem_of_getElem? (i := 71) rfl)) wS e76 hS hk hEL (by decide) CH (vs := ((([(105 : Int32), (110 : Int32), (100 : Int32), (105 : Int32), (118 : Int32), (105 : Int32), (100 : Int32), (117 : Int32), (97 : Int32)] : List Int32).map (fun c => c.toInt8.toInt32)).map Value.int)) (z := (9 : Int32)) (by exact ⟨by decide, by decide⟩) (by decide) rfl (g := (mkF m 412 #[.val (.int mode), .val (.int pos), .val (.int ch), .val (.int oth), .val (.int (mode &&& (7 : Int32))), .val (.int (0 : Int32)), .val (.int (ch &&& (255 : Int32))), .val (.int cz), .val (.ref b37), .val (.ref ia), .val (.int pp), .unset, .unset, .unset] [])) rfl (hb hby at_412) (n := 36) (by decide) (by decide) (by decide) (by decide)
              replace S_b37 := CR272.safe V37.lt S_b37
              replace CR := CR.trans CR272
              replace CH := CR272.1
              replace O0 := O0.ext E272
              replace V37 := V37.ext E272
              have K273 := K75.ext E272
              have ne274 : b37 ≠ a272 := (NE272 _ S_b37).1
              have ne275 : b37 ≠ tb272 := (NE272 _ S_b37).2
              have SS272 : own_Str Z h272 a272 tb272 ([(105 : Int32), (110 : Int32), (100 : Int32), (105 : Int32), (118 : Int32), (105 : Int32), (100 : Int32), (117 : Int32), (97 : Int32)] : List Int32) := ⟨_, _, _, _, EA272, FV272, FC272, VB272, StrChars.Road.codOf (n := 9) rfl (by decide), by decide, Nat.le_of_ble_eq_true rfl⟩
              refine own_go st272 ?_
              refine own_go (fun _ kk_ => XS.astore X272.here hx rfl (hb hby at_414) rfl rfl (l' := #[.val (.int mode), .val (.int pos), .val (.int ch), .val (.int oth), .val (.int (mode &&& (7 : Int32))), .val (.int (0 : Int32)), .val (.int (ch &&& (255 : Int32))), .val (.int cz), .val (.ref b37), .val (.ref ia), .val (.int pp), .val (.ref a272), .unset, .unset]) rfl kk_) ?_
              refine own_go (fun _ kk_ => XS.aconstNull X272.here hx rfl (hb hby at_416) kk_) ?_
              refine own_go (fun _ kk_ => XS.astore X272.here hx rfl (hb hby at_417) rfl rfl (l' := #[.val (.int mode), .val (.int pos), .val (.int ch), .val (.int oth), .val (.int (mode &&& (7 : Int32))), .val (.int (0 : Int32)), .val (.int (ch &&& (255 : Int32))), .val (.int cz), .val (.ref b37), .val (.ref ia), .val (.int pp), .val (.ref a272), .val .null, .unset]) rfl kk_) ?_
              refine own_go (fun _ kk_ => XS.goto X272.here hx rfl (pc0 := 419) (pc' := 651) rfl (hb hby at_419) (by decide) (by decide) kk_) ?_
              refine own_go (fun _ kk_ => XS.aload X272.here hx rfl (hb hby at_651) rfl rfl kk_) ?_
              show own_Fin p.tables e below _ (T272.setTop (mkF m 653 #[.val (.int mode), .val (.int pos), .val (.int ch), .val (.int oth), .val (.int (mode &&& (7 : Int32))), .val (.int (0 : Int32)), .val (.int (ch &&& (255 : Int32))), .val (.int cz), .val (.ref b37), .val (.ref ia), .val (.int pp), .val (.ref a272), .val .null, .unset] [(.ref a272)]))
              obtain ⟨_, _, ⟨T276, L276, k276, n276⟩, -, X276, ⟨Lc276, hQ276, l276, y276, z276⟩, st276⟩ := Jvm.LawKit.callS X272 hx (y := (⟨"com/example/hebelwerk/hebelwerk/model/DividendMethod", "written", "(Ljava/lang/String;)Lcom/example/hebelwerk/hebelwerk/model/DividendMethod;"⟩ : MethodName)) hown (mvT hZ (hw _ (List.mem_of_getElem? (i := 34) rfl))) (mvT hZ (hw _ (List.mem_of_getElem? (i := 35) rfl))) (mvT hZ (hw _ (List.mem_of_getElem? (i := 2) rfl))) (mvT hZ (hw _ (List.mem_of_getElem? (i := 36) rfl))) (by decide) (backOf (W := 0) (rm_wrS l Z a0 hw [] a272 tb272 ([(105 : Int32), (110 : Int32), (100 : Int32), (105 : Int32), (118 : Int32), (105 : Int32), (100 : Int32), (117 : Int32), (97 : Int32)] : List Int32) va vk ia sa wi ti wj tj gc h272 n0 (Nat.le_trans Z0 K273.1) SS272 S_V V_V E_V F_i F_j S_i S_j S_C hcs O0) hZ (hw _ (List.mem_of_getElem? (i := 36) rfl)) (hw _ (List.mem_of_getElem? (i := 2) rfl)) (by decide) (by decide)) (g := (mkF m 653 #[.val (.int mode), .val (.int pos), .val (.int ch), .val (.int oth), .val (.int (mode &&& (7 : Int32))), .val (.int (0 : Int32)), .val (.int (ch &&& (255 : Int32))), .val (.int cz), .val (.ref b37), .val (.ref ia), .val (.int pp), .val (.ref a272), .val .null, .unset] [(.ref a272)])) rfl (by rw [hml]; rfl) (argsL := [(.ref a272)]) (rest := []) (lenOf pd_6 rfl) rfl (by show 2 * 0 + _ ≤ _; exact Nat.le_of_eq rfl) (hb hby at_653) (fun _ _ => ⟨rfl, e272, (by decide : 3 + 1 ≤ _), (by decide : 50 + 2 ≤ _)⟩)
              dsimp only [Pt.U, Pt.locs, Pt.cells, Pt.slots] at X276 l276 y276 z276 st276 hQ276
              subst l276 y276 z276
              obtain ⟨N276q, KK276, y1_276, y2_276, y3_276⟩ := hQ276
              obtain rfl := y3_276 (by simp) (by simp)
              have N276 := Fr.app N73 N276q
              have hs277 : ∀ x ∈ [], Safe Z consts_1 T272.vm h272 x := sf0
              replace S_b37 := Safe.keep KK276 hs277 CH S_b37
              replace CR := CR.trans (CHr.keep KK276 hs277 CH)
              replace CH := CHv.keep KK276 hs277 CH
              replace hk := Nat.le_trans hk KK276.1
              replace O0 := O0.keep KK276 all0
              replace V37 := V37.keep KK276 nin0
              replace SS272 := SS272.keep KK276 nin0 nin0
              have K278 := K273.trans KK276 all0
              refine own_go st276 ?_
              refine own_go (fun _ kk_ => XS.aload X276.here hx rfl (hb hby at_656) rfl rfl kk_) ?_
              show own_Fin p.tables e below _ (T276.setTop (mkF m 658 #[.val (.int mode), .val (.int pos), .val (.int ch), .val (.int oth), .val (.int (mode &&& (7 : Int32))), .val (.int (0 : Int32)), .val (.int (ch &&& (255 : Int32))), .val (.int cz), .val (.ref b37), .val (.ref ia), .val (.int pp), .val (.ref a272), .val .null, .unset] [.null, .null]))
              refine own_go (fun _ kk_ => acmp (g := (mkF m 658 #[.val (.int mode), .val (.int pos), .val (.int ch), .val (.int oth), .val (.int (mode &&& (7 : Int32))), .val (.int (0 : Int32)), .val (.int (ch &&& (255 : Int32))), .val (.int cz), .val (.ref b37), .val (.ref ia), .val (.int pp), .val (.ref a272), .val .null, .unset] [.null, .null])) X276 hx rfl rfl rfl (pc0 := 658) (pc' := 661) (same := true) rfl (hb hby at_658) rfl rfl (by decide) (by decide) kk_) ?_
              refine own_go (fun _ kk_ => XS.iconst X276.here hx rfl (hb hby at_661) kk_) ?_
              refine own_go (fun _ kk_ => XS.goto X276.here hx rfl (pc0 := 662) (pc' := 666) rfl (hb hby at_662) (by decide) (by decide) kk_) ?_
              show own_Fin p.tables e below _ (T276.setTop (mkF m 666 #[.val (.int mode), .val (.int pos), .val (.int ch), .val (.int oth), .val (.int (mode &&& (7 : Int32))), .val (.int (0 : Int32)), .val (.int (ch &&& (255 : Int32))), .val (.int cz), .val (.ref b37), .val (.ref ia), .val (.int pp), .val (.ref a272), .val .null, .unset] [(.int (1 : Int32))]))
              have CRz : CHr Z consts_1 s.vm s.heap T276.vm T276.heap := by
                rw [hh]
                exact CR.trans (CHv.at X276 hZ hEL CH)
              refine own_retW X276 hx Bd hS hk (t := .boolean) Bd.returns rfl (Or.inl ⟨rfl, by simp, _, rfl⟩) (hb hby at_666) CRz ?_ (by decide) (by decide)
              show (Q_rm_law Z mode pos ch oth va vk ia sa wi ti wj tj gc h0 n0) (some (.int (1 : Int32))) T276.heap _
              exact ⟨rfl, N276⟩
            · skip
              refine own_go (fun _ kk_ => XS.icmpYes X76.here hx rfl (pc0 := 399) (pc' := 422) rfl (hb hby at_399) rfl (feq hc271).2 (by decide) (by decide) kk_) ?_
              refine own_go (fun _ kk_ => XS.iload X76.here hx rfl (hb hby at_422) rfl kk_) ?_
              refine own_go (fun _ kk_ => XS.iconst X76.here hx rfl (hb hby at_424) kk_) ?_
              show own_Fin p.tables e below _ (T76.setTop (mkF m 425 #[.val (.int mode), .val (.int pos), .val (.int ch), .val (.int oth), .val (.int (mode &&& (7 : Int32))), .val (.int (0 : Int32)), .val (.int (ch &&& (255 : Int32))), .val (.int cz), .val (.ref b37), .val (.ref ia), .val (.int pp), .unset, .unset, .unset] [(.int (4 : Int32)), (.int (mode &&& (7 : Int32)))]))
              by_cases hc279 : (mode &&& (7 : Int32)) = (4 : Int32)
              · skip
                refine own_go (fun _ kk_ => XS.icmpNo X76.here hx rfl (hb hby at_425) rfl (teq hc279).2 kk_) ?_
                refine own_go (fun _ kk_ => XS.iload X76.here hx rfl (hb hby at_428) rfl kk_) ?_
                show own_Fin p.tables e below _ (T76.setTop (mkF m 430 #[.val (.int mode), .val (.int pos), .val (.int ch), .val (.int oth), .val (.int (mode &&& (7 : Int32))), .val (.int (0 : Int32)), .val (.int (ch &&& (255 : Int32))), .val (.int cz), .val (.ref b37), .val (.ref ia), .val (.int pp), .unset, .unset, .unset] [(.int (0 : Int32))]))
                refine own_go (fun _ kk_ => XS.ifYes X76.here hx rfl (pc0 := 430) (pc' := 438) rfl (hb hby at_430) rfl ((if0 _ _).trans (teq (by decide : (0 : Int32) = (0 : Int32))).1) (by decide) (by decide) kk_) ?_
                show own_Fin p.tables e below _ (T76.setTop (mkF m 438 #[.val (.int mode), .val (.int pos), .val (.int ch), .val (.int oth), .val (.int (mode &&& (7 : Int32))), .val (.int (0 : Int32)), .val (.int (ch &&& (255 : Int32))), .val (.int cz), .val (.ref b37), .val (.ref ia), .val (.int pp), .unset, .unset, .unset] []))
                obtain ⟨a280, T280, h280, k280, tb280, kb280, X280, e280, E280, hS, hk, hZ, hown, EA280, FC280, FV280, VB280, -, -, CR280, -, NE280, st280⟩ := ldcCH X76 hx hZ hown (hw _ (List.mem_of_getElem? (i := 72) rfl)) wS e76 hS hk hEL (by decide) CH (vs := ((([(110 : Int32), (100 : Int32), (105 : Int32), (118 : Int32), (105 : Int32), (100 : Int32), (117 : Int32), (97 : Int32), (108 : Int32)] : List Int32).map (fun c => c.toInt8.toInt32)).map Value.int)) (z := (9 : Int32)) (by exact ⟨by decide, by decide⟩) (by decide) rfl (g := (mkF m 438 #[.val (.int mode), .val (.int pos), .val (.int ch), .val (.int oth), .val (.int (mode &&& (7 : Int32))), .val (.int (0 : Int32)), .val (.int (ch &&& (255 : Int32))), .val (.int cz), .val (.ref b37), .val (.ref ia), .val (.int pp), .unset, .unset, .unset] [])) rfl (hb hby at_438) (n := 36) (by decide) (by decide) (by decide) (by decide)
                replace S_b37 := CR280.safe V37.lt S_b37
                replace CR := CR.trans CR280
                replace CH := CR280.1
                replace O0 := O0.ext E280
                replace V37 := V37.ext E280
                have K281 := K75.ext E280
                have ne282 : b37 ≠ a280 := (NE280 _ S_b37).1
                have ne283 : b37 ≠ tb280 := (NE280 _ S_b37).2
                have SS280 : own_Str Z h280 a280 tb280 ([(110 : Int32), (100 : Int32), (105 : Int32), (118 : Int32), (105 : Int32), (100 : Int32), (117 : Int32), (97 : Int32), (108 : Int32)] : List Int32) := ⟨_, _, _, _, EA280, FV280, FC280, VB280, StrChars.Road.codOf (n := 9) rfl (by decide), by decide, Nat.le_of_ble_eq_true rfl⟩
                refine own_go st280 ?_
                refine own_go (fun _ kk_ => XS.astore X280.here hx rfl (hb hby at_440) rfl rfl (l' := #[.val (.int mode), .val (.int pos), .val (.int ch), .val (.int oth), .val (.int (mode &&& (7 : Int32))), .val (.int (0 : Int32)), .val (.int (ch &&& (255 : Int32))), .val (.int cz), .val (.ref b37), .val (.ref ia), .val (.int pp), .val (.ref a280), .unset, .unset]) rfl kk_) ?_
                refine own_go (fun _ kk_ => XS.aconstNull X280.here hx rfl (hb hby at_442) kk_) ?_
                refine own_go (fun _ kk_ => XS.astore X280.here hx rfl (hb hby at_443) rfl rfl (l' := #[.val (.int mode), .val (.int pos), .val (.int ch), .val (.int oth), .val (.int (mode &&& (7 : Int32))), .val (.int (0 : Int32)), .val (.int (ch &&& (255 : Int32))), .val (.int cz), .val (.ref b37), .val (.ref ia), .val (.int pp), .val (.ref a280), .val .null, .unset]) rfl kk_) ?_
                refine own_go (fun _ kk_ => XS.goto X280.here hx rfl (pc0 := 445) (pc' := 651) rfl (hb hby at_445) (by decide) (by decide) kk_) ?_
                refine own_go (fun _ kk_ => XS.aload X280.here hx rfl (hb hby at_651) rfl rfl kk_) ?_
                show own_Fin p.tables e below _ (T280.setTop (mkF m 653 #[.val (.int mode), .val (.int pos), .val (.int ch), .val (.int oth), .val (.int (mode &&& (7 : Int32))), .val (.int (0 : Int32)), .val (.int (ch &&& (255 : Int32))), .val (.int cz), .val (.ref b37), .val (.ref ia), .val (.int pp), .val (.ref a280), .val .null, .unset] [(.ref a280)]))
                obtain ⟨_, _, ⟨T284, L284, k284, n284⟩, -, X284, ⟨Lc284, hQ284, l284, y284, z284⟩, st284⟩ := Jvm.LawKit.callS X280 hx (y := (⟨"com/example/hebelwerk/hebelwerk/model/DividendMethod", "written", "(Ljava/lang/String;)Lcom/example/hebelwerk/hebelwerk/model/DividendMethod;"⟩ : MethodName)) hown (mvT hZ (hw _ (List.mem_of_getElem? (i := 34) rfl))) (mvT hZ (hw _ (List.mem_of_getElem? (i := 35) rfl))) (mvT hZ (hw _ (List.mem_of_getElem? (i := 2) rfl))) (mvT hZ (hw _ (List.mem_of_getElem? (i := 36) rfl))) (by decide) (backOf (W := 0) (rm_wrS l Z a0 hw [] a280 tb280 ([(110 : Int32), (100 : Int32), (105 : Int32), (118 : Int32), (105 : Int32), (100 : Int32), (117 : Int32), (97 : Int32), (108 : Int32)] : List Int32) va vk ia sa wi ti wj tj gc h280 n0 (Nat.le_trans Z0 K281.1) SS280 S_V V_V E_V F_i F_j S_i S_j S_C hcs O0) hZ (hw _ (List.mem_of_getElem? (i := 36) rfl)) (hw _ (List.mem_of_getElem? (i := 2) rfl)) (by decide) (by decide)) (g := (mkF m 653 #[.val (.int mode), .val (.int pos), .val (.int ch), .val (.int oth), .val (.int (mode &&& (7 : Int32))), .val (.int (0 : Int32)), .val (.int (ch &&& (255 : Int32))), .val (.int cz), .val (.ref b37), .val (.ref ia), .val (.int pp), .val (.ref a280), .val .null, .unset] [(.ref a280)])) rfl (by rw [hml]; rfl) (argsL := [(.ref a280)]) (rest := []) (lenOf pd_6 rfl) rfl (by show 2 * 0 + _ ≤ _; exact Nat.le_of_eq rfl) (hb hby at_653) (fun _ _ => ⟨rfl, e280, (by decide : 3 + 1 ≤ _), (by decide : 50 + 2 ≤ _)⟩)
                dsimp only [Pt.U, Pt.locs, Pt.cells, Pt.slots] at X284 l284 y284 z284 st284 hQ284
                subst l284 y284 z284
                obtain ⟨N284q, KK284, y1_284, y2_284, y3_284⟩ := hQ284
                obtain rfl := y3_284 (by simp) (by simp)
                have N284 := Fr.app N73 N284q
                have hs285 : ∀ x ∈ [], Safe Z consts_1 T280.vm h280 x := sf0
                replace S_b37 := Safe.keep KK284 hs285 CH S_b37
                replace CR := CR.trans (CHr.keep KK284 hs285 CH)
                replace CH := CHv.keep KK284 hs285 CH
                replace hk := Nat.le_trans hk KK284.1
                replace O0 := O0.keep KK284 all0
                replace V37 := V37.keep KK284 nin0
                replace SS280 := SS280.keep KK284 nin0 nin0
                have K286 := K281.trans KK284 all0
                refine own_go st284 ?_
                refine own_go (fun _ kk_ => XS.aload X284.here hx rfl (hb hby at_656) rfl rfl kk_) ?_
                show own_Fin p.tables e below _ (T284.setTop (mkF m 658 #[.val (.int mode), .val (.int pos), .val (.int ch), .val (.int oth), .val (.int (mode &&& (7 : Int32))), .val (.int (0 : Int32)), .val (.int (ch &&& (255 : Int32))), .val (.int cz), .val (.ref b37), .val (.ref ia), .val (.int pp), .val (.ref a280), .val .null, .unset] [.null, .null]))
                refine own_go (fun _ kk_ => acmp (g := (mkF m 658 #[.val (.int mode), .val (.int pos), .val (.int ch), .val (.int oth), .val (.int (mode &&& (7 : Int32))), .val (.int (0 : Int32)), .val (.int (ch &&& (255 : Int32))), .val (.int cz), .val (.ref b37), .val (.ref ia), .val (.int pp), .val (.ref a280), .val .null, .unset] [.null, .null])) X284 hx rfl rfl rfl (pc0 := 658) (pc' := 661) (same := true) rfl (hb hby at_658) rfl rfl (by decide) (by decide) kk_) ?_
                refine own_go (fun _ kk_ => XS.iconst X284.here hx rfl (hb hby at_661) kk_) ?_
                refine own_go (fun _ kk_ => XS.goto X284.here hx rfl (pc0 := 662) (pc' := 666) rfl (hb hby at_662) (by decide) (by decide) kk_) ?_
                show own_Fin p.tables e below _ (T284.setTop (mkF m 666 #[.val (.int mode), .val (.int pos), .val (.int ch), .val (.int oth), .val (.int (mode &&& (7 : Int32))), .val (.int (0 : Int32)), .val (.int (ch &&& (255 : Int32))), .val (.int cz), .val (.ref b37), .val (.ref ia), .val (.int pp), .val (.ref a280), .val .null, .unset] [(.int (1 : Int32))]))
                have CRz : CHr Z consts_1 s.vm s.heap T284.vm T284.heap := by
                  rw [hh]
                  exact CR.trans (CHv.at X284 hZ hEL CH)
                refine own_retW X284 hx Bd hS hk (t := .boolean) Bd.returns rfl (Or.inl ⟨rfl, by simp, _, rfl⟩) (hb hby at_666) CRz ?_ (by decide) (by decide)
                show (Q_rm_law Z mode pos ch oth va vk ia sa wi ti wj tj gc h0 n0) (some (.int (1 : Int32))) T284.heap _
                exact ⟨rfl, N284⟩
              · skip
                refine own_go (fun _ kk_ => XS.icmpYes X76.here hx rfl (pc0 := 425) (pc' := 448) rfl (hb hby at_425) rfl (feq hc279).2 (by decide) (by decide) kk_) ?_
                refine own_go (fun _ kk_ => XS.iload X76.here hx rfl (hb hby at_448) rfl kk_) ?_
                refine own_go (fun _ kk_ => XS.iconst X76.here hx rfl (hb hby at_450) kk_) ?_
                show own_Fin p.tables e below _ (T76.setTop (mkF m 451 #[.val (.int mode), .val (.int pos), .val (.int ch), .val (.int oth), .val (.int (mode &&& (7 : Int32))), .val (.int (0 : Int32)), .val (.int (ch &&& (255 : Int32))), .val (.int cz), .val (.ref b37), .val (.ref ia), .val (.int pp), .unset, .unset, .unset] [(.int (5 : Int32)), (.int (mode &&& (7 : Int32)))]))
                by_cases hc287 : (mode &&& (7 : Int32)) = (5 : Int32)
                · skip
                  refine own_go (fun _ kk_ => XS.icmpNo X76.here hx rfl (hb hby at_451) rfl (teq hc287).2 kk_) ?_
                  refine own_go (fun _ kk_ => XS.aconstNull X76.here hx rfl (hb hby at_454) kk_) ?_
                  refine own_go (fun _ kk_ => XS.astore X76.here hx rfl (hb hby at_455) rfl rfl (l' := #[.val (.int mode), .val (.int pos), .val (.int ch), .val (.int oth), .val (.int (mode &&& (7 : Int32))), .val (.int (0 : Int32)), .val (.int (ch &&& (255 : Int32))), .val (.int cz), .val (.ref b37), .val (.ref ia), .val (.int pp), .val .null, .unset, .unset]) rfl kk_) ?_
                  refine own_go (fun _ kk_ => XS.aconstNull X76.here hx rfl (hb hby at_457) kk_) ?_
                  refine own_go (fun _ kk_ => XS.astore X76.here hx rfl (hb hby at_458) rfl rfl (l' := #[.val (.int mode), .val (.int pos), .val (.int ch), .val (.int oth), .val (.int (mode &&& (7 : Int32))), .val (.int (0 : Int32)), .val (.int (ch &&& (255 : Int32))), .val (.int cz), .val (.ref b37), .val (.ref ia), .val (.int pp), .val .null, .val .null, .unset]) rfl kk_) ?_
                  refine own_go (fun _ kk_ => XS.goto X76.here hx rfl (pc0 := 460) (pc' := 651) rfl (hb hby at_460) (by decide) (by decide) kk_) ?_
                  refine own_go (fun _ kk_ => XS.aload X76.here hx rfl (hb hby at_651) rfl rfl kk_) ?_
                  show own_Fin p.tables e below _ (T76.setTop (mkF m 653 #[.val (.int mode), .val (.int pos), .val (.int ch), .val (.int oth), .val (.int (mode &&& (7 : Int32))), .val (.int (0 : Int32)), .val (.int (ch &&& (255 : Int32))), .val (.int cz), .val (.ref b37), .val (.ref ia), .val (.int pp), .val .null, .val .null, .unset] [.null]))
                  obtain ⟨_, _, ⟨T288, L288, k288, n288⟩, -, X288, ⟨Lc288, hQ288, l288, y288, z288⟩, st288⟩ := Jvm.LawKit.callS X76 hx (y := (⟨"com/example/hebelwerk/hebelwerk/model/DividendMethod", "written", "(Ljava/lang/String;)Lcom/example/hebelwerk/hebelwerk/model/DividendMethod;"⟩ : MethodName)) hown (mvT hZ (hw _ (List.mem_of_getElem? (i := 34) rfl))) (mvT hZ (hw _ (List.mem_of_getElem? (i := 35) rfl))) (mvT hZ (hw _ (List.mem_of_getElem? (i := 2) rfl))) (mvT hZ (hw _ (List.mem_of_getElem? (i := 36) rfl))) (by decide) (backOf (W := 0) (rm_wrN l Z a0 hw [] va vk ia sa wi ti wj tj gc h73 n0 (Nat.le_trans Z0 K75.1) S_V V_V E_V F_i F_j S_i S_j S_C hcs O0) hZ (hw _ (List.mem_of_getElem? (i := 36) rfl)) (hw _ (List.mem_of_getElem? (i := 2) rfl)) (by decide) (by decide)) (g := (mkF m 653 #[.val (.int mode), .val (.int pos), .val (.int ch), .val (.int oth), .val (.int (mode &&& (7 : Int32))), .val (.int (0 : Int32)), .val (.int (ch &&& (255 : Int32))), .val (.int cz), .val (.ref b37), .val (.ref ia), .val (.int pp), .val .null, .val .null, .unset] [.null])) rfl (by rw [hml]; rfl) (argsL := [.null]) (rest := []) (lenOf pd_6 rfl) rfl (by show 2 * 0 + _ ≤ _; exact Nat.le_of_eq rfl) (hb hby at_653) (fun _ _ => ⟨rfl, e76, (by decide : 1 + 1 ≤ _), (by decide : 10 + 2 ≤ _)⟩)
                  dsimp only [Pt.U, Pt.locs, Pt.cells, Pt.slots] at X288 l288 y288 z288 st288 hQ288
                  subst l288 y288 z288
                  obtain ⟨rfl, N288q, KK288⟩ := hQ288
                  have N288 := Fr.app N73 N288q
                  have hs289 : ∀ x ∈ [], Safe Z consts_1 s.vm h73 x := sf0
                  replace S_b37 := Safe.keep KK288 hs289 CH S_b37
                  replace CR := CR.trans (CHr.keep KK288 hs289 CH)
                  replace CH := CHv.keep KK288 hs289 CH
                  replace hk := Nat.le_trans hk KK288.1
                  replace O0 := O0.keep KK288 all0
                  replace V37 := V37.keep KK288 nin0
                  have K290 := K75.trans KK288 all0
                  refine own_go st288 ?_
                  refine own_go (fun _ kk_ => XS.aload X288.here hx rfl (hb hby at_656) rfl rfl kk_) ?_
                  show own_Fin p.tables e below _ (T288.setTop (mkF m 658 #[.val (.int mode), .val (.int pos), .val (.int ch), .val (.int oth), .val (.int (mode &&& (7 : Int32))), .val (.int (0 : Int32)), .val (.int (ch &&& (255 : Int32))), .val (.int cz), .val (.ref b37), .val (.ref ia), .val (.int pp), .val .null, .val .null, .unset] [.null, .null]))
                  refine own_go (fun _ kk_ => acmp (g := (mkF m 658 #[.val (.int mode), .val (.int pos), .val (.int ch), .val (.int oth), .val (.int (mode &&& (7 : Int32))), .val (.int (0 : Int32)), .val (.int (ch &&& (255 : Int32))), .val (.int cz), .val (.ref b37), .val (.ref ia), .val (.int pp), .val .null, .val .null, .unset] [.null, .null])) X288 hx rfl rfl rfl (pc0 := 658) (pc' := 661) (same := true) rfl (hb hby at_658) rfl rfl (by decide) (by decide) kk_) ?_
                  refine own_go (fun _ kk_ => XS.iconst X288.here hx rfl (hb hby at_661) kk_) ?_
                  refine own_go (fun _ kk_ => XS.goto X288.here hx rfl (pc0 := 662) (pc' := 666) rfl (hb hby at_662) (by decide) (by decide) kk_) ?_
                  show own_Fin p.tables e below _ (T288.setTop (mkF m 666 #[.val (.int mode), .val (.int pos), .val (.int ch), .val (.int oth), .val (.int (mode &&& (7 : Int32))), .val (.int (0 : Int32)), .val (.int (ch &&& (255 : Int32))), .val (.int cz), .val (.ref b37), .val (.ref ia), .val (.int pp), .val .null, .val .null, .unset] [(.int (1 : Int32))]))
                  have CRz : CHr Z consts_1 s.vm s.heap T288.vm T288.heap := by
                    rw [hh]
                    exact CR.trans (CHv.at X288 hZ hEL CH)
                  refine own_retW X288 hx Bd hS hk (t := .boolean) Bd.returns rfl (Or.inl ⟨rfl, by simp, _, rfl⟩) (hb hby at_666) CRz ?_ (by decide) (by decide)
                  show (Q_rm_law Z mode pos ch oth va vk ia sa wi ti wj tj gc h0 n0) (some (.int (1 : Int32))) T288.heap _
                  exact ⟨rfl, N288⟩
                · skip
                  refine own_go (fun _ kk_ => XS.icmpYes X76.here hx rfl (pc0 := 451) (pc' := 463) rfl (hb hby at_451) rfl (feq hc287).2 (by decide) (by decide) kk_) ?_
                  refine own_go (fun _ kk_ => XS.iload X76.here hx rfl (hb hby at_463) rfl kk_) ?_
                  refine own_go (fun _ kk_ => XS.bipush X76.here hx rfl (hb hby at_465) kk_) ?_
                  show own_Fin p.tables e below _ (T76.setTop (mkF m 467 #[.val (.int mode), .val (.int pos), .val (.int ch), .val (.int oth), .val (.int (mode &&& (7 : Int32))), .val (.int (0 : Int32)), .val (.int (ch &&& (255 : Int32))), .val (.int cz), .val (.ref b37), .val (.ref ia), .val (.int pp), .unset, .unset, .unset] [(.int (6 : Int32)), (.int (mode &&& (7 : Int32)))]))
                  by_cases hc291 : (mode &&& (7 : Int32)) = (6 : Int32)
                  · skip
                    refine own_go (fun _ kk_ => XS.icmpNo X76.here hx rfl (hb hby at_467) rfl (teq hc291).2 kk_) ?_
                    refine own_go (fun _ kk_ => XS.iloadN X76.here hx rfl (hb hby at_470) rfl kk_) ?_
                    show own_Fin p.tables e below _ (T76.setTop (mkF m 471 #[.val (.int mode), .val (.int pos), .val (.int ch), .val (.int oth), .val (.int (mode &&& (7 : Int32))), .val (.int (0 : Int32)), .val (.int (ch &&& (255 : Int32))), .val (.int cz), .val (.ref b37), .val (.ref ia), .val (.int pp), .unset, .unset, .unset] [(.int oth)]))
                    refine own_go (fun _ kk_ => Jvm.Stand.ldcI X76 hx hown (mvT hZ (hw _ (List.mem_of_getElem? (i := 73) rfl))) (g := (mkF m 471 #[.val (.int mode), .val (.int pos), .val (.int ch), .val (.int oth), .val (.int (mode &&& (7 : Int32))), .val (.int (0 : Int32)), .val (.int (ch &&& (255 : Int32))), .val (.int cz), .val (.ref b37), .val (.ref ia), .val (.int pp), .unset, .unset, .unset] [(.int oth)])) rfl (hb hby at_471) kk_) ?_
                    show own_Fin p.tables e below _ (T76.setTop (mkF m 473 #[.val (.int mode), .val (.int pos), .val (.int ch), .val (.int oth), .val (.int (mode &&& (7 : Int32))), .val (.int (0 : Int32)), .val (.int (ch &&& (255 : Int32))), .val (.int cz), .val (.ref b37), .val (.ref ia), .val (.int pp), .unset, .unset, .unset] [(.int (65536 : Int32)), (.int oth)]))
                    refine own_go (fun _ kk_ => XS.iand X76.here hx rfl (hb hby at_473) rfl kk_) ?_
                    show own_Fin p.tables e below _ (T76.setTop (mkF m 474 #[.val (.int mode), .val (.int pos), .val (.int ch), .val (.int oth), .val (.int (mode &&& (7 : Int32))), .val (.int (0 : Int32)), .val (.int (ch &&& (255 : Int32))), .val (.int cz), .val (.ref b37), .val (.ref ia), .val (.int pp), .unset, .unset, .unset] [(.int (oth &&& (65536 : Int32)))]))
                    by_cases hc292 : (oth &&& (65536 : Int32)) = (0 : Int32)
                    · skip
                      refine own_go (fun _ kk_ => XS.ifYes X76.here hx rfl (pc0 := 474) (pc' := 484) rfl (hb hby at_474) rfl ((if0 _ _).trans (teq hc292).1) (by decide) (by decide) kk_) ?_
                      show own_Fin p.tables e below _ (T76.setTop (mkF m 484 #[.val (.int mode), .val (.int pos), .val (.int ch), .val (.int oth), .val (.int (mode &&& (7 : Int32))), .val (.int (0 : Int32)), .val (.int (ch &&& (255 : Int32))), .val (.int cz), .val (.ref b37), .val (.ref ia), .val (.int pp), .unset, .unset, .unset] []))
                      obtain ⟨T293, h293, X293, e293, E293, A293, D293, -, st293⟩ := newO X76 hx hZ hown (hw _ (List.mem_of_getElem? (i := 5) rfl)) (hw _ (List.mem_of_getElem? (i := 6) rfl)) (hw _ (List.mem_of_getElem? (i := 7) rfl)) e76 (g := (mkF m 484 #[.val (.int mode), .val (.int pos), .val (.int ch), .val (.int oth), .val (.int (mode &&& (7 : Int32))), .val (.int (0 : Int32)), .val (.int (ch &&& (255 : Int32))), .val (.int cz), .val (.ref b37), .val (.ref ia), .val (.int pp), .unset, .unset, .unset] [])) rfl (hb hby at_484) (by decide) (by decide)
                      obtain ⟨b293, g293⟩ : ∃ z, z = h73.size := ⟨_, rfl⟩
                      rw [← g293] at A293 D293 st293
                      have sz_b293 : h0.size ≤ b293 := Nat.le_trans K75.1 (Nat.le_of_eq g293.symm)
                      have g_b293 : n0 ≤ b293 := Nat.le_trans Z0 sz_b293
                      have ne294 : va ≠ b293 := O0.ne V_V.lt g_b293
                      have ne295 : ia ≠ b293 := O0.ne F_i.lt g_b293
                      have ne296 : sa ≠ b293 := O0.ne F_j.lt g_b293
                      have ne297 : wi ≠ b293 := O0.ne S_i.lt g_b293
                      have ne298 : ti ≠ b293 := O0.ne S_i.ltt g_b293
                      have ne299 : wj ≠ b293 := O0.ne S_j.lt g_b293
                      have ne300 : tj ≠ b293 := O0.ne S_j.ltt g_b293
                      have ne301 : b37 ≠ b293 := Nat.ne_of_lt (Nat.lt_of_lt_of_le V37.lt (Nat.le_of_eq g293.symm))
                      have S_b293 := Safe.new (Z := Z) (EL := consts_1) (vm := s.vm) (Nat.le_of_eq g293.symm)
                      replace S_b37 := Safe.ext E293 CH S_b37
                      replace S_b293 := Safe.ext E293 CH S_b293
                      replace CR := CR.trans (CHr.ext E293 CH)
                      replace CH := CH.ext E293
                      replace hk := Nat.le_trans hk E293.1
                      replace O0 := O0.ext E293
                      replace V37 := V37.ext E293
                      have K302 := K75.ext E293
                      have F293_coder : Fld Z h293 b293 "java/lang/String" "coder" "B" (.int (0 : Int32)) := D293 (Or.inr (hw _ (List.mem_of_getElem? (i := 31) rfl))) (ty := .byte) (by decide)
                      have F293_value : Fld Z h293 b293 "java/lang/String" "value" "[B" .null := D293 (Or.inr (hw _ (List.mem_of_getElem? (i := 33) rfl))) (ty := (.array .byte)) (by decide)
                      refine own_go st293 ?_
                      refine own_go (fun _ kk_ => XS.dup X293.here hx rfl (hb hby at_487) rfl rfl kk_) ?_
                      refine own_go (fun _ kk_ => XS.iconst X293.here hx rfl (hb hby at_488) kk_) ?_
                      show own_Fin p.tables e below _ (T293.setTop (mkF m 489 #[.val (.int mode), .val (.int pos), .val (.int ch), .val (.int oth), .val (.int (mode &&& (7 : Int32))), .val (.int (0 : Int32)), .val (.int (ch &&& (255 : Int32))), .val (.int cz), .val (.ref b37), .val (.ref ia), .val (.int pp), .unset, .unset, .unset] [(.int (2 : Int32)), (.ref b293), (.ref b293)]))
                      obtain ⟨T303, h303, k303, X303, e303, E303, A303, st303⟩ := newP X293 hx hZ (hw _ (List.mem_of_getElem? (i := 0) rfl)) e293 (g := (mkF m 489 #[.val (.int mode), .val (.int pos), .val (.int ch), .val (.int oth), .val (.int (mode &&& (7 : Int32))), .val (.int (0 : Int32)), .val (.int (ch &&& (255 : Int32))), .val (.int cz), .val (.ref b37), .val (.ref ia), .val (.int pp), .unset, .unset, .unset] [(.int (2 : Int32)), (.ref b293), (.ref b293)])) rfl (hb hby at_489) rfl (by decide) (cap := 2) (by decide) (by decide) (by decide) (by decide)
                      obtain ⟨b303, g303⟩ : ∃ z, z = h293.size := ⟨_, rfl⟩
                      rw [← g303] at A303 st303
                      have sz_b303 : h0.size ≤ b303 := Nat.le_trans K302.1 (Nat.le_of_eq g303.symm)
                      have g_b303 : n0 ≤ b303 := Nat.le_trans Z0 sz_b303
                      have ne304 : va ≠ b303 := O0.ne V_V.lt g_b303
                      have ne305 : ia ≠ b303 := O0.ne F_i.lt g_b303
                      have ne306 : sa ≠ b303 := O0.ne F_j.lt g_b303
                      have ne307 : wi ≠ b303 := O0.ne S_i.lt g_b303
                      have ne308 : ti ≠ b303 := O0.ne S_i.ltt g_b303
                      have ne309 : wj ≠ b303 := O0.ne S_j.lt g_b303
                      have ne310 : tj ≠ b303 := O0.ne S_j.ltt g_b303
                      have ne311 : b37 ≠ b303 := Nat.ne_of_lt (Nat.lt_of_lt_of_le V37.lt (Nat.le_of_eq g303.symm))
                      have ne312 : b293 ≠ b303 := Nat.ne_of_lt (Nat.lt_of_lt_of_le A293.lt (Nat.le_of_eq g303.symm))
                      have S_b303 := Safe.new (Z := Z) (EL := consts_1) (vm := s.vm) (Nat.le_of_eq g303.symm)
                      replace S_b37 := Safe.ext E303 CH S_b37
                      replace S_b293 := Safe.ext E303 CH S_b293
                      replace S_b303 := Safe.ext E303 CH S_b303
                      replace CR := CR.trans (CHr.ext E303 CH)
                      replace CH := CH.ext E303
                      replace hk := Nat.le_trans hk E303.1
                      replace O0 := O0.ext E303
                      replace V37 := V37.ext E303
                      replace A293 := A293.ext E303
                      replace F293_coder := F293_coder.ext E303
                      replace F293_value := F293_value.ext E303
                      have K313 := K302.ext E303
                      have V303 : Arv Z h303 b303 k303 .char (2 : Int32) [(.int (0 : Int32)), (.int (0 : Int32))] (.int (0 : Int32)) := (Arv.new A303 (by decide)).pad (pad_rep [] (.int (0 : Int32)) 2)
                      refine own_go st303 ?_
                      refine own_go (fun _ kk_ => XS.dup X303.here hx rfl (hb hby at_491) rfl rfl kk_) ?_
                      refine own_go (fun _ kk_ => XS.iconst X303.here hx rfl (hb hby at_492) kk_) ?_
                      refine own_go (fun _ kk_ => XS.iloadN X303.here hx rfl (hb hby at_493) rfl kk_) ?_
                      refine own_go (fun _ kk_ => XS.sipush X303.here hx rfl (hb hby at_494) kk_) ?_
                      show own_Fin p.tables e below _ (T303.setTop (mkF m 497 #[.val (.int mode), .val (.int pos), .val (.int ch), .val (.int oth), .val (.int (mode &&& (7 : Int32))), .val (.int (0 : Int32)), .val (.int (ch &&& (255 : Int32))), .val (.int cz), .val (.ref b37), .val (.ref ia), .val (.int pp), .unset, .unset, .unset] [(.int (255 : Int32)), (.int oth), (.int (0 : Int32)), (.ref b303), (.ref b303), (.ref b293), (.ref b293)]))
                      refine own_go (fun _ kk_ => XS.iand X303.here hx rfl (hb hby at_497) rfl kk_) ?_
                      show own_Fin p.tables e below _ (T303.setTop (mkF m 498 #[.val (.int mode), .val (.int pos), .val (.int ch), .val (.int oth), .val (.int (mode &&& (7 : Int32))), .val (.int (0 : Int32)), .val (.int (ch &&& (255 : Int32))), .val (.int cz), .val (.ref b37), .val (.ref ia), .val (.int pp), .unset, .unset, .unset] [(.int (oth &&& (255 : Int32))), (.int (0 : Int32)), (.ref b303), (.ref b303), (.ref b293), (.ref b293)]))
                      refine own_go (fun _ kk_ => XS.i2c X303.here hx rfl (hb hby at_498) rfl kk_) ?_
                      rw [i2c_mask]
                      show own_Fin p.tables e below _ (T303.setTop (mkF m 499 #[.val (.int mode), .val (.int pos), .val (.int ch), .val (.int oth), .val (.int (mode &&& (7 : Int32))), .val (.int (0 : Int32)), .val (.int (ch &&& (255 : Int32))), .val (.int cz), .val (.ref b37), .val (.ref ia), .val (.int pp), .unset, .unset, .unset] [(.int (oth &&& (255 : Int32))), (.int (0 : Int32)), (.ref b303), (.ref b303), (.ref b293), (.ref b293)]))
                      obtain ⟨T314, h314, X314, e314, W314, V314, st314⟩ := own_stC X303 hx hZ e303 V303 (by decide) (i := 0) rfl (Nat.le_of_ble_eq_true rfl) (g := (mkF m 499 #[.val (.int mode), .val (.int pos), .val (.int ch), .val (.int oth), .val (.int (mode &&& (7 : Int32))), .val (.int (0 : Int32)), .val (.int (ch &&& (255 : Int32))), .val (.int cz), .val (.ref b37), .val (.ref ia), .val (.int pp), .unset, .unset, .unset] [(.int (oth &&& (255 : Int32))), (.int (0 : Int32)), (.ref b303), (.ref b303), (.ref b293), (.ref b293)])) rfl rfl (hb hby at_499)
                      rw [own_nar255] at V314
                      replace V303 : Arv Z h314 b303 k303 .char (2 : Int32) [(.int (oth &&& (255 : Int32))), (.int (0 : Int32))] (.int (0 : Int32)) := V314
                      have N314 := Fr.snoc X314 N73 g_b303
                      refine own_go st314 ?_
                      have sa315 := S_b303
                      replace S_b37 := Safe.wr W314 sa315 CH S_b37
                      replace S_b293 := Safe.wr W314 sa315 CH S_b293
                      replace S_b303 := Safe.wr W314 sa315 CH S_b303
                      replace CR := CR.trans (CHr.wr W314 sa315 CH)
                      replace CH := CHv.wr W314 sa315 CH
                      replace hk := Nat.le_trans hk (Keep.of_wr W314).1
                      replace O0 := O0.wr W314 g_b303
                      replace V37 := V37.other W314 ne311
                      replace A293 := A293.wr W314
                      replace F293_coder := F293_coder.other W314 (Or.inl ne312)
                      replace F293_value := F293_value.other W314 (Or.inl ne312)
                      have K316 := K313.wr W314 (Or.inr sz_b303)
                      refine own_go (fun _ kk_ => XS.dup X314.here hx rfl (hb hby at_500) rfl rfl kk_) ?_
                      refine own_go (fun _ kk_ => XS.iconst X314.here hx rfl (hb hby at_501) kk_) ?_
                      refine own_go (fun _ kk_ => XS.iloadN X314.here hx rfl (hb hby at_502) rfl kk_) ?_
                      refine own_go (fun _ kk_ => XS.bipush X314.here hx rfl (hb hby at_503) kk_) ?_
                      show own_Fin p.tables e below _ (T314.setTop (mkF m 505 #[.val (.int mode), .val (.int pos), .val (.int ch), .val (.int oth), .val (.int (mode &&& (7 : Int32))), .val (.int (0 : Int32)), .val (.int (ch &&& (255 : Int32))), .val (.int cz), .val (.ref b37), .val (.ref ia), .val (.int pp), .unset, .unset, .unset] [(.int (8 : Int32)), (.int oth), (.int (1 : Int32)), (.ref b303), (.ref b303), (.ref b293), (.ref b293)]))
                      refine own_go (fun _ kk_ => XS.iushr X314.here hx rfl (hb hby at_505) rfl kk_) ?_
                      refine own_go (fun _ kk_ => XS.sipush X314.here hx rfl (hb hby at_506) kk_) ?_
                      show own_Fin p.tables e below _ (T314.setTop (mkF m 509 #[.val (.int mode), .val (.int pos), .val (.int ch), .val (.int oth), .val (.int (mode &&& (7 : Int32))), .val (.int (0 : Int32)), .val (.int (ch &&& (255 : Int32))), .val (.int cz), .val (.ref b37), .val (.ref ia), .val (.int pp), .unset, .unset, .unset] [(.int (255 : Int32)), (.int ((oth.toUInt32 >>> ((8 : Int32) &&& 31).toUInt32).toInt32)), (.int (1 : Int32)), (.ref b303), (.ref b303), (.ref b293), (.ref b293)]))
                      refine own_go (fun _ kk_ => XS.iand X314.here hx rfl (hb hby at_509) rfl kk_) ?_
                      show own_Fin p.tables e below _ (T314.setTop (mkF m 510 #[.val (.int mode), .val (.int pos), .val (.int ch), .val (.int oth), .val (.int (mode &&& (7 : Int32))), .val (.int (0 : Int32)), .val (.int (ch &&& (255 : Int32))), .val (.int cz), .val (.ref b37), .val (.ref ia), .val (.int pp), .unset, .unset, .unset] [(.int (((oth.toUInt32 >>> ((8 : Int32) &&& 31).toUInt32).toInt32) &&& (255 : Int32))), (.int (1 : Int32)), (.ref b303), (.ref b303), (.ref b293), (.ref b293)]))
                      refine own_go (fun _ kk_ => XS.i2c X314.here hx rfl (hb hby at_510) rfl kk_) ?_
                      rw [i2c_mask]
                      show own_Fin p.tables e below _ (T314.setTop (mkF m 511 #[.val (.int mode), .val (.int pos), .val (.int ch), .val (.int oth), .val (.int (mode &&& (7 : Int32))), .val (.int (0 : Int32)), .val (.int (ch &&& (255 : Int32))), .val (.int cz), .val (.ref b37), .val (.ref ia), .val (.int pp), .unset, .unset, .unset] [(.int (((oth.toUInt32 >>> ((8 : Int32) &&& 31).toUInt32).toInt32) &&& (255 : Int32))), (.int (1 : Int32)), (.ref b303), (.ref b303), (.ref b293), (.ref b293)]))
                      obtain ⟨T317, h317, X317, e317, W317, V317, st317⟩ := own_stC X314 hx hZ e314 V303 (by decide) (i := 1) rfl (Nat.le_of_ble_eq_true rfl) (g := (mkF m 511 #[.val (.int mode), .val (.int pos), .val (.int ch), .val (.int oth), .val (.int (mode &&& (7 : Int32))), .val (.int (0 : Int32)), .val (.int (ch &&& (255 : Int32))), .val (.int cz), .val (.ref b37), .val (.ref ia), .val (.int pp), .unset, .unset, .unset] [(.int (((oth.toUInt32 >>> ((8 : Int32) &&& 31).toUInt32).toInt32) &&& (255 : Int32))), (.int (1 : Int32)), (.ref b303), (.ref b303), (.ref b293), (.ref b293)])) rfl rfl (hb hby at_511)
                      rw [own_nar255] at V317
                      replace V303 : Arv Z h317 b303 k303 .char (2 : Int32) [(.int (oth &&& (255 : Int32))), (.int (((oth.toUInt32 >>> ((8 : Int32) &&& 31).toUInt32).toInt32) &&& (255 : Int32)))] (.int (0 : Int32)) := V317
                      have N317 := Fr.snoc X317 N314 g_b303
                      refine own_go st317 ?_
                      have sa318 := S_b303
                      replace S_b37 := Safe.wr W317 sa318 CH S_b37
                      replace S_b293 := Safe.wr W317 sa318 CH S_b293
                      replace S_b303 := Safe.wr W317 sa318 CH S_b303
                      replace CR := CR.trans (CHr.wr W317 sa318 CH)
                      replace CH := CHv.wr W317 sa318 CH
                      replace hk := Nat.le_trans hk (Keep.of_wr W317).1
                      replace O0 := O0.wr W317 g_b303
                      replace V37 := V37.other W317 ne311
                      replace A293 := A293.wr W317
                      replace F293_coder := F293_coder.other W317 (Or.inl ne312)
                      replace F293_value := F293_value.other W317 (Or.inl ne312)
                      have K319 := K316.wr W317 (Or.inr sz_b303)
                      show own_Fin p.tables e below _ (T317.setTop (mkF m 512 #[.val (.int mode), .val (.int pos), .val (.int ch), .val (.int oth), .val (.int (mode &&& (7 : Int32))), .val (.int (0 : Int32)), .val (.int (ch &&& (255 : Int32))), .val (.int cz), .val (.ref b37), .val (.ref ia), .val (.int pp), .unset, .unset, .unset] [(.ref b303), (.ref b293), (.ref b293)]))
                      have hp321 : ∀ c ∈ ([(oth &&& (255 : Int32)), (((oth.toUInt32 >>> ((8 : Int32) &&& 31).toUInt32).toInt32) &&& (255 : Int32))] : List Int32), ¬ c < 0 ∧ ¬ (255 : Int32) < c := by
                        intro c hc
                        simp only [List.mem_cons, List.not_mem_nil, or_false] at hc
                        rcases hc with rfl | rfl
                        · exact own_and255 _
                        · exact own_and255 _
                      obtain ⟨_, _, ⟨T320, L320, k320, n320⟩, -, X320, ⟨Lc320, hQ320, l320, y320, z320⟩, st320⟩ := X317.specialBack hx (y := (⟨"java/lang/String", "<init>", "([C)V"⟩ : MethodName)) rfl hown (mvT hZ (hw _ (List.mem_of_getElem? (i := 8) rfl))) (mvT hZ (hw _ (List.mem_of_getElem? (i := 9) rfl))) (mvT hZ (hw _ (List.mem_of_getElem? (i := 10) rfl))) (by decide) (StrChars.Road.backV (W := 1) hZ hws (kI := 4) (hw _ (List.mem_of_getElem? (i := 6) rfl)) (cs := ([(oth &&& (255 : Int32)), (((oth.toUInt32 >>> ((8 : Int32) &&& 31).toUInt32).toInt32) &&& (255 : Int32))] : List Int32)) (bs := (([(oth &&& (255 : Int32)), (((oth.toUInt32 >>> ((8 : Int32) &&& 31).toUInt32).toInt32) &&& (255 : Int32))] : List Int32)).map (fun c => c.toInt8.toInt32)) (n := 2) g_b293 (Nat.le_trans Z0 K319.1) A293 F293_value F293_coder V303 (S_C.ext O0.2) hcs rfl rfl (by decide) (by decide) hp321 rfl (by decide) (by decide)) (g := (mkF m 512 #[.val (.int mode), .val (.int pos), .val (.int ch), .val (.int oth), .val (.int (mode &&& (7 : Int32))), .val (.int (0 : Int32)), .val (.int (ch &&& (255 : Int32))), .val (.int cz), .val (.ref b37), .val (.ref ia), .val (.int pp), .unset, .unset, .unset] [(.ref b303), (.ref b293), (.ref b293)])) rfl (by rw [hml]; rfl) (Steps.refl _) (a := b293) (argsL := [(.ref b303)]) (rest := [(.ref b293)]) (lenOf pd_5 rfl) rfl (by show 2 * 0 + _ ≤ _; exact Nat.le_of_eq rfl) (hb hby at_512) (fun _ _ => ⟨rfl, e317, (by decide : 3 + 1 ≤ _), (by decide : 16 + 2 ≤ _)⟩)
                      dsimp only [Pt.U, Pt.locs, Pt.cells, Pt.slots] at X320 l320 y320 z320 st320 hQ320
                      subst l320 y320 z320
                      obtain ⟨rfl, N320q, KK320, EE320, FC320, t320, kb320, gt320, szt320, netx320, FV320, VV320⟩ := hQ320
                      have N320 := Fr.app N317 N320q
                      have SS320 : own_Str Z T320.heap b293 t320 ([(oth &&& (255 : Int32)), (((oth.toUInt32 >>> ((8 : Int32) &&& 31).toUInt32).toInt32) &&& (255 : Int32))] : List Int32) := ⟨_, _, _, _, EE320, FV320, FC320, VV320, StrChars.Road.codOf (n := 2) rfl (fun c hc => (hp321 c hc).2), own_up _ hp321, Nat.le_of_ble_eq_true rfl⟩
                      have sz_t320 : h0.size ≤ t320 := Nat.le_trans K319.1 szt320
                      have ne322 : va ≠ t320 := O0.ne V_V.lt gt320
                      have ne323 : ia ≠ t320 := O0.ne F_i.lt gt320
                      have ne324 : sa ≠ t320 := O0.ne F_j.lt gt320
                      have ne325 : wi ≠ t320 := O0.ne S_i.lt gt320
                      have ne326 : ti ≠ t320 := O0.ne S_i.ltt gt320
                      have ne327 : wj ≠ t320 := O0.ne S_j.lt gt320
                      have ne328 : tj ≠ t320 := O0.ne S_j.ltt gt320
                      have ne329 : b37 ≠ t320 := Nat.ne_of_lt (Nat.lt_of_lt_of_le V37.lt szt320)
                      have ne330 : b293 ≠ t320 := Nat.ne_of_lt (Nat.lt_of_lt_of_le A293.lt szt320)
                      have ne331 : b303 ≠ t320 := Nat.ne_of_lt (Nat.lt_of_lt_of_le V303.lt szt320)
                      have S_t320 := Safe.new (Z := Z) (EL := consts_1) (vm := s.vm) szt320
                      have hs332 : ∀ x ∈ [b293], Safe Z consts_1 s.vm h317 x := (sfS S_b293 sf0)
                      replace S_b37 := Safe.keep KK320 hs332 CH S_b37
                      replace S_b293 := Safe.keep KK320 hs332 CH S_b293
                      replace S_b303 := Safe.keep KK320 hs332 CH S_b303
                      replace S_t320 := Safe.keep KK320 hs332 CH S_t320
                      replace CR := CR.trans (CHr.keep KK320 hs332 CH)
                      replace CH := CHv.keep KK320 hs332 CH
                      replace hk := Nat.le_trans hk KK320.1
                      replace O0 := O0.keep KK320 (allS g_b293 (all0))
                      replace V37 := V37.keep KK320 (ninS ne301 nin0)
                      replace A293 := A293.keep KK320
                      replace V303 := V303.keep KK320 (ninS (Ne.symm ne312) nin0)
                      have K333 := K319.trans KK320 (allS (Or.inr sz_b293) all0)
                      refine own_go (fun _ kk_ => st320.trans kk_) ?_
                      refine own_go (fun _ kk_ => XS.astore X320.here hx rfl (hb hby at_515) rfl rfl (l' := #[.val (.int mode), .val (.int pos), .val (.int ch), .val (.int oth), .val (.int (mode &&& (7 : Int32))), .val (.int (0 : Int32)), .val (.int (ch &&& (255 : Int32))), .val (.int cz), .val (.ref b37), .val (.ref ia), .val (.int pp), .val (.ref b293), .unset, .unset]) rfl kk_) ?_
                      refine own_go (fun _ kk_ => XS.aconstNull X320.here hx rfl (hb hby at_517) kk_) ?_
                      refine own_go (fun _ kk_ => XS.astore X320.here hx rfl (hb hby at_518) rfl rfl (l' := #[.val (.int mode), .val (.int pos), .val (.int ch), .val (.int oth), .val (.int (mode &&& (7 : Int32))), .val (.int (0 : Int32)), .val (.int (ch &&& (255 : Int32))), .val (.int cz), .val (.ref b37), .val (.ref ia), .val (.int pp), .val (.ref b293), .val .null, .unset]) rfl kk_) ?_
                      refine own_go (fun _ kk_ => XS.goto X320.here hx rfl (pc0 := 520) (pc' := 651) rfl (hb hby at_520) (by decide) (by decide) kk_) ?_
                      refine own_go (fun _ kk_ => XS.aload X320.here hx rfl (hb hby at_651) rfl rfl kk_) ?_
                      show own_Fin p.tables e below _ (T320.setTop (mkF m 653 #[.val (.int mode), .val (.int pos), .val (.int ch), .val (.int oth), .val (.int (mode &&& (7 : Int32))), .val (.int (0 : Int32)), .val (.int (ch &&& (255 : Int32))), .val (.int cz), .val (.ref b37), .val (.ref ia), .val (.int pp), .val (.ref b293), .val .null, .unset] [(.ref b293)]))
                      obtain ⟨_, _, ⟨T334, L334, k334, n334⟩, -, X334, ⟨Lc334, hQ334, l334, y334, z334⟩, st334⟩ := Jvm.LawKit.callS X320 hx (y := (⟨"com/example/hebelwerk/hebelwerk/model/DividendMethod", "written", "(Ljava/lang/String;)Lcom/example/hebelwerk/hebelwerk/model/DividendMethod;"⟩ : MethodName)) hown (mvT hZ (hw _ (List.mem_of_getElem? (i := 34) rfl))) (mvT hZ (hw _ (List.mem_of_getElem? (i := 35) rfl))) (mvT hZ (hw _ (List.mem_of_getElem? (i := 2) rfl))) (mvT hZ (hw _ (List.mem_of_getElem? (i := 36) rfl))) (by decide) (backOf (W := 0) (rm_wrS l Z a0 hw [] b293 t320 ([(oth &&& (255 : Int32)), (((oth.toUInt32 >>> ((8 : Int32) &&& 31).toUInt32).toInt32) &&& (255 : Int32))] : List Int32) va vk ia sa wi ti wj tj gc T320.heap n0 (Nat.le_trans Z0 K333.1) SS320 S_V V_V E_V F_i F_j S_i S_j S_C hcs O0) hZ (hw _ (List.mem_of_getElem? (i := 36) rfl)) (hw _ (List.mem_of_getElem? (i := 2) rfl)) (by decide) (by decide)) (g := (mkF m 653 #[.val (.int mode), .val (.int pos), .val (.int ch), .val (.int oth), .val (.int (mode &&& (7 : Int32))), .val (.int (0 : Int32)), .val (.int (ch &&& (255 : Int32))), .val (.int cz), .val (.ref b37), .val (.ref ia), .val (.int pp), .val (.ref b293), .val .null, .unset] [(.ref b293)])) rfl (by rw [hml]; rfl) (argsL := [(.ref b293)]) (rest := []) (lenOf pd_6 rfl) rfl (by show 2 * 0 + _ ≤ _; exact Nat.le_of_eq rfl) (hb hby at_653) (fun _ _ => ⟨rfl, rfl, (by decide : 4 + 1 ≤ _), (by decide : 18 + 2 ≤ _)⟩)
                      dsimp only [Pt.U, Pt.locs, Pt.cells, Pt.slots] at X334 l334 y334 z334 st334 hQ334
                      subst l334 y334 z334
                      obtain ⟨N334q, KK334, y1_334, y2_334, y3_334⟩ := hQ334
                      obtain rfl := y3_334 (by simp) (by simp)
                      have N334 := Fr.app N320 N334q
                      have hs335 : ∀ x ∈ [], Safe Z consts_1 s.vm T320.heap x := sf0
                      replace S_b37 := Safe.keep KK334 hs335 CH S_b37
                      replace S_b293 := Safe.keep KK334 hs335 CH S_b293
                      replace S_b303 := Safe.keep KK334 hs335 CH S_b303
                      replace S_t320 := Safe.keep KK334 hs335 CH S_t320
                      replace CR := CR.trans (CHr.keep KK334 hs335 CH)
                      replace CH := CHv.keep KK334 hs335 CH
                      replace hk := Nat.le_trans hk KK334.1
                      replace O0 := O0.keep KK334 all0
                      replace V37 := V37.keep KK334 nin0
                      replace V303 := V303.keep KK334 nin0
                      replace SS320 := SS320.keep KK334 nin0 nin0
                      have K336 := K333.trans KK334 all0
                      refine own_go st334 ?_
                      refine own_go (fun _ kk_ => XS.aload X334.here hx rfl (hb hby at_656) rfl rfl kk_) ?_
                      show own_Fin p.tables e below _ (T334.setTop (mkF m 658 #[.val (.int mode), .val (.int pos), .val (.int ch), .val (.int oth), .val (.int (mode &&& (7 : Int32))), .val (.int (0 : Int32)), .val (.int (ch &&& (255 : Int32))), .val (.int cz), .val (.ref b37), .val (.ref ia), .val (.int pp), .val (.ref b293), .val .null, .unset] [.null, .null]))
                      refine own_go (fun _ kk_ => acmp (g := (mkF m 658 #[.val (.int mode), .val (.int pos), .val (.int ch), .val (.int oth), .val (.int (mode &&& (7 : Int32))), .val (.int (0 : Int32)), .val (.int (ch &&& (255 : Int32))), .val (.int cz), .val (.ref b37), .val (.ref ia), .val (.int pp), .val (.ref b293), .val .null, .unset] [.null, .null])) X334 hx rfl rfl rfl (pc0 := 658) (pc' := 661) (same := true) rfl (hb hby at_658) rfl rfl (by decide) (by decide) kk_) ?_
                      refine own_go (fun _ kk_ => XS.iconst X334.here hx rfl (hb hby at_661) kk_) ?_
                      refine own_go (fun _ kk_ => XS.goto X334.here hx rfl (pc0 := 662) (pc' := 666) rfl (hb hby at_662) (by decide) (by decide) kk_) ?_
                      show own_Fin p.tables e below _ (T334.setTop (mkF m 666 #[.val (.int mode), .val (.int pos), .val (.int ch), .val (.int oth), .val (.int (mode &&& (7 : Int32))), .val (.int (0 : Int32)), .val (.int (ch &&& (255 : Int32))), .val (.int cz), .val (.ref b37), .val (.ref ia), .val (.int pp), .val (.ref b293), .val .null, .unset] [(.int (1 : Int32))]))
                      have CRz : CHr Z consts_1 s.vm s.heap T334.vm T334.heap := by
                        rw [hh]
                        exact CR.trans (CHv.at X334 hZ hEL CH)
                      refine own_retW X334 hx Bd hS hk (t := .boolean) Bd.returns rfl (Or.inl ⟨rfl, by simp, _, rfl⟩) (hb hby at_666) CRz ?_ (by decide) (by decide)
                      show (Q_rm_law Z mode pos ch oth va vk ia sa wi ti wj tj gc h0 n0) (some (.int (1 : Int32))) T334.heap _
                      exact ⟨rfl, N334⟩
                    · skip
                      refine own_go (fun _ kk_ => XS.ifNo X76.here hx rfl (hb hby at_474) rfl ((if0 _ _).trans (feq hc292).1) kk_) ?_
                      show own_Fin p.tables e below _ (T76.setTop (mkF m 477 #[.val (.int mode), .val (.int pos), .val (.int ch), .val (.int oth), .val (.int (mode &&& (7 : Int32))), .val (.int (0 : Int32)), .val (.int (ch &&& (255 : Int32))), .val (.int cz), .val (.ref b37), .val (.ref ia), .val (.int pp), .unset, .unset, .unset] []))
                      obtain ⟨a337, T337, h337, k337, tb337, kb337, X337, e337, E337, hS, hk, hZ, hown, EA337, FC337, FV337, VB337, -, -, CR337, -, NE337, st337⟩ := ldcCH X76 hx hZ hown (hw _ (List.mem_of_getElem? (i := 75) rfl)) wS e76 hS hk hEL (by decide) CH (vs := ((([] : List Int32).map (fun c => c.toInt8.toInt32)).map Value.int)) (z := (0 : Int32)) (by exact ⟨by decide, by decide⟩) (by decide) rfl (g := (mkF m 477 #[.val (.int mode), .val (.int pos), .val (.int ch), .val (.int oth), .val (.int (mode &&& (7 : Int32))), .val (.int (0 : Int32)), .val (.int (ch &&& (255 : Int32))), .val (.int cz), .val (.ref b37), .val (.ref ia), .val (.int pp), .unset, .unset, .unset] [])) rfl (hb hby at_477) (n := 0) (by decide) (by decide) (by decide) (by decide)
                      replace S_b37 := CR337.safe V37.lt S_b37
                      replace CR := CR.trans CR337
                      replace CH := CR337.1
                      replace O0 := O0.ext E337
                      replace V37 := V37.ext E337
                      have K338 := K75.ext E337
                      have ne339 : b37 ≠ a337 := (NE337 _ S_b37).1
                      have ne340 : b37 ≠ tb337 := (NE337 _ S_b37).2
                      have SS337 : own_Str Z h337 a337 tb337 ([] : List Int32) := ⟨_, _, _, _, EA337, FV337, FC337, VB337, StrChars.Road.codOf (n := 0) rfl (by decide), by decide, Nat.le_of_ble_eq_true rfl⟩
                      refine own_go st337 ?_
                      refine own_go (fun _ kk_ => XS.astore X337.here hx rfl (hb hby at_479) rfl rfl (l' := #[.val (.int mode), .val (.int pos), .val (.int ch), .val (.int oth), .val (.int (mode &&& (7 : Int32))), .val (.int (0 : Int32)), .val (.int (ch &&& (255 : Int32))), .val (.int cz), .val (.ref b37), .val (.ref ia), .val (.int pp), .val (.ref a337), .unset, .unset]) rfl kk_) ?_
                      refine own_go (fun _ kk_ => XS.goto X337.here hx rfl (pc0 := 481) (pc' := 517) rfl (hb hby at_481) (by decide) (by decide) kk_) ?_
                      refine own_go (fun _ kk_ => XS.aconstNull X337.here hx rfl (hb hby at_517) kk_) ?_
                      refine own_go (fun _ kk_ => XS.astore X337.here hx rfl (hb hby at_518) rfl rfl (l' := #[.val (.int mode), .val (.int pos), .val (.int ch), .val (.int oth), .val (.int (mode &&& (7 : Int32))), .val (.int (0 : Int32)), .val (.int (ch &&& (255 : Int32))), .val (.int cz), .val (.ref b37), .val (.ref ia), .val (.int pp), .val (.ref a337), .val .null, .unset]) rfl kk_) ?_
                      refine own_go (fun _ kk_ => XS.goto X337.here hx rfl (pc0 := 520) (pc' := 651) rfl (hb hby at_520) (by decide) (by decide) kk_) ?_
                      refine own_go (fun _ kk_ => XS.aload X337.here hx rfl (hb hby at_651) rfl rfl kk_) ?_
                      show own_Fin p.tables e below _ (T337.setTop (mkF m 653 #[.val (.int mode), .val (.int pos), .val (.int ch), .val (.int oth), .val (.int (mode &&& (7 : Int32))), .val (.int (0 : Int32)), .val (.int (ch &&& (255 : Int32))), .val (.int cz), .val (.ref b37), .val (.ref ia), .val (.int pp), .val (.ref a337), .val .null, .unset] [(.ref a337)]))
                      obtain ⟨_, _, ⟨T341, L341, k341, n341⟩, -, X341, ⟨Lc341, hQ341, l341, y341, z341⟩, st341⟩ := Jvm.LawKit.callS X337 hx (y := (⟨"com/example/hebelwerk/hebelwerk/model/DividendMethod", "written", "(Ljava/lang/String;)Lcom/example/hebelwerk/hebelwerk/model/DividendMethod;"⟩ : MethodName)) hown (mvT hZ (hw _ (List.mem_of_getElem? (i := 34) rfl))) (mvT hZ (hw _ (List.mem_of_getElem? (i := 35) rfl))) (mvT hZ (hw _ (List.mem_of_getElem? (i := 2) rfl))) (mvT hZ (hw _ (List.mem_of_getElem? (i := 36) rfl))) (by decide) (backOf (W := 0) (rm_wrS l Z a0 hw [] a337 tb337 ([] : List Int32) va vk ia sa wi ti wj tj gc h337 n0 (Nat.le_trans Z0 K338.1) SS337 S_V V_V E_V F_i F_j S_i S_j S_C hcs O0) hZ (hw _ (List.mem_of_getElem? (i := 36) rfl)) (hw _ (List.mem_of_getElem? (i := 2) rfl)) (by decide) (by decide)) (g := (mkF m 653 #[.val (.int mode), .val (.int pos), .val (.int ch), .val (.int oth), .val (.int (mode &&& (7 : Int32))), .val (.int (0 : Int32)), .val (.int (ch &&& (255 : Int32))), .val (.int cz), .val (.ref b37), .val (.ref ia), .val (.int pp), .val (.ref a337), .val .null, .unset] [(.ref a337)])) rfl (by rw [hml]; rfl) (argsL := [(.ref a337)]) (rest := []) (lenOf pd_6 rfl) rfl (by show 2 * 0 + _ ≤ _; exact Nat.le_of_eq rfl) (hb hby at_653) (fun _ _ => ⟨rfl, e337, (by decide : 3 + 1 ≤ _), (by decide : 14 + 2 ≤ _)⟩)
                      dsimp only [Pt.U, Pt.locs, Pt.cells, Pt.slots] at X341 l341 y341 z341 st341 hQ341
                      subst l341 y341 z341
                      obtain ⟨N341q, KK341, y1_341, y2_341, y3_341⟩ := hQ341
                      obtain rfl := y3_341 (by simp) (by simp)
                      have N341 := Fr.app N73 N341q
                      have hs342 : ∀ x ∈ [], Safe Z consts_1 T337.vm h337 x := sf0
                      replace S_b37 := Safe.keep KK341 hs342 CH S_b37
                      replace CR := CR.trans (CHr.keep KK341 hs342 CH)
                      replace CH := CHv.keep KK341 hs342 CH
                      replace hk := Nat.le_trans hk KK341.1
                      replace O0 := O0.keep KK341 all0
                      replace V37 := V37.keep KK341 nin0
                      replace SS337 := SS337.keep KK341 nin0 nin0
                      have K343 := K338.trans KK341 all0
                      refine own_go st341 ?_
                      refine own_go (fun _ kk_ => XS.aload X341.here hx rfl (hb hby at_656) rfl rfl kk_) ?_
                      show own_Fin p.tables e below _ (T341.setTop (mkF m 658 #[.val (.int mode), .val (.int pos), .val (.int ch), .val (.int oth), .val (.int (mode &&& (7 : Int32))), .val (.int (0 : Int32)), .val (.int (ch &&& (255 : Int32))), .val (.int cz), .val (.ref b37), .val (.ref ia), .val (.int pp), .val (.ref a337), .val .null, .unset] [.null, .null]))
                      refine own_go (fun _ kk_ => acmp (g := (mkF m 658 #[.val (.int mode), .val (.int pos), .val (.int ch), .val (.int oth), .val (.int (mode &&& (7 : Int32))), .val (.int (0 : Int32)), .val (.int (ch &&& (255 : Int32))), .val (.int cz), .val (.ref b37), .val (.ref ia), .val (.int pp), .val (.ref a337), .val .null, .unset] [.null, .null])) X341 hx rfl rfl rfl (pc0 := 658) (pc' := 661) (same := true) rfl (hb hby at_658) rfl rfl (by decide) (by decide) kk_) ?_
                      refine own_go (fun _ kk_ => XS.iconst X341.here hx rfl (hb hby at_661) kk_) ?_
                      refine own_go (fun _ kk_ => XS.goto X341.here hx rfl (pc0 := 662) (pc' := 666) rfl (hb hby at_662) (by decide) (by decide) kk_) ?_
                      show own_Fin p.tables e below _ (T341.setTop (mkF m 666 #[.val (.int mode), .val (.int pos), .val (.int ch), .val (.int oth), .val (.int (mode &&& (7 : Int32))), .val (.int (0 : Int32)), .val (.int (ch &&& (255 : Int32))), .val (.int cz), .val (.ref b37), .val (.ref ia), .val (.int pp), .val (.ref a337), .val .null, .unset] [(.int (1 : Int32))]))
                      have CRz : CHr Z consts_1 s.vm s.heap T341.vm T341.heap := by
                        rw [hh]
                        exact CR.trans (CHv.at X341 hZ hEL CH)
                      refine own_retW X341 hx Bd hS hk (t := .boolean) Bd.returns rfl (Or.inl ⟨rfl, by simp, _, rfl⟩) (hb hby at_666) CRz ?_ (by decide) (by decide)
                      show (Q_rm_law Z mode pos ch oth va vk ia sa wi ti wj tj gc h0 n0) (some (.int (1 : Int32))) T341.heap _
                      exact ⟨rfl, N341⟩
                  · skip
                    refine own_go (fun _ kk_ => XS.icmpYes X76.here hx rfl (pc0 := 467) (pc' := 523) rfl (hb hby at_467) rfl (feq hc291).2 (by decide) (by decide) kk_) ?_
                    refine own_go (fun _ kk_ => XS.bipush X76.here hx rfl (hb hby at_523) kk_) ?_
                    show own_Fin p.tables e below _ (T76.setTop (mkF m 525 #[.val (.int mode), .val (.int pos), .val (.int ch), .val (.int oth), .val (.int (mode &&& (7 : Int32))), .val (.int (0 : Int32)), .val (.int (ch &&& (255 : Int32))), .val (.int cz), .val (.ref b37), .val (.ref ia), .val (.int pp), .unset, .unset, .unset] [(.int (8 : Int32))]))
                    obtain ⟨T344, h344, k344, X344, e344, E344, A344, st344⟩ := newP X76 hx hZ (hw _ (List.mem_of_getElem? (i := 0) rfl)) e76 (g := (mkF m 525 #[.val (.int mode), .val (.int pos), .val (.int ch), .val (.int oth), .val (.int (mode &&& (7 : Int32))), .val (.int (0 : Int32)), .val (.int (ch &&& (255 : Int32))), .val (.int cz), .val (.ref b37), .val (.ref ia), .val (.int pp), .unset, .unset, .unset] [(.int (8 : Int32))])) rfl (hb hby at_525) rfl (by decide) (cap := 8) (by decide) (by decide) (by decide) (by decide)
                    obtain ⟨b344, g344⟩ : ∃ z, z = h73.size := ⟨_, rfl⟩
                    rw [← g344] at A344 st344
                    have sz_b344 : h0.size ≤ b344 := Nat.le_trans K75.1 (Nat.le_of_eq g344.symm)
                    have g_b344 : n0 ≤ b344 := Nat.le_trans Z0 sz_b344
                    have ne345 : va ≠ b344 := O0.ne V_V.lt g_b344
                    have ne346 : ia ≠ b344 := O0.ne F_i.lt g_b344
                    have ne347 : sa ≠ b344 := O0.ne F_j.lt g_b344
                    have ne348 : wi ≠ b344 := O0.ne S_i.lt g_b344
                    have ne349 : ti ≠ b344 := O0.ne S_i.ltt g_b344
                    have ne350 : wj ≠ b344 := O0.ne S_j.lt g_b344
                    have ne351 : tj ≠ b344 := O0.ne S_j.ltt g_b344
                    have ne352 : b37 ≠ b344 := Nat.ne_of_lt (Nat.lt_of_lt_of_le V37.lt (Nat.le_of_eq g344.symm))
                    have S_b344 := Safe.new (Z := Z) (EL := consts_1) (vm := s.vm) (Nat.le_of_eq g344.symm)
                    replace S_b37 := Safe.ext E344 CH S_b37
                    replace S_b344 := Safe.ext E344 CH S_b344
                    replace CR := CR.trans (CHr.ext E344 CH)
                    replace CH := CH.ext E344
                    replace hk := Nat.le_trans hk E344.1
                    replace O0 := O0.ext E344
                    replace V37 := V37.ext E344
                    have K353 := K75.ext E344
                    have V344 : Arv Z h344 b344 k344 .char (8 : Int32) [(.int (0 : Int32)), (.int (0 : Int32)), (.int (0 : Int32)), (.int (0 : Int32)), (.int (0 : Int32)), (.int (0 : Int32)), (.int (0 : Int32)), (.int (0 : Int32))] (.int (0 : Int32)) := (Arv.new A344 (by decide)).pad (pad_rep [] (.int (0 : Int32)) 8)
                    refine own_go st344 ?_
                    refine own_go (fun _ kk_ => XS.dup X344.here hx rfl (hb hby at_527) rfl rfl kk_) ?_
                    refine own_go (fun _ kk_ => XS.iconst X344.here hx rfl (hb hby at_528) kk_) ?_
                    refine own_go (fun _ kk_ => XS.iloadN X344.here hx rfl (hb hby at_529) rfl kk_) ?_
                    refine own_go (fun _ kk_ => XS.sipush X344.here hx rfl (hb hby at_530) kk_) ?_
                    show own_Fin p.tables e below _ (T344.setTop (mkF m 533 #[.val (.int mode), .val (.int pos), .val (.int ch), .val (.int oth), .val (.int (mode &&& (7 : Int32))), .val (.int (0 : Int32)), .val (.int (ch &&& (255 : Int32))), .val (.int cz), .val (.ref b37), .val (.ref ia), .val (.int pp), .unset, .unset, .unset] [(.int (255 : Int32)), (.int pos), (.int (0 : Int32)), (.ref b344), (.ref b344)]))
                    refine own_go (fun _ kk_ => XS.iand X344.here hx rfl (hb hby at_533) rfl kk_) ?_
                    show own_Fin p.tables e below _ (T344.setTop (mkF m 534 #[.val (.int mode), .val (.int pos), .val (.int ch), .val (.int oth), .val (.int (mode &&& (7 : Int32))), .val (.int (0 : Int32)), .val (.int (ch &&& (255 : Int32))), .val (.int cz), .val (.ref b37), .val (.ref ia), .val (.int pp), .unset, .unset, .unset] [(.int (pos &&& (255 : Int32))), (.int (0 : Int32)), (.ref b344), (.ref b344)]))
                    refine own_go (fun _ kk_ => XS.i2c X344.here hx rfl (hb hby at_534) rfl kk_) ?_
                    rw [i2c_mask]
                    show own_Fin p.tables e below _ (T344.setTop (mkF m 535 #[.val (.int mode), .val (.int pos), .val (.int ch), .val (.int oth), .val (.int (mode &&& (7 : Int32))), .val (.int (0 : Int32)), .val (.int (ch &&& (255 : Int32))), .val (.int cz), .val (.ref b37), .val (.ref ia), .val (.int pp), .unset, .unset, .unset] [(.int (pos &&& (255 : Int32))), (.int (0 : Int32)), (.ref b344), (.ref b344)]))
                    obtain ⟨T354, h354, X354, e354, W354, V354, st354⟩ := own_stC X344 hx hZ e344 V344 (by decide) (i := 0) rfl (Nat.le_of_ble_eq_true rfl) (g := (mkF m 535 #[.val (.int mode), .val (.int pos), .val (.int ch), .val (.int oth), .val (.int (mode &&& (7 : Int32))), .val (.int (0 : Int32)), .val (.int (ch &&& (255 : Int32))), .val (.int cz), .val (.ref b37), .val (.ref ia), .val (.int pp), .unset, .unset, .unset] [(.int (pos &&& (255 : Int32))), (.int (0 : Int32)), (.ref b344), (.ref b344)])) rfl rfl (hb hby at_535)
                    rw [own_nar255] at V354
                    replace V344 : Arv Z h354 b344 k344 .char (8 : Int32) [(.int (pos &&& (255 : Int32))), (.int (0 : Int32)), (.int (0 : Int32)), (.int (0 : Int32)), (.int (0 : Int32)), (.int (0 : Int32)), (.int (0 : Int32)), (.int (0 : Int32))] (.int (0 : Int32)) := V354
                    have N354 := Fr.snoc X354 N73 g_b344
                    refine own_go st354 ?_
                    have sa355 := S_b344
                    replace S_b37 := Safe.wr W354 sa355 CH S_b37
                    replace S_b344 := Safe.wr W354 sa355 CH S_b344
                    replace CR := CR.trans (CHr.wr W354 sa355 CH)
                    replace CH := CHv.wr W354 sa355 CH
                    replace hk := Nat.le_trans hk (Keep.of_wr W354).1
                    replace O0 := O0.wr W354 g_b344
                    replace V37 := V37.other W354 ne352
                    have K356 := K353.wr W354 (Or.inr sz_b344)
                    refine own_go (fun _ kk_ => XS.dup X354.here hx rfl (hb hby at_536) rfl rfl kk_) ?_
                    refine own_go (fun _ kk_ => XS.iconst X354.here hx rfl (hb hby at_537) kk_) ?_
                    refine own_go (fun _ kk_ => XS.iloadN X354.here hx rfl (hb hby at_538) rfl kk_) ?_
                    refine own_go (fun _ kk_ => XS.bipush X354.here hx rfl (hb hby at_539) kk_) ?_
                    show own_Fin p.tables e below _ (T354.setTop (mkF m 541 #[.val (.int mode), .val (.int pos), .val (.int ch), .val (.int oth), .val (.int (mode &&& (7 : Int32))), .val (.int (0 : Int32)), .val (.int (ch &&& (255 : Int32))), .val (.int cz), .val (.ref b37), .val (.ref ia), .val (.int pp), .unset, .unset, .unset] [(.int (8 : Int32)), (.int pos), (.int (1 : Int32)), (.ref b344), (.ref b344)]))
                    refine own_go (fun _ kk_ => XS.iushr X354.here hx rfl (hb hby at_541) rfl kk_) ?_
                    refine own_go (fun _ kk_ => XS.sipush X354.here hx rfl (hb hby at_542) kk_) ?_
                    show own_Fin p.tables e below _ (T354.setTop (mkF m 545 #[.val (.int mode), .val (.int pos), .val (.int ch), .val (.int oth), .val (.int (mode &&& (7 : Int32))), .val (.int (0 : Int32)), .val (.int (ch &&& (255 : Int32))), .val (.int cz), .val (.ref b37), .val (.ref ia), .val (.int pp), .unset, .unset, .unset] [(.int (255 : Int32)), (.int ((pos.toUInt32 >>> ((8 : Int32) &&& 31).toUInt32).toInt32)), (.int (1 : Int32)), (.ref b344), (.ref b344)]))
                    refine own_go (fun _ kk_ => XS.iand X354.here hx rfl (hb hby at_545) rfl kk_) ?_
                    show own_Fin p.tables e below _ (T354.setTop (mkF m 546 #[.val (.int mode), .val (.int pos), .val (.int ch), .val (.int oth), .val (.int (mode &&& (7 : Int32))), .val (.int (0 : Int32)), .val (.int (ch &&& (255 : Int32))), .val (.int cz), .val (.ref b37), .val (.ref ia), .val (.int pp), .unset, .unset, .unset] [(.int (((pos.toUInt32 >>> ((8 : Int32) &&& 31).toUInt32).toInt32) &&& (255 : Int32))), (.int (1 : Int32)), (.ref b344), (.ref b344)]))
                    refine own_go (fun _ kk_ => XS.i2c X354.here hx rfl (hb hby at_546) rfl kk_) ?_
                    rw [i2c_mask]
                    show own_Fin p.tables e below _ (T354.setTop (mkF m 547 #[.val (.int mode), .val (.int pos), .val (.int ch), .val (.int oth), .val (.int (mode &&& (7 : Int32))), .val (.int (0 : Int32)), .val (.int (ch &&& (255 : Int32))), .val (.int cz), .val (.ref b37), .val (.ref ia), .val (.int pp), .unset, .unset, .unset] [(.int (((pos.toUInt32 >>> ((8 : Int32) &&& 31).toUInt32).toInt32) &&& (255 : Int32))), (.int (1 : Int32)), (.ref b344), (.ref b344)]))
                    obtain ⟨T357, h357, X357, e357, W357, V357, st357⟩ := own_stC X354 hx hZ e354 V344 (by decide) (i := 1) rfl (Nat.le_of_ble_eq_true rfl) (g := (mkF m 547 #[.val (.int mode), .val (.int pos), .val (.int ch), .val (.int oth), .val (.int (mode &&& (7 : Int32))), .val (.int (0 : Int32)), .val (.int (ch &&& (255 : Int32))), .val (.int cz), .val (.ref b37), .val (.ref ia), .val (.int pp), .unset, .unset, .unset] [(.int (((pos.toUInt32 >>> ((8 : Int32) &&& 31).toUInt32).toInt32) &&& (255 : Int32))), (.int (1 : Int32)), (.ref b344), (.ref b344)])) rfl rfl (hb hby at_547)
                    rw [own_nar255] at V357
                    replace V344 : Arv Z h357 b344 k344 .char (8 : Int32) [(.int (pos &&& (255 : Int32))), (.int (((pos.toUInt32 >>> ((8 : Int32) &&& 31).toUInt32).toInt32) &&& (255 : Int32))), (.int (0 : Int32)), (.int (0 : Int32)), (.int (0 : Int32)), (.int (0 : Int32)), (.int (0 : Int32)), (.int (0 : Int32))] (.int (0 : Int32)) := V357
                    have N357 := Fr.snoc X357 N354 g_b344
                    refine own_go st357 ?_
                    have sa358 := S_b344
                    replace S_b37 := Safe.wr W357 sa358 CH S_b37
                    replace S_b344 := Safe.wr W357 sa358 CH S_b344
                    replace CR := CR.trans (CHr.wr W357 sa358 CH)
                    replace CH := CHv.wr W357 sa358 CH
                    replace hk := Nat.le_trans hk (Keep.of_wr W357).1
                    replace O0 := O0.wr W357 g_b344
                    replace V37 := V37.other W357 ne352
                    have K359 := K356.wr W357 (Or.inr sz_b344)
                    refine own_go (fun _ kk_ => XS.dup X357.here hx rfl (hb hby at_548) rfl rfl kk_) ?_
                    refine own_go (fun _ kk_ => XS.iconst X357.here hx rfl (hb hby at_549) kk_) ?_
                    refine own_go (fun _ kk_ => XS.iloadN X357.here hx rfl (hb hby at_550) rfl kk_) ?_
                    refine own_go (fun _ kk_ => XS.bipush X357.here hx rfl (hb hby at_551) kk_) ?_
                    show own_Fin p.tables e below _ (T357.setTop (mkF m 553 #[.val (.int mode), .val (.int pos), .val (.int ch), .val (.int oth), .val (.int (mode &&& (7 : Int32))), .val (.int (0 : Int32)), .val (.int (ch &&& (255 : Int32))), .val (.int cz), .val (.ref b37), .val (.ref ia), .val (.int pp), .unset, .unset, .unset] [(.int (16 : Int32)), (.int pos), (.int (2 : Int32)), (.ref b344), (.ref b344)]))
                    refine own_go (fun _ kk_ => XS.iushr X357.here hx rfl (hb hby at_553) rfl kk_) ?_
                    refine own_go (fun _ kk_ => XS.sipush X357.here hx rfl (hb hby at_554) kk_) ?_
                    show own_Fin p.tables e below _ (T357.setTop (mkF m 557 #[.val (.int mode), .val (.int pos), .val (.int ch), .val (.int oth), .val (.int (mode &&& (7 : Int32))), .val (.int (0 : Int32)), .val (.int (ch &&& (255 : Int32))), .val (.int cz), .val (.ref b37), .val (.ref ia), .val (.int pp), .unset, .unset, .unset] [(.int (255 : Int32)), (.int ((pos.toUInt32 >>> ((16 : Int32) &&& 31).toUInt32).toInt32)), (.int (2 : Int32)), (.ref b344), (.ref b344)]))
                    refine own_go (fun _ kk_ => XS.iand X357.here hx rfl (hb hby at_557) rfl kk_) ?_
                    show own_Fin p.tables e below _ (T357.setTop (mkF m 558 #[.val (.int mode), .val (.int pos), .val (.int ch), .val (.int oth), .val (.int (mode &&& (7 : Int32))), .val (.int (0 : Int32)), .val (.int (ch &&& (255 : Int32))), .val (.int cz), .val (.ref b37), .val (.ref ia), .val (.int pp), .unset, .unset, .unset] [(.int (((pos.toUInt32 >>> ((16 : Int32) &&& 31).toUInt32).toInt32) &&& (255 : Int32))), (.int (2 : Int32)), (.ref b344), (.ref b344)]))
                    refine own_go (fun _ kk_ => XS.i2c X357.here hx rfl (hb hby at_558) rfl kk_) ?_
                    rw [i2c_mask]
                    show own_Fin p.tables e below _ (T357.setTop (mkF m 559 #[.val (.int mode), .val (.int pos), .val (.int ch), .val (.int oth), .val (.int (mode &&& (7 : Int32))), .val (.int (0 : Int32)), .val (.int (ch &&& (255 : Int32))), .val (.int cz), .val (.ref b37), .val (.ref ia), .val (.int pp), .unset, .unset, .unset] [(.int (((pos.toUInt32 >>> ((16 : Int32) &&& 31).toUInt32).toInt32) &&& (255 : Int32))), (.int (2 : Int32)), (.ref b344), (.ref b344)]))
                    obtain ⟨T360, h360, X360, e360, W360, V360, st360⟩ := own_stC X357 hx hZ e357 V344 (by decide) (i := 2) rfl (Nat.le_of_ble_eq_true rfl) (g := (mkF m 559 #[.val (.int mode), .val (.int pos), .val (.int ch), .val (.int oth), .val (.int (mode &&& (7 : Int32))), .val (.int (0 : Int32)), .val (.int (ch &&& (255 : Int32))), .val (.int cz), .val (.ref b37), .val (.ref ia), .val (.int pp), .unset, .unset, .unset] [(.int (((pos.toUInt32 >>> ((16 : Int32) &&& 31).toUInt32).toInt32) &&& (255 : Int32))), (.int (2 : Int32)), (.ref b344), (.ref b344)])) rfl rfl (hb hby at_559)
                    rw [own_nar255] at V360
                    replace V344 : Arv Z h360 b344 k344 .char (8 : Int32) [(.int (pos &&& (255 : Int32))), (.int (((pos.toUInt32 >>> ((8 : Int32) &&& 31).toUInt32).toInt32) &&& (255 : Int32))), (.int (((pos.toUInt32 >>> ((16 : Int32) &&& 31).toUInt32).toInt32) &&& (255 : Int32))), (.int (0 : Int32)), (.int (0 : Int32)), (.int (0 : Int32)), (.int (0 : Int32)), (.int (0 : Int32))] (.int (0 : Int32)) := V360
                    have N360 := Fr.snoc X360 N357 g_b344
                    refine own_go st360 ?_
                    have sa361 := S_b344
                    replace S_b37 := Safe.wr W360 sa361 CH S_b37
                    replace S_b344 := Safe.wr W360 sa361 CH S_b344
                    replace CR := CR.trans (CHr.wr W360 sa361 CH)
                    replace CH := CHv.wr W360 sa361 CH
                    replace hk := Nat.le_trans hk (Keep.of_wr W360).1
                    replace O0 := O0.wr W360 g_b344
                    replace V37 := V37.other W360 ne352
                    have K362 := K359.wr W360 (Or.inr sz_b344)
                    refine own_go (fun _ kk_ => XS.dup X360.here hx rfl (hb hby at_560) rfl rfl kk_) ?_
                    refine own_go (fun _ kk_ => XS.iconst X360.here hx rfl (hb hby at_561) kk_) ?_
                    refine own_go (fun _ kk_ => XS.iloadN X360.here hx rfl (hb hby at_562) rfl kk_) ?_
                    refine own_go (fun _ kk_ => XS.bipush X360.here hx rfl (hb hby at_563) kk_) ?_
                    show own_Fin p.tables e below _ (T360.setTop (mkF m 565 #[.val (.int mode), .val (.int pos), .val (.int ch), .val (.int oth), .val (.int (mode &&& (7 : Int32))), .val (.int (0 : Int32)), .val (.int (ch &&& (255 : Int32))), .val (.int cz), .val (.ref b37), .val (.ref ia), .val (.int pp), .unset, .unset, .unset] [(.int (24 : Int32)), (.int pos), (.int (3 : Int32)), (.ref b344), (.ref b344)]))
                    refine own_go (fun _ kk_ => XS.iushr X360.here hx rfl (hb hby at_565) rfl kk_) ?_
                    refine own_go (fun _ kk_ => XS.sipush X360.here hx rfl (hb hby at_566) kk_) ?_
                    show own_Fin p.tables e below _ (T360.setTop (mkF m 569 #[.val (.int mode), .val (.int pos), .val (.int ch), .val (.int oth), .val (.int (mode &&& (7 : Int32))), .val (.int (0 : Int32)), .val (.int (ch &&& (255 : Int32))), .val (.int cz), .val (.ref b37), .val (.ref ia), .val (.int pp), .unset, .unset, .unset] [(.int (255 : Int32)), (.int ((pos.toUInt32 >>> ((24 : Int32) &&& 31).toUInt32).toInt32)), (.int (3 : Int32)), (.ref b344), (.ref b344)]))
                    refine own_go (fun _ kk_ => XS.iand X360.here hx rfl (hb hby at_569) rfl kk_) ?_
                    show own_Fin p.tables e below _ (T360.setTop (mkF m 570 #[.val (.int mode), .val (.int pos), .val (.int ch), .val (.int oth), .val (.int (mode &&& (7 : Int32))), .val (.int (0 : Int32)), .val (.int (ch &&& (255 : Int32))), .val (.int cz), .val (.ref b37), .val (.ref ia), .val (.int pp), .unset, .unset, .unset] [(.int (((pos.toUInt32 >>> ((24 : Int32) &&& 31).toUInt32).toInt32) &&& (255 : Int32))), (.int (3 : Int32)), (.ref b344), (.ref b344)]))
                    refine own_go (fun _ kk_ => XS.i2c X360.here hx rfl (hb hby at_570) rfl kk_) ?_
                    rw [i2c_mask]
                    show own_Fin p.tables e below _ (T360.setTop (mkF m 571 #[.val (.int mode), .val (.int pos), .val (.int ch), .val (.int oth), .val (.int (mode &&& (7 : Int32))), .val (.int (0 : Int32)), .val (.int (ch &&& (255 : Int32))), .val (.int cz), .val (.ref b37), .val (.ref ia), .val (.int pp), .unset, .unset, .unset] [(.int (((pos.toUInt32 >>> ((24 : Int32) &&& 31).toUInt32).toInt32) &&& (255 : Int32))), (.int (3 : Int32)), (.ref b344), (.ref b344)]))
                    obtain ⟨T363, h363, X363, e363, W363, V363, st363⟩ := own_stC X360 hx hZ e360 V344 (by decide) (i := 3) rfl (Nat.le_of_ble_eq_true rfl) (g := (mkF m 571 #[.val (.int mode), .val (.int pos), .val (.int ch), .val (.int oth), .val (.int (mode &&& (7 : Int32))), .val (.int (0 : Int32)), .val (.int (ch &&& (255 : Int32))), .val (.int cz), .val (.ref b37), .val (.ref ia), .val (.int pp), .unset, .unset, .unset] [(.int (((pos.toUInt32 >>> ((24 : Int32) &&& 31).toUInt32).toInt32) &&& (255 : Int32))), (.int (3 : Int32)), (.ref b344), (.ref b344)])) rfl rfl (hb hby at_571)
                    rw [own_nar255] at V363
                    replace V344 : Arv Z h363 b344 k344 .char (8 : Int32) [(.int (pos &&& (255 : Int32))), (.int (((pos.toUInt32 >>> ((8 : Int32) &&& 31).toUInt32).toInt32) &&& (255 : Int32))), (.int (((pos.toUInt32 >>> ((16 : Int32) &&& 31).toUInt32).toInt32) &&& (255 : Int32))), (.int (((pos.toUInt32 >>> ((24 : Int32) &&& 31).toUInt32).toInt32) &&& (255 : Int32))), (.int (0 : Int32)), (.int (0 : Int32)), (.int (0 : Int32)), (.int (0 : Int32))] (.int (0 : Int32)) := V363
                    have N363 := Fr.snoc X363 N360 g_b344
                    refine own_go st363 ?_
                    have sa364 := S_b344
                    replace S_b37 := Safe.wr W363 sa364 CH S_b37
                    replace S_b344 := Safe.wr W363 sa364 CH S_b344
                    replace CR := CR.trans (CHr.wr W363 sa364 CH)
                    replace CH := CHv.wr W363 sa364 CH
                    replace hk := Nat.le_trans hk (Keep.of_wr W363).1
                    replace O0 := O0.wr W363 g_b344
                    replace V37 := V37.other W363 ne352
                    have K365 := K362.wr W363 (Or.inr sz_b344)
                    refine own_go (fun _ kk_ => XS.dup X363.here hx rfl (hb hby at_572) rfl rfl kk_) ?_
                    refine own_go (fun _ kk_ => XS.iconst X363.here hx rfl (hb hby at_573) kk_) ?_
                    refine own_go (fun _ kk_ => XS.iloadN X363.here hx rfl (hb hby at_574) rfl kk_) ?_
                    refine own_go (fun _ kk_ => XS.sipush X363.here hx rfl (hb hby at_575) kk_) ?_
                    show own_Fin p.tables e below _ (T363.setTop (mkF m 578 #[.val (.int mode), .val (.int pos), .val (.int ch), .val (.int oth), .val (.int (mode &&& (7 : Int32))), .val (.int (0 : Int32)), .val (.int (ch &&& (255 : Int32))), .val (.int cz), .val (.ref b37), .val (.ref ia), .val (.int pp), .unset, .unset, .unset] [(.int (255 : Int32)), (.int oth), (.int (4 : Int32)), (.ref b344), (.ref b344)]))
                    refine own_go (fun _ kk_ => XS.iand X363.here hx rfl (hb hby at_578) rfl kk_) ?_
                    show own_Fin p.tables e below _ (T363.setTop (mkF m 579 #[.val (.int mode), .val (.int pos), .val (.int ch), .val (.int oth), .val (.int (mode &&& (7 : Int32))), .val (.int (0 : Int32)), .val (.int (ch &&& (255 : Int32))), .val (.int cz), .val (.ref b37), .val (.ref ia), .val (.int pp), .unset, .unset, .unset] [(.int (oth &&& (255 : Int32))), (.int (4 : Int32)), (.ref b344), (.ref b344)]))
                    refine own_go (fun _ kk_ => XS.i2c X363.here hx rfl (hb hby at_579) rfl kk_) ?_
                    rw [i2c_mask]
                    show own_Fin p.tables e below _ (T363.setTop (mkF m 580 #[.val (.int mode), .val (.int pos), .val (.int ch), .val (.int oth), .val (.int (mode &&& (7 : Int32))), .val (.int (0 : Int32)), .val (.int (ch &&& (255 : Int32))), .val (.int cz), .val (.ref b37), .val (.ref ia), .val (.int pp), .unset, .unset, .unset] [(.int (oth &&& (255 : Int32))), (.int (4 : Int32)), (.ref b344), (.ref b344)]))
                    obtain ⟨T366, h366, X366, e366, W366, V366, st366⟩ := own_stC X363 hx hZ e363 V344 (by decide) (i := 4) rfl (Nat.le_of_ble_eq_true rfl) (g := (mkF m 580 #[.val (.int mode), .val (.int pos), .val (.int ch), .val (.int oth), .val (.int (mode &&& (7 : Int32))), .val (.int (0 : Int32)), .val (.int (ch &&& (255 : Int32))), .val (.int cz), .val (.ref b37), .val (.ref ia), .val (.int pp), .unset, .unset, .unset] [(.int (oth &&& (255 : Int32))), (.int (4 : Int32)), (.ref b344), (.ref b344)])) rfl rfl (hb hby at_580)
                    rw [own_nar255] at V366
                    replace V344 : Arv Z h366 b344 k344 .char (8 : Int32) [(.int (pos &&& (255 : Int32))), (.int (((pos.toUInt32 >>> ((8 : Int32) &&& 31).toUInt32).toInt32) &&& (255 : Int32))), (.int (((pos.toUInt32 >>> ((16 : Int32) &&& 31).toUInt32).toInt32) &&& (255 : Int32))), (.int (((pos.toUInt32 >>> ((24 : Int32) &&& 31).toUInt32).toInt32) &&& (255 : Int32))), (.int (oth &&& (255 : Int32))), (.int (0 : Int32)), (.int (0 : Int32)), (.int (0 : Int32))] (.int (0 : Int32)) := V366
                    have N366 := Fr.snoc X366 N363 g_b344
                    refine own_go st366 ?_
                    have sa367 := S_b344
                    replace S_b37 := Safe.wr W366 sa367 CH S_b37
                    replace S_b344 := Safe.wr W366 sa367 CH S_b344
                    replace CR := CR.trans (CHr.wr W366 sa367 CH)
                    replace CH := CHv.wr W366 sa367 CH
                    replace hk := Nat.le_trans hk (Keep.of_wr W366).1
                    replace O0 := O0.wr W366 g_b344
                    replace V37 := V37.other W366 ne352
                    have K368 := K365.wr W366 (Or.inr sz_b344)
                    refine own_go (fun _ kk_ => XS.dup X366.here hx rfl (hb hby at_581) rfl rfl kk_) ?_
                    refine own_go (fun _ kk_ => XS.iconst X366.here hx rfl (hb hby at_582) kk_) ?_
                    refine own_go (fun _ kk_ => XS.iloadN X366.here hx rfl (hb hby at_583) rfl kk_) ?_
                    refine own_go (fun _ kk_ => XS.bipush X366.here hx rfl (hb hby at_584) kk_) ?_
                    show own_Fin p.tables e below _ (T366.setTop (mkF m 586 #[.val (.int mode), .val (.int pos), .val (.int ch), .val (.int oth), .val (.int (mode &&& (7 : Int32))), .val (.int (0 : Int32)), .val (.int (ch &&& (255 : Int32))), .val (.int cz), .val (.ref b37), .val (.ref ia), .val (.int pp), .unset, .unset, .unset] [(.int (8 : Int32)), (.int oth), (.int (5 : Int32)), (.ref b344), (.ref b344)]))
                    refine own_go (fun _ kk_ => XS.iushr X366.here hx rfl (hb hby at_586) rfl kk_) ?_
                    refine own_go (fun _ kk_ => XS.sipush X366.here hx rfl (hb hby at_587) kk_) ?_
                    show own_Fin p.tables e below _ (T366.setTop (mkF m 590 #[.val (.int mode), .val (.int pos), .val (.int ch), .val (.int oth), .val (.int (mode &&& (7 : Int32))), .val (.int (0 : Int32)), .val (.int (ch &&& (255 : Int32))), .val (.int cz), .val (.ref b37), .val (.ref ia), .val (.int pp), .unset, .unset, .unset] [(.int (255 : Int32)), (.int ((oth.toUInt32 >>> ((8 : Int32) &&& 31).toUInt32).toInt32)), (.int (5 : Int32)), (.ref b344), (.ref b344)]))
                    refine own_go (fun _ kk_ => XS.iand X366.here hx rfl (hb hby at_590) rfl kk_) ?_
                    show own_Fin p.tables e below _ (T366.setTop (mkF m 591 #[.val (.int mode), .val (.int pos), .val (.int ch), .val (.int oth), .val (.int (mode &&& (7 : Int32))), .val (.int (0 : Int32)), .val (.int (ch &&& (255 : Int32))), .val (.int cz), .val (.ref b37), .val (.ref ia), .val (.int pp), .unset, .unset, .unset] [(.int (((oth.toUInt32 >>> ((8 : Int32) &&& 31).toUInt32).toInt32) &&& (255 : Int32))), (.int (5 : Int32)), (.ref b344), (.ref b344)]))
                    refine own_go (fun _ kk_ => XS.i2c X366.here hx rfl (hb hby at_591) rfl kk_) ?_
                    rw [i2c_mask]
                    show own_Fin p.tables e below _ (T366.setTop (mkF m 592 #[.val (.int mode), .val (.int pos), .val (.int ch), .val (.int oth), .val (.int (mode &&& (7 : Int32))), .val (.int (0 : Int32)), .val (.int (ch &&& (255 : Int32))), .val (.int cz), .val (.ref b37), .val (.ref ia), .val (.int pp), .unset, .unset, .unset] [(.int (((oth.toUInt32 >>> ((8 : Int32) &&& 31).toUInt32).toInt32) &&& (255 : Int32))), (.int (5 : Int32)), (.ref b344), (.ref b344)]))
                    obtain ⟨T369, h369, X369, e369, W369, V369, st369⟩ := own_stC X366 hx hZ e366 V344 (by decide) (i := 5) rfl (Nat.le_of_ble_eq_true rfl) (g := (mkF m 592 #[.val (.int mode), .val (.int pos), .val (.int ch), .val (.int oth), .val (.int (mode &&& (7 : Int32))), .val (.int (0 : Int32)), .val (.int (ch &&& (255 : Int32))), .val (.int cz), .val (.ref b37), .val (.ref ia), .val (.int pp), .unset, .unset, .unset] [(.int (((oth.toUInt32 >>> ((8 : Int32) &&& 31).toUInt32).toInt32) &&& (255 : Int32))), (.int (5 : Int32)), (.ref b344), (.ref b344)])) rfl rfl (hb hby at_592)
                    rw [own_nar255] at V369
                    replace V344 : Arv Z h369 b344 k344 .char (8 : Int32) [(.int (pos &&& (255 : Int32))), (.int (((pos.toUInt32 >>> ((8 : Int32) &&& 31).toUInt32).toInt32) &&& (255 : Int32))), (.int (((pos.toUInt32 >>> ((16 : Int32) &&& 31).toUInt32).toInt32) &&& (255 : Int32))), (.int (((pos.toUInt32 >>> ((24 : Int32) &&& 31).toUInt32).toInt32) &&& (255 : Int32))), (.int (oth &&& (255 : Int32))), (.int (((oth.toUInt32 >>> ((8 : Int32) &&& 31).toUInt32).toInt32) &&& (255 : Int32))), (.int (0 : Int32)), (.int (0 : Int32))] (.int (0 : Int32)) := V369
                    have N369 := Fr.snoc X369 N366 g_b344
                    refine own_go st369 ?_
                    have sa370 := S_b344
                    replace S_b37 := Safe.wr W369 sa370 CH S_b37
                    replace S_b344 := Safe.wr W369 sa370 CH S_b344
                    replace CR := CR.trans (CHr.wr W369 sa370 CH)
                    replace CH := CHv.wr W369 sa370 CH
                    replace hk := Nat.le_trans hk (Keep.of_wr W369).1
                    replace O0 := O0.wr W369 g_b344
                    replace V37 := V37.other W369 ne352
                    have K371 := K368.wr W369 (Or.inr sz_b344)
                    refine own_go (fun _ kk_ => XS.dup X369.here hx rfl (hb hby at_593) rfl rfl kk_) ?_
                    refine own_go (fun _ kk_ => XS.bipush X369.here hx rfl (hb hby at_594) kk_) ?_
                    refine own_go (fun _ kk_ => XS.iloadN X369.here hx rfl (hb hby at_596) rfl kk_) ?_
                    refine own_go (fun _ kk_ => XS.bipush X369.here hx rfl (hb hby at_597) kk_) ?_
                    show own_Fin p.tables e below _ (T369.setTop (mkF m 599 #[.val (.int mode), .val (.int pos), .val (.int ch), .val (.int oth), .val (.int (mode &&& (7 : Int32))), .val (.int (0 : Int32)), .val (.int (ch &&& (255 : Int32))), .val (.int cz), .val (.ref b37), .val (.ref ia), .val (.int pp), .unset, .unset, .unset] [(.int (16 : Int32)), (.int oth), (.int (6 : Int32)), (.ref b344), (.ref b344)]))
                    refine own_go (fun _ kk_ => XS.iushr X369.here hx rfl (hb hby at_599) rfl kk_) ?_
                    refine own_go (fun _ kk_ => XS.sipush X369.here hx rfl (hb hby at_600) kk_) ?_
                    show own_Fin p.tables e below _ (T369.setTop (mkF m 603 #[.val (.int mode), .val (.int pos), .val (.int ch), .val (.int oth), .val (.int (mode &&& (7 : Int32))), .val (.int (0 : Int32)), .val (.int (ch &&& (255 : Int32))), .val (.int cz), .val (.ref b37), .val (.ref ia), .val (.int pp), .unset, .unset, .unset] [(.int (255 : Int32)), (.int ((oth.toUInt32 >>> ((16 : Int32) &&& 31).toUInt32).toInt32)), (.int (6 : Int32)), (.ref b344), (.ref b344)]))
                    refine own_go (fun _ kk_ => XS.iand X369.here hx rfl (hb hby at_603) rfl kk_) ?_
                    show own_Fin p.tables e below _ (T369.setTop (mkF m 604 #[.val (.int mode), .val (.int pos), .val (.int ch), .val (.int oth), .val (.int (mode &&& (7 : Int32))), .val (.int (0 : Int32)), .val (.int (ch &&& (255 : Int32))), .val (.int cz), .val (.ref b37), .val (.ref ia), .val (.int pp), .unset, .unset, .unset] [(.int (((oth.toUInt32 >>> ((16 : Int32) &&& 31).toUInt32).toInt32) &&& (255 : Int32))), (.int (6 : Int32)), (.ref b344), (.ref b344)]))
                    refine own_go (fun _ kk_ => XS.i2c X369.here hx rfl (hb hby at_604) rfl kk_) ?_
                    rw [i2c_mask]
                    show own_Fin p.tables e below _ (T369.setTop (mkF m 605 #[.val (.int mode), .val (.int pos), .val (.int ch), .val (.int oth), .val (.int (mode &&& (7 : Int32))), .val (.int (0 : Int32)), .val (.int (ch &&& (255 : Int32))), .val (.int cz), .val (.ref b37), .val (.ref ia), .val (.int pp), .unset, .unset, .unset] [(.int (((oth.toUInt32 >>> ((16 : Int32) &&& 31).toUInt32).toInt32) &&& (255 : Int32))), (.int (6 : Int32)), (.ref b344), (.ref b344)]))
                    obtain ⟨T372, h372, X372, e372, W372, V372, st372⟩ := own_stC X369 hx hZ e369 V344 (by decide) (i := 6) rfl (Nat.le_of_ble_eq_true rfl) (g := (mkF m 605 #[.val (.int mode), .val (.int pos), .val (.int ch), .val (.int oth), .val (.int (mode &&& (7 : Int32))), .val (.int (0 : Int32)), .val (.int (ch &&& (255 : Int32))), .val (.int cz), .val (.ref b37), .val (.ref ia), .val (.int pp), .unset, .unset, .unset] [(.int (((oth.toUInt32 >>> ((16 : Int32) &&& 31).toUInt32).toInt32) &&& (255 : Int32))), (.int (6 : Int32)), (.ref b344), (.ref b344)])) rfl rfl (hb hby at_605)
                    rw [own_nar255] at V372
                    replace V344 : Arv Z h372 b344 k344 .char (8 : Int32) [(.int (pos &&& (255 : Int32))), (.int (((pos.toUInt32 >>> ((8 : Int32) &&& 31).toUInt32).toInt32) &&& (255 : Int32))), (.int (((pos.toUInt32 >>> ((16 : Int32) &&& 31).toUInt32).toInt32) &&& (255 : Int32))), (.int (((pos.toUInt32 >>> ((24 : Int32) &&& 31).toUInt32).toInt32) &&& (255 : Int32))), (.int (oth &&& (255 : Int32))), (.int (((oth.toUInt32 >>> ((8 : Int32) &&& 31).toUInt32).toInt32) &&& (255 : Int32))), (.int (((oth.toUInt32 >>> ((16 : Int32) &&& 31).toUInt32).toInt32) &&& (255 : Int32))), (.int (0 : Int32))] (.int (0 : Int32)) := V372
                    have N372 := Fr.snoc X372 N369 g_b344
                    refine own_go st372 ?_
                    have sa373 := S_b344
                    replace S_b37 := Safe.wr W372 sa373 CH S_b37
                    replace S_b344 := Safe.wr W372 sa373 CH S_b344
                    replace CR := CR.trans (CHr.wr W372 sa373 CH)
                    replace CH := CHv.wr W372 sa373 CH
                    replace hk := Nat.le_trans hk (Keep.of_wr W372).1
                    replace O0 := O0.wr W372 g_b344
                    replace V37 := V37.other W372 ne352
                    have K374 := K371.wr W372 (Or.inr sz_b344)
                    refine own_go (fun _ kk_ => XS.dup X372.here hx rfl (hb hby at_606) rfl rfl kk_) ?_
                    refine own_go (fun _ kk_ => XS.bipush X372.here hx rfl (hb hby at_607) kk_) ?_
                    refine own_go (fun _ kk_ => XS.iloadN X372.here hx rfl (hb hby at_609) rfl kk_) ?_
                    refine own_go (fun _ kk_ => XS.bipush X372.here hx rfl (hb hby at_610) kk_) ?_
                    show own_Fin p.tables e below _ (T372.setTop (mkF m 612 #[.val (.int mode), .val (.int pos), .val (.int ch), .val (.int oth), .val (.int (mode &&& (7 : Int32))), .val (.int (0 : Int32)), .val (.int (ch &&& (255 : Int32))), .val (.int cz), .val (.ref b37), .val (.ref ia), .val (.int pp), .unset, .unset, .unset] [(.int (24 : Int32)), (.int oth), (.int (7 : Int32)), (.ref b344), (.ref b344)]))
                    refine own_go (fun _ kk_ => XS.iushr X372.here hx rfl (hb hby at_612) rfl kk_) ?_
                    refine own_go (fun _ kk_ => XS.sipush X372.here hx rfl (hb hby at_613) kk_) ?_
                    show own_Fin p.tables e below _ (T372.setTop (mkF m 616 #[.val (.int mode), .val (.int pos), .val (.int ch), .val (.int oth), .val (.int (mode &&& (7 : Int32))), .val (.int (0 : Int32)), .val (.int (ch &&& (255 : Int32))), .val (.int cz), .val (.ref b37), .val (.ref ia), .val (.int pp), .unset, .unset, .unset] [(.int (255 : Int32)), (.int ((oth.toUInt32 >>> ((24 : Int32) &&& 31).toUInt32).toInt32)), (.int (7 : Int32)), (.ref b344), (.ref b344)]))
                    refine own_go (fun _ kk_ => XS.iand X372.here hx rfl (hb hby at_616) rfl kk_) ?_
                    show own_Fin p.tables e below _ (T372.setTop (mkF m 617 #[.val (.int mode), .val (.int pos), .val (.int ch), .val (.int oth), .val (.int (mode &&& (7 : Int32))), .val (.int (0 : Int32)), .val (.int (ch &&& (255 : Int32))), .val (.int cz), .val (.ref b37), .val (.ref ia), .val (.int pp), .unset, .unset, .unset] [(.int (((oth.toUInt32 >>> ((24 : Int32) &&& 31).toUInt32).toInt32) &&& (255 : Int32))), (.int (7 : Int32)), (.ref b344), (.ref b344)]))
                    refine own_go (fun _ kk_ => XS.i2c X372.here hx rfl (hb hby at_617) rfl kk_) ?_
                    rw [i2c_mask]
                    show own_Fin p.tables e below _ (T372.setTop (mkF m 618 #[.val (.int mode), .val (.int pos), .val (.int ch), .val (.int oth), .val (.int (mode &&& (7 : Int32))), .val (.int (0 : Int32)), .val (.int (ch &&& (255 : Int32))), .val (.int cz), .val (.ref b37), .val (.ref ia), .val (.int pp), .unset, .unset, .unset] [(.int (((oth.toUInt32 >>> ((24 : Int32) &&& 31).toUInt32).toInt32) &&& (255 : Int32))), (.int (7 : Int32)), (.ref b344), (.ref b344)]))
                    obtain ⟨T375, h375, X375, e375, W375, V375, st375⟩ := own_stC X372 hx hZ e372 V344 (by decide) (i := 7) rfl (Nat.le_of_ble_eq_true rfl) (g := (mkF m 618 #[.val (.int mode), .val (.int pos), .val (.int ch), .val (.int oth), .val (.int (mode &&& (7 : Int32))), .val (.int (0 : Int32)), .val (.int (ch &&& (255 : Int32))), .val (.int cz), .val (.ref b37), .val (.ref ia), .val (.int pp), .unset, .unset, .unset] [(.int (((oth.toUInt32 >>> ((24 : Int32) &&& 31).toUInt32).toInt32) &&& (255 : Int32))), (.int (7 : Int32)), (.ref b344), (.ref b344)])) rfl rfl (hb hby at_618)
                    rw [own_nar255] at V375
                    replace V344 : Arv Z h375 b344 k344 .char (8 : Int32) [(.int (pos &&& (255 : Int32))), (.int (((pos.toUInt32 >>> ((8 : Int32) &&& 31).toUInt32).toInt32) &&& (255 : Int32))), (.int (((pos.toUInt32 >>> ((16 : Int32) &&& 31).toUInt32).toInt32) &&& (255 : Int32))), (.int (((pos.toUInt32 >>> ((24 : Int32) &&& 31).toUInt32).toInt32) &&& (255 : Int32))), (.int (oth &&& (255 : Int32))), (.int (((oth.toUInt32 >>> ((8 : Int32) &&& 31).toUInt32).toInt32) &&& (255 : Int32))), (.int (((oth.toUInt32 >>> ((16 : Int32) &&& 31).toUInt32).toInt32) &&& (255 : Int32))), (.int (((oth.toUInt32 >>> ((24 : Int32) &&& 31).toUInt32).toInt32) &&& (255 : Int32)))] (.int (0 : Int32)) := V375
                    have N375 := Fr.snoc X375 N372 g_b344
                    refine own_go st375 ?_
                    have sa376 := S_b344
                    replace S_b37 := Safe.wr W375 sa376 CH S_b37
                    replace S_b344 := Safe.wr W375 sa376 CH S_b344
                    replace CR := CR.trans (CHr.wr W375 sa376 CH)
                    replace CH := CHv.wr W375 sa376 CH
                    replace hk := Nat.le_trans hk (Keep.of_wr W375).1
                    replace O0 := O0.wr W375 g_b344
                    replace V37 := V37.other W375 ne352
                    have K377 := K374.wr W375 (Or.inr sz_b344)
                    refine own_go (fun _ kk_ => XS.astore X375.here hx rfl (hb hby at_619) rfl rfl (l' := #[.val (.int mode), .val (.int pos), .val (.int ch), .val (.int oth), .val (.int (mode &&& (7 : Int32))), .val (.int (0 : Int32)), .val (.int (ch &&& (255 : Int32))), .val (.int cz), .val (.ref b37), .val (.ref ia), .val (.int pp), .unset, .unset, .val (.ref b344)]) rfl kk_) ?_
                    show own_Fin p.tables e below _ (T375.setTop (mkF m 621 #[.val (.int mode), .val (.int pos), .val (.int ch), .val (.int oth), .val (.int (mode &&& (7 : Int32))), .val (.int (0 : Int32)), .val (.int (ch &&& (255 : Int32))), .val (.int cz), .val (.ref b37), .val (.ref ia), .val (.int pp), .unset, .unset, .val (.ref b344)] []))
                    obtain ⟨T378, h378, X378, e378, E378, A378, D378, -, st378⟩ := newO X375 hx hZ hown (hw _ (List.mem_of_getElem? (i := 5) rfl)) (hw _ (List.mem_of_getElem? (i := 6) rfl)) (hw _ (List.mem_of_getElem? (i := 7) rfl)) e375 (g := (mkF m 621 #[.val (.int mode), .val (.int pos), .val (.int ch), .val (.int oth), .val (.int (mode &&& (7 : Int32))), .val (.int (0 : Int32)), .val (.int (ch &&& (255 : Int32))), .val (.int cz), .val (.ref b37), .val (.ref ia), .val (.int pp), .unset, .unset, .val (.ref b344)] [])) rfl (hb hby at_621) (by decide) (by decide)
                    obtain ⟨b378, g378⟩ : ∃ z, z = h375.size := ⟨_, rfl⟩
                    rw [← g378] at A378 D378 st378
                    have sz_b378 : h0.size ≤ b378 := Nat.le_trans K377.1 (Nat.le_of_eq g378.symm)
                    have g_b378 : n0 ≤ b378 := Nat.le_trans Z0 sz_b378
                    have ne379 : va ≠ b378 := O0.ne V_V.lt g_b378
                    have ne380 : ia ≠ b378 := O0.ne F_i.lt g_b378
                    have ne381 : sa ≠ b378 := O0.ne F_j.lt g_b378
                    have ne382 : wi ≠ b378 := O0.ne S_i.lt g_b378
                    have ne383 : ti ≠ b378 := O0.ne S_i.ltt g_b378
                    have ne384 : wj ≠ b378 := O0.ne S_j.lt g_b378
                    have ne385 : tj ≠ b378 := O0.ne S_j.ltt g_b378
                    have ne386 : b37 ≠ b378 := Nat.ne_of_lt (Nat.lt_of_lt_of_le V37.lt (Nat.le_of_eq g378.symm))
                    have ne387 : b344 ≠ b378 := Nat.ne_of_lt (Nat.lt_of_lt_of_le V344.lt (Nat.le_of_eq g378.symm))
                    have S_b378 := Safe.new (Z := Z) (EL := consts_1) (vm := s.vm) (Nat.le_of_eq g378.symm)
                    replace S_b37 := Safe.ext E378 CH S_b37
                    replace S_b344 := Safe.ext E378 CH S_b344
                    replace S_b378 := Safe.ext E378 CH S_b378
                    replace CR := CR.trans (CHr.ext E378 CH)
                    replace CH := CH.ext E378
                    replace hk := Nat.le_trans hk E378.1
                    replace O0 := O0.ext E378
                    replace V37 := V37.ext E378
                    replace V344 := V344.ext E378
                    have K388 := K377.ext E378
                    have F378_coder : Fld Z h378 b378 "java/lang/String" "coder" "B" (.int (0 : Int32)) := D378 (Or.inr (hw _ (List.mem_of_getElem? (i := 31) rfl))) (ty := .byte) (by decide)
                    have F378_value : Fld Z h378 b378 "java/lang/String" "value" "[B" .null := D378 (Or.inr (hw _ (List.mem_of_getElem? (i := 33) rfl))) (ty := (.array .byte)) (by decide)
                    refine own_go st378 ?_
                    refine own_go (fun _ kk_ => XS.dup X378.here hx rfl (hb hby at_624) rfl rfl kk_) ?_
                    refine own_go (fun _ kk_ => XS.aload X378.here hx rfl (hb hby at_625) rfl rfl kk_) ?_
                    show own_Fin p.tables e below _ (T378.setTop (mkF m 627 #[.val (.int mode), .val (.int pos), .val (.int ch), .val (.int oth), .val (.int (mode &&& (7 : Int32))), .val (.int (0 : Int32)), .val (.int (ch &&& (255 : Int32))), .val (.int cz), .val (.ref b37), .val (.ref ia), .val (.int pp), .unset, .unset, .val (.ref b344)] [(.ref b344), (.ref b378), (.ref b378)]))
                    have hp390 : ∀ c ∈ ([(pos &&& (255 : Int32)), (((pos.toUInt32 >>> ((8 : Int32) &&& 31).toUInt32).toInt32) &&& (255 : Int32)), (((pos.toUInt32 >>> ((16 : Int32) &&& 31).toUInt32).toInt32) &&& (255 : Int32)), (((pos.toUInt32 >>> ((24 : Int32) &&& 31).toUInt32).toInt32) &&& (255 : Int32)), (oth &&& (255 : Int32)), (((oth.toUInt32 >>> ((8 : Int32) &&& 31).toUInt32).toInt32) &&& (255 : Int32)), (((oth.toUInt32 >>> ((16 : Int32) &&& 31).toUInt32).toInt32) &&& (255 : Int32)), (((oth.toUInt32 >>> ((24 : Int32) &&& 31).toUInt32).toInt32) &&& (255 : Int32))] : List Int32), ¬ c < 0 ∧ ¬ (255 : Int32) < c := by
                      intro c hc
                      simp only [List.mem_cons, List.not_mem_nil, or_false] at hc
                      rcases hc with rfl | rfl | rfl | rfl | rfl | rfl | rfl | rfl
                      · exact own_and255 _
                      · exact own_and255 _
                      · exact own_and255 _
                      · exact own_and255 _
                      · exact own_and255 _
                      · exact own_and255 _
                      · exact own_and255 _
                      · exact own_and255 _
                    obtain ⟨_, _, ⟨T389, L389, k389, n389⟩, -, X389, ⟨Lc389, hQ389, l389, y389, z389⟩, st389⟩ := X378.specialBack hx (y := (⟨"java/lang/String", "<init>", "([C)V"⟩ : MethodName)) rfl hown (mvT hZ (hw _ (List.mem_of_getElem? (i := 8) rfl))) (mvT hZ (hw _ (List.mem_of_getElem? (i := 9) rfl))) (mvT hZ (hw _ (List.mem_of_getElem? (i := 10) rfl))) (by decide) (StrChars.Road.backV (W := 1) hZ hws (kI := 4) (hw _ (List.mem_of_getElem? (i := 6) rfl)) (cs := ([(pos &&& (255 : Int32)), (((pos.toUInt32 >>> ((8 : Int32) &&& 31).toUInt32).toInt32) &&& (255 : Int32)), (((pos.toUInt32 >>> ((16 : Int32) &&& 31).toUInt32).toInt32) &&& (255 : Int32)), (((pos.toUInt32 >>> ((24 : Int32) &&& 31).toUInt32).toInt32) &&& (255 : Int32)), (oth &&& (255 : Int32)), (((oth.toUInt32 >>> ((8 : Int32) &&& 31).toUInt32).toInt32) &&& (255 : Int32)), (((oth.toUInt32 >>> ((16 : Int32) &&& 31).toUInt32).toInt32) &&& (255 : Int32)), (((oth.toUInt32 >>> ((24 : Int32) &&& 31).toUInt32).toInt32) &&& (255 : Int32))] : List Int32)) (bs := (([(pos &&& (255 : Int32)), (((pos.toUInt32 >>> ((8 : Int32) &&& 31).toUInt32).toInt32) &&& (255 : Int32)), (((pos.toUInt32 >>> ((16 : Int32) &&& 31).toUInt32).toInt32) &&& (255 : Int32)), (((pos.toUInt32 >>> ((24 : Int32) &&& 31).toUInt32).toInt32) &&& (255 : Int32)), (oth &&& (255 : Int32)), (((oth.toUInt32 >>> ((8 : Int32) &&& 31).toUInt32).toInt32) &&& (255 : Int32)), (((oth.toUInt32 >>> ((16 : Int32) &&& 31).toUInt32).toInt32) &&& (255 : Int32)), (((oth.toUInt32 >>> ((24 : Int32) &&& 31).toUInt32).toInt32) &&& (255 : Int32))] : List Int32)).map (fun c => c.toInt8.toInt32)) (n := 8) g_b378 (Nat.le_trans Z0 K388.1) A378 F378_value F378_coder V344 (S_C.ext O0.2) hcs rfl rfl (by decide) (by decide) hp390 rfl (by decide) (by decide)) (g := (mkF m 627 #[.val (.int mode), .val (.int pos), .val (.int ch), .val (.int oth), .val (.int (mode &&& (7 : Int32))), .val (.int (0 : Int32)), .val (.int (ch &&& (255 : Int32))), .val (.int cz), .val (.ref b37), .val (.ref ia), .val (.int pp), .unset, .unset, .val (.ref b344)] [(.ref b344), (.ref b378), (.ref b378)])) rfl (by rw [hml]; rfl) (Steps.refl _) (a := b378) (argsL := [(.ref b344)]) (rest := [(.ref b378)]) (lenOf pd_5 rfl) rfl (by show 2 * 0 + _ ≤ _; exact Nat.le_of_eq rfl) (hb hby at_627) (fun _ _ => ⟨rfl, e378, (by decide : 3 + 1 ≤ _), (by decide : 22 + 8 ≤ _)⟩)
                    dsimp only [Pt.U, Pt.locs, Pt.cells, Pt.slots] at X389 l389 y389 z389 st389 hQ389
                    subst l389 y389 z389
                    obtain ⟨rfl, N389q, KK389, EE389, FC389, t389, kb389, gt389, szt389, netx389, FV389, VV389⟩ := hQ389
                    have N389 := Fr.app N375 N389q
                    have SS389 : own_Str Z T389.heap b378 t389 ([(pos &&& (255 : Int32)), (((pos.toUInt32 >>> ((8 : Int32) &&& 31).toUInt32).toInt32) &&& (255 : Int32)), (((pos.toUInt32 >>> ((16 : Int32) &&& 31).toUInt32).toInt32) &&& (255 : Int32)), (((pos.toUInt32 >>> ((24 : Int32) &&& 31).toUInt32).toInt32) &&& (255 : Int32)), (oth &&& (255 : Int32)), (((oth.toUInt32 >>> ((8 : Int32) &&& 31).toUInt32).toInt32) &&& (255 : Int32)), (((oth.toUInt32 >>> ((16 : Int32) &&& 31).toUInt32).toInt32) &&& (255 : Int32)), (((oth.toUInt32 >>> ((24 : Int32) &&& 31).toUInt32).toInt32) &&& (255 : Int32))] : List Int32) := ⟨_, _, _, _, EE389, FV389, FC389, VV389, StrChars.Road.codOf (n := 8) rfl (fun c hc => (hp390 c hc).2), own_up _ hp390, Nat.le_of_ble_eq_true rfl⟩
                    have sz_t389 : h0.size ≤ t389 := Nat.le_trans K388.1 szt389
                    have ne391 : va ≠ t389 := O0.ne V_V.lt gt389
                    have ne392 : ia ≠ t389 := O0.ne F_i.lt gt389
                    have ne393 : sa ≠ t389 := O0.ne F_j.lt gt389
                    have ne394 : wi ≠ t389 := O0.ne S_i.lt gt389
                    have ne395 : ti ≠ t389 := O0.ne S_i.ltt gt389
                    have ne396 : wj ≠ t389 := O0.ne S_j.lt gt389
                    have ne397 : tj ≠ t389 := O0.ne S_j.ltt gt389
                    have ne398 : b37 ≠ t389 := Nat.ne_of_lt (Nat.lt_of_lt_of_le V37.lt szt389)
                    have ne399 : b344 ≠ t389 := Nat.ne_of_lt (Nat.lt_of_lt_of_le V344.lt szt389)
                    have ne400 : b378 ≠ t389 := Nat.ne_of_lt (Nat.lt_of_lt_of_le A378.lt szt389)
                    have S_t389 := Safe.new (Z := Z) (EL := consts_1) (vm := s.vm) szt389
                    have hs401 : ∀ x ∈ [b378], Safe Z consts_1 s.vm h378 x := (sfS S_b378 sf0)
                    replace S_b37 := Safe.keep KK389 hs401 CH S_b37
                    replace S_b344 := Safe.keep KK389 hs401 CH S_b344
                    replace S_b378 := Safe.keep KK389 hs401 CH S_b378
                    replace S_t389 := Safe.keep KK389 hs401 CH S_t389
                    replace CR := CR.trans (CHr.keep KK389 hs401 CH)
                    replace CH := CHv.keep KK389 hs401 CH
                    replace hk := Nat.le_trans hk KK389.1
                    replace O0 := O0.keep KK389 (allS g_b378 (all0))
                    replace V37 := V37.keep KK389 (ninS ne386 nin0)
                    replace V344 := V344.keep KK389 (ninS ne387 nin0)
                    replace A378 := A378.keep KK389
                    have K402 := K388.trans KK389 (allS (Or.inr sz_b378) all0)
                    refine own_go (fun _ kk_ => st389.trans kk_) ?_
                    refine own_go (fun _ kk_ => XS.astore X389.here hx rfl (hb hby at_630) rfl rfl (l' := #[.val (.int mode), .val (.int pos), .val (.int ch), .val (.int oth), .val (.int (mode &&& (7 : Int32))), .val (.int (0 : Int32)), .val (.int (ch &&& (255 : Int32))), .val (.int cz), .val (.ref b37), .val (.ref ia), .val (.int pp), .val (.ref b378), .unset, .val (.ref b344)]) rfl kk_) ?_
                    show own_Fin p.tables e below _ (T389.setTop (mkF m 632 #[.val (.int mode), .val (.int pos), .val (.int ch), .val (.int oth), .val (.int (mode &&& (7 : Int32))), .val (.int (0 : Int32)), .val (.int (ch &&& (255 : Int32))), .val (.int cz), .val (.ref b37), .val (.ref ia), .val (.int pp), .val (.ref b378), .unset, .val (.ref b344)] []))
                    obtain ⟨a403, T403, h403, k403, tb403, kb403, X403, e403, E403, hS, hk, hZ, hown, EA403, FC403, FV403, VB403, -, -, CR403, -, NE403, st403⟩ := ldcCH X389 hx hZ hown (hw _ (List.mem_of_getElem? (i := 69) rfl)) wS rfl hS hk hEL (by decide) CH (vs := ((([(115 : Int32), (109 : Int32), (111 : Int32), (111 : Int32), (116 : Int32), (104 : Int32), (101 : Int32), (100 : Int32)] : List Int32).map (fun c => c.toInt8.toInt32)).map Value.int)) (z := (8 : Int32)) (by exact ⟨by decide, by decide⟩) (by decide) rfl (g := (mkF m 632 #[.val (.int mode), .val (.int pos), .val (.int ch), .val (.int oth), .val (.int (mode &&& (7 : Int32))), .val (.int (0 : Int32)), .val (.int (ch &&& (255 : Int32))), .val (.int cz), .val (.ref b37), .val (.ref ia), .val (.int pp), .val (.ref b378), .unset, .val (.ref b344)] [])) rfl (hb hby at_632) (n := 32) (by decide) (by decide) (by decide) (by decide)
                    replace S_b37 := CR403.safe V37.lt S_b37
                    replace S_b344 := CR403.safe V344.lt S_b344
                    replace S_b378 := CR403.safe SS389.lt S_b378
                    replace S_t389 := CR403.safe SS389.ltt S_t389
                    replace CR := CR.trans CR403
                    replace CH := CR403.1
                    replace O0 := O0.ext E403
                    replace V37 := V37.ext E403
                    replace V344 := V344.ext E403
                    replace SS389 := SS389.ext E403
                    have K404 := K402.ext E403
                    have ne405 : b37 ≠ a403 := (NE403 _ S_b37).1
                    have ne406 : b37 ≠ tb403 := (NE403 _ S_b37).2
                    have ne407 : b344 ≠ a403 := (NE403 _ S_b344).1
                    have ne408 : b344 ≠ tb403 := (NE403 _ S_b344).2
                    have ne409 : b378 ≠ a403 := (NE403 _ S_b378).1
                    have ne410 : b378 ≠ tb403 := (NE403 _ S_b378).2
                    have ne411 : t389 ≠ a403 := (NE403 _ S_t389).1
                    have ne412 : t389 ≠ tb403 := (NE403 _ S_t389).2
                    have SS403 : own_Str Z h403 a403 tb403 ([(115 : Int32), (109 : Int32), (111 : Int32), (111 : Int32), (116 : Int32), (104 : Int32), (101 : Int32), (100 : Int32)] : List Int32) := ⟨_, _, _, _, EA403, FV403, FC403, VB403, StrChars.Road.codOf (n := 8) rfl (by decide), by decide, Nat.le_of_ble_eq_true rfl⟩
                    refine own_go st403 ?_
                    refine own_go (fun _ kk_ => XS.aload X403.here hx rfl (hb hby at_634) rfl rfl kk_) ?_
                    show own_Fin p.tables e below _ (T403.setTop (mkF m 636 #[.val (.int mode), .val (.int pos), .val (.int ch), .val (.int oth), .val (.int (mode &&& (7 : Int32))), .val (.int (0 : Int32)), .val (.int (ch &&& (255 : Int32))), .val (.int cz), .val (.ref b37), .val (.ref ia), .val (.int pp), .val (.ref b378), .unset, .val (.ref b344)] [(.ref b378), (.ref a403)]))
                    obtain ⟨cq413, kq413, qa413, qb413, qc413⟩ := isOf hZ e403 SS403.exa
                    obtain ⟨_, _, ⟨T413, L413, k413, n413⟩, -, X413, ⟨Lc413, hQ413, l413, y413, z413⟩, st413⟩ := X403.virtualBack hx (y := (⟨"java/lang/String", "equals", "(Ljava/lang/Object;)Z"⟩ : MethodName)) (z := (⟨"java/lang/String", "equals", "(Ljava/lang/Object;)Z"⟩ : MethodName)) hown (mvT hZ (hw _ (List.mem_of_getElem? (i := 70) rfl))) (mvT hZ (hw _ (List.mem_of_getElem? (i := 56) rfl))) (own_notface (args := #[]) (mvT hZ (hw _ (List.mem_of_getElem? (i := 58) rfl))) rfl) (mvT hZ (hw _ (List.mem_of_getElem? (i := 58) rfl))) (mvT hZ (hw _ (List.mem_of_getElem? (i := 57) rfl))) (by decide) (own_eqB (W := 0) hZ heq (hw _ (List.mem_of_getElem? (i := 6) rfl)) SS403 SS389 (S_C.ext O0.2) hcs (by decide) (by decide)) qa413 qc413 (g := (mkF m 636 #[.val (.int mode), .val (.int pos), .val (.int ch), .val (.int oth), .val (.int (mode &&& (7 : Int32))), .val (.int (0 : Int32)), .val (.int (ch &&& (255 : Int32))), .val (.int cz), .val (.ref b37), .val (.ref ia), .val (.int pp), .val (.ref b378), .unset, .val (.ref b344)] [(.ref b378), (.ref a403)])) rfl (by rw [hml]; rfl) (Steps.refl _) (argsL := [(.ref b378)]) (rest := []) (lenOf pd_3 rfl) rfl (by show 2 * 0 + _ ≤ _; exact Nat.le_of_eq rfl) (hb hby at_636) (fun _ _ => ⟨rfl, e403, (by decide : 6 + 0 ≤ _), (by decide : 66 + 0 ≤ _)⟩)
                    dsimp only [Pt.U, Pt.locs, Pt.cells, Pt.slots] at X413 l413 y413 z413 st413 hQ413
                    subst l413 y413 z413
                    obtain ⟨hq413, rfl, e413⟩ := hQ413
                    obtain ⟨z413, rfl, hz413⟩ := own_eqv hq413
                    have N413 := Fr.app N389 (Fr.nil n0)
                    refine own_go (fun _ kk_ => st413.trans kk_) ?_
                    show own_Fin p.tables e below _ (T413.setTop (mkF m 639 #[.val (.int mode), .val (.int pos), .val (.int ch), .val (.int oth), .val (.int (mode &&& (7 : Int32))), .val (.int (0 : Int32)), .val (.int (ch &&& (255 : Int32))), .val (.int cz), .val (.ref b37), .val (.ref ia), .val (.int pp), .val (.ref b378), .unset, .val (.ref b344)] [(.int z413)]))
                    by_cases hc414 : z413 = (0 : Int32)
                    · skip
                      refine own_go (fun _ kk_ => XS.ifYes X413.here hx rfl (pc0 := 639) (pc' := 648) rfl (hb hby at_639) rfl ((if0 _ _).trans (teq hc414).1) (by decide) (by decide) kk_) ?_
                      refine own_go (fun _ kk_ => XS.aconstNull X413.here hx rfl (hb hby at_648) kk_) ?_
                      refine own_go (fun _ kk_ => XS.astore X413.here hx rfl (hb hby at_649) rfl rfl (l' := #[.val (.int mode), .val (.int pos), .val (.int ch), .val (.int oth), .val (.int (mode &&& (7 : Int32))), .val (.int (0 : Int32)), .val (.int (ch &&& (255 : Int32))), .val (.int cz), .val (.ref b37), .val (.ref ia), .val (.int pp), .val (.ref b378), .val .null, .val (.ref b344)]) rfl kk_) ?_
                      refine own_go (fun _ kk_ => XS.aload X413.here hx rfl (hb hby at_651) rfl rfl kk_) ?_
                      show own_Fin p.tables e below _ (T413.setTop (mkF m 653 #[.val (.int mode), .val (.int pos), .val (.int ch), .val (.int oth), .val (.int (mode &&& (7 : Int32))), .val (.int (0 : Int32)), .val (.int (ch &&& (255 : Int32))), .val (.int cz), .val (.ref b37), .val (.ref ia), .val (.int pp), .val (.ref b378), .val .null, .val (.ref b344)] [(.ref b378)]))
                      obtain ⟨_, _, ⟨T415, L415, k415, n415⟩, -, X415, ⟨Lc415, hQ415, l415, y415, z415⟩, st415⟩ := Jvm.LawKit.callS X413 hx (y := (⟨"com/example/hebelwerk/hebelwerk/model/DividendMethod", "written", "(Ljava/lang/String;)Lcom/example/hebelwerk/hebelwerk/model/DividendMethod;"⟩ : MethodName)) hown (mvT hZ (hw _ (List.mem_of_getElem? (i := 34) rfl))) (mvT hZ (hw _ (List.mem_of_getElem? (i := 35) rfl))) (mvT hZ (hw _ (List.mem_of_getElem? (i := 2) rfl))) (mvT hZ (hw _ (List.mem_of_getElem? (i := 36) rfl))) (by decide) (backOf (W := 0) (rm_wrS l Z a0 hw [] b378 t389 ([(pos &&& (255 : Int32)), (((pos.toUInt32 >>> ((8 : Int32) &&& 31).toUInt32).toInt32) &&& (255 : Int32)), (((pos.toUInt32 >>> ((16 : Int32) &&& 31).toUInt32).toInt32) &&& (255 : Int32)), (((pos.toUInt32 >>> ((24 : Int32) &&& 31).toUInt32).toInt32) &&& (255 : Int32)), (oth &&& (255 : Int32)), (((oth.toUInt32 >>> ((8 : Int32) &&& 31).toUInt32).toInt32) &&& (255 : Int32)), (((oth.toUInt32 >>> ((16 : Int32) &&& 31).toUInt32).toInt32) &&& (255 : Int32)), (((oth.toUInt32 >>> ((24 : Int32) &&& 31).toUInt32).toInt32) &&& (255 : Int32))] : List Int32) va vk ia sa wi ti wj tj gc h403 n0 (Nat.le_trans Z0 K404.1) SS389 S_V V_V E_V F_i F_j S_i S_j S_C hcs O0) hZ (hw _ (List.mem_of_getElem? (i := 36) rfl)) (hw _ (List.mem_of_getElem? (i := 2) rfl)) (by decide) (by decide)) (g := (mkF m 653 #[.val (.int mode), .val (.int pos), .val (.int ch), .val (.int oth), .val (.int (mode &&& (7 : Int32))), .val (.int (0 : Int32)), .val (.int (ch &&& (255 : Int32))), .val (.int cz), .val (.ref b37), .val (.ref ia), .val (.int pp), .val (.ref b378), .val .null, .val (.ref b344)] [(.ref b378)])) rfl (by rw [hml]; rfl) (argsL := [(.ref b378)]) (rest := []) (lenOf pd_6 rfl) rfl (by show 2 * 0 + _ ≤ _; exact Nat.le_of_eq rfl) (hb hby at_653) (fun _ _ => ⟨rfl, e413, (by decide : 6 + 1 ≤ _), (by decide : 66 + 2 ≤ _)⟩)
                      dsimp only [Pt.U, Pt.locs, Pt.cells, Pt.slots] at X415 l415 y415 z415 st415 hQ415
                      subst l415 y415 z415
                      obtain ⟨N415q, KK415, y1_415, y2_415, y3_415⟩ := hQ415
                      obtain rfl := y3_415 (by simp) (hz413.elim (fun u => absurd (u.1.symm.trans hc414) (by decide)) (fun u => fun q => u.2 q.symm))
                      have N415 := Fr.app N413 N415q
                      have hs416 : ∀ x ∈ [], Safe Z consts_1 T403.vm h403 x := sf0
                      replace S_b37 := Safe.keep KK415 hs416 CH S_b37
                      replace S_b344 := Safe.keep KK415 hs416 CH S_b344
                      replace S_b378 := Safe.keep KK415 hs416 CH S_b378
                      replace S_t389 := Safe.keep KK415 hs416 CH S_t389
                      replace CR := CR.trans (CHr.keep KK415 hs416 CH)
                      replace CH := CHv.keep KK415 hs416 CH
                      replace hk := Nat.le_trans hk KK415.1
                      replace O0 := O0.keep KK415 all0
                      replace V37 := V37.keep KK415 nin0
                      replace V344 := V344.keep KK415 nin0
                      replace SS389 := SS389.keep KK415 nin0 nin0
                      replace SS403 := SS403.keep KK415 nin0 nin0
                      have K417 := K404.trans KK415 all0
                      refine own_go st415 ?_
                      refine own_go (fun _ kk_ => XS.aload X415.here hx rfl (hb hby at_656) rfl rfl kk_) ?_
                      show own_Fin p.tables e below _ (T415.setTop (mkF m 658 #[.val (.int mode), .val (.int pos), .val (.int ch), .val (.int oth), .val (.int (mode &&& (7 : Int32))), .val (.int (0 : Int32)), .val (.int (ch &&& (255 : Int32))), .val (.int cz), .val (.ref b37), .val (.ref ia), .val (.int pp), .val (.ref b378), .val .null, .val (.ref b344)] [.null, .null]))
                      refine own_go (fun _ kk_ => acmp (g := (mkF m 658 #[.val (.int mode), .val (.int pos), .val (.int ch), .val (.int oth), .val (.int (mode &&& (7 : Int32))), .val (.int (0 : Int32)), .val (.int (ch &&& (255 : Int32))), .val (.int cz), .val (.ref b37), .val (.ref ia), .val (.int pp), .val (.ref b378), .val .null, .val (.ref b344)] [.null, .null])) X415 hx rfl rfl rfl (pc0 := 658) (pc' := 661) (same := true) rfl (hb hby at_658) rfl rfl (by decide) (by decide) kk_) ?_
                      refine own_go (fun _ kk_ => XS.iconst X415.here hx rfl (hb hby at_661) kk_) ?_
                      refine own_go (fun _ kk_ => XS.goto X415.here hx rfl (pc0 := 662) (pc' := 666) rfl (hb hby at_662) (by decide) (by decide) kk_) ?_
                      show own_Fin p.tables e below _ (T415.setTop (mkF m 666 #[.val (.int mode), .val (.int pos), .val (.int ch), .val (.int oth), .val (.int (mode &&& (7 : Int32))), .val (.int (0 : Int32)), .val (.int (ch &&& (255 : Int32))), .val (.int cz), .val (.ref b37), .val (.ref ia), .val (.int pp), .val (.ref b378), .val .null, .val (.ref b344)] [(.int (1 : Int32))]))
                      have CRz : CHr Z consts_1 s.vm s.heap T415.vm T415.heap := by
                        rw [hh]
                        exact CR.trans (CHv.at X415 hZ hEL CH)
                      refine own_retW X415 hx Bd hS hk (t := .boolean) Bd.returns rfl (Or.inl ⟨rfl, by simp, _, rfl⟩) (hb hby at_666) CRz ?_ (by decide) (by decide)
                      show (Q_rm_law Z mode pos ch oth va vk ia sa wi ti wj tj gc h0 n0) (some (.int (1 : Int32))) T415.heap _
                      exact ⟨rfl, N415⟩
                    · skip
                      refine own_go (fun _ kk_ => XS.ifNo X413.here hx rfl (hb hby at_639) rfl ((if0 _ _).trans (feq hc414).1) kk_) ?_
                      show own_Fin p.tables e below _ (T413.setTop (mkF m 642 #[.val (.int mode), .val (.int pos), .val (.int ch), .val (.int oth), .val (.int (mode &&& (7 : Int32))), .val (.int (0 : Int32)), .val (.int (ch &&& (255 : Int32))), .val (.int cz), .val (.ref b37), .val (.ref ia), .val (.int pp), .val (.ref b378), .unset, .val (.ref b344)] []))
                      obtain ⟨T418, X418, e418, st418⟩ := getS2 X413 hx hZ hown (host := "") (Or.inl (hw _ (List.mem_of_getElem? (i := 65) rfl))) Via.refl e413 (S_sa.ext O0.2) (g := (mkF m 642 #[.val (.int mode), .val (.int pos), .val (.int ch), .val (.int oth), .val (.int (mode &&& (7 : Int32))), .val (.int (0 : Int32)), .val (.int (ch &&& (255 : Int32))), .val (.int cz), .val (.ref b37), .val (.ref ia), .val (.int pp), .val (.ref b378), .unset, .val (.ref b344)] [])) rfl (hb hby at_642)
                      refine own_go st418 ?_
                      refine own_go (fun _ kk_ => XS.goto X418.here hx rfl (pc0 := 645) (pc' := 649) rfl (hb hby at_645) (by decide) (by decide) kk_) ?_
                      refine own_go (fun _ kk_ => XS.astore X418.here hx rfl (hb hby at_649) rfl rfl (l' := #[.val (.int mode), .val (.int pos), .val (.int ch), .val (.int oth), .val (.int (mode &&& (7 : Int32))), .val (.int (0 : Int32)), .val (.int (ch &&& (255 : Int32))), .val (.int cz), .val (.ref b37), .val (.ref ia), .val (.int pp), .val (.ref b378), .val (.ref sa), .val (.ref b344)]) rfl kk_) ?_
                      refine own_go (fun _ kk_ => XS.aload X418.here hx rfl (hb hby at_651) rfl rfl kk_) ?_
                      show own_Fin p.tables e below _ (T418.setTop (mkF m 653 #[.val (.int mode), .val (.int pos), .val (.int ch), .val (.int oth), .val (.int (mode &&& (7 : Int32))), .val (.int (0 : Int32)), .val (.int (ch &&& (255 : Int32))), .val (.int cz), .val (.ref b37), .val (.ref ia), .val (.int pp), .val (.ref b378), .val (.ref sa), .val (.ref b344)] [(.ref b378)]))
                      obtain ⟨_, _, ⟨T419, L419, k419, n419⟩, -, X419, ⟨Lc419, hQ419, l419, y419, z419⟩, st419⟩ := Jvm.LawKit.callS X418 hx (y := (⟨"com/example/hebelwerk/hebelwerk/model/DividendMethod", "written", "(Ljava/lang/String;)Lcom/example/hebelwerk/hebelwerk/model/DividendMethod;"⟩ : MethodName)) hown (mvT hZ (hw _ (List.mem_of_getElem? (i := 34) rfl))) (mvT hZ (hw _ (List.mem_of_getElem? (i := 35) rfl))) (mvT hZ (hw _ (List.mem_of_getElem? (i := 2) rfl))) (mvT hZ (hw _ (List.mem_of_getElem? (i := 36) rfl))) (by decide) (backOf (W := 0) (rm_wrS l Z a0 hw [] b378 t389 ([(pos &&& (255 : Int32)), (((pos.toUInt32 >>> ((8 : Int32) &&& 31).toUInt32).toInt32) &&& (255 : Int32)), (((pos.toUInt32 >>> ((16 : Int32) &&& 31).toUInt32).toInt32) &&& (255 : Int32)), (((pos.toUInt32 >>> ((24 : Int32) &&& 31).toUInt32).toInt32) &&& (255 : Int32)), (oth &&& (255 : Int32)), (((oth.toUInt32 >>> ((8 : Int32) &&& 31).toUInt32).toInt32) &&& (255 : Int32)), (((oth.toUInt32 >>> ((16 : Int32) &&& 31).toUInt32).toInt32) &&& (255 : Int32)), (((oth.toUInt32 >>> ((24 : Int32) &&& 31).toUInt32).toInt32) &&& (255 : Int32))] : List Int32) va vk ia sa wi ti wj tj gc h403 n0 (Nat.le_trans Z0 K404.1) SS389 S_V V_V E_V F_i F_j S_i S_j S_C hcs O0) hZ (hw _ (List.mem_of_getElem? (i := 36) rfl)) (hw _ (List.mem_of_getElem? (i := 2) rfl)) (by decide) (by decide)) (g := (mkF m 653 #[.val (.int mode), .val (.int pos), .val (.int ch), .val (.int oth), .val (.int (mode &&& (7 : Int32))), .val (.int (0 : Int32)), .val (.int (ch &&& (255 : Int32))), .val (.int cz), .val (.ref b37), .val (.ref ia), .val (.int pp), .val (.ref b378), .val (.ref sa), .val (.ref b344)] [(.ref b378)])) rfl (by rw [hml]; rfl) (argsL := [(.ref b378)]) (rest := []) (lenOf pd_6 rfl) rfl (by show 2 * 0 + _ ≤ _; exact Nat.le_of_eq rfl) (hb hby at_653) (fun _ _ => ⟨rfl, e418, (by decide : 6 + 1 ≤ _), (by decide : 66 + 2 ≤ _)⟩)
                      dsimp only [Pt.U, Pt.locs, Pt.cells, Pt.slots] at X419 l419 y419 z419 st419 hQ419
                      subst l419 y419 z419
                      obtain ⟨N419q, KK419, y1_419, y2_419, y3_419⟩ := hQ419
                      obtain rfl := y2_419 (by simp) (hz413.elim (fun u => u.2.symm) (fun u => absurd u.1 hc414))
                      have N419 := Fr.app N413 N419q
                      have hs420 : ∀ x ∈ [], Safe Z consts_1 T403.vm h403 x := sf0
                      replace S_b37 := Safe.keep KK419 hs420 CH S_b37
                      replace S_b344 := Safe.keep KK419 hs420 CH S_b344
                      replace S_b378 := Safe.keep KK419 hs420 CH S_b378
                      replace S_t389 := Safe.keep KK419 hs420 CH S_t389
                      replace CR := CR.trans (CHr.keep KK419 hs420 CH)
                      replace CH := CHv.keep KK419 hs420 CH
                      replace hk := Nat.le_trans hk KK419.1
                      replace O0 := O0.keep KK419 all0
                      replace V37 := V37.keep KK419 nin0
                      replace V344 := V344.keep KK419 nin0
                      replace SS389 := SS389.keep KK419 nin0 nin0
                      replace SS403 := SS403.keep KK419 nin0 nin0
                      have K421 := K404.trans KK419 all0
                      refine own_go st419 ?_
                      refine own_go (fun _ kk_ => XS.aload X419.here hx rfl (hb hby at_656) rfl rfl kk_) ?_
                      show own_Fin p.tables e below _ (T419.setTop (mkF m 658 #[.val (.int mode), .val (.int pos), .val (.int ch), .val (.int oth), .val (.int (mode &&& (7 : Int32))), .val (.int (0 : Int32)), .val (.int (ch &&& (255 : Int32))), .val (.int cz), .val (.ref b37), .val (.ref ia), .val (.int pp), .val (.ref b378), .val (.ref sa), .val (.ref b344)] [(.ref sa), (.ref sa)]))
                      refine own_go (fun _ kk_ => acmp (g := (mkF m 658 #[.val (.int mode), .val (.int pos), .val (.int ch), .val (.int oth), .val (.int (mode &&& (7 : Int32))), .val (.int (0 : Int32)), .val (.int (ch &&& (255 : Int32))), .val (.int cz), .val (.ref b37), .val (.ref ia), .val (.int pp), .val (.ref b378), .val (.ref sa), .val (.ref b344)] [(.ref sa), (.ref sa)])) X419 hx rfl rfl rfl (pc0 := 658) (pc' := 661) (same := true) rfl (hb hby at_658) rfl (by simp) (by decide) (by decide) kk_) ?_
                      refine own_go (fun _ kk_ => XS.iconst X419.here hx rfl (hb hby at_661) kk_) ?_
                      refine own_go (fun _ kk_ => XS.goto X419.here hx rfl (pc0 := 662) (pc' := 666) rfl (hb hby at_662) (by decide) (by decide) kk_) ?_
                      show own_Fin p.tables e below _ (T419.setTop (mkF m 666 #[.val (.int mode), .val (.int pos), .val (.int ch), .val (.int oth), .val (.int (mode &&& (7 : Int32))), .val (.int (0 : Int32)), .val (.int (ch &&& (255 : Int32))), .val (.int cz), .val (.ref b37), .val (.ref ia), .val (.int pp), .val (.ref b378), .val (.ref sa), .val (.ref b344)] [(.int (1 : Int32))]))
                      have CRz : CHr Z consts_1 s.vm s.heap T419.vm T419.heap := by
                        rw [hh]
                        exact CR.trans (CHv.at X419 hZ hEL CH)
                      refine own_retW X419 hx Bd hS hk (t := .boolean) Bd.returns rfl (Or.inl ⟨rfl, by simp, _, rfl⟩) (hb hby at_666) CRz ?_ (by decide) (by decide)
                      show (Q_rm_law Z mode pos ch oth va vk ia sa wi ti wj tj gc h0 n0) (some (.int (1 : Int32))) T419.heap _
                      exact ⟨rfl, N419⟩
    refine own_go (fun _ kk_ => XS.iloadN X0.here hx rfl (hb hby at_28) rfl kk_) ?_
    refine own_go (fun _ kk_ => XS.sipush X0.here hx rfl (hb hby at_29) kk_) ?_
    show own_Fin p.tables e below _ (s₁.setTop (mkF m 32 #[.val (.int mode), .val (.int pos), .val (.int ch), .val (.int oth), .val (.int (mode &&& (7 : Int32))), .val (.int (0 : Int32)), .val (.int (ch &&& (255 : Int32))), .unset, .unset, .unset, .unset, .unset, .unset, .unset] [(.int (256 : Int32)), (.int ch)]))
    refine own_go (fun _ kk_ => XS.iand X0.here hx rfl (hb hby at_32) rfl kk_) ?_
    show own_Fin p.tables e below _ (s₁.setTop (mkF m 33 #[.val (.int mode), .val (.int pos), .val (.int ch), .val (.int oth), .val (.int (mode &&& (7 : Int32))), .val (.int (0 : Int32)), .val (.int (ch &&& (255 : Int32))), .unset, .unset, .unset, .unset, .unset, .unset, .unset] [(.int (ch &&& (256 : Int32)))]))
    by_cases hc422 : (ch &&& (256 : Int32)) = (0 : Int32)
    · skip
      refine own_go (fun _ kk_ => XS.ifYes X0.here hx rfl (pc0 := 33) (pc' := 40) rfl (hb hby at_33) rfl ((if0 _ _).trans (teq hc422).1) (by decide) (by decide) kk_) ?_
      refine own_go (fun _ kk_ => XS.iconst X0.here hx rfl (hb hby at_40) kk_) ?_
      show own_Fin p.tables e below _ (s₁.setTop (mkF m 41 #[.val (.int mode), .val (.int pos), .val (.int ch), .val (.int oth), .val (.int (mode &&& (7 : Int32))), .val (.int (0 : Int32)), .val (.int (ch &&& (255 : Int32))), .unset, .unset, .unset, .unset, .unset, .unset, .unset] [(.int (0 : Int32))]))
      exact tail _
    · skip
      refine own_go (fun _ kk_ => XS.ifNo X0.here hx rfl (hb hby at_33) rfl ((if0 _ _).trans (feq hc422).1) kk_) ?_
      refine own_go (fun _ kk_ => XS.iconst X0.here hx rfl (hb hby at_36) kk_) ?_
      refine own_go (fun _ kk_ => XS.goto X0.here hx rfl (pc0 := 37) (pc' := 41) rfl (hb hby at_37) (by decide) (by decide) kk_) ?_
      show own_Fin p.tables e below _ (s₁.setTop (mkF m 41 #[.val (.int mode), .val (.int pos), .val (.int ch), .val (.int oth), .val (.int (mode &&& (7 : Int32))), .val (.int (0 : Int32)), .val (.int (ch &&& (255 : Int32))), .unset, .unset, .unset, .unset, .unset, .unset, .unset] [(.int (1 : Int32))]))
      exact tail _
  · skip
    refine own_go (fun _ kk_ => XS.ifNo X0.here hx rfl (hb hby at_10) rfl ((if0 _ _).trans (feq hc36).1) kk_) ?_
    refine own_go (fun _ kk_ => XS.iconst X0.here hx rfl (hb hby at_13) kk_) ?_
    refine own_go (fun _ kk_ => XS.goto X0.here hx rfl (pc0 := 14) (pc' := 18) rfl (hb hby at_14) (by decide) (by decide) kk_) ?_
    refine own_go (fun _ kk_ => XS.istore X0.here hx rfl (hb hby at_18) rfl (l' := #[.val (.int mode), .val (.int pos), .val (.int ch), .val (.int oth), .val (.int (mode &&& (7 : Int32))), .val (.int (1 : Int32)), .unset, .unset, .unset, .unset, .unset, .unset, .unset, .unset]) rfl kk_) ?_
    refine own_go (fun _ kk_ => XS.iloadN X0.here hx rfl (hb hby at_20) rfl kk_) ?_
    refine own_go (fun _ kk_ => XS.sipush X0.here hx rfl (hb hby at_21) kk_) ?_
    show own_Fin p.tables e below _ (s₁.setTop (mkF m 24 #[.val (.int mode), .val (.int pos), .val (.int ch), .val (.int oth), .val (.int (mode &&& (7 : Int32))), .val (.int (1 : Int32)), .unset, .unset, .unset, .unset, .unset, .unset, .unset, .unset] [(.int (255 : Int32)), (.int ch)]))
    refine own_go (fun _ kk_ => XS.iand X0.here hx rfl (hb hby at_24) rfl kk_) ?_
    show own_Fin p.tables e below _ (s₁.setTop (mkF m 25 #[.val (.int mode), .val (.int pos), .val (.int ch), .val (.int oth), .val (.int (mode &&& (7 : Int32))), .val (.int (1 : Int32)), .unset, .unset, .unset, .unset, .unset, .unset, .unset, .unset] [(.int (ch &&& (255 : Int32)))]))
    refine own_go (fun _ kk_ => XS.i2c X0.here hx rfl (hb hby at_25) rfl kk_) ?_
    rw [i2c_mask]
    refine own_go (fun _ kk_ => XS.istore X0.here hx rfl (hb hby at_26) rfl (l' := #[.val (.int mode), .val (.int pos), .val (.int ch), .val (.int oth), .val (.int (mode &&& (7 : Int32))), .val (.int (1 : Int32)), .val (.int (ch &&& (255 : Int32))), .unset, .unset, .unset, .unset, .unset, .unset, .unset]) rfl kk_) ?_
    show own_Fin p.tables e below _ (s₁.setTop (mkF m 28 #[.val (.int mode), .val (.int pos), .val (.int ch), .val (.int oth), .val (.int (mode &&& (7 : Int32))), .val (.int (1 : Int32)), .val (.int (ch &&& (255 : Int32))), .unset, .unset, .unset, .unset, .unset, .unset, .unset] []))
    have tail : ∀ cz : Int32, own_Fin p.tables e below (own_PostW Z consts_1 (Q_rm_law Z mode pos ch oth va vk ia sa wi ti wj tj gc h0 n0) room_1.cells room_1.slots below s) (s₁.setTop (mkF m 41 #[.val (.int mode), .val (.int pos), .val (.int ch), .val (.int oth), .val (.int (mode &&& (7 : Int32))), .val (.int (1 : Int32)), .val (.int (ch &&& (255 : Int32))), .unset, .unset, .unset, .unset, .unset, .unset, .unset] [(.int cz)])) := by
      intro cz
      refine own_go (fun _ kk_ => XS.istore X0.here hx rfl (hb hby at_41) rfl (l' := #[.val (.int mode), .val (.int pos), .val (.int ch), .val (.int oth), .val (.int (mode &&& (7 : Int32))), .val (.int (1 : Int32)), .val (.int (ch &&& (255 : Int32))), .val (.int cz), .unset, .unset, .unset, .unset, .unset, .unset]) rfl kk_) ?_
      refine own_go (fun _ kk_ => XS.iload X0.here hx rfl (hb hby at_43) rfl kk_) ?_
      show own_Fin p.tables e below _ (s₁.setTop (mkF m 45 #[.val (.int mode), .val (.int pos), .val (.int ch), .val (.int oth), .val (.int (mode &&& (7 : Int32))), .val (.int (1 : Int32)), .val (.int (ch &&& (255 : Int32))), .val (.int cz), .unset, .unset, .unset, .unset, .unset, .unset] [(.int (1 : Int32))]))
      refine own_go (fun _ kk_ => XS.ifNo X0.here hx rfl (hb hby at_45) rfl ((if0 _ _).trans (feq (by decide : ¬ (1 : Int32) = (0 : Int32))).1) kk_) ?_
      refine own_go (fun _ kk_ => XS.bipush X0.here hx rfl (hb hby at_48) kk_) ?_
      show own_Fin p.tables e below _ (s₁.setTop (mkF m 50 #[.val (.int mode), .val (.int pos), .val (.int ch), .val (.int oth), .val (.int (mode &&& (7 : Int32))), .val (.int (1 : Int32)), .val (.int (ch &&& (255 : Int32))), .val (.int cz), .unset, .unset, .unset, .unset, .unset, .unset] [(.int (8 : Int32))]))
      obtain ⟨T423, h423, k423, X423, e423, E423, A423, st423⟩ := newP X0 hx hZ (hw _ (List.mem_of_getElem? (i := 0) rfl)) e0 (g := (mkF m 50 #[.val (.int mode), .val (.int pos), .val (.int ch), .val (.int oth), .val (.int (mode &&& (7 : Int32))), .val (.int (1 : Int32)), .val (.int (ch &&& (255 : Int32))), .val (.int cz), .unset, .unset, .unset, .unset, .unset, .unset] [(.int (8 : Int32))])) rfl (hb hby at_50) rfl (by decide) (cap := 8) (by decide) (by decide) (by decide) (by decide)
      obtain ⟨b423, g423⟩ : ∃ z, z = h0.size := ⟨_, rfl⟩
      rw [← g423] at A423 st423
      have sz_b423 : h0.size ≤ b423 := Nat.le_trans K0.1 (Nat.le_of_eq g423.symm)
      have g_b423 : n0 ≤ b423 := Nat.le_trans Z0 sz_b423
      have ne424 : va ≠ b423 := O0.ne V_V.lt g_b423
      have ne425 : ia ≠ b423 := O0.ne F_i.lt g_b423
      have ne426 : sa ≠ b423 := O0.ne F_j.lt g_b423
      have ne427 : wi ≠ b423 := O0.ne S_i.lt g_b423
      have ne428 : ti ≠ b423 := O0.ne S_i.ltt g_b423
      have ne429 : wj ≠ b423 := O0.ne S_j.lt g_b423
      have ne430 : tj ≠ b423 := O0.ne S_j.ltt g_b423
      have S_b423 := Safe.new (Z := Z) (EL := consts_1) (vm := s.vm) (Nat.le_of_eq g423.symm)
      replace S_b423 := Safe.ext E423 CH S_b423
      replace CR := CR.trans (CHr.ext E423 CH)
      replace CH := CH.ext E423
      replace hk := Nat.le_trans hk E423.1
      replace O0 := O0.ext E423
      have K431 := K0.ext E423
      have V423 : Arv Z h423 b423 k423 .char (8 : Int32) [(.int (0 : Int32)), (.int (0 : Int32)), (.int (0 : Int32)), (.int (0 : Int32)), (.int (0 : Int32)), (.int (0 : Int32)), (.int (0 : Int32)), (.int (0 : Int32))] (.int (0 : Int32)) := (Arv.new A423 (by decide)).pad (pad_rep [] (.int (0 : Int32)) 8)
      refine own_go st423 ?_
      refine own_go (fun _ kk_ => XS.dup X423.here hx rfl (hb hby at_52) rfl rfl kk_) ?_
      refine own_go (fun _ kk_ => XS.iconst X423.here hx rfl (hb hby at_53) kk_) ?_
      refine own_go (fun _ kk_ => XS.bipush X423.here hx rfl (hb hby at_54) kk_) ?_
      show own_Fin p.tables e below _ (T423.setTop (mkF m 56 #[.val (.int mode), .val (.int pos), .val (.int ch), .val (.int oth), .val (.int (mode &&& (7 : Int32))), .val (.int (1 : Int32)), .val (.int (ch &&& (255 : Int32))), .val (.int cz), .unset, .unset, .unset, .unset, .unset, .unset] [(.int (115 : Int32)), (.int (0 : Int32)), (.ref b423), (.ref b423)]))
      obtain ⟨T432, h432, X432, e432, W432, V432, st432⟩ := own_stC X423 hx hZ e423 V423 (by decide) (i := 0) rfl (Nat.le_of_ble_eq_true rfl) (g := (mkF m 56 #[.val (.int mode), .val (.int pos), .val (.int ch), .val (.int oth), .val (.int (mode &&& (7 : Int32))), .val (.int (1 : Int32)), .val (.int (ch &&& (255 : Int32))), .val (.int cz), .unset, .unset, .unset, .unset, .unset, .unset] [(.int (115 : Int32)), (.int (0 : Int32)), (.ref b423), (.ref b423)])) rfl rfl (hb hby at_56)
      replace V423 : Arv Z h432 b423 k423 .char (8 : Int32) [(.int (115 : Int32)), (.int (0 : Int32)), (.int (0 : Int32)), (.int (0 : Int32)), (.int (0 : Int32)), (.int (0 : Int32)), (.int (0 : Int32)), (.int (0 : Int32))] (.int (0 : Int32)) := V432
      have N432 := Fr.snoc X432 N0 g_b423
      refine own_go st432 ?_
      have sa433 := S_b423
      replace S_b423 := Safe.wr W432 sa433 CH S_b423
      replace CR := CR.trans (CHr.wr W432 sa433 CH)
      replace CH := CHv.wr W432 sa433 CH
      replace hk := Nat.le_trans hk (Keep.of_wr W432).1
      replace O0 := O0.wr W432 g_b423
      have K434 := K431.wr W432 (Or.inr sz_b423)
      refine own_go (fun _ kk_ => XS.dup X432.here hx rfl (hb hby at_57) rfl rfl kk_) ?_
      refine own_go (fun _ kk_ => XS.iconst X432.here hx rfl (hb hby at_58) kk_) ?_
      refine own_go (fun _ kk_ => XS.bipush X432.here hx rfl (hb hby at_59) kk_) ?_
      show own_Fin p.tables e below _ (T432.setTop (mkF m 61 #[.val (.int mode), .val (.int pos), .val (.int ch), .val (.int oth), .val (.int (mode &&& (7 : Int32))), .val (.int (1 : Int32)), .val (.int (ch &&& (255 : Int32))), .val (.int cz), .unset, .unset, .unset, .unset, .unset, .unset] [(.int (109 : Int32)), (.int (1 : Int32)), (.ref b423), (.ref b423)]))
      obtain ⟨T435, h435, X435, e435, W435, V435, st435⟩ := own_stC X432 hx hZ e432 V423 (by decide) (i := 1) rfl (Nat.le_of_ble_eq_true rfl) (g := (mkF m 61 #[.val (.int mode), .val (.int pos), .val (.int ch), .val (.int oth), .val (.int (mode &&& (7 : Int32))), .val (.int (1 : Int32)), .val (.int (ch &&& (255 : Int32))), .val (.int cz), .unset, .unset, .unset, .unset, .unset, .unset] [(.int (109 : Int32)), (.int (1 : Int32)), (.ref b423), (.ref b423)])) rfl rfl (hb hby at_61)
      replace V423 : Arv Z h435 b423 k423 .char (8 : Int32) [(.int (115 : Int32)), (.int (109 : Int32)), (.int (0 : Int32)), (.int (0 : Int32)), (.int (0 : Int32)), (.int (0 : Int32)), (.int (0 : Int32)), (.int (0 : Int32))] (.int (0 : Int32)) := V435
      have N435 := Fr.snoc X435 N432 g_b423
      refine own_go st435 ?_
      have sa436 := S_b423
      replace S_b423 := Safe.wr W435 sa436 CH S_b423
      replace CR := CR.trans (CHr.wr W435 sa436 CH)
      replace CH := CHv.wr W435 sa436 CH
      replace hk := Nat.le_trans hk (Keep.of_wr W435).1
      replace O0 := O0.wr W435 g_b423
      have K437 := K434.wr W435 (Or.inr sz_b423)
      refine own_go (fun _ kk_ => XS.dup X435.here hx rfl (hb hby at_62) rfl rfl kk_) ?_
      refine own_go (fun _ kk_ => XS.iconst X435.here hx rfl (hb hby at_63) kk_) ?_
      refine own_go (fun _ kk_ => XS.bipush X435.here hx rfl (hb hby at_64) kk_) ?_
      show own_Fin p.tables e below _ (T435.setTop (mkF m 66 #[.val (.int mode), .val (.int pos), .val (.int ch), .val (.int oth), .val (.int (mode &&& (7 : Int32))), .val (.int (1 : Int32)), .val (.int (ch &&& (255 : Int32))), .val (.int cz), .unset, .unset, .unset, .unset, .unset, .unset] [(.int (111 : Int32)), (.int (2 : Int32)), (.ref b423), (.ref b423)]))
      obtain ⟨T438, h438, X438, e438, W438, V438, st438⟩ := own_stC X435 hx hZ e435 V423 (by decide) (i := 2) rfl (Nat.le_of_ble_eq_true rfl) (g := (mkF m 66 #[.val (.int mode), .val (.int pos), .val (.int ch), .val (.int oth), .val (.int (mode &&& (7 : Int32))), .val (.int (1 : Int32)), .val (.int (ch &&& (255 : Int32))), .val (.int cz), .unset, .unset, .unset, .unset, .unset, .unset] [(.int (111 : Int32)), (.int (2 : Int32)), (.ref b423), (.ref b423)])) rfl rfl (hb hby at_66)
      replace V423 : Arv Z h438 b423 k423 .char (8 : Int32) [(.int (115 : Int32)), (.int (109 : Int32)), (.int (111 : Int32)), (.int (0 : Int32)), (.int (0 : Int32)), (.int (0 : Int32)), (.int (0 : Int32)), (.int (0 : Int32))] (.int (0 : Int32)) := V438
      have N438 := Fr.snoc X438 N435 g_b423
      refine own_go st438 ?_
      have sa439 := S_b423
      replace S_b423 := Safe.wr W438 sa439 CH S_b423
      replace CR := CR.trans (CHr.wr W438 sa439 CH)
      replace CH := CHv.wr W438 sa439 CH
      replace hk := Nat.le_trans hk (Keep.of_wr W438).1
      replace O0 := O0.wr W438 g_b423
      have K440 := K437.wr W438 (Or.inr sz_b423)
      refine own_go (fun _ kk_ => XS.dup X438.here hx rfl (hb hby at_67) rfl rfl kk_) ?_
      refine own_go (fun _ kk_ => XS.iconst X438.here hx rfl (hb hby at_68) kk_) ?_
      refine own_go (fun _ kk_ => XS.bipush X438.here hx rfl (hb hby at_69) kk_) ?_
      show own_Fin p.tables e below _ (T438.setTop (mkF m 71 #[.val (.int mode), .val (.int pos), .val (.int ch), .val (.int oth), .val (.int (mode &&& (7 : Int32))), .val (.int (1 : Int32)), .val (.int (ch &&& (255 : Int32))), .val (.int cz), .unset, .unset, .unset, .unset, .unset, .unset] [(.int (111 : Int32)), (.int (3 : Int32)), (.ref b423), (.ref b423)]))
      obtain ⟨T441, h441, X441, e441, W441, V441, st441⟩ := own_stC X438 hx hZ e438 V423 (by decide) (i := 3) rfl (Nat.le_of_ble_eq_true rfl) (g := (mkF m 71 #[.val (.int mode), .val (.int pos), .val (.int ch), .val (.int oth), .val (.int (mode &&& (7 : Int32))), .val (.int (1 : Int32)), .val (.int (ch &&& (255 : Int32))), .val (.int cz), .unset, .unset, .unset, .unset, .unset, .unset] [(.int (111 : Int32)), (.int (3 : Int32)), (.ref b423), (.ref b423)])) rfl rfl (hb hby at_71)
      replace V423 : Arv Z h441 b423 k423 .char (8 : Int32) [(.int (115 : Int32)), (.int (109 : Int32)), (.int (111 : Int32)), (.int (111 : Int32)), (.int (0 : Int32)), (.int (0 : Int32)), (.int (0 : Int32)), (.int (0 : Int32))] (.int (0 : Int32)) := V441
      have N441 := Fr.snoc X441 N438 g_b423
      refine own_go st441 ?_
      have sa442 := S_b423
      replace S_b423 := Safe.wr W441 sa442 CH S_b423
      replace CR := CR.trans (CHr.wr W441 sa442 CH)
      replace CH := CHv.wr W441 sa442 CH
      replace hk := Nat.le_trans hk (Keep.of_wr W441).1
      replace O0 := O0.wr W441 g_b423
      have K443 := K440.wr W441 (Or.inr sz_b423)
      refine own_go (fun _ kk_ => XS.dup X441.here hx rfl (hb hby at_72) rfl rfl kk_) ?_
      refine own_go (fun _ kk_ => XS.iconst X441.here hx rfl (hb hby at_73) kk_) ?_
      refine own_go (fun _ kk_ => XS.bipush X441.here hx rfl (hb hby at_74) kk_) ?_
      show own_Fin p.tables e below _ (T441.setTop (mkF m 76 #[.val (.int mode), .val (.int pos), .val (.int ch), .val (.int oth), .val (.int (mode &&& (7 : Int32))), .val (.int (1 : Int32)), .val (.int (ch &&& (255 : Int32))), .val (.int cz), .unset, .unset, .unset, .unset, .unset, .unset] [(.int (116 : Int32)), (.int (4 : Int32)), (.ref b423), (.ref b423)]))
      obtain ⟨T444, h444, X444, e444, W444, V444, st444⟩ := own_stC X441 hx hZ e441 V423 (by decide) (i := 4) rfl (Nat.le_of_ble_eq_true rfl) (g := (mkF m 76 #[.val (.int mode), .val (.int pos), .val (.int ch), .val (.int oth), .val (.int (mode &&& (7 : Int32))), .val (.int (1 : Int32)), .val (.int (ch &&& (255 : Int32))), .val (.int cz), .unset, .unset, .unset, .unset, .unset, .unset] [(.int (116 : Int32)), (.int (4 : Int32)), (.ref b423), (.ref b423)])) rfl rfl (hb hby at_76)
      replace V423 : Arv Z h444 b423 k423 .char (8 : Int32) [(.int (115 : Int32)), (.int (109 : Int32)), (.int (111 : Int32)), (.int (111 : Int32)), (.int (116 : Int32)), (.int (0 : Int32)), (.int (0 : Int32)), (.int (0 : Int32))] (.int (0 : Int32)) := V444
      have N444 := Fr.snoc X444 N441 g_b423
      refine own_go st444 ?_
      have sa445 := S_b423
      replace S_b423 := Safe.wr W444 sa445 CH S_b423
      replace CR := CR.trans (CHr.wr W444 sa445 CH)
      replace CH := CHv.wr W444 sa445 CH
      replace hk := Nat.le_trans hk (Keep.of_wr W444).1
      replace O0 := O0.wr W444 g_b423
      have K446 := K443.wr W444 (Or.inr sz_b423)
      refine own_go (fun _ kk_ => XS.dup X444.here hx rfl (hb hby at_77) rfl rfl kk_) ?_
      refine own_go (fun _ kk_ => XS.iconst X444.here hx rfl (hb hby at_78) kk_) ?_
      refine own_go (fun _ kk_ => XS.bipush X444.here hx rfl (hb hby at_79) kk_) ?_
      show own_Fin p.tables e below _ (T444.setTop (mkF m 81 #[.val (.int mode), .val (.int pos), .val (.int ch), .val (.int oth), .val (.int (mode &&& (7 : Int32))), .val (.int (1 : Int32)), .val (.int (ch &&& (255 : Int32))), .val (.int cz), .unset, .unset, .unset, .unset, .unset, .unset] [(.int (104 : Int32)), (.int (5 : Int32)), (.ref b423), (.ref b423)]))
      obtain ⟨T447, h447, X447, e447, W447, V447, st447⟩ := own_stC X444 hx hZ e444 V423 (by decide) (i := 5) rfl (Nat.le_of_ble_eq_true rfl) (g := (mkF m 81 #[.val (.int mode), .val (.int pos), .val (.int ch), .val (.int oth), .val (.int (mode &&& (7 : Int32))), .val (.int (1 : Int32)), .val (.int (ch &&& (255 : Int32))), .val (.int cz), .unset, .unset, .unset, .unset, .unset, .unset] [(.int (104 : Int32)), (.int (5 : Int32)), (.ref b423), (.ref b423)])) rfl rfl (hb hby at_81)
      replace V423 : Arv Z h447 b423 k423 .char (8 : Int32) [(.int (115 : Int32)), (.int (109 : Int32)), (.int (111 : Int32)), (.int (111 : Int32)), (.int (116 : Int32)), (.int (104 : Int32)), (.int (0 : Int32)), (.int (0 : Int32))] (.int (0 : Int32)) := V447
      have N447 := Fr.snoc X447 N444 g_b423
      refine own_go st447 ?_
      have sa448 := S_b423
      replace S_b423 := Safe.wr W447 sa448 CH S_b423
      replace CR := CR.trans (CHr.wr W447 sa448 CH)
      replace CH := CHv.wr W447 sa448 CH
      replace hk := Nat.le_trans hk (Keep.of_wr W447).1
      replace O0 := O0.wr W447 g_b423
      have K449 := K446.wr W447 (Or.inr sz_b423)
      refine own_go (fun _ kk_ => XS.dup X447.here hx rfl (hb hby at_82) rfl rfl kk_) ?_
      refine own_go (fun _ kk_ => XS.bipush X447.here hx rfl (hb hby at_83) kk_) ?_
      refine own_go (fun _ kk_ => XS.bipush X447.here hx rfl (hb hby at_85) kk_) ?_
      show own_Fin p.tables e below _ (T447.setTop (mkF m 87 #[.val (.int mode), .val (.int pos), .val (.int ch), .val (.int oth), .val (.int (mode &&& (7 : Int32))), .val (.int (1 : Int32)), .val (.int (ch &&& (255 : Int32))), .val (.int cz), .unset, .unset, .unset, .unset, .unset, .unset] [(.int (101 : Int32)), (.int (6 : Int32)), (.ref b423), (.ref b423)]))
      obtain ⟨T450, h450, X450, e450, W450, V450, st450⟩ := own_stC X447 hx hZ e447 V423 (by decide) (i := 6) rfl (Nat.le_of_ble_eq_true rfl) (g := (mkF m 87 #[.val (.int mode), .val (.int pos), .val (.int ch), .val (.int oth), .val (.int (mode &&& (7 : Int32))), .val (.int (1 : Int32)), .val (.int (ch &&& (255 : Int32))), .val (.int cz), .unset, .unset, .unset, .unset, .unset, .unset] [(.int (101 : Int32)), (.int (6 : Int32)), (.ref b423), (.ref b423)])) rfl rfl (hb hby at_87)
      replace V423 : Arv Z h450 b423 k423 .char (8 : Int32) [(.int (115 : Int32)), (.int (109 : Int32)), (.int (111 : Int32)), (.int (111 : Int32)), (.int (116 : Int32)), (.int (104 : Int32)), (.int (101 : Int32)), (.int (0 : Int32))] (.int (0 : Int32)) := V450
      have N450 := Fr.snoc X450 N447 g_b423
      refine own_go st450 ?_
      have sa451 := S_b423
      replace S_b423 := Safe.wr W450 sa451 CH S_b423
      replace CR := CR.trans (CHr.wr W450 sa451 CH)
      replace CH := CHv.wr W450 sa451 CH
      replace hk := Nat.le_trans hk (Keep.of_wr W450).1
      replace O0 := O0.wr W450 g_b423
      have K452 := K449.wr W450 (Or.inr sz_b423)
      refine own_go (fun _ kk_ => XS.dup X450.here hx rfl (hb hby at_88) rfl rfl kk_) ?_
      refine own_go (fun _ kk_ => XS.bipush X450.here hx rfl (hb hby at_89) kk_) ?_
      refine own_go (fun _ kk_ => XS.bipush X450.here hx rfl (hb hby at_91) kk_) ?_
      show own_Fin p.tables e below _ (T450.setTop (mkF m 93 #[.val (.int mode), .val (.int pos), .val (.int ch), .val (.int oth), .val (.int (mode &&& (7 : Int32))), .val (.int (1 : Int32)), .val (.int (ch &&& (255 : Int32))), .val (.int cz), .unset, .unset, .unset, .unset, .unset, .unset] [(.int (100 : Int32)), (.int (7 : Int32)), (.ref b423), (.ref b423)]))
      obtain ⟨T453, h453, X453, e453, W453, V453, st453⟩ := own_stC X450 hx hZ e450 V423 (by decide) (i := 7) rfl (Nat.le_of_ble_eq_true rfl) (g := (mkF m 93 #[.val (.int mode), .val (.int pos), .val (.int ch), .val (.int oth), .val (.int (mode &&& (7 : Int32))), .val (.int (1 : Int32)), .val (.int (ch &&& (255 : Int32))), .val (.int cz), .unset, .unset, .unset, .unset, .unset, .unset] [(.int (100 : Int32)), (.int (7 : Int32)), (.ref b423), (.ref b423)])) rfl rfl (hb hby at_93)
      replace V423 : Arv Z h453 b423 k423 .char (8 : Int32) [(.int (115 : Int32)), (.int (109 : Int32)), (.int (111 : Int32)), (.int (111 : Int32)), (.int (116 : Int32)), (.int (104 : Int32)), (.int (101 : Int32)), (.int (100 : Int32))] (.int (0 : Int32)) := V453
      have N453 := Fr.snoc X453 N450 g_b423
      refine own_go st453 ?_
      have sa454 := S_b423
      replace S_b423 := Safe.wr W453 sa454 CH S_b423
      replace CR := CR.trans (CHr.wr W453 sa454 CH)
      replace CH := CHv.wr W453 sa454 CH
      replace hk := Nat.le_trans hk (Keep.of_wr W453).1
      replace O0 := O0.wr W453 g_b423
      have K455 := K452.wr W453 (Or.inr sz_b423)
      refine own_go (fun _ kk_ => XS.goto X453.here hx rfl (pc0 := 94) (pc' := 155) rfl (hb hby at_94) (by decide) (by decide) kk_) ?_
      refine own_go (fun _ kk_ => XS.astore X453.here hx rfl (hb hby at_155) rfl rfl (l' := #[.val (.int mode), .val (.int pos), .val (.int ch), .val (.int oth), .val (.int (mode &&& (7 : Int32))), .val (.int (1 : Int32)), .val (.int (ch &&& (255 : Int32))), .val (.int cz), .val (.ref b423), .unset, .unset, .unset, .unset, .unset]) rfl kk_) ?_
      refine own_go (fun _ kk_ => XS.iload X453.here hx rfl (hb hby at_157) rfl kk_) ?_
      show own_Fin p.tables e below _ (T453.setTop (mkF m 159 #[.val (.int mode), .val (.int pos), .val (.int ch), .val (.int oth), .val (.int (mode &&& (7 : Int32))), .val (.int (1 : Int32)), .val (.int (ch &&& (255 : Int32))), .val (.int cz), .val (.ref b423), .unset, .unset, .unset, .unset, .unset] [(.int (1 : Int32))]))
      refine own_go (fun _ kk_ => XS.ifNo X453.here hx rfl (hb hby at_159) rfl ((if0 _ _).trans (feq (by decide : ¬ (1 : Int32) = (0 : Int32))).1) kk_) ?_
      show own_Fin p.tables e below _ (T453.setTop (mkF m 162 #[.val (.int mode), .val (.int pos), .val (.int ch), .val (.int oth), .val (.int (mode &&& (7 : Int32))), .val (.int (1 : Int32)), .val (.int (ch &&& (255 : Int32))), .val (.int cz), .val (.ref b423), .unset, .unset, .unset, .unset, .unset] []))
      obtain ⟨T456, X456, e456, st456⟩ := getS2 X453 hx hZ hown (host := "") (Or.inl (hw _ (List.mem_of_getElem? (i := 65) rfl))) Via.refl e453 (S_sa.ext O0.2) (g := (mkF m 162 #[.val (.int mode), .val (.int pos), .val (.int ch), .val (.int oth), .val (.int (mode &&& (7 : Int32))), .val (.int (1 : Int32)), .val (.int (ch &&& (255 : Int32))), .val (.int cz), .val (.ref b423), .unset, .unset, .unset, .unset, .unset] [])) rfl (hb hby at_162)
      refine own_go st456 ?_
      refine own_go (fun _ kk_ => XS.goto X456.here hx rfl (pc0 := 165) (pc' := 171) rfl (hb hby at_165) (by decide) (by decide) kk_) ?_
      refine own_go (fun _ kk_ => XS.astore X456.here hx rfl (hb hby at_171) rfl rfl (l' := #[.val (.int mode), .val (.int pos), .val (.int ch), .val (.int oth), .val (.int (mode &&& (7 : Int32))), .val (.int (1 : Int32)), .val (.int (ch &&& (255 : Int32))), .val (.int cz), .val (.ref b423), .val (.ref sa), .unset, .unset, .unset, .unset]) rfl kk_) ?_
      refine own_go (fun _ kk_ => XS.iloadN X456.here hx rfl (hb hby at_173) rfl kk_) ?_
      show own_Fin p.tables e below _ (T456.setTop (mkF m 174 #[.val (.int mode), .val (.int pos), .val (.int ch), .val (.int oth), .val (.int (mode &&& (7 : Int32))), .val (.int (1 : Int32)), .val (.int (ch &&& (255 : Int32))), .val (.int cz), .val (.ref b423), .val (.ref sa), .unset, .unset, .unset, .unset] [(.int pos)]))
      refine own_go (fun _ kk_ => Jvm.Stand.ldcI X456 hx hown (mvT hZ (hw _ (List.mem_of_getElem? (i := 4) rfl))) (g := (mkF m 174 #[.val (.int mode), .val (.int pos), .val (.int ch), .val (.int oth), .val (.int (mode &&& (7 : Int32))), .val (.int (1 : Int32)), .val (.int (ch &&& (255 : Int32))), .val (.int cz), .val (.ref b423), .val (.ref sa), .unset, .unset, .unset, .unset] [(.int pos)])) rfl (hb hby at_174) kk_) ?_
      show own_Fin p.tables e below _ (T456.setTop (mkF m 176 #[.val (.int mode), .val (.int pos), .val (.int ch), .val (.int oth), .val (.int (mode &&& (7 : Int32))), .val (.int (1 : Int32)), .val (.int (ch &&& (255 : Int32))), .val (.int cz), .val (.ref b423), .val (.ref sa), .unset, .unset, .unset, .unset] [(.int (2147483647 : Int32)), (.int pos)]))
      refine own_go (fun _ kk_ => XS.iand X456.here hx rfl (hb hby at_176) rfl kk_) ?_
      refine own_go (fun _ kk_ => XS.aload X456.here hx rfl (hb hby at_177) rfl rfl kk_) ?_
      show own_Fin p.tables e below _ (T456.setTop (mkF m 179 #[.val (.int mode), .val (.int pos), .val (.int ch), .val (.int oth), .val (.int (mode &&& (7 : Int32))), .val (.int (1 : Int32)), .val (.int (ch &&& (255 : Int32))), .val (.int cz), .val (.ref b423), .val (.ref sa), .unset, .unset, .unset, .unset] [(.ref b423), (.int (pos &&& (2147483647 : Int32)))]))
      refine own_go (fun _ kk_ => own_alen X456 hx hZ e456 V423 (g := (mkF m 179 #[.val (.int mode), .val (.int pos), .val (.int ch), .val (.int oth), .val (.int (mode &&& (7 : Int32))), .val (.int (1 : Int32)), .val (.int (ch &&& (255 : Int32))), .val (.int cz), .val (.ref b423), .val (.ref sa), .unset, .unset, .unset, .unset] [(.ref b423), (.int (pos &&& (2147483647 : Int32)))])) rfl rfl (hb hby at_179) _ kk_) ?_
      show own_Fin p.tables e below _ (T456.setTop (mkF m 180 #[.val (.int mode), .val (.int pos), .val (.int ch), .val (.int oth), .val (.int (mode &&& (7 : Int32))), .val (.int (1 : Int32)), .val (.int (ch &&& (255 : Int32))), .val (.int cz), .val (.ref b423), .val (.ref sa), .unset, .unset, .unset, .unset] [(.int (8 : Int32)), (.int (pos &&& (2147483647 : Int32)))]))
      refine own_go (fun _ kk_ => iremM X456 hx rfl  (hb hby at_180) rfl (by decide) kk_) ?_
      show own_Fin p.tables e below _ (T456.setTop (mkF m 181 #[.val (.int mode), .val (.int pos), .val (.int ch), .val (.int oth), .val (.int (mode &&& (7 : Int32))), .val (.int (1 : Int32)), .val (.int (ch &&& (255 : Int32))), .val (.int cz), .val (.ref b423), .val (.ref sa), .unset, .unset, .unset, .unset] [(.int ((pos &&& (2147483647 : Int32)) % (8 : Int32)))]))
      obtain ⟨pp, q_pp⟩ : ∃ z : Int32, z = ((pos &&& (2147483647 : Int32)) % (8 : Int32)) := ⟨_, rfl⟩
      rw [← q_pp]
      have hpp : ¬ pp < 0 ∧ pp < 8 := by rw [q_pp]; exact own_mod108 _
      have hpn : pp.toNatClampNeg < 8 := own_clampN hpp.1 hpp.2 rfl
      refine own_go (fun _ kk_ => XS.istore X456.here hx rfl (hb hby at_181) rfl (l' := #[.val (.int mode), .val (.int pos), .val (.int ch), .val (.int oth), .val (.int (mode &&& (7 : Int32))), .val (.int (1 : Int32)), .val (.int (ch &&& (255 : Int32))), .val (.int cz), .val (.ref b423), .val (.ref sa), .val (.int pp), .unset, .unset, .unset]) rfl kk_) ?_
      refine own_go (fun _ kk_ => XS.iload X456.here hx rfl (hb hby at_183) rfl kk_) ?_
      show own_Fin p.tables e below _ (T456.setTop (mkF m 185 #[.val (.int mode), .val (.int pos), .val (.int ch), .val (.int oth), .val (.int (mode &&& (7 : Int32))), .val (.int (1 : Int32)), .val (.int (ch &&& (255 : Int32))), .val (.int cz), .val (.ref b423), .val (.ref sa), .val (.int pp), .unset, .unset, .unset] [(.int (mode &&& (7 : Int32)))]))
      by_cases hc457 : (mode &&& (7 : Int32)) = (0 : Int32)
      · skip
        refine own_go (fun _ kk_ => XS.ifYes X456.here hx rfl (pc0 := 185) (pc' := 194) rfl (hb hby at_185) rfl ((if0 _ _).trans (teq hc457).1) (by decide) (by decide) kk_) ?_
        refine own_go (fun _ kk_ => XS.aload X456.here hx rfl (hb hby at_194) rfl rfl kk_) ?_
        refine own_go (fun _ kk_ => XS.iload X456.here hx rfl (hb hby at_196) rfl kk_) ?_
        show own_Fin p.tables e below _ (T456.setTop (mkF m 198 #[.val (.int mode), .val (.int pos), .val (.int ch), .val (.int oth), .val (.int (mode &&& (7 : Int32))), .val (.int (1 : Int32)), .val (.int (ch &&& (255 : Int32))), .val (.int cz), .val (.ref b423), .val (.ref sa), .val (.int pp), .unset, .unset, .unset] [(.int pp), (.ref b423)]))
        refine own_go (fun _ kk_ => own_caload X456 hx hZ e456 V423 hpp (v := (.int (([(115 : Int32), (109 : Int32), (111 : Int32), (111 : Int32), (116 : Int32), (104 : Int32), (101 : Int32), (100 : Int32)] : List Int32).getD pp.toNatClampNeg 0))) (own_getD ([(115 : Int32), (109 : Int32), (111 : Int32), (111 : Int32), (116 : Int32), (104 : Int32), (101 : Int32), (100 : Int32)] : List Int32) _) (g := (mkF m 198 #[.val (.int mode), .val (.int pos), .val (.int ch), .val (.int oth), .val (.int (mode &&& (7 : Int32))), .val (.int (1 : Int32)), .val (.int (ch &&& (255 : Int32))), .val (.int cz), .val (.ref b423), .val (.ref sa), .val (.int pp), .unset, .unset, .unset] [(.int pp), (.ref b423)])) rfl rfl (hb hby at_198) _ kk_) ?_
        refine own_go (fun _ kk_ => XS.istore X456.here hx rfl (hb hby at_199) rfl (l' := #[.val (.int mode), .val (.int pos), .val (.int ch), .val (.int oth), .val (.int (mode &&& (7 : Int32))), .val (.int (1 : Int32)), .val (.int (ch &&& (255 : Int32))), .val (.int cz), .val (.ref b423), .val (.ref sa), .val (.int pp), .unset, .unset, .val (.int (([(115 : Int32), (109 : Int32), (111 : Int32), (111 : Int32), (116 : Int32), (104 : Int32), (101 : Int32), (100 : Int32)] : List Int32).getD pp.toNatClampNeg 0))]) rfl kk_) ?_
        refine own_go (fun _ kk_ => XS.iload X456.here hx rfl (hb hby at_201) rfl kk_) ?_
        show own_Fin p.tables e below _ (T456.setTop (mkF m 203 #[.val (.int mode), .val (.int pos), .val (.int ch), .val (.int oth), .val (.int (mode &&& (7 : Int32))), .val (.int (1 : Int32)), .val (.int (ch &&& (255 : Int32))), .val (.int cz), .val (.ref b423), .val (.ref sa), .val (.int pp), .unset, .unset, .val (.int (([(115 : Int32), (109 : Int32), (111 : Int32), (111 : Int32), (116 : Int32), (104 : Int32), (101 : Int32), (100 : Int32)] : List Int32).getD pp.toNatClampNeg 0))] [(.int cz)]))
        by_cases hc458 : cz = (0 : Int32)
        · skip
          refine own_go (fun _ kk_ => XS.ifYes X456.here hx rfl (pc0 := 203) (pc' := 213) rfl (hb hby at_203) rfl ((if0 _ _).trans (teq hc458).1) (by decide) (by decide) kk_) ?_
          show own_Fin p.tables e below _ (T456.setTop (mkF m 213 #[.val (.int mode), .val (.int pos), .val (.int ch), .val (.int oth), .val (.int (mode &&& (7 : Int32))), .val (.int (1 : Int32)), .val (.int (ch &&& (255 : Int32))), .val (.int cz), .val (.ref b423), .val (.ref sa), .val (.int pp), .unset, .unset, .val (.int (([(115 : Int32), (109 : Int32), (111 : Int32), (111 : Int32), (116 : Int32), (104 : Int32), (101 : Int32), (100 : Int32)] : List Int32).getD pp.toNatClampNeg 0))] []))
          obtain ⟨T459, h459, X459, e459, E459, A459, D459, -, st459⟩ := newO X456 hx hZ hown (hw _ (List.mem_of_getElem? (i := 5) rfl)) (hw _ (List.mem_of_getElem? (i := 6) rfl)) (hw _ (List.mem_of_getElem? (i := 7) rfl)) e456 (g := (mkF m 213 #[.val (.int mode), .val (.int pos), .val (.int ch), .val (.int oth), .val (.int (mode &&& (7 : Int32))), .val (.int (1 : Int32)), .val (.int (ch &&& (255 : Int32))), .val (.int cz), .val (.ref b423), .val (.ref sa), .val (.int pp), .unset, .unset, .val (.int (([(115 : Int32), (109 : Int32), (111 : Int32), (111 : Int32), (116 : Int32), (104 : Int32), (101 : Int32), (100 : Int32)] : List Int32).getD pp.toNatClampNeg 0))] [])) rfl (hb hby at_213) (by decide) (by decide)
          obtain ⟨b459, g459⟩ : ∃ z, z = h453.size := ⟨_, rfl⟩
          rw [← g459] at A459 D459 st459
          have sz_b459 : h0.size ≤ b459 := Nat.le_trans K455.1 (Nat.le_of_eq g459.symm)
          have g_b459 : n0 ≤ b459 := Nat.le_trans Z0 sz_b459
          have ne460 : va ≠ b459 := O0.ne V_V.lt g_b459
          have ne461 : ia ≠ b459 := O0.ne F_i.lt g_b459
          have ne462 : sa ≠ b459 := O0.ne F_j.lt g_b459
          have ne463 : wi ≠ b459 := O0.ne S_i.lt g_b459
          have ne464 : ti ≠ b459 := O0.ne S_i.ltt g_b459
          have ne465 : wj ≠ b459 := O0.ne S_j.lt g_b459
          have ne466 : tj ≠ b459 := O0.ne S_j.ltt g_b459
          have ne467 : b423 ≠ b459 := Nat.ne_of_lt (Nat.lt_of_lt_of_le V423.lt (Nat.le_of_eq g459.symm))
          have S_b459 := Safe.new (Z := Z) (EL := consts_1) (vm := s.vm) (Nat.le_of_eq g459.symm)
          replace S_b423 := Safe.ext E459 CH S_b423
          replace S_b459 := Safe.ext E459 CH S_b459
          replace CR := CR.trans (CHr.ext E459 CH)
          replace CH := CH.ext E459
          replace hk := Nat.le_trans hk E459.1
          replace O0 := O0.ext E459
          replace V423 := V423.ext E459
          have K468 := K455.ext E459
          have F459_coder : Fld Z h459 b459 "java/lang/String" "coder" "B" (.int (0 : Int32)) := D459 (Or.inr (hw _ (List.mem_of_getElem? (i := 31) rfl))) (ty := .byte) (by decide)
          have F459_value : Fld Z h459 b459 "java/lang/String" "value" "[B" .null := D459 (Or.inr (hw _ (List.mem_of_getElem? (i := 33) rfl))) (ty := (.array .byte)) (by decide)
          refine own_go st459 ?_
          refine own_go (fun _ kk_ => XS.dup X459.here hx rfl (hb hby at_216) rfl rfl kk_) ?_
          refine own_go (fun _ kk_ => XS.aload X459.here hx rfl (hb hby at_217) rfl rfl kk_) ?_
          show own_Fin p.tables e below _ (T459.setTop (mkF m 219 #[.val (.int mode), .val (.int pos), .val (.int ch), .val (.int oth), .val (.int (mode &&& (7 : Int32))), .val (.int (1 : Int32)), .val (.int (ch &&& (255 : Int32))), .val (.int cz), .val (.ref b423), .val (.ref sa), .val (.int pp), .unset, .unset, .val (.int (([(115 : Int32), (109 : Int32), (111 : Int32), (111 : Int32), (116 : Int32), (104 : Int32), (101 : Int32), (100 : Int32)] : List Int32).getD pp.toNatClampNeg 0))] [(.ref b423), (.ref b459), (.ref b459)]))
          have hp470 : ∀ c ∈ ([(115 : Int32), (109 : Int32), (111 : Int32), (111 : Int32), (116 : Int32), (104 : Int32), (101 : Int32), (100 : Int32)] : List Int32), ¬ c < 0 ∧ ¬ (255 : Int32) < c := by
            intro c hc
            simp only [List.mem_cons, List.not_mem_nil, or_false] at hc
            rcases hc with rfl | rfl | rfl | rfl | rfl | rfl | rfl | rfl
            · exact by decide
            · exact by decide
            · exact by decide
            · exact by decide
            · exact by decide
            · exact by decide
            · exact by decide
            · exact by decide
          obtain ⟨_, _, ⟨T469, L469, k469, n469⟩, -, X469, ⟨Lc469, hQ469, l469, y469, z469⟩, st469⟩ := X459.specialBack hx (y := (⟨"java/lang/String", "<init>", "([C)V"⟩ : MethodName)) rfl hown (mvT hZ (hw _ (List.mem_of_getElem? (i := 8) rfl))) (mvT hZ (hw _ (List.mem_of_getElem? (i := 9) rfl))) (mvT hZ (hw _ (List.mem_of_getElem? (i := 10) rfl))) (by decide) (StrChars.Road.backV (W := 1) hZ hws (kI := 4) (hw _ (List.mem_of_getElem? (i := 6) rfl)) (cs := ([(115 : Int32), (109 : Int32), (111 : Int32), (111 : Int32), (116 : Int32), (104 : Int32), (101 : Int32), (100 : Int32)] : List Int32)) (bs := (([(115 : Int32), (109 : Int32), (111 : Int32), (111 : Int32), (116 : Int32), (104 : Int32), (101 : Int32), (100 : Int32)] : List Int32)).map (fun c => c.toInt8.toInt32)) (n := 8) g_b459 (Nat.le_trans Z0 K468.1) A459 F459_value F459_coder V423 (S_C.ext O0.2) hcs rfl rfl (by decide) (by decide) hp470 rfl (by decide) (by decide)) (g := (mkF m 219 #[.val (.int mode), .val (.int pos), .val (.int ch), .val (.int oth), .val (.int (mode &&& (7 : Int32))), .val (.int (1 : Int32)), .val (.int (ch &&& (255 : Int32))), .val (.int cz), .val (.ref b423), .val (.ref sa), .val (.int pp), .unset, .unset, .val (.int (([(115 : Int32), (109 : Int32), (111 : Int32), (111 : Int32), (116 : Int32), (104 : Int32), (101 : Int32), (100 : Int32)] : List Int32).getD pp.toNatClampNeg 0))] [(.ref b423), (.ref b459), (.ref b459)])) rfl (by rw [hml]; rfl) (Steps.refl _) (a := b459) (argsL := [(.ref b423)]) (rest := [(.ref b459)]) (lenOf pd_5 rfl) rfl (by show 2 * 0 + _ ≤ _; exact Nat.le_of_eq rfl) (hb hby at_219) (fun _ _ => ⟨rfl, e459, (by decide : 2 + 1 ≤ _), (by decide : 12 + 8 ≤ _)⟩)
          dsimp only [Pt.U, Pt.locs, Pt.cells, Pt.slots] at X469 l469 y469 z469 st469 hQ469
          subst l469 y469 z469
          obtain ⟨rfl, N469q, KK469, EE469, FC469, t469, kb469, gt469, szt469, netx469, FV469, VV469⟩ := hQ469
          have N469 := Fr.app N453 N469q
          have SS469 : own_Str Z T469.heap b459 t469 ([(115 : Int32), (109 : Int32), (111 : Int32), (111 : Int32), (116 : Int32), (104 : Int32), (101 : Int32), (100 : Int32)] : List Int32) := ⟨_, _, _, _, EE469, FV469, FC469, VV469, StrChars.Road.codOf (n := 8) rfl (fun c hc => (hp470 c hc).2), own_up _ hp470, Nat.le_of_ble_eq_true rfl⟩
          have sz_t469 : h0.size ≤ t469 := Nat.le_trans K468.1 szt469
          have ne471 : va ≠ t469 := O0.ne V_V.lt gt469
          have ne472 : ia ≠ t469 := O0.ne F_i.lt gt469
          have ne473 : sa ≠ t469 := O0.ne F_j.lt gt469
          have ne474 : wi ≠ t469 := O0.ne S_i.lt gt469
          have ne475 : ti ≠ t469 := O0.ne S_i.ltt gt469
          have ne476 : wj ≠ t469 := O0.ne S_j.lt gt469
          have ne477 : tj ≠ t469 := O0.ne S_j.ltt gt469
          have ne478 : b423 ≠ t469 := Nat.ne_of_lt (Nat.lt_of_lt_of_le V423.lt szt469)
          have ne479 : b459 ≠ t469 := Nat.ne_of_lt (Nat.lt_of_lt_of_le A459.lt szt469)
          have S_t469 := Safe.new (Z := Z) (EL := consts_1) (vm := s.vm) szt469
          have hs480 : ∀ x ∈ [b459], Safe Z consts_1 s.vm h459 x := (sfS S_b459 sf0)
          replace S_b423 := Safe.keep KK469 hs480 CH S_b423
          replace S_b459 := Safe.keep KK469 hs480 CH S_b459
          replace S_t469 := Safe.keep KK469 hs480 CH S_t469
          replace CR := CR.trans (CHr.keep KK469 hs480 CH)
          replace CH := CHv.keep KK469 hs480 CH
          replace hk := Nat.le_trans hk KK469.1
          replace O0 := O0.keep KK469 (allS g_b459 (all0))
          replace V423 := V423.keep KK469 (ninS ne467 nin0)
          replace A459 := A459.keep KK469
          have K481 := K468.trans KK469 (allS (Or.inr sz_b459) all0)
          refine own_go (fun _ kk_ => st469.trans kk_) ?_
          refine own_go (fun _ kk_ => XS.astore X469.here hx rfl (hb hby at_222) rfl rfl (l' := #[.val (.int mode), .val (.int pos), .val (.int ch), .val (.int oth), .val (.int (mode &&& (7 : Int32))), .val (.int (1 : Int32)), .val (.int (ch &&& (255 : Int32))), .val (.int cz), .val (.ref b423), .val (.ref sa), .val (.int pp), .val (.ref b459), .unset, .val (.int (([(115 : Int32), (109 : Int32), (111 : Int32), (111 : Int32), (116 : Int32), (104 : Int32), (101 : Int32), (100 : Int32)] : List Int32).getD pp.toNatClampNeg 0))]) rfl kk_) ?_
          refine own_go (fun _ kk_ => XS.iload X469.here hx rfl (hb hby at_224) rfl kk_) ?_
          show own_Fin p.tables e below _ (T469.setTop (mkF m 226 #[.val (.int mode), .val (.int pos), .val (.int ch), .val (.int oth), .val (.int (mode &&& (7 : Int32))), .val (.int (1 : Int32)), .val (.int (ch &&& (255 : Int32))), .val (.int cz), .val (.ref b423), .val (.ref sa), .val (.int pp), .val (.ref b459), .unset, .val (.int (([(115 : Int32), (109 : Int32), (111 : Int32), (111 : Int32), (116 : Int32), (104 : Int32), (101 : Int32), (100 : Int32)] : List Int32).getD pp.toNatClampNeg 0))] [(.int cz)]))
          refine own_go (fun _ kk_ => XS.ifYes X469.here hx rfl (pc0 := 226) (pc' := 236) rfl (hb hby at_226) rfl ((if0 _ _).trans (teq hc458).1) (by decide) (by decide) kk_) ?_
          refine own_go (fun _ kk_ => XS.aload X469.here hx rfl (hb hby at_236) rfl rfl kk_) ?_
          refine own_go (fun _ kk_ => XS.goto X469.here hx rfl (pc0 := 238) (pc' := 242) rfl (hb hby at_238) (by decide) (by decide) kk_) ?_
          refine own_go (fun _ kk_ => XS.astore X469.here hx rfl (hb hby at_242) rfl rfl (l' := #[.val (.int mode), .val (.int pos), .val (.int ch), .val (.int oth), .val (.int (mode &&& (7 : Int32))), .val (.int (1 : Int32)), .val (.int (ch &&& (255 : Int32))), .val (.int cz), .val (.ref b423), .val (.ref sa), .val (.int pp), .val (.ref b459), .val (.ref sa), .val (.int (([(115 : Int32), (109 : Int32), (111 : Int32), (111 : Int32), (116 : Int32), (104 : Int32), (101 : Int32), (100 : Int32)] : List Int32).getD pp.toNatClampNeg 0))]) rfl kk_) ?_
          refine own_go (fun _ kk_ => XS.goto X469.here hx rfl (pc0 := 244) (pc' := 651) rfl (hb hby at_244) (by decide) (by decide) kk_) ?_
          refine own_go (fun _ kk_ => XS.aload X469.here hx rfl (hb hby at_651) rfl rfl kk_) ?_
          show own_Fin p.tables e below _ (T469.setTop (mkF m 653 #[.val (.int mode), .val (.int pos), .val (.int ch), .val (.int oth), .val (.int (mode &&& (7 : Int32))), .val (.int (1 : Int32)), .val (.int (ch &&& (255 : Int32))), .val (.int cz), .val (.ref b423), .val (.ref sa), .val (.int pp), .val (.ref b459), .val (.ref sa), .val (.int (([(115 : Int32), (109 : Int32), (111 : Int32), (111 : Int32), (116 : Int32), (104 : Int32), (101 : Int32), (100 : Int32)] : List Int32).getD pp.toNatClampNeg 0))] [(.ref b459)]))
          obtain ⟨_, _, ⟨T482, L482, k482, n482⟩, -, X482, ⟨Lc482, hQ482, l482, y482, z482⟩, st482⟩ := Jvm.LawKit.callS X469 hx (y := (⟨"com/example/hebelwerk/hebelwerk/model/DividendMethod", "written", "(Ljava/lang/String;)Lcom/example/hebelwerk/hebelwerk/model/DividendMethod;"⟩ : MethodName)) hown (mvT hZ (hw _ (List.mem_of_getElem? (i := 34) rfl))) (mvT hZ (hw _ (List.mem_of_getElem? (i := 35) rfl))) (mvT hZ (hw _ (List.mem_of_getElem? (i := 2) rfl))) (mvT hZ (hw _ (List.mem_of_getElem? (i := 36) rfl))) (by decide) (backOf (W := 0) (rm_wrS l Z a0 hw [] b459 t469 ([(115 : Int32), (109 : Int32), (111 : Int32), (111 : Int32), (116 : Int32), (104 : Int32), (101 : Int32), (100 : Int32)] : List Int32) va vk ia sa wi ti wj tj gc T469.heap n0 (Nat.le_trans Z0 K481.1) SS469 S_V V_V E_V F_i F_j S_i S_j S_C hcs O0) hZ (hw _ (List.mem_of_getElem? (i := 36) rfl)) (hw _ (List.mem_of_getElem? (i := 2) rfl)) (by decide) (by decide)) (g := (mkF m 653 #[.val (.int mode), .val (.int pos), .val (.int ch), .val (.int oth), .val (.int (mode &&& (7 : Int32))), .val (.int (1 : Int32)), .val (.int (ch &&& (255 : Int32))), .val (.int cz), .val (.ref b423), .val (.ref sa), .val (.int pp), .val (.ref b459), .val (.ref sa), .val (.int (([(115 : Int32), (109 : Int32), (111 : Int32), (111 : Int32), (116 : Int32), (104 : Int32), (101 : Int32), (100 : Int32)] : List Int32).getD pp.toNatClampNeg 0))] [(.ref b459)])) rfl (by rw [hml]; rfl) (argsL := [(.ref b459)]) (rest := []) (lenOf pd_6 rfl) rfl (by show 2 * 0 + _ ≤ _; exact Nat.le_of_eq rfl) (hb hby at_653) (fun _ _ => ⟨rfl, rfl, (by decide : 3 + 1 ≤ _), (by decide : 20 + 2 ≤ _)⟩)
          dsimp only [Pt.U, Pt.locs, Pt.cells, Pt.slots] at X482 l482 y482 z482 st482 hQ482
          subst l482 y482 z482
          obtain ⟨N482q, KK482, y1_482, y2_482, y3_482⟩ := hQ482
          obtain rfl := y2_482 (by decide) rfl
          have N482 := Fr.app N469 N482q
          have hs483 : ∀ x ∈ [], Safe Z consts_1 s.vm T469.heap x := sf0
          replace S_b423 := Safe.keep KK482 hs483 CH S_b423
          replace S_b459 := Safe.keep KK482 hs483 CH S_b459
          replace S_t469 := Safe.keep KK482 hs483 CH S_t469
          replace CR := CR.trans (CHr.keep KK482 hs483 CH)
          replace CH := CHv.keep KK482 hs483 CH
          replace hk := Nat.le_trans hk KK482.1
          replace O0 := O0.keep KK482 all0
          replace V423 := V423.keep KK482 nin0
          replace SS469 := SS469.keep KK482 nin0 nin0
          have K484 := K481.trans KK482 all0
          refine own_go st482 ?_
          refine own_go (fun _ kk_ => XS.aload X482.here hx rfl (hb hby at_656) rfl rfl kk_) ?_
          show own_Fin p.tables e below _ (T482.setTop (mkF m 658 #[.val (.int mode), .val (.int pos), .val (.int ch), .val (.int oth), .val (.int (mode &&& (7 : Int32))), .val (.int (1 : Int32)), .val (.int (ch &&& (255 : Int32))), .val (.int cz), .val (.ref b423), .val (.ref sa), .val (.int pp), .val (.ref b459), .val (.ref sa), .val (.int (([(115 : Int32), (109 : Int32), (111 : Int32), (111 : Int32), (116 : Int32), (104 : Int32), (101 : Int32), (100 : Int32)] : List Int32).getD pp.toNatClampNeg 0))] [(.ref sa), (.ref sa)]))
          refine own_go (fun _ kk_ => acmp (g := (mkF m 658 #[.val (.int mode), .val (.int pos), .val (.int ch), .val (.int oth), .val (.int (mode &&& (7 : Int32))), .val (.int (1 : Int32)), .val (.int (ch &&& (255 : Int32))), .val (.int cz), .val (.ref b423), .val (.ref sa), .val (.int pp), .val (.ref b459), .val (.ref sa), .val (.int (([(115 : Int32), (109 : Int32), (111 : Int32), (111 : Int32), (116 : Int32), (104 : Int32), (101 : Int32), (100 : Int32)] : List Int32).getD pp.toNatClampNeg 0))] [(.ref sa), (.ref sa)])) X482 hx rfl rfl rfl (pc0 := 658) (pc' := 661) (same := true) rfl (hb hby at_658) rfl (by simp) (by decide) (by decide) kk_) ?_
          refine own_go (fun _ kk_ => XS.iconst X482.here hx rfl (hb hby at_661) kk_) ?_
          refine own_go (fun _ kk_ => XS.goto X482.here hx rfl (pc0 := 662) (pc' := 666) rfl (hb hby at_662) (by decide) (by decide) kk_) ?_
          show own_Fin p.tables e below _ (T482.setTop (mkF m 666 #[.val (.int mode), .val (.int pos), .val (.int ch), .val (.int oth), .val (.int (mode &&& (7 : Int32))), .val (.int (1 : Int32)), .val (.int (ch &&& (255 : Int32))), .val (.int cz), .val (.ref b423), .val (.ref sa), .val (.int pp), .val (.ref b459), .val (.ref sa), .val (.int (([(115 : Int32), (109 : Int32), (111 : Int32), (111 : Int32), (116 : Int32), (104 : Int32), (101 : Int32), (100 : Int32)] : List Int32).getD pp.toNatClampNeg 0))] [(.int (1 : Int32))]))
          have CRz : CHr Z consts_1 s.vm s.heap T482.vm T482.heap := by
            rw [hh]
            exact CR.trans (CHv.at X482 hZ hEL CH)
          refine own_retW X482 hx Bd hS hk (t := .boolean) Bd.returns rfl (Or.inl ⟨rfl, by simp, _, rfl⟩) (hb hby at_666) CRz ?_ (by decide) (by decide)
          show (Q_rm_law Z mode pos ch oth va vk ia sa wi ti wj tj gc h0 n0) (some (.int (1 : Int32))) T482.heap _
          exact ⟨rfl, N482⟩
        · skip
          refine own_go (fun _ kk_ => XS.ifNo X456.here hx rfl (hb hby at_203) rfl ((if0 _ _).trans (feq hc458).1) kk_) ?_
          refine own_go (fun _ kk_ => XS.aload X456.here hx rfl (hb hby at_206) rfl rfl kk_) ?_
          refine own_go (fun _ kk_ => XS.iload X456.here hx rfl (hb hby at_208) rfl kk_) ?_
          refine own_go (fun _ kk_ => XS.iload X456.here hx rfl (hb hby at_210) rfl kk_) ?_
          show own_Fin p.tables e below _ (T456.setTop (mkF m 212 #[.val (.int mode), .val (.int pos), .val (.int ch), .val (.int oth), .val (.int (mode &&& (7 : Int32))), .val (.int (1 : Int32)), .val (.int (ch &&& (255 : Int32))), .val (.int cz), .val (.ref b423), .val (.ref sa), .val (.int pp), .unset, .unset, .val (.int (([(115 : Int32), (109 : Int32), (111 : Int32), (111 : Int32), (116 : Int32), (104 : Int32), (101 : Int32), (100 : Int32)] : List Int32).getD pp.toNatClampNeg 0))] [(.int (ch &&& (255 : Int32))), (.int pp), (.ref b423)]))
          obtain ⟨T485, h485, X485, e485, W485, V485, st485⟩ := own_stC X456 hx hZ e456 V423 hpp (i := pp.toNatClampNeg) rfl hpn (g := (mkF m 212 #[.val (.int mode), .val (.int pos), .val (.int ch), .val (.int oth), .val (.int (mode &&& (7 : Int32))), .val (.int (1 : Int32)), .val (.int (ch &&& (255 : Int32))), .val (.int cz), .val (.ref b423), .val (.ref sa), .val (.int pp), .unset, .unset, .val (.int (([(115 : Int32), (109 : Int32), (111 : Int32), (111 : Int32), (116 : Int32), (104 : Int32), (101 : Int32), (100 : Int32)] : List Int32).getD pp.toNatClampNeg 0))] [(.int (ch &&& (255 : Int32))), (.int pp), (.ref b423)])) rfl rfl (hb hby at_212)
          rw [own_nar255] at V485
          replace V423 : Arv Z h485 b423 k423 .char (8 : Int32) ([(.int (115 : Int32)), (.int (109 : Int32)), (.int (111 : Int32)), (.int (111 : Int32)), (.int (116 : Int32)), (.int (104 : Int32)), (.int (101 : Int32)), (.int (100 : Int32))].set pp.toNatClampNeg (.int (ch &&& (255 : Int32)))) (.int (0 : Int32)) := V485
          have N485 := Fr.snoc X485 N453 g_b423
          refine own_go st485 ?_
          have sa486 := S_b423
          replace S_b423 := Safe.wr W485 sa486 CH S_b423
          replace CR := CR.trans (CHr.wr W485 sa486 CH)
          replace CH := CHv.wr W485 sa486 CH
          replace hk := Nat.le_trans hk (Keep.of_wr W485).1
          replace O0 := O0.wr W485 g_b423
          have K487 := K455.wr W485 (Or.inr sz_b423)
          replace V423 : Arv Z h485 b423 k423 .char (8 : Int32) ((([(115 : Int32), (109 : Int32), (111 : Int32), (111 : Int32), (116 : Int32), (104 : Int32), (101 : Int32), (100 : Int32)] : List Int32).set pp.toNatClampNeg (ch &&& (255 : Int32))).map Value.int) (.int (0 : Int32)) := by rw [List.map_set]; exact V423
          show own_Fin p.tables e below _ (T485.setTop (mkF m 213 #[.val (.int mode), .val (.int pos), .val (.int ch), .val (.int oth), .val (.int (mode &&& (7 : Int32))), .val (.int (1 : Int32)), .val (.int (ch &&& (255 : Int32))), .val (.int cz), .val (.ref b423), .val (.ref sa), .val (.int pp), .unset, .unset, .val (.int (([(115 : Int32), (109 : Int32), (111 : Int32), (111 : Int32), (116 : Int32), (104 : Int32), (101 : Int32), (100 : Int32)] : List Int32).getD pp.toNatClampNeg 0))] []))
          obtain ⟨T488, h488, X488, e488, E488, A488, D488, -, st488⟩ := newO X485 hx hZ hown (hw _ (List.mem_of_getElem? (i := 5) rfl)) (hw _ (List.mem_of_getElem? (i := 6) rfl)) (hw _ (List.mem_of_getElem? (i := 7) rfl)) e485 (g := (mkF m 213 #[.val (.int mode), .val (.int pos), .val (.int ch), .val (.int oth), .val (.int (mode &&& (7 : Int32))), .val (.int (1 : Int32)), .val (.int (ch &&& (255 : Int32))), .val (.int cz), .val (.ref b423), .val (.ref sa), .val (.int pp), .unset, .unset, .val (.int (([(115 : Int32), (109 : Int32), (111 : Int32), (111 : Int32), (116 : Int32), (104 : Int32), (101 : Int32), (100 : Int32)] : List Int32).getD pp.toNatClampNeg 0))] [])) rfl (hb hby at_213) (by decide) (by decide)
          obtain ⟨b488, g488⟩ : ∃ z, z = h485.size := ⟨_, rfl⟩
          rw [← g488] at A488 D488 st488
          have sz_b488 : h0.size ≤ b488 := Nat.le_trans K487.1 (Nat.le_of_eq g488.symm)
          have g_b488 : n0 ≤ b488 := Nat.le_trans Z0 sz_b488
          have ne489 : va ≠ b488 := O0.ne V_V.lt g_b488
          have ne490 : ia ≠ b488 := O0.ne F_i.lt g_b488
          have ne491 : sa ≠ b488 := O0.ne F_j.lt g_b488
          have ne492 : wi ≠ b488 := O0.ne S_i.lt g_b488
          have ne493 : ti ≠ b488 := O0.ne S_i.ltt g_b488
          have ne494 : wj ≠ b488 := O0.ne S_j.lt g_b488
          have ne495 : tj ≠ b488 := O0.ne S_j.ltt g_b488
          have ne496 : b423 ≠ b488 := Nat.ne_of_lt (Nat.lt_of_lt_of_le V423.lt (Nat.le_of_eq g488.symm))
          have S_b488 := Safe.new (Z := Z) (EL := consts_1) (vm := s.vm) (Nat.le_of_eq g488.symm)
          replace S_b423 := Safe.ext E488 CH S_b423
          replace S_b488 := Safe.ext E488 CH S_b488
          replace CR := CR.trans (CHr.ext E488 CH)
          replace CH := CH.ext E488
          replace hk := Nat.le_trans hk E488.1
          replace O0 := O0.ext E488
          replace V423 := V423.ext E488
          have K497 := K487.ext E488
          have F488_coder : Fld Z h488 b488 "java/lang/String" "coder" "B" (.int (0 : Int32)) := D488 (Or.inr (hw _ (List.mem_of_getElem? (i := 31) rfl))) (ty := .byte) (by decide)
          have F488_value : Fld Z h488 b488 "java/lang/String" "value" "[B" .null := D488 (Or.inr (hw _ (List.mem_of_getElem? (i := 33) rfl))) (ty := (.array .byte)) (by decide)
          refine own_go st488 ?_
          refine own_go (fun _ kk_ => XS.dup X488.here hx rfl (hb hby at_216) rfl rfl kk_) ?_
          refine own_go (fun _ kk_ => XS.aload X488.here hx rfl (hb hby at_217) rfl rfl kk_) ?_
          show own_Fin p.tables e below _ (T488.setTop (mkF m 219 #[.val (.int mode), .val (.int pos), .val (.int ch), .val (.int oth), .val (.int (mode &&& (7 : Int32))), .val (.int (1 : Int32)), .val (.int (ch &&& (255 : Int32))), .val (.int cz), .val (.ref b423), .val (.ref sa), .val (.int pp), .unset, .unset, .val (.int (([(115 : Int32), (109 : Int32), (111 : Int32), (111 : Int32), (116 : Int32), (104 : Int32), (101 : Int32), (100 : Int32)] : List Int32).getD pp.toNatClampNeg 0))] [(.ref b423), (.ref b488), (.ref b488)]))
          have hp499 : ∀ c ∈ (([(115 : Int32), (109 : Int32), (111 : Int32), (111 : Int32), (116 : Int32), (104 : Int32), (101 : Int32), (100 : Int32)] : List Int32).set pp.toNatClampNeg (ch &&& (255 : Int32))), ¬ c < 0 ∧ ¬ (255 : Int32) < c := own_set255 (by decide) (own_and255 _)
          obtain ⟨_, _, ⟨T498, L498, k498, n498⟩, -, X498, ⟨Lc498, hQ498, l498, y498, z498⟩, st498⟩ := X488.specialBack hx (y := (⟨"java/lang/String", "<init>", "([C)V"⟩ : MethodName)) rfl hown (mvT hZ (hw _ (List.mem_of_getElem? (i := 8) rfl))) (mvT hZ (hw _ (List.mem_of_getElem? (i := 9) rfl))) (mvT hZ (hw _ (List.mem_of_getElem? (i := 10) rfl))) (by decide) (StrChars.Road.backV (W := 1) hZ hws (kI := 4) (hw _ (List.mem_of_getElem? (i := 6) rfl)) (cs := (([(115 : Int32), (109 : Int32), (111 : Int32), (111 : Int32), (116 : Int32), (104 : Int32), (101 : Int32), (100 : Int32)] : List Int32).set pp.toNatClampNeg (ch &&& (255 : Int32)))) (bs := ((([(115 : Int32), (109 : Int32), (111 : Int32), (111 : Int32), (116 : Int32), (104 : Int32), (101 : Int32), (100 : Int32)] : List Int32).set pp.toNatClampNeg (ch &&& (255 : Int32)))).map (fun c => c.toInt8.toInt32)) (n := 8) g_b488 (Nat.le_trans Z0 K497.1) A488 F488_value F488_coder V423 (S_C.ext O0.2) hcs (by simp) rfl (by decide) (by decide) hp499 rfl (by decide) (by decide)) (g := (mkF m 219 #[.val (.int mode), .val (.int pos), .val (.int ch), .val (.int oth), .val (.int (mode &&& (7 : Int32))), .val (.int (1 : Int32)), .val (.int (ch &&& (255 : Int32))), .val (.int cz), .val (.ref b423), .val (.ref sa), .val (.int pp), .unset, .unset, .val (.int (([(115 : Int32), (109 : Int32), (111 : Int32), (111 : Int32), (116 : Int32), (104 : Int32), (101 : Int32), (100 : Int32)] : List Int32).getD pp.toNatClampNeg 0))] [(.ref b423), (.ref b488), (.ref b488)])) rfl (by rw [hml]; rfl) (Steps.refl _) (a := b488) (argsL := [(.ref b423)]) (rest := [(.ref b488)]) (lenOf pd_5 rfl) rfl (by show 2 * 0 + _ ≤ _; exact Nat.le_of_eq rfl) (hb hby at_219) (fun _ _ => ⟨rfl, e488, (by decide : 2 + 1 ≤ _), (by decide : 12 + 8 ≤ _)⟩)
          dsimp only [Pt.U, Pt.locs, Pt.cells, Pt.slots] at X498 l498 y498 z498 st498 hQ498
          subst l498 y498 z498
          obtain ⟨rfl, N498q, KK498, EE498, FC498, t498, kb498, gt498, szt498, netx498, FV498, VV498⟩ := hQ498
          have N498 := Fr.app N485 N498q
          have SS498 : own_Str Z T498.heap b488 t498 (([(115 : Int32), (109 : Int32), (111 : Int32), (111 : Int32), (116 : Int32), (104 : Int32), (101 : Int32), (100 : Int32)] : List Int32).set pp.toNatClampNeg (ch &&& (255 : Int32))) := ⟨_, _, _, _, EE498, FV498, FC498, VV498, StrChars.Road.codOf (n := 8) (by simp) (fun c hc => (hp499 c hc).2), own_up _ hp499, by simp⟩
          have sz_t498 : h0.size ≤ t498 := Nat.le_trans K497.1 szt498
          have ne500 : va ≠ t498 := O0.ne V_V.lt gt498
          have ne501 : ia ≠ t498 := O0.ne F_i.lt gt498
          have ne502 : sa ≠ t498 := O0.ne F_j.lt gt498
          have ne503 : wi ≠ t498 := O0.ne S_i.lt gt498
          have ne504 : ti ≠ t498 := O0.ne S_i.ltt gt498
          have ne505 : wj ≠ t498 := O0.ne S_j.lt gt498
          have ne506 : tj ≠ t498 := O0.ne S_j.ltt gt498
          have ne507 : b423 ≠ t498 := Nat.ne_of_lt (Nat.lt_of_lt_of_le V423.lt szt498)
          have ne508 : b488 ≠ t498 := Nat.ne_of_lt (Nat.lt_of_lt_of_le A488.lt szt498)
          have S_t498 := Safe.new (Z := Z) (EL := consts_1) (vm := s.vm) szt498
          have hs509 : ∀ x ∈ [b488], Safe Z consts_1 s.vm h488 x := (sfS S_b488 sf0)
          replace S_b423 := Safe.keep KK498 hs509 CH S_b423
          replace S_b488 := Safe.keep KK498 hs509 CH S_b488
          replace S_t498 := Safe.keep KK498 hs509 CH S_t498
          replace CR := CR.trans (CHr.keep KK498 hs509 CH)
          replace CH := CHv.keep KK498 hs509 CH
          replace hk := Nat.le_trans hk KK498.1
          replace O0 := O0.keep KK498 (allS g_b488 (all0))
          replace V423 := V423.keep KK498 (ninS ne496 nin0)
          replace A488 := A488.keep KK498
          have K510 := K497.trans KK498 (allS (Or.inr sz_b488) all0)
          refine own_go (fun _ kk_ => st498.trans kk_) ?_
          refine own_go (fun _ kk_ => XS.astore X498.here hx rfl (hb hby at_222) rfl rfl (l' := #[.val (.int mode), .val (.int pos), .val (.int ch), .val (.int oth), .val (.int (mode &&& (7 : Int32))), .val (.int (1 : Int32)), .val (.int (ch &&& (255 : Int32))), .val (.int cz), .val (.ref b423), .val (.ref sa), .val (.int pp), .val (.ref b488), .unset, .val (.int (([(115 : Int32), (109 : Int32), (111 : Int32), (111 : Int32), (116 : Int32), (104 : Int32), (101 : Int32), (100 : Int32)] : List Int32).getD pp.toNatClampNeg 0))]) rfl kk_) ?_
          refine own_go (fun _ kk_ => XS.iload X498.here hx rfl (hb hby at_224) rfl kk_) ?_
          show own_Fin p.tables e below _ (T498.setTop (mkF m 226 #[.val (.int mode), .val (.int pos), .val (.int ch), .val (.int oth), .val (.int (mode &&& (7 : Int32))), .val (.int (1 : Int32)), .val (.int (ch &&& (255 : Int32))), .val (.int cz), .val (.ref b423), .val (.ref sa), .val (.int pp), .val (.ref b488), .unset, .val (.int (([(115 : Int32), (109 : Int32), (111 : Int32), (111 : Int32), (116 : Int32), (104 : Int32), (101 : Int32), (100 : Int32)] : List Int32).getD pp.toNatClampNeg 0))] [(.int cz)]))
          refine own_go (fun _ kk_ => XS.ifNo X498.here hx rfl (hb hby at_226) rfl ((if0 _ _).trans (feq hc458).1) kk_) ?_
          refine own_go (fun _ kk_ => XS.iload X498.here hx rfl (hb hby at_229) rfl kk_) ?_
          refine own_go (fun _ kk_ => XS.iload X498.here hx rfl (hb hby at_231) rfl kk_) ?_
          show own_Fin p.tables e below _ (T498.setTop (mkF m 233 #[.val (.int mode), .val (.int pos), .val (.int ch), .val (.int oth), .val (.int (mode &&& (7 : Int32))), .val (.int (1 : Int32)), .val (.int (ch &&& (255 : Int32))), .val (.int cz), .val (.ref b423), .val (.ref sa), .val (.int pp), .val (.ref b488), .unset, .val (.int (([(115 : Int32), (109 : Int32), (111 : Int32), (111 : Int32), (116 : Int32), (104 : Int32), (101 : Int32), (100 : Int32)] : List Int32).getD pp.toNatClampNeg 0))] [(.int (([(115 : Int32), (109 : Int32), (111 : Int32), (111 : Int32), (116 : Int32), (104 : Int32), (101 : Int32), (100 : Int32)] : List Int32).getD pp.toNatClampNeg 0)), (.int (ch &&& (255 : Int32)))]))
          by_cases hc511 : (ch &&& (255 : Int32)) = (([(115 : Int32), (109 : Int32), (111 : Int32), (111 : Int32), (116 : Int32), (104 : Int32), (101 : Int32), (100 : Int32)] : List Int32).getD pp.toNatClampNeg 0)
          · skip
            refine own_go (fun _ kk_ => XS.icmpNo X498.here hx rfl (hb hby at_233) rfl (teq hc511).2 kk_) ?_
            refine own_go (fun _ kk_ => XS.aload X498.here hx rfl (hb hby at_236) rfl rfl kk_) ?_
            refine own_go (fun _ kk_ => XS.goto X498.here hx rfl (pc0 := 238) (pc' := 242) rfl (hb hby at_238) (by decide) (by decide) kk_) ?_
            refine own_go (fun _ kk_ => XS.astore X498.here hx rfl (hb hby at_242) rfl rfl (l' := #[.val (.int mode), .val (.int pos), .val (.int ch), .val (.int oth), .val (.int (mode &&& (7 : Int32))), .val (.int (1 : Int32)), .val (.int (ch &&& (255 : Int32))), .val (.int cz), .val (.ref b423), .val (.ref sa), .val (.int pp), .val (.ref b488), .val (.ref sa), .val (.int (([(115 : Int32), (109 : Int32), (111 : Int32), (111 : Int32), (116 : Int32), (104 : Int32), (101 : Int32), (100 : Int32)] : List Int32).getD pp.toNatClampNeg 0))]) rfl kk_) ?_
            refine own_go (fun _ kk_ => XS.goto X498.here hx rfl (pc0 := 244) (pc' := 651) rfl (hb hby at_244) (by decide) (by decide) kk_) ?_
            refine own_go (fun _ kk_ => XS.aload X498.here hx rfl (hb hby at_651) rfl rfl kk_) ?_
            show own_Fin p.tables e below _ (T498.setTop (mkF m 653 #[.val (.int mode), .val (.int pos), .val (.int ch), .val (.int oth), .val (.int (mode &&& (7 : Int32))), .val (.int (1 : Int32)), .val (.int (ch &&& (255 : Int32))), .val (.int cz), .val (.ref b423), .val (.ref sa), .val (.int pp), .val (.ref b488), .val (.ref sa), .val (.int (([(115 : Int32), (109 : Int32), (111 : Int32), (111 : Int32), (116 : Int32), (104 : Int32), (101 : Int32), (100 : Int32)] : List Int32).getD pp.toNatClampNeg 0))] [(.ref b488)]))
            obtain ⟨_, _, ⟨T512, L512, k512, n512⟩, -, X512, ⟨Lc512, hQ512, l512, y512, z512⟩, st512⟩ := Jvm.LawKit.callS X498 hx (y := (⟨"com/example/hebelwerk/hebelwerk/model/DividendMethod", "written", "(Ljava/lang/String;)Lcom/example/hebelwerk/hebelwerk/model/DividendMethod;"⟩ : MethodName)) hown (mvT hZ (hw _ (List.mem_of_getElem? (i := 34) rfl))) (mvT hZ (hw _ (List.mem_of_getElem? (i := 35) rfl))) (mvT hZ (hw _ (List.mem_of_getElem? (i := 2) rfl))) (mvT hZ (hw _ (List.mem_of_getElem? (i := 36) rfl))) (by decide) (backOf (W := 0) (rm_wrS l Z a0 hw [] b488 t498 (([(115 : Int32), (109 : Int32), (111 : Int32), (111 : Int32), (116 : Int32), (104 : Int32), (101 : Int32), (100 : Int32)] : List Int32).set pp.toNatClampNeg (ch &&& (255 : Int32))) va vk ia sa wi ti wj tj gc T498.heap n0 (Nat.le_trans Z0 K510.1) SS498 S_V V_V E_V F_i F_j S_i S_j S_C hcs O0) hZ (hw _ (List.mem_of_getElem? (i := 36) rfl)) (hw _ (List.mem_of_getElem? (i := 2) rfl)) (by decide) (by decide)) (g := (mkF m 653 #[.val (.int mode), .val (.int pos), .val (.int ch), .val (.int oth), .val (.int (mode &&& (7 : Int32))), .val (.int (1 : Int32)), .val (.int (ch &&& (255 : Int32))), .val (.int cz), .val (.ref b423), .val (.ref sa), .val (.int pp), .val (.ref b488), .val (.ref sa), .val (.int (([(115 : Int32), (109 : Int32), (111 : Int32), (111 : Int32), (116 : Int32), (104 : Int32), (101 : Int32), (100 : Int32)] : List Int32).getD pp.toNatClampNeg 0))] [(.ref b488)])) rfl (by rw [hml]; rfl) (argsL := [(.ref b488)]) (rest := []) (lenOf pd_6 rfl) rfl (by show 2 * 0 + _ ≤ _; exact Nat.le_of_eq rfl) (hb hby at_653) (fun _ _ => ⟨rfl, rfl, (by decide : 3 + 1 ≤ _), (by decide : 20 + 2 ≤ _)⟩)
            dsimp only [Pt.U, Pt.locs, Pt.cells, Pt.slots] at X512 l512 y512 z512 st512 hQ512
            subst l512 y512 z512
            obtain ⟨N512q, KK512, y1_512, y2_512, y3_512⟩ := hQ512
            obtain rfl := y2_512 (fun q => absurd (congrArg List.length q) (by simp)) (own_set_self hpn hc511)
            have N512 := Fr.app N498 N512q
            have hs513 : ∀ x ∈ [], Safe Z consts_1 s.vm T498.heap x := sf0
            replace S_b423 := Safe.keep KK512 hs513 CH S_b423
            replace S_b488 := Safe.keep KK512 hs513 CH S_b488
            replace S_t498 := Safe.keep KK512 hs513 CH S_t498
            replace CR := CR.trans (CHr.keep KK512 hs513 CH)
            replace CH := CHv.keep KK512 hs513 CH
            replace hk := Nat.le_trans hk KK512.1
            replace O0 := O0.keep KK512 all0
            replace V423 := V423.keep KK512 nin0
            replace SS498 := SS498.keep KK512 nin0 nin0
            have K514 := K510.trans KK512 all0
            refine own_go st512 ?_
            refine own_go (fun _ kk_ => XS.aload X512.here hx rfl (hb hby at_656) rfl rfl kk_) ?_
            show own_Fin p.tables e below _ (T512.setTop (mkF m 658 #[.val (.int mode), .val (.int pos), .val (.int ch), .val (.int oth), .val (.int (mode &&& (7 : Int32))), .val (.int (1 : Int32)), .val (.int (ch &&& (255 : Int32))), .val (.int cz), .val (.ref b423), .val (.ref sa), .val (.int pp), .val (.ref b488), .val (.ref sa), .val (.int (([(115 : Int32), (109 : Int32), (111 : Int32), (111 : Int32), (116 : Int32), (104 : Int32), (101 : Int32), (100 : Int32)] : List Int32).getD pp.toNatClampNeg 0))] [(.ref sa), (.ref sa)]))
            refine own_go (fun _ kk_ => acmp (g := (mkF m 658 #[.val (.int mode), .val (.int pos), .val (.int ch), .val (.int oth), .val (.int (mode &&& (7 : Int32))), .val (.int (1 : Int32)), .val (.int (ch &&& (255 : Int32))), .val (.int cz), .val (.ref b423), .val (.ref sa), .val (.int pp), .val (.ref b488), .val (.ref sa), .val (.int (([(115 : Int32), (109 : Int32), (111 : Int32), (111 : Int32), (116 : Int32), (104 : Int32), (101 : Int32), (100 : Int32)] : List Int32).getD pp.toNatClampNeg 0))] [(.ref sa), (.ref sa)])) X512 hx rfl rfl rfl (pc0 := 658) (pc' := 661) (same := true) rfl (hb hby at_658) rfl (by simp) (by decide) (by decide) kk_) ?_
            refine own_go (fun _ kk_ => XS.iconst X512.here hx rfl (hb hby at_661) kk_) ?_
            refine own_go (fun _ kk_ => XS.goto X512.here hx rfl (pc0 := 662) (pc' := 666) rfl (hb hby at_662) (by decide) (by decide) kk_) ?_
            show own_Fin p.tables e below _ (T512.setTop (mkF m 666 #[.val (.int mode), .val (.int pos), .val (.int ch), .val (.int oth), .val (.int (mode &&& (7 : Int32))), .val (.int (1 : Int32)), .val (.int (ch &&& (255 : Int32))), .val (.int cz), .val (.ref b423), .val (.ref sa), .val (.int pp), .val (.ref b488), .val (.ref sa), .val (.int (([(115 : Int32), (109 : Int32), (111 : Int32), (111 : Int32), (116 : Int32), (104 : Int32), (101 : Int32), (100 : Int32)] : List Int32).getD pp.toNatClampNeg 0))] [(.int (1 : Int32))]))
            have CRz : CHr Z consts_1 s.vm s.heap T512.vm T512.heap := by
              rw [hh]
              exact CR.trans (CHv.at X512 hZ hEL CH)
            refine own_retW X512 hx Bd hS hk (t := .boolean) Bd.returns rfl (Or.inl ⟨rfl, by simp, _, rfl⟩) (hb hby at_666) CRz ?_ (by decide) (by decide)
            show (Q_rm_law Z mode pos ch oth va vk ia sa wi ti wj tj gc h0 n0) (some (.int (1 : Int32))) T512.heap _
            exact ⟨rfl, N512⟩
          · skip
            refine own_go (fun _ kk_ => XS.icmpYes X498.here hx rfl (pc0 := 233) (pc' := 241) rfl (hb hby at_233) rfl (feq hc511).2 (by decide) (by decide) kk_) ?_
            refine own_go (fun _ kk_ => XS.aconstNull X498.here hx rfl (hb hby at_241) kk_) ?_
            refine own_go (fun _ kk_ => XS.astore X498.here hx rfl (hb hby at_242) rfl rfl (l' := #[.val (.int mode), .val (.int pos), .val (.int ch), .val (.int oth), .val (.int (mode &&& (7 : Int32))), .val (.int (1 : Int32)), .val (.int (ch &&& (255 : Int32))), .val (.int cz), .val (.ref b423), .val (.ref sa), .val (.int pp), .val (.ref b488), .val .null, .val (.int (([(115 : Int32), (109 : Int32), (111 : Int32), (111 : Int32), (116 : Int32), (104 : Int32), (101 : Int32), (100 : Int32)] : List Int32).getD pp.toNatClampNeg 0))]) rfl kk_) ?_
            refine own_go (fun _ kk_ => XS.goto X498.here hx rfl (pc0 := 244) (pc' := 651) rfl (hb hby at_244) (by decide) (by decide) kk_) ?_
            refine own_go (fun _ kk_ => XS.aload X498.here hx rfl (hb hby at_651) rfl rfl kk_) ?_
            show own_Fin p.tables e below _ (T498.setTop (mkF m 653 #[.val (.int mode), .val (.int pos), .val (.int ch), .val (.int oth), .val (.int (mode &&& (7 : Int32))), .val (.int (1 : Int32)), .val (.int (ch &&& (255 : Int32))), .val (.int cz), .val (.ref b423), .val (.ref sa), .val (.int pp), .val (.ref b488), .val .null, .val (.int (([(115 : Int32), (109 : Int32), (111 : Int32), (111 : Int32), (116 : Int32), (104 : Int32), (101 : Int32), (100 : Int32)] : List Int32).getD pp.toNatClampNeg 0))] [(.ref b488)]))
            obtain ⟨_, _, ⟨T515, L515, k515, n515⟩, -, X515, ⟨Lc515, hQ515, l515, y515, z515⟩, st515⟩ := Jvm.LawKit.callS X498 hx (y := (⟨"com/example/hebelwerk/hebelwerk/model/DividendMethod", "written", "(Ljava/lang/String;)Lcom/example/hebelwerk/hebelwerk/model/DividendMethod;"⟩ : MethodName)) hown (mvT hZ (hw _ (List.mem_of_getElem? (i := 34) rfl))) (mvT hZ (hw _ (List.mem_of_getElem? (i := 35) rfl))) (mvT hZ (hw _ (List.mem_of_getElem? (i := 2) rfl))) (mvT hZ (hw _ (List.mem_of_getElem? (i := 36) rfl))) (by decide) (backOf (W := 0) (rm_wrS l Z a0 hw [] b488 t498 (([(115 : Int32), (109 : Int32), (111 : Int32), (111 : Int32), (116 : Int32), (104 : Int32), (101 : Int32), (100 : Int32)] : List Int32).set pp.toNatClampNeg (ch &&& (255 : Int32))) va vk ia sa wi ti wj tj gc T498.heap n0 (Nat.le_trans Z0 K510.1) SS498 S_V V_V E_V F_i F_j S_i S_j S_C hcs O0) hZ (hw _ (List.mem_of_getElem? (i := 36) rfl)) (hw _ (List.mem_of_getElem? (i := 2) rfl)) (by decide) (by decide)) (g := (mkF m 653 #[.val (.int mode), .val (.int pos), .val (.int ch), .val (.int oth), .val (.int (mode &&& (7 : Int32))), .val (.int (1 : Int32)), .val (.int (ch &&& (255 : Int32))), .val (.int cz), .val (.ref b423), .val (.ref sa), .val (.int pp), .val (.ref b488), .val .null, .val (.int (([(115 : Int32), (109 : Int32), (111 : Int32), (111 : Int32), (116 : Int32), (104 : Int32), (101 : Int32), (100 : Int32)] : List Int32).getD pp.toNatClampNeg 0))] [(.ref b488)])) rfl (by rw [hml]; rfl) (argsL := [(.ref b488)]) (rest := []) (lenOf pd_6 rfl) rfl (by show 2 * 0 + _ ≤ _; exact Nat.le_of_eq rfl) (hb hby at_653) (fun _ _ => ⟨rfl, rfl, (by decide : 3 + 1 ≤ _), (by decide : 20 + 2 ≤ _)⟩)
            dsimp only [Pt.U, Pt.locs, Pt.cells, Pt.slots] at X515 l515 y515 z515 st515 hQ515
            subst l515 y515 z515
            obtain ⟨N515q, KK515, y1_515, y2_515, y3_515⟩ := hQ515
            obtain rfl := y3_515 (fun q => absurd (congrArg List.length q) (by simp)) (own_set_ne hpn hc511)
            have N515 := Fr.app N498 N515q
            have hs516 : ∀ x ∈ [], Safe Z consts_1 s.vm T498.heap x := sf0
            replace S_b423 := Safe.keep KK515 hs516 CH S_b423
            replace S_b488 := Safe.keep KK515 hs516 CH S_b488
            replace S_t498 := Safe.keep KK515 hs516 CH S_t498
            replace CR := CR.trans (CHr.keep KK515 hs516 CH)
            replace CH := CHv.keep KK515 hs516 CH
            replace hk := Nat.le_trans hk KK515.1
            replace O0 := O0.keep KK515 all0
            replace V423 := V423.keep KK515 nin0
            replace SS498 := SS498.keep KK515 nin0 nin0
            have K517 := K510.trans KK515 all0
            refine own_go st515 ?_
            refine own_go (fun _ kk_ => XS.aload X515.here hx rfl (hb hby at_656) rfl rfl kk_) ?_
            show own_Fin p.tables e below _ (T515.setTop (mkF m 658 #[.val (.int mode), .val (.int pos), .val (.int ch), .val (.int oth), .val (.int (mode &&& (7 : Int32))), .val (.int (1 : Int32)), .val (.int (ch &&& (255 : Int32))), .val (.int cz), .val (.ref b423), .val (.ref sa), .val (.int pp), .val (.ref b488), .val .null, .val (.int (([(115 : Int32), (109 : Int32), (111 : Int32), (111 : Int32), (116 : Int32), (104 : Int32), (101 : Int32), (100 : Int32)] : List Int32).getD pp.toNatClampNeg 0))] [.null, .null]))
            refine own_go (fun _ kk_ => acmp (g := (mkF m 658 #[.val (.int mode), .val (.int pos), .val (.int ch), .val (.int oth), .val (.int (mode &&& (7 : Int32))), .val (.int (1 : Int32)), .val (.int (ch &&& (255 : Int32))), .val (.int cz), .val (.ref b423), .val (.ref sa), .val (.int pp), .val (.ref b488), .val .null, .val (.int (([(115 : Int32), (109 : Int32), (111 : Int32), (111 : Int32), (116 : Int32), (104 : Int32), (101 : Int32), (100 : Int32)] : List Int32).getD pp.toNatClampNeg 0))] [.null, .null])) X515 hx rfl rfl rfl (pc0 := 658) (pc' := 661) (same := true) rfl (hb hby at_658) rfl rfl (by decide) (by decide) kk_) ?_
            refine own_go (fun _ kk_ => XS.iconst X515.here hx rfl (hb hby at_661) kk_) ?_
            refine own_go (fun _ kk_ => XS.goto X515.here hx rfl (pc0 := 662) (pc' := 666) rfl (hb hby at_662) (by decide) (by decide) kk_) ?_
            show own_Fin p.tables e below _ (T515.setTop (mkF m 666 #[.val (.int mode), .val (.int pos), .val (.int ch), .val (.int oth), .val (.int (mode &&& (7 : Int32))), .val (.int (1 : Int32)), .val (.int (ch &&& (255 : Int32))), .val (.int cz), .val (.ref b423), .val (.ref sa), .val (.int pp), .val (.ref b488), .val .null, .val (.int (([(115 : Int32), (109 : Int32), (111 : Int32), (111 : Int32), (116 : Int32), (104 : Int32), (101 : Int32), (100 : Int32)] : List Int32).getD pp.toNatClampNeg 0))] [(.int (1 : Int32))]))
            have CRz : CHr Z consts_1 s.vm s.heap T515.vm T515.heap := by
              rw [hh]
              exact CR.trans (CHv.at X515 hZ hEL CH)
            refine own_retW X515 hx Bd hS hk (t := .boolean) Bd.returns rfl (Or.inl ⟨rfl, by simp, _, rfl⟩) (hb hby at_666) CRz ?_ (by decide) (by decide)
            show (Q_rm_law Z mode pos ch oth va vk ia sa wi ti wj tj gc h0 n0) (some (.int (1 : Int32))) T515.heap _
            exact ⟨rfl, N515⟩
      · skip
        refine own_go (fun _ kk_ => XS.ifNo X456.here hx rfl (hb hby at_185) rfl ((if0 _ _).trans (feq hc457).1) kk_) ?_
        refine own_go (fun _ kk_ => XS.iload X456.here hx rfl (hb hby at_188) rfl kk_) ?_
        refine own_go (fun _ kk_ => XS.iconst X456.here hx rfl (hb hby at_190) kk_) ?_
        show own_Fin p.tables e below _ (T456.setTop (mkF m 191 #[.val (.int mode), .val (.int pos), .val (.int ch), .val (.int oth), .val (.int (mode &&& (7 : Int32))), .val (.int (1 : Int32)), .val (.int (ch &&& (255 : Int32))), .val (.int cz), .val (.ref b423), .val (.ref sa), .val (.int pp), .unset, .unset, .unset] [(.int (1 : Int32)), (.int (mode &&& (7 : Int32)))]))
        by_cases hc518 : (mode &&& (7 : Int32)) = (1 : Int32)
        · skip
          refine own_go (fun _ kk_ => XS.icmpNo X456.here hx rfl (hb hby at_191) rfl (teq hc518).2 kk_) ?_
          refine own_go (fun _ kk_ => XS.aload X456.here hx rfl (hb hby at_194) rfl rfl kk_) ?_
          refine own_go (fun _ kk_ => XS.iload X456.here hx rfl (hb hby at_196) rfl kk_) ?_
          show own_Fin p.tables e below _ (T456.setTop (mkF m 198 #[.val (.int mode), .val (.int pos), .val (.int ch), .val (.int oth), .val (.int (mode &&& (7 : Int32))), .val (.int (1 : Int32)), .val (.int (ch &&& (255 : Int32))), .val (.int cz), .val (.ref b423), .val (.ref sa), .val (.int pp), .unset, .unset, .unset] [(.int pp), (.ref b423)]))
          refine own_go (fun _ kk_ => own_caload X456 hx hZ e456 V423 hpp (v := (.int (([(115 : Int32), (109 : Int32), (111 : Int32), (111 : Int32), (116 : Int32), (104 : Int32), (101 : Int32), (100 : Int32)] : List Int32).getD pp.toNatClampNeg 0))) (own_getD ([(115 : Int32), (109 : Int32), (111 : Int32), (111 : Int32), (116 : Int32), (104 : Int32), (101 : Int32), (100 : Int32)] : List Int32) _) (g := (mkF m 198 #[.val (.int mode), .val (.int pos), .val (.int ch), .val (.int oth), .val (.int (mode &&& (7 : Int32))), .val (.int (1 : Int32)), .val (.int (ch &&& (255 : Int32))), .val (.int cz), .val (.ref b423), .val (.ref sa), .val (.int pp), .unset, .unset, .unset] [(.int pp), (.ref b423)])) rfl rfl (hb hby at_198) _ kk_) ?_
          refine own_go (fun _ kk_ => XS.istore X456.here hx rfl (hb hby at_199) rfl (l' := #[.val (.int mode), .val (.int pos), .val (.int ch), .val (.int oth), .val (.int (mode &&& (7 : Int32))), .val (.int (1 : Int32)), .val (.int (ch &&& (255 : Int32))), .val (.int cz), .val (.ref b423), .val (.ref sa), .val (.int pp), .unset, .unset, .val (.int (([(115 : Int32), (109 : Int32), (111 : Int32), (111 : Int32), (116 : Int32), (104 : Int32), (101 : Int32), (100 : Int32)] : List Int32).getD pp.toNatClampNeg 0))]) rfl kk_) ?_
          refine own_go (fun _ kk_ => XS.iload X456.here hx rfl (hb hby at_201) rfl kk_) ?_
          show own_Fin p.tables e below _ (T456.setTop (mkF m 203 #[.val (.int mode), .val (.int pos), .val (.int ch), .val (.int oth), .val (.int (mode &&& (7 : Int32))), .val (.int (1 : Int32)), .val (.int (ch &&& (255 : Int32))), .val (.int cz), .val (.ref b423), .val (.ref sa), .val (.int pp), .unset, .unset, .val (.int (([(115 : Int32), (109 : Int32), (111 : Int32), (111 : Int32), (116 : Int32), (104 : Int32), (101 : Int32), (100 : Int32)] : List Int32).getD pp.toNatClampNeg 0))] [(.int cz)]))
          by_cases hc519 : cz = (0 : Int32)
          · skip
            refine own_go (fun _ kk_ => XS.ifYes X456.here hx rfl (pc0 := 203) (pc' := 213) rfl (hb hby at_203) rfl ((if0 _ _).trans (teq hc519).1) (by decide) (by decide) kk_) ?_
            show own_Fin p.tables e below _ (T456.setTop (mkF m 213 #[.val (.int mode), .val (.int pos), .val (.int ch), .val (.int oth), .val (.int (mode &&& (7 : Int32))), .val (.int (1 : Int32)), .val (.int (ch &&& (255 : Int32))), .val (.int cz), .val (.ref b423), .val (.ref sa), .val (.int pp), .unset, .unset, .val (.int (([(115 : Int32), (109 : Int32), (111 : Int32), (111 : Int32), (116 : Int32), (104 : Int32), (101 : Int32), (100 : Int32)] : List Int32).getD pp.toNatClampNeg 0))] []))
            obtain ⟨T520, h520, X520, e520, E520, A520, D520, -, st520⟩ := newO X456 hx hZ hown (hw _ (List.mem_of_getElem? (i := 5) rfl)) (hw _ (List.mem_of_getElem? (i := 6) rfl)) (hw _ (List.mem_of_getElem? (i := 7) rfl)) e456 (g := (mkF m 213 #[.val (.int mode), .val (.int pos), .val (.int ch), .val (.int oth), .val (.int (mode &&& (7 : Int32))), .val (.int (1 : Int32)), .val (.int (ch &&& (255 : Int32))), .val (.int cz), .val (.ref b423), .val (.ref sa), .val (.int pp), .unset, .unset, .val (.int (([(115 : Int32), (109 : Int32), (111 : Int32), (111 : Int32), (116 : Int32), (104 : Int32), (101 : Int32), (100 : Int32)] : List Int32).getD pp.toNatClampNeg 0))] [])) rfl (hb hby at_213) (by decide) (by decide)
            obtain ⟨b520, g520⟩ : ∃ z, z = h453.size := ⟨_, rfl⟩
            rw [← g520] at A520 D520 st520
            have sz_b520 : h0.size ≤ b520 := Nat.le_trans K455.1 (Nat.le_of_eq g520.symm)
            have g_b520 : n0 ≤ b520 := Nat.le_trans Z0 sz_b520
            have ne521 : va ≠ b520 := O0.ne V_V.lt g_b520
            have ne522 : ia ≠ b520 := O0.ne F_i.lt g_b520
            have ne523 : sa ≠ b520 := O0.ne F_j.lt g_b520
            have ne524 : wi ≠ b520 := O0.ne S_i.lt g_b520
            have ne525 : ti ≠ b520 := O0.ne S_i.ltt g_b520
            have ne526 : wj ≠ b520 := O0.ne S_j.lt g_b520
            have ne527 : tj ≠ b520 := O0.ne S_j.ltt g_b520
            have ne528 : b423 ≠ b520 := Nat.ne_of_lt (Nat.lt_of_lt_of_le V423.lt (Nat.le_of_eq g520.symm))
            have S_b520 := Safe.new (Z := Z) (EL := consts_1) (vm := s.vm) (Nat.le_of_eq g520.symm)
            replace S_b423 := Safe.ext E520 CH S_b423
            replace S_b520 := Safe.ext E520 CH S_b520
            replace CR := CR.trans (CHr.ext E520 CH)
            replace CH := CH.ext E520
            replace hk := Nat.le_trans hk E520.1
            replace O0 := O0.ext E520
            replace V423 := V423.ext E520
            have K529 := K455.ext E520
            have F520_coder : Fld Z h520 b520 "java/lang/String" "coder" "B" (.int (0 : Int32)) := D520 (Or.inr (hw _ (List.mem_of_getElem? (i := 31) rfl))) (ty := .byte) (by decide)
            have F520_value : Fld Z h520 b520 "java/lang/String" "value" "[B" .null := D520 (Or.inr (hw _ (List.mem_of_getElem? (i := 33) rfl))) (ty := (.array .byte)) (by decide)
            refine own_go st520 ?_
            refine own_go (fun _ kk_ => XS.dup X520.here hx rfl (hb hby at_216) rfl rfl kk_) ?_
            refine own_go (fun _ kk_ => XS.aload X520.here hx rfl (hb hby at_217) rfl rfl kk_) ?_
            show own_Fin p.tables e below _ (T520.setTop (mkF m 219 #[.val (.int mode), .val (.int pos), .val (.int ch), .val (.int oth), .val (.int (mode &&& (7 : Int32))), .val (.int (1 : Int32)), .val (.int (ch &&& (255 : Int32))), .val (.int cz), .val (.ref b423), .val (.ref sa), .val (.int pp), .unset, .unset, .val (.int (([(115 : Int32), (109 : Int32), (111 : Int32), (111 : Int32), (116 : Int32), (104 : Int32), (101 : Int32), (100 : Int32)] : List Int32).getD pp.toNatClampNeg 0))] [(.ref b423), (.ref b520), (.ref b520)]))
            have hp531 : ∀ c ∈ ([(115 : Int32), (109 : Int32), (111 : Int32), (111 : Int32), (116 : Int32), (104 : Int32), (101 : Int32), (100 : Int32)] : List Int32), ¬ c < 0 ∧ ¬ (255 : Int32) < c := by
              intro c hc
              simp only [List.mem_cons, List.not_mem_nil, or_false] at hc
              rcases hc with rfl | rfl | rfl | rfl | rfl | rfl | rfl | rfl
              · exact by decide
              · exact by decide
              · exact by decide
              · exact by decide
              · exact by decide
              · exact by decide
              · exact by decide
              · exact by decide
            obtain ⟨_, _, ⟨T530, L530, k530, n530⟩, -, X530, ⟨Lc530, hQ530, l530, y530, z530⟩, st530⟩ := X520.specialBack hx (y := (⟨"java/lang/String", "<init>", "([C)V"⟩ : MethodName)) rfl hown (mvT hZ (hw _ (List.mem_of_getElem? (i := 8) rfl))) (mvT hZ (hw _ (List.mem_of_getElem? (i := 9) rfl))) (mvT hZ (hw _ (List.mem_of_getElem? (i := 10) rfl))) (by decide) (StrChars.Road.backV (W := 1) hZ hws (kI := 4) (hw _ (List.mem_of_getElem? (i := 6) rfl)) (cs := ([(115 : Int32), (109 : Int32), (111 : Int32), (111 : Int32), (116 : Int32), (104 : Int32), (101 : Int32), (100 : Int32)] : List Int32)) (bs := (([(115 : Int32), (109 : Int32), (111 : Int32), (111 : Int32), (116 : Int32), (104 : Int32), (101 : Int32), (100 : Int32)] : List Int32)).map (fun c => c.toInt8.toInt32)) (n := 8) g_b520 (Nat.le_trans Z0 K529.1) A520 F520_value F520_coder V423 (S_C.ext O0.2) hcs rfl rfl (by decide) (by decide) hp531 rfl (by decide) (by decide)) (g := (mkF m 219 #[.val (.int mode), .val (.int pos), .val (.int ch), .val (.int oth), .val (.int (mode &&& (7 : Int32))), .val (.int (1 : Int32)), .val (.int (ch &&& (255 : Int32))), .val (.int cz), .val (.ref b423), .val (.ref sa), .val (.int pp), .unset, .unset, .val (.int (([(115 : Int32), (109 : Int32), (111 : Int32), (111 : Int32), (116 : Int32), (104 : Int32), (101 : Int32), (100 : Int32)] : List Int32).getD pp.toNatClampNeg 0))] [(.ref b423), (.ref b520), (.ref b520)])) rfl (by rw [hml]; rfl) (Steps.refl _) (a := b520) (argsL := [(.ref b423)]) (rest := [(.ref b520)]) (lenOf pd_5 rfl) rfl (by show 2 * 0 + _ ≤ _; exact Nat.le_of_eq rfl) (hb hby at_219) (fun _ _ => ⟨rfl, e520, (by decide : 2 + 1 ≤ _), (by decide : 12 + 8 ≤ _)⟩)
            dsimp only [Pt.U, Pt.locs, Pt.cells, Pt.slots] at X530 l530 y530 z530 st530 hQ530
            subst l530 y530 z530
            obtain ⟨rfl, N530q, KK530, EE530, FC530, t530, kb530, gt530, szt530, netx530, FV530, VV530⟩ := hQ530
            have N530 := Fr.app N453 N530q
            have SS530 : own_Str Z T530.heap b520 t530 ([(115 : Int32), (109 : Int32), (111 : Int32), (111 : Int32), (116 : Int32), (104 : Int32), (101 : Int32), (100 : Int32)] : List Int32) := ⟨_, _, _, _, EE530, FV530, FC530, VV530, StrChars.Road.codOf (n := 8) rfl (fun c hc => (hp531 c hc).2), own_up _ hp531, Nat.le_of_ble_eq_true rfl⟩
            have sz_t530 : h0.size ≤ t530 := Nat.le_trans K529.1 szt530
            have ne532 : va ≠ t530 := O0.ne V_V.lt gt530
            have ne533 : ia ≠ t530 := O0.ne F_i.lt gt530
            have ne534 : sa ≠ t530 := O0.ne F_j.lt gt530
            have ne535 : wi ≠ t530 := O0.ne S_i.lt gt530
            have ne536 : ti ≠ t530 := O0.ne S_i.ltt gt530
            have ne537 : wj ≠ t530 := O0.ne S_j.lt gt530
            have ne538 : tj ≠ t530 := O0.ne S_j.ltt gt530
            have ne539 : b423 ≠ t530 := Nat.ne_of_lt (Nat.lt_of_lt_of_le V423.lt szt530)
            have ne540 : b520 ≠ t530 := Nat.ne_of_lt (Nat.lt_of_lt_of_le A520.lt szt530)
            have S_t530 := Safe.new (Z := Z) (EL := consts_1) (vm := s.vm) szt530
            have hs541 : ∀ x ∈ [b520], Safe Z consts_1 s.vm h520 x := (sfS S_b520 sf0)
            replace S_b423 := Safe.keep KK530 hs541 CH S_b423
            replace S_b520 := Safe.keep KK530 hs541 CH S_b520
            replace S_t530 := Safe.keep KK530 hs541 CH S_t530
            replace CR := CR.trans (CHr.keep KK530 hs541 CH)
            replace CH := CHv.keep KK530 hs541 CH
            replace hk := Nat.le_trans hk KK530.1
            replace O0 := O0.keep KK530 (allS g_b520 (all0))
            replace V423 := V423.keep KK530 (ninS ne528 nin0)
            replace A520 := A520.keep KK530
            have K542 := K529.trans KK530 (allS (Or.inr sz_b520) all0)
            refine own_go (fun _ kk_ => st530.trans kk_) ?_
            refine own_go (fun _ kk_ => XS.astore X530.here hx rfl (hb hby at_222) rfl rfl (l' := #[.val (.int mode), .val (.int pos), .val (.int ch), .val (.int oth), .val (.int (mode &&& (7 : Int32))), .val (.int (1 : Int32)), .val (.int (ch &&& (255 : Int32))), .val (.int cz), .val (.ref b423), .val (.ref sa), .val (.int pp), .val (.ref b520), .unset, .val (.int (([(115 : Int32), (109 : Int32), (111 : Int32), (111 : Int32), (116 : Int32), (104 : Int32), (101 : Int32), (100 : Int32)] : List Int32).getD pp.toNatClampNeg 0))]) rfl kk_) ?_
            refine own_go (fun _ kk_ => XS.iload X530.here hx rfl (hb hby at_224) rfl kk_) ?_
            show own_Fin p.tables e below _ (T530.setTop (mkF m 226 #[.val (.int mode), .val (.int pos), .val (.int ch), .val (.int oth), .val (.int (mode &&& (7 : Int32))), .val (.int (1 : Int32)), .val (.int (ch &&& (255 : Int32))), .val (.int cz), .val (.ref b423), .val (.ref sa), .val (.int pp), .val (.ref b520), .unset, .val (.int (([(115 : Int32), (109 : Int32), (111 : Int32), (111 : Int32), (116 : Int32), (104 : Int32), (101 : Int32), (100 : Int32)] : List Int32).getD pp.toNatClampNeg 0))] [(.int cz)]))
            refine own_go (fun _ kk_ => XS.ifYes X530.here hx rfl (pc0 := 226) (pc' := 236) rfl (hb hby at_226) rfl ((if0 _ _).trans (teq hc519).1) (by decide) (by decide) kk_) ?_
            refine own_go (fun _ kk_ => XS.aload X530.here hx rfl (hb hby at_236) rfl rfl kk_) ?_
            refine own_go (fun _ kk_ => XS.goto X530.here hx rfl (pc0 := 238) (pc' := 242) rfl (hb hby at_238) (by decide) (by decide) kk_) ?_
            refine own_go (fun _ kk_ => XS.astore X530.here hx rfl (hb hby at_242) rfl rfl (l' := #[.val (.int mode), .val (.int pos), .val (.int ch), .val (.int oth), .val (.int (mode &&& (7 : Int32))), .val (.int (1 : Int32)), .val (.int (ch &&& (255 : Int32))), .val (.int cz), .val (.ref b423), .val (.ref sa), .val (.int pp), .val (.ref b520), .val (.ref sa), .val (.int (([(115 : Int32), (109 : Int32), (111 : Int32), (111 : Int32), (116 : Int32), (104 : Int32), (101 : Int32), (100 : Int32)] : List Int32).getD pp.toNatClampNeg 0))]) rfl kk_) ?_
            refine own_go (fun _ kk_ => XS.goto X530.here hx rfl (pc0 := 244) (pc' := 651) rfl (hb hby at_244) (by decide) (by decide) kk_) ?_
            refine own_go (fun _ kk_ => XS.aload X530.here hx rfl (hb hby at_651) rfl rfl kk_) ?_
            show own_Fin p.tables e below _ (T530.setTop (mkF m 653 #[.val (.int mode), .val (.int pos), .val (.int ch), .val (.int oth), .val (.int (mode &&& (7 : Int32))), .val (.int (1 : Int32)), .val (.int (ch &&& (255 : Int32))), .val (.int cz), .val (.ref b423), .val (.ref sa), .val (.int pp), .val (.ref b520), .val (.ref sa), .val (.int (([(115 : Int32), (109 : Int32), (111 : Int32), (111 : Int32), (116 : Int32), (104 : Int32), (101 : Int32), (100 : Int32)] : List Int32).getD pp.toNatClampNeg 0))] [(.ref b520)]))
            obtain ⟨_, _, ⟨T543, L543, k543, n543⟩, -, X543, ⟨Lc543, hQ543, l543, y543, z543⟩, st543⟩ := Jvm.LawKit.callS X530 hx (y := (⟨"com/example/hebelwerk/hebelwerk/model/DividendMethod", "written", "(Ljava/lang/String;)Lcom/example/hebelwerk/hebelwerk/model/DividendMethod;"⟩ : MethodName)) hown (mvT hZ (hw _ (List.mem_of_getElem? (i := 34) rfl))) (mvT hZ (hw _ (List.mem_of_getElem? (i := 35) rfl))) (mvT hZ (hw _ (List.mem_of_getElem? (i := 2) rfl))) (mvT hZ (hw _ (List.mem_of_getElem? (i := 36) rfl))) (by decide) (backOf (W := 0) (rm_wrS l Z a0 hw [] b520 t530 ([(115 : Int32), (109 : Int32), (111 : Int32), (111 : Int32), (116 : Int32), (104 : Int32), (101 : Int32), (100 : Int32)] : List Int32) va vk ia sa wi ti wj tj gc T530.heap n0 (Nat.le_trans Z0 K542.1) SS530 S_V V_V E_V F_i F_j S_i S_j S_C hcs O0) hZ (hw _ (List.mem_of_getElem? (i := 36) rfl)) (hw _ (List.mem_of_getElem? (i := 2) rfl)) (by decide) (by decide)) (g := (mkF m 653 #[.val (.int mode), .val (.int pos), .val (.int ch), .val (.int oth), .val (.int (mode &&& (7 : Int32))), .val (.int (1 : Int32)), .val (.int (ch &&& (255 : Int32))), .val (.int cz), .val (.ref b423), .val (.ref sa), .val (.int pp), .val (.ref b520), .val (.ref sa), .val (.int (([(115 : Int32), (109 : Int32), (111 : Int32), (111 : Int32), (116 : Int32), (104 : Int32), (101 : Int32), (100 : Int32)] : List Int32).getD pp.toNatClampNeg 0))] [(.ref b520)])) rfl (by rw [hml]; rfl) (argsL := [(.ref b520)]) (rest := []) (lenOf pd_6 rfl) rfl (by show 2 * 0 + _ ≤ _; exact Nat.le_of_eq rfl) (hb hby at_653) (fun _ _ => ⟨rfl, rfl, (by decide : 3 + 1 ≤ _), (by decide : 20 + 2 ≤ _)⟩)
            dsimp only [Pt.U, Pt.locs, Pt.cells, Pt.slots] at X543 l543 y543 z543 st543 hQ543
            subst l543 y543 z543
            obtain ⟨N543q, KK543, y1_543, y2_543, y3_543⟩ := hQ543
            obtain rfl := y2_543 (by decide) rfl
            have N543 := Fr.app N530 N543q
            have hs544 : ∀ x ∈ [], Safe Z consts_1 s.vm T530.heap x := sf0
            replace S_b423 := Safe.keep KK543 hs544 CH S_b423
            replace S_b520 := Safe.keep KK543 hs544 CH S_b520
            replace S_t530 := Safe.keep KK543 hs544 CH S_t530
            replace CR := CR.trans (CHr.keep KK543 hs544 CH)
            replace CH := CHv.keep KK543 hs544 CH
            replace hk := Nat.le_trans hk KK543.1
            replace O0 := O0.keep KK543 all0
            replace V423 := V423.keep KK543 nin0
            replace SS530 := SS530.keep KK543 nin0 nin0
            have K545 := K542.trans KK543 all0
            refine own_go st543 ?_
            refine own_go (fun _ kk_ => XS.aload X543.here hx rfl (hb hby at_656) rfl rfl kk_) ?_
            show own_Fin p.tables e below _ (T543.setTop (mkF m 658 #[.val (.int mode), .val (.int pos), .val (.int ch), .val (.int oth), .val (.int (mode &&& (7 : Int32))), .val (.int (1 : Int32)), .val (.int (ch &&& (255 : Int32))), .val (.int cz), .val (.ref b423), .val (.ref sa), .val (.int pp), .val (.ref b520), .val (.ref sa), .val (.int (([(115 : Int32), (109 : Int32), (111 : Int32), (111 : Int32), (116 : Int32), (104 : Int32), (101 : Int32), (100 : Int32)] : List Int32).getD pp.toNatClampNeg 0))] [(.ref sa), (.ref sa)]))
            refine own_go (fun _ kk_ => acmp (g := (mkF m 658 #[.val (.int mode), .val (.int pos), .val (.int ch), .val (.int oth), .val (.int (mode &&& (7 : Int32))), .val (.int (1 : Int32)), .val (.int (ch &&& (255 : Int32))), .val (.int cz), .val (.ref b423), .val (.ref sa), .val (.int pp), .val (.ref b520), .val (.ref sa), .val (.int (([(115 : Int32), (109 : Int32), (111 : Int32), (111 : Int32), (116 : Int32), (104 : Int32), (101 : Int32), (100 : Int32)] : List Int32).getD pp.toNatClampNeg 0))] [(.ref sa), (.ref sa)])) X543 hx rfl rfl rfl (pc0 := 658) (pc' := 661) (same := true) rfl (hb hby at_658) rfl (by simp) (by decide) (by decide) kk_) ?_
            refine own_go (fun _ kk_ => XS.iconst X543.here hx rfl (hb hby at_661) kk_) ?_
            refine own_go (fun _ kk_ => XS.goto X543.here hx rfl (pc0 := 662) (pc' := 666) rfl (hb hby at_662) (by decide) (by decide) kk_) ?_
            show own_Fin p.tables e below _ (T543.setTop (mkF m 666 #[.val (.int mode), .val (.int pos), .val (.int ch), .val (.int oth), .val (.int (mode &&& (7 : Int32))), .val (.int (1 : Int32)), .val (.int (ch &&& (255 : Int32))), .val (.int cz), .val (.ref b423), .val (.ref sa), .val (.int pp), .val (.ref b520), .val (.ref sa), .val (.int (([(115 : Int32), (109 : Int32), (111 : Int32), (111 : Int32), (116 : Int32), (104 : Int32), (101 : Int32), (100 : Int32)] : List Int32).getD pp.toNatClampNeg 0))] [(.int (1 : Int32))]))
            have CRz : CHr Z consts_1 s.vm s.heap T543.vm T543.heap := by
              rw [hh]
              exact CR.trans (CHv.at X543 hZ hEL CH)
            refine own_retW X543 hx Bd hS hk (t := .boolean) Bd.returns rfl (Or.inl ⟨rfl, by simp, _, rfl⟩) (hb hby at_666) CRz ?_ (by decide) (by decide)
            show (Q_rm_law Z mode pos ch oth va vk ia sa wi ti wj tj gc h0 n0) (some (.int (1 : Int32))) T543.heap _
            exact ⟨rfl, N543⟩
          · skip
            refine own_go (fun _ kk_ => XS.ifNo X456.here hx rfl (hb hby at_203) rfl ((if0 _ _).trans (feq hc519).1) kk_) ?_
            refine own_go (fun _ kk_ => XS.aload X456.here hx rfl (hb hby at_206) rfl rfl kk_) ?_
            refine own_go (fun _ kk_ => XS.iload X456.here hx rfl (hb hby at_208) rfl kk_) ?_
            refine own_go (fun _ kk_ => XS.iload X456.here hx rfl (hb hby at_210) rfl kk_) ?_
            show own_Fin p.tables e below _ (T456.setTop (mkF m 212 #[.val (.int mode), .val (.int pos), .val (.int ch), .val (.int oth), .val (.int (mode &&& (7 : Int32))), .val (.int (1 : Int32)), .val (.int (ch &&& (255 : Int32))), .val (.int cz), .val (.ref b423), .val (.ref sa), .val (.int pp), .unset, .unset, .val (.int (([(115 : Int32), (109 : Int32), (111 : Int32), (111 : Int32), (116 : Int32), (104 : Int32), (101 : Int32), (100 : Int32)] : List Int32).getD pp.toNatClampNeg 0))] [(.int (ch &&& (255 : Int32))), (.int pp), (.ref b423)]))
            obtain ⟨T546, h546, X546, e546, W546, V546, st546⟩ := own_stC X456 hx hZ e456 V423 hpp (i := pp.toNatClampNeg) rfl hpn (g := (mkF m 212 #[.val (.int mode), .val (.int pos), .val (.int ch), .val (.int oth), .val (.int (mode &&& (7 : Int32))), .val (.int (1 : Int32)), .val (.int (ch &&& (255 : Int32))), .val (.int cz), .val (.ref b423), .val (.ref sa), .val (.int pp), .unset, .unset, .val (.int (([(115 : Int32), (109 : Int32), (111 : Int32), (111 : Int32), (116 : Int32), (104 : Int32), (101 : Int32), (100 : Int32)] : List Int32).getD pp.toNatClampNeg 0))] [(.int (ch &&& (255 : Int32))), (.int pp), (.ref b423)])) rfl rfl (hb hby at_212)
            rw [own_nar255] at V546
            replace V423 : Arv Z h546 b423 k423 .char (8 : Int32) ([(.int (115 : Int32)), (.int (109 : Int32)), (.int (111 : Int32)), (.int (111 : Int32)), (.int (116 : Int32)), (.int (104 : Int32)), (.int (101 : Int32)), (.int (100 : Int32))].set pp.toNatClampNeg (.int (ch &&& (255 : Int32)))) (.int (0 : Int32)) := V546
            have N546 := Fr.snoc X546 N453 g_b423
            refine own_go st546 ?_
            have sa547 := S_b423
            replace S_b423 := Safe.wr W546 sa547 CH S_b423
            replace CR := CR.trans (CHr.wr W546 sa547 CH)
            replace CH := CHv.wr W546 sa547 CH
            replace hk := Nat.le_trans hk (Keep.of_wr W546).1
            replace O0 := O0.wr W546 g_b423
            have K548 := K455.wr W546 (Or.inr sz_b423)
            replace V423 : Arv Z h546 b423 k423 .char (8 : Int32) ((([(115 : Int32), (109 : Int32), (111 : Int32), (111 : Int32), (116 : Int32), (104 : Int32), (101 : Int32), (100 : Int32)] : List Int32).set pp.toNatClampNeg (ch &&& (255 : Int32))).map Value.int) (.int (0 : Int32)) := by rw [List.map_set]; exact V423
            show own_Fin p.tables e below _ (T546.setTop (mkF m 213 #[.val (.int mode), .val (.int pos), .val (.int ch), .val (.int oth), .val (.int (mode &&& (7 : Int32))), .val (.int (1 : Int32)), .val (.int (ch &&& (255 : Int32))), .val (.int cz), .val (.ref b423), .val (.ref sa), .val (.int pp), .unset, .unset, .val (.int (([(115 : Int32), (109 : Int32), (111 : Int32), (111 : Int32), (116 : Int32), (104 : Int32), (101 : Int32), (100 : Int32)] : List Int32).getD pp.toNatClampNeg 0))] []))
            obtain ⟨T549, h549, X549, e549, E549, A549, D549, -, st549⟩ := newO X546 hx hZ hown (hw _ (List.mem_of_getElem? (i := 5) rfl)) (hw _ (List.mem_of_getElem? (i := 6) rfl)) (hw _ (List.mem_of_getElem? (i := 7) rfl)) e546 (g := (mkF m 213 #[.val (.int mode), .val (.int pos), .val (.int ch), .val (.int oth), .val (.int (mode &&& (7 : Int32))), .val (.int (1 : Int32)), .val (.int (ch &&& (255 : Int32))), .val (.int cz), .val (.ref b423), .val (.ref sa), .val (.int pp), .unset, .unset, .val (.int (([(115 : Int32), (109 : Int32), (111 : Int32), (111 : Int32), (116 : Int32), (104 : Int32), (101 : Int32), (100 : Int32)] : List Int32).getD pp.toNatClampNeg 0))] [])) rfl (hb hby at_213) (by decide) (by decide)
            obtain ⟨b549, g549⟩ : ∃ z, z = h546.size := ⟨_, rfl⟩
            rw [← g549] at A549 D549 st549
            have sz_b549 : h0.size ≤ b549 := Nat.le_trans K548.1 (Nat.le_of_eq g549.symm)
            have g_b549 : n0 ≤ b549 := Nat.le_trans Z0 sz_b549
            have ne550 : va ≠ b549 := O0.ne V_V.lt g_b549
            have ne551 : ia ≠ b549 := O0.ne F_i.lt g_b549
            have ne552 : sa ≠ b549 := O0.ne F_j.lt g_b549
            have ne553 : wi ≠ b549 := O0.ne S_i.lt g_b549
            have ne554 : ti ≠ b549 := O0.ne S_i.ltt g_b549
            have ne555 : wj ≠ b549 := O0.ne S_j.lt g_b549
            have ne556 : tj ≠ b549 := O0.ne S_j.ltt g_b549
            have ne557 : b423 ≠ b549 := Nat.ne_of_lt (Nat.lt_of_lt_of_le V423.lt (Nat.le_of_eq g549.symm))
            have S_b549 := Safe.new (Z := Z) (EL := consts_1) (vm := s.vm) (Nat.le_of_eq g549.symm)
            replace S_b423 := Safe.ext E549 CH S_b423
            replace S_b549 := Safe.ext E549 CH S_b549
            replace CR := CR.trans (CHr.ext E549 CH)
            replace CH := CH.ext E549
            replace hk := Nat.le_trans hk E549.1
            replace O0 := O0.ext E549
            replace V423 := V423.ext E549
            have K558 := K548.ext E549
            have F549_coder : Fld Z h549 b549 "java/lang/String" "coder" "B" (.int (0 : Int32)) := D549 (Or.inr (hw _ (List.mem_of_getElem? (i := 31) rfl))) (ty := .byte) (by decide)
            have F549_value : Fld Z h549 b549 "java/lang/String" "value" "[B" .null := D549 (Or.inr (hw _ (List.mem_of_getElem? (i := 33) rfl))) (ty := (.array .byte)) (by decide)
            refine own_go st549 ?_
            refine own_go (fun _ kk_ => XS.dup X549.here hx rfl (hb hby at_216) rfl rfl kk_) ?_
            refine own_go (fun _ kk_ => XS.aload X549.here hx rfl (hb hby at_217) rfl rfl kk_) ?_
            show own_Fin p.tables e below _ (T549.setTop (mkF m 219 #[.val (.int mode), .val (.int pos), .val (.int ch), .val (.int oth), .val (.int (mode &&& (7 : Int32))), .val (.int (1 : Int32)), .val (.int (ch &&& (255 : Int32))), .val (.int cz), .val (.ref b423), .val (.ref sa), .val (.int pp), .unset, .unset, .val (.int (([(115 : Int32), (109 : Int32), (111 : Int32), (111 : Int32), (116 : Int32), (104 : Int32), (101 : Int32), (100 : Int32)] : List Int32).getD pp.toNatClampNeg 0))] [(.ref b423), (.ref b549), (.ref b549)]))
            have hp560 : ∀ c ∈ (([(115 : Int32), (109 : Int32), (111 : Int32), (111 : Int32), (116 : Int32), (104 : Int32), (101 : Int32), (100 : Int32)] : List Int32).set pp.toNatClampNeg (ch &&& (255 : Int32))), ¬ c < 0 ∧ ¬ (255 : Int32) < c := own_set255 (by decide) (own_and255 _)
            obtain ⟨_, _, ⟨T559, L559, k559, n559⟩, -, X559, ⟨Lc559, hQ559, l559, y559, z559⟩, st559⟩ := X549.specialBack hx (y := (⟨"java/lang/String", "<init>", "([C)V"⟩ : MethodName)) rfl hown (mvT hZ (hw _ (List.mem_of_getElem? (i := 8) rfl))) (mvT hZ (hw _ (List.mem_of_getElem? (i := 9) rfl))) (mvT hZ (hw _ (List.mem_of_getElem? (i := 10) rfl))) (by decide) (StrChars.Road.backV (W := 1) hZ hws (kI := 4) (hw _ (List.mem_of_getElem? (i := 6) rfl)) (cs := (([(115 : Int32), (109 : Int32), (111 : Int32), (111 : Int32), (116 : Int32), (104 : Int32), (101 : Int32), (100 : Int32)] : List Int32).set pp.toNatClampNeg (ch &&& (255 : Int32)))) (bs := ((([(115 : Int32), (109 : Int32), (111 : Int32), (111 : Int32), (116 : Int32), (104 : Int32), (101 : Int32), (100 : Int32)] : List Int32).set pp.toNatClampNeg (ch &&& (255 : Int32)))).map (fun c => c.toInt8.toInt32)) (n := 8) g_b549 (Nat.le_trans Z0 K558.1) A549 F549_value F549_coder V423 (S_C.ext O0.2) hcs (by simp) rfl (by decide) (by decide) hp560 rfl (by decide) (by decide)) (g := (mkF m 219 #[.val (.int mode), .val (.int pos), .val (.int ch), .val (.int oth), .val (.int (mode &&& (7 : Int32))), .val (.int (1 : Int32)), .val (.int (ch &&& (255 : Int32))), .val (.int cz), .val (.ref b423), .val (.ref sa), .val (.int pp), .unset, .unset, .val (.int (([(115 : Int32), (109 : Int32), (111 : Int32), (111 : Int32), (116 : Int32), (104 : Int32), (101 : Int32), (100 : Int32)] : List Int32).getD pp.toNatClampNeg 0))] [(.ref b423), (.ref b549), (.ref b549)])) rfl (by rw [hml]; rfl) (Steps.refl _) (a := b549) (argsL := [(.ref b423)]) (rest := [(.ref b549)]) (lenOf pd_5 rfl) rfl (by show 2 * 0 + _ ≤ _; exact Nat.le_of_eq rfl) (hb hby at_219) (fun _ _ => ⟨rfl, e549, (by decide : 2 + 1 ≤ _), (by decide : 12 + 8 ≤ _)⟩)
            dsimp only [Pt.U, Pt.locs, Pt.cells, Pt.slots] at X559 l559 y559 z559 st559 hQ559
            subst l559 y559 z559
            obtain ⟨rfl, N559q, KK559, EE559, FC559, t559, kb559, gt559, szt559, netx559, FV559, VV559⟩ := hQ559
            have N559 := Fr.app N546 N559q
            have SS559 : own_Str Z T559.heap b549 t559 (([(115 : Int32), (109 : Int32), (111 : Int32), (111 : Int32), (116 : Int32), (104 : Int32), (101 : Int32), (100 : Int32)] : List Int32).set pp.toNatClampNeg (ch &&& (255 : Int32))) := ⟨_, _, _, _, EE559, FV559, FC559, VV559, StrChars.Road.codOf (n := 8) (by simp) (fun c hc => (hp560 c hc).2), own_up _ hp560, by simp⟩
            have sz_t559 : h0.size ≤ t559 := Nat.le_trans K558.1 szt559
            have ne561 : va ≠ t559 := O0.ne V_V.lt gt559
            have ne562 : ia ≠ t559 := O0.ne F_i.lt gt559
            have ne563 : sa ≠ t559 := O0.ne F_j.lt gt559
            have ne564 : wi ≠ t559 := O0.ne S_i.lt gt559
            have ne565 : ti ≠ t559 := O0.ne S_i.ltt gt559
            have ne566 : wj ≠ t559 := O0.ne S_j.lt gt559
            have ne567 : tj ≠ t559 := O0.ne S_j.ltt gt559
            have ne568 : b423 ≠ t559 := Nat.ne_of_lt (Nat.lt_of_lt_of_le V423.lt szt559)
            have ne569 : b549 ≠ t559 := Nat.ne_of_lt (Nat.lt_of_lt_of_le A549.lt szt559)
            have S_t559 := Safe.new (Z := Z) (EL := consts_1) (vm := s.vm) szt559
            have hs570 : ∀ x ∈ [b549], Safe Z consts_1 s.vm h549 x := (sfS S_b549 sf0)
            replace S_b423 := Safe.keep KK559 hs570 CH S_b423
            replace S_b549 := Safe.keep KK559 hs570 CH S_b549
            replace S_t559 := Safe.keep KK559 hs570 CH S_t559
            replace CR := CR.trans (CHr.keep KK559 hs570 CH)
            replace CH := CHv.keep KK559 hs570 CH
            replace hk := Nat.le_trans hk KK559.1
            replace O0 := O0.keep KK559 (allS g_b549 (all0))
            replace V423 := V423.keep KK559 (ninS ne557 nin0)
            replace A549 := A549.keep KK559
            have K571 := K558.trans KK559 (allS (Or.inr sz_b549) all0)
            refine own_go (fun _ kk_ => st559.trans kk_) ?_
            refine own_go (fun _ kk_ => XS.astore X559.here hx rfl (hb hby at_222) rfl rfl (l' := #[.val (.int mode), .val (.int pos), .val (.int ch), .val (.int oth), .val (.int (mode &&& (7 : Int32))), .val (.int (1 : Int32)), .val (.int (ch &&& (255 : Int32))), .val (.int cz), .val (.ref b423), .val (.ref sa), .val (.int pp), .val (.ref b549), .unset, .val (.int (([(115 : Int32), (109 : Int32), (111 : Int32), (111 : Int32), (116 : Int32), (104 : Int32), (101 : Int32), (100 : Int32)] : List Int32).getD pp.toNatClampNeg 0))]) rfl kk_) ?_
            refine own_go (fun _ kk_ => XS.iload X559.here hx rfl (hb hby at_224) rfl kk_) ?_
            show own_Fin p.tables e below _ (T559.setTop (mkF m 226 #[.val (.int mode), .val (.int pos), .val (.int ch), .val (.int oth), .val (.int (mode &&& (7 : Int32))), .val (.int (1 : Int32)), .val (.int (ch &&& (255 : Int32))), .val (.int cz), .val (.ref b423), .val (.ref sa), .val (.int pp), .val (.ref b549), .unset, .val (.int (([(115 : Int32), (109 : Int32), (111 : Int32), (111 : Int32), (116 : Int32), (104 : Int32), (101 : Int32), (100 : Int32)] : List Int32).getD pp.toNatClampNeg 0))] [(.int cz)]))
            refine own_go (fun _ kk_ => XS.ifNo X559.here hx rfl (hb hby at_226) rfl ((if0 _ _).trans (feq hc519).1) kk_) ?_
            refine own_go (fun _ kk_ => XS.iload X559.here hx rfl (hb hby at_229) rfl kk_) ?_
            refine own_go (fun _ kk_ => XS.iload X559.here hx rfl (hb hby at_231) rfl kk_) ?_
            show own_Fin p.tables e below _ (T559.setTop (mkF m 233 #[.val (.int mode), .val (.int pos), .val (.int ch), .val (.int oth), .val (.int (mode &&& (7 : Int32))), .val (.int (1 : Int32)), .val (.int (ch &&& (255 : Int32))), .val (.int cz), .val (.ref b423), .val (.ref sa), .val (.int pp), .val (.ref b549), .unset, .val (.int (([(115 : Int32), (109 : Int32), (111 : Int32), (111 : Int32), (116 : Int32), (104 : Int32), (101 : Int32), (100 : Int32)] : List Int32).getD pp.toNatClampNeg 0))] [(.int (([(115 : Int32), (109 : Int32), (111 : Int32), (111 : Int32), (116 : Int32), (104 : Int32), (101 : Int32), (100 : Int32)] : List Int32).getD pp.toNatClampNeg 0)), (.int (ch &&& (255 : Int32)))]))
            by_cases hc572 : (ch &&& (255 : Int32)) = (([(115 : Int32), (109 : Int32), (111 : Int32), (111 : Int32), (116 : Int32), (104 : Int32), (101 : Int32), (100 : Int32)] : List Int32).getD pp.toNatClampNeg 0)
            · skip
              refine own_go (fun _ kk_ => XS.icmpNo X559.here hx rfl (hb hby at_233) rfl (teq hc572).2 kk_) ?_
              refine own_go (fun _ kk_ => XS.aload X559.here hx rfl (hb hby at_236) rfl rfl kk_) ?_
              refine own_go (fun _ kk_ => XS.goto X559.here hx rfl (pc0 := 238) (pc' := 242) rfl (hb hby at_238) (by decide) (by decide) kk_) ?_
              refine own_go (fun _ kk_ => XS.astore X559.here hx rfl (hb hby at_242) rfl rfl (l' := #[.val (.int mode), .val (.int pos), .val (.int ch), .val (.int oth), .val (.int (mode &&& (7 : Int32))), .val (.int (1 : Int32)), .val (.int (ch &&& (255 : Int32))), .val (.int cz), .val (.ref b423), .val (.ref sa), .val (.int pp), .val (.ref b549), .val (.ref sa), .val (.int (([(115 : Int32), (109 : Int32), (111 : Int32), (111 : Int32), (116 : Int32), (104 : Int32), (101 : Int32), (100 : Int32)] : List Int32).getD pp.toNatClampNeg 0))]) rfl kk_) ?_
              refine own_go (fun _ kk_ => XS.goto X559.here hx rfl (pc0 := 244) (pc' := 651) rfl (hb hby at_244) (by decide) (by decide) kk_) ?_
              refine own_go (fun _ kk_ => XS.aload X559.here hx rfl (hb hby at_651) rfl rfl kk_) ?_
              show own_Fin p.tables e below _ (T559.setTop (mkF m 653 #[.val (.int mode), .val (.int pos), .val (.int ch), .val (.int oth), .val (.int (mode &&& (7 : Int32))), .val (.int (1 : Int32)), .val (.int (ch &&& (255 : Int32))), .val (.int cz), .val (.ref b423), .val (.ref sa), .val (.int pp), .val (.ref b549), .val (.ref sa), .val (.int (([(115 : Int32), (109 : Int32), (111 : Int32), (111 : Int32), (116 : Int32), (104 : Int32), (101 : Int32), (100 : Int32)] : List Int32).getD pp.toNatClampNeg 0))] [(.ref b549)]))
              obtain ⟨_, _, ⟨T573, L573, k573, n573⟩, -, X573, ⟨Lc573, hQ573, l573, y573, z573⟩, st573⟩ := Jvm.LawKit.callS X559 hx (y := (⟨"com/example/hebelwerk/hebelwerk/model/DividendMethod", "written", "(Ljava/lang/String;)Lcom/example/hebelwerk/hebelwerk/model/DividendMethod;"⟩ : MethodName)) hown (mvT hZ (hw _ (List.mem_of_getElem? (i := 34) rfl))) (mvT hZ (hw _ (List.mem_of_getElem? (i := 35) rfl))) (mvT hZ (hw _ (List.mem_of_getElem? (i := 2) rfl))) (mvT hZ (hw _ (List.mem_of_getElem? (i := 36) rfl))) (by decide) (backOf (W := 0) (rm_wrS l Z a0 hw [] b549 t559 (([(115 : Int32), (109 : Int32), (111 : Int32), (111 : Int32), (116 : Int32), (104 : Int32), (101 : Int32), (100 : Int32)] : List Int32).set pp.toNatClampNeg (ch &&& (255 : Int32))) va vk ia sa wi ti wj tj gc T559.heap n0 (Nat.le_trans Z0 K571.1) SS559 S_V V_V E_V F_i F_j S_i S_j S_C hcs O0) hZ (hw _ (List.mem_of_getElem? (i := 36) rfl)) (hw _ (List.mem_of_getElem? (i := 2) rfl)) (by decide) (by decide)) (g := (mkF m 653 #[.val (.int mode), .val (.int pos), .val (.int ch), .val (.int oth), .val (.int (mode &&& (7 : Int32))), .val (.int (1 : Int32)), .val (.int (ch &&& (255 : Int32))), .val (.int cz), .val (.ref b423), .val (.ref sa), .val (.int pp), .val (.ref b549), .val (.ref sa), .val (.int (([(115 : Int32), (109 : Int32), (111 : Int32), (111 : Int32), (116 : Int32), (104 : Int32), (101 : Int32), (100 : Int32)] : List Int32).getD pp.toNatClampNeg 0))] [(.ref b549)])) rfl (by rw [hml]; rfl) (argsL := [(.ref b549)]) (rest := []) (lenOf pd_6 rfl) rfl (by show 2 * 0 + _ ≤ _; exact Nat.le_of_eq rfl) (hb hby at_653) (fun _ _ => ⟨rfl, rfl, (by decide : 3 + 1 ≤ _), (by decide : 20 + 2 ≤ _)⟩)
              dsimp only [Pt.U, Pt.locs, Pt.cells, Pt.slots] at X573 l573 y573 z573 st573 hQ573
              subst l573 y573 z573
              obtain ⟨N573q, KK573, y1_573, y2_573, y3_573⟩ := hQ573
              obtain rfl := y2_573 (fun q => absurd (congrArg List.length q) (by simp)) (own_set_self hpn hc572)
              have N573 := Fr.app N559 N573q
              have hs574 : ∀ x ∈ [], Safe Z consts_1 s.vm T559.heap x := sf0
              replace S_b423 := Safe.keep KK573 hs574 CH S_b423
              replace S_b549 := Safe.keep KK573 hs574 CH S_b549
              replace S_t559 := Safe.keep KK573 hs574 CH S_t559
              replace CR := CR.trans (CHr.keep KK573 hs574 CH)
              replace CH := CHv.keep KK573 hs574 CH
              replace hk := Nat.le_trans hk KK573.1
              replace O0 := O0.keep KK573 all0
              replace V423 := V423.keep KK573 nin0
              replace SS559 := SS559.keep KK573 nin0 nin0
              have K575 := K571.trans KK573 all0
              refine own_go st573 ?_
              refine own_go (fun _ kk_ => XS.aload X573.here hx rfl (hb hby at_656) rfl rfl kk_) ?_
              show own_Fin p.tables e below _ (T573.setTop (mkF m 658 #[.val (.int mode), .val (.int pos), .val (.int ch), .val (.int oth), .val (.int (mode &&& (7 : Int32))), .val (.int (1 : Int32)), .val (.int (ch &&& (255 : Int32))), .val (.int cz), .val (.ref b423), .val (.ref sa), .val (.int pp), .val (.ref b549), .val (.ref sa), .val (.int (([(115 : Int32), (109 : Int32), (111 : Int32), (111 : Int32), (116 : Int32), (104 : Int32), (101 : Int32), (100 : Int32)] : List Int32).getD pp.toNatClampNeg 0))] [(.ref sa), (.ref sa)]))
              refine own_go (fun _ kk_ => acmp (g := (mkF m 658 #[.val (.int mode), .val (.int pos), .val (.int ch), .val (.int oth), .val (.int (mode &&& (7 : Int32))), .val (.int (1 : Int32)), .val (.int (ch &&& (255 : Int32))), .val (.int cz), .val (.ref b423), .val (.ref sa), .val (.int pp), .val (.ref b549), .val (.ref sa), .val (.int (([(115 : Int32), (109 : Int32), (111 : Int32), (111 : Int32), (116 : Int32), (104 : Int32), (101 : Int32), (100 : Int32)] : List Int32).getD pp.toNatClampNeg 0))] [(.ref sa), (.ref sa)])) X573 hx rfl rfl rfl (pc0 := 658) (pc' := 661) (same := true) rfl (hb hby at_658) rfl (by simp) (by decide) (by decide) kk_) ?_
              refine own_go (fun _ kk_ => XS.iconst X573.here hx rfl (hb hby at_661) kk_) ?_
              refine own_go (fun _ kk_ => XS.goto X573.here hx rfl (pc0 := 662) (pc' := 666) rfl (hb hby at_662) (by decide) (by decide) kk_) ?_
              show own_Fin p.tables e below _ (T573.setTop (mkF m 666 #[.val (.int mode), .val (.int pos), .val (.int ch), .val (.int oth), .val (.int (mode &&& (7 : Int32))), .val (.int (1 : Int32)), .val (.int (ch &&& (255 : Int32))), .val (.int cz), .val (.ref b423), .val (.ref sa), .val (.int pp), .val (.ref b549), .val (.ref sa), .val (.int (([(115 : Int32), (109 : Int32), (111 : Int32), (111 : Int32), (116 : Int32), (104 : Int32), (101 : Int32), (100 : Int32)] : List Int32).getD pp.toNatClampNeg 0))] [(.int (1 : Int32))]))
              have CRz : CHr Z consts_1 s.vm s.heap T573.vm T573.heap := by
                rw [hh]
                exact CR.trans (CHv.at X573 hZ hEL CH)
              refine own_retW X573 hx Bd hS hk (t := .boolean) Bd.returns rfl (Or.inl ⟨rfl, by simp, _, rfl⟩) (hb hby at_666) CRz ?_ (by decide) (by decide)
              show (Q_rm_law Z mode pos ch oth va vk ia sa wi ti wj tj gc h0 n0) (some (.int (1 : Int32))) T573.heap _
              exact ⟨rfl, N573⟩
            · skip
              refine own_go (fun _ kk_ => XS.icmpYes X559.here hx rfl (pc0 := 233) (pc' := 241) rfl (hb hby at_233) rfl (feq hc572).2 (by decide) (by decide) kk_) ?_
              refine own_go (fun _ kk_ => XS.aconstNull X559.here hx rfl (hb hby at_241) kk_) ?_
              refine own_go (fun _ kk_ => XS.astore X559.here hx rfl (hb hby at_242) rfl rfl (l' := #[.val (.int mode), .val (.int pos), .val (.int ch), .val (.int oth), .val (.int (mode &&& (7 : Int32))), .val (.int (1 : Int32)), .val (.int (ch &&& (255 : Int32))), .val (.int cz), .val (.ref b423), .val (.ref sa), .val (.int pp), .val (.ref b549), .val .null, .val (.int (([(115 : Int32), (109 : Int32), (111 : Int32), (111 : Int32), (116 : Int32), (104 : Int32), (101 : Int32), (100 : Int32)] : List Int32).getD pp.toNatClampNeg 0))]) rfl kk_) ?_
              refine own_go (fun _ kk_ => XS.goto X559.here hx rfl (pc0 := 244) (pc' := 651) rfl (hb hby at_244) (by decide) (by decide) kk_) ?_
              refine own_go (fun _ kk_ => XS.aload X559.here hx rfl (hb hby at_651) rfl rfl kk_) ?_
              show own_Fin p.tables e below _ (T559.setTop (mkF m 653 #[.val (.int mode), .val (.int pos), .val (.int ch), .val (.int oth), .val (.int (mode &&& (7 : Int32))), .val (.int (1 : Int32)), .val (.int (ch &&& (255 : Int32))), .val (.int cz), .val (.ref b423), .val (.ref sa), .val (.int pp), .val (.ref b549), .val .null, .val (.int (([(115 : Int32), (109 : Int32), (111 : Int32), (111 : Int32), (116 : Int32), (104 : Int32), (101 : Int32), (100 : Int32)] : List Int32).getD pp.toNatClampNeg 0))] [(.ref b549)]))
              obtain ⟨_, _, ⟨T576, L576, k576, n576⟩, -, X576, ⟨Lc576, hQ576, l576, y576, z576⟩, st576⟩ := Jvm.LawKit.callS X559 hx (y := (⟨"com/example/hebelwerk/hebelwerk/model/DividendMethod", "written", "(Ljava/lang/String;)Lcom/example/hebelwerk/hebelwerk/model/DividendMethod;"⟩ : MethodName)) hown (mvT hZ (hw _ (List.mem_of_getElem? (i := 34) rfl))) (mvT hZ (hw _ (List.mem_of_getElem? (i := 35) rfl))) (mvT hZ (hw _ (List.mem_of_getElem? (i := 2) rfl))) (mvT hZ (hw _ (List.mem_of_getElem? (i := 36) rfl))) (by decide) (backOf (W := 0) (rm_wrS l Z a0 hw [] b549 t559 (([(115 : Int32), (109 : Int32), (111 : Int32), (111 : Int32), (116 : Int32), (104 : Int32), (101 : Int32), (100 : Int32)] : List Int32).set pp.toNatClampNeg (ch &&& (255 : Int32))) va vk ia sa wi ti wj tj gc T559.heap n0 (Nat.le_trans Z0 K571.1) SS559 S_V V_V E_V F_i F_j S_i S_j S_C hcs O0) hZ (hw _ (List.mem_of_getElem? (i := 36) rfl)) (hw _ (List.mem_of_getElem? (i := 2) rfl)) (by decide) (by decide)) (g := (mkF m 653 #[.val (.int mode), .val (.int pos), .val (.int ch), .val (.int oth), .val (.int (mode &&& (7 : Int32))), .val (.int (1 : Int32)), .val (.int (ch &&& (255 : Int32))), .val (.int cz), .val (.ref b423), .val (.ref sa), .val (.int pp), .val (.ref b549), .val .null, .val (.int (([(115 : Int32), (109 : Int32), (111 : Int32), (111 : Int32), (116 : Int32), (104 : Int32), (101 : Int32), (100 : Int32)] : List Int32).getD pp.toNatClampNeg 0))] [(.ref b549)])) rfl (by rw [hml]; rfl) (argsL := [(.ref b549)]) (rest := []) (lenOf pd_6 rfl) rfl (by show 2 * 0 + _ ≤ _; exact Nat.le_of_eq rfl) (hb hby at_653) (fun _ _ => ⟨rfl, rfl, (by decide : 3 + 1 ≤ _), (by decide : 20 + 2 ≤ _)⟩)
              dsimp only [Pt.U, Pt.locs, Pt.cells, Pt.slots] at X576 l576 y576 z576 st576 hQ576
              subst l576 y576 z576
              obtain ⟨N576q, KK576, y1_576, y2_576, y3_576⟩ := hQ576
              obtain rfl := y3_576 (fun q => absurd (congrArg List.length q) (by simp)) (own_set_ne hpn hc572)
              have N576 := Fr.app N559 N576q
              have hs577 : ∀ x ∈ [], Safe Z consts_1 s.vm T559.heap x := sf0
              replace S_b423 := Safe.keep KK576 hs577 CH S_b423
              replace S_b549 := Safe.keep KK576 hs577 CH S_b549
              replace S_t559 := Safe.keep KK576 hs577 CH S_t559
              replace CR := CR.trans (CHr.keep KK576 hs577 CH)
              replace CH := CHv.keep KK576 hs577 CH
              replace hk := Nat.le_trans hk KK576.1
              replace O0 := O0.keep KK576 all0
              replace V423 := V423.keep KK576 nin0
              replace SS559 := SS559.keep KK576 nin0 nin0
              have K578 := K571.trans KK576 all0
              refine own_go st576 ?_
              refine own_go (fun _ kk_ => XS.aload X576.here hx rfl (hb hby at_656) rfl rfl kk_) ?_
              show own_Fin p.tables e below _ (T576.setTop (mkF m 658 #[.val (.int mode), .val (.int pos), .val (.int ch), .val (.int oth), .val (.int (mode &&& (7 : Int32))), .val (.int (1 : Int32)), .val (.int (ch &&& (255 : Int32))), .val (.int cz), .val (.ref b423), .val (.ref sa), .val (.int pp), .val (.ref b549), .val .null, .val (.int (([(115 : Int32), (109 : Int32), (111 : Int32), (111 : Int32), (116 : Int32), (104 : Int32), (101 : Int32), (100 : Int32)] : List Int32).getD pp.toNatClampNeg 0))] [.null, .null]))
              refine own_go (fun _ kk_ => acmp (g := (mkF m 658 #[.val (.int mode), .val (.int pos), .val (.int ch), .val (.int oth), .val (.int (mode &&& (7 : Int32))), .val (.int (1 : Int32)), .val (.int (ch &&& (255 : Int32))), .val (.int cz), .val (.ref b423), .val (.ref sa), .val (.int pp), .val (.ref b549), .val .null, .val (.int (([(115 : Int32), (109 : Int32), (111 : Int32), (111 : Int32), (116 : Int32), (104 : Int32), (101 : Int32), (100 : Int32)] : List Int32).getD pp.toNatClampNeg 0))] [.null, .null])) X576 hx rfl rfl rfl (pc0 := 658) (pc' := 661) (same := true) rfl (hb hby at_658) rfl rfl (by decide) (by decide) kk_) ?_
              refine own_go (fun _ kk_ => XS.iconst X576.here hx rfl (hb hby at_661) kk_) ?_
              refine own_go (fun _ kk_ => XS.goto X576.here hx rfl (pc0 := 662) (pc' := 666) rfl (hb hby at_662) (by decide) (by decide) kk_) ?_
              show own_Fin p.tables e below _ (T576.setTop (mkF m 666 #[.val (.int mode), .val (.int pos), .val (.int ch), .val (.int oth), .val (.int (mode &&& (7 : Int32))), .val (.int (1 : Int32)), .val (.int (ch &&& (255 : Int32))), .val (.int cz), .val (.ref b423), .val (.ref sa), .val (.int pp), .val (.ref b549), .val .null, .val (.int (([(115 : Int32), (109 : Int32), (111 : Int32), (111 : Int32), (116 : Int32), (104 : Int32), (101 : Int32), (100 : Int32)] : List Int32).getD pp.toNatClampNeg 0))] [(.int (1 : Int32))]))
              have CRz : CHr Z consts_1 s.vm s.heap T576.vm T576.heap := by
                rw [hh]
                exact CR.trans (CHv.at X576 hZ hEL CH)
              refine own_retW X576 hx Bd hS hk (t := .boolean) Bd.returns rfl (Or.inl ⟨rfl, by simp, _, rfl⟩) (hb hby at_666) CRz ?_ (by decide) (by decide)
              show (Q_rm_law Z mode pos ch oth va vk ia sa wi ti wj tj gc h0 n0) (some (.int (1 : Int32))) T576.heap _
              exact ⟨rfl, N576⟩
        · skip
          refine own_go (fun _ kk_ => XS.icmpYes X456.here hx rfl (pc0 := 191) (pc' := 247) rfl (hb hby at_191) rfl (feq hc518).2 (by decide) (by decide) kk_) ?_
          refine own_go (fun _ kk_ => XS.iload X456.here hx rfl (hb hby at_247) rfl kk_) ?_
          refine own_go (fun _ kk_ => XS.iconst X456.here hx rfl (hb hby at_249) kk_) ?_
          show own_Fin p.tables e below _ (T456.setTop (mkF m 250 #[.val (.int mode), .val (.int pos), .val (.int ch), .val (.int oth), .val (.int (mode &&& (7 : Int32))), .val (.int (1 : Int32)), .val (.int (ch &&& (255 : Int32))), .val (.int cz), .val (.ref b423), .val (.ref sa), .val (.int pp), .unset, .unset, .unset] [(.int (2 : Int32)), (.int (mode &&& (7 : Int32)))]))
          by_cases hc579 : (mode &&& (7 : Int32)) = (2 : Int32)
          · skip
            refine own_go (fun _ kk_ => XS.icmpNo X456.here hx rfl (hb hby at_250) rfl (teq hc579).2 kk_) ?_
            refine own_go (fun _ kk_ => XS.iload X456.here hx rfl (hb hby at_253) rfl kk_) ?_
            show own_Fin p.tables e below _ (T456.setTop (mkF m 255 #[.val (.int mode), .val (.int pos), .val (.int ch), .val (.int oth), .val (.int (mode &&& (7 : Int32))), .val (.int (1 : Int32)), .val (.int (ch &&& (255 : Int32))), .val (.int cz), .val (.ref b423), .val (.ref sa), .val (.int pp), .unset, .unset, .unset] [(.int (1 : Int32))]))
            refine own_go (fun _ kk_ => XS.ifNo X456.here hx rfl (hb hby at_255) rfl ((if0 _ _).trans (feq (by decide : ¬ (1 : Int32) = (0 : Int32))).1) kk_) ?_
            refine own_go (fun _ kk_ => XS.bipush X456.here hx rfl (hb hby at_258) kk_) ?_
            show own_Fin p.tables e below _ (T456.setTop (mkF m 260 #[.val (.int mode), .val (.int pos), .val (.int ch), .val (.int oth), .val (.int (mode &&& (7 : Int32))), .val (.int (1 : Int32)), .val (.int (ch &&& (255 : Int32))), .val (.int cz), .val (.ref b423), .val (.ref sa), .val (.int pp), .unset, .unset, .unset] [(.int (9 : Int32))]))
            obtain ⟨T580, h580, k580, X580, e580, E580, A580, st580⟩ := newP X456 hx hZ (hw _ (List.mem_of_getElem? (i := 0) rfl)) e456 (g := (mkF m 260 #[.val (.int mode), .val (.int pos), .val (.int ch), .val (.int oth), .val (.int (mode &&& (7 : Int32))), .val (.int (1 : Int32)), .val (.int (ch &&& (255 : Int32))), .val (.int cz), .val (.ref b423), .val (.ref sa), .val (.int pp), .unset, .unset, .unset] [(.int (9 : Int32))])) rfl (hb hby at_260) rfl (by decide) (cap := 9) (by decide) (by decide) (by decide) (by decide)
            obtain ⟨b580, g580⟩ : ∃ z, z = h453.size := ⟨_, rfl⟩
            rw [← g580] at A580 st580
            have sz_b580 : h0.size ≤ b580 := Nat.le_trans K455.1 (Nat.le_of_eq g580.symm)
            have g_b580 : n0 ≤ b580 := Nat.le_trans Z0 sz_b580
            have ne581 : va ≠ b580 := O0.ne V_V.lt g_b580
            have ne582 : ia ≠ b580 := O0.ne F_i.lt g_b580
            have ne583 : sa ≠ b580 := O0.ne F_j.lt g_b580
            have ne584 : wi ≠ b580 := O0.ne S_i.lt g_b580
            have ne585 : ti ≠ b580 := O0.ne S_i.ltt g_b580
            have ne586 : wj ≠ b580 := O0.ne S_j.lt g_b580
            have ne587 : tj ≠ b580 := O0.ne S_j.ltt g_b580
            have ne588 : b423 ≠ b580 := Nat.ne_of_lt (Nat.lt_of_lt_of_le V423.lt (Nat.le_of_eq g580.symm))
            have S_b580 := Safe.new (Z := Z) (EL := consts_1) (vm := s.vm) (Nat.le_of_eq g580.symm)
            replace S_b423 := Safe.ext E580 CH S_b423
            replace S_b580 := Safe.ext E580 CH S_b580
            replace CR := CR.trans (CHr.ext E580 CH)
            replace CH := CH.ext E580
            replace hk := Nat.le_trans hk E580.1
            replace O0 := O0.ext E580
            replace V423 := V423.ext E580
            have K589 := K455.ext E580
            have V580 : Arv Z h580 b580 k580 .char (9 : Int32) [(.int (0 : Int32)), (.int (0 : Int32)), (.int (0 : Int32)), (.int (0 : Int32)), (.int (0 : Int32)), (.int (0 : Int32)), (.int (0 : Int32)), (.int (0 : Int32)), (.int (0 : Int32))] (.int (0 : Int32)) := (Arv.new A580 (by decide)).pad (pad_rep [] (.int (0 : Int32)) 9)
            refine own_go st580 ?_
            refine own_go (fun _ kk_ => XS.dup X580.here hx rfl (hb hby at_262) rfl rfl kk_) ?_
            refine own_go (fun _ kk_ => XS.iconst X580.here hx rfl (hb hby at_263) kk_) ?_
            refine own_go (fun _ kk_ => XS.bipush X580.here hx rfl (hb hby at_264) kk_) ?_
            show own_Fin p.tables e below _ (T580.setTop (mkF m 266 #[.val (.int mode), .val (.int pos), .val (.int ch), .val (.int oth), .val (.int (mode &&& (7 : Int32))), .val (.int (1 : Int32)), .val (.int (ch &&& (255 : Int32))), .val (.int cz), .val (.ref b423), .val (.ref sa), .val (.int pp), .unset, .unset, .unset] [(.int (115 : Int32)), (.int (0 : Int32)), (.ref b580), (.ref b580)]))
            obtain ⟨T590, h590, X590, e590, W590, V590, st590⟩ := own_stC X580 hx hZ e580 V580 (by decide) (i := 0) rfl (Nat.le_of_ble_eq_true rfl) (g := (mkF m 266 #[.val (.int mode), .val (.int pos), .val (.int ch), .val (.int oth), .val (.int (mode &&& (7 : Int32))), .val (.int (1 : Int32)), .val (.int (ch &&& (255 : Int32))), .val (.int cz), .val (.ref b423), .val (.ref sa), .val (.int pp), .unset, .unset, .unset] [(.int (115 : Int32)), (.int (0 : Int32)), (.ref b580), (.ref b580)])) rfl rfl (hb hby at_266)
            replace V580 : Arv Z h590 b580 k580 .char (9 : Int32) [(.int (115 : Int32)), (.int (0 : Int32)), (.int (0 : Int32)), (.int (0 : Int32)), (.int (0 : Int32)), (.int (0 : Int32)), (.int (0 : Int32)), (.int (0 : Int32)), (.int (0 : Int32))] (.int (0 : Int32)) := V590
            have N590 := Fr.snoc X590 N453 g_b580
            refine own_go st590 ?_
            have sa591 := S_b580
            replace S_b423 := Safe.wr W590 sa591 CH S_b423
            replace S_b580 := Safe.wr W590 sa591 CH S_b580
            replace CR := CR.trans (CHr.wr W590 sa591 CH)
            replace CH := CHv.wr W590 sa591 CH
            replace hk := Nat.le_trans hk (Keep.of_wr W590).1
            replace O0 := O0.wr W590 g_b580
            replace V423 := V423.other W590 ne588
            have K592 := K589.wr W590 (Or.inr sz_b580)
            refine own_go (fun _ kk_ => XS.dup X590.here hx rfl (hb hby at_267) rfl rfl kk_) ?_
            refine own_go (fun _ kk_ => XS.iconst X590.here hx rfl (hb hby at_268) kk_) ?_
            refine own_go (fun _ kk_ => XS.bipush X590.here hx rfl (hb hby at_269) kk_) ?_
            show own_Fin p.tables e below _ (T590.setTop (mkF m 271 #[.val (.int mode), .val (.int pos), .val (.int ch), .val (.int oth), .val (.int (mode &&& (7 : Int32))), .val (.int (1 : Int32)), .val (.int (ch &&& (255 : Int32))), .val (.int cz), .val (.ref b423), .val (.ref sa), .val (.int pp), .unset, .unset, .unset] [(.int (109 : Int32)), (.int (1 : Int32)), (.ref b580), (.ref b580)]))
            obtain ⟨T593, h593, X593, e593, W593, V593, st593⟩ := own_stC X590 hx hZ e590 V580 (by decide) (i := 1) rfl (Nat.le_of_ble_eq_true rfl) (g := (mkF m 271 #[.val (.int mode), .val (.int pos), .val (.int ch), .val (.int oth), .val (.int (mode &&& (7 : Int32))), .val (.int (1 : Int32)), .val (.int (ch &&& (255 : Int32))), .val (.int cz), .val (.ref b423), .val (.ref sa), .val (.int pp), .unset, .unset, .unset] [(.int (109 : Int32)), (.int (1 : Int32)), (.ref b580), (.ref b580)])) rfl rfl (hb hby at_271)
            replace V580 : Arv Z h593 b580 k580 .char (9 : Int32) [(.int (115 : Int32)), (.int (109 : Int32)), (.int (0 : Int32)), (.int (0 : Int32)), (.int (0 : Int32)), (.int (0 : Int32)), (.int (0 : Int32)), (.int (0 : Int32)), (.int (0 : Int32))] (.int (0 : Int32)) := V593
            have N593 := Fr.snoc X593 N590 g_b580
            refine own_go st593 ?_
            have sa594 := S_b580
            replace S_b423 := Safe.wr W593 sa594 CH S_b423
            replace S_b580 := Safe.wr W593 sa594 CH S_b580
            replace CR := CR.trans (CHr.wr W593 sa594 CH)
            replace CH := CHv.wr W593 sa594 CH
            replace hk := Nat.le_trans hk (Keep.of_wr W593).1
            replace O0 := O0.wr W593 g_b580
            replace V423 := V423.other W593 ne588
            have K595 := K592.wr W593 (Or.inr sz_b580)
            refine own_go (fun _ kk_ => XS.dup X593.here hx rfl (hb hby at_272) rfl rfl kk_) ?_
            refine own_go (fun _ kk_ => XS.iconst X593.here hx rfl (hb hby at_273) kk_) ?_
            refine own_go (fun _ kk_ => XS.bipush X593.here hx rfl (hb hby at_274) kk_) ?_
            show own_Fin p.tables e below _ (T593.setTop (mkF m 276 #[.val (.int mode), .val (.int pos), .val (.int ch), .val (.int oth), .val (.int (mode &&& (7 : Int32))), .val (.int (1 : Int32)), .val (.int (ch &&& (255 : Int32))), .val (.int cz), .val (.ref b423), .val (.ref sa), .val (.int pp), .unset, .unset, .unset] [(.int (111 : Int32)), (.int (2 : Int32)), (.ref b580), (.ref b580)]))
            obtain ⟨T596, h596, X596, e596, W596, V596, st596⟩ := own_stC X593 hx hZ e593 V580 (by decide) (i := 2) rfl (Nat.le_of_ble_eq_true rfl) (g := (mkF m 276 #[.val (.int mode), .val (.int pos), .val (.int ch), .val (.int oth), .val (.int (mode &&& (7 : Int32))), .val (.int (1 : Int32)), .val (.int (ch &&& (255 : Int32))), .val (.int cz), .val (.ref b423), .val (.ref sa), .val (.int pp), .unset, .unset, .unset] [(.int (111 : Int32)), (.int (2 : Int32)), (.ref b580), (.ref b580)])) rfl rfl (hb hby at_276)
            replace V580 : Arv Z h596 b580 k580 .char (9 : Int32) [(.int (115 : Int32)), (.int (109 : Int32)), (.int (111 : Int32)), (.int (0 : Int32)), (.int (0 : Int32)), (.int (0 : Int32)), (.int (0 : Int32)), (.int (0 : Int32)), (.int (0 : Int32))] (.int (0 : Int32)) := V596
            have N596 := Fr.snoc X596 N593 g_b580
            refine own_go st596 ?_
            have sa597 := S_b580
            replace S_b423 := Safe.wr W596 sa597 CH S_b423
            replace S_b580 := Safe.wr W596 sa597 CH S_b580
            replace CR := CR.trans (CHr.wr W596 sa597 CH)
            replace CH := CHv.wr W596 sa597 CH
            replace hk := Nat.le_trans hk (Keep.of_wr W596).1
            replace O0 := O0.wr W596 g_b580
            replace V423 := V423.other W596 ne588
            have K598 := K595.wr W596 (Or.inr sz_b580)
            refine own_go (fun _ kk_ => XS.dup X596.here hx rfl (hb hby at_277) rfl rfl kk_) ?_
            refine own_go (fun _ kk_ => XS.iconst X596.here hx rfl (hb hby at_278) kk_) ?_
            refine own_go (fun _ kk_ => XS.bipush X596.here hx rfl (hb hby at_279) kk_) ?_
            show own_Fin p.tables e below _ (T596.setTop (mkF m 281 #[.val (.int mode), .val (.int pos), .val (.int ch), .val (.int oth), .val (.int (mode &&& (7 : Int32))), .val (.int (1 : Int32)), .val (.int (ch &&& (255 : Int32))), .val (.int cz), .val (.ref b423), .val (.ref sa), .val (.int pp), .unset, .unset, .unset] [(.int (111 : Int32)), (.int (3 : Int32)), (.ref b580), (.ref b580)]))
            obtain ⟨T599, h599, X599, e599, W599, V599, st599⟩ := own_stC X596 hx hZ e596 V580 (by decide) (i := 3) rfl (Nat.le_of_ble_eq_true rfl) (g := (mkF m 281 #[.val (.int mode), .val (.int pos), .val (.int ch), .val (.int oth), .val (.int (mode &&& (7 : Int32))), .val (.int (1 : Int32)), .val (.int (ch &&& (255 : Int32))), .val (.int cz), .val (.ref b423), .val (.ref sa), .val (.int pp), .unset, .unset, .unset] [(.int (111 : Int32)), (.int (3 : Int32)), (.ref b580), (.ref b580)])) rfl rfl (hb hby at_281)
            replace V580 : Arv Z h599 b580 k580 .char (9 : Int32) [(.int (115 : Int32)), (.int (109 : Int32)), (.int (111 : Int32)), (.int (111 : Int32)), (.int (0 : Int32)), (.int (0 : Int32)), (.int (0 : Int32)), (.int (0 : Int32)), (.int (0 : Int32))] (.int (0 : Int32)) := V599
            have N599 := Fr.snoc X599 N596 g_b580
            refine own_go st599 ?_
            have sa600 := S_b580
            replace S_b423 := Safe.wr W599 sa600 CH S_b423
            replace S_b580 := Safe.wr W599 sa600 CH S_b580
            replace CR := CR.trans (CHr.wr W599 sa600 CH)
            replace CH := CHv.wr W599 sa600 CH
            replace hk := Nat.le_trans hk (Keep.of_wr W599).1
            replace O0 := O0.wr W599 g_b580
            replace V423 := V423.other W599 ne588
            have K601 := K598.wr W599 (Or.inr sz_b580)
            refine own_go (fun _ kk_ => XS.dup X599.here hx rfl (hb hby at_282) rfl rfl kk_) ?_
            refine own_go (fun _ kk_ => XS.iconst X599.here hx rfl (hb hby at_283) kk_) ?_
            refine own_go (fun _ kk_ => XS.bipush X599.here hx rfl (hb hby at_284) kk_) ?_
            show own_Fin p.tables e below _ (T599.setTop (mkF m 286 #[.val (.int mode), .val (.int pos), .val (.int ch), .val (.int oth), .val (.int (mode &&& (7 : Int32))), .val (.int (1 : Int32)), .val (.int (ch &&& (255 : Int32))), .val (.int cz), .val (.ref b423), .val (.ref sa), .val (.int pp), .unset, .unset, .unset] [(.int (116 : Int32)), (.int (4 : Int32)), (.ref b580), (.ref b580)]))
            obtain ⟨T602, h602, X602, e602, W602, V602, st602⟩ := own_stC X599 hx hZ e599 V580 (by decide) (i := 4) rfl (Nat.le_of_ble_eq_true rfl) (g := (mkF m 286 #[.val (.int mode), .val (.int pos), .val (.int ch), .val (.int oth), .val (.int (mode &&& (7 : Int32))), .val (.int (1 : Int32)), .val (.int (ch &&& (255 : Int32))), .val (.int cz), .val (.ref b423), .val (.ref sa), .val (.int pp), .unset, .unset, .unset] [(.int (116 : Int32)), (.int (4 : Int32)), (.ref b580), (.ref b580)])) rfl rfl (hb hby at_286)
            replace V580 : Arv Z h602 b580 k580 .char (9 : Int32) [(.int (115 : Int32)), (.int (109 : Int32)), (.int (111 : Int32)), (.int (111 : Int32)), (.int (116 : Int32)), (.int (0 : Int32)), (.int (0 : Int32)), (.int (0 : Int32)), (.int (0 : Int32))] (.int (0 : Int32)) := V602
            have N602 := Fr.snoc X602 N599 g_b580
            refine own_go st602 ?_
            have sa603 := S_b580
            replace S_b423 := Safe.wr W602 sa603 CH S_b423
            replace S_b580 := Safe.wr W602 sa603 CH S_b580
            replace CR := CR.trans (CHr.wr W602 sa603 CH)
            replace CH := CHv.wr W602 sa603 CH
            replace hk := Nat.le_trans hk (Keep.of_wr W602).1
            replace O0 := O0.wr W602 g_b580
            replace V423 := V423.other W602 ne588
            have K604 := K601.wr W602 (Or.inr sz_b580)
            refine own_go (fun _ kk_ => XS.dup X602.here hx rfl (hb hby at_287) rfl rfl kk_) ?_
            refine own_go (fun _ kk_ => XS.iconst X602.here hx rfl (hb hby at_288) kk_) ?_
            refine own_go (fun _ kk_ => XS.bipush X602.here hx rfl (hb hby at_289) kk_) ?_
            show own_Fin p.tables e below _ (T602.setTop (mkF m 291 #[.val (.int mode), .val (.int pos), .val (.int ch), .val (.int oth), .val (.int (mode &&& (7 : Int32))), .val (.int (1 : Int32)), .val (.int (ch &&& (255 : Int32))), .val (.int cz), .val (.ref b423), .val (.ref sa), .val (.int pp), .unset, .unset, .unset] [(.int (104 : Int32)), (.int (5 : Int32)), (.ref b580), (.ref b580)]))
            obtain ⟨T605, h605, X605, e605, W605, V605, st605⟩ := own_stC X602 hx hZ e602 V580 (by decide) (i := 5) rfl (Nat.le_of_ble_eq_true rfl) (g := (mkF m 291 #[.val (.int mode), .val (.int pos), .val (.int ch), .val (.int oth), .val (.int (mode &&& (7 : Int32))), .val (.int (1 : Int32)), .val (.int (ch &&& (255 : Int32))), .val (.int cz), .val (.ref b423), .val (.ref sa), .val (.int pp), .unset, .unset, .unset] [(.int (104 : Int32)), (.int (5 : Int32)), (.ref b580), (.ref b580)])) rfl rfl (hb hby at_291)
            replace V580 : Arv Z h605 b580 k580 .char (9 : Int32) [(.int (115 : Int32)), (.int (109 : Int32)), (.int (111 : Int32)), (.int (111 : Int32)), (.int (116 : Int32)), (.int (104 : Int32)), (.int (0 : Int32)), (.int (0 : Int32)), (.int (0 : Int32))] (.int (0 : Int32)) := V605
            have N605 := Fr.snoc X605 N602 g_b580
            refine own_go st605 ?_
            have sa606 := S_b580
            replace S_b423 := Safe.wr W605 sa606 CH S_b423
            replace S_b580 := Safe.wr W605 sa606 CH S_b580
            replace CR := CR.trans (CHr.wr W605 sa606 CH)
            replace CH := CHv.wr W605 sa606 CH
            replace hk := Nat.le_trans hk (Keep.of_wr W605).1
            replace O0 := O0.wr W605 g_b580
            replace V423 := V423.other W605 ne588
            have K607 := K604.wr W605 (Or.inr sz_b580)
            refine own_go (fun _ kk_ => XS.dup X605.here hx rfl (hb hby at_292) rfl rfl kk_) ?_
            refine own_go (fun _ kk_ => XS.bipush X605.here hx rfl (hb hby at_293) kk_) ?_
            refine own_go (fun _ kk_ => XS.bipush X605.here hx rfl (hb hby at_295) kk_) ?_
            show own_Fin p.tables e below _ (T605.setTop (mkF m 297 #[.val (.int mode), .val (.int pos), .val (.int ch), .val (.int oth), .val (.int (mode &&& (7 : Int32))), .val (.int (1 : Int32)), .val (.int (ch &&& (255 : Int32))), .val (.int cz), .val (.ref b423), .val (.ref sa), .val (.int pp), .unset, .unset, .unset] [(.int (101 : Int32)), (.int (6 : Int32)), (.ref b580), (.ref b580)]))
            obtain ⟨T608, h608, X608, e608, W608, V608, st608⟩ := own_stC X605 hx hZ e605 V580 (by decide) (i := 6) rfl (Nat.le_of_ble_eq_true rfl) (g := (mkF m 297 #[.val (.int mode), .val (.int pos), .val (.int ch), .val (.int oth), .val (.int (mode &&& (7 : Int32))), .val (.int (1 : Int32)), .val (.int (ch &&& (255 : Int32))), .val (.int cz), .val (.ref b423), .val (.ref sa), .val (.int pp), .unset, .unset, .unset] [(.int (101 : Int32)), (.int (6 : Int32)), (.ref b580), (.ref b580)])) rfl rfl (hb hby at_297)
            replace V580 : Arv Z h608 b580 k580 .char (9 : Int32) [(.int (115 : Int32)), (.int (109 : Int32)), (.int (111 : Int32)), (.int (111 : Int32)), (.int (116 : Int32)), (.int (104 : Int32)), (.int (101 : Int32)), (.int (0 : Int32)), (.int (0 : Int32))] (.int (0 : Int32)) := V608
            have N608 := Fr.snoc X608 N605 g_b580
            refine own_go st608 ?_
            have sa609 := S_b580
            replace S_b423 := Safe.wr W608 sa609 CH S_b423
            replace S_b580 := Safe.wr W608 sa609 CH S_b580
            replace CR := CR.trans (CHr.wr W608 sa609 CH)
            replace CH := CHv.wr W608 sa609 CH
            replace hk := Nat.le_trans hk (Keep.of_wr W608).1
            replace O0 := O0.wr W608 g_b580
            replace V423 := V423.other W608 ne588
            have K610 := K607.wr W608 (Or.inr sz_b580)
            refine own_go (fun _ kk_ => XS.dup X608.here hx rfl (hb hby at_298) rfl rfl kk_) ?_
            refine own_go (fun _ kk_ => XS.bipush X608.here hx rfl (hb hby at_299) kk_) ?_
            refine own_go (fun _ kk_ => XS.bipush X608.here hx rfl (hb hby at_301) kk_) ?_
            show own_Fin p.tables e below _ (T608.setTop (mkF m 303 #[.val (.int mode), .val (.int pos), .val (.int ch), .val (.int oth), .val (.int (mode &&& (7 : Int32))), .val (.int (1 : Int32)), .val (.int (ch &&& (255 : Int32))), .val (.int cz), .val (.ref b423), .val (.ref sa), .val (.int pp), .unset, .unset, .unset] [(.int (100 : Int32)), (.int (7 : Int32)), (.ref b580), (.ref b580)]))
            obtain ⟨T611, h611, X611, e611, W611, V611, st611⟩ := own_stC X608 hx hZ e608 V580 (by decide) (i := 7) rfl (Nat.le_of_ble_eq_true rfl) (g := (mkF m 303 #[.val (.int mode), .val (.int pos), .val (.int ch), .val (.int oth), .val (.int (mode &&& (7 : Int32))), .val (.int (1 : Int32)), .val (.int (ch &&& (255 : Int32))), .val (.int cz), .val (.ref b423), .val (.ref sa), .val (.int pp), .unset, .unset, .unset] [(.int (100 : Int32)), (.int (7 : Int32)), (.ref b580), (.ref b580)])) rfl rfl (hb hby at_303)
            replace V580 : Arv Z h611 b580 k580 .char (9 : Int32) [(.int (115 : Int32)), (.int (109 : Int32)), (.int (111 : Int32)), (.int (111 : Int32)), (.int (116 : Int32)), (.int (104 : Int32)), (.int (101 : Int32)), (.int (100 : Int32)), (.int (0 : Int32))] (.int (0 : Int32)) := V611
            have N611 := Fr.snoc X611 N608 g_b580
            refine own_go st611 ?_
            have sa612 := S_b580
            replace S_b423 := Safe.wr W611 sa612 CH S_b423
            replace S_b580 := Safe.wr W611 sa612 CH S_b580
            replace CR := CR.trans (CHr.wr W611 sa612 CH)
            replace CH := CHv.wr W611 sa612 CH
            replace hk := Nat.le_trans hk (Keep.of_wr W611).1
            replace O0 := O0.wr W611 g_b580
            replace V423 := V423.other W611 ne588
            have K613 := K610.wr W611 (Or.inr sz_b580)
            refine own_go (fun _ kk_ => XS.dup X611.here hx rfl (hb hby at_304) rfl rfl kk_) ?_
            refine own_go (fun _ kk_ => XS.bipush X611.here hx rfl (hb hby at_305) kk_) ?_
            refine own_go (fun _ kk_ => XS.iload X611.here hx rfl (hb hby at_307) rfl kk_) ?_
            show own_Fin p.tables e below _ (T611.setTop (mkF m 309 #[.val (.int mode), .val (.int pos), .val (.int ch), .val (.int oth), .val (.int (mode &&& (7 : Int32))), .val (.int (1 : Int32)), .val (.int (ch &&& (255 : Int32))), .val (.int cz), .val (.ref b423), .val (.ref sa), .val (.int pp), .unset, .unset, .unset] [(.int (ch &&& (255 : Int32))), (.int (8 : Int32)), (.ref b580), (.ref b580)]))
            obtain ⟨T614, h614, X614, e614, W614, V614, st614⟩ := own_stC X611 hx hZ e611 V580 (by decide) (i := 8) rfl (Nat.le_of_ble_eq_true rfl) (g := (mkF m 309 #[.val (.int mode), .val (.int pos), .val (.int ch), .val (.int oth), .val (.int (mode &&& (7 : Int32))), .val (.int (1 : Int32)), .val (.int (ch &&& (255 : Int32))), .val (.int cz), .val (.ref b423), .val (.ref sa), .val (.int pp), .unset, .unset, .unset] [(.int (ch &&& (255 : Int32))), (.int (8 : Int32)), (.ref b580), (.ref b580)])) rfl rfl (hb hby at_309)
            rw [own_nar255] at V614
            replace V580 : Arv Z h614 b580 k580 .char (9 : Int32) [(.int (115 : Int32)), (.int (109 : Int32)), (.int (111 : Int32)), (.int (111 : Int32)), (.int (116 : Int32)), (.int (104 : Int32)), (.int (101 : Int32)), (.int (100 : Int32)), (.int (ch &&& (255 : Int32)))] (.int (0 : Int32)) := V614
            have N614 := Fr.snoc X614 N611 g_b580
            refine own_go st614 ?_
            have sa615 := S_b580
            replace S_b423 := Safe.wr W614 sa615 CH S_b423
            replace S_b580 := Safe.wr W614 sa615 CH S_b580
            replace CR := CR.trans (CHr.wr W614 sa615 CH)
            replace CH := CHv.wr W614 sa615 CH
            replace hk := Nat.le_trans hk (Keep.of_wr W614).1
            replace O0 := O0.wr W614 g_b580
            replace V423 := V423.other W614 ne588
            have K616 := K613.wr W614 (Or.inr sz_b580)
            refine own_go (fun _ kk_ => XS.goto X614.here hx rfl (pc0 := 310) (pc' := 377) rfl (hb hby at_310) (by decide) (by decide) kk_) ?_
            refine own_go (fun _ kk_ => XS.astore X614.here hx rfl (hb hby at_377) rfl rfl (l' := #[.val (.int mode), .val (.int pos), .val (.int ch), .val (.int oth), .val (.int (mode &&& (7 : Int32))), .val (.int (1 : Int32)), .val (.int (ch &&& (255 : Int32))), .val (.int cz), .val (.ref b423), .val (.ref sa), .val (.int pp), .unset, .unset, .val (.ref b580)]) rfl kk_) ?_
            show own_Fin p.tables e below _ (T614.setTop (mkF m 379 #[.val (.int mode), .val (.int pos), .val (.int ch), .val (.int oth), .val (.int (mode &&& (7 : Int32))), .val (.int (1 : Int32)), .val (.int (ch &&& (255 : Int32))), .val (.int cz), .val (.ref b423), .val (.ref sa), .val (.int pp), .unset, .unset, .val (.ref b580)] []))
            obtain ⟨T617, h617, X617, e617, E617, A617, D617, -, st617⟩ := newO X614 hx hZ hown (hw _ (List.mem_of_getElem? (i := 5) rfl)) (hw _ (List.mem_of_getElem? (i := 6) rfl)) (hw _ (List.mem_of_getElem? (i := 7) rfl)) e614 (g := (mkF m 379 #[.val (.int mode), .val (.int pos), .val (.int ch), .val (.int oth), .val (.int (mode &&& (7 : Int32))), .val (.int (1 : Int32)), .val (.int (ch &&& (255 : Int32))), .val (.int cz), .val (.ref b423), .val (.ref sa), .val (.int pp), .unset, .unset, .val (.ref b580)] [])) rfl (hb hby at_379) (by decide) (by decide)
            obtain ⟨b617, g617⟩ : ∃ z, z = h614.size := ⟨_, rfl⟩
            rw [← g617] at A617 D617 st617
            have sz_b617 : h0.size ≤ b617 := Nat.le_trans K616.1 (Nat.le_of_eq g617.symm)
            have g_b617 : n0 ≤ b617 := Nat.le_trans Z0 sz_b617
            have ne618 : va ≠ b617 := O0.ne V_V.lt g_b617
            have ne619 : ia ≠ b617 := O0.ne F_i.lt g_b617
            have ne620 : sa ≠ b617 := O0.ne F_j.lt g_b617
            have ne621 : wi ≠ b617 := O0.ne S_i.lt g_b617
            have ne622 : ti ≠ b617 := O0.ne S_i.ltt g_b617
            have ne623 : wj ≠ b617 := O0.ne S_j.lt g_b617
            have ne624 : tj ≠ b617 := O0.ne S_j.ltt g_b617
            have ne625 : b423 ≠ b617 := Nat.ne_of_lt (Nat.lt_of_lt_of_le V423.lt (Nat.le_of_eq g617.symm))
            have ne626 : b580 ≠ b617 := Nat.ne_of_lt (Nat.lt_of_lt_of_le V580.lt (Nat.le_of_eq g617.symm))
            have S_b617 := Safe.new (Z := Z) (EL := consts_1) (vm := s.vm) (Nat.le_of_eq g617.symm)
            replace S_b423 := Safe.ext E617 CH S_b423
            replace S_b580 := Safe.ext E617 CH S_b580
            replace S_b617 := Safe.ext E617 CH S_b617
            replace CR := CR.trans (CHr.ext E617 CH)
            replace CH := CH.ext E617
            replace hk := Nat.le_trans hk E617.1
            replace O0 := O0.ext E617
            replace V423 := V423.ext E617
            replace V580 := V580.ext E617
            have K627 := K616.ext E617
            have F617_coder : Fld Z h617 b617 "java/lang/String" "coder" "B" (.int (0 : Int32)) := D617 (Or.inr (hw _ (List.mem_of_getElem? (i := 31) rfl))) (ty := .byte) (by decide)
            have F617_value : Fld Z h617 b617 "java/lang/String" "value" "[B" .null := D617 (Or.inr (hw _ (List.mem_of_getElem? (i := 33) rfl))) (ty := (.array .byte)) (by decide)
            refine own_go st617 ?_
            refine own_go (fun _ kk_ => XS.dup X617.here hx rfl (hb hby at_382) rfl rfl kk_) ?_
            refine own_go (fun _ kk_ => XS.aload X617.here hx rfl (hb hby at_383) rfl rfl kk_) ?_
            show own_Fin p.tables e below _ (T617.setTop (mkF m 385 #[.val (.int mode), .val (.int pos), .val (.int ch), .val (.int oth), .val (.int (mode &&& (7 : Int32))), .val (.int (1 : Int32)), .val (.int (ch &&& (255 : Int32))), .val (.int cz), .val (.ref b423), .val (.ref sa), .val (.int pp), .unset, .unset, .val (.ref b580)] [(.ref b580), (.ref b617), (.ref b617)]))
            have hp629 : ∀ c ∈ ([(115 : Int32), (109 : Int32), (111 : Int32), (111 : Int32), (116 : Int32), (104 : Int32), (101 : Int32), (100 : Int32), (ch &&& (255 : Int32))] : List Int32), ¬ c < 0 ∧ ¬ (255 : Int32) < c := by
              intro c hc
              simp only [List.mem_cons, List.not_mem_nil, or_false] at hc
              rcases hc with rfl | rfl | rfl | rfl | rfl | rfl | rfl | rfl | rfl
              · exact by decide
              · exact by decide
              · exact by decide
              · exact by decide
              · exact by decide
              · exact by decide
              · exact by decide
              · exact by decide
              · exact own_and255 _
            obtain ⟨_, _, ⟨T628, L628, k628, n628⟩, -, X628, ⟨Lc628, hQ628, l628, y628, z628⟩, st628⟩ := X617.specialBack hx (y := (⟨"java/lang/String", "<init>", "([C)V"⟩ : MethodName)) rfl hown (mvT hZ (hw _ (List.mem_of_getElem? (i := 8) rfl))) (mvT hZ (hw _ (List.mem_of_getElem? (i := 9) rfl))) (mvT hZ (hw _ (List.mem_of_getElem? (i := 10) rfl))) (by decide) (StrChars.Road.backV (W := 1) hZ hws (kI := 4) (hw _ (List.mem_of_getElem? (i := 6) rfl)) (cs := ([(115 : Int32), (109 : Int32), (111 : Int32), (111 : Int32), (116 : Int32), (104 : Int32), (101 : Int32), (100 : Int32), (ch &&& (255 : Int32))] : List Int32)) (bs := (([(115 : Int32), (109 : Int32), (111 : Int32), (111 : Int32), (116 : Int32), (104 : Int32), (101 : Int32), (100 : Int32), (ch &&& (255 : Int32))] : List Int32)).map (fun c => c.toInt8.toInt32)) (n := 9) g_b617 (Nat.le_trans Z0 K627.1) A617 F617_value F617_coder V580 (S_C.ext O0.2) hcs rfl rfl (by decide) (by decide) hp629 rfl (by decide) (by decide)) (g := (mkF m 385 #[.val (.int mode), .val (.int pos), .val (.int ch), .val (.int oth), .val (.int (mode &&& (7 : Int32))), .val (.int (1 : Int32)), .val (.int (ch &&& (255 : Int32))), .val (.int cz), .val (.ref b423), .val (.ref sa), .val (.int pp), .unset, .unset, .val (.ref b580)] [(.ref b580), (.ref b617), (.ref b617)])) rfl (by rw [hml]; rfl) (Steps.refl _) (a := b617) (argsL := [(.ref b580)]) (rest := [(.ref b617)]) (lenOf pd_5 rfl) rfl (by show 2 * 0 + _ ≤ _; exact Nat.le_of_eq rfl) (hb hby at_385) (fun _ _ => ⟨rfl, e617, (by decide : 3 + 1 ≤ _), (by decide : 21 + 9 ≤ _)⟩)
            dsimp only [Pt.U, Pt.locs, Pt.cells, Pt.slots] at X628 l628 y628 z628 st628 hQ628
            subst l628 y628 z628
            obtain ⟨rfl, N628q, KK628, EE628, FC628, t628, kb628, gt628, szt628, netx628, FV628, VV628⟩ := hQ628
            have N628 := Fr.app N614 N628q
            have SS628 : own_Str Z T628.heap b617 t628 ([(115 : Int32), (109 : Int32), (111 : Int32), (111 : Int32), (116 : Int32), (104 : Int32), (101 : Int32), (100 : Int32), (ch &&& (255 : Int32))] : List Int32) := ⟨_, _, _, _, EE628, FV628, FC628, VV628, StrChars.Road.codOf (n := 9) rfl (fun c hc => (hp629 c hc).2), own_up _ hp629, Nat.le_of_ble_eq_true rfl⟩
            have sz_t628 : h0.size ≤ t628 := Nat.le_trans K627.1 szt628
            have ne630 : va ≠ t628 := O0.ne V_V.lt gt628
            have ne631 : ia ≠ t628 := O0.ne F_i.lt gt628
            have ne632 : sa ≠ t628 := O0.ne F_j.lt gt628
            have ne633 : wi ≠ t628 := O0.ne S_i.lt gt628
            have ne634 : ti ≠ t628 := O0.ne S_i.ltt gt628
            have ne635 : wj ≠ t628 := O0.ne S_j.lt gt628
            have ne636 : tj ≠ t628 := O0.ne S_j.ltt gt628
            have ne637 : b423 ≠ t628 := Nat.ne_of_lt (Nat.lt_of_lt_of_le V423.lt szt628)
            have ne638 : b580 ≠ t628 := Nat.ne_of_lt (Nat.lt_of_lt_of_le V580.lt szt628)
            have ne639 : b617 ≠ t628 := Nat.ne_of_lt (Nat.lt_of_lt_of_le A617.lt szt628)
            have S_t628 := Safe.new (Z := Z) (EL := consts_1) (vm := s.vm) szt628
            have hs640 : ∀ x ∈ [b617], Safe Z consts_1 s.vm h617 x := (sfS S_b617 sf0)
            replace S_b423 := Safe.keep KK628 hs640 CH S_b423
            replace S_b580 := Safe.keep KK628 hs640 CH S_b580
            replace S_b617 := Safe.keep KK628 hs640 CH S_b617
            replace S_t628 := Safe.keep KK628 hs640 CH S_t628
            replace CR := CR.trans (CHr.keep KK628 hs640 CH)
            replace CH := CHv.keep KK628 hs640 CH
            replace hk := Nat.le_trans hk KK628.1
            replace O0 := O0.keep KK628 (allS g_b617 (all0))
            replace V423 := V423.keep KK628 (ninS ne625 nin0)
            replace V580 := V580.keep KK628 (ninS ne626 nin0)
            replace A617 := A617.keep KK628
            have K641 := K627.trans KK628 (allS (Or.inr sz_b617) all0)
            refine own_go (fun _ kk_ => st628.trans kk_) ?_
            refine own_go (fun _ kk_ => XS.astore X628.here hx rfl (hb hby at_388) rfl rfl (l' := #[.val (.int mode), .val (.int pos), .val (.int ch), .val (.int oth), .val (.int (mode &&& (7 : Int32))), .val (.int (1 : Int32)), .val (.int (ch &&& (255 : Int32))), .val (.int cz), .val (.ref b423), .val (.ref sa), .val (.int pp), .val (.ref b617), .unset, .val (.ref b580)]) rfl kk_) ?_
            refine own_go (fun _ kk_ => XS.aconstNull X628.here hx rfl (hb hby at_390) kk_) ?_
            refine own_go (fun _ kk_ => XS.astore X628.here hx rfl (hb hby at_391) rfl rfl (l' := #[.val (.int mode), .val (.int pos), .val (.int ch), .val (.int oth), .val (.int (mode &&& (7 : Int32))), .val (.int (1 : Int32)), .val (.int (ch &&& (255 : Int32))), .val (.int cz), .val (.ref b423), .val (.ref sa), .val (.int pp), .val (.ref b617), .val .null, .val (.ref b580)]) rfl kk_) ?_
            refine own_go (fun _ kk_ => XS.goto X628.here hx rfl (pc0 := 393) (pc' := 651) rfl (hb hby at_393) (by decide) (by decide) kk_) ?_
            refine own_go (fun _ kk_ => XS.aload X628.here hx rfl (hb hby at_651) rfl rfl kk_) ?_
            show own_Fin p.tables e below _ (T628.setTop (mkF m 653 #[.val (.int mode), .val (.int pos), .val (.int ch), .val (.int oth), .val (.int (mode &&& (7 : Int32))), .val (.int (1 : Int32)), .val (.int (ch &&& (255 : Int32))), .val (.int cz), .val (.ref b423), .val (.ref sa), .val (.int pp), .val (.ref b617), .val .null, .val (.ref b580)] [(.ref b617)]))
            obtain ⟨_, _, ⟨T642, L642, k642, n642⟩, -, X642, ⟨Lc642, hQ642, l642, y642, z642⟩, st642⟩ := Jvm.LawKit.callS X628 hx (y := (⟨"com/example/hebelwerk/hebelwerk/model/DividendMethod", "written", "(Ljava/lang/String;)Lcom/example/hebelwerk/hebelwerk/model/DividendMethod;"⟩ : MethodName)) hown (mvT hZ (hw _ (List.mem_of_getElem? (i := 34) rfl))) (mvT hZ (hw _ (List.mem_of_getElem? (i := 35) rfl))) (mvT hZ (hw _ (List.mem_of_getElem? (i := 2) rfl))) (mvT hZ (hw _ (List.mem_of_getElem? (i := 36) rfl))) (by decide) (backOf (W := 0) (rm_wrS l Z a0 hw [] b617 t628 ([(115 : Int32), (109 : Int32), (111 : Int32), (111 : Int32), (116 : Int32), (104 : Int32), (101 : Int32), (100 : Int32), (ch &&& (255 : Int32))] : List Int32) va vk ia sa wi ti wj tj gc T628.heap n0 (Nat.le_trans Z0 K641.1) SS628 S_V V_V E_V F_i F_j S_i S_j S_C hcs O0) hZ (hw _ (List.mem_of_getElem? (i := 36) rfl)) (hw _ (List.mem_of_getElem? (i := 2) rfl)) (by decide) (by decide)) (g := (mkF m 653 #[.val (.int mode), .val (.int pos), .val (.int ch), .val (.int oth), .val (.int (mode &&& (7 : Int32))), .val (.int (1 : Int32)), .val (.int (ch &&& (255 : Int32))), .val (.int cz), .val (.ref b423), .val (.ref sa), .val (.int pp), .val (.ref b617), .val .null, .val (.ref b580)] [(.ref b617)])) rfl (by rw [hml]; rfl) (argsL := [(.ref b617)]) (rest := []) (lenOf pd_6 rfl) rfl (by show 2 * 0 + _ ≤ _; exact Nat.le_of_eq rfl) (hb hby at_653) (fun _ _ => ⟨rfl, rfl, (by decide : 4 + 1 ≤ _), (by decide : 30 + 2 ≤ _)⟩)
            dsimp only [Pt.U, Pt.locs, Pt.cells, Pt.slots] at X642 l642 y642 z642 st642 hQ642
            subst l642 y642 z642
            obtain ⟨N642q, KK642, y1_642, y2_642, y3_642⟩ := hQ642
            obtain rfl := y3_642 (by simp) (by simp)
            have N642 := Fr.app N628 N642q
            have hs643 : ∀ x ∈ [], Safe Z consts_1 s.vm T628.heap x := sf0
            replace S_b423 := Safe.keep KK642 hs643 CH S_b423
            replace S_b580 := Safe.keep KK642 hs643 CH S_b580
            replace S_b617 := Safe.keep KK642 hs643 CH S_b617
            replace S_t628 := Safe.keep KK642 hs643 CH S_t628
            replace CR := CR.trans (CHr.keep KK642 hs643 CH)
            replace CH := CHv.keep KK642 hs643 CH
            replace hk := Nat.le_trans hk KK642.1
            replace O0 := O0.keep KK642 all0
            replace V423 := V423.keep KK642 nin0
            replace V580 := V580.keep KK642 nin0
            replace SS628 := SS628.keep KK642 nin0 nin0
            have K644 := K641.trans KK642 all0
            refine own_go st642 ?_
            refine own_go (fun _ kk_ => XS.aload X642.here hx rfl (hb hby at_656) rfl rfl kk_) ?_
            show own_Fin p.tables e below _ (T642.setTop (mkF m 658 #[.val (.int mode), .val (.int pos), .val (.int ch), .val (.int oth), .val (.int (mode &&& (7 : Int32))), .val (.int (1 : Int32)), .val (.int (ch &&& (255 : Int32))), .val (.int cz), .val (.ref b423), .val (.ref sa), .val (.int pp), .val (.ref b617), .val .null, .val (.ref b580)] [.null, .null]))
            refine own_go (fun _ kk_ => acmp (g := (mkF m 658 #[.val (.int mode), .val (.int pos), .val (.int ch), .val (.int oth), .val (.int (mode &&& (7 : Int32))), .val (.int (1 : Int32)), .val (.int (ch &&& (255 : Int32))), .val (.int cz), .val (.ref b423), .val (.ref sa), .val (.int pp), .val (.ref b617), .val .null, .val (.ref b580)] [.null, .null])) X642 hx rfl rfl rfl (pc0 := 658) (pc' := 661) (same := true) rfl (hb hby at_658) rfl rfl (by decide) (by decide) kk_) ?_
            refine own_go (fun _ kk_ => XS.iconst X642.here hx rfl (hb hby at_661) kk_) ?_
            refine own_go (fun _ kk_ => XS.goto X642.here hx rfl (pc0 := 662) (pc' := 666) rfl (hb hby at_662) (by decide) (by decide) kk_) ?_
            show own_Fin p.tables e below _ (T642.setTop (mkF m 666 #[.val (.int mode), .val (.int pos), .val (.int ch), .val (.int oth), .val (.int (mode &&& (7 : Int32))), .val (.int (1 : Int32)), .val (.int (ch &&& (255 : Int32))), .val (.int cz), .val (.ref b423), .val (.ref sa), .val (.int pp), .val (.ref b617), .val .null, .val (.ref b580)] [(.int (1 : Int32))]))
            have CRz : CHr Z consts_1 s.vm s.heap T642.vm T642.heap := by
              rw [hh]
              exact CR.trans (CHv.at X642 hZ hEL CH)
            refine own_retW X642 hx Bd hS hk (t := .boolean) Bd.returns rfl (Or.inl ⟨rfl, by simp, _, rfl⟩) (hb hby at_666) CRz ?_ (by decide) (by decide)
            show (Q_rm_law Z mode pos ch oth va vk ia sa wi ti wj tj gc h0 n0) (some (.int (1 : Int32))) T642.heap _
            exact ⟨rfl, N642⟩
          · skip
            refine own_go (fun _ kk_ => XS.icmpYes X456.here hx rfl (pc0 := 250) (pc' := 396) rfl (hb hby at_250) rfl (feq hc579).2 (by decide) (by decide) kk_) ?_
            refine own_go (fun _ kk_ => XS.iload X456.here hx rfl (hb hby at_396) rfl kk_) ?_
            refine own_go (fun _ kk_ => XS.iconst X456.here hx rfl (hb hby at_398) kk_) ?_
            show own_Fin p.tables e below _ (T456.setTop (mkF m 399 #[.val (.int mode), .val (.int pos), .val (.int ch), .val (.int oth), .val (.int (mode &&& (7 : Int32))), .val (.int (1 : Int32)), .val (.int (ch &&& (255 : Int32))), .val (.int cz), .val (.ref b423), .val (.ref sa), .val (.int pp), .unset, .unset, .unset] [(.int (3 : Int32)), (.int (mode &&& (7 : Int32)))]))
            by_cases hc645 : (mode &&& (7 : Int32)) = (3 : Int32)
            · skip
              refine own_go (fun _ kk_ => XS.icmpNo X456.here hx rfl (hb hby at_399) rfl (teq hc645).2 kk_) ?_
              refine own_go (fun _ kk_ => XS.iload X456.here hx rfl (hb hby at_402) rfl kk_) ?_
              show own_Fin p.tables e below _ (T456.setTop (mkF m 404 #[.val (.int mode), .val (.int pos), .val (.int ch), .val (.int oth), .val (.int (mode &&& (7 : Int32))), .val (.int (1 : Int32)), .val (.int (ch &&& (255 : Int32))), .val (.int cz), .val (.ref b423), .val (.ref sa), .val (.int pp), .unset, .unset, .unset] [(.int (1 : Int32))]))
              refine own_go (fun _ kk_ => XS.ifNo X456.here hx rfl (hb hby at_404) rfl ((if0 _ _).trans (feq (by decide : ¬ (1 : Int32) = (0 : Int32))).1) kk_) ?_
              show own_Fin p.tables e below _ (T456.setTop (mkF m 407 #[.val (.int mode), .val (.int pos), .val (.int ch), .val (.int oth), .val (.int (mode &&& (7 : Int32))), .val (.int (1 : Int32)), .val (.int (ch &&& (255 : Int32))), .val (.int cz), .val (.ref b423), .val (.ref sa), .val (.int pp), .unset, .unset, .unset] []))
              obtain ⟨a646, T646, h646, k646, tb646, kb646, X646, e646, E646, hS, hk, hZ, hown, EA646, FC646, FV646, VB646, -, -, CR646, -, NE646, st646⟩ := ldcCH X456 hx hZ hown (hw _ (List.mem_of_getElem? (i := 74) rfl)) wS e456 hS hk hEL (by decide) CH (vs := ((([(115 : Int32), (109 : Int32), (111 : Int32), (111 : Int32), (116 : Int32), (104 : Int32), (101 : Int32)] : List Int32).map (fun c => c.toInt8.toInt32)).map Value.int)) (z := (7 : Int32)) (by exact ⟨by decide, by decide⟩) (by decide) rfl (g := (mkF m 407 #[.val (.int mode), .val (.int pos), .val (.int ch), .val (.int oth), .val (.int (mode &&& (7 : Int32))), .val (.int (1 : Int32)), .val (.int (ch &&& (255 : Int32))), .val (.int cz), .val (.ref b423), .val (.ref sa), .val (.int pp), .unset, .unset, .unset] [])) rfl (hb hby at_407) (n := 28) (by decide) (by decide) (by decide) (by decide)
              replace S_b423 := CR646.safe V423.lt S_b423
              replace CR := CR.trans CR646
              replace CH := CR646.1
              replace O0 := O0.ext E646
              replace V423 := V423.ext E646
              have K647 := K455.ext E646
              have ne648 : b423 ≠ a646 := (NE646 _ S_b423).1
              have ne649 : b423 ≠ tb646 := (NE646 _ S_b423).2
              have SS646 : own_Str Z h646 a646 tb646 ([(115 : Int32), (109 : Int32), (111 : Int32), (111 : Int32), (116 : Int32), (104 : Int32), (101 : Int32)] : List Int32) := ⟨_, _, _, _, EA646, FV646, FC646, VB646, StrChars.Road.codOf (n := 7) rfl (by decide), by decide, Nat.le_of_ble_eq_true rfl⟩
              refine own_go st646 ?_
              refine own_go (fun _ kk_ => XS.goto X646.here hx rfl (pc0 := 409) (pc' := 414) rfl (hb hby at_409) (by decide) (by decide) kk_) ?_
              refine own_go (fun _ kk_ => XS.astore X646.here hx rfl (hb hby at_414) rfl rfl (l' := #[.val (.int mode), .val (.int pos), .val (.int ch), .val (.int oth), .val (.int (mode &&& (7 : Int32))), .val (.int (1 : Int32)), .val (.int (ch &&& (255 : Int32))), .val (.int cz), .val (.ref b423), .val (.ref sa), .val (.int pp), .val (.ref a646), .unset, .unset]) rfl kk_) ?_
              refine own_go (fun _ kk_ => XS.aconstNull X646.here hx rfl (hb hby at_416) kk_) ?_
              refine own_go (fun _ kk_ => XS.astore X646.here hx rfl (hb hby at_417) rfl rfl (l' := #[.val (.int mode), .val (.int pos), .val (.int ch), .val (.int oth), .val (.int (mode &&& (7 : Int32))), .val (.int (1 : Int32)), .val (.int (ch &&& (255 : Int32))), .val (.int cz), .val (.ref b423), .val (.ref sa), .val (.int pp), .val (.ref a646), .val .null, .unset]) rfl kk_) ?_
              refine own_go (fun _ kk_ => XS.goto X646.here hx rfl (pc0 := 419) (pc' := 651) rfl (hb hby at_419) (by decide) (by decide) kk_) ?_
              refine own_go (fun _ kk_ => XS.aload X646.here hx rfl (hb hby at_651) rfl rfl kk_) ?_
              show own_Fin p.tables e below _ (T646.setTop (mkF m 653 #[.val (.int mode), .val (.int pos), .val (.int ch), .val (.int oth), .val (.int (mode &&& (7 : Int32))), .val (.int (1 : Int32)), .val (.int (ch &&& (255 : Int32))), .val (.int cz), .val (.ref b423), .val (.ref sa), .val (.int pp), .val (.ref a646), .val .null, .unset] [(.ref a646)]))
              obtain ⟨_, _, ⟨T650, L650, k650, n650⟩, -, X650, ⟨Lc650, hQ650, l650, y650, z650⟩, st650⟩ := Jvm.LawKit.callS X646 hx (y := (⟨"com/example/hebelwerk/hebelwerk/model/DividendMethod", "written", "(Ljava/lang/String;)Lcom/example/hebelwerk/hebelwerk/model/DividendMethod;"⟩ : MethodName)) hown (mvT hZ (hw _ (List.mem_of_getElem? (i := 34) rfl))) (mvT hZ (hw _ (List.mem_of_getElem? (i := 35) rfl))) (mvT hZ (hw _ (List.mem_of_getElem? (i := 2) rfl))) (mvT hZ (hw _ (List.mem_of_getElem? (i := 36) rfl))) (by decide) (backOf (W := 0) (rm_wrS l Z a0 hw [] a646 tb646 ([(115 : Int32), (109 : Int32), (111 : Int32), (111 : Int32), (116 : Int32), (104 : Int32), (101 : Int32)] : List Int32) va vk ia sa wi ti wj tj gc h646 n0 (Nat.le_trans Z0 K647.1) SS646 S_V V_V E_V F_i F_j S_i S_j S_C hcs O0) hZ (hw _ (List.mem_of_getElem? (i := 36) rfl)) (hw _ (List.mem_of_getElem? (i := 2) rfl)) (by decide) (by decide)) (g := (mkF m 653 #[.val (.int mode), .val (.int pos), .val (.int ch), .val (.int oth), .val (.int (mode &&& (7 : Int32))), .val (.int (1 : Int32)), .val (.int (ch &&& (255 : Int32))), .val (.int cz), .val (.ref b423), .val (.ref sa), .val (.int pp), .val (.ref a646), .val .null, .unset] [(.ref a646)])) rfl (by rw [hml]; rfl) (argsL := [(.ref a646)]) (rest := []) (lenOf pd_6 rfl) rfl (by show 2 * 0 + _ ≤ _; exact Nat.le_of_eq rfl) (hb hby at_653) (fun _ _ => ⟨rfl, e646, (by decide : 3 + 1 ≤ _), (by decide : 40 + 2 ≤ _)⟩)
              dsimp only [Pt.U, Pt.locs, Pt.cells, Pt.slots] at X650 l650 y650 z650 st650 hQ650
              subst l650 y650 z650
              obtain ⟨N650q, KK650, y1_650, y2_650, y3_650⟩ := hQ650
              obtain rfl := y3_650 (by simp) (by simp)
              have N650 := Fr.app N453 N650q
              have hs651 : ∀ x ∈ [], Safe Z consts_1 T646.vm h646 x := sf0
              replace S_b423 := Safe.keep KK650 hs651 CH S_b423
              replace CR := CR.trans (CHr.keep KK650 hs651 CH)
              replace CH := CHv.keep KK650 hs651 CH
              replace hk := Nat.le_trans hk KK650.1
              replace O0 := O0.keep KK650 all0
              replace V423 := V423.keep KK650 nin0
              replace SS646 := SS646.keep KK650 nin0 nin0
              have K652 := K647.trans KK650 all0
              refine own_go st650 ?_
              refine own_go (fun _ kk_ => XS.aload X650.here hx rfl (hb hby at_656) rfl rfl kk_) ?_
              show own_Fin p.tables e below _ (T650.setTop (mkF m 658 #[.val (.int mode), .val (.int pos), .val (.int ch), .val (.int oth), .val (.int (mode &&& (7 : Int32))), .val (.int (1 : Int32)), .val (.int (ch &&& (255 : Int32))), .val (.int cz), .val (.ref b423), .val (.ref sa), .val (.int pp), .val (.ref a646), .val .null, .unset] [.null, .null]))
              refine own_go (fun _ kk_ => acmp (g := (mkF m 658 #[.val (.int mode), .val (.int pos), .val (.int ch), .val (.int oth), .val (.int (mode &&& (7 : Int32))), .val (.int (1 : Int32)), .val (.int (ch &&& (255 : Int32))), .val (.int cz), .val (.ref b423), .val (.ref sa), .val (.int pp), .val (.ref a646), .val .null, .unset] [.null, .null])) X650 hx rfl rfl rfl (pc0 := 658) (pc' := 661) (same := true) rfl (hb hby at_658) rfl rfl (by decide) (by decide) kk_) ?_
              refine own_go (fun _ kk_ => XS.iconst X650.here hx rfl (hb hby at_661) kk_) ?_
              refine own_go (fun _ kk_ => XS.goto X650.here hx rfl (pc0 := 662) (pc' := 666) rfl (hb hby at_662) (by decide) (by decide) kk_) ?_
              show own_Fin p.tables e below _ (T650.setTop (mkF m 666 #[.val (.int mode), .val (.int pos), .val (.int ch), .val (.int oth), .val (.int (mode &&& (7 : Int32))), .val (.int (1 : Int32)), .val (.int (ch &&& (255 : Int32))), .val (.int cz), .val (.ref b423), .val (.ref sa), .val (.int pp), .val (.ref a646), .val .null, .unset] [(.int (1 : Int32))]))
              have CRz : CHr Z consts_1 s.vm s.heap T650.vm T650.heap := by
                rw [hh]
                exact CR.trans (CHv.at X650 hZ hEL CH)
              refine own_retW X650 hx Bd hS hk (t := .boolean) Bd.returns rfl (Or.inl ⟨rfl, by simp, _, rfl⟩) (hb hby at_666) CRz ?_ (by decide) (by decide)
              show (Q_rm_law Z mode pos ch oth va vk ia sa wi ti wj tj gc h0 n0) (some (.int (1 : Int32))) T650.heap _
              exact ⟨rfl, N650⟩
            · skip
              refine own_go (fun _ kk_ => XS.icmpYes X456.here hx rfl (pc0 := 399) (pc' := 422) rfl (hb hby at_399) rfl (feq hc645).2 (by decide) (by decide) kk_) ?_
              refine own_go (fun _ kk_ => XS.iload X456.here hx rfl (hb hby at_422) rfl kk_) ?_
              refine own_go (fun _ kk_ => XS.iconst X456.here hx rfl (hb hby at_424) kk_) ?_
              show own_Fin p.tables e below _ (T456.setTop (mkF m 425 #[.val (.int mode), .val (.int pos), .val (.int ch), .val (.int oth), .val (.int (mode &&& (7 : Int32))), .val (.int (1 : Int32)), .val (.int (ch &&& (255 : Int32))), .val (.int cz), .val (.ref b423), .val (.ref sa), .val (.int pp), .unset, .unset, .unset] [(.int (4 : Int32)), (.int (mode &&& (7 : Int32)))]))
              by_cases hc653 : (mode &&& (7 : Int32)) = (4 : Int32)
              · skip
                refine own_go (fun _ kk_ => XS.icmpNo X456.here hx rfl (hb hby at_425) rfl (teq hc653).2 kk_) ?_
                refine own_go (fun _ kk_ => XS.iload X456.here hx rfl (hb hby at_428) rfl kk_) ?_
                show own_Fin p.tables e below _ (T456.setTop (mkF m 430 #[.val (.int mode), .val (.int pos), .val (.int ch), .val (.int oth), .val (.int (mode &&& (7 : Int32))), .val (.int (1 : Int32)), .val (.int (ch &&& (255 : Int32))), .val (.int cz), .val (.ref b423), .val (.ref sa), .val (.int pp), .unset, .unset, .unset] [(.int (1 : Int32))]))
                refine own_go (fun _ kk_ => XS.ifNo X456.here hx rfl (hb hby at_430) rfl ((if0 _ _).trans (feq (by decide : ¬ (1 : Int32) = (0 : Int32))).1) kk_) ?_
                show own_Fin p.tables e below _ (T456.setTop (mkF m 433 #[.val (.int mode), .val (.int pos), .val (.int ch), .val (.int oth), .val (.int (mode &&& (7 : Int32))), .val (.int (1 : Int32)), .val (.int (ch &&& (255 : Int32))), .val (.int cz), .val (.ref b423), .val (.ref sa), .val (.int pp), .unset, .unset, .unset] []))
                obtain ⟨a654, T654, h654, k654, tb654, kb654, X654, e654, E654, hS, hk, hZ, hown, EA654, FC654, FV654, VB654, -, -, CR654, -, NE654, st654⟩ := ldcCH X456 hx hZ hown (hw _ (List.mem_of_getElem? (i := 66) rfl)) wS e456 hS hk hEL (by decide) CH (vs := ((([(109 : Int32), (111 : Int32), (111 : Int32), (116 : Int32), (104 : Int32), (101 : Int32), (100 : Int32)] : List Int32).map (fun c => c.toInt8.toInt32)).map Value.int)) (z := (7 : Int32)) (by exact ⟨by decide, by decide⟩) (by decide) rfl (g := (mkF m 433 #[.val (.int mode), .val (.int pos), .val (.int ch), .val (.int oth), .val (.int (mode &&& (7 : Int32))), .val (.int (1 : Int32)), .val (.int (ch &&& (255 : Int32))), .val (.int cz), .val (.ref b423), .val (.ref sa), .val (.int pp), .unset, .unset, .unset] [])) rfl (hb hby at_433) (n := 28) (by decide) (by decide) (by decide) (by decide)
                replace S_b423 := CR654.safe V423.lt S_b423
                replace CR := CR.trans CR654
                replace CH := CR654.1
                replace O0 := O0.ext E654
                replace V423 := V423.ext E654
                have K655 := K455.ext E654
                have ne656 : b423 ≠ a654 := (NE654 _ S_b423).1
                have ne657 : b423 ≠ tb654 := (NE654 _ S_b423).2
                have SS654 : own_Str Z h654 a654 tb654 ([(109 : Int32), (111 : Int32), (111 : Int32), (116 : Int32), (104 : Int32), (101 : Int32), (100 : Int32)] : List Int32) := ⟨_, _, _, _, EA654, FV654, FC654, VB654, StrChars.Road.codOf (n := 7) rfl (by decide), by decide, Nat.le_of_ble_eq_true rfl⟩
                refine own_go st654 ?_
                refine own_go (fun _ kk_ => XS.goto X654.here hx rfl (pc0 := 435) (pc' := 440) rfl (hb hby at_435) (by decide) (by decide) kk_) ?_
                refine own_go (fun _ kk_ => XS.astore X654.here hx rfl (hb hby at_440) rfl rfl (l' := #[.val (.int mode), .val (.int pos), .val (.int ch), .val (.int oth), .val (.int (mode &&& (7 : Int32))), .val (.int (1 : Int32)), .val (.int (ch &&& (255 : Int32))), .val (.int cz), .val (.ref b423), .val (.ref sa), .val (.int pp), .val (.ref a654), .unset, .unset]) rfl kk_) ?_
                refine own_go (fun _ kk_ => XS.aconstNull X654.here hx rfl (hb hby at_442) kk_) ?_
                refine own_go (fun _ kk_ => XS.astore X654.here hx rfl (hb hby at_443) rfl rfl (l' := #[.val (.int mode), .val (.int pos), .val (.int ch), .val (.int oth), .val (.int (mode &&& (7 : Int32))), .val (.int (1 : Int32)), .val (.int (ch &&& (255 : Int32))), .val (.int cz), .val (.ref b423), .val (.ref sa), .val (.int pp), .val (.ref a654), .val .null, .unset]) rfl kk_) ?_
                refine own_go (fun _ kk_ => XS.goto X654.here hx rfl (pc0 := 445) (pc' := 651) rfl (hb hby at_445) (by decide) (by decide) kk_) ?_
                refine own_go (fun _ kk_ => XS.aload X654.here hx rfl (hb hby at_651) rfl rfl kk_) ?_
                show own_Fin p.tables e below _ (T654.setTop (mkF m 653 #[.val (.int mode), .val (.int pos), .val (.int ch), .val (.int oth), .val (.int (mode &&& (7 : Int32))), .val (.int (1 : Int32)), .val (.int (ch &&& (255 : Int32))), .val (.int cz), .val (.ref b423), .val (.ref sa), .val (.int pp), .val (.ref a654), .val .null, .unset] [(.ref a654)]))
                obtain ⟨_, _, ⟨T658, L658, k658, n658⟩, -, X658, ⟨Lc658, hQ658, l658, y658, z658⟩, st658⟩ := Jvm.LawKit.callS X654 hx (y := (⟨"com/example/hebelwerk/hebelwerk/model/DividendMethod", "written", "(Ljava/lang/String;)Lcom/example/hebelwerk/hebelwerk/model/DividendMethod;"⟩ : MethodName)) hown (mvT hZ (hw _ (List.mem_of_getElem? (i := 34) rfl))) (mvT hZ (hw _ (List.mem_of_getElem? (i := 35) rfl))) (mvT hZ (hw _ (List.mem_of_getElem? (i := 2) rfl))) (mvT hZ (hw _ (List.mem_of_getElem? (i := 36) rfl))) (by decide) (backOf (W := 0) (rm_wrS l Z a0 hw [] a654 tb654 ([(109 : Int32), (111 : Int32), (111 : Int32), (116 : Int32), (104 : Int32), (101 : Int32), (100 : Int32)] : List Int32) va vk ia sa wi ti wj tj gc h654 n0 (Nat.le_trans Z0 K655.1) SS654 S_V V_V E_V F_i F_j S_i S_j S_C hcs O0) hZ (hw _ (List.mem_of_getElem? (i := 36) rfl)) (hw _ (List.mem_of_getElem? (i := 2) rfl)) (by decide) (by decide)) (g := (mkF m 653 #[.val (.int mode), .val (.int pos), .val (.int ch), .val (.int oth), .val (.int (mode &&& (7 : Int32))), .val (.int (1 : Int32)), .val (.int (ch &&& (255 : Int32))), .val (.int cz), .val (.ref b423), .val (.ref sa), .val (.int pp), .val (.ref a654), .val .null, .unset] [(.ref a654)])) rfl (by rw [hml]; rfl) (argsL := [(.ref a654)]) (rest := []) (lenOf pd_6 rfl) rfl (by show 2 * 0 + _ ≤ _; exact Nat.le_of_eq rfl) (hb hby at_653) (fun _ _ => ⟨rfl, e654, (by decide : 3 + 1 ≤ _), (by decide : 40 + 2 ≤ _)⟩)
                dsimp only [Pt.U, Pt.locs, Pt.cells, Pt.slots] at X658 l658 y658 z658 st658 hQ658
                subst l658 y658 z658
                obtain ⟨N658q, KK658, y1_658, y2_658, y3_658⟩ := hQ658
                obtain rfl := y3_658 (by simp) (by simp)
                have N658 := Fr.app N453 N658q
                have hs659 : ∀ x ∈ [], Safe Z consts_1 T654.vm h654 x := sf0
                replace S_b423 := Safe.keep KK658 hs659 CH S_b423
                replace CR := CR.trans (CHr.keep KK658 hs659 CH)
                replace CH := CHv.keep KK658 hs659 CH
                replace hk := Nat.le_trans hk KK658.1
                replace O0 := O0.keep KK658 all0
                replace V423 := V423.keep KK658 nin0
                replace SS654 := SS654.keep KK658 nin0 nin0
                have K660 := K655.trans KK658 all0
                refine own_go st658 ?_
                refine own_go (fun _ kk_ => XS.aload X658.here hx rfl (hb hby at_656) rfl rfl kk_) ?_
                show own_Fin p.tables e below _ (T658.setTop (mkF m 658 #[.val (.int mode), .val (.int pos), .val (.int ch), .val (.int oth), .val (.int (mode &&& (7 : Int32))), .val (.int (1 : Int32)), .val (.int (ch &&& (255 : Int32))), .val (.int cz), .val (.ref b423), .val (.ref sa), .val (.int pp), .val (.ref a654), .val .null, .unset] [.null, .null]))
                refine own_go (fun _ kk_ => acmp (g := (mkF m 658 #[.val (.int mode), .val (.int pos), .val (.int ch), .val (.int oth), .val (.int (mode &&& (7 : Int32))), .val (.int (1 : Int32)), .val (.int (ch &&& (255 : Int32))), .val (.int cz), .val (.ref b423), .val (.ref sa), .val (.int pp), .val (.ref a654), .val .null, .unset] [.null, .null])) X658 hx rfl rfl rfl (pc0 := 658) (pc' := 661) (same := true) rfl (hb hby at_658) rfl rfl (by decide) (by decide) kk_) ?_
                refine own_go (fun _ kk_ => XS.iconst X658.here hx rfl (hb hby at_661) kk_) ?_
                refine own_go (fun _ kk_ => XS.goto X658.here hx rfl (pc0 := 662) (pc' := 666) rfl (hb hby at_662) (by decide) (by decide) kk_) ?_
                show own_Fin p.tables e below _ (T658.setTop (mkF m 666 #[.val (.int mode), .val (.int pos), .val (.int ch), .val (.int oth), .val (.int (mode &&& (7 : Int32))), .val (.int (1 : Int32)), .val (.int (ch &&& (255 : Int32))), .val (.int cz), .val (.ref b423), .val (.ref sa), .val (.int pp), .val (.ref a654), .val .null, .unset] [(.int (1 : Int32))]))
                have CRz : CHr Z consts_1 s.vm s.heap T658.vm T658.heap := by
                  rw [hh]
                  exact CR.trans (CHv.at X658 hZ hEL CH)
                refine own_retW X658 hx Bd hS hk (t := .boolean) Bd.returns rfl (Or.inl ⟨rfl, by simp, _, rfl⟩) (hb hby at_666) CRz ?_ (by decide) (by decide)
                show (Q_rm_law Z mode pos ch oth va vk ia sa wi ti wj tj gc h0 n0) (some (.int (1 : Int32))) T658.heap _
                exact ⟨rfl, N658⟩
              · skip
                refine own_go (fun _ kk_ => XS.icmpYes X456.here hx rfl (pc0 := 425) (pc' := 448) rfl (hb hby at_425) rfl (feq hc653).2 (by decide) (by decide) kk_) ?_
                refine own_go (fun _ kk_ => XS.iload X456.here hx rfl (hb hby at_448) rfl kk_) ?_
                refine own_go (fun _ kk_ => XS.iconst X456.here hx rfl (hb hby at_450) kk_) ?_
                show own_Fin p.tables e below _ (T456.setTop (mkF m 451 #[.val (.int mode), .val (.int pos), .val (.int ch), .val (.int oth), .val (.int (mode &&& (7 : Int32))), .val (.int (1 : Int32)), .val (.int (ch &&& (255 : Int32))), .val (.int cz), .val (.ref b423), .val (.ref sa), .val (.int pp), .unset, .unset, .unset] [(.int (5 : Int32)), (.int (mode &&& (7 : Int32)))]))
                by_cases hc661 : (mode &&& (7 : Int32)) = (5 : Int32)
                · skip
                  refine own_go (fun _ kk_ => XS.icmpNo X456.here hx rfl (hb hby at_451) rfl (teq hc661).2 kk_) ?_
                  refine own_go (fun _ kk_ => XS.aconstNull X456.here hx rfl (hb hby at_454) kk_) ?_
                  refine own_go (fun _ kk_ => XS.astore X456.here hx rfl (hb hby at_455) rfl rfl (l' := #[.val (.int mode), .val (.int pos), .val (.int ch), .val (.int oth), .val (.int (mode &&& (7 : Int32))), .val (.int (1 : Int32)), .val (.int (ch &&& (255 : Int32))), .val (.int cz), .val (.ref b423), .val (.ref sa), .val (.int pp), .val .null, .unset, .unset]) rfl kk_) ?_
                  refine own_go (fun _ kk_ => XS.aconstNull X456.here hx rfl (hb hby at_457) kk_) ?_
                  refine own_go (fun _ kk_ => XS.astore X456.here hx rfl (hb hby at_458) rfl rfl (l' := #[.val (.int mode), .val (.int pos), .val (.int ch), .val (.int oth), .val (.int (mode &&& (7 : Int32))), .val (.int (1 : Int32)), .val (.int (ch &&& (255 : Int32))), .val (.int cz), .val (.ref b423), .val (.ref sa), .val (.int pp), .val .null, .val .null, .unset]) rfl kk_) ?_
                  refine own_go (fun _ kk_ => XS.goto X456.here hx rfl (pc0 := 460) (pc' := 651) rfl (hb hby at_460) (by decide) (by decide) kk_) ?_
                  refine own_go (fun _ kk_ => XS.aload X456.here hx rfl (hb hby at_651) rfl rfl kk_) ?_
                  show own_Fin p.tables e below _ (T456.setTop (mkF m 653 #[.val (.int mode), .val (.int pos), .val (.int ch), .val (.int oth), .val (.int (mode &&& (7 : Int32))), .val (.int (1 : Int32)), .val (.int (ch &&& (255 : Int32))), .val (.int cz), .val (.ref b423), .val (.ref sa), .val (.int pp), .val .null, .val .null, .unset] [.null]))
                  obtain ⟨_, _, ⟨T662, L662, k662, n662⟩, -, X662, ⟨Lc662, hQ662, l662, y662, z662⟩, st662⟩ := Jvm.LawKit.callS X456 hx (y := (⟨"com/example/hebelwerk/hebelwerk/model/DividendMethod", "written", "(Ljava/lang/String;)Lcom/example/hebelwerk/hebelwerk/model/DividendMethod;"⟩ : MethodName)) hown (mvT hZ (hw _ (List.mem_of_getElem? (i := 34) rfl))) (mvT hZ (hw _ (List.mem_of_getElem? (i := 35) rfl))) (mvT hZ (hw _ (List.mem_of_getElem? (i := 2) rfl))) (mvT hZ (hw _ (List.mem_of_getElem? (i := 36) rfl))) (by decide) (backOf (W := 0) (rm_wrN l Z a0 hw [] va vk ia sa wi ti wj tj gc h453 n0 (Nat.le_trans Z0 K455.1) S_V V_V E_V F_i F_j S_i S_j S_C hcs O0) hZ (hw _ (List.mem_of_getElem? (i := 36) rfl)) (hw _ (List.mem_of_getElem? (i := 2) rfl)) (by decide) (by decide)) (g := (mkF m 653 #[.val (.int mode), .val (.int pos), .val (.int ch), .val (.int oth), .val (.int (mode &&& (7 : Int32))), .val (.int (1 : Int32)), .val (.int (ch &&& (255 : Int32))), .val (.int cz), .val (.ref b423), .val (.ref sa), .val (.int pp), .val .null, .val .null, .unset] [.null])) rfl (by rw [hml]; rfl) (argsL := [.null]) (rest := []) (lenOf pd_6 rfl) rfl (by show 2 * 0 + _ ≤ _; exact Nat.le_of_eq rfl) (hb hby at_653) (fun _ _ => ⟨rfl, e456, (by decide : 1 + 1 ≤ _), (by decide : 8 + 2 ≤ _)⟩)
                  dsimp only [Pt.U, Pt.locs, Pt.cells, Pt.slots] at X662 l662 y662 z662 st662 hQ662
                  subst l662 y662 z662
                  obtain ⟨rfl, N662q, KK662⟩ := hQ662
                  have N662 := Fr.app N453 N662q
                  have hs663 : ∀ x ∈ [], Safe Z consts_1 s.vm h453 x := sf0
                  replace S_b423 := Safe.keep KK662 hs663 CH S_b423
                  replace CR := CR.trans (CHr.keep KK662 hs663 CH)
                  replace CH := CHv.keep KK662 hs663 CH
                  replace hk := Nat.le_trans hk KK662.1
                  replace O0 := O0.keep KK662 all0
                  replace V423 := V423.keep KK662 nin0
                  have K664 := K455.trans KK662 all0
                  refine own_go st662 ?_
                  refine own_go (fun _ kk_ => XS.aload X662.here hx rfl (hb hby at_656) rfl rfl kk_) ?_
                  show own_Fin p.tables e below _ (T662.setTop (mkF m 658 #[.val (.int mode), .val (.int pos), .val (.int ch), .val (.int oth), .val (.int (mode &&& (7 : Int32))), .val (.int (1 : Int32)), .val (.int (ch &&& (255 : Int32))), .val (.int cz), .val (.ref b423), .val (.ref sa), .val (.int pp), .val .null, .val .null, .unset] [.null, .null]))
                  refine own_go (fun _ kk_ => acmp (g := (mkF m 658 #[.val (.int mode), .val (.int pos), .val (.int ch), .val (.int oth), .val (.int (mode &&& (7 : Int32))), .val (.int (1 : Int32)), .val (.int (ch &&& (255 : Int32))), .val (.int cz), .val (.ref b423), .val (.ref sa), .val (.int pp), .val .null, .val .null, .unset] [.null, .null])) X662 hx rfl rfl rfl (pc0 := 658) (pc' := 661) (same := true) rfl (hb hby at_658) rfl rfl (by decide) (by decide) kk_) ?_
                  refine own_go (fun _ kk_ => XS.iconst X662.here hx rfl (hb hby at_661) kk_) ?_
                  refine own_go (fun _ kk_ => XS.goto X662.here hx rfl (pc0 := 662) (pc' := 666) rfl (hb hby at_662) (by decide) (by decide) kk_) ?_
                  show own_Fin p.tables e below _ (T662.setTop (mkF m 666 #[.val (.int mode), .val (.int pos), .val (.int ch), .val (.int oth), .val (.int (mode &&& (7 : Int32))), .val (.int (1 : Int32)), .val (.int (ch &&& (255 : Int32))), .val (.int cz), .val (.ref b423), .val (.ref sa), .val (.int pp), .val .null, .val .null, .unset] [(.int (1 : Int32))]))
                  have CRz : CHr Z consts_1 s.vm s.heap T662.vm T662.heap := by
                    rw [hh]
                    exact CR.trans (CHv.at X662 hZ hEL CH)
                  refine own_retW X662 hx Bd hS hk (t := .boolean) Bd.returns rfl (Or.inl ⟨rfl, by simp, _, rfl⟩) (hb hby at_666) CRz ?_ (by decide) (by decide)
                  show (Q_rm_law Z mode pos ch oth va vk ia sa wi ti wj tj gc h0 n0) (some (.int (1 : Int32))) T662.heap _
                  exact ⟨rfl, N662⟩
                · skip
                  refine own_go (fun _ kk_ => XS.icmpYes X456.here hx rfl (pc0 := 451) (pc' := 463) rfl (hb hby at_451) rfl (feq hc661).2 (by decide) (by decide) kk_) ?_
                  refine own_go (fun _ kk_ => XS.iload X456.here hx rfl (hb hby at_463) rfl kk_) ?_
                  refine own_go (fun _ kk_ => XS.bipush X456.here hx rfl (hb hby at_465) kk_) ?_
                  show own_Fin p.tables e below _ (T456.setTop (mkF m 467 #[.val (.int mode), .val (.int pos), .val (.int ch), .val (.int oth), .val (.int (mode &&& (7 : Int32))), .val (.int (1 : Int32)), .val (.int (ch &&& (255 : Int32))), .val (.int cz), .val (.ref b423), .val (.ref sa), .val (.int pp), .unset, .unset, .unset] [(.int (6 : Int32)), (.int (mode &&& (7 : Int32)))]))
                  by_cases hc665 : (mode &&& (7 : Int32)) = (6 : Int32)
                  · skip
                    refine own_go (fun _ kk_ => XS.icmpNo X456.here hx rfl (hb hby at_467) rfl (teq hc665).2 kk_) ?_
                    refine own_go (fun _ kk_ => XS.iloadN X456.here hx rfl (hb hby at_470) rfl kk_) ?_
                    show own_Fin p.tables e below _ (T456.setTop (mkF m 471 #[.val (.int mode), .val (.int pos), .val (.int ch), .val (.int oth), .val (.int (mode &&& (7 : Int32))), .val (.int (1 : Int32)), .val (.int (ch &&& (255 : Int32))), .val (.int cz), .val (.ref b423), .val (.ref sa), .val (.int pp), .unset, .unset, .unset] [(.int oth)]))
                    refine own_go (fun _ kk_ => Jvm.Stand.ldcI X456 hx hown (mvT hZ (hw _ (List.mem_of_getElem? (i := 73) rfl))) (g := (mkF m 471 #[.val (.int mode), .val (.int pos), .val (.int ch), .val (.int oth), .val (.int (mode &&& (7 : Int32))), .val (.int (1 : Int32)), .val (.int (ch &&& (255 : Int32))), .val (.int cz), .val (.ref b423), .val (.ref sa), .val (.int pp), .unset, .unset, .unset] [(.int oth)])) rfl (hb hby at_471) kk_) ?_
                    show own_Fin p.tables e below _ (T456.setTop (mkF m 473 #[.val (.int mode), .val (.int pos), .val (.int ch), .val (.int oth), .val (.int (mode &&& (7 : Int32))), .val (.int (1 : Int32)), .val (.int (ch &&& (255 : Int32))), .val (.int cz), .val (.ref b423), .val (.ref sa), .val (.int pp), .unset, .unset, .unset] [(.int (65536 : Int32)), (.int oth)]))
                    refine own_go (fun _ kk_ => XS.iand X456.here hx rfl (hb hby at_473) rfl kk_) ?_
                    show own_Fin p.tables e below _ (T456.setTop (mkF m 474 #[.val (.int mode), .val (.int pos), .val (.int ch), .val (.int oth), .val (.int (mode &&& (7 : Int32))), .val (.int (1 : Int32)), .val (.int (ch &&& (255 : Int32))), .val (.int cz), .val (.ref b423), .val (.ref sa), .val (.int pp), .unset, .unset, .unset] [(.int (oth &&& (65536 : Int32)))]))
                    by_cases hc666 : (oth &&& (65536 : Int32)) = (0 : Int32)
                    · skip
                      refine own_go (fun _ kk_ => XS.ifYes X456.here hx rfl (pc0 := 474) (pc' := 484) rfl (hb hby at_474) rfl ((if0 _ _).trans (teq hc666).1) (by decide) (by decide) kk_) ?_
                      show own_Fin p.tables e below _ (T456.setTop (mkF m 484 #[.val (.int mode), .val (.int pos), .val (.int ch), .val (.int oth), .val (.int (mode &&& (7 : Int32))), .val (.int (1 : Int32)), .val (.int (ch &&& (255 : Int32))), .val (.int cz), .val (.ref b423), .val (.ref sa), .val (.int pp), .unset, .unset, .unset] []))
                      obtain ⟨T667, h667, X667, e667, E667, A667, D667, -, st667⟩ := newO X456 hx hZ hown (hw _ (List.mem_of_getElem? (i := 5) rfl)) (hw _ (List.mem_of_getElem? (i := 6) rfl)) (hw _ (List.mem_of_getElem? (i := 7) rfl)) e456 (g := (mkF m 484 #[.val (.int mode), .val (.int pos), .val (.int ch), .val (.int oth), .val (.int (mode &&& (7 : Int32))), .val (.int (1 : Int32)), .val (.int (ch &&& (255 : Int32))), .val (.int cz), .val (.ref b423), .val (.ref sa), .val (.int pp), .unset, .unset, .unset] [])) rfl (hb hby at_484) (by decide) (by decide)
                      obtain ⟨b667, g667⟩ : ∃ z, z = h453.size := ⟨_, rfl⟩
                      rw [← g667] at A667 D667 st667
                      have sz_b667 : h0.size ≤ b667 := Nat.le_trans K455.1 (Nat.le_of_eq g667.symm)
                      have g_b667 : n0 ≤ b667 := Nat.le_trans Z0 sz_b667
                      have ne668 : va ≠ b667 := O0.ne V_V.lt g_b667
                      have ne669 : ia ≠ b667 := O0.ne F_i.lt g_b667
                      have ne670 : sa ≠ b667 := O0.ne F_j.lt g_b667
                      have ne671 : wi ≠ b667 := O0.ne S_i.lt g_b667
                      have ne672 : ti ≠ b667 := O0.ne S_i.ltt g_b667
                      have ne673 : wj ≠ b667 := O0.ne S_j.lt g_b667
                      have ne674 : tj ≠ b667 := O0.ne S_j.ltt g_b667
                      have ne675 : b423 ≠ b667 := Nat.ne_of_lt (Nat.lt_of_lt_of_le V423.lt (Nat.le_of_eq g667.symm))
                      have S_b667 := Safe.new (Z := Z) (EL := consts_1) (vm := s.vm) (Nat.le_of_eq g667.symm)
                      replace S_b423 := Safe.ext E667 CH S_b423
                      replace S_b667 := Safe.ext E667 CH S_b667
                      replace CR := CR.trans (CHr.ext E667 CH)
                      replace CH := CH.ext E667
                      replace hk := Nat.le_trans hk E667.1
                      replace O0 := O0.ext E667
                      replace V423 := V423.ext E667
                      have K676 := K455.ext E667
                      have F667_coder : Fld Z h667 b667 "java/lang/String" "coder" "B" (.int (0 : Int32)) := D667 (Or.inr (hw _ (List.mem_of_getElem? (i := 31) rfl))) (ty := .byte) (by decide)
                      have F667_value : Fld Z h667 b667 "java/lang/String" "value" "[B" .null := D667 (Or.inr (hw _ (List.mem_of_getElem? (i := 33) rfl))) (ty := (.array .byte)) (by decide)
                      refine own_go st667 ?_
                      refine own_go (fun _ kk_ => XS.dup X667.here hx rfl (hb hby at_487) rfl rfl kk_) ?_
                      refine own_go (fun _ kk_ => XS.iconst X667.here hx rfl (hb hby at_488) kk_) ?_
                      show own_Fin p.tables e below _ (T667.setTop (mkF m 489 #[.val (.int mode), .val (.int pos), .val (.int ch), .val (.int oth), .val (.int (mode &&& (7 : Int32))), .val (.int (1 : Int32)), .val (.int (ch &&& (255 : Int32))), .val (.int cz), .val (.ref b423), .val (.ref sa), .val (.int pp), .unset, .unset, .unset] [(.int (2 : Int32)), (.ref b667), (.ref b667)]))
                      obtain ⟨T677, h677, k677, X677, e677, E677, A677, st677⟩ := newP X667 hx hZ (hw _ (List.mem_of_getElem? (i := 0) rfl)) e667 (g := (mkF m 489 #[.val (.int mode), .val (.int pos), .val (.int ch), .val (.int oth), .val (.int (mode &&& (7 : Int32))), .val (.int (1 : Int32)), .val (.int (ch &&& (255 : Int32))), .val (.int cz), .val (.ref b423), .val (.ref sa), .val (.int pp), .unset, .unset, .unset] [(.int (2 : Int32)), (.ref b667), (.ref b667)])) rfl (hb hby at_489) rfl (by decide) (cap := 2) (by decide) (by decide) (by decide) (by decide)
                      obtain ⟨b677, g677⟩ : ∃ z, z = h667.size := ⟨_, rfl⟩
                      rw [← g677] at A677 st677
                      have sz_b677 : h0.size ≤ b677 := Nat.le_trans K676.1 (Nat.le_of_eq g677.symm)
                      have g_b677 : n0 ≤ b677 := Nat.le_trans Z0 sz_b677
                      have ne678 : va ≠ b677 := O0.ne V_V.lt g_b677
                      have ne679 : ia ≠ b677 := O0.ne F_i.lt g_b677
                      have ne680 : sa ≠ b677 := O0.ne F_j.lt g_b677
                      have ne681 : wi ≠ b677 := O0.ne S_i.lt g_b677
                      have ne682 : ti ≠ b677 := O0.ne S_i.ltt g_b677
                      have ne683 : wj ≠ b677 := O0.ne S_j.lt g_b677
                      have ne684 : tj ≠ b677 := O0.ne S_j.ltt g_b677
                      have ne685 : b423 ≠ b677 := Nat.ne_of_lt (Nat.lt_of_lt_of_le V423.lt (Nat.le_of_eq g677.symm))
                      have ne686 : b667 ≠ b677 := Nat.ne_of_lt (Nat.lt_of_lt_of_le A667.lt (Nat.le_of_eq g677.symm))
                      have S_b677 := Safe.new (Z := Z) (EL := consts_1) (vm := s.vm) (Nat.le_of_eq g677.symm)
                      replace S_b423 := Safe.ext E677 CH S_b423
                      replace S_b667 := Safe.ext E677 CH S_b667
                      replace S_b677 := Safe.ext E677 CH S_b677
                      replace CR := CR.trans (CHr.ext E677 CH)
                      replace CH := CH.ext E677
                      replace hk := Nat.le_trans hk E677.1
                      replace O0 := O0.ext E677
                      replace V423 := V423.ext E677
                      replace A667 := A667.ext E677
                      replace F667_coder := F667_coder.ext E677
                      replace F667_value := F667_value.ext E677
                      have K687 := K676.ext E677
                      have V677 : Arv Z h677 b677 k677 .char (2 : Int32) [(.int (0 : Int32)), (.int (0 : Int32))] (.int (0 : Int32)) := (Arv.new A677 (by decide)).pad (pad_rep [] (.int (0 : Int32)) 2)
                      refine own_go st677 ?_
                      refine own_go (fun _ kk_ => XS.dup X677.here hx rfl (hb hby at_491) rfl rfl kk_) ?_
                      refine own_go (fun _ kk_ => XS.iconst X677.here hx rfl (hb hby at_492) kk_) ?_
                      refine own_go (fun _ kk_ => XS.iloadN X677.here hx rfl (hb hby at_493) rfl kk_) ?_
                      refine own_go (fun _ kk_ => XS.sipush X677.here hx rfl (hb hby at_494) kk_) ?_
                      show own_Fin p.tables e below _ (T677.setTop (mkF m 497 #[.val (.int mode), .val (.int pos), .val (.int ch), .val (.int oth), .val (.int (mode &&& (7 : Int32))), .val (.int (1 : Int32)), .val (.int (ch &&& (255 : Int32))), .val (.int cz), .val (.ref b423), .val (.ref sa), .val (.int pp), .unset, .unset, .unset] [(.int (255 : Int32)), (.int oth), (.int (0 : Int32)), (.ref b677), (.ref b677), (.ref b667), (.ref b667)]))
                      refine own_go (fun _ kk_ => XS.iand X677.here hx rfl (hb hby at_497) rfl kk_) ?_
                      show own_Fin p.tables e below _ (T677.setTop (mkF m 498 #[.val (.int mode), .val (.int pos), .val (.int ch), .val (.int oth), .val (.int (mode &&& (7 : Int32))), .val (.int (1 : Int32)), .val (.int (ch &&& (255 : Int32))), .val (.int cz), .val (.ref b423), .val (.ref sa), .val (.int pp), .unset, .unset, .unset] [(.int (oth &&& (255 : Int32))), (.int (0 : Int32)), (.ref b677), (.ref b677), (.ref b667), (.ref b667)]))
                      refine own_go (fun _ kk_ => XS.i2c X677.here hx rfl (hb hby at_498) rfl kk_) ?_
                      rw [i2c_mask]
                      show own_Fin p.tables e below _ (T677.setTop (mkF m 499 #[.val (.int mode), .val (.int pos), .val (.int ch), .val (.int oth), .val (.int (mode &&& (7 : Int32))), .val (.int (1 : Int32)), .val (.int (ch &&& (255 : Int32))), .val (.int cz), .val (.ref b423), .val (.ref sa), .val (.int pp), .unset, .unset, .unset] [(.int (oth &&& (255 : Int32))), (.int (0 : Int32)), (.ref b677), (.ref b677), (.ref b667), (.ref b667)]))
                      obtain ⟨T688, h688, X688, e688, W688, V688, st688⟩ := own_stC X677 hx hZ e677 V677 (by decide) (i := 0) rfl (Nat.le_of_ble_eq_true rfl) (g := (mkF m 499 #[.val (.int mode), .val (.int pos), .val (.int ch), .val (.int oth), .val (.int (mode &&& (7 : Int32))), .val (.int (1 : Int32)), .val (.int (ch &&& (255 : Int32))), .val (.int cz), .val (.ref b423), .val (.ref sa), .val (.int pp), .unset, .unset, .unset] [(.int (oth &&& (255 : Int32))), (.int (0 : Int32)), (.ref b677), (.ref b677), (.ref b667), (.ref b667)])) rfl rfl (hb hby at_499)
                      rw [own_nar255] at V688
                      replace V677 : Arv Z h688 b677 k677 .char (2 : Int32) [(.int (oth &&& (255 : Int32))), (.int (0 : Int32))] (.int (0 : Int32)) := V688
                      have N688 := Fr.snoc X688 N453 g_b677
                      refine own_go st688 ?_
                      have sa689 := S_b677
                      replace S_b423 := Safe.wr W688 sa689 CH S_b423
                      replace S_b667 := Safe.wr W688 sa689 CH S_b667
                      replace S_b677 := Safe.wr W688 sa689 CH S_b677
                      replace CR := CR.trans (CHr.wr W688 sa689 CH)
                      replace CH := CHv.wr W688 sa689 CH
                      replace hk := Nat.le_trans hk (Keep.of_wr W688).1
                      replace O0 := O0.wr W688 g_b677
                      replace V423 := V423.other W688 ne685
                      replace A667 := A667.wr W688
                      replace F667_coder := F667_coder.other W688 (Or.inl ne686)
                      replace F667_value := F667_value.other W688 (Or.inl ne686)
                      have K690 := K687.wr W688 (Or.inr sz_b677)
                      refine own_go (fun _ kk_ => XS.dup X688.here hx rfl (hb hby at_500) rfl rfl kk_) ?_
                      refine own_go (fun _ kk_ => XS.iconst X688.here hx rfl (hb hby at_501) kk_) ?_
                      refine own_go (fun _ kk_ => XS.iloadN X688.here hx rfl (hb hby at_502) rfl kk_) ?_
                      refine own_go (fun _ kk_ => XS.bipush X688.here hx rfl (hb hby at_503) kk_) ?_
                      show own_Fin p.tables e below _ (T688.setTop (mkF m 505 #[.val (.int mode), .val (.int pos), .val (.int ch), .val (.int oth), .val (.int (mode &&& (7 : Int32))), .val (.int (1 : Int32)), .val (.int (ch &&& (255 : Int32))), .val (.int cz), .val (.ref b423), .val (.ref sa), .val (.int pp), .unset, .unset, .unset] [(.int (8 : Int32)), (.int oth), (.int (1 : Int32)), (.ref b677), (.ref b677), (.ref b667), (.ref b667)]))
                      refine own_go (fun _ kk_ => XS.iushr X688.here hx rfl (hb hby at_505) rfl kk_) ?_
                      refine own_go (fun _ kk_ => XS.sipush X688.here hx rfl (hb hby at_506) kk_) ?_
                      show own_Fin p.tables e below _ (T688.setTop (mkF m 509 #[.val (.int mode), .val (.int pos), .val (.int ch), .val (.int oth), .val (.int (mode &&& (7 : Int32))), .val (.int (1 : Int32)), .val (.int (ch &&& (255 : Int32))), .val (.int cz), .val (.ref b423), .val (.ref sa), .val (.int pp), .unset, .unset, .unset] [(.int (255 : Int32)), (.int ((oth.toUInt32 >>> ((8 : Int32) &&& 31).toUInt32).toInt32)), (.int (1 : Int32)), (.ref b677), (.ref b677), (.ref b667), (.ref b667)]))
                      refine own_go (fun _ kk_ => XS.iand X688.here hx rfl (hb hby at_509) rfl kk_) ?_
                      show own_Fin p.tables e below _ (T688.setTop (mkF m 510 #[.val (.int mode), .val (.int pos), .val (.int ch), .val (.int oth), .val (.int (mode &&& (7 : Int32))), .val (.int (1 : Int32)), .val (.int (ch &&& (255 : Int32))), .val (.int cz), .val (.ref b423), .val (.ref sa), .val (.int pp), .unset, .unset, .unset] [(.int (((oth.toUInt32 >>> ((8 : Int32) &&& 31).toUInt32).toInt32) &&& (255 : Int32))), (.int (1 : Int32)), (.ref b677), (.ref b677), (.ref b667), (.ref b667)]))
                      refine own_go (fun _ kk_ => XS.i2c X688.here hx rfl (hb hby at_510) rfl kk_) ?_
                      rw [i2c_mask]
                      show own_Fin p.tables e below _ (T688.setTop (mkF m 511 #[.val (.int mode), .val (.int pos), .val (.int ch), .val (.int oth), .val (.int (mode &&& (7 : Int32))), .val (.int (1 : Int32)), .val (.int (ch &&& (255 : Int32))), .val (.int cz), .val (.ref b423), .val (.ref sa), .val (.int pp), .unset, .unset, .unset] [(.int (((oth.toUInt32 >>> ((8 : Int32) &&& 31).toUInt32).toInt32) &&& (255 : Int32))), (.int (1 : Int32)), (.ref b677), (.ref b677), (.ref b667), (.ref b667)]))
                      obtain ⟨T691, h691, X691, e691, W691, V691, st691⟩ := own_stC X688 hx hZ e688 V677 (by decide) (i := 1) rfl (Nat.le_of_ble_eq_true rfl) (g := (mkF m 511 #[.val (.int mode), .val (.int pos), .val (.int ch), .val (.int oth), .val (.int (mode &&& (7 : Int32))), .val (.int (1 : Int32)), .val (.int (ch &&& (255 : Int32))), .val (.int cz), .val (.ref b423), .val (.ref sa), .val (.int pp), .unset, .unset, .unset] [(.int (((oth.toUInt32 >>> ((8 : Int32) &&& 31).toUInt32).toInt32) &&& (255 : Int32))), (.int (1 : Int32)), (.ref b677), (.ref b677), (.ref b667), (.ref b667)])) rfl rfl (hb hby at_511)
                      rw [own_nar255] at V691
                      replace V677 : Arv Z h691 b677 k677 .char (2 : Int32) [(.int (oth &&& (255 : Int32))), (.int (((oth.toUInt32 >>> ((8 : Int32) &&& 31).toUInt32).toInt32) &&& (255 : Int32)))] (.int (0 : Int32)) := V691
                      have N691 := Fr.snoc X691 N688 g_b677
                      refine own_go st691 ?_
                      have sa692 := S_b677
                      replace S_b423 := Safe.wr W691 sa692 CH S_b423
                      replace S_b667 := Safe.wr W691 sa692 CH S_b667
                      replace S_b677 := Safe.wr W691 sa692 CH S_b677
                      replace CR := CR.trans (CHr.wr W691 sa692 CH)
                      replace CH := CHv.wr W691 sa692 CH
                      replace hk := Nat.le_trans hk (Keep.of_wr W691).1
                      replace O0 := O0.wr W691 g_b677
                      replace V423 := V423.other W691 ne685
                      replace A667 := A667.wr W691
                      replace F667_coder := F667_coder.other W691 (Or.inl ne686)
                      replace F667_value := F667_value.other W691 (Or.inl ne686)
                      have K693 := K690.wr W691 (Or.inr sz_b677)
                      show own_Fin p.tables e below _ (T691.setTop (mkF m 512 #[.val (.int mode), .val (.int pos), .val (.int ch), .val (.int oth), .val (.int (mode &&& (7 : Int32))), .val (.int (1 : Int32)), .val (.int (ch &&& (255 : Int32))), .val (.int cz), .val (.ref b423), .val (.ref sa), .val (.int pp), .unset, .unset, .unset] [(.ref b677), (.ref b667), (.ref b667)]))
                      have hp695 : ∀ c ∈ ([(oth &&& (255 : Int32)), (((oth.toUInt32 >>> ((8 : Int32) &&& 31).toUInt32).toInt32) &&& (255 : Int32))] : List Int32), ¬ c < 0 ∧ ¬ (255 : Int32) < c := by
                        intro c hc
                        simp only [List.mem_cons, List.not_mem_nil, or_false] at hc
                        rcases hc with rfl | rfl
                        · exact own_and255 _
                        · exact own_and255 _
                      obtain ⟨_, _, ⟨T694, L694, k694, n694⟩, -, X694, ⟨Lc694, hQ694, l694, y694, z694⟩, st694⟩ := X691.specialBack hx (y := (⟨"java/lang/String", "<init>", "([C)V"⟩ : MethodName)) rfl hown (mvT hZ (hw _ (List.mem_of_getElem? (i := 8) rfl))) (mvT hZ (hw _ (List.mem_of_getElem? (i := 9) rfl))) (mvT hZ (hw _ (List.mem_of_getElem? (i := 10) rfl))) (by decide) (StrChars.Road.backV (W := 1) hZ hws (kI := 4) (hw _ (List.mem_of_getElem? (i := 6) rfl)) (cs := ([(oth &&& (255 : Int32)), (((oth.toUInt32 >>> ((8 : Int32) &&& 31).toUInt32).toInt32) &&& (255 : Int32))] : List Int32)) (bs := (([(oth &&& (255 : Int32)), (((oth.toUInt32 >>> ((8 : Int32) &&& 31).toUInt32).toInt32) &&& (255 : Int32))] : List Int32)).map (fun c => c.toInt8.toInt32)) (n := 2) g_b667 (Nat.le_trans Z0 K693.1) A667 F667_value F667_coder V677 (S_C.ext O0.2) hcs rfl rfl (by decide) (by decide) hp695 rfl (by decide) (by decide)) (g := (mkF m 512 #[.val (.int mode), .val (.int pos), .val (.int ch), .val (.int oth), .val (.int (mode &&& (7 : Int32))), .val (.int (1 : Int32)), .val (.int (ch &&& (255 : Int32))), .val (.int cz), .val (.ref b423), .val (.ref sa), .val (.int pp), .unset, .unset, .unset] [(.ref b677), (.ref b667), (.ref b667)])) rfl (by rw [hml]; rfl) (Steps.refl _) (a := b667) (argsL := [(.ref b677)]) (rest := [(.ref b667)]) (lenOf pd_5 rfl) rfl (by show 2 * 0 + _ ≤ _; exact Nat.le_of_eq rfl) (hb hby at_512) (fun _ _ => ⟨rfl, e691, (by decide : 3 + 1 ≤ _), (by decide : 14 + 2 ≤ _)⟩)
                      dsimp only [Pt.U, Pt.locs, Pt.cells, Pt.slots] at X694 l694 y694 z694 st694 hQ694
                      subst l694 y694 z694
                      obtain ⟨rfl, N694q, KK694, EE694, FC694, t694, kb694, gt694, szt694, netx694, FV694, VV694⟩ := hQ694
                      have N694 := Fr.app N691 N694q
                      have SS694 : own_Str Z T694.heap b667 t694 ([(oth &&& (255 : Int32)), (((oth.toUInt32 >>> ((8 : Int32) &&& 31).toUInt32).toInt32) &&& (255 : Int32))] : List Int32) := ⟨_, _, _, _, EE694, FV694, FC694, VV694, StrChars.Road.codOf (n := 2) rfl (fun c hc => (hp695 c hc).2), own_up _ hp695, Nat.le_of_ble_eq_true rfl⟩
                      have sz_t694 : h0.size ≤ t694 := Nat.le_trans K693.1 szt694
                      have ne696 : va ≠ t694 := O0.ne V_V.lt gt694
                      have ne697 : ia ≠ t694 := O0.ne F_i.lt gt694
                      have ne698 : sa ≠ t694 := O0.ne F_j.lt gt694
                      have ne699 : wi ≠ t694 := O0.ne S_i.lt gt694
                      have ne700 : ti ≠ t694 := O0.ne S_i.ltt gt694
                      have ne701 : wj ≠ t694 := O0.ne S_j.lt gt694
                      have ne702 : tj ≠ t694 := O0.ne S_j.ltt gt694
                      have ne703 : b423 ≠ t694 := Nat.ne_of_lt (Nat.lt_of_lt_of_le V423.lt szt694)
                      have ne704 : b667 ≠ t694 := Nat.ne_of_lt (Nat.lt_of_lt_of_le A667.lt szt694)
                      have ne705 : b677 ≠ t694 := Nat.ne_of_lt (Nat.lt_of_lt_of_le V677.lt szt694)
                      have S_t694 := Safe.new (Z := Z) (EL := consts_1) (vm := s.vm) szt694
                      have hs706 : ∀ x ∈ [b667], Safe Z consts_1 s.vm h691 x := (sfS S_b667 sf0)
                      replace S_b423 := Safe.keep KK694 hs706 CH S_b423
                      replace S_b667 := Safe.keep KK694 hs706 CH S_b667
                      replace S_b677 := Safe.keep KK694 hs706 CH S_b677
                      replace S_t694 := Safe.keep KK694 hs706 CH S_t694
                      replace CR := CR.trans (CHr.keep KK694 hs706 CH)
                      replace CH := CHv.keep KK694 hs706 CH
                      replace hk := Nat.le_trans hk KK694.1
                      replace O0 := O0.keep KK694 (allS g_b667 (all0))
                      replace V423 := V423.keep KK694 (ninS ne675 nin0)
                      replace A667 := A667.keep KK694
                      replace V677 := V677.keep KK694 (ninS (Ne.symm ne686) nin0)
                      have K707 := K693.trans KK694 (allS (Or.inr sz_b667) all0)
                      refine own_go (fun _ kk_ => st694.trans kk_) ?_
                      refine own_go (fun _ kk_ => XS.astore X694.here hx rfl (hb hby at_515) rfl rfl (l' := #[.val (.int mode), .val (.int pos), .val (.int ch), .val (.int oth), .val (.int (mode &&& (7 : Int32))), .val (.int (1 : Int32)), .val (.int (ch &&& (255 : Int32))), .val (.int cz), .val (.ref b423), .val (.ref sa), .val (.int pp), .val (.ref b667), .unset, .unset]) rfl kk_) ?_
                      refine own_go (fun _ kk_ => XS.aconstNull X694.here hx rfl (hb hby at_517) kk_) ?_
                      refine own_go (fun _ kk_ => XS.astore X694.here hx rfl (hb hby at_518) rfl rfl (l' := #[.val (.int mode), .val (.int pos), .val (.int ch), .val (.int oth), .val (.int (mode &&& (7 : Int32))), .val (.int (1 : Int32)), .val (.int (ch &&& (255 : Int32))), .val (.int cz), .val (.ref b423), .val (.ref sa), .val (.int pp), .val (.ref b667), .val .null, .unset]) rfl kk_) ?_
                      refine own_go (fun _ kk_ => XS.goto X694.here hx rfl (pc0 := 520) (pc' := 651) rfl (hb hby at_520) (by decide) (by decide) kk_) ?_
                      refine own_go (fun _ kk_ => XS.aload X694.here hx rfl (hb hby at_651) rfl rfl kk_) ?_
                      show own_Fin p.tables e below _ (T694.setTop (mkF m 653 #[.val (.int mode), .val (.int pos), .val (.int ch), .val (.int oth), .val (.int (mode &&& (7 : Int32))), .val (.int (1 : Int32)), .val (.int (ch &&& (255 : Int32))), .val (.int cz), .val (.ref b423), .val (.ref sa), .val (.int pp), .val (.ref b667), .val .null, .unset] [(.ref b667)]))
                      obtain ⟨_, _, ⟨T708, L708, k708, n708⟩, -, X708, ⟨Lc708, hQ708, l708, y708, z708⟩, st708⟩ := Jvm.LawKit.callS X694 hx (y := (⟨"com/example/hebelwerk/hebelwerk/model/DividendMethod", "written", "(Ljava/lang/String;)Lcom/example/hebelwerk/hebelwerk/model/DividendMethod;"⟩ : MethodName)) hown (mvT hZ (hw _ (List.mem_of_getElem? (i := 34) rfl))) (mvT hZ (hw _ (List.mem_of_getElem? (i := 35) rfl))) (mvT hZ (hw _ (List.mem_of_getElem? (i := 2) rfl))) (mvT hZ (hw _ (List.mem_of_getElem? (i := 36) rfl))) (by decide) (backOf (W := 0) (rm_wrS l Z a0 hw [] b667 t694 ([(oth &&& (255 : Int32)), (((oth.toUInt32 >>> ((8 : Int32) &&& 31).toUInt32).toInt32) &&& (255 : Int32))] : List Int32) va vk ia sa wi ti wj tj gc T694.heap n0 (Nat.le_trans Z0 K707.1) SS694 S_V V_V E_V F_i F_j S_i S_j S_C hcs O0) hZ (hw _ (List.mem_of_getElem? (i := 36) rfl)) (hw _ (List.mem_of_getElem? (i := 2) rfl)) (by decide) (by decide)) (g := (mkF m 653 #[.val (.int mode), .val (.int pos), .val (.int ch), .val (.int oth), .val (.int (mode &&& (7 : Int32))), .val (.int (1 : Int32)), .val (.int (ch &&& (255 : Int32))), .val (.int cz), .val (.ref b423), .val (.ref sa), .val (.int pp), .val (.ref b667), .val .null, .unset] [(.ref b667)])) rfl (by rw [hml]; rfl) (argsL := [(.ref b667)]) (rest := []) (lenOf pd_6 rfl) rfl (by show 2 * 0 + _ ≤ _; exact Nat.le_of_eq rfl) (hb hby at_653) (fun _ _ => ⟨rfl, rfl, (by decide : 4 + 1 ≤ _), (by decide : 16 + 2 ≤ _)⟩)
                      dsimp only [Pt.U, Pt.locs, Pt.cells, Pt.slots] at X708 l708 y708 z708 st708 hQ708
                      subst l708 y708 z708
                      obtain ⟨N708q, KK708, y1_708, y2_708, y3_708⟩ := hQ708
                      obtain rfl := y3_708 (by simp) (by simp)
                      have N708 := Fr.app N694 N708q
                      have hs709 : ∀ x ∈ [], Safe Z consts_1 s.vm T694.heap x := sf0
                      replace S_b423 := Safe.keep KK708 hs709 CH S_b423
                      replace S_b667 := Safe.keep KK708 hs709 CH S_b667
                      replace S_b677 := Safe.keep KK708 hs709 CH S_b677
                      replace S_t694 := Safe.keep KK708 hs709 CH S_t694
                      replace CR := CR.trans (CHr.keep KK708 hs709 CH)
                      replace CH := CHv.keep KK708 hs709 CH
                      replace hk := Nat.le_trans hk KK708.1
                      replace O0 := O0.keep KK708 all0
                      replace V423 := V423.keep KK708 nin0
                      replace V677 := V677.keep KK708 nin0
                      replace SS694 := SS694.keep KK708 nin0 nin0
                      have K710 := K707.trans KK708 all0
                      refine own_go st708 ?_
                      refine own_go (fun _ kk_ => XS.aload X708.here hx rfl (hb hby at_656) rfl rfl kk_) ?_
                      show own_Fin p.tables e below _ (T708.setTop (mkF m 658 #[.val (.int mode), .val (.int pos), .val (.int ch), .val (.int oth), .val (.int (mode &&& (7 : Int32))), .val (.int (1 : Int32)), .val (.int (ch &&& (255 : Int32))), .val (.int cz), .val (.ref b423), .val (.ref sa), .val (.int pp), .val (.ref b667), .val .null, .unset] [.null, .null]))
                      refine own_go (fun _ kk_ => acmp (g := (mkF m 658 #[.val (.int mode), .val (.int pos), .val (.int ch), .val (.int oth), .val (.int (mode &&& (7 : Int32))), .val (.int (1 : Int32)), .val (.int (ch &&& (255 : Int32))), .val (.int cz), .val (.ref b423), .val (.ref sa), .val (.int pp), .val (.ref b667), .val .null, .unset] [.null, .null])) X708 hx rfl rfl rfl (pc0 := 658) (pc' := 661) (same := true) rfl (hb hby at_658) rfl rfl (by decide) (by decide) kk_) ?_
                      refine own_go (fun _ kk_ => XS.iconst X708.here hx rfl (hb hby at_661) kk_) ?_
                      refine own_go (fun _ kk_ => XS.goto X708.here hx rfl (pc0 := 662) (pc' := 666) rfl (hb hby at_662) (by decide) (by decide) kk_) ?_
                      show own_Fin p.tables e below _ (T708.setTop (mkF m 666 #[.val (.int mode), .val (.int pos), .val (.int ch), .val (.int oth), .val (.int (mode &&& (7 : Int32))), .val (.int (1 : Int32)), .val (.int (ch &&& (255 : Int32))), .val (.int cz), .val (.ref b423), .val (.ref sa), .val (.int pp), .val (.ref b667), .val .null, .unset] [(.int (1 : Int32))]))
                      have CRz : CHr Z consts_1 s.vm s.heap T708.vm T708.heap := by
                        rw [hh]
                        exact CR.trans (CHv.at X708 hZ hEL CH)
                      refine own_retW X708 hx Bd hS hk (t := .boolean) Bd.returns rfl (Or.inl ⟨rfl, by simp, _, rfl⟩) (hb hby at_666) CRz ?_ (by decide) (by decide)
                      show (Q_rm_law Z mode pos ch oth va vk ia sa wi ti wj tj gc h0 n0) (some (.int (1 : Int32))) T708.heap _
                      exact ⟨rfl, N708⟩
                    · skip
                      refine own_go (fun _ kk_ => XS.ifNo X456.here hx rfl (hb hby at_474) rfl ((if0 _ _).trans (feq hc666).1) kk_) ?_
                      show own_Fin p.tables e below _ (T456.setTop (mkF m 477 #[.val (.int mode), .val (.int pos), .val (.int ch), .val (.int oth), .val (.int (mode &&& (7 : Int32))), .val (.int (1 : Int32)), .val (.int (ch &&& (255 : Int32))), .val (.int cz), .val (.ref b423), .val (.ref sa), .val (.int pp), .unset, .unset, .unset] []))
                      obtain ⟨a711, T711, h711, k711, tb711, kb711, X711, e711, E711, hS, hk, hZ, hown, EA711, FC711, FV711, VB711, -, -, CR711, -, NE711, st711⟩ := ldcCH X456 hx hZ hown (hw _ (List.mem_of_getElem? (i := 75) rfl)) wS e456 hS hk hEL (by decide) CH (vs := ((([] : List Int32).map (fun c => c.toInt8.toInt32)).map Value.int)) (z := (0 : Int32)) (by exact ⟨by decide, by decide⟩) (by decide) rfl (g := (mkF m 477 #[.val (.int mode), .val (.int pos), .val (.int ch), .val (.int oth), .val (.int (mode &&& (7 : Int32))), .val (.int (1 : Int32)), .val (.int (ch &&& (255 : Int32))), .val (.int cz), .val (.ref b423), .val (.ref sa), .val (.int pp), .unset, .unset, .unset] [])) rfl (hb hby at_477) (n := 0) (by decide) (by decide) (by decide) (by decide)
                      replace S_b423 := CR711.safe V423.lt S_b423
                      replace CR := CR.trans CR711
                      replace CH := CR711.1
                      replace O0 := O0.ext E711
                      replace V423 := V423.ext E711
                      have K712 := K455.ext E711
                      have ne713 : b423 ≠ a711 := (NE711 _ S_b423).1
                      have ne714 : b423 ≠ tb711 := (NE711 _ S_b423).2
                      have SS711 : own_Str Z h711 a711 tb711 ([] : List Int32) := ⟨_, _, _, _, EA711, FV711, FC711, VB711, StrChars.Road.codOf (n := 0) rfl (by decide), by decide, Nat.le_of_ble_eq_true rfl⟩
                      refine own_go st711 ?_
                      refine own_go (fun _ kk_ => XS.astore X711.here hx rfl (hb hby at_479) rfl rfl (l' := #[.val (.int mode), .val (.int pos), .val (.int ch), .val (.int oth), .val (.int (mode &&& (7 : Int32))), .val (.int (1 : Int32)), .val (.int (ch &&& (255 : Int32))), .val (.int cz), .val (.ref b423), .val (.ref sa), .val (.int pp), .val (.ref a711), .unset, .unset]) rfl kk_) ?_
                      refine own_go (fun _ kk_ => XS.goto X711.here hx rfl (pc0 := 481) (pc' := 517) rfl (hb hby at_481) (by decide) (by decide) kk_) ?_
                      refine own_go (fun _ kk_ => XS.aconstNull X711.here hx rfl (hb hby at_517) kk_) ?_
                      refine own_go (fun _ kk_ => XS.astore X711.here hx rfl (hb hby at_518) rfl rfl (l' := #[.val (.int mode), .val (.int pos), .val (.int ch), .val (.int oth), .val (.int (mode &&& (7 : Int32))), .val (.int (1 : Int32)), .val (.int (ch &&& (255 : Int32))), .val (.int cz), .val (.ref b423), .val (.ref sa), .val (.int pp), .val (.ref a711), .val .null, .unset]) rfl kk_) ?_
                      refine own_go (fun _ kk_ => XS.goto X711.here hx rfl (pc0 := 520) (pc' := 651) rfl (hb hby at_520) (by decide) (by decide) kk_) ?_
                      refine own_go (fun _ kk_ => XS.aload X711.here hx rfl (hb hby at_651) rfl rfl kk_) ?_
                      show own_Fin p.tables e below _ (T711.setTop (mkF m 653 #[.val (.int mode), .val (.int pos), .val (.int ch), .val (.int oth), .val (.int (mode &&& (7 : Int32))), .val (.int (1 : Int32)), .val (.int (ch &&& (255 : Int32))), .val (.int cz), .val (.ref b423), .val (.ref sa), .val (.int pp), .val (.ref a711), .val .null, .unset] [(.ref a711)]))
                      obtain ⟨_, _, ⟨T715, L715, k715, n715⟩, -, X715, ⟨Lc715, hQ715, l715, y715, z715⟩, st715⟩ := Jvm.LawKit.callS X711 hx (y := (⟨"com/example/hebelwerk/hebelwerk/model/DividendMethod", "written", "(Ljava/lang/String;)Lcom/example/hebelwerk/hebelwerk/model/DividendMethod;"⟩ : MethodName)) hown (mvT hZ (hw _ (List.mem_of_getElem? (i := 34) rfl))) (mvT hZ (hw _ (List.mem_of_getElem? (i := 35) rfl))) (mvT hZ (hw _ (List.mem_of_getElem? (i := 2) rfl))) (mvT hZ (hw _ (List.mem_of_getElem? (i := 36) rfl))) (by decide) (backOf (W := 0) (rm_wrS l Z a0 hw [] a711 tb711 ([] : List Int32) va vk ia sa wi ti wj tj gc h711 n0 (Nat.le_trans Z0 K712.1) SS711 S_V V_V E_V F_i F_j S_i S_j S_C hcs O0) hZ (hw _ (List.mem_of_getElem? (i := 36) rfl)) (hw _ (List.mem_of_getElem? (i := 2) rfl)) (by decide) (by decide)) (g := (mkF m 653 #[.val (.int mode), .val (.int pos), .val (.int ch), .val (.int oth), .val (.int (mode &&& (7 : Int32))), .val (.int (1 : Int32)), .val (.int (ch &&& (255 : Int32))), .val (.int cz), .val (.ref b423), .val (.ref sa), .val (.int pp), .val (.ref a711), .val .null, .unset] [(.ref a711)])) rfl (by rw [hml]; rfl) (argsL := [(.ref a711)]) (rest := []) (lenOf pd_6 rfl) rfl (by show 2 * 0 + _ ≤ _; exact Nat.le_of_eq rfl) (hb hby at_653) (fun _ _ => ⟨rfl, e711, (by decide : 3 + 1 ≤ _), (by decide : 12 + 2 ≤ _)⟩)
                      dsimp only [Pt.U, Pt.locs, Pt.cells, Pt.slots] at X715 l715 y715 z715 st715 hQ715
                      subst l715 y715 z715
                      obtain ⟨N715q, KK715, y1_715, y2_715, y3_715⟩ := hQ715
                      obtain rfl := y3_715 (by simp) (by simp)
                      have N715 := Fr.app N453 N715q
                      have hs716 : ∀ x ∈ [], Safe Z consts_1 T711.vm h711 x := sf0
                      replace S_b423 := Safe.keep KK715 hs716 CH S_b423
                      replace CR := CR.trans (CHr.keep KK715 hs716 CH)
                      replace CH := CHv.keep KK715 hs716 CH
                      replace hk := Nat.le_trans hk KK715.1
                      replace O0 := O0.keep KK715 all0
                      replace V423 := V423.keep KK715 nin0
                      replace SS711 := SS711.keep KK715 nin0 nin0
                      have K717 := K712.trans KK715 all0
                      refine own_go st715 ?_
                      refine own_go (fun _ kk_ => XS.aload X715.here hx rfl (hb hby at_656) rfl rfl kk_) ?_
                      show own_Fin p.tables e below _ (T715.setTop (mkF m 658 #[.val (.int mode), .val (.int pos), .val (.int ch), .val (.int oth), .val (.int (mode &&& (7 : Int32))), .val (.int (1 : Int32)), .val (.int (ch &&& (255 : Int32))), .val (.int cz), .val (.ref b423), .val (.ref sa), .val (.int pp), .val (.ref a711), .val .null, .unset] [.null, .null]))
                      refine own_go (fun _ kk_ => acmp (g := (mkF m 658 #[.val (.int mode), .val (.int pos), .val (.int ch), .val (.int oth), .val (.int (mode &&& (7 : Int32))), .val (.int (1 : Int32)), .val (.int (ch &&& (255 : Int32))), .val (.int cz), .val (.ref b423), .val (.ref sa), .val (.int pp), .val (.ref a711), .val .null, .unset] [.null, .null])) X715 hx rfl rfl rfl (pc0 := 658) (pc' := 661) (same := true) rfl (hb hby at_658) rfl rfl (by decide) (by decide) kk_) ?_
                      refine own_go (fun _ kk_ => XS.iconst X715.here hx rfl (hb hby at_661) kk_) ?_
                      refine own_go (fun _ kk_ => XS.goto X715.here hx rfl (pc0 := 662) (pc' := 666) rfl (hb hby at_662) (by decide) (by decide) kk_) ?_
                      show own_Fin p.tables e below _ (T715.setTop (mkF m 666 #[.val (.int mode), .val (.int pos), .val (.int ch), .val (.int oth), .val (.int (mode &&& (7 : Int32))), .val (.int (1 : Int32)), .val (.int (ch &&& (255 : Int32))), .val (.int cz), .val (.ref b423), .val (.ref sa), .val (.int pp), .val (.ref a711), .val .null, .unset] [(.int (1 : Int32))]))
                      have CRz : CHr Z consts_1 s.vm s.heap T715.vm T715.heap := by
                        rw [hh]
                        exact CR.trans (CHv.at X715 hZ hEL CH)
                      refine own_retW X715 hx Bd hS hk (t := .boolean) Bd.returns rfl (Or.inl ⟨rfl, by simp, _, rfl⟩) (hb hby at_666) CRz ?_ (by decide) (by decide)
                      show (Q_rm_law Z mode pos ch oth va vk ia sa wi ti wj tj gc h0 n0) (some (.int (1 : Int32))) T715.heap _
                      exact ⟨rfl, N715⟩
                  · skip
                    refine own_go (fun _ kk_ => XS.icmpYes X456.here hx rfl (pc0 := 467) (pc' := 523) rfl (hb hby at_467) rfl (feq hc665).2 (by decide) (by decide) kk_) ?_
                    refine own_go (fun _ kk_ => XS.bipush X456.here hx rfl (hb hby at_523) kk_) ?_
                    show own_Fin p.tables e below _ (T456.setTop (mkF m 525 #[.val (.int mode), .val (.int pos), .val (.int ch), .val (.int oth), .val (.int (mode &&& (7 : Int32))), .val (.int (1 : Int32)), .val (.int (ch &&& (255 : Int32))), .val (.int cz), .val (.ref b423), .val (.ref sa), .val (.int pp), .unset, .unset, .unset] [(.int (8 : Int32))]))
                    obtain ⟨T718, h718, k718, X718, e718, E718, A718, st718⟩ := newP X456 hx hZ (hw _ (List.mem_of_getElem? (i := 0) rfl)) e456 (g := (mkF m 525 #[.val (.int mode), .val (.int pos), .val (.int ch), .val (.int oth), .val (.int (mode &&& (7 : Int32))), .val (.int (1 : Int32)), .val (.int (ch &&& (255 : Int32))), .val (.int cz), .val (.ref b423), .val (.ref sa), .val (.int pp), .unset, .unset, .unset] [(.int (8 : Int32))])) rfl (hb hby at_525) rfl (by decide) (cap := 8) (by decide) (by decide) (by decide) (by decide)
                    obtain ⟨b718, g718⟩ : ∃ z, z = h453.size := ⟨_, rfl⟩
                    rw [← g718] at A718 st718
                    have sz_b718 : h0.size ≤ b718 := Nat.le_trans K455.1 (Nat.le_of_eq g718.symm)
                    have g_b718 : n0 ≤ b718 := Nat.le_trans Z0 sz_b718
                    have ne719 : va ≠ b718 := O0.ne V_V.lt g_b718
                    have ne720 : ia ≠ b718 := O0.ne F_i.lt g_b718
                    have ne721 : sa ≠ b718 := O0.ne F_j.lt g_b718
                    have ne722 : wi ≠ b718 := O0.ne S_i.lt g_b718
                    have ne723 : ti ≠ b718 := O0.ne S_i.ltt g_b718
                    have ne724 : wj ≠ b718 := O0.ne S_j.lt g_b718
                    have ne725 : tj ≠ b718 := O0.ne S_j.ltt g_b718
                    have ne726 : b423 ≠ b718 := Nat.ne_of_lt (Nat.lt_of_lt_of_le V423.lt (Nat.le_of_eq g718.symm))
                    have S_b718 := Safe.new (Z := Z) (EL := consts_1) (vm := s.vm) (Nat.le_of_eq g718.symm)
                    replace S_b423 := Safe.ext E718 CH S_b423
                    replace S_b718 := Safe.ext E718 CH S_b718
                    replace CR := CR.trans (CHr.ext E718 CH)
                    replace CH := CH.ext E718
                    replace hk := Nat.le_trans hk E718.1
                    replace O0 := O0.ext E718
                    replace V423 := V423.ext E718
                    have K727 := K455.ext E718
                    have V718 : Arv Z h718 b718 k718 .char (8 : Int32) [(.int (0 : Int32)), (.int (0 : Int32)), (.int (0 : Int32)), (.int (0 : Int32)), (.int (0 : Int32)), (.int (0 : Int32)), (.int (0 : Int32)), (.int (0 : Int32))] (.int (0 : Int32)) := (Arv.new A718 (by decide)).pad (pad_rep [] (.int (0 : Int32)) 8)
                    refine own_go st718 ?_
                    refine own_go (fun _ kk_ => XS.dup X718.here hx rfl (hb hby at_527) rfl rfl kk_) ?_
                    refine own_go (fun _ kk_ => XS.iconst X718.here hx rfl (hb hby at_528) kk_) ?_
                    refine own_go (fun _ kk_ => XS.iloadN X718.here hx rfl (hb hby at_529) rfl kk_) ?_
                    refine own_go (fun _ kk_ => XS.sipush X718.here hx rfl (hb hby at_530) kk_) ?_
                    show own_Fin p.tables e below _ (T718.setTop (mkF m 533 #[.val (.int mode), .val (.int pos), .val (.int ch), .val (.int oth), .val (.int (mode &&& (7 : Int32))), .val (.int (1 : Int32)), .val (.int (ch &&& (255 : Int32))), .val (.int cz), .val (.ref b423), .val (.ref sa), .val (.int pp), .unset, .unset, .unset] [(.int (255 : Int32)), (.int pos), (.int (0 : Int32)), (.ref b718), (.ref b718)]))
                    refine own_go (fun _ kk_ => XS.iand X718.here hx rfl (hb hby at_533) rfl kk_) ?_
                    show own_Fin p.tables e below _ (T718.setTop (mkF m 534 #[.val (.int mode), .val (.int pos), .val (.int ch), .val (.int oth), .val (.int (mode &&& (7 : Int32))), .val (.int (1 : Int32)), .val (.int (ch &&& (255 : Int32))), .val (.int cz), .val (.ref b423), .val (.ref sa), .val (.int pp), .unset, .unset, .unset] [(.int (pos &&& (255 : Int32))), (.int (0 : Int32)), (.ref b718), (.ref b718)]))
                    refine own_go (fun _ kk_ => XS.i2c X718.here hx rfl (hb hby at_534) rfl kk_) ?_
                    rw [i2c_mask]
                    show own_Fin p.tables e below _ (T718.setTop (mkF m 535 #[.val (.int mode), .val (.int pos), .val (.int ch), .val (.int oth), .val (.int (mode &&& (7 : Int32))), .val (.int (1 : Int32)), .val (.int (ch &&& (255 : Int32))), .val (.int cz), .val (.ref b423), .val (.ref sa), .val (.int pp), .unset, .unset, .unset] [(.int (pos &&& (255 : Int32))), (.int (0 : Int32)), (.ref b718), (.ref b718)]))
                    obtain ⟨T728, h728, X728, e728, W728, V728, st728⟩ := own_stC X718 hx hZ e718 V718 (by decide) (i := 0) rfl (Nat.le_of_ble_eq_true rfl) (g := (mkF m 535 #[.val (.int mode), .val (.int pos), .val (.int ch), .val (.int oth), .val (.int (mode &&& (7 : Int32))), .val (.int (1 : Int32)), .val (.int (ch &&& (255 : Int32))), .val (.int cz), .val (.ref b423), .val (.ref sa), .val (.int pp), .unset, .unset, .unset] [(.int (pos &&& (255 : Int32))), (.int (0 : Int32)), (.ref b718), (.ref b718)])) rfl rfl (hb hby at_535)
                    rw [own_nar255] at V728
                    replace V718 : Arv Z h728 b718 k718 .char (8 : Int32) [(.int (pos &&& (255 : Int32))), (.int (0 : Int32)), (.int (0 : Int32)), (.int (0 : Int32)), (.int (0 : Int32)), (.int (0 : Int32)), (.int (0 : Int32)), (.int (0 : Int32))] (.int (0 : Int32)) := V728
                    have N728 := Fr.snoc X728 N453 g_b718
                    refine own_go st728 ?_
                    have sa729 := S_b718
                    replace S_b423 := Safe.wr W728 sa729 CH S_b423
                    replace S_b718 := Safe.wr W728 sa729 CH S_b718
                    replace CR := CR.trans (CHr.wr W728 sa729 CH)
                    replace CH := CHv.wr W728 sa729 CH
                    replace hk := Nat.le_trans hk (Keep.of_wr W728).1
                    replace O0 := O0.wr W728 g_b718
                    replace V423 := V423.other W728 ne726
                    have K730 := K727.wr W728 (Or.inr sz_b718)
                    refine own_go (fun _ kk_ => XS.dup X728.here hx rfl (hb hby at_536) rfl rfl kk_) ?_
                    refine own_go (fun _ kk_ => XS.iconst X728.here hx rfl (hb hby at_537) kk_) ?_
                    refine own_go (fun _ kk_ => XS.iloadN X728.here hx rfl (hb hby at_538) rfl kk_) ?_
                    refine own_go (fun _ kk_ => XS.bipush X728.here hx rfl (hb hby at_539) kk_) ?_
                    show own_Fin p.tables e below _ (T728.setTop (mkF m 541 #[.val (.int mode), .val (.int pos), .val (.int ch), .val (.int oth), .val (.int (mode &&& (7 : Int32))), .val (.int (1 : Int32)), .val (.int (ch &&& (255 : Int32))), .val (.int cz), .val (.ref b423), .val (.ref sa), .val (.int pp), .unset, .unset, .unset] [(.int (8 : Int32)), (.int pos), (.int (1 : Int32)), (.ref b718), (.ref b718)]))
                    refine own_go (fun _ kk_ => XS.iushr X728.here hx rfl (hb hby at_541) rfl kk_) ?_
                    refine own_go (fun _ kk_ => XS.sipush X728.here hx rfl (hb hby at_542) kk_) ?_
                    show own_Fin p.tables e below _ (T728.setTop (mkF m 545 #[.val (.int mode), .val (.int pos), .val (.int ch), .val (.int oth), .val (.int (mode &&& (7 : Int32))), .val (.int (1 : Int32)), .val (.int (ch &&& (255 : Int32))), .val (.int cz), .val (.ref b423), .val (.ref sa), .val (.int pp), .unset, .unset, .unset] [(.int (255 : Int32)), (.int ((pos.toUInt32 >>> ((8 : Int32) &&& 31).toUInt32).toInt32)), (.int (1 : Int32)), (.ref b718), (.ref b718)]))
                    refine own_go (fun _ kk_ => XS.iand X728.here hx rfl (hb hby at_545) rfl kk_) ?_
                    show own_Fin p.tables e below _ (T728.setTop (mkF m 546 #[.val (.int mode), .val (.int pos), .val (.int ch), .val (.int oth), .val (.int (mode &&& (7 : Int32))), .val (.int (1 : Int32)), .val (.int (ch &&& (255 : Int32))), .val (.int cz), .val (.ref b423), .val (.ref sa), .val (.int pp), .unset, .unset, .unset] [(.int (((pos.toUInt32 >>> ((8 : Int32) &&& 31).toUInt32).toInt32) &&& (255 : Int32))), (.int (1 : Int32)), (.ref b718), (.ref b718)]))
                    refine own_go (fun _ kk_ => XS.i2c X728.here hx rfl (hb hby at_546) rfl kk_) ?_
                    rw [i2c_mask]
                    show own_Fin p.tables e below _ (T728.setTop (mkF m 547 #[.val (.int mode), .val (.int pos), .val (.int ch), .val (.int oth), .val (.int (mode &&& (7 : Int32))), .val (.int (1 : Int32)), .val (.int (ch &&& (255 : Int32))), .val (.int cz), .val (.ref b423), .val (.ref sa), .val (.int pp), .unset, .unset, .unset] [(.int (((pos.toUInt32 >>> ((8 : Int32) &&& 31).toUInt32).toInt32) &&& (255 : Int32))), (.int (1 : Int32)), (.ref b718), (.ref b718)]))
                    obtain ⟨T731, h731, X731, e731, W731, V731, st731⟩ := own_stC X728 hx hZ e728 V718 (by decide) (i := 1) rfl (Nat.le_of_ble_eq_true rfl) (g := (mkF m 547 #[.val (.int mode), .val (.int pos), .val (.int ch), .val (.int oth), .val (.int (mode &&& (7 : Int32))), .val (.int (1 : Int32)), .val (.int (ch &&& (255 : Int32))), .val (.int cz), .val (.ref b423), .val (.ref sa), .val (.int pp), .unset, .unset, .unset] [(.int (((pos.toUInt32 >>> ((8 : Int32) &&& 31).toUInt32).toInt32) &&& (255 : Int32))), (.int (1 : Int32)), (.ref b718), (.ref b718)])) rfl rfl (hb hby at_547)
                    rw [own_nar255] at V731
                    replace V718 : Arv Z h731 b718 k718 .char (8 : Int32) [(.int (pos &&& (255 : Int32))), (.int (((pos.toUInt32 >>> ((8 : Int32) &&& 31).toUInt32).toInt32) &&& (255 : Int32))), (.int (0 : Int32)), (.int (0 : Int32)), (.int (0 : Int32)), (.int (0 : Int32)), (.int (0 : Int32)), (.int (0 : Int32))] (.int (0 : Int32)) := V731
                    have N731 := Fr.snoc X731 N728 g_b718
                    refine own_go st731 ?_
                    have sa732 := S_b718
                    replace S_b423 := Safe.wr W731 sa732 CH S_b423
                    replace S_b718 := Safe.wr W731 sa732 CH S_b718
                    replace CR := CR.trans (CHr.wr W731 sa732 CH)
                    replace CH := CHv.wr W731 sa732 CH
                    replace hk := Nat.le_trans hk (Keep.of_wr W731).1
                    replace O0 := O0.wr W731 g_b718
                    replace V423 := V423.other W731 ne726
                    have K733 := K730.wr W731 (Or.inr sz_b718)
                    refine own_go (fun _ kk_ => XS.dup X731.here hx rfl (hb hby at_548) rfl rfl kk_) ?_
                    refine own_go (fun _ kk_ => XS.iconst X731.here hx rfl (hb hby at_549) kk_) ?_
                    refine own_go (fun _ kk_ => XS.iloadN X731.here hx rfl (hb hby at_550) rfl kk_) ?_
                    refine own_go (fun _ kk_ => XS.bipush X731.here hx rfl (hb hby at_551) kk_) ?_
                    show own_Fin p.tables e below _ (T731.setTop (mkF m 553 #[.val (.int mode), .val (.int pos), .val (.int ch), .val (.int oth), .val (.int (mode &&& (7 : Int32))), .val (.int (1 : Int32)), .val (.int (ch &&& (255 : Int32))), .val (.int cz), .val (.ref b423), .val (.ref sa), .val (.int pp), .unset, .unset, .unset] [(.int (16 : Int32)), (.int pos), (.int (2 : Int32)), (.ref b718), (.ref b718)]))
                    refine own_go (fun _ kk_ => XS.iushr X731.here hx rfl (hb hby at_553) rfl kk_) ?_
                    refine own_go (fun _ kk_ => XS.sipush X731.here hx rfl (hb hby at_554) kk_) ?_
                    show own_Fin p.tables e below _ (T731.setTop (mkF m 557 #[.val (.int mode), .val (.int pos), .val (.int ch), .val (.int oth), .val (.int (mode &&& (7 : Int32))), .val (.int (1 : Int32)), .val (.int (ch &&& (255 : Int32))), .val (.int cz), .val (.ref b423), .val (.ref sa), .val (.int pp), .unset, .unset, .unset] [(.int (255 : Int32)), (.int ((pos.toUInt32 >>> ((16 : Int32) &&& 31).toUInt32).toInt32)), (.int (2 : Int32)), (.ref b718), (.ref b718)]))
                    refine own_go (fun _ kk_ => XS.iand X731.here hx rfl (hb hby at_557) rfl kk_) ?_
                    show own_Fin p.tables e below _ (T731.setTop (mkF m 558 #[.val (.int mode), .val (.int pos), .val (.int ch), .val (.int oth), .val (.int (mode &&& (7 : Int32))), .val (.int (1 : Int32)), .val (.int (ch &&& (255 : Int32))), .val (.int cz), .val (.ref b423), .val (.ref sa), .val (.int pp), .unset, .unset, .unset] [(.int (((pos.toUInt32 >>> ((16 : Int32) &&& 31).toUInt32).toInt32) &&& (255 : Int32))), (.int (2 : Int32)), (.ref b718), (.ref b718)]))
                    refine own_go (fun _ kk_ => XS.i2c X731.here hx rfl (hb hby at_558) rfl kk_) ?_
                    rw [i2c_mask]
                    show own_Fin p.tables e below _ (T731.setTop (mkF m 559 #[.val (.int mode), .val (.int pos), .val (.int ch), .val (.int oth), .val (.int (mode &&& (7 : Int32))), .val (.int (1 : Int32)), .val (.int (ch &&& (255 : Int32))), .val (.int cz), .val (.ref b423), .val (.ref sa), .val (.int pp), .unset, .unset, .unset] [(.int (((pos.toUInt32 >>> ((16 : Int32) &&& 31).toUInt32).toInt32) &&& (255 : Int32))), (.int (2 : Int32)), (.ref b718), (.ref b718)]))
                    obtain ⟨T734, h734, X734, e734, W734, V734, st734⟩ := own_stC X731 hx hZ e731 V718 (by decide) (i := 2) rfl (Nat.le_of_ble_eq_true rfl) (g := (mkF m 559 #[.val (.int mode), .val (.int pos), .val (.int ch), .val (.int oth), .val (.int (mode &&& (7 : Int32))), .val (.int (1 : Int32)), .val (.int (ch &&& (255 : Int32))), .val (.int cz), .val (.ref b423), .val (.ref sa), .val (.int pp), .unset, .unset, .unset] [(.int (((pos.toUInt32 >>> ((16 : Int32) &&& 31).toUInt32).toInt32) &&& (255 : Int32))), (.int (2 : Int32)), (.ref b718), (.ref b718)])) rfl rfl (hb hby at_559)
                    rw [own_nar255] at V734
                    replace V718 : Arv Z h734 b718 k718 .char (8 : Int32) [(.int (pos &&& (255 : Int32))), (.int (((pos.toUInt32 >>> ((8 : Int32) &&& 31).toUInt32).toInt32) &&& (255 : Int32))), (.int (((pos.toUInt32 >>> ((16 : Int32) &&& 31).toUInt32).toInt32) &&& (255 : Int32))), (.int (0 : Int32)), (.int (0 : Int32)), (.int (0 : Int32)), (.int (0 : Int32)), (.int (0 : Int32))] (.int (0 : Int32)) := V734
                    have N734 := Fr.snoc X734 N731 g_b718
                    refine own_go st734 ?_
                    have sa735 := S_b718
                    replace S_b423 := Safe.wr W734 sa735 CH S_b423
                    replace S_b718 := Safe.wr W734 sa735 CH S_b718
                    replace CR := CR.trans (CHr.wr W734 sa735 CH)
                    replace CH := CHv.wr W734 sa735 CH
                    replace hk := Nat.le_trans hk (Keep.of_wr W734).1
                    replace O0 := O0.wr W734 g_b718
                    replace V423 := V423.other W734 ne726
                    have K736 := K733.wr W734 (Or.inr sz_b718)
                    refine own_go (fun _ kk_ => XS.dup X734.here hx rfl (hb hby at_560) rfl rfl kk_) ?_
                    refine own_go (fun _ kk_ => XS.iconst X734.here hx rfl (hb hby at_561) kk_) ?_
                    refine own_go (fun _ kk_ => XS.iloadN X734.here hx rfl (hb hby at_562) rfl kk_) ?_
                    refine own_go (fun _ kk_ => XS.bipush X734.here hx rfl (hb hby at_563) kk_) ?_
                    show own_Fin p.tables e below _ (T734.setTop (mkF m 565 #[.val (.int mode), .val (.int pos), .val (.int ch), .val (.int oth), .val (.int (mode &&& (7 : Int32))), .val (.int (1 : Int32)), .val (.int (ch &&& (255 : Int32))), .val (.int cz), .val (.ref b423), .val (.ref sa), .val (.int pp), .unset, .unset, .unset] [(.int (24 : Int32)), (.int pos), (.int (3 : Int32)), (.ref b718), (.ref b718)]))
                    refine own_go (fun _ kk_ => XS.iushr X734.here hx rfl (hb hby at_565) rfl kk_) ?_
                    refine own_go (fun _ kk_ => XS.sipush X734.here hx rfl (hb hby at_566) kk_) ?_
                    show own_Fin p.tables e below _ (T734.setTop (mkF m 569 #[.val (.int mode), .val (.int pos), .val (.int ch), .val (.int oth), .val (.int (mode &&& (7 : Int32))), .val (.int (1 : Int32)), .val (.int (ch &&& (255 : Int32))), .val (.int cz), .val (.ref b423), .val (.ref sa), .val (.int pp), .unset, .unset, .unset] [(.int (255 : Int32)), (.int ((pos.toUInt32 >>> ((24 : Int32) &&& 31).toUInt32).toInt32)), (.int (3 : Int32)), (.ref b718), (.ref b718)]))
                    refine own_go (fun _ kk_ => XS.iand X734.here hx rfl (hb hby at_569) rfl kk_) ?_
                    show own_Fin p.tables e below _ (T734.setTop (mkF m 570 #[.val (.int mode), .val (.int pos), .val (.int ch), .val (.int oth), .val (.int (mode &&& (7 : Int32))), .val (.int (1 : Int32)), .val (.int (ch &&& (255 : Int32))), .val (.int cz), .val (.ref b423), .val (.ref sa), .val (.int pp), .unset, .unset, .unset] [(.int (((pos.toUInt32 >>> ((24 : Int32) &&& 31).toUInt32).toInt32) &&& (255 : Int32))), (.int (3 : Int32)), (.ref b718), (.ref b718)]))
                    refine own_go (fun _ kk_ => XS.i2c X734.here hx rfl (hb hby at_570) rfl kk_) ?_
                    rw [i2c_mask]
                    show own_Fin p.tables e below _ (T734.setTop (mkF m 571 #[.val (.int mode), .val (.int pos), .val (.int ch), .val (.int oth), .val (.int (mode &&& (7 : Int32))), .val (.int (1 : Int32)), .val (.int (ch &&& (255 : Int32))), .val (.int cz), .val (.ref b423), .val (.ref sa), .val (.int pp), .unset, .unset, .unset] [(.int (((pos.toUInt32 >>> ((24 : Int32) &&& 31).toUInt32).toInt32) &&& (255 : Int32))), (.int (3 : Int32)), (.ref b718), (.ref b718)]))
                    obtain ⟨T737, h737, X737, e737, W737, V737, st737⟩ := own_stC X734 hx hZ e734 V718 (by decide) (i := 3) rfl (Nat.le_of_ble_eq_true rfl) (g := (mkF m 571 #[.val (.int mode), .val (.int pos), .val (.int ch), .val (.int oth), .val (.int (mode &&& (7 : Int32))), .val (.int (1 : Int32)), .val (.int (ch &&& (255 : Int32))), .val (.int cz), .val (.ref b423), .val (.ref sa), .val (.int pp), .unset, .unset, .unset] [(.int (((pos.toUInt32 >>> ((24 : Int32) &&& 31).toUInt32).toInt32) &&& (255 : Int32))), (.int (3 : Int32)), (.ref b718), (.ref b718)])) rfl rfl (hb hby at_571)
                    rw [own_nar255] at V737
                    replace V718 : Arv Z h737 b718 k718 .char (8 : Int32) [(.int (pos &&& (255 : Int32))), (.int (((pos.toUInt32 >>> ((8 : Int32) &&& 31).toUInt32).toInt32) &&& (255 : Int32))), (.int (((pos.toUInt32 >>> ((16 : Int32) &&& 31).toUInt32).toInt32) &&& (255 : Int32))), (.int (((pos.toUInt32 >>> ((24 : Int32) &&& 31).toUInt32).toInt32) &&& (255 : Int32))), (.int (0 : Int32)), (.int (0 : Int32)), (.int (0 : Int32)), (.int (0 : Int32))] (.int (0 : Int32)) := V737
                    have N737 := Fr.snoc X737 N734 g_b718
                    refine own_go st737 ?_
                    have sa738 := S_b718
                    replace S_b423 := Safe.wr W737 sa738 CH S_b423
                    replace S_b718 := Safe.wr W737 sa738 CH S_b718
                    replace CR := CR.trans (CHr.wr W737 sa738 CH)
                    replace CH := CHv.wr W737 sa738 CH
                    replace hk := Nat.le_trans hk (Keep.of_wr W737).1
                    replace O0 := O0.wr W737 g_b718
                    replace V423 := V423.other W737 ne726
                    have K739 := K736.wr W737 (Or.inr sz_b718)
                    refine own_go (fun _ kk_ => XS.dup X737.here hx rfl (hb hby at_572) rfl rfl kk_) ?_
                    refine own_go (fun _ kk_ => XS.iconst X737.here hx rfl (hb hby at_573) kk_) ?_
                    refine own_go (fun _ kk_ => XS.iloadN X737.here hx rfl (hb hby at_574) rfl kk_) ?_
                    refine own_go (fun _ kk_ => XS.sipush X737.here hx rfl (hb hby at_575) kk_) ?_
                    show own_Fin p.tables e below _ (T737.setTop (mkF m 578 #[.val (.int mode), .val (.int pos), .val (.int ch), .val (.int oth), .val (.int (mode &&& (7 : Int32))), .val (.int (1 : Int32)), .val (.int (ch &&& (255 : Int32))), .val (.int cz), .val (.ref b423), .val (.ref sa), .val (.int pp), .unset, .unset, .unset] [(.int (255 : Int32)), (.int oth), (.int (4 : Int32)), (.ref b718), (.ref b718)]))
                    refine own_go (fun _ kk_ => XS.iand X737.here hx rfl (hb hby at_578) rfl kk_) ?_
                    show own_Fin p.tables e below _ (T737.setTop (mkF m 579 #[.val (.int mode), .val (.int pos), .val (.int ch), .val (.int oth), .val (.int (mode &&& (7 : Int32))), .val (.int (1 : Int32)), .val (.int (ch &&& (255 : Int32))), .val (.int cz), .val (.ref b423), .val (.ref sa), .val (.int pp), .unset, .unset, .unset] [(.int (oth &&& (255 : Int32))), (.int (4 : Int32)), (.ref b718), (.ref b718)]))
                    refine own_go (fun _ kk_ => XS.i2c X737.here hx rfl (hb hby at_579) rfl kk_) ?_
                    rw [i2c_mask]
                    show own_Fin p.tables e below _ (T737.setTop (mkF m 580 #[.val (.int mode), .val (.int pos), .val (.int ch), .val (.int oth), .val (.int (mode &&& (7 : Int32))), .val (.int (1 : Int32)), .val (.int (ch &&& (255 : Int32))), .val (.int cz), .val (.ref b423), .val (.ref sa), .val (.int pp), .unset, .unset, .unset] [(.int (oth &&& (255 : Int32))), (.int (4 : Int32)), (.ref b718), (.ref b718)]))
                    obtain ⟨T740, h740, X740, e740, W740, V740, st740⟩ := own_stC X737 hx hZ e737 V718 (by decide) (i := 4) rfl (Nat.le_of_ble_eq_true rfl) (g := (mkF m 580 #[.val (.int mode), .val (.int pos), .val (.int ch), .val (.int oth), .val (.int (mode &&& (7 : Int32))), .val (.int (1 : Int32)), .val (.int (ch &&& (255 : Int32))), .val (.int cz), .val (.ref b423), .val (.ref sa), .val (.int pp), .unset, .unset, .unset] [(.int (oth &&& (255 : Int32))), (.int (4 : Int32)), (.ref b718), (.ref b718)])) rfl rfl (hb hby at_580)
                    rw [own_nar255] at V740
                    replace V718 : Arv Z h740 b718 k718 .char (8 : Int32) [(.int (pos &&& (255 : Int32))), (.int (((pos.toUInt32 >>> ((8 : Int32) &&& 31).toUInt32).toInt32) &&& (255 : Int32))), (.int (((pos.toUInt32 >>> ((16 : Int32) &&& 31).toUInt32).toInt32) &&& (255 : Int32))), (.int (((pos.toUInt32 >>> ((24 : Int32) &&& 31).toUInt32).toInt32) &&& (255 : Int32))), (.int (oth &&& (255 : Int32))), (.int (0 : Int32)), (.int (0 : Int32)), (.int (0 : Int32))] (.int (0 : Int32)) := V740
                    have N740 := Fr.snoc X740 N737 g_b718
                    refine own_go st740 ?_
                    have sa741 := S_b718
                    replace S_b423 := Safe.wr W740 sa741 CH S_b423
                    replace S_b718 := Safe.wr W740 sa741 CH S_b718
                    replace CR := CR.trans (CHr.wr W740 sa741 CH)
                    replace CH := CHv.wr W740 sa741 CH
                    replace hk := Nat.le_trans hk (Keep.of_wr W740).1
                    replace O0 := O0.wr W740 g_b718
                    replace V423 := V423.other W740 ne726
                    have K742 := K739.wr W740 (Or.inr sz_b718)
                    refine own_go (fun _ kk_ => XS.dup X740.here hx rfl (hb hby at_581) rfl rfl kk_) ?_
                    refine own_go (fun _ kk_ => XS.iconst X740.here hx rfl (hb hby at_582) kk_) ?_
                    refine own_go (fun _ kk_ => XS.iloadN X740.here hx rfl (hb hby at_583) rfl kk_) ?_
                    refine own_go (fun _ kk_ => XS.bipush X740.here hx rfl (hb hby at_584) kk_) ?_
                    show own_Fin p.tables e below _ (T740.setTop (mkF m 586 #[.val (.int mode), .val (.int pos), .val (.int ch), .val (.int oth), .val (.int (mode &&& (7 : Int32))), .val (.int (1 : Int32)), .val (.int (ch &&& (255 : Int32))), .val (.int cz), .val (.ref b423), .val (.ref sa), .val (.int pp), .unset, .unset, .unset] [(.int (8 : Int32)), (.int oth), (.int (5 : Int32)), (.ref b718), (.ref b718)]))
                    refine own_go (fun _ kk_ => XS.iushr X740.here hx rfl (hb hby at_586) rfl kk_) ?_
                    refine own_go (fun _ kk_ => XS.sipush X740.here hx rfl (hb hby at_587) kk_) ?_
                    show own_Fin p.tables e below _ (T740.setTop (mkF m 590 #[.val (.int mode), .val (.int pos), .val (.int ch), .val (.int oth), .val (.int (mode &&& (7 : Int32))), .val (.int (1 : Int32)), .val (.int (ch &&& (255 : Int32))), .val (.int cz), .val (.ref b423), .val (.ref sa), .val (.int pp), .unset, .unset, .unset] [(.int (255 : Int32)), (.int ((oth.toUInt32 >>> ((8 : Int32) &&& 31).toUInt32).toInt32)), (.int (5 : Int32)), (.ref b718), (.ref b718)]))
                    refine own_go (fun _ kk_ => XS.iand X740.here hx rfl (hb hby at_590) rfl kk_) ?_
                    show own_Fin p.tables e below _ (T740.setTop (mkF m 591 #[.val (.int mode), .val (.int pos), .val (.int ch), .val (.int oth), .val (.int (mode &&& (7 : Int32))), .val (.int (1 : Int32)), .val (.int (ch &&& (255 : Int32))), .val (.int cz), .val (.ref b423), .val (.ref sa), .val (.int pp), .unset, .unset, .unset] [(.int (((oth.toUInt32 >>> ((8 : Int32) &&& 31).toUInt32).toInt32) &&& (255 : Int32))), (.int (5 : Int32)), (.ref b718), (.ref b718)]))
                    refine own_go (fun _ kk_ => XS.i2c X740.here hx rfl (hb hby at_591) rfl kk_) ?_
                    rw [i2c_mask]
                    show own_Fin p.tables e below _ (T740.setTop (mkF m 592 #[.val (.int mode), .val (.int pos), .val (.int ch), .val (.int oth), .val (.int (mode &&& (7 : Int32))), .val (.int (1 : Int32)), .val (.int (ch &&& (255 : Int32))), .val (.int cz), .val (.ref b423), .val (.ref sa), .val (.int pp), .unset, .unset, .unset] [(.int (((oth.toUInt32 >>> ((8 : Int32) &&& 31).toUInt32).toInt32) &&& (255 : Int32))), (.int (5 : Int32)), (.ref b718), (.ref b718)]))
                    obtain ⟨T743, h743, X743, e743, W743, V743, st743⟩ := own_stC X740 hx hZ e740 V718 (by decide) (i := 5) rfl (Nat.le_of_ble_eq_true rfl) (g := (mkF m 592 #[.val (.int mode), .val (.int pos), .val (.int ch), .val (.int oth), .val (.int (mode &&& (7 : Int32))), .val (.int (1 : Int32)), .val (.int (ch &&& (255 : Int32))), .val (.int cz), .val (.ref b423), .val (.ref sa), .val (.int pp), .unset, .unset, .unset] [(.int (((oth.toUInt32 >>> ((8 : Int32) &&& 31).toUInt32).toInt32) &&& (255 : Int32))), (.int (5 : Int32)), (.ref b718), (.ref b718)])) rfl rfl (hb hby at_592)
                    rw [own_nar255] at V743
                    replace V718 : Arv Z h743 b718 k718 .char (8 : Int32) [(.int (pos &&& (255 : Int32))), (.int (((pos.toUInt32 >>> ((8 : Int32) &&& 31).toUInt32).toInt32) &&& (255 : Int32))), (.int (((pos.toUInt32 >>> ((16 : Int32) &&& 31).toUInt32).toInt32) &&& (255 : Int32))), (.int (((pos.toUInt32 >>> ((24 : Int32) &&& 31).toUInt32).toInt32) &&& (255 : Int32))), (.int (oth &&& (255 : Int32))), (.int (((oth.toUInt32 >>> ((8 : Int32) &&& 31).toUInt32).toInt32) &&& (255 : Int32))), (.int (0 : Int32)), (.int (0 : Int32))] (.int (0 : Int32)) := V743
                    have N743 := Fr.snoc X743 N740 g_b718
                    refine own_go st743 ?_
                    have sa744 := S_b718
                    replace S_b423 := Safe.wr W743 sa744 CH S_b423
                    replace S_b718 := Safe.wr W743 sa744 CH S_b718
                    replace CR := CR.trans (CHr.wr W743 sa744 CH)
                    replace CH := CHv.wr W743 sa744 CH
                    replace hk := Nat.le_trans hk (Keep.of_wr W743).1
                    replace O0 := O0.wr W743 g_b718
                    replace V423 := V423.other W743 ne726
                    have K745 := K742.wr W743 (Or.inr sz_b718)
                    refine own_go (fun _ kk_ => XS.dup X743.here hx rfl (hb hby at_593) rfl rfl kk_) ?_
                    refine own_go (fun _ kk_ => XS.bipush X743.here hx rfl (hb hby at_594) kk_) ?_
                    refine own_go (fun _ kk_ => XS.iloadN X743.here hx rfl (hb hby at_596) rfl kk_) ?_
                    refine own_go (fun _ kk_ => XS.bipush X743.here hx rfl (hb hby at_597) kk_) ?_
                    show own_Fin p.tables e below _ (T743.setTop (mkF m 599 #[.val (.int mode), .val (.int pos), .val (.int ch), .val (.int oth), .val (.int (mode &&& (7 : Int32))), .val (.int (1 : Int32)), .val (.int (ch &&& (255 : Int32))), .val (.int cz), .val (.ref b423), .val (.ref sa), .val (.int pp), .unset, .unset, .unset] [(.int (16 : Int32)), (.int oth), (.int (6 : Int32)), (.ref b718), (.ref b718)]))
                    refine own_go (fun _ kk_ => XS.iushr X743.here hx rfl (hb hby at_599) rfl kk_) ?_
                    refine own_go (fun _ kk_ => XS.sipush X743.here hx rfl (hb hby at_600) kk_) ?_
                    show own_Fin p.tables e below _ (T743.setTop (mkF m 603 #[.val (.int mode), .val (.int pos), .val (.int ch), .val (.int oth), .val (.int (mode &&& (7 : Int32))), .val (.int (1 : Int32)), .val (.int (ch &&& (255 : Int32))), .val (.int cz), .val (.ref b423), .val (.ref sa), .val (.int pp), .unset, .unset, .unset] [(.int (255 : Int32)), (.int ((oth.toUInt32 >>> ((16 : Int32) &&& 31).toUInt32).toInt32)), (.int (6 : Int32)), (.ref b718), (.ref b718)]))
                    refine own_go (fun _ kk_ => XS.iand X743.here hx rfl (hb hby at_603) rfl kk_) ?_
                    show own_Fin p.tables e below _ (T743.setTop (mkF m 604 #[.val (.int mode), .val (.int pos), .val (.int ch), .val (.int oth), .val (.int (mode &&& (7 : Int32))), .val (.int (1 : Int32)), .val (.int (ch &&& (255 : Int32))), .val (.int cz), .val (.ref b423), .val (.ref sa), .val (.int pp), .unset, .unset, .unset] [(.int (((oth.toUInt32 >>> ((16 : Int32) &&& 31).toUInt32).toInt32) &&& (255 : Int32))), (.int (6 : Int32)), (.ref b718), (.ref b718)]))
                    refine own_go (fun _ kk_ => XS.i2c X743.here hx rfl (hb hby at_604) rfl kk_) ?_
                    rw [i2c_mask]
                    show own_Fin p.tables e below _ (T743.setTop (mkF m 605 #[.val (.int mode), .val (.int pos), .val (.int ch), .val (.int oth), .val (.int (mode &&& (7 : Int32))), .val (.int (1 : Int32)), .val (.int (ch &&& (255 : Int32))), .val (.int cz), .val (.ref b423), .val (.ref sa), .val (.int pp), .unset, .unset, .unset] [(.int (((oth.toUInt32 >>> ((16 : Int32) &&& 31).toUInt32).toInt32) &&& (255 : Int32))), (.int (6 : Int32)), (.ref b718), (.ref b718)]))
                    obtain ⟨T746, h746, X746, e746, W746, V746, st746⟩ := own_stC X743 hx hZ e743 V718 (by decide) (i := 6) rfl (Nat.le_of_ble_eq_true rfl) (g := (mkF m 605 #[.val (.int mode), .val (.int pos), .val (.int ch), .val (.int oth), .val (.int (mode &&& (7 : Int32))), .val (.int (1 : Int32)), .val (.int (ch &&& (255 : Int32))), .val (.int cz), .val (.ref b423), .val (.ref sa), .val (.int pp), .unset, .unset, .unset] [(.int (((oth.toUInt32 >>> ((16 : Int32) &&& 31).toUInt32).toInt32) &&& (255 : Int32))), (.int (6 : Int32)), (.ref b718), (.ref b718)])) rfl rfl (hb hby at_605)
                    rw [own_nar255] at V746
                    replace V718 : Arv Z h746 b718 k718 .char (8 : Int32) [(.int (pos &&& (255 : Int32))), (.int (((pos.toUInt32 >>> ((8 : Int32) &&& 31).toUInt32).toInt32) &&& (255 : Int32))), (.int (((pos.toUInt32 >>> ((16 : Int32) &&& 31).toUInt32).toInt32) &&& (255 : Int32))), (.int (((pos.toUInt32 >>> ((24 : Int32) &&& 31).toUInt32).toInt32) &&& (255 : Int32))), (.int (oth &&& (255 : Int32))), (.int (((oth.toUInt32 >>> ((8 : Int32) &&& 31).toUInt32).toInt32) &&& (255 : Int32))), (.int (((oth.toUInt32 >>> ((16 : Int32) &&& 31).toUInt32).toInt32) &&& (255 : Int32))), (.int (0 : Int32))] (.int (0 : Int32)) := V746
                    have N746 := Fr.snoc X746 N743 g_b718
                    refine own_go st746 ?_
                    have sa747 := S_b718
                    replace S_b423 := Safe.wr W746 sa747 CH S_b423
                    replace S_b718 := Safe.wr W746 sa747 CH S_b718
                    replace CR := CR.trans (CHr.wr W746 sa747 CH)
                    replace CH := CHv.wr W746 sa747 CH
                    replace hk := Nat.le_trans hk (Keep.of_wr W746).1
                    replace O0 := O0.wr W746 g_b718
                    replace V423 := V423.other W746 ne726
                    have K748 := K745.wr W746 (Or.inr sz_b718)
                    refine own_go (fun _ kk_ => XS.dup X746.here hx rfl (hb hby at_606) rfl rfl kk_) ?_
                    refine own_go (fun _ kk_ => XS.bipush X746.here hx rfl (hb hby at_607) kk_) ?_
                    refine own_go (fun _ kk_ => XS.iloadN X746.here hx rfl (hb hby at_609) rfl kk_) ?_
                    refine own_go (fun _ kk_ => XS.bipush X746.here hx rfl (hb hby at_610) kk_) ?_
                    show own_Fin p.tables e below _ (T746.setTop (mkF m 612 #[.val (.int mode), .val (.int pos), .val (.int ch), .val (.int oth), .val (.int (mode &&& (7 : Int32))), .val (.int (1 : Int32)), .val (.int (ch &&& (255 : Int32))), .val (.int cz), .val (.ref b423), .val (.ref sa), .val (.int pp), .unset, .unset, .unset] [(.int (24 : Int32)), (.int oth), (.int (7 : Int32)), (.ref b718), (.ref b718)]))
                    refine own_go (fun _ kk_ => XS.iushr X746.here hx rfl (hb hby at_612) rfl kk_) ?_
                    refine own_go (fun _ kk_ => XS.sipush X746.here hx rfl (hb hby at_613) kk_) ?_
                    show own_Fin p.tables e below _ (T746.setTop (mkF m 616 #[.val (.int mode), .val (.int pos), .val (.int ch), .val (.int oth), .val (.int (mode &&& (7 : Int32))), .val (.int (1 : Int32)), .val (.int (ch &&& (255 : Int32))), .val (.int cz), .val (.ref b423), .val (.ref sa), .val (.int pp), .unset, .unset, .unset] [(.int (255 : Int32)), (.int ((oth.toUInt32 >>> ((24 : Int32) &&& 31).toUInt32).toInt32)), (.int (7 : Int32)), (.ref b718), (.ref b718)]))
                    refine own_go (fun _ kk_ => XS.iand X746.here hx rfl (hb hby at_616) rfl kk_) ?_
                    show own_Fin p.tables e below _ (T746.setTop (mkF m 617 #[.val (.int mode), .val (.int pos), .val (.int ch), .val (.int oth), .val (.int (mode &&& (7 : Int32))), .val (.int (1 : Int32)), .val (.int (ch &&& (255 : Int32))), .val (.int cz), .val (.ref b423), .val (.ref sa), .val (.int pp), .unset, .unset, .unset] [(.int (((oth.toUInt32 >>> ((24 : Int32) &&& 31).toUInt32).toInt32) &&& (255 : Int32))), (.int (7 : Int32)), (.ref b718), (.ref b718)]))
                    refine own_go (fun _ kk_ => XS.i2c X746.here hx rfl (hb hby at_617) rfl kk_) ?_
                    rw [i2c_mask]
                    show own_Fin p.tables e below _ (T746.setTop (mkF m 618 #[.val (.int mode), .val (.int pos), .val (.int ch), .val (.int oth), .val (.int (mode &&& (7 : Int32))), .val (.int (1 : Int32)), .val (.int (ch &&& (255 : Int32))), .val (.int cz), .val (.ref b423), .val (.ref sa), .val (.int pp), .unset, .unset, .unset] [(.int (((oth.toUInt32 >>> ((24 : Int32) &&& 31).toUInt32).toInt32) &&& (255 : Int32))), (.int (7 : Int32)), (.ref b718), (.ref b718)]))
                    obtain ⟨T749, h749, X749, e749, W749, V749, st749⟩ := own_stC X746 hx hZ e746 V718 (by decide) (i := 7) rfl (Nat.le_of_ble_eq_true rfl) (g := (mkF m 618 #[.val (.int mode), .val (.int pos), .val (.int ch), .val (.int oth), .val (.int (mode &&& (7 : Int32))), .val (.int (1 : Int32)), .val (.int (ch &&& (255 : Int32))), .val (.int cz), .val (.ref b423), .val (.ref sa), .val (.int pp), .unset, .unset, .unset] [(.int (((oth.toUInt32 >>> ((24 : Int32) &&& 31).toUInt32).toInt32) &&& (255 : Int32))), (.int (7 : Int32)), (.ref b718), (.ref b718)])) rfl rfl (hb hby at_618)
                    rw [own_nar255] at V749
                    replace V718 : Arv Z h749 b718 k718 .char (8 : Int32) [(.int (pos &&& (255 : Int32))), (.int (((pos.toUInt32 >>> ((8 : Int32) &&& 31).toUInt32).toInt32) &&& (255 : Int32))), (.int (((pos.toUInt32 >>> ((16 : Int32) &&& 31).toUInt32).toInt32) &&& (255 : Int32))), (.int (((pos.toUInt32 >>> ((24 : Int32) &&& 31).toUInt32).toInt32) &&& (255 : Int32))), (.int (oth &&& (255 : Int32))), (.int (((oth.toUInt32 >>> ((8 : Int32) &&& 31).toUInt32).toInt32) &&& (255 : Int32))), (.int (((oth.toUInt32 >>> ((16 : Int32) &&& 31).toUInt32).toInt32) &&& (255 : Int32))), (.int (((oth.toUInt32 >>> ((24 : Int32) &&& 31).toUInt32).toInt32) &&& (255 : Int32)))] (.int (0 : Int32)) := V749
                    have N749 := Fr.snoc X749 N746 g_b718
                    refine own_go st749 ?_
                    have sa750 := S_b718
                    replace S_b423 := Safe.wr W749 sa750 CH S_b423
                    replace S_b718 := Safe.wr W749 sa750 CH S_b718
                    replace CR := CR.trans (CHr.wr W749 sa750 CH)
                    replace CH := CHv.wr W749 sa750 CH
                    replace hk := Nat.le_trans hk (Keep.of_wr W749).1
                    replace O0 := O0.wr W749 g_b718
                    replace V423 := V423.other W749 ne726
                    have K751 := K748.wr W749 (Or.inr sz_b718)
                    refine own_go (fun _ kk_ => XS.astore X749.here hx rfl (hb hby at_619) rfl rfl (l' := #[.val (.int mode), .val (.int pos), .val (.int ch), .val (.int oth), .val (.int (mode &&& (7 : Int32))), .val (.int (1 : Int32)), .val (.int (ch &&& (255 : Int32))), .val (.int cz), .val (.ref b423), .val (.ref sa), .val (.int pp), .unset, .unset, .val (.ref b718)]) rfl kk_) ?_
                    show own_Fin p.tables e below _ (T749.setTop (mkF m 621 #[.val (.int mode), .val (.int pos), .val (.int ch), .val (.int oth), .val (.int (mode &&& (7 : Int32))), .val (.int (1 : Int32)), .val (.int (ch &&& (255 : Int32))), .val (.int cz), .val (.ref b423), .val (.ref sa), .val (.int pp), .unset, .unset, .val (.ref b718)] []))
                    obtain ⟨T752, h752, X752, e752, E752, A752, D752, -, st752⟩ := newO X749 hx hZ hown (hw _ (List.mem_of_getElem? (i := 5) rfl)) (hw _ (List.mem_of_getElem? (i := 6) rfl)) (hw _ (List.mem_of_getElem? (i := 7) rfl)) e749 (g := (mkF m 621 #[.val (.int mode), .val (.int pos), .val (.int ch), .val (.int oth), .val (.int (mode &&& (7 : Int32))), .val (.int (1 : Int32)), .val (.int (ch &&& (255 : Int32))), .val (.int cz), .val (.ref b423), .val (.ref sa), .val (.int pp), .unset, .unset, .val (.ref b718)] [])) rfl (hb hby at_621) (by decide) (by decide)
                    obtain ⟨b752, g752⟩ : ∃ z, z = h749.size := ⟨_, rfl⟩
                    rw [← g752] at A752 D752 st752
                    have sz_b752 : h0.size ≤ b752 := Nat.le_trans K751.1 (Nat.le_of_eq g752.symm)
                    have g_b752 : n0 ≤ b752 := Nat.le_trans Z0 sz_b752
                    have ne753 : va ≠ b752 := O0.ne V_V.lt g_b752
                    have ne754 : ia ≠ b752 := O0.ne F_i.lt g_b752
                    have ne755 : sa ≠ b752 := O0.ne F_j.lt g_b752
                    have ne756 : wi ≠ b752 := O0.ne S_i.lt g_b752
                    have ne757 : ti ≠ b752 := O0.ne S_i.ltt g_b752
                    have ne758 : wj ≠ b752 := O0.ne S_j.lt g_b752
                    have ne759 : tj ≠ b752 := O0.ne S_j.ltt g_b752
                    have ne760 : b423 ≠ b752 := Nat.ne_of_lt (Nat.lt_of_lt_of_le V423.lt (Nat.le_of_eq g752.symm))
                    have ne761 : b718 ≠ b752 := Nat.ne_of_lt (Nat.lt_of_lt_of_le V718.lt (Nat.le_of_eq g752.symm))
                    have S_b752 := Safe.new (Z := Z) (EL := consts_1) (vm := s.vm) (Nat.le_of_eq g752.symm)
                    replace S_b423 := Safe.ext E752 CH S_b423
                    replace S_b718 := Safe.ext E752 CH S_b718
                    replace S_b752 := Safe.ext E752 CH S_b752
                    replace CR := CR.trans (CHr.ext E752 CH)
                    replace CH := CH.ext E752
                    replace hk := Nat.le_trans hk E752.1
                    replace O0 := O0.ext E752
                    replace V423 := V423.ext E752
                    replace V718 := V718.ext E752
                    have K762 := K751.ext E752
                    have F752_coder : Fld Z h752 b752 "java/lang/String" "coder" "B" (.int (0 : Int32)) := D752 (Or.inr (hw _ (List.mem_of_getElem? (i := 31) rfl))) (ty := .byte) (by decide)
                    have F752_value : Fld Z h752 b752 "java/lang/String" "value" "[B" .null := D752 (Or.inr (hw _ (List.mem_of_getElem? (i := 33) rfl))) (ty := (.array .byte)) (by decide)
                    refine own_go st752 ?_
                    refine own_go (fun _ kk_ => XS.dup X752.here hx rfl (hb hby at_624) rfl rfl kk_) ?_
                    refine own_go (fun _ kk_ => XS.aload X752.here hx rfl (hb hby at_625) rfl rfl kk_) ?_
                    show own_Fin p.tables e below _ (T752.setTop (mkF m 627 #[.val (.int mode), .val (.int pos), .val (.int ch), .val (.int oth), .val (.int (mode &&& (7 : Int32))), .val (.int (1 : Int32)), .val (.int (ch &&& (255 : Int32))), .val (.int cz), .val (.ref b423), .val (.ref sa), .val (.int pp), .unset, .unset, .val (.ref b718)] [(.ref b718), (.ref b752), (.ref b752)]))
                    have hp764 : ∀ c ∈ ([(pos &&& (255 : Int32)), (((pos.toUInt32 >>> ((8 : Int32) &&& 31).toUInt32).toInt32) &&& (255 : Int32)), (((pos.toUInt32 >>> ((16 : Int32) &&& 31).toUInt32).toInt32) &&& (255 : Int32)), (((pos.toUInt32 >>> ((24 : Int32) &&& 31).toUInt32).toInt32) &&& (255 : Int32)), (oth &&& (255 : Int32)), (((oth.toUInt32 >>> ((8 : Int32) &&& 31).toUInt32).toInt32) &&& (255 : Int32)), (((oth.toUInt32 >>> ((16 : Int32) &&& 31).toUInt32).toInt32) &&& (255 : Int32)), (((oth.toUInt32 >>> ((24 : Int32) &&& 31).toUInt32).toInt32) &&& (255 : Int32))] : List Int32), ¬ c < 0 ∧ ¬ (255 : Int32) < c := by
                      intro c hc
                      simp only [List.mem_cons, List.not_mem_nil, or_false] at hc
                      rcases hc with rfl | rfl | rfl | rfl | rfl | rfl | rfl | rfl
                      · exact own_and255 _
                      · exact own_and255 _
                      · exact own_and255 _
                      · exact own_and255 _
                      · exact own_and255 _
                      · exact own_and255 _
                      · exact own_and255 _
                      · exact own_and255 _
                    obtain ⟨_, _, ⟨T763, L763, k763, n763⟩, -, X763, ⟨Lc763, hQ763, l763, y763, z763⟩, st763⟩ := X752.specialBack hx (y := (⟨"java/lang/String", "<init>", "([C)V"⟩ : MethodName)) rfl hown (mvT hZ (hw _ (List.mem_of_getElem? (i := 8) rfl))) (mvT hZ (hw _ (List.mem_of_getElem? (i := 9) rfl))) (mvT hZ (hw _ (List.mem_of_getElem? (i := 10) rfl))) (by decide) (StrChars.Road.backV (W := 1) hZ hws (kI := 4) (hw _ (List.mem_of_getElem? (i := 6) rfl)) (cs := ([(pos &&& (255 : Int32)), (((pos.toUInt32 >>> ((8 : Int32) &&& 31).toUInt32).toInt32) &&& (255 : Int32)), (((pos.toUInt32 >>> ((16 : Int32) &&& 31).toUInt32).toInt32) &&& (255 : Int32)), (((pos.toUInt32 >>> ((24 : Int32) &&& 31).toUInt32).toInt32) &&& (255 : Int32)), (oth &&& (255 : Int32)), (((oth.toUInt32 >>> ((8 : Int32) &&& 31).toUInt32).toInt32) &&& (255 : Int32)), (((oth.toUInt32 >>> ((16 : Int32) &&& 31).toUInt32).toInt32) &&& (255 : Int32)), (((oth.toUInt32 >>> ((24 : Int32) &&& 31).toUInt32).toInt32) &&& (255 : Int32))] : List Int32)) (bs := (([(pos &&& (255 : Int32)), (((pos.toUInt32 >>> ((8 : Int32) &&& 31).toUInt32).toInt32) &&& (255 : Int32)), (((pos.toUInt32 >>> ((16 : Int32) &&& 31).toUInt32).toInt32) &&& (255 : Int32)), (((pos.toUInt32 >>> ((24 : Int32) &&& 31).toUInt32).toInt32) &&& (255 : Int32)), (oth &&& (255 : Int32)), (((oth.toUInt32 >>> ((8 : Int32) &&& 31).toUInt32).toInt32) &&& (255 : Int32)), (((oth.toUInt32 >>> ((16 : Int32) &&& 31).toUInt32).toInt32) &&& (255 : Int32)), (((oth.toUInt32 >>> ((24 : Int32) &&& 31).toUInt32).toInt32) &&& (255 : Int32))] : List Int32)).map (fun c => c.toInt8.toInt32)) (n := 8) g_b752 (Nat.le_trans Z0 K762.1) A752 F752_value F752_coder V718 (S_C.ext O0.2) hcs rfl rfl (by decide) (by decide) hp764 rfl (by decide) (by decide)) (g := (mkF m 627 #[.val (.int mode), .val (.int pos), .val (.int ch), .val (.int oth), .val (.int (mode &&& (7 : Int32))), .val (.int (1 : Int32)), .val (.int (ch &&& (255 : Int32))), .val (.int cz), .val (.ref b423), .val (.ref sa), .val (.int pp), .unset, .unset, .val (.ref b718)] [(.ref b718), (.ref b752), (.ref b752)])) rfl (by rw [hml]; rfl) (Steps.refl _) (a := b752) (argsL := [(.ref b718)]) (rest := [(.ref b752)]) (lenOf pd_5 rfl) rfl (by show 2 * 0 + _ ≤ _; exact Nat.le_of_eq rfl) (hb hby at_627) (fun _ _ => ⟨rfl, e752, (by decide : 3 + 1 ≤ _), (by decide : 20 + 8 ≤ _)⟩)
                    dsimp only [Pt.U, Pt.locs, Pt.cells, Pt.slots] at X763 l763 y763 z763 st763 hQ763
                    subst l763 y763 z763
                    obtain ⟨rfl, N763q, KK763, EE763, FC763, t763, kb763, gt763, szt763, netx763, FV763, VV763⟩ := hQ763
                    have N763 := Fr.app N749 N763q
                    have SS763 : own_Str Z T763.heap b752 t763 ([(pos &&& (255 : Int32)), (((pos.toUInt32 >>> ((8 : Int32) &&& 31).toUInt32).toInt32) &&& (255 : Int32)), (((pos.toUInt32 >>> ((16 : Int32) &&& 31).toUInt32).toInt32) &&& (255 : Int32)), (((pos.toUInt32 >>> ((24 : Int32) &&& 31).toUInt32).toInt32) &&& (255 : Int32)), (oth &&& (255 : Int32)), (((oth.toUInt32 >>> ((8 : Int32) &&& 31).toUInt32).toInt32) &&& (255 : Int32)), (((oth.toUInt32 >>> ((16 : Int32) &&& 31).toUInt32).toInt32) &&& (255 : Int32)), (((oth.toUInt32 >>> ((24 : Int32) &&& 31).toUInt32).toInt32) &&& (255 : Int32))] : List Int32) := ⟨_, _, _, _, EE763, FV763, FC763, VV763, StrChars.Road.codOf (n := 8) rfl (fun c hc => (hp764 c hc).2), own_up _ hp764, Nat.le_of_ble_eq_true rfl⟩
                    have sz_t763 : h0.size ≤ t763 := Nat.le_trans K762.1 szt763
                    have ne765 : va ≠ t763 := O0.ne V_V.lt gt763
                    have ne766 : ia ≠ t763 := O0.ne F_i.lt gt763
                    have ne767 : sa ≠ t763 := O0.ne F_j.lt gt763
                    have ne768 : wi ≠ t763 := O0.ne S_i.lt gt763
                    have ne769 : ti ≠ t763 := O0.ne S_i.ltt gt763
                    have ne770 : wj ≠ t763 := O0.ne S_j.lt gt763
                    have ne771 : tj ≠ t763 := O0.ne S_j.ltt gt763
                    have ne772 : b423 ≠ t763 := Nat.ne_of_lt (Nat.lt_of_lt_of_le V423.lt szt763)
                    have ne773 : b718 ≠ t763 := Nat.ne_of_lt (Nat.lt_of_lt_of_le V718.lt szt763)
                    have ne774 : b752 ≠ t763 := Nat.ne_of_lt (Nat.lt_of_lt_of_le A752.lt szt763)
                    have S_t763 := Safe.new (Z := Z) (EL := consts_1) (vm := s.vm) szt763
                    have hs775 : ∀ x ∈ [b752], Safe Z consts_1 s.vm h752 x := (sfS S_b752 sf0)
                    replace S_b423 := Safe.keep KK763 hs775 CH S_b423
                    replace S_b718 := Safe.keep KK763 hs775 CH S_b718
                    replace S_b752 := Safe.keep KK763 hs775 CH S_b752
                    replace S_t763 := Safe.keep KK763 hs775 CH S_t763
                    replace CR := CR.trans (CHr.keep KK763 hs775 CH)
                    replace CH := CHv.keep KK763 hs775 CH
                    replace hk := Nat.le_trans hk KK763.1
                    replace O0 := O0.keep KK763 (allS g_b752 (all0))
                    replace V423 := V423.keep KK763 (ninS ne760 nin0)
                    replace V718 := V718.keep KK763 (ninS ne761 nin0)
                    replace A752 := A752.keep KK763
                    have K776 := K762.trans KK763 (allS (Or.inr sz_b752) all0)
                    refine own_go (fun _ kk_ => st763.trans kk_) ?_
                    refine own_go (fun _ kk_ => XS.astore X763.here hx rfl (hb hby at_630) rfl rfl (l' := #[.val (.int mode), .val (.int pos), .val (.int ch), .val (.int oth), .val (.int (mode &&& (7 : Int32))), .val (.int (1 : Int32)), .val (.int (ch &&& (255 : Int32))), .val (.int cz), .val (.ref b423), .val (.ref sa), .val (.int pp), .val (.ref b752), .unset, .val (.ref b718)]) rfl kk_) ?_
                    show own_Fin p.tables e below _ (T763.setTop (mkF m 632 #[.val (.int mode), .val (.int pos), .val (.int ch), .val (.int oth), .val (.int (mode &&& (7 : Int32))), .val (.int (1 : Int32)), .val (.int (ch &&& (255 : Int32))), .val (.int cz), .val (.ref b423), .val (.ref sa), .val (.int pp), .val (.ref b752), .unset, .val (.ref b718)] []))
                    obtain ⟨a777, T777, h777, k777, tb777, kb777, X777, e777, E777, hS, hk, hZ, hown, EA777, FC777, FV777, VB777, -, -, CR777, -, NE777, st777⟩ := ldcCH X763 hx hZ hown (hw _ (List.mem_of_getElem? (i := 69) rfl)) wS rfl hS hk hEL (by decide) CH (vs := ((([(115 : Int32), (109 : Int32), (111 : Int32), (111 : Int32), (116 : Int32), (104 : Int32), (101 : Int32), (100 : Int32)] : List Int32).map (fun c => c.toInt8.toInt32)).map Value.int)) (z := (8 : Int32)) (by exact ⟨by decide, by decide⟩) (by decide) rfl (g := (mkF m 632 #[.val (.int mode), .val (.int pos), .val (.int ch), .val (.int oth), .val (.int (mode &&& (7 : Int32))), .val (.int (1 : Int32)), .val (.int (ch &&& (255 : Int32))), .val (.int cz), .val (.ref b423), .val (.ref sa), .val (.int pp), .val (.ref b752), .unset, .val (.ref b718)] [])) rfl (hb hby at_632) (n := 32) (by decide) (by decide) (by decide) (by decide)
                    replace S_b423 := CR777.safe V423.lt S_b423
                    replace S_b718 := CR777.safe V718.lt S_b718
                    replace S_b752 := CR777.safe SS763.lt S_b752
                    replace S_t763 := CR777.safe SS763.ltt S_t763
                    replace CR := CR.trans CR777
                    replace CH := CR777.1
                    replace O0 := O0.ext E777
                    replace V423 := V423.ext E777
                    replace V718 := V718.ext E777
                    replace SS763 := SS763.ext E777
                    have K778 := K776.ext E777
                    have ne779 : b423 ≠ a777 := (NE777 _ S_b423).1
                    have ne780 : b423 ≠ tb777 := (NE777 _ S_b423).2
                    have ne781 : b718 ≠ a777 := (NE777 _ S_b718).1
                    have ne782 : b718 ≠ tb777 := (NE777 _ S_b718).2
                    have ne783 : b752 ≠ a777 := (NE777 _ S_b752).1
                    have ne784 : b752 ≠ tb777 := (NE777 _ S_b752).2
                    have ne785 : t763 ≠ a777 := (NE777 _ S_t763).1
                    have ne786 : t763 ≠ tb777 := (NE777 _ S_t763).2
                    have SS777 : own_Str Z h777 a777 tb777 ([(115 : Int32), (109 : Int32), (111 : Int32), (111 : Int32), (116 : Int32), (104 : Int32), (101 : Int32), (100 : Int32)] : List Int32) := ⟨_, _, _, _, EA777, FV777, FC777, VB777, StrChars.Road.codOf (n := 8) rfl (by decide), by decide, Nat.le_of_ble_eq_true rfl⟩
                    refine own_go st777 ?_
                    refine own_go (fun _ kk_ => XS.aload X777.here hx rfl (hb hby at_634) rfl rfl kk_) ?_
                    show own_Fin p.tables e below _ (T777.setTop (mkF m 636 #[.val (.int mode), .val (.int pos), .val (.int ch), .val (.int oth), .val (.int (mode &&& (7 : Int32))), .val (.int (1 : Int32)), .val (.int (ch &&& (255 : Int32))), .val (.int cz), .val (.ref b423), .val (.ref sa), .val (.int pp), .val (.ref b752), .unset, .val (.ref b718)] [(.ref b752), (.ref a777)]))
                    obtain ⟨cq787, kq787, qa787, qb787, qc787⟩ := isOf hZ e777 SS777.exa
                    obtain ⟨_, _, ⟨T787, L787, k787, n787⟩, -, X787, ⟨Lc787, hQ787, l787, y787, z787⟩, st787⟩ := X777.virtualBack hx (y := (⟨"java/lang/String", "equals", "(Ljava/lang/Object;)Z"⟩ : MethodName)) (z := (⟨"java/lang/String", "equals", "(Ljava/lang/Object;)Z"⟩ : MethodName)) hown (mvT hZ (hw _ (List.mem_of_getElem? (i := 70) rfl))) (mvT hZ (hw _ (List.mem_of_getElem? (i := 56) rfl))) (own_notface (args := #[]) (mvT hZ (hw _ (List.mem_of_getElem? (i := 58) rfl))) rfl) (mvT hZ (hw _ (List.mem_of_getElem? (i := 58) rfl))) (mvT hZ (hw _ (List.mem_of_getElem? (i := 57) rfl))) (by decide) (own_eqB (W := 0) hZ heq (hw _ (List.mem_of_getElem? (i := 6) rfl)) SS777 SS763 (S_C.ext O0.2) hcs (by decide) (by decide)) qa787 qc787 (g := (mkF m 636 #[.val (.int mode), .val (.int pos), .val (.int ch), .val (.int oth), .val (.int (mode &&& (7 : Int32))), .val (.int (1 : Int32)), .val (.int (ch &&& (255 : Int32))), .val (.int cz), .val (.ref b423), .val (.ref sa), .val (.int pp), .val (.ref b752), .unset, .val (.ref b718)] [(.ref b752), (.ref a777)])) rfl (by rw [hml]; rfl) (Steps.refl _) (argsL := [(.ref b752)]) (rest := []) (lenOf pd_3 rfl) rfl (by show 2 * 0 + _ ≤ _; exact Nat.le_of_eq rfl) (hb hby at_636) (fun _ _ => ⟨rfl, e777, (by decide : 6 + 0 ≤ _), (by decide : 64 + 0 ≤ _)⟩)
                    dsimp only [Pt.U, Pt.locs, Pt.cells, Pt.slots] at X787 l787 y787 z787 st787 hQ787
                    subst l787 y787 z787
                    obtain ⟨hq787, rfl, e787⟩ := hQ787
                    obtain ⟨z787, rfl, hz787⟩ := own_eqv hq787
                    have N787 := Fr.app N763 (Fr.nil n0)
                    refine own_go (fun _ kk_ => st787.trans kk_) ?_
                    show own_Fin p.tables e below _ (T787.setTop (mkF m 639 #[.val (.int mode), .val (.int pos), .val (.int ch), .val (.int oth), .val (.int (mode &&& (7 : Int32))), .val (.int (1 : Int32)), .val (.int (ch &&& (255 : Int32))), .val (.int cz), .val (.ref b423), .val (.ref sa), .val (.int pp), .val (.ref b752), .unset, .val (.ref b718)] [(.int z787)]))
                    by_cases hc788 : z787 = (0 : Int32)
                    · skip
                      refine own_go (fun _ kk_ => XS.ifYes X787.here hx rfl (pc0 := 639) (pc' := 648) rfl (hb hby at_639) rfl ((if0 _ _).trans (teq hc788).1) (by decide) (by decide) kk_) ?_
                      refine own_go (fun _ kk_ => XS.aconstNull X787.here hx rfl (hb hby at_648) kk_) ?_
                      refine own_go (fun _ kk_ => XS.astore X787.here hx rfl (hb hby at_649) rfl rfl (l' := #[.val (.int mode), .val (.int pos), .val (.int ch), .val (.int oth), .val (.int (mode &&& (7 : Int32))), .val (.int (1 : Int32)), .val (.int (ch &&& (255 : Int32))), .val (.int cz), .val (.ref b423), .val (.ref sa), .val (.int pp), .val (.ref b752), .val .null, .val (.ref b718)]) rfl kk_) ?_
                      refine own_go (fun _ kk_ => XS.aload X787.here hx rfl (hb hby at_651) rfl rfl kk_) ?_
                      show own_Fin p.tables e below _ (T787.setTop (mkF m 653 #[.val (.int mode), .val (.int pos), .val (.int ch), .val (.int oth), .val (.int (mode &&& (7 : Int32))), .val (.int (1 : Int32)), .val (.int (ch &&& (255 : Int32))), .val (.int cz), .val (.ref b423), .val (.ref sa), .val (.int pp), .val (.ref b752), .val .null, .val (.ref b718)] [(.ref b752)]))
                      obtain ⟨_, _, ⟨T789, L789, k789, n789⟩, -, X789, ⟨Lc789, hQ789, l789, y789, z789⟩, st789⟩ := Jvm.LawKit.callS X787 hx (y := (⟨"com/example/hebelwerk/hebelwerk/model/DividendMethod", "written", "(Ljava/lang/String;)Lcom/example/hebelwerk/hebelwerk/model/DividendMethod;"⟩ : MethodName)) hown (mvT hZ (hw _ (List.mem_of_getElem? (i := 34) rfl))) (mvT hZ (hw _ (List.mem_of_getElem? (i := 35) rfl))) (mvT hZ (hw _ (List.mem_of_getElem? (i := 2) rfl))) (mvT hZ (hw _ (List.mem_of_getElem? (i := 36) rfl))) (by decide) (backOf (W := 0) (rm_wrS l Z a0 hw [] b752 t763 ([(pos &&& (255 : Int32)), (((pos.toUInt32 >>> ((8 : Int32) &&& 31).toUInt32).toInt32) &&& (255 : Int32)), (((pos.toUInt32 >>> ((16 : Int32) &&& 31).toUInt32).toInt32) &&& (255 : Int32)), (((pos.toUInt32 >>> ((24 : Int32) &&& 31).toUInt32).toInt32) &&& (255 : Int32)), (oth &&& (255 : Int32)), (((oth.toUInt32 >>> ((8 : Int32) &&& 31).toUInt32).toInt32) &&& (255 : Int32)), (((oth.toUInt32 >>> ((16 : Int32) &&& 31).toUInt32).toInt32) &&& (255 : Int32)), (((oth.toUInt32 >>> ((24 : Int32) &&& 31).toUInt32).toInt32) &&& (255 : Int32))] : List Int32) va vk ia sa wi ti wj tj gc h777 n0 (Nat.le_trans Z0 K778.1) SS763 S_V V_V E_V F_i F_j S_i S_j S_C hcs O0) hZ (hw _ (List.mem_of_getElem? (i := 36) rfl)) (hw _ (List.mem_of_getElem? (i := 2) rfl)) (by decide) (by decide)) (g := (mkF m 653 #[.val (.int mode), .val (.int pos), .val (.int ch), .val (.int oth), .val (.int (mode &&& (7 : Int32))), .val (.int (1 : Int32)), .val (.int (ch &&& (255 : Int32))), .val (.int cz), .val (.ref b423), .val (.ref sa), .val (.int pp), .val (.ref b752), .val .null, .val (.ref b718)] [(.ref b752)])) rfl (by rw [hml]; rfl) (argsL := [(.ref b752)]) (rest := []) (lenOf pd_6 rfl) rfl (by show 2 * 0 + _ ≤ _; exact Nat.le_of_eq rfl) (hb hby at_653) (fun _ _ => ⟨rfl, e787, (by decide : 6 + 1 ≤ _), (by decide : 64 + 2 ≤ _)⟩)
                      dsimp only [Pt.U, Pt.locs, Pt.cells, Pt.slots] at X789 l789 y789 z789 st789 hQ789
                      subst l789 y789 z789
                      obtain ⟨N789q, KK789, y1_789, y2_789, y3_789⟩ := hQ789
                      obtain rfl := y3_789 (by simp) (hz787.elim (fun u => absurd (u.1.symm.trans hc788) (by decide)) (fun u => fun q => u.2 q.symm))
                      have N789 := Fr.app N787 N789q
                      have hs790 : ∀ x ∈ [], Safe Z consts_1 T777.vm h777 x := sf0
                      replace S_b423 := Safe.keep KK789 hs790 CH S_b423
                      replace S_b718 := Safe.keep KK789 hs790 CH S_b718
                      replace S_b752 := Safe.keep KK789 hs790 CH S_b752
                      replace S_t763 := Safe.keep KK789 hs790 CH S_t763
                      replace CR := CR.trans (CHr.keep KK789 hs790 CH)
                      replace CH := CHv.keep KK789 hs790 CH
                      replace hk := Nat.le_trans hk KK789.1
                      replace O0 := O0.keep KK789 all0
                      replace V423 := V423.keep KK789 nin0
                      replace V718 := V718.keep KK789 nin0
                      replace SS763 := SS763.keep KK789 nin0 nin0
                      replace SS777 := SS777.keep KK789 nin0 nin0
                      have K791 := K778.trans KK789 all0
                      refine own_go st789 ?_
                      refine own_go (fun _ kk_ => XS.aload X789.here hx rfl (hb hby at_656) rfl rfl kk_) ?_
                      show own_Fin p.tables e below _ (T789.setTop (mkF m 658 #[.val (.int mode), .val (.int pos), .val (.int ch), .val (.int oth), .val (.int (mode &&& (7 : Int32))), .val (.int (1 : Int32)), .val (.int (ch &&& (255 : Int32))), .val (.int cz), .val (.ref b423), .val (.ref sa), .val (.int pp), .val (.ref b752), .val .null, .val (.ref b718)] [.null, .null]))
                      refine own_go (fun _ kk_ => acmp (g := (mkF m 658 #[.val (.int mode), .val (.int pos), .val (.int ch), .val (.int oth), .val (.int (mode &&& (7 : Int32))), .val (.int (1 : Int32)), .val (.int (ch &&& (255 : Int32))), .val (.int cz), .val (.ref b423), .val (.ref sa), .val (.int pp), .val (.ref b752), .val .null, .val (.ref b718)] [.null, .null])) X789 hx rfl rfl rfl (pc0 := 658) (pc' := 661) (same := true) rfl (hb hby at_658) rfl rfl (by decide) (by decide) kk_) ?_
                      refine own_go (fun _ kk_ => XS.iconst X789.here hx rfl (hb hby at_661) kk_) ?_
                      refine own_go (fun _ kk_ => XS.goto X789.here hx rfl (pc0 := 662) (pc' := 666) rfl (hb hby at_662) (by decide) (by decide) kk_) ?_
                      show own_Fin p.tables e below _ (T789.setTop (mkF m 666 #[.val (.int mode), .val (.int pos), .val (.int ch), .val (.int oth), .val (.int (mode &&& (7 : Int32))), .val (.int (1 : Int32)), .val (.int (ch &&& (255 : Int32))), .val (.int cz), .val (.ref b423), .val (.ref sa), .val (.int pp), .val (.ref b752), .val .null, .val (.ref b718)] [(.int (1 : Int32))]))
                      have CRz : CHr Z consts_1 s.vm s.heap T789.vm T789.heap := by
                        rw [hh]
                        exact CR.trans (CHv.at X789 hZ hEL CH)
                      refine own_retW X789 hx Bd hS hk (t := .boolean) Bd.returns rfl (Or.inl ⟨rfl, by simp, _, rfl⟩) (hb hby at_666) CRz ?_ (by decide) (by decide)
                      show (Q_rm_law Z mode pos ch oth va vk ia sa wi ti wj tj gc h0 n0) (some (.int (1 : Int32))) T789.heap _
                      exact ⟨rfl, N789⟩
                    · skip
                      refine own_go (fun _ kk_ => XS.ifNo X787.here hx rfl (hb hby at_639) rfl ((if0 _ _).trans (feq hc788).1) kk_) ?_
                      show own_Fin p.tables e below _ (T787.setTop (mkF m 642 #[.val (.int mode), .val (.int pos), .val (.int ch), .val (.int oth), .val (.int (mode &&& (7 : Int32))), .val (.int (1 : Int32)), .val (.int (ch &&& (255 : Int32))), .val (.int cz), .val (.ref b423), .val (.ref sa), .val (.int pp), .val (.ref b752), .unset, .val (.ref b718)] []))
                      obtain ⟨T792, X792, e792, st792⟩ := getS2 X787 hx hZ hown (host := "") (Or.inl (hw _ (List.mem_of_getElem? (i := 65) rfl))) Via.refl e787 (S_sa.ext O0.2) (g := (mkF m 642 #[.val (.int mode), .val (.int pos), .val (.int ch), .val (.int oth), .val (.int (mode &&& (7 : Int32))), .val (.int (1 : Int32)), .val (.int (ch &&& (255 : Int32))), .val (.int cz), .val (.ref b423), .val (.ref sa), .val (.int pp), .val (.ref b752), .unset, .val (.ref b718)] [])) rfl (hb hby at_642)
                      refine own_go st792 ?_
                      refine own_go (fun _ kk_ => XS.goto X792.here hx rfl (pc0 := 645) (pc' := 649) rfl (hb hby at_645) (by decide) (by decide) kk_) ?_
                      refine own_go (fun _ kk_ => XS.astore X792.here hx rfl (hb hby at_649) rfl rfl (l' := #[.val (.int mode), .val (.int pos), .val (.int ch), .val (.int oth), .val (.int (mode &&& (7 : Int32))), .val (.int (1 : Int32)), .val (.int (ch &&& (255 : Int32))), .val (.int cz), .val (.ref b423), .val (.ref sa), .val (.int pp), .val (.ref b752), .val (.ref sa), .val (.ref b718)]) rfl kk_) ?_
                      refine own_go (fun _ kk_ => XS.aload X792.here hx rfl (hb hby at_651) rfl rfl kk_) ?_
                      show own_Fin p.tables e below _ (T792.setTop (mkF m 653 #[.val (.int mode), .val (.int pos), .val (.int ch), .val (.int oth), .val (.int (mode &&& (7 : Int32))), .val (.int (1 : Int32)), .val (.int (ch &&& (255 : Int32))), .val (.int cz), .val (.ref b423), .val (.ref sa), .val (.int pp), .val (.ref b752), .val (.ref sa), .val (.ref b718)] [(.ref b752)]))
                      obtain ⟨_, _, ⟨T793, L793, k793, n793⟩, -, X793, ⟨Lc793, hQ793, l793, y793, z793⟩, st793⟩ := Jvm.LawKit.callS X792 hx (y := (⟨"com/example/hebelwerk/hebelwerk/model/DividendMethod", "written", "(Ljava/lang/String;)Lcom/example/hebelwerk/hebelwerk/model/DividendMethod;"⟩ : MethodName)) hown (mvT hZ (hw _ (List.mem_of_getElem? (i := 34) rfl))) (mvT hZ (hw _ (List.mem_of_getElem? (i := 35) rfl))) (mvT hZ (hw _ (List.mem_of_getElem? (i := 2) rfl))) (mvT hZ (hw _ (List.mem_of_getElem? (i := 36) rfl))) (by decide) (backOf (W := 0) (rm_wrS l Z a0 hw [] b752 t763 ([(pos &&& (255 : Int32)), (((pos.toUInt32 >>> ((8 : Int32) &&& 31).toUInt32).toInt32) &&& (255 : Int32)), (((pos.toUInt32 >>> ((16 : Int32) &&& 31).toUInt32).toInt32) &&& (255 : Int32)), (((pos.toUInt32 >>> ((24 : Int32) &&& 31).toUInt32).toInt32) &&& (255 : Int32)), (oth &&& (255 : Int32)), (((oth.toUInt32 >>> ((8 : Int32) &&& 31).toUInt32).toInt32) &&& (255 : Int32)), (((oth.toUInt32 >>> ((16 : Int32) &&& 31).toUInt32).toInt32) &&& (255 : Int32)), (((oth.toUInt32 >>> ((24 : Int32) &&& 31).toUInt32).toInt32) &&& (255 : Int32))] : List Int32) va vk ia sa wi ti wj tj gc h777 n0 (Nat.le_trans Z0 K778.1) SS763 S_V V_V E_V F_i F_j S_i S_j S_C hcs O0) hZ (hw _ (List.mem_of_getElem? (i := 36) rfl)) (hw _ (List.mem_of_getElem? (i := 2) rfl)) (by decide) (by decide)) (g := (mkF m 653 #[.val (.int mode), .val (.int pos), .val (.int ch), .val (.int oth), .val (.int (mode &&& (7 : Int32))), .val (.int (1 : Int32)), .val (.int (ch &&& (255 : Int32))), .val (.int cz), .val (.ref b423), .val (.ref sa), .val (.int pp), .val (.ref b752), .val (.ref sa), .val (.ref b718)] [(.ref b752)])) rfl (by rw [hml]; rfl) (argsL := [(.ref b752)]) (rest := []) (lenOf pd_6 rfl) rfl (by show 2 * 0 + _ ≤ _; exact Nat.le_of_eq rfl) (hb hby at_653) (fun _ _ => ⟨rfl, e792, (by decide : 6 + 1 ≤ _), (by decide : 64 + 2 ≤ _)⟩)
                      dsimp only [Pt.U, Pt.locs, Pt.cells, Pt.slots] at X793 l793 y793 z793 st793 hQ793
                      subst l793 y793 z793
                      obtain ⟨N793q, KK793, y1_793, y2_793, y3_793⟩ := hQ793
                      obtain rfl := y2_793 (by simp) (hz787.elim (fun u => u.2.symm) (fun u => absurd u.1 hc788))
                      have N793 := Fr.app N787 N793q
                      have hs794 : ∀ x ∈ [], Safe Z consts_1 T777.vm h777 x := sf0
                      replace S_b423 := Safe.keep KK793 hs794 CH S_b423
                      replace S_b718 := Safe.keep KK793 hs794 CH S_b718
                      replace S_b752 := Safe.keep KK793 hs794 CH S_b752
                      replace S_t763 := Safe.keep KK793 hs794 CH S_t763
                      replace CR := CR.trans (CHr.keep KK793 hs794 CH)
                      replace CH := CHv.keep KK793 hs794 CH
                      replace hk := Nat.le_trans hk KK793.1
                      replace O0 := O0.keep KK793 all0
                      replace V423 := V423.keep KK793 nin0
                      replace V718 := V718.keep KK793 nin0
                      replace SS763 := SS763.keep KK793 nin0 nin0
                      replace SS777 := SS777.keep KK793 nin0 nin0
                      have K795 := K778.trans KK793 all0
                      refine own_go st793 ?_
                      refine own_go (fun _ kk_ => XS.aload X793.here hx rfl (hb hby at_656) rfl rfl kk_) ?_
                      show own_Fin p.tables e below _ (T793.setTop (mkF m 658 #[.val (.int mode), .val (.int pos), .val (.int ch), .val (.int oth), .val (.int (mode &&& (7 : Int32))), .val (.int (1 : Int32)), .val (.int (ch &&& (255 : Int32))), .val (.int cz), .val (.ref b423), .val (.ref sa), .val (.int pp), .val (.ref b752), .val (.ref sa), .val (.ref b718)] [(.ref sa), (.ref sa)]))
                      refine own_go (fun _ kk_ => acmp (g := (mkF m 658 #[.val (.int mode), .val (.int pos), .val (.int ch), .val (.int oth), .val (.int (mode &&& (7 : Int32))), .val (.int (1 : Int32)), .val (.int (ch &&& (255 : Int32))), .val (.int cz), .val (.ref b423), .val (.ref sa), .val (.int pp), .val (.ref b752), .val (.ref sa), .val (.ref b718)] [(.ref sa), (.ref sa)])) X793 hx rfl rfl rfl (pc0 := 658) (pc' := 661) (same := true) rfl (hb hby at_658) rfl (by simp) (by decide) (by decide) kk_) ?_
                      refine own_go (fun _ kk_ => XS.iconst X793.here hx rfl (hb hby at_661) kk_) ?_
                      refine own_go (fun _ kk_ => XS.goto X793.here hx rfl (pc0 := 662) (pc' := 666) rfl (hb hby at_662) (by decide) (by decide) kk_) ?_
                      show own_Fin p.tables e below _ (T793.setTop (mkF m 666 #[.val (.int mode), .val (.int pos), .val (.int ch), .val (.int oth), .val (.int (mode &&& (7 : Int32))), .val (.int (1 : Int32)), .val (.int (ch &&& (255 : Int32))), .val (.int cz), .val (.ref b423), .val (.ref sa), .val (.int pp), .val (.ref b752), .val (.ref sa), .val (.ref b718)] [(.int (1 : Int32))]))
                      have CRz : CHr Z consts_1 s.vm s.heap T793.vm T793.heap := by
                        rw [hh]
                        exact CR.trans (CHv.at X793 hZ hEL CH)
                      refine own_retW X793 hx Bd hS hk (t := .boolean) Bd.returns rfl (Or.inl ⟨rfl, by simp, _, rfl⟩) (hb hby at_666) CRz ?_ (by decide) (by decide)
                      show (Q_rm_law Z mode pos ch oth va vk ia sa wi ti wj tj gc h0 n0) (some (.int (1 : Int32))) T793.heap _
                      exact ⟨rfl, N793⟩
    refine own_go (fun _ kk_ => XS.iloadN X0.here hx rfl (hb hby at_28) rfl kk_) ?_
    refine own_go (fun _ kk_ => XS.sipush X0.here hx rfl (hb hby at_29) kk_) ?_
    show own_Fin p.tables e below _ (s₁.setTop (mkF m 32 #[.val (.int mode), .val (.int pos), .val (.int ch), .val (.int oth), .val (.int (mode &&& (7 : Int32))), .val (.int (1 : Int32)), .val (.int (ch &&& (255 : Int32))), .unset, .unset, .unset, .unset, .unset, .unset, .unset] [(.int (256 : Int32)), (.int ch)]))
    refine own_go (fun _ kk_ => XS.iand X0.here hx rfl (hb hby at_32) rfl kk_) ?_
    show own_Fin p.tables e below _ (s₁.setTop (mkF m 33 #[.val (.int mode), .val (.int pos), .val (.int ch), .val (.int oth), .val (.int (mode &&& (7 : Int32))), .val (.int (1 : Int32)), .val (.int (ch &&& (255 : Int32))), .unset, .unset, .unset, .unset, .unset, .unset, .unset] [(.int (ch &&& (256 : Int32)))]))
    by_cases hc796 : (ch &&& (256 : Int32)) = (0 : Int32)
    · skip
      refine own_go (fun _ kk_ => XS.ifYes X0.here hx rfl (pc0 := 33) (pc' := 40) rfl (hb hby at_33) rfl ((if0 _ _).trans (teq hc796).1) (by decide) (by decide) kk_) ?_
      refine own_go (fun _ kk_ => XS.iconst X0.here hx rfl (hb hby at_40) kk_) ?_
      show own_Fin p.tables e below _ (s₁.setTop (mkF m 41 #[.val (.int mode), .val (.int pos), .val (.int ch), .val (.int oth), .val (.int (mode &&& (7 : Int32))), .val (.int (1 : Int32)), .val (.int (ch &&& (255 : Int32))), .unset, .unset, .unset, .unset, .unset, .unset, .unset] [(.int (0 : Int32))]))
      exact tail _
    · skip
      refine own_go (fun _ kk_ => XS.ifNo X0.here hx rfl (hb hby at_33) rfl ((if0 _ _).trans (feq hc796).1) kk_) ?_
      refine own_go (fun _ kk_ => XS.iconst X0.here hx rfl (hb hby at_36) kk_) ?_
      refine own_go (fun _ kk_ => XS.goto X0.here hx rfl (pc0 := 37) (pc' := 41) rfl (hb hby at_37) (by decide) (by decide) kk_) ?_
      show own_Fin p.tables e below _ (s₁.setTop (mkF m 41 #[.val (.int mode), .val (.int pos), .val (.int ch), .val (.int oth), .val (.int (mode &&& (7 : Int32))), .val (.int (1 : Int32)), .val (.int (ch &&& (255 : Int32))), .unset, .unset, .unset, .unset, .unset, .unset, .unset] [(.int (1 : Int32))]))
      exact tail _
section OwnStart
variable {args : Array Value} {s : State}
theorem own_eqL {t : Term} {c : Int64} (h : (Jvm.Cond.eq t (.long c)).value args s none s [] = some true) : t.eval args s none [] s = some (.long c) := by
  obtain ⟨x, y, hx, hy, k1, -⟩ := cmp_v (Or.inl h)
  cases Option.some.inj (hy.symm.trans (long_at c))
  cases x <;> simp [Kin, Value.isRef] at k1
  have q := gotT (eq_L hx hy) h
  rw [hx, q]
theorem own_eqI {t : Term} {c : Int32} (h : (Jvm.Cond.eq t (.int c)).value args s none s [] = some true) : t.eval args s none [] s = some (.int c) := by
  obtain ⟨x, y, hx, hy, k1, -⟩ := cmp_v (Or.inl h)
  cases Option.some.inj (hy.symm.trans (Term.int_eval c))
  cases x <;> simp [Kin, Value.isRef] at k1
  have q := gotT (Cond.eq_ints hx hy) h
  rw [hx, q]
theorem own_eqR {t u : Term} {a : Addr} (hu : u.eval args s none [] s = some (.ref a)) (h : (Jvm.Cond.eq t u).value args s none s [] = some true) : t.eval args s none [] s = some (.ref a) := by
  obtain ⟨x, y, hx, hy, k1, -⟩ := cmp_v (Or.inl h)
  cases Option.some.inj (hy.symm.trans hu)
  have hr : x.isRef = true := by cases x <;> simp [Kin, Value.isRef] at k1 ⊢
  have q := gotT (eq_R hx hy hr rfl) h
  rw [hx, q]
theorem own_arr {t : Term} {a : Addr} {ty : FieldType} {N : Int32} (ev : t.eval args s none [] s = some (.ref a)) (h1 : (Jvm.Cond.arrayOf t ty).value args s none s [] = some true) (h2 : (Jvm.Cond.eq (Term.length t) (.int N)).value args s none s [] = some true) :
    ∃ cl, Arr s s.heap a cl ty ∧ s.arrayAt? a = some cl ∧ cl.slots.size < 2 ^ 31 ∧ cl.slots.size.toInt32 = N := by
  obtain ⟨cl, A⟩ := Arr.start ev h1
  have aa : s.arrayAt? a = some cl := A.fin (hal := Vm.Alike.refl _)
  have hlen := own_eqI h2
  simp only [Term.eval, ev, Option.bind_eq_bind, Option.bind_some, aa] at hlen
  split at hlen
  · rename_i q; exact ⟨cl, A, aa, q, by simpa using hlen⟩
  · cases hlen
theorem own_elL {t : Term} {a : Addr} {cl : Cell} {j : Int32} {c : Int64} (ev : t.eval args s none [] s = some (.ref a)) (aa : s.arrayAt? a = some cl) (hj : ¬ j < 0) (h : (Jvm.Cond.eq (Term.elem t (.int j)) (.long c)).value args s none s [] = some true) : cl.slots[j.toNatClampNeg]? = some (.long c) := by
  have q := own_eqL h
  rwa [elem_f ev (Term.int_eval j) aa hj] at q
theorem own_elI {t : Term} {a : Addr} {cl : Cell} {j : Int32} {c : Int32} (ev : t.eval args s none [] s = some (.ref a)) (aa : s.arrayAt? a = some cl) (hj : ¬ j < 0) (h : (Jvm.Cond.eq (Term.elem t (.int j)) (.int c)).value args s none s [] = some true) : cl.slots[j.toNatClampNeg]? = some (.int c) := by
  have q := own_eqI h
  rwa [elem_f ev (Term.int_eval j) aa hj] at q
theorem own_elR {t u : Term} {a b : Addr} {cl : Cell} {j : Int32} (ev : t.eval args s none [] s = some (.ref a)) (aa : s.arrayAt? a = some cl) (hj : ¬ j < 0) (hu : u.eval args s none [] s = some (.ref b)) (h : (Jvm.Cond.eq (Term.elem t (.int j)) u).value args s none s [] = some true) : cl.slots[j.toNatClampNeg]? = some (.ref b) := by
  have q := own_eqR hu h
  rwa [elem_f ev (Term.int_eval j) aa hj] at q
end OwnStart
set_option maxRecDepth 65536 in
set_option maxHeartbeats 40000000 in
theorem comes_1 {Post : Tables → Env → Array Value → State → Outcome → State → Prop} (hpost : ∀ tb e args s v u, (limb_1_1.after args s (.returned v) u = true ∧ limb_1_2.after args s (.returned v) u = true ∧ True) → ReturnedEndW s (.returned v) u (Jvm.fieldLocs frame_1_writes args s ++ Jvm.arrayLocs frame_1_arrays args s ++ Jvm.staticLocs frame_1_statics s) 32 6336 → Post tb e args s (.returned v) u) :
    ArmFor flags0 classFile x code maxLocals ret World_1 tables_1 room_1 Calls_1 rest_1 Pre_1 Post := by
  intro l hfl _ _ p e ha hc hk s m args below hf hA hF happ hP
  obtain ⟨hcalls, hrest, hpre⟩ := hP
  obtain ⟨-, -, -, hnamed, -, -, -, hat⟩ := (Spec.applies_iff hf).mp happ
  obtain ⟨hg, hn⟩ := and_e (Cond.before_iff.mp (show (Jvm.Cond.and given_1 narrow_1).before args s = true from hpre))
  obtain ⟨h1, hg⟩ := and_e hg
  obtain ⟨g0, hg⟩ := and_e hg
  obtain ⟨g1, hg⟩ := and_e hg
  obtain ⟨g2, hg⟩ := and_e hg
  obtain ⟨w0, w1, w2, w3, rfl⟩ : ∃ w0 w1 w2 w3 : Value, args = #[w0, w1, w2, w3] := by
    have hs : args.size = 4 := by simpa [Cond.value, given_1] using h1
    obtain ⟨L⟩ := args
    match L, hs with
    | [w0, w1, w2, w3], _ => exact ⟨w0, w1, w2, w3, rfl⟩
  have hw := fun d (hd : d ∈ tables_1) => atoms_spec (ws := Jvm.Cond.code x code maxLocals ret :: tables_1) hat d (List.mem_cons_of_mem _ hd)
  obtain ⟨hsets, hown0⟩ := atoms_of _ (rest_1_c_eq ▸ (show rest_1_c.before _ s = true from hrest))
  have hfit : Fit s := fun {y c} hc i hi => by
    obtain ⟨ha, rfl⟩ := Array.getElem?_eq_some_iff.mp hc
    have q := List.all_eq_true.mp ((Array.all_eq_true_iff_forall_mem.mp hF) _ (Array.getElem_mem ha)) i (List.mem_range.mpr hi)
    simpa [Array.getElem?_eq_getElem hi] using q
  obtain ⟨i0, e0⟩ := is_v g0
  obtain rfl : w0 = (.int i0) := Option.some.inj e0
  obtain ⟨i1, e1⟩ := is_v g1
  obtain rfl : w1 = (.int i1) := Option.some.inj e1
  obtain ⟨i2, e2⟩ := is_v g2
  obtain rfl : w2 = (.int i2) := Option.some.inj e2
  obtain ⟨i3, e3⟩ := is_v hg
  obtain rfl : w3 = (.int i3) := Option.some.inj e3
  have n5 := not_v (Cond.before_iff.mp (hsets _ (List.mem_of_getElem? (i := 2) rfl)))
  obtain ⟨gc, e10⟩ := is_v (Cond.before_iff.mp (hsets _ (List.mem_of_getElem? (i := 1) rfl)))
  have SC : Sta s s.heap "java/lang/String" "COMPACT_STRINGS" "Z" (.int gc) := Sta.start e10 (Or.inl (hsets _ (List.mem_of_getElem? (i := 0) rfl)))
  have hcs : ¬ (gc = (0 : Int32)) := gotF (Cond.eq_ints e10 (Term.int_eval (0))) n5
  obtain ⟨gs, e14, hgs⟩ := isR_v (Cond.before_iff.mp (hsets _ (List.mem_of_getElem? (i := 8) rfl)))
  have SF : Sta s s.heap "jdk/internal/util/Preconditions" "SIOOBE_FORMATTER" "Ljava/util/function/BiFunction;" gs := Sta.start e14 (Or.inl (hsets _ (List.mem_of_getElem? (i := 7) rfl)))
  obtain ⟨p0, hn⟩ := and_e hn
  obtain ⟨p1, hn⟩ := and_e hn
  obtain ⟨p2, hn⟩ := and_e hn
  obtain ⟨p3, hn⟩ := and_e hn
  obtain ⟨p4, hn⟩ := and_e hn
  obtain ⟨p5, hn⟩ := and_e hn
  obtain ⟨p6, hn⟩ := and_e hn
  obtain ⟨p7, hn⟩ := and_e hn
  obtain ⟨p8, hn⟩ := and_e hn
  obtain ⟨p9, hn⟩ := and_e hn
  obtain ⟨p10, hn⟩ := and_e hn
  obtain ⟨p11, hn⟩ := and_e hn
  obtain ⟨p12, hn⟩ := and_e hn
  obtain ⟨p13, hn⟩ := and_e hn
  obtain ⟨p14, hn⟩ := and_e hn
  obtain ⟨p15, hn⟩ := and_e hn
  obtain ⟨p16, hn⟩ := and_e hn
  obtain ⟨p17, hn⟩ := and_e hn
  obtain ⟨p18, hn⟩ := and_e hn
  obtain ⟨p19, hn⟩ := and_e hn
  obtain ⟨p20, hn⟩ := and_e hn
  obtain ⟨p21, hn⟩ := and_e hn
  obtain ⟨p22, hn⟩ := and_e hn
  obtain ⟨p23, hn⟩ := and_e hn
  obtain ⟨p24, hn⟩ := and_e hn
  obtain ⟨p25, hn⟩ := and_e hn
  obtain ⟨p26, hn⟩ := and_e hn
  obtain ⟨p27, hn⟩ := and_e hn
  obtain ⟨p28, hn⟩ := and_e hn
  obtain ⟨p29, hn⟩ := and_e hn
  obtain ⟨p30, hn⟩ := and_e hn
  obtain ⟨p31, p32⟩ := and_e hn
  obtain ⟨va, ev⟩ := arr_v p1
  obtain ⟨ia, ei⟩ := exa_v p0
  obtain ⟨sa, es⟩ := exa_v p5
  have hini := (hw _ (List.mem_of_getElem? (i := 2) rfl))
  have SV := Sta.start ev (Or.inr ⟨hini, (hw _ (List.mem_of_getElem? (i := 41) rfl))⟩)
  have SI := Sta.start ei (Or.inr ⟨hini, (hw _ (List.mem_of_getElem? (i := 3) rfl))⟩)
  have SS := Sta.start es (Or.inr ⟨hini, (hw _ (List.mem_of_getElem? (i := 49) rfl))⟩)
  obtain ⟨cl, AA, aa, hs1, hs2⟩ := own_arr ev p1 p3
  have VV := Arv.start (dv := .null) (z := 2) (vs := [.ref ia, .ref sa]) hfit AA hs1 hs2 (by decide) rfl ⟨own_elR ev aa (j := 0) (by decide) ei p4, own_elR ev aa (j := 1) (by decide) es p6, trivial⟩
  have EV := Exa.start ev p2
  obtain ⟨wi, ev_wi⟩ := exa_v p7
  have E_wi := Exa.start ev_wi p7
  have fc_wi := own_eqI p8
  rw [fld_at ev_wi] at fc_wi
  have FC_wi := Fld.start fc_wi
  obtain ⟨twi, et_wi⟩ := arr_v p9
  have fv_wi := et_wi
  rw [fld_at ev_wi] at fv_wi
  have FV_wi := Fld.start fv_wi
  obtain ⟨cl_wi, A_wi, aa_wi, h1_wi, h2_wi⟩ := own_arr et_wi p9 p10
  have KV_wi := Arv.start (dv := .int (0 : Int32)) (z := 10) (vs := ([105, 110, 100, 105, 118, 105, 100, 117, 97, 108].map (fun c : Int32 => c.toInt8.toInt32)).map Value.int) hfit A_wi h1_wi h2_wi (by decide) rfl ⟨own_elI et_wi aa_wi (j := 0) (by decide) p15, own_elI et_wi aa_wi (j := 1) (by decide) p16, own_elI et_wi aa_wi (j := 2) (by decide) p17, own_elI et_wi aa_wi (j := 3) (by decide) p18, own_elI et_wi aa_wi (j := 4) (by decide) p19, own_elI et_wi aa_wi (j := 5) (by decide) p20, own_elI et_wi aa_wi (j := 6) (by decide) p21, own_elI et_wi aa_wi (j := 7) (by decide) p22, own_elI et_wi aa_wi (j := 8) (by decide) p23, own_elI et_wi aa_wi (j := 9) (by decide) p24, trivial⟩
  have hp_wi : ∀ c ∈ ([105, 110, 100, 105, 118, 105, 100, 117, 97, 108] : List Int32), ¬ c < 0 ∧ ¬ (255 : Int32) < c := by decide
  have SS_wi : own_Str s s.heap wi twi [105, 110, 100, 105, 118, 105, 100, 117, 97, 108] := ⟨_, _, _, _, E_wi, FV_wi, FC_wi, KV_wi, StrChars.Road.codOf (n := 10) rfl (fun c hc => (hp_wi c hc).2), own_up _ hp_wi, Nat.le_of_ble_eq_true rfl⟩
  obtain ⟨wj, ev_wj⟩ := exa_v p11
  have E_wj := Exa.start ev_wj p11
  have fc_wj := own_eqI p12
  rw [fld_at ev_wj] at fc_wj
  have FC_wj := Fld.start fc_wj
  obtain ⟨twj, et_wj⟩ := arr_v p13
  have fv_wj := et_wj
  rw [fld_at ev_wj] at fv_wj
  have FV_wj := Fld.start fv_wj
  obtain ⟨cl_wj, A_wj, aa_wj, h1_wj, h2_wj⟩ := own_arr et_wj p13 p14
  have KV_wj := Arv.start (dv := .int (0 : Int32)) (z := 8) (vs := ([115, 109, 111, 111, 116, 104, 101, 100].map (fun c : Int32 => c.toInt8.toInt32)).map Value.int) hfit A_wj h1_wj h2_wj (by decide) rfl ⟨own_elI et_wj aa_wj (j := 0) (by decide) p25, own_elI et_wj aa_wj (j := 1) (by decide) p26, own_elI et_wj aa_wj (j := 2) (by decide) p27, own_elI et_wj aa_wj (j := 3) (by decide) p28, own_elI et_wj aa_wj (j := 4) (by decide) p29, own_elI et_wj aa_wj (j := 5) (by decide) p30, own_elI et_wj aa_wj (j := 6) (by decide) p31, own_elI et_wj aa_wj (j := 7) (by decide) p32, trivial⟩
  have hp_wj : ∀ c ∈ ([115, 109, 111, 111, 116, 104, 101, 100] : List Int32), ¬ c < 0 ∧ ¬ (255 : Int32) < c := by decide
  have SS_wj : own_Str s s.heap wj twj [115, 109, 111, 111, 116, 104, 101, 100] := ⟨_, _, _, _, E_wj, FV_wj, FC_wj, KV_wj, StrChars.Road.codOf (n := 8) rfl (fun c hc => (hp_wj c hc).2), own_up _ hp_wj, Nat.le_of_ble_eq_true rfl⟩
  have gi := ev_wi
  rw [fld_at ei] at gi
  have FI := Fld.start gi
  have gj := ev_wj
  rw [fld_at es] at gj
  have FJ := Fld.start gj
  have hEL : EW s _ consts_1 := (EW.cons (hw _ (List.mem_of_getElem? (i := 74) rfl)) (by decide) (EW.cons (hw _ (List.mem_of_getElem? (i := 71) rfl)) (by decide) (EW.cons (hw _ (List.mem_of_getElem? (i := 66) rfl)) (by decide) (EW.cons (hw _ (List.mem_of_getElem? (i := 72) rfl)) (by decide) (EW.cons (hw _ (List.mem_of_getElem? (i := 75) rfl)) (by decide) (EW.cons (hw _ (List.mem_of_getElem? (i := 69) rfl)) (by decide) EW.nil))))))
  have CH0 := CHv.start hEL (fun p hp => hcalls.1 p hp) (hsets _ (List.mem_of_getElem? (i := 2) rfl)) (hw _ (List.mem_of_getElem? (i := 23) rfl)) (hw _ (List.mem_of_getElem? (i := 6) rfl))
  obtain ⟨n, o, h1, h2, h3, _, L, rfl, ⟨rfl, N⟩, -, hq⟩ := rm_law l s _ hw tables_1 hEL i0 i1 i2 i3 va cl.cls ia sa wi twi wj twj gc s.heap s.heap.size (Nat.le_refl _) SV VV EV FI FJ SS_wi SS_wj SI SS SC hcs (Old.start s) p e ha hc hk s m _ below hf ((Spec.applies_iff_loose hf).mp happ).1 ⟨rfl, State.Warmed39.refl s, rfl, CH0⟩ trivial
  refine ⟨n, _, h1, h2, h3, hpost _ _ _ _ _ _ ⟨Cond.after_iff.mpr rfl, Cond.after_iff.mpr (eq_i res_at (Term.int_eval (1)) rfl), trivial⟩ ⟨hq.1, hq.2.1, hq.2.2.1, (hq.2.2.2.sift fun y hy => Or.inr (N y hy)).mono (by decide) (by decide)⟩⟩
theorem main_1_1 : Claimed_1_1 := comes_1 fun _ _ _ _ _ _ h hF => ⟨h.1, hF⟩
theorem main_1_2 : Claimed_1_2 := comes_1 fun _ _ _ _ _ _ h hF => ⟨h.2.1, hF⟩
end Jvm.Pilot.@@N@@
namespace Jvm.Pilot.@@N@@
open Jvm Jvm.ClassFile Sem Op Lib Jvm.Free Jvm.Stand Jvm.Pilot.@@N@@.Jvm.D
/-! MADE BY PROGRAM (witnessworld.py) out of the Statement's table words and the real class files: 22 classes; the members and pool entries that the words name. The judged class is class 1, her method 1. -/
namespace start1
open Jvm.ClassFile
def u (s : String) : CpInfo := .utf8 (stringToUtf16 s)
/-- a pool by its gaps: so many unusable entries, then the entry; so many at the end -/
def gap : Nat → List CpInfo → List CpInfo
  | 0, r => r
  | n + 1, r => .unusable :: gap n r
def poolList (es : List (Nat × CpInfo)) (last : Nat) : List CpInfo := es.foldr (fun e r => gap e.1 (e.2 :: r)) (gap last [])
def pool (es : List (Nat × CpInfo)) (last : Nat) : Array CpInfo := ⟨poolList es last⟩
def fileOf (pool : Array CpInfo) (this : Nat) (attrs : Array Attribute := #[]) (ms : Array MethodInfo := #[]) (fl : Nat := 33) (sup : Nat := 0) (ifs : Array Nat := #[]) (fds : Array FieldInfo := #[]) : ClassFile where
  minorVersion := 0
  majorVersion := 65
  constantPool := pool
  accessFlags := fl
  thisClass := this
  superClass := sup
  interfaces := ifs
  fields := fds
  methods := ms
  attributes := attrs
def plain (name : String) (sup : Option ClassId) : Class where
  name := name
  kind := .ordinary
  loader := none
  accessFlags := 33
  super := sup
  interfaces := #[]
  cf := none
  fields := #[]
  methods := #[]
  instanceTypes := #[]
  staticTypes := #[]
  resolved := #[]
  callSites := []
  init := .initialized
  statics := none
  mirror := none

def pool0 : Array CpInfo := pool [(5, u "<init>"), (0, u "()V"), (1, .class_ 10), (1, u "java/lang/Object"), (85, u "clone"), (0, u "()Ljava/lang/Object;")] 26

def k0c0 : Code := { maxStack := 0, maxLocals := 1, code := object_method_1_code, exceptionTable := #[], attributes := #[] }
def k0m0 : Method := { name := "<init>", desc := "()V", sig := { parameters := [], returnType := none }, accessFlags := 1, code := some k0c0 }
def k0m1 : Method := { name := "clone", desc := "()Ljava/lang/Object;", sig := { parameters := [], returnType := some (.object "java/lang/Object") }, accessFlags := 260, code := none }
/-- java/lang/Object -/
def k0 : Class := { plain "java/lang/Object" none with
  accessFlags := 33
  interfaces := #[]
  cf := some (fileOf pool0 8 #[] #[{ accessFlags := 1, nameIndex := 5, descriptorIndex := 6, attributes := #[] }, { accessFlags := 260, nameIndex := 96, descriptorIndex := 97, attributes := #[] }] 33 0 #[] #[])
  fields := #[]
  methods := #[k0m0, k0m1]
  instanceTypes := #[]
  staticTypes := #[]
  resolved := Array.replicate 124 none
  statics := none }

def pool1 : Array CpInfo := pool [(2, .class_ 4), (1, u "java/lang/Object"), (0, u "<init>"), (0, u "()V"), (0, .fieldref 8 9), (0, .class_ 10), (0, .nameAndType 11 12), (0, u "com/example/hebelwerk/hebelwerk/model/DividendMethod"), (0, u "SMOOTHED"), (0, u "Lcom/example/hebelwerk/hebelwerk/model/DividendMethod;"), (0, .fieldref 8 14), (0, .nameAndType 15 12), (0, u "INDIVIDUAL"), (0, .integer 2147483647), (0, .class_ 18), (0, u "java/lang/String"), (0, .methodref 17 20), (0, .nameAndType 5 21), (0, u "([C)V"), (0, .string 23), (0, u "smoothe"), (0, .string 25), (0, u "individua"), (0, .string 27), (0, u "moothed"), (0, .string 29), (0, u "ndividual"), (0, .integer 65536), (0, .string 32), (0, u ""), (0, .string 34), (0, u "smoothed"), (0, .methodref 17 36), (0, .nameAndType 37 38), (0, u "equals"), (0, u "(Ljava/lang/Object;)Z"), (0, .methodref 8 40), (0, .nameAndType 41 42), (0, u "written"), (0, u "(Ljava/lang/String;)Lcom/example/hebelwerk/hebelwerk/model/DividendMethod;"), (0, .class_ 44), (0, u "com/example/hebelwerk/hebelwerk/model/DividendMethodWrittenPinLaw"), (2, u "law"), (0, u "(IIII)Z")] 5

def k1m0 : Method := { name := "<init>", desc := "()V", sig := { parameters := [], returnType := none }, accessFlags := 1, code := none }
def k1c1 : Code := { maxStack := 7, maxLocals := 14, code := code, exceptionTable := #[], attributes := #[] }
def k1m1 : Method := { name := "law", desc := "(IIII)Z", sig := { parameters := [.int, .int, .int, .int], returnType := some .boolean }, accessFlags := 9, code := some k1c1 }
/-- com/example/hebelwerk/hebelwerk/model/DividendMethodWrittenPinLaw -/
def k1 : Class := { plain "com/example/hebelwerk/hebelwerk/model/DividendMethodWrittenPinLaw" (some 0) with
  accessFlags := 49
  interfaces := #[]
  cf := some (fileOf pool1 43 #[] #[{ accessFlags := 1, nameIndex := 5, descriptorIndex := 6, attributes := #[] }, { accessFlags := 9, nameIndex := 47, descriptorIndex := 48, attributes := #[] }] 49 2 #[] #[])
  fields := #[]
  methods := #[k1m0, k1m1]
  instanceTypes := #[]
  staticTypes := #[]
  resolved := Array.replicate 54 none
  statics := none }

def pool2 : Array CpInfo := pool [(1, .class_ 2), (0, u "java/lang/constant/Constable"), (0, .class_ 4), (0, u "java/lang/Object")] 6

/-- java/lang/constant/Constable -/
def k2 : Class := { plain "java/lang/constant/Constable" (some 0) with
  accessFlags := 1537
  interfaces := #[]
  cf := some (fileOf pool2 1 #[] #[] 1537 3 #[] #[])
  fields := #[]
  methods := #[]
  instanceTypes := #[]
  staticTypes := #[]
  resolved := Array.replicate 11 none
  statics := none }

def pool3 : Array CpInfo := pool [(1, .class_ 2), (0, u "java/lang/Comparable"), (0, .class_ 4), (0, u "java/lang/Object")] 7

/-- java/lang/Comparable -/
def k3 : Class := { plain "java/lang/Comparable" (some 0) with
  accessFlags := 1537
  interfaces := #[]
  cf := some (fileOf pool3 1 #[] #[] 1537 3 #[] #[])
  fields := #[]
  methods := #[]
  instanceTypes := #[]
  staticTypes := #[]
  resolved := Array.replicate 12 none
  statics := none }

def pool4 : Array CpInfo := pool [(1, .class_ 2), (0, u "java/io/Serializable"), (0, .class_ 4), (0, u "java/lang/Object")] 2

/-- java/io/Serializable -/
def k4 : Class := { plain "java/io/Serializable" (some 0) with
  accessFlags := 1537
  interfaces := #[]
  cf := some (fileOf pool4 1 #[] #[] 1537 3 #[] #[])
  fields := #[]
  methods := #[]
  instanceTypes := #[]
  staticTypes := #[]
  resolved := Array.replicate 7 none
  statics := none }

def pool5 : Array CpInfo := pool [(2, .class_ 4), (1, u "java/lang/Enum"), (0, u "name"), (0, u "Ljava/lang/String;"), (2, u "ordinal"), (0, u "I"), (1, .class_ 14), (1, u "java/lang/Object"), (4, u "hash"), (86, .class_ 108), (1, u "java/lang/Enum$EnumDesc"), (2, .class_ 112), (0, u "java/lang/constant/Constable"), (0, .class_ 114), (0, u "java/lang/Comparable"), (0, .class_ 116), (0, u "java/io/Serializable")] 87

/-- java/lang/Enum -/
def k5 : Class := { plain "java/lang/Enum" (some 0) with
  accessFlags := 1057
  interfaces := #[2, 3, 4]
  cf := some (fileOf pool5 2 #[.nestMembers #[106]] #[] 1057 12 #[111, 113, 115] #[{ accessFlags := 18, nameIndex := 5, descriptorIndex := 6, attributes := #[] }, { accessFlags := 18, nameIndex := 9, descriptorIndex := 10, attributes := #[] }, { accessFlags := 2, nameIndex := 19, descriptorIndex := 10, attributes := #[] }])
  fields := #[{ name := "name", type := (.object "java/lang/String"), accessFlags := 18, slot := 0, constantValue := 0 }, { name := "ordinal", type := .int, accessFlags := 18, slot := 1, constantValue := 0 }, { name := "hash", type := .int, accessFlags := 2, slot := 2, constantValue := 0 }]
  methods := #[]
  instanceTypes := #[(.object "java/lang/String"), .int, .int]
  staticTypes := #[]
  resolved := Array.replicate 204 none
  statics := none }

def pool6 : Array CpInfo := pool [(1, .class_ 2), (0, u "com/example/hebelwerk/hebelwerk/model/DividendMethod"), (2, u "INDIVIDUAL"), (0, u "Lcom/example/hebelwerk/hebelwerk/model/DividendMethod;"), (2, u "SMOOTHED"), (0, .fieldref 1 11), (0, .nameAndType 12 13), (0, u "$VALUES"), (0, u "[Lcom/example/hebelwerk/hebelwerk/model/DividendMethod;"), (0, .methodref 15 16), (0, .class_ 13), (0, .nameAndType 17 18), (0, u "clone"), (0, u "()Ljava/lang/Object;"), (1, .class_ 22), (1, u "java/lang/Enum"), (6, .fieldref 1 30), (0, .nameAndType 31 32), (0, u "written"), (0, u "Ljava/lang/String;"), (0, .methodref 1 34), (0, .nameAndType 35 36), (0, u "values"), (0, u "()[Lcom/example/hebelwerk/hebelwerk/model/DividendMethod;"), (0, .methodref 38 39), (0, .class_ 40), (0, .nameAndType 41 42), (0, u "java/lang/String"), (0, u "equals"), (0, u "(Ljava/lang/Object;)Z"), (18, u "(Ljava/lang/String;)Lcom/example/hebelwerk/hebelwerk/model/DividendMethod;")] 25

def k6c0 : Code := { maxStack := 1, maxLocals := 0, code := prog_19_method_1_code, exceptionTable := #[], attributes := #[] }
def k6m0 : Method := { name := "values", desc := "()[Lcom/example/hebelwerk/hebelwerk/model/DividendMethod;", sig := { parameters := [], returnType := some (.array (.object "com/example/hebelwerk/hebelwerk/model/DividendMethod")) }, accessFlags := 9, code := some k6c0 }
def k6c1 : Code := { maxStack := 2, maxLocals := 5, code := prog_19_method_4_code, exceptionTable := #[], attributes := #[] }
def k6m1 : Method := { name := "written", desc := "(Ljava/lang/String;)Lcom/example/hebelwerk/hebelwerk/model/DividendMethod;", sig := { parameters := [(.object "java/lang/String")], returnType := some (.object "com/example/hebelwerk/hebelwerk/model/DividendMethod") }, accessFlags := 8, code := some k6c1 }
/-- com/example/hebelwerk/hebelwerk/model/DividendMethod -/
def k6 : Class := { plain "com/example/hebelwerk/hebelwerk/model/DividendMethod" (some 5) with
  accessFlags := 16433
  interfaces := #[]
  cf := some (fileOf pool6 1 #[] #[{ accessFlags := 9, nameIndex := 35, descriptorIndex := 36, attributes := #[] }, { accessFlags := 8, nameIndex := 31, descriptorIndex := 61, attributes := #[] }] 16433 20 #[] #[{ accessFlags := 16409, nameIndex := 5, descriptorIndex := 6, attributes := #[] }, { accessFlags := 16409, nameIndex := 9, descriptorIndex := 6, attributes := #[] }, { accessFlags := 18, nameIndex := 31, descriptorIndex := 32, attributes := #[] }, { accessFlags := 4122, nameIndex := 12, descriptorIndex := 13, attributes := #[] }])
  fields := #[{ name := "INDIVIDUAL", type := (.object "com/example/hebelwerk/hebelwerk/model/DividendMethod"), accessFlags := 16409, slot := 0, constantValue := 0 }, { name := "SMOOTHED", type := (.object "com/example/hebelwerk/hebelwerk/model/DividendMethod"), accessFlags := 16409, slot := 1, constantValue := 0 }, { name := "written", type := (.object "java/lang/String"), accessFlags := 18, slot := 3, constantValue := 0 }, { name := "$VALUES", type := (.array (.object "com/example/hebelwerk/hebelwerk/model/DividendMethod")), accessFlags := 4122, slot := 2, constantValue := 0 }]
  methods := #[k6m0, k6m1]
  instanceTypes := #[(.object "java/lang/String"), .int, .int, (.object "java/lang/String")]
  staticTypes := #[(.object "com/example/hebelwerk/hebelwerk/model/DividendMethod"), (.object "com/example/hebelwerk/hebelwerk/model/DividendMethod"), (.array (.object "com/example/hebelwerk/hebelwerk/model/DividendMethod"))]
  resolved := Array.replicate 87 none
  statics := some 0 }

def pool7 : Array CpInfo := pool [(2, .class_ 4), (1, u "java/lang/CharSequence"), (42, .class_ 48), (0, u "java/lang/CharSequence$1CodePointIterator"), (10, .class_ 60), (0, u "java/lang/CharSequence$1CharIterator"), (5, .class_ 67), (0, u "java/lang/Object")] 63

/-- java/lang/CharSequence -/
def k7 : Class := { plain "java/lang/CharSequence" (some 0) with
  accessFlags := 1537
  interfaces := #[]
  cf := some (fileOf pool7 2 #[.nestMembers #[47, 59]] #[] 1537 66 #[] #[])
  fields := #[]
  methods := #[]
  instanceTypes := #[]
  staticTypes := #[]
  resolved := Array.replicate 131 none
  statics := none }

def pool8 : Array CpInfo := pool [(1, .class_ 2), (0, u "java/lang/constant/ConstantDesc"), (0, .class_ 4), (0, u "java/lang/Object")] 32

/-- java/lang/constant/ConstantDesc -/
def k8 : Class := { plain "java/lang/constant/ConstantDesc" (some 0) with
  accessFlags := 1537
  interfaces := #[]
  cf := some (fileOf pool8 1 #[] #[] 1537 3 #[] #[])
  fields := #[]
  methods := #[]
  instanceTypes := #[]
  staticTypes := #[]
  resolved := Array.replicate 37 none
  statics := none }

def pool9 : Array CpInfo := pool [(1, .methodref 2 3), (0, .class_ 4), (0, .nameAndType 5 6), (0, u "java/lang/Object"), (0, u "<init>"), (0, u "()V"), (2, .fieldref 10 11), (0, .class_ 12), (0, .nameAndType 13 14), (0, u "java/lang/String"), (0, u "value"), (0, u "[B"), (0, .fieldref 10 16), (0, .nameAndType 17 18), (0, u "coder"), (0, u "B"), (2, u "hash"), (0, u "I"), (2, u "hashIsZero"), (0, u "Z"), (0, .methodref 10 28), (0, .nameAndType 5 29), (0, u "([CIILjava/lang/Void;)V"), (8, .fieldref 10 39), (0, .nameAndType 40 26), (0, u "COMPACT_STRINGS"), (1, .class_ 44), (1, u "java/lang/StringUTF16"), (0, u "compress"), (1, .methodref 42 48), (0, .nameAndType 49 50), (0, u "coderFromArrayLen"), (0, u "([BI)B"), (56, .class_ 109), (1, u "java/lang/StringLatin1"), (67, .methodref 42 178), (0, .nameAndType 45 179), (0, u "([CII)[B"), (361, .methodref 107 542), (0, .nameAndType 543 544), (0, u "equals"), (0, u "([B[B)Z"), (28, u "(Ljava/lang/Object;)Z"), (1, .class_ 576), (0, u "java/lang/CharSequence"), (22, u "CASE_INSENSITIVE_ORDER"), (0, u "Ljava/util/Comparator;"), (409, u "([C)V"), (90, u "serialPersistentFields"), (0, u "[Ljava/io/ObjectStreamField;"), (0, .class_ 1104), (0, u "java/lang/String$CaseInsensitiveComparator"), (1, .class_ 1107), (0, u "java/io/Serializable"), (0, .class_ 1109), (0, u "java/lang/Comparable"), (0, .class_ 1111), (0, u "java/lang/constant/Constable"), (0, .class_ 1113), (0, u "java/lang/constant/ConstantDesc"), (2, u "serialVersionUID"), (0, u "J"), (3, u "REPL"), (0, u "C"), (2, u "LATIN1"), (1, u "UTF16")] 323

def k9m0 : Method := { name := "<init>", desc := "()V", sig := { parameters := [], returnType := none }, accessFlags := 1, code := none }
def k9c1 : Code := { maxStack := 5, maxLocals := 2, code := jdk_42_method_3_code, exceptionTable := #[], attributes := #[] }
def k9m1 : Method := { name := "<init>", desc := "([C)V", sig := { parameters := [(.array .char)], returnType := none }, accessFlags := 1, code := some k9c1 }
def k9c2 : Code := { maxStack := 2, maxLocals := 3, code := jdk_42_method_66_code, exceptionTable := #[], attributes := #[] }
def k9m2 : Method := { name := "equals", desc := "(Ljava/lang/Object;)Z", sig := { parameters := [(.object "java/lang/Object")], returnType := some .boolean }, accessFlags := 1, code := some k9c2 }
def k9c3 : Code := { maxStack := 4, maxLocals := 6, code := jdk_42_method_149_code, exceptionTable := #[], attributes := #[] }
def k9m3 : Method := { name := "<init>", desc := "([CIILjava/lang/Void;)V", sig := { parameters := [(.array .char), .int, .int, (.object "java/lang/Void")], returnType := none }, accessFlags := 2, code := some k9c3 }
/-- java/lang/String -/
def k9 : Class := { plain "java/lang/String" (some 0) with
  accessFlags := 49
  interfaces := #[4, 3, 7, 2, 8]
  cf := some (fileOf pool9 10 #[.nestMembers #[1103]] #[{ accessFlags := 1, nameIndex := 5, descriptorIndex := 6, attributes := #[] }, { accessFlags := 1, nameIndex := 5, descriptorIndex := 1010, attributes := #[] }, { accessFlags := 1, nameIndex := 543, descriptorIndex := 573, attributes := #[] }, { accessFlags := 2, nameIndex := 5, descriptorIndex := 29, attributes := #[] }] 49 2 #[1106, 1108, 575, 1110, 1112] #[{ accessFlags := 18, nameIndex := 13, descriptorIndex := 14, attributes := #[] }, { accessFlags := 18, nameIndex := 17, descriptorIndex := 18, attributes := #[] }, { accessFlags := 2, nameIndex := 21, descriptorIndex := 22, attributes := #[] }, { accessFlags := 2, nameIndex := 25, descriptorIndex := 26, attributes := #[] }, { accessFlags := 26, nameIndex := 1116, descriptorIndex := 1117, attributes := #[] }, { accessFlags := 24, nameIndex := 40, descriptorIndex := 26, attributes := #[] }, { accessFlags := 26, nameIndex := 1101, descriptorIndex := 1102, attributes := #[] }, { accessFlags := 26, nameIndex := 1121, descriptorIndex := 1122, attributes := #[] }, { accessFlags := 25, nameIndex := 599, descriptorIndex := 600, attributes := #[] }, { accessFlags := 24, nameIndex := 1125, descriptorIndex := 18, attributes := #[] }, { accessFlags := 24, nameIndex := 1127, descriptorIndex := 18, attributes := #[] }])
  fields := #[{ name := "value", type := (.array .byte), accessFlags := 18, slot := 0, constantValue := 0 }, { name := "coder", type := .byte, accessFlags := 18, slot := 1, constantValue := 0 }, { name := "hash", type := .int, accessFlags := 2, slot := 2, constantValue := 0 }, { name := "hashIsZero", type := .boolean, accessFlags := 2, slot := 3, constantValue := 0 }, { name := "serialVersionUID", type := .long, accessFlags := 26, slot := 0, constantValue := 0 }, { name := "COMPACT_STRINGS", type := .boolean, accessFlags := 24, slot := 1, constantValue := 0 }, { name := "serialPersistentFields", type := (.array (.object "java/io/ObjectStreamField")), accessFlags := 26, slot := 2, constantValue := 0 }, { name := "REPL", type := .char, accessFlags := 26, slot := 3, constantValue := 0 }, { name := "CASE_INSENSITIVE_ORDER", type := (.object "java/util/Comparator"), accessFlags := 25, slot := 4, constantValue := 0 }, { name := "LATIN1", type := .byte, accessFlags := 24, slot := 5, constantValue := 0 }, { name := "UTF16", type := .byte, accessFlags := 24, slot := 6, constantValue := 0 }]
  methods := #[k9m0, k9m1, k9m2, k9m3]
  instanceTypes := #[(.array .byte), .byte, .int, .boolean]
  staticTypes := #[.long, .boolean, (.array (.object "java/io/ObjectStreamField")), .char, (.object "java/util/Comparator"), .byte, .byte]
  resolved := Array.replicate 1451 none
  statics := some 1 }

def pool10 : Array CpInfo := pool [(6, .class_ 8), (1, u "java/lang/Object"), (0, u "<init>"), (0, u "()V"), (1, .class_ 14), (1, u "java/lang/StringUTF16"), (31, u "$assertionsDisabled"), (0, u "Z"), (13, u "HI_BYTE_SHIFT"), (0, u "I"), (2, u "LO_BYTE_SHIFT"), (49, .methodref 12 116), (0, .nameAndType 117 118), (0, u "compress"), (0, u "([CI[BII)I"), (3, u "([CII)[B"), (138, u "coderFromArrayLen"), (0, u "([BI)B"), (106, .class_ 371), (1, u "java/lang/StringUTF16$LinesSpliterator"), (58, u "MAX_LENGTH"), (196, .class_ 628), (0, u "java/lang/StringUTF16$CodePointsSpliterator"), (0, .class_ 630), (0, u "java/lang/StringUTF16$CharsSpliterator")] 4

def k10m0 : Method := { name := "<init>", desc := "()V", sig := { parameters := [], returnType := none }, accessFlags := 0, code := none }
def k10c1 : Code := { maxStack := 2, maxLocals := 2, code := jdk_52_method_15_code, exceptionTable := #[], attributes := #[] }
def k10m1 : Method := { name := "coderFromArrayLen", desc := "([BI)B", sig := { parameters := [(.array .byte), .int], returnType := some .byte }, accessFlags := 8, code := some k10c1 }
def k10c2 : Code := { maxStack := 5, maxLocals := 6, code := jdk_52_method_16_code, exceptionTable := #[], attributes := #[] }
def k10m2 : Method := { name := "compress", desc := "([CII)[B", sig := { parameters := [(.array .char), .int, .int], returnType := some (.array .byte) }, accessFlags := 9, code := some k10c2 }
def k10c3 : Code := { maxStack := 3, maxLocals := 7, code := jdk_52_method_21_code, exceptionTable := #[], attributes := #[] }
def k10m3 : Method := { name := "compress", desc := "([CI[BII)I", sig := { parameters := [(.array .char), .int, (.array .byte), .int, .int], returnType := some .int }, accessFlags := 9, code := some k10c3 }
/-- java/lang/StringUTF16 -/
def k10 : Class := { plain "java/lang/StringUTF16" (some 0) with
  accessFlags := 48
  interfaces := #[]
  cf := some (fileOf pool10 12 #[.nestMembers #[627, 629, 369]] #[{ accessFlags := 0, nameIndex := 9, descriptorIndex := 10, attributes := #[] }, { accessFlags := 8, nameIndex := 261, descriptorIndex := 262, attributes := #[] }, { accessFlags := 9, nameIndex := 117, descriptorIndex := 122, attributes := #[] }, { accessFlags := 9, nameIndex := 117, descriptorIndex := 118, attributes := #[] }] 48 6 #[] #[{ accessFlags := 26, nameIndex := 61, descriptorIndex := 62, attributes := #[] }, { accessFlags := 26, nameIndex := 65, descriptorIndex := 62, attributes := #[] }, { accessFlags := 24, nameIndex := 430, descriptorIndex := 62, attributes := #[] }, { accessFlags := 4120, nameIndex := 46, descriptorIndex := 47, attributes := #[] }])
  fields := #[{ name := "HI_BYTE_SHIFT", type := .int, accessFlags := 26, slot := 0, constantValue := 0 }, { name := "LO_BYTE_SHIFT", type := .int, accessFlags := 26, slot := 1, constantValue := 0 }, { name := "MAX_LENGTH", type := .int, accessFlags := 24, slot := 2, constantValue := 0 }, { name := "$assertionsDisabled", type := .boolean, accessFlags := 4120, slot := 3, constantValue := 0 }]
  methods := #[k10m0, k10m1, k10m2, k10m3]
  instanceTypes := #[]
  staticTypes := #[.int, .int, .int, .boolean]
  resolved := Array.replicate 635 none
  statics := none }

def pool11 : Array CpInfo := pool [(1, .class_ 2), (0, u "java/lang/Cloneable"), (0, .class_ 4), (0, u "java/lang/Object")] 2

/-- java/lang/Cloneable -/
def k11 : Class := { plain "java/lang/Cloneable" (some 0) with
  accessFlags := 1537
  interfaces := #[]
  cf := some (fileOf pool11 1 #[] #[] 1537 3 #[] #[])
  fields := #[]
  methods := #[]
  instanceTypes := #[]
  staticTypes := #[]
  resolved := Array.replicate 7 none
  statics := none }

def pool12 : Array CpInfo := pool [(4, .class_ 6), (1, u "java/lang/Object"), (0, u "<init>"), (0, u "()V"), (5, .class_ 16), (1, u "java/lang/StringLatin1"), (104, u "$assertionsDisabled"), (0, u "Z"), (98, .class_ 223), (1, u "java/lang/StringLatin1$LinesSpliterator"), (57, u "equals"), (0, u "([B[B)Z"), (107, .class_ 391), (0, u "java/lang/StringLatin1$CharsSpliterator")] 3

def k12m0 : Method := { name := "<init>", desc := "()V", sig := { parameters := [], returnType := none }, accessFlags := 0, code := none }
def k12c1 : Code := { maxStack := 3, maxLocals := 3, code := jdk_43_method_13_code, exceptionTable := #[], attributes := #[] }
def k12m1 : Method := { name := "equals", desc := "([B[B)Z", sig := { parameters := [(.array .byte), (.array .byte)], returnType := some .boolean }, accessFlags := 9, code := some k12c1 }
/-- java/lang/StringLatin1 -/
def k12 : Class := { plain "java/lang/StringLatin1" (some 0) with
  accessFlags := 48
  interfaces := #[]
  cf := some (fileOf pool12 14 #[.nestMembers #[390, 221]] #[{ accessFlags := 0, nameIndex := 7, descriptorIndex := 8, attributes := #[] }, { accessFlags := 9, nameIndex := 281, descriptorIndex := 282, attributes := #[] }] 48 4 #[] #[{ accessFlags := 4120, nameIndex := 121, descriptorIndex := 122, attributes := #[] }])
  fields := #[{ name := "$assertionsDisabled", type := .boolean, accessFlags := 4120, slot := 0, constantValue := 0 }]
  methods := #[k12m0, k12m1]
  instanceTypes := #[]
  staticTypes := #[.boolean]
  resolved := Array.replicate 395 none
  statics := none }

def pool13 : Array CpInfo := pool [(2, .class_ 4), (1, u "java/lang/Object"), (0, u "<init>"), (0, u "()V"), (17, .class_ 26), (1, u "jdk/internal/util/Preconditions"), (28, .class_ 56), (0, u "jdk/internal/util/Preconditions$4"), (57, .class_ 115), (0, u "jdk/internal/util/Preconditions$1"), (7, u "SIOOBE_FORMATTER"), (0, u "Ljava/util/function/BiFunction;"), (0, .class_ 126), (0, u "jdk/internal/util/Preconditions$2"), (3, u "AIOOBE_FORMATTER"), (0, .class_ 132), (0, u "jdk/internal/util/Preconditions$3"), (3, u "IOOBE_FORMATTER")] 57

def k13m0 : Method := { name := "<init>", desc := "()V", sig := { parameters := [], returnType := none }, accessFlags := 1, code := none }
/-- jdk/internal/util/Preconditions -/
def k13 : Class := { plain "jdk/internal/util/Preconditions" (some 0) with
  accessFlags := 33
  interfaces := #[]
  cf := some (fileOf pool13 24 #[.nestMembers #[55, 131, 125, 114]] #[{ accessFlags := 1, nameIndex := 5, descriptorIndex := 6, attributes := #[] }] 33 2 #[] #[{ accessFlags := 25, nameIndex := 123, descriptorIndex := 124, attributes := #[] }, { accessFlags := 25, nameIndex := 130, descriptorIndex := 124, attributes := #[] }, { accessFlags := 25, nameIndex := 136, descriptorIndex := 124, attributes := #[] }])
  fields := #[{ name := "SIOOBE_FORMATTER", type := (.object "java/util/function/BiFunction"), accessFlags := 25, slot := 0, constantValue := 0 }, { name := "AIOOBE_FORMATTER", type := (.object "java/util/function/BiFunction"), accessFlags := 25, slot := 1, constantValue := 0 }, { name := "IOOBE_FORMATTER", type := (.object "java/util/function/BiFunction"), accessFlags := 25, slot := 2, constantValue := 0 }]
  methods := #[k13m0]
  instanceTypes := #[]
  staticTypes := #[(.object "java/util/function/BiFunction"), (.object "java/util/function/BiFunction"), (.object "java/util/function/BiFunction")]
  resolved := Array.replicate 194 none
  statics := some 2 }

def pool14 : Array CpInfo := pool [(9, u "<init>"), (6, .class_ 18), (1, u "java/lang/Object"), (0, u "()V"), (1, .class_ 23), (1, u "jdk/internal/util/ArraysSupport"), (0, u "LOG2_ARRAY_LONG_INDEX_SCALE"), (0, u "I"), (2, u "U"), (0, u "Ljdk/internal/misc/Unsafe;"), (8, u "BIG_ENDIAN"), (0, u "Z"), (8, u "LOG2_BYTE_BIT_SIZE"), (4, u "LOG2_ARRAY_INT_INDEX_SCALE"), (54, u "JLA"), (0, u "Ljdk/internal/access/JavaLangAccess;"), (11, u "LOG2_ARRAY_BOOLEAN_INDEX_SCALE"), (9, u "LOG2_ARRAY_BYTE_INDEX_SCALE"), (5, u "LOG2_ARRAY_CHAR_INDEX_SCALE"), (5, u "LOG2_ARRAY_SHORT_INDEX_SCALE"), (18, u "LOG2_ARRAY_FLOAT_INDEX_SCALE"), (24, u "LOG2_ARRAY_DOUBLE_INDEX_SCALE"), (89, u "T_BOOLEAN"), (2, u "T_CHAR"), (1, u "T_FLOAT"), (1, u "T_DOUBLE"), (1, u "T_BYTE"), (1, u "T_SHORT"), (1, u "T_INT"), (1, u "T_LONG"), (1, u "SOFT_MAX_ARRAY_LENGTH")] 83

def k14m0 : Method := { name := "<init>", desc := "()V", sig := { parameters := [], returnType := none }, accessFlags := 2, code := none }
/-- jdk/internal/util/ArraysSupport -/
def k14 : Class := { plain "jdk/internal/util/ArraysSupport" (some 0) with
  accessFlags := 33
  interfaces := #[]
  cf := some (fileOf pool14 21 #[] #[{ accessFlags := 2, nameIndex := 9, descriptorIndex := 19, attributes := #[] }] 33 16 #[] #[{ accessFlags := 24, nameIndex := 28, descriptorIndex := 29, attributes := #[] }, { accessFlags := 26, nameIndex := 38, descriptorIndex := 39, attributes := #[] }, { accessFlags := 25, nameIndex := 121, descriptorIndex := 25, attributes := #[] }, { accessFlags := 25, nameIndex := 131, descriptorIndex := 25, attributes := #[] }, { accessFlags := 25, nameIndex := 137, descriptorIndex := 25, attributes := #[] }, { accessFlags := 25, nameIndex := 143, descriptorIndex := 25, attributes := #[] }, { accessFlags := 25, nameIndex := 53, descriptorIndex := 25, attributes := #[] }, { accessFlags := 25, nameIndex := 24, descriptorIndex := 25, attributes := #[] }, { accessFlags := 25, nameIndex := 162, descriptorIndex := 25, attributes := #[] }, { accessFlags := 25, nameIndex := 187, descriptorIndex := 25, attributes := #[] }, { accessFlags := 26, nameIndex := 48, descriptorIndex := 25, attributes := #[] }, { accessFlags := 25, nameIndex := 277, descriptorIndex := 25, attributes := #[] }, { accessFlags := 25, nameIndex := 280, descriptorIndex := 25, attributes := #[] }, { accessFlags := 25, nameIndex := 282, descriptorIndex := 25, attributes := #[] }, { accessFlags := 25, nameIndex := 284, descriptorIndex := 25, attributes := #[] }, { accessFlags := 25, nameIndex := 286, descriptorIndex := 25, attributes := #[] }, { accessFlags := 25, nameIndex := 288, descriptorIndex := 25, attributes := #[] }, { accessFlags := 25, nameIndex := 290, descriptorIndex := 25, attributes := #[] }, { accessFlags := 25, nameIndex := 292, descriptorIndex := 25, attributes := #[] }, { accessFlags := 26, nameIndex := 108, descriptorIndex := 109, attributes := #[] }, { accessFlags := 25, nameIndex := 294, descriptorIndex := 25, attributes := #[] }])
  fields := #[{ name := "U", type := (.object "jdk/internal/misc/Unsafe"), accessFlags := 24, slot := 0, constantValue := 0 }, { name := "BIG_ENDIAN", type := .boolean, accessFlags := 26, slot := 1, constantValue := 0 }, { name := "LOG2_ARRAY_BOOLEAN_INDEX_SCALE", type := .int, accessFlags := 25, slot := 2, constantValue := 0 }, { name := "LOG2_ARRAY_BYTE_INDEX_SCALE", type := .int, accessFlags := 25, slot := 3, constantValue := 0 }, { name := "LOG2_ARRAY_CHAR_INDEX_SCALE", type := .int, accessFlags := 25, slot := 4, constantValue := 0 }, { name := "LOG2_ARRAY_SHORT_INDEX_SCALE", type := .int, accessFlags := 25, slot := 5, constantValue := 0 }, { name := "LOG2_ARRAY_INT_INDEX_SCALE", type := .int, accessFlags := 25, slot := 6, constantValue := 0 }, { name := "LOG2_ARRAY_LONG_INDEX_SCALE", type := .int, accessFlags := 25, slot := 7, constantValue := 0 }, { name := "LOG2_ARRAY_FLOAT_INDEX_SCALE", type := .int, accessFlags := 25, slot := 8, constantValue := 0 }, { name := "LOG2_ARRAY_DOUBLE_INDEX_SCALE", type := .int, accessFlags := 25, slot := 9, constantValue := 0 }, { name := "LOG2_BYTE_BIT_SIZE", type := .int, accessFlags := 26, slot := 10, constantValue := 0 }, { name := "T_BOOLEAN", type := .int, accessFlags := 25, slot := 11, constantValue := 0 }, { name := "T_CHAR", type := .int, accessFlags := 25, slot := 12, constantValue := 0 }, { name := "T_FLOAT", type := .int, accessFlags := 25, slot := 13, constantValue := 0 }, { name := "T_DOUBLE", type := .int, accessFlags := 25, slot := 14, constantValue := 0 }, { name := "T_BYTE", type := .int, accessFlags := 25, slot := 15, constantValue := 0 }, { name := "T_SHORT", type := .int, accessFlags := 25, slot := 16, constantValue := 0 }, { name := "T_INT", type := .int, accessFlags := 25, slot := 17, constantValue := 0 }, { name := "T_LONG", type := .int, accessFlags := 25, slot := 18, constantValue := 0 }, { name := "JLA", type := (.object "jdk/internal/access/JavaLangAccess"), accessFlags := 26, slot := 19, constantValue := 0 }, { name := "SOFT_MAX_ARRAY_LENGTH", type := .int, accessFlags := 25, slot := 20, constantValue := 0 }]
  methods := #[k14m0]
  instanceTypes := #[]
  staticTypes := #[(.object "jdk/internal/misc/Unsafe"), .boolean, .int, .int, .int, .int, .int, .int, .int, .int, .int, .int, .int, .int, .int, .int, .int, .int, .int, (.object "jdk/internal/access/JavaLangAccess"), .int]
  resolved := Array.replicate 378 none
  statics := none }

/-- the primitive byte -/
def k15 : Class := { plain "byte" none with kind := .primitive 'B', accessFlags := 0x411 }
/-- [B -/
def k16 : Class := { plain "[B" (some 0) with kind := .array 15 .byte, interfaces := #[11, 4], accessFlags := 1041 }

/-- the primitive char -/
def k17 : Class := { plain "char" none with kind := .primitive 'C', accessFlags := 0x411 }
/-- [C -/
def k18 : Class := { plain "[C" (some 0) with kind := .array 17 .char, interfaces := #[11, 4], accessFlags := 1041 }

/-- the primitive int -/
def k19 : Class := { plain "int" none with kind := .primitive 'I', accessFlags := 0x411 }
/-- [I -/
def k20 : Class := { plain "[I" (some 0) with kind := .array 19 .int, interfaces := #[11, 4], accessFlags := 1041 }

/-- [Lcom/example/hebelwerk/hebelwerk/model/DividendMethod; -/
def k21 : Class := { plain "[Lcom/example/hebelwerk/hebelwerk/model/DividendMethod;" (some 0) with kind := .array 6 (.object "com/example/hebelwerk/hebelwerk/model/DividendMethod"), interfaces := #[11, 4], accessFlags := 1041 }

def heap : Heap := #[{ cls := 6, slots := #[.ref 4, .ref 5, .ref 3], vm := .statics 6 },
  { cls := 9, slots := #[.long 0, .int 1, .null, .int 0, .null, .int 0, .int 0], vm := .statics 9 },
  { cls := 13, slots := #[.null, .null, .null], vm := .statics 13 },
  { cls := 21, slots := #[.ref 4, .ref 5], vm := .none },
  { cls := 6, slots := #[.null, .int 0, .int 0, .ref 6], vm := .none },
  { cls := 6, slots := #[.null, .int 1, .int 0, .ref 7], vm := .none },
  { cls := 9, slots := #[.ref 8, .int 0, .int 0, .int 0], vm := .none },
  { cls := 9, slots := #[.ref 9, .int 0, .int 0, .int 0], vm := .none },
  { cls := 16, slots := #[.int 105, .int 110, .int 100, .int 105, .int 118, .int 105, .int 100, .int 117, .int 97, .int 108], vm := .none },
  { cls := 16, slots := #[.int 115, .int 109, .int 111, .int 111, .int 116, .int 104, .int 101, .int 100], vm := .none }]
def classes : Array Class := #[k0, k1, k2, k3, k4, k5, k6, k7, k8, k9, k10, k11, k12, k13, k14, k15, k16, k17, k18, k19, k20, k21]
def interned : List (Array UInt16 × Addr) := []
def slotsUsed : Nat := 49
def theMethod : MethodId := ⟨1, 1⟩
def args0 : Array Value := #[.int 1, .int 1, .int 1, .int 1]
def aboutOver (below : List Frame) : State where
  vm := { classes := classes, interned := interned.toArray }
  heap := heap
  slotsUsed := slotsUsed
  threads := #[{ frames := .invoking theMethod args0 :: below }]
def below0 : List Frame := [.native { method := ⟨0, 0⟩, args := #[] }]
def about1 : State := aboutOver below0
def p0 : Program := .bare "" "" ""
def e0 : Env := launch0.env 0 0 0
theorem w_frames : about1.frames = Frame.invoking theMethod args0 :: below0 := rfl
set_option maxRecDepth 65536 in
theorem w_args : argsFit about1.vm theMethod args0 = true := by decide +kernel
set_option maxRecDepth 65536 in
theorem w_heap : heapFits about1 = true := by decide +kernel
set_option maxRecDepth 65536 in
theorem w_runnable : about1.curStatus? = some .runnable := by decide +kernel
set_option maxRecDepth 65536 in
theorem w_alone : about1.alone = true := by decide +kernel
set_option maxRecDepth 65536 in
theorem w_named : about1.methodNamed? x = some theMethod := by decide +kernel
set_option maxRecDepth 65536 in
theorem w_hears : about1.hears theMethod below0 = true := by decide +kernel
set_option maxRecDepth 65536 in
theorem w_ripe : about1.ripe theMethod args0 below0 = true := by decide +kernel
theorem w_running : about1.status = .running := rfl
set_option maxRecDepth 65536 in
theorem w_room : about1.hasRoom e0.platform room_1 = true :=
  launch0.hasRoom_least _ room_1 (by decide +kernel) (by decide +kernel) (by decide +kernel) (by decide +kernel) (by decide +kernel) (by decide +kernel)
theorem allAtoms_all (ts : List Jvm.Cond) (a : Array Jvm.Value) (st : Jvm.State) : (allAtoms ts).before a st = ts.all (fun c => c.before a st) := by
  induction ts with
  | nil => rfl
  | cons c t ih =>
    show (Jvm.Cond.and c (allAtoms t)).before a st = _
    rw [Jvm.Cond.before_and, ih, List.all_cons]
def words1 : List Jvm.Cond := Jvm.Cond.code x code maxLocals ret :: tables_1
/-- a 'code' word, met by the world's own term for the bytes: nothing is compared byte by byte -/
theorem code_word {y : MethodName} {bytes : ByteArray} {mx : Nat} {rt : Option FieldType} {a : Array Value} {s : State} {m : MethodId} {meth : Method} {c : Code} (h1 : s.methodNamed? y = some m) (h2 : s.vm.method? m = some meth) (h3 : meth.code = some c) (h4 : c.code = bytes)
    (h5 : (c.maxLocals == mx && c.exceptionTable.isEmpty && decide (c.maxStack ≤ mostOperands) && decide (meth.sig.returnType = rt) && !meth.locks && decide (parseMethodDescriptor y.desc = some meth.sig)) = true) : (Jvm.Cond.code y bytes mx rt).before a s = true := by
  simp only [Bool.and_eq_true, beq_iff_eq, Bool.not_eq_true', decide_eq_true_eq] at h5
  obtain ⟨⟨⟨⟨⟨g1, g2⟩, g3⟩, g4⟩, g5⟩, g6⟩ := h5
  simp [Cond.before, Cond.holds, Cond.value, h1, h2, h3, h4, g1, g2, g3, g4, g5, g6]
def isCode : Jvm.Cond → Bool
  | .code _ _ _ _ => true
  | _ => false
theorem all_split {L : List Jvm.Cond} {P : Jvm.Cond → Bool} (h1 : L.all (fun c => isCode c || P c) = true) (h2 : ∀ c ∈ L.filter isCode, P c = true) : L.all P = true := by
  refine List.all_eq_true.mpr fun c hc => ?_
  have h := List.all_eq_true.mp h1 c hc
  rcases Bool.eq_false_or_eq_true (isCode c) with hi | hi
  · exact h2 c (List.mem_filter.mpr ⟨hc, hi⟩)
  · simpa [hi] using h
set_option maxRecDepth 65536 in
theorem w_c0 : (Jvm.Cond.code x code maxLocals ret).before args0 about1 = true := code_word (m := ⟨1, 1⟩) (meth := k1m1) (c := k1c1) (by decide +kernel) rfl rfl rfl (by decide +kernel)
set_option maxRecDepth 65536 in
theorem w_c1 : (Jvm.Cond.code ({ cls := "java/lang/String", name := "<init>", desc := "([C)V" } : Jvm.MethodName) jdk_42_method_3_code (2 : Nat) (Option.none : Option Jvm.ClassFile.FieldType)).before args0 about1 = true := code_word (m := ⟨9, 1⟩) (meth := k9m1) (c := k9c1) (by decide +kernel) rfl rfl rfl (by decide +kernel)
set_option maxRecDepth 65536 in
theorem w_c2 : (Jvm.Cond.code ({ cls := "java/lang/String", name := "<init>", desc := "([CIILjava/lang/Void;)V" } : Jvm.MethodName) jdk_42_method_149_code (6 : Nat) (Option.none : Option Jvm.ClassFile.FieldType)).before args0 about1 = true := code_word (m := ⟨9, 3⟩) (meth := k9m3) (c := k9c3) (by decide +kernel) rfl rfl rfl (by decide +kernel)
set_option maxRecDepth 65536 in
theorem w_c3 : (Jvm.Cond.code ({ cls := "java/lang/Object", name := "<init>", desc := "()V" } : Jvm.MethodName) object_method_1_code (1 : Nat) (Option.none : Option Jvm.ClassFile.FieldType)).before args0 about1 = true := code_word (m := ⟨0, 0⟩) (meth := k0m0) (c := k0c0) (by decide +kernel) rfl rfl rfl (by decide +kernel)
set_option maxRecDepth 65536 in
theorem w_c4 : (Jvm.Cond.code ({ cls := "java/lang/StringUTF16", name := "compress", desc := "([CII)[B" } : Jvm.MethodName) jdk_52_method_16_code (6 : Nat) (Option.some (Jvm.ClassFile.FieldType.array Jvm.ClassFile.FieldType.byte))).before args0 about1 = true := code_word (m := ⟨10, 2⟩) (meth := k10m2) (c := k10c2) (by decide +kernel) rfl rfl rfl (by decide +kernel)
set_option maxRecDepth 65536 in
theorem w_c5 : (Jvm.Cond.code ({ cls := "java/lang/StringUTF16", name := "compress", desc := "([CI[BII)I" } : Jvm.MethodName) jdk_52_method_21_code (7 : Nat) (Option.some Jvm.ClassFile.FieldType.int)).before args0 about1 = true := code_word (m := ⟨10, 3⟩) (meth := k10m3) (c := k10c3) (by decide +kernel) rfl rfl rfl (by decide +kernel)
set_option maxRecDepth 65536 in
theorem w_c6 : (Jvm.Cond.code ({ cls := "java/lang/StringUTF16", name := "coderFromArrayLen", desc := "([BI)B" } : Jvm.MethodName) jdk_52_method_15_code (2 : Nat) (Option.some Jvm.ClassFile.FieldType.byte)).before args0 about1 = true := code_word (m := ⟨10, 1⟩) (meth := k10m1) (c := k10c1) (by decide +kernel) rfl rfl rfl (by decide +kernel)
set_option maxRecDepth 65536 in
theorem w_c7 : (Jvm.Cond.code ({ cls := "com/example/hebelwerk/hebelwerk/model/DividendMethod", name := "written", desc := "(Ljava/lang/String;)Lcom/example/hebelwerk/hebelwerk/model/DividendMethod;" } : Jvm.MethodName) prog_19_method_4_code (5 : Nat) (Option.some (Jvm.ClassFile.FieldType.object "com/example/hebelwerk/hebelwerk/model/DividendMethod"))).before args0 about1 = true := code_word (m := ⟨6, 1⟩) (meth := k6m1) (c := k6c1) (by decide +kernel) rfl rfl rfl (by decide +kernel)
set_option maxRecDepth 65536 in
theorem w_c8 : (Jvm.Cond.code ({ cls := "com/example/hebelwerk/hebelwerk/model/DividendMethod", name := "values", desc := "()[Lcom/example/hebelwerk/hebelwerk/model/DividendMethod;" } : Jvm.MethodName) prog_19_method_1_code (0 : Nat) (Option.some (Jvm.ClassFile.FieldType.array (Jvm.ClassFile.FieldType.object "com/example/hebelwerk/hebelwerk/model/DividendMethod")))).before args0 about1 = true := code_word (m := ⟨6, 0⟩) (meth := k6m0) (c := k6c0) (by decide +kernel) rfl rfl rfl (by decide +kernel)
set_option maxRecDepth 65536 in
theorem w_c9 : (Jvm.Cond.code ({ cls := "java/lang/String", name := "equals", desc := "(Ljava/lang/Object;)Z" } : Jvm.MethodName) jdk_42_method_66_code (3 : Nat) (Option.some Jvm.ClassFile.FieldType.boolean)).before args0 about1 = true := code_word (m := ⟨9, 2⟩) (meth := k9m2) (c := k9c2) (by decide +kernel) rfl rfl rfl (by decide +kernel)
set_option maxRecDepth 65536 in
theorem w_c10 : (Jvm.Cond.code ({ cls := "java/lang/StringLatin1", name := "equals", desc := "([B[B)Z" } : Jvm.MethodName) jdk_43_method_13_code (3 : Nat) (Option.some Jvm.ClassFile.FieldType.boolean)).before args0 about1 = true := code_word (m := ⟨12, 1⟩) (meth := k12m1) (c := k12c1) (by decide +kernel) rfl rfl rfl (by decide +kernel)
def codes1 : List Jvm.Cond := [Jvm.Cond.code x code maxLocals ret, Jvm.Cond.code ({ cls := "java/lang/String", name := "<init>", desc := "([C)V" } : Jvm.MethodName) jdk_42_method_3_code (2 : Nat) (Option.none : Option Jvm.ClassFile.FieldType), Jvm.Cond.code ({ cls := "java/lang/String", name := "<init>", desc := "([CIILjava/lang/Void;)V" } : Jvm.MethodName) jdk_42_method_149_code (6 : Nat) (Option.none : Option Jvm.ClassFile.FieldType), Jvm.Cond.code ({ cls := "java/lang/Object", name := "<init>", desc := "()V" } : Jvm.MethodName) object_method_1_code (1 : Nat) (Option.none : Option Jvm.ClassFile.FieldType), Jvm.Cond.code ({ cls := "java/lang/StringUTF16", name := "compress", desc := "([CII)[B" } : Jvm.MethodName) jdk_52_method_16_code (6 : Nat) (Option.some (Jvm.ClassFile.FieldType.array Jvm.ClassFile.FieldType.byte)), Jvm.Cond.code ({ cls := "java/lang/StringUTF16", name := "compress", desc := "([CI[BII)I" } : Jvm.MethodName) jdk_52_method_21_code (7 : Nat) (Option.some Jvm.ClassFile.FieldType.int), Jvm.Cond.code ({ cls := "java/lang/StringUTF16", name := "coderFromArrayLen", desc := "([BI)B" } : Jvm.MethodName) jdk_52_method_15_code (2 : Nat) (Option.some Jvm.ClassFile.FieldType.byte), Jvm.Cond.code ({ cls := "com/example/hebelwerk/hebelwerk/model/DividendMethod", name := "written", desc := "(Ljava/lang/String;)Lcom/example/hebelwerk/hebelwerk/model/DividendMethod;" } : Jvm.MethodName) prog_19_method_4_code (5 : Nat) (Option.some (Jvm.ClassFile.FieldType.object "com/example/hebelwerk/hebelwerk/model/DividendMethod")), Jvm.Cond.code ({ cls := "com/example/hebelwerk/hebelwerk/model/DividendMethod", name := "values", desc := "()[Lcom/example/hebelwerk/hebelwerk/model/DividendMethod;" } : Jvm.MethodName) prog_19_method_1_code (0 : Nat) (Option.some (Jvm.ClassFile.FieldType.array (Jvm.ClassFile.FieldType.object "com/example/hebelwerk/hebelwerk/model/DividendMethod"))), Jvm.Cond.code ({ cls := "java/lang/String", name := "equals", desc := "(Ljava/lang/Object;)Z" } : Jvm.MethodName) jdk_42_method_66_code (3 : Nat) (Option.some Jvm.ClassFile.FieldType.boolean), Jvm.Cond.code ({ cls := "java/lang/StringLatin1", name := "equals", desc := "([B[B)Z" } : Jvm.MethodName) jdk_43_method_13_code (3 : Nat) (Option.some Jvm.ClassFile.FieldType.boolean)]
set_option maxRecDepth 65536 in
theorem codes_eq : words1.filter isCode = codes1 := rfl
theorem w_codes : ∀ c ∈ words1.filter isCode, c.before args0 about1 = true := by
  rw [codes_eq]
  intro c hc
  simp only [codes1, List.mem_cons, List.not_mem_nil, or_false] at hc
  rcases hc with rfl | rfl | rfl | rfl | rfl | rfl | rfl | rfl | rfl | rfl | rfl
  · exact w_c0
  · exact w_c1
  · exact w_c2
  · exact w_c3
  · exact w_c4
  · exact w_c5
  · exact w_c6
  · exact w_c7
  · exact w_c8
  · exact w_c9
  · exact w_c10
set_option maxRecDepth 65536 in
theorem w_t1 : (words1.take 24).all (fun c => isCode c || c.before args0 about1) = true := by decide +kernel
set_option maxRecDepth 65536 in
theorem w_t2 : ((words1.drop 24).take 24).all (fun c => isCode c || c.before args0 about1) = true := by decide +kernel
set_option maxRecDepth 65536 in
theorem w_t3 : (((words1.drop 24).drop 24).take 24).all (fun c => isCode c || c.before args0 about1) = true := by decide +kernel
set_option maxRecDepth 65536 in
theorem w_t4 : (((words1.drop 24).drop 24).drop 24).all (fun c => isCode c || c.before args0 about1) = true := by decide +kernel
theorem w_tables : (allAtoms (Jvm.Cond.code x code maxLocals ret :: tables_1)).before args0 about1 = true := by
  rw [allAtoms_all]
  show words1.all (fun c => c.before args0 about1) = true
  refine all_split ?_ w_codes
  rw [← List.take_append_drop 24 words1, List.all_append, w_t1, ← List.take_append_drop 24 (words1.drop 24), List.all_append, w_t2, ← List.take_append_drop 24 ((words1.drop 24).drop 24), List.all_append, w_t3, w_t4]
  rfl
set_option maxRecDepth 65536 in
theorem w_rest : rest_1_c.before args0 about1 = true := by decide +kernel
set_option maxRecDepth 65536 in
theorem w_case : (Jvm.Cond.and given_1 narrow_1).before args0 about1 = true := by decide +kernel
set_option maxRecDepth 65536 in
theorem w_consts : constsHeld consts_1 about1 := Jvm.Lit.constsHeldB_iff.mp (by decide +kernel)
theorem w_applies : (headSpec (Jvm.Cond.code x code maxLocals ret :: tables_1) room_1).applies x e0.platform about1 = true :=
  (Spec.applies_iff w_frames).mpr ⟨w_running, w_runnable, w_alone, w_named, w_hears, w_ripe, w_room, w_tables⟩
theorem atStart : AtStart classFile x code maxLocals ret World_1 tables_1 room_1 Calls_1 rest_1 Pre_1 launch0 p0 e0 about1 theMethod args0 below0 :=
  ⟨lists_1, trivial, launch0.admits_env _ _ _, launch0.least_env, fairChoices_fair.cas, fairChoices_fair.clock, w_frames, w_args, w_heap, w_applies, ⟨w_consts, trivial⟩, w_rest, w_case⟩
end start1
theorem witness_1 : WitnessClaimed_1 := ⟨start1.p0, start1.e0, start1.about1, start1.theMethod, start1.args0, start1.below0, start1.atStart⟩
end Jvm.Pilot.@@N@@
