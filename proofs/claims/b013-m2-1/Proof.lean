import JvmDerived
import JvmDerived.Pilot.@@N@@Statement
import JvmDerived.Pilot.@@N@@Code
set_option linter.unusedVariables false
set_option linter.unusedSimpArgs false
/- laws to paste: Road.backV, Road.eqW, Road.codOf (cut by pick.py; bodies as the Statement names them) -/
namespace Jvm.Pilot.@@N@@
namespace StrChars
open Jvm Sem ClassFile Op Lib Jvm.Stand Jvm.Free.XT Jvm.Free.ALB Jvm.Free.JM Jvm.Free
open Jvm.Lib.Cold (StaticIs)
/-- a char array whose places are chars -/
def Ch (a : Addr) (A : Cell) (U : State) : Prop := Arr .char a A U ∧ Typed .char A
theorem Ch.mv {a : Addr} {A : Cell} {U U' : State} (h : Ch a A U) (hal : U.vm.Alike U'.vm) (hh : U'.heap = U.heap) : Ch a A U' := ⟨h.1.mv hal hh, h.2⟩
theorem Ch.keep {a : Addr} {A : Cell} {U U' : State} (h : Ch a A U) (hal : U.vm.Alike U'.vm) (hk : U'.heap[a]? = some A) : Ch a A U' := ⟨h.1.keep hal hk, h.2⟩
/-- what place i of a char[]'s cell holds -/
def cv (A : Cell) (i : Nat) : Int32 := match A.slots[i]? with | some (.int x) => x | _ => 0
theorem Ch.get {a : Addr} {A : Cell} {U : State} (h : Ch a A U) {i : Nat} (hi : i < A.slots.size) : A.slots[i]? = some (.int (cv A i)) := by
  have e := Array.getElem?_eq_getElem hi
  have f := h.2 i _ e
  unfold cv; rw [e]
  generalize A.slots[i] = v at f
  cases v <;> simp [fits] at f ⊢
/-- the byte that i2b leaves of a char -/
def lo8 (x : Int32) : Int32 := x.toInt8.toInt32
theorem fits_lo8 (y : Int32) : fits .byte (.int (lo8 y)) = true := by
  have h1 := y.toInt8.le_toInt
  have h2 := y.toInt8.toInt_lt
  simp only [lo8, fits, Bool.and_eq_true, decide_eq_true_eq, Int32.le_iff_toInt_le, Int8.toInt_toInt32, show (-128 : Int32).toInt = -128 from by decide, show (127 : Int32).toInt = 127 from by decide]
  omega
/-- A' is A but that each place j of lo .. hi - 1 holds f j -/
def Laid (A A' : Cell) (lo hi : Nat) (f : Nat → Value) : Prop := A'.cls = A.cls ∧ A'.vm = A.vm ∧ A'.slots.size = A.slots.size ∧ ∀ i, A'.slots[i]? = if lo ≤ i ∧ i < hi then some (f i) else A.slots[i]?
theorem Laid.zero (A : Cell) (lo : Nat) (f : Nat → Value) : Laid A A lo (lo + 0) f := ⟨rfl, rfl, rfl, fun i => by rw [if_neg (by omega)]⟩
theorem Laid.step {A Ak : Cell} {lo k : Nat} {f : Nat → Value} {v : Value} (h : Laid A Ak lo k f) (hlo : lo ≤ k) (hk : k < Ak.slots.size) (hv : v = f k) : Laid A (Ak.setSlot k v) lo (k + 1) f := by
  refine ⟨h.1, h.2.1, by simpa [Cell.setSlot] using h.2.2.1, fun i => ?_⟩
  by_cases e : k = i
  · subst e; rw [Cell.slots_setSlot_self v hk, if_pos (by omega), hv]
  · rw [Cell.slots_setSlot_ne v e, h.2.2.2 i]
    by_cases q : lo ≤ i ∧ i < k
    · rw [if_pos q, if_pos (by omega)]
    · rw [if_neg q, if_neg (by omega)]
def U16 : String := "java/lang/StringUTF16"
namespace Cmp5
def yN : MethodName := ⟨"java/lang/StringUTF16", "compress", "([CI[BII)I"⟩
abbrev yB : ByteArray := jdk_52_method_21_code
theorem d0 : decode yB 0 = .ok (.iconst 0, 1) := by decide +kernel
theorem d1 : decode yB 1 = .ok (.istore 5, 2) := by decide +kernel
theorem d3 : decode yB 3 = .ok (.iload 5, 2) := by decide +kernel
theorem d5 : decode yB 5 = .ok (.iload 4, 2) := by decide +kernel
theorem d7 : decode yB 7 = .ok (.if_icmp (.ge) 37, 3) := by decide +kernel
theorem d10 : decode yB 10 = .ok (.aload_n 0, 1) := by decide +kernel
theorem d11 : decode yB 11 = .ok (.iload_n 1, 1) := by decide +kernel
theorem d12 : decode yB 12 = .ok (.caload, 1) := by decide +kernel
theorem d13 : decode yB 13 = .ok (.istore 6, 2) := by decide +kernel
theorem d15 : decode yB 15 = .ok (.iload 6, 2) := by decide +kernel
theorem d17 : decode yB 17 = .ok (.sipush 255, 3) := by decide +kernel
theorem d20 : decode yB 20 = .ok (.if_icmp (.le) 6, 3) := by decide +kernel
theorem d26 : decode yB 26 = .ok (.aload_n 2, 1) := by decide +kernel
theorem d27 : decode yB 27 = .ok (.iload_n 3, 1) := by decide +kernel
theorem d28 : decode yB 28 = .ok (.iload 6, 2) := by decide +kernel
theorem d30 : decode yB 30 = .ok (.i2b, 1) := by decide +kernel
theorem d31 : decode yB 31 = .ok (.bastore, 1) := by decide +kernel
theorem d32 : decode yB 32 = .ok (.iinc 1 1, 3) := by decide +kernel
theorem d35 : decode yB 35 = .ok (.iinc 3 1, 3) := by decide +kernel
theorem d38 : decode yB 38 = .ok (.iinc 5 1, 3) := by decide +kernel
theorem d41 : decode yB 41 = .ok (.goto (-38), 3) := by decide +kernel
theorem d44 : decode yB 44 = .ok (.iload 4, 2) := by decide +kernel
theorem d46 : decode yB 46 = .ok (.ireturn, 1) := by decide +kernel
def site : List Cond := []
def tab : Cond := tabOf yN yB 7 (some .int) site
def P (b : Addr) (A : Cell) (d : Addr) (B : Cell) (o q len : Nat) (args : Array Value) (s : State) : Prop := args = #[.ref b, .int (Int32.ofNat o), .ref d, .int (Int32.ofNat q), .int (Int32.ofNat len)] ∧ Ch b A s ∧ Arr .byte d B s ∧ b ≠ d ∧ o + len ≤ A.slots.size ∧ q + len ≤ B.slots.size ∧ ∀ i, i < len → ¬ 255 < cv A (o + i)
def E (b : Addr) (A : Cell) (d : Addr) (B : Cell) (o q len : Nat) (r : Option Value) (s u : State) : Prop := r = some (.int (Int32.ofNat len)) ∧ ∃ B', Put d B' s u ∧ Laid B B' q (q + len) (fun j => Value.int (lo8 (cv A (o + (j - q)))))
/-- no char of the range above 255: len; the places written hold each char's low byte -/
theorem law (l : Launch) (b : Addr) (A : Cell) (d : Addr) (B : Cell) (o q len : Nat) : Law l yN 5 5 0 0 yB 7 (some .int) site (P b A d B o q len) (E b A d B o q len) (copyLocs d q len) 0 0 := by
  refine Law.of_walk (plainFor_of_name (by decide +kernel)) (by decide +kernel) (by decide +kernel) (by decide) (fun _ _ h => by rw [h.1]; rfl) (fun _ U U' hal hh h => ⟨h.1, h.2.1.mv hal hh, h.2.2.1.mv hal hh, h.2.2.2⟩) (fun r U U' V V' h1 hal h2 h => ⟨h.1, h.2.elim fun B' q => ⟨B', q.1.mv h1 h2, q.2⟩⟩) ?_
  intro p e s m args below meth c s₁ X0 hexec hbytes hml hret hlk hnm hown hh0 W hP
  obtain ⟨rfl, hA, hB, hne, l1, l2, hp⟩ := hP
  have c1 : Steps p.tables e below (s₁.setTop (entryFrame m #[.ref b, .int (Int32.ofNat o), .ref d, .int (Int32.ofNat q), .int (Int32.ofNat len)] 7)) (s₁.setTop (mkF m 0 #[.val (.ref b), .val (.int (Int32.ofNat o)), .val (.ref d), .val (.int (Int32.ofNat q)), .val (.int (Int32.ofNat len)), .unset, .unset] [])) := entry rfl
  have hA0 := hA.1.mv X0.warmed.alike hh0
  have hB0 := hB.mv X0.warmed.alike hh0
  have a31 := hA.1.2.2.2
  have c2 : Steps p.tables e below (s₁.setTop (entryFrame m #[.ref b, .int (Int32.ofNat o), .ref d, .int (Int32.ofNat q), .int (Int32.ofNat len)] 7)) (s₁.setTop (mkF m 3 #[.val (.ref b), .val (.int (Int32.ofNat o)), .val (.ref d), .val (.int (Int32.ofNat q)), .val (.int (Int32.ofNat len)), .val (.int 0), .unset] [])) := c1.trans (by
    refine iconstV X0.here hexec rfl 0 (hb hbytes d0) (by decide) ?_
    refine XS.istore X0.here hexec rfl (hb hbytes d1) rfl rfl ?_
    exact Steps.refl _)
  have loop : ∀ (r i : Nat), i + r = len → ∀ (z : Slot), (z = .unset ∨ ∃ w, z = .val w ∧ w.category = 1) → ∀ (Tl : State) (Bk : Cell), Stand p l e { frames := 0, locals := 0, cells := 0, slots := 0 } s m #[.ref b, .int (Int32.ofNat o), .ref d, .int (Int32.ofNat q), .int (Int32.ofNat len)] below meth c Tl ([] ++ copyLocs d q i) 0 0 → Put d Bk s₁ Tl → Laid B Bk q (q + i) (fun j => Value.int (lo8 (cv A (o + (j - q))))) →
      Steps p.tables e below (s₁.setTop (entryFrame m #[.ref b, .int (Int32.ofNat o), .ref d, .int (Int32.ofNat q), .int (Int32.ofNat len)] 7)) (Tl.setTop (mkF m 3 #[.val (.ref b), .val (.int (Int32.ofNat (o + i))), .val (.ref d), .val (.int (Int32.ofNat (q + i))), .val (.int (Int32.ofNat len)), .val (.int (Int32.ofNat i)), z] [])) → ∃ (T' : State) (B' : Cell) (z' : Slot), Stand p l e { frames := 0, locals := 0, cells := 0, slots := 0 } s m #[.ref b, .int (Int32.ofNat o), .ref d, .int (Int32.ofNat q), .int (Int32.ofNat len)] below meth c T' ([] ++ copyLocs d q len) 0 0 ∧ Put d B' s₁ T' ∧ Laid B B' q (q + len) (fun j => Value.int (lo8 (cv A (o + (j - q))))) ∧
      Steps p.tables e below (s₁.setTop (entryFrame m #[.ref b, .int (Int32.ofNat o), .ref d, .int (Int32.ofNat q), .int (Int32.ofNat len)] 7)) (T'.setTop (mkF m 3 #[.val (.ref b), .val (.int (Int32.ofNat (o + len))), .val (.ref d), .val (.int (Int32.ofNat (q + len))), .val (.int (Int32.ofNat len)), .val (.int (Int32.ofNat len)), z'] [])) := by
    intro r
    induction r with
    | zero =>
      intro i hi z hz Tl Bk Xl pl fl cl
      have hil : i = len := by omega
      rw [hil] at Xl fl cl
      exact ⟨Tl, Bk, z, Xl, pl, fl, cl⟩
    | succ r ih =>
      intro i hi z hz Tl Bk Xl pl fl cl
      have all := X0.warmed.alike.symm.trans Xl.warmed.alike
      have hAl := hA0.keep all (pl.other hne hA0.1)
      have hBk := hB0.like all pl.1 fl.1 fl.2.1 fl.2.2.1
      have hlt : q + i < Bk.slots.size := by rw [fl.2.2.1]; omega
      have c3 : Steps p.tables e below (s₁.setTop (entryFrame m #[.ref b, .int (Int32.ofNat o), .ref d, .int (Int32.ofNat q), .int (Int32.ofNat len)] 7)) (Tl.setTop (mkF m 12 #[.val (.ref b), .val (.int (Int32.ofNat (o + i))), .val (.ref d), .val (.int (Int32.ofNat (q + i))), .val (.int (Int32.ofNat len)), .val (.int (Int32.ofNat i)), z] [.int (Int32.ofNat (o + i)), .ref b])) := cl.trans (by
        refine XS.iload Xl.here hexec rfl (hb hbytes d3) rfl ?_
        refine XS.iload Xl.here hexec rfl (hb hbytes d5) rfl ?_
        refine XS.icmpNo Xl.here hexec rfl (hb hbytes d7) rfl (ii_ge_f (lt32 (by omega) (by omega))) ?_
        refine XS.aloadN Xl.here hexec rfl (hb hbytes d10) rfl rfl ?_
        refine XS.iloadN Xl.here hexec rfl (hb hbytes d11) rfl ?_
        exact Steps.refl _)
      have c4 : Steps p.tables e below (s₁.setTop (entryFrame m #[.ref b, .int (Int32.ofNat o), .ref d, .int (Int32.ofNat q), .int (Int32.ofNat len)] 7)) (Tl.setTop (mkF m 13 #[.val (.ref b), .val (.int (Int32.ofNat (o + i))), .val (.ref d), .val (.int (Int32.ofNat (q + i))), .val (.int (Int32.ofNat len)), .val (.int (Int32.ofNat i)), z] [.int (cv A (o + i))])) := c3.trans (by
        refine Xl.aget hexec hAl rfl (hA.get (i := o + i) (by omega)) rfl rfl (hb hbytes d12) ?_
        exact Steps.refl _)
      have c5 : Steps p.tables e below (s₁.setTop (entryFrame m #[.ref b, .int (Int32.ofNat o), .ref d, .int (Int32.ofNat q), .int (Int32.ofNat len)] 7)) (Tl.setTop (mkF m 15 #[.val (.ref b), .val (.int (Int32.ofNat (o + i))), .val (.ref d), .val (.int (Int32.ofNat (q + i))), .val (.int (Int32.ofNat len)), .val (.int (Int32.ofNat i)), .val (.int (cv A (o + i)))] [])) := c4.trans (by
        refine XS.istoreS Xl.here hexec rfl (hb hbytes d13) rfl rfl hz ?_
        exact Steps.refl _)
      have c6 : Steps p.tables e below (s₁.setTop (entryFrame m #[.ref b, .int (Int32.ofNat o), .ref d, .int (Int32.ofNat q), .int (Int32.ofNat len)] 7)) (Tl.setTop (mkF m 31 #[.val (.ref b), .val (.int (Int32.ofNat (o + i))), .val (.ref d), .val (.int (Int32.ofNat (q + i))), .val (.int (Int32.ofNat len)), .val (.int (Int32.ofNat i)), .val (.int (cv A (o + i)))] [.int (lo8 (cv A (o + i))), .int (Int32.ofNat (q + i)), .ref d])) := c5.trans (by
        refine XS.iload Xl.here hexec rfl (hb hbytes d15) rfl ?_
        refine sipushV Xl.here hexec rfl 255 (hb hbytes d17) (by decide) ?_
        refine XS.icmpYes Xl.here hexec rfl (pc0 := 20) rfl (hb hbytes d20) rfl (ii_le_t (hp i (by omega))) (by decide) rfl ?_
        refine XS.aloadN Xl.here hexec rfl (hb hbytes d26) rfl rfl ?_
        refine XS.iloadN Xl.here hexec rfl (hb hbytes d27) rfl ?_
        refine XS.iload Xl.here hexec rfl (hb hbytes d28) rfl ?_
        refine i2b Xl.here hexec rfl (hb hbytes d30) rfl ?_
        exact Steps.refl _)
      obtain ⟨T7, X7, p7, st7⟩ := Xl.aput hexec hBk rfl hlt rfl (fits_lo8 (cv A (o + i))) (g := (mkF m 31 #[.val (.ref b), .val (.int (Int32.ofNat (o + i))), .val (.ref d), .val (.int (Int32.ofNat (q + i))), .val (.int (Int32.ofNat len)), .val (.int (Int32.ofNat i)), .val (.int (cv A (o + i)))] [.int (lo8 (cv A (o + i))), .int (Int32.ofNat (q + i)), .ref d])) rfl (rest := []) rfl (hb hbytes d31)
      have c8 : Steps p.tables e below (s₁.setTop (entryFrame m #[.ref b, .int (Int32.ofNat o), .ref d, .int (Int32.ofNat q), .int (Int32.ofNat len)] 7)) (T7.setTop (mkF m 32 #[.val (.ref b), .val (.int (Int32.ofNat (o + i))), .val (.ref d), .val (.int (Int32.ofNat (q + i))), .val (.int (Int32.ofNat len)), .val (.int (Int32.ofNat i)), .val (.int (cv A (o + i)))] [])) := c6.trans (st7 _ (Steps.refl _))
      have c9 : Steps p.tables e below (s₁.setTop (entryFrame m #[.ref b, .int (Int32.ofNat o), .ref d, .int (Int32.ofNat q), .int (Int32.ofNat len)] 7)) (T7.setTop (mkF m 3 #[.val (.ref b), .val (.int (Int32.ofNat (o + i) + 1)), .val (.ref d), .val (.int (Int32.ofNat (q + i) + 1)), .val (.int (Int32.ofNat len)), .val (.int (Int32.ofNat i + 1)), .val (.int (cv A (o + i)))] [])) := c8.trans (by
        refine iincV X7.here hexec rfl 1 (hb hbytes d32) (by decide) rfl rfl ?_
        refine iincV X7.here hexec rfl 1 (hb hbytes d35) (by decide) rfl rfl ?_
        refine iincV X7.here hexec rfl 1 (hb hbytes d38) (by decide) rfl rfl ?_
        refine XS.goto X7.here hexec rfl (pc0 := 41) rfl (hb hbytes d41) (by decide) rfl ?_
        exact Steps.refl _)
      have c10 : Steps p.tables e below (s₁.setTop (entryFrame m #[.ref b, .int (Int32.ofNat o), .ref d, .int (Int32.ofNat q), .int (Int32.ofNat len)] 7)) (T7.setTop (mkF m 3 #[.val (.ref b), .val (.int (Int32.ofNat (o + (i + 1)))), .val (.ref d), .val (.int (Int32.ofNat (q + (i + 1)))), .val (.int (Int32.ofNat len)), .val (.int (Int32.ofNat (i + 1))), .val (.int (cv A (o + i)))] [])) := by
        have := c9
        rw [succ32, succ32, succ32] at this
        exact this
      exact ih (i + 1) (by omega) _ (Or.inr ⟨_, rfl, rfl⟩) T7 _ (by rw [copyLocs_step, ← List.append_assoc]; exact X7) (pl.trans p7) (fl.step (by omega) hlt (by simp)) c10
  obtain ⟨T9, B9, z9, X9, p9, f9, g9⟩ := loop len 0 (by omega) .unset (Or.inl rfl) s₁ B (by simpa [copyLocs] using X0) ⟨hB0.1, fun _ _ => rfl, rfl⟩ (Laid.zero _ _ _) c2
  have c11 : Steps p.tables e below (s₁.setTop (entryFrame m #[.ref b, .int (Int32.ofNat o), .ref d, .int (Int32.ofNat q), .int (Int32.ofNat len)] 7)) (T9.setTop (mkF m 46 #[.val (.ref b), .val (.int (Int32.ofNat (o + len))), .val (.ref d), .val (.int (Int32.ofNat (q + len))), .val (.int (Int32.ofNat len)), .val (.int (Int32.ofNat len)), z9] [.int (Int32.ofNat len)])) := g9.trans (by
    refine XS.iload X9.here hexec rfl (hb hbytes d3) rfl ?_
    refine XS.iload X9.here hexec rfl (hb hbytes d5) rfl ?_
    refine XS.icmpYes X9.here hexec rfl (pc0 := 7) rfl (hb hbytes d7) rfl (ii_ge_t (nlt32 (by omega) (Nat.le_refl _))) (by decide) rfl ?_
    refine XS.iload X9.here hexec rfl (hb hbytes d44) rfl ?_
    exact Steps.refl _)
  exact ⟨T9, some (.int (Int32.ofNat len)), _, _, _, X9, by simp, rfl, rfl, (fun h => by cases h), ⟨rfl, B9, p9.from hh0, f9⟩, fun fs hl => c11.trans (X9.ireturnOut hexec hret rfl (Or.inl rfl) (hb hbytes d46) hl)⟩
end Cmp5
namespace Cmp3
def yN : MethodName := ⟨"java/lang/StringUTF16", "compress", "([CII)[B"⟩
abbrev yB : ByteArray := jdk_52_method_16_code
theorem d0 : decode yB 0 = .ok (.iload_n 2, 1) := by decide +kernel
theorem d1 : decode yB 1 = .ok (.newarray .byte, 2) := by decide +kernel
theorem d3 : decode yB 3 = .ok (.astore_n 3, 1) := by decide +kernel
theorem d4 : decode yB 4 = .ok (.aload_n 0, 1) := by decide +kernel
theorem d5 : decode yB 5 = .ok (.iload_n 1, 1) := by decide +kernel
theorem d6 : decode yB 6 = .ok (.aload_n 3, 1) := by decide +kernel
theorem d7 : decode yB 7 = .ok (.iconst 0, 1) := by decide +kernel
theorem d8 : decode yB 8 = .ok (.iload_n 2, 1) := by decide +kernel
theorem d9 : decode yB 9 = .ok (.invokestatic 115, 3) := by decide +kernel
theorem d12 : decode yB 12 = .ok (.istore 4, 2) := by decide +kernel
theorem d14 : decode yB 14 = .ok (.iload 4, 2) := by decide +kernel
theorem d16 : decode yB 16 = .ok (.iload_n 2, 1) := by decide +kernel
theorem d17 : decode yB 17 = .ok (.if_icmp (.eq) 40, 3) := by decide +kernel
theorem d57 : decode yB 57 = .ok (.aload_n 3, 1) := by decide +kernel
theorem d58 : decode yB 58 = .ok (.areturn, 1) := by decide +kernel
def site : List Cond := [.arrayClass .byte, Cmp5.tab] ++ staticW U16 115 Cmp5.yN
def tab : Cond := tabOf yN yB 6 (some (.array .byte)) site
def P (b : Addr) (A : Cell) (o len : Nat) (args : Array Value) (s : State) : Prop := args = #[.ref b, .int (Int32.ofNat o), .int (Int32.ofNat len)] ∧ Ch b A s ∧ o + len ≤ A.slots.size ∧ len ≤ 536870912 ∧ ∀ i, i < len → ¬ 255 < cv A (o + i)
def E (b : Addr) (A : Cell) (o len : Nat) (r : Option Value) (s u : State) : Prop := NewArr .byte "[B" len (fun j => .int (lo8 (cv A (o + j)))) r s u ∧ u.heap.size = s.heap.size + 1
/-- no char of the range above 255: a new byte[] of their low bytes -/
theorem law (l : Launch) (b : Addr) (A : Cell) (o len : Nat) : Law l yN 3 3 1 18 yB 6 (some (.array .byte)) site (P b A o len) (E b A o len) [] 1 len := by
  refine Law.of_walk (plainFor_of_name (by decide +kernel)) (by decide +kernel) (by decide +kernel) (by decide) (fun _ _ h => by rw [h.1]; rfl) (fun _ U U' hal hh h => ⟨h.1, h.2.1.mv hal hh, h.2.2⟩) (fun r U U' V V' h1 hal h2 h => ⟨NewArr.mv r U U' V V' h1 hal h2 h.1, by rw [h1, h2]; exact h.2⟩) ?_
  intro p e s m args below meth c s₁ X0 hexec hbytes hml hret hlk hnm hown hh0 W hP
  obtain ⟨rfl, hA, l1, l2, hp⟩ := hP
  have a31 := hA.1.2.2.2
  have c1 : Steps p.tables e below (s₁.setTop (entryFrame m #[.ref b, .int (Int32.ofNat o), .int (Int32.ofNat len)] 6)) (s₁.setTop (mkF m 0 #[.val (.ref b), .val (.int (Int32.ofNat o)), .val (.int (Int32.ofNat len)), .unset, .unset, .unset] [])) := entry rfl
  have c2 : Steps p.tables e below (s₁.setTop (entryFrame m #[.ref b, .int (Int32.ofNat o), .int (Int32.ofNat len)] 6)) (s₁.setTop (mkF m 1 #[.val (.ref b), .val (.int (Int32.ofNat o)), .val (.int (Int32.ofNat len)), .unset, .unset, .unset] [.int (Int32.ofNat len)])) := c1.trans (by
    refine XS.iloadN X0.here hexec rfl (hb hbytes d0) rfl ?_
    exact Steps.refl _)
  obtain ⟨T3, B3, X3, ba3, bs3, bv3, bh3, bf3, st3⟩ := X0.anew hexec (atype := .byte) (wk W (.arrayClass .byte)) rfl (by show len * 1 ≤ _; omega) (by omega) (g := (mkF m 1 #[.val (.ref b), .val (.int (Int32.ofNat o)), .val (.int (Int32.ofNat len)), .unset, .unset, .unset] [.int (Int32.ofNat len)])) rfl (hb hbytes d1) (rest := []) rfl (Nat.le_refl _) (by show 0 + len ≤ len; omega)
  rw [hh0] at ba3 st3
  have kp3 : XT.Kept s T3 := (XT.Kept.of_eq hh0).push bh3
  have hA3 := hA.keep X3.warmed.alike (kp3 _ _ hA.1.1)
  have hne : b ≠ s.heap.size := hA.1.ne
  have c4 : Steps p.tables e below (s₁.setTop (entryFrame m #[.ref b, .int (Int32.ofNat o), .int (Int32.ofNat len)] 6)) (T3.setTop (mkF m 3 #[.val (.ref b), .val (.int (Int32.ofNat o)), .val (.int (Int32.ofNat len)), .unset, .unset, .unset] [.ref s.heap.size])) := c2.trans (st3 _ (Steps.refl _))
  have c5 : Steps p.tables e below (s₁.setTop (entryFrame m #[.ref b, .int (Int32.ofNat o), .int (Int32.ofNat len)] 6)) (T3.setTop (mkF m 9 #[.val (.ref b), .val (.int (Int32.ofNat o)), .val (.int (Int32.ofNat len)), .val (.ref s.heap.size), .unset, .unset] [.int (Int32.ofNat len), .int 0, .ref s.heap.size, .int (Int32.ofNat o), .ref b])) := c4.trans (by
    refine XS.astoreN X3.here hexec rfl (hb hbytes d3) rfl rfl rfl ?_
    refine XS.aloadN X3.here hexec rfl (hb hbytes d4) rfl rfl ?_
    refine XS.iloadN X3.here hexec rfl (hb hbytes d5) rfl ?_
    refine XS.aloadN X3.here hexec rfl (hb hbytes d6) rfl rfl ?_
    refine iconstV X3.here hexec rfl 0 (hb hbytes d7) (by decide) ?_
    refine XS.iloadN X3.here hexec rfl (hb hbytes d8) rfl ?_
    exact Steps.refl _)
  obtain ⟨v6, T6, X6, E6, g6⟩ := X3.callS hexec (Cmp5.law l b A s.heap.size B3 o 0 len) hown (wks W (staticW U16 115 Cmp5.yN)) (wk W Cmp5.tab) (W := 0) (Nat.le_of_ble_eq_true rfl) (Nat.le_of_ble_eq_true rfl) (Nat.le_refl _) (by show 0 + len + 0 ≤ len; omega) (g := (mkF m 9 #[.val (.ref b), .val (.int (Int32.ofNat o)), .val (.int (Int32.ofNat len)), .val (.ref s.heap.size), .unset, .unset] [.int (Int32.ofNat len), .int (Int32.ofNat 0), .ref s.heap.size, .int (Int32.ofNat o), .ref b])) rfl (by rw [hml]; rfl) c5 (argsL := [.ref b, .int (Int32.ofNat o), .ref s.heap.size, .int (Int32.ofNat 0), .int (Int32.ofNat len)]) (rest := []) rfl rfl (by show 2 * 0 + 0 ≤ _; decide) (hb hbytes d9) (⟨rfl, hA3, ba3, hne, l1, by rw [bs3]; simp, hp⟩)
  obtain ⟨rfl, B6, p6, f6⟩ := E6
  have c7 : Steps p.tables e below (s₁.setTop (entryFrame m #[.ref b, .int (Int32.ofNat o), .int (Int32.ofNat len)] 6)) (T6.setTop (mkF m 12 #[.val (.ref b), .val (.int (Int32.ofNat o)), .val (.int (Int32.ofNat len)), .val (.ref s.heap.size), .unset, .unset] [.int (Int32.ofNat len)])) := g6
  have c8 : Steps p.tables e below (s₁.setTop (entryFrame m #[.ref b, .int (Int32.ofNat o), .int (Int32.ofNat len)] 6)) (T6.setTop (mkF m 58 #[.val (.ref b), .val (.int (Int32.ofNat o)), .val (.int (Int32.ofNat len)), .val (.ref s.heap.size), .val (.int (Int32.ofNat len)), .unset] [.ref s.heap.size])) := c7.trans (by
    refine XS.istore X6.here hexec rfl (hb hbytes d12) rfl rfl ?_
    refine XS.iload X6.here hexec rfl (hb hbytes d14) rfl ?_
    refine XS.iloadN X6.here hexec rfl (hb hbytes d16) rfl ?_
    refine XS.icmpYes X6.here hexec rfl (pc0 := 17) rfl (hb hbytes d17) rfl (ii_eq_t rfl) (by decide) rfl ?_
    refine XS.aloadN X6.here hexec rfl (hb hbytes d57) rfl rfl ?_
    exact Steps.refl _)
  have X8 := X6.wide (L' := []) (cells' := 1) (slots' := len) (fun x hx hlt => by
    simp only [List.nil_append, copyLocs, List.mem_map, List.mem_range] at hx
    obtain ⟨i, -, rfl⟩ := hx
    exact absurd hlt (Nat.lt_irrefl _)) (Nat.le_refl _) (by omega)
  exact ⟨T6, some (.ref s.heap.size), _, _, _, X8, rfl, rfl, rfl, (fun h => by cases h), ⟨⟨rfl, B6, ba3.like (X3.warmed.alike.symm.trans X6.warmed.alike) p6.1 f6.1 f6.2.1 f6.2.2.1, f6.2.1.trans bv3, by rw [X6.warmed.alike.findClass, f6.1]; exact bf3, by rw [f6.2.2.1, bs3]; simp, fun j hj => by rw [f6.2.2.2 j, if_pos (by omega)]; rfl, kp3.put p6 (Nat.le_refl _)⟩, by rw [p6.2.2, bh3, hh0]; simp⟩, fun fs hl => c8.trans (X8.areturnOut hexec rfl hret rfl (hb hbytes d58) hl)⟩
end Cmp3
namespace CodL
def yN : MethodName := ⟨"java/lang/StringUTF16", "coderFromArrayLen", "([BI)B"⟩
abbrev yB : ByteArray := jdk_52_method_15_code
theorem d0 : decode yB 0 = .ok (.iload_n 1, 1) := by decide +kernel
theorem d1 : decode yB 1 = .ok (.aload_n 0, 1) := by decide +kernel
theorem d2 : decode yB 2 = .ok (.arraylength, 1) := by decide +kernel
theorem d3 : decode yB 3 = .ok (.isub, 1) := by decide +kernel
theorem d4 : decode yB 4 = .ok (.bipush 31, 2) := by decide +kernel
theorem d6 : decode yB 6 = .ok (.iushr, 1) := by decide +kernel
theorem d7 : decode yB 7 = .ok (.i2b, 1) := by decide +kernel
theorem d8 : decode yB 8 = .ok (.ireturn, 1) := by decide +kernel
def site : List Cond := []
def tab : Cond := tabOf yN yB 2 (some .byte) site
def P (d : Addr) (B : Cell) (args : Array Value) (s : State) : Prop := args = #[.ref d, .int (Int32.ofNat B.slots.size)] ∧ Arr .byte d B s
def E (r : Option Value) (s u : State) : Prop := XT.PureE (some (.int 0)) r s u
/-- an array as long as the number of chars: LATIN1 -/
theorem law (l : Launch) (d : Addr) (B : Cell) : Law l yN 2 2 0 0 yB 2 (some .byte) site (P d B) E [] 0 0 := by
  refine Law.of_walk (plainFor_of_name (by decide +kernel)) (by decide +kernel) (by decide +kernel) (by decide) (fun _ _ h => by rw [h.1]; rfl) (fun _ U U' hal hh h => ⟨h.1, h.2.mv hal hh⟩) (fun r U U' V V' h1 hal h2 h => XT.PureE.mv r U U' V V' h1 hal h2 h) ?_
  intro p e s m args below meth c s₁ X0 hexec hbytes hml hret hlk hnm hown hh0 W hP
  obtain ⟨rfl, hB⟩ := hP
  have hB0 := hB.mv X0.warmed.alike hh0
  have c1 : Steps p.tables e below (s₁.setTop (entryFrame m #[.ref d, .int (Int32.ofNat B.slots.size)] 2)) (s₁.setTop (mkF m 0 #[.val (.ref d), .val (.int (Int32.ofNat B.slots.size))] [])) := entry rfl
  have c2 : Steps p.tables e below (s₁.setTop (entryFrame m #[.ref d, .int (Int32.ofNat B.slots.size)] 2)) (s₁.setTop (mkF m 2 #[.val (.ref d), .val (.int (Int32.ofNat B.slots.size))] [.ref d, .int (Int32.ofNat B.slots.size)])) := c1.trans (by
    refine XS.iloadN X0.here hexec rfl (hb hbytes d0) rfl ?_
    refine XS.aloadN X0.here hexec rfl (hb hbytes d1) rfl rfl ?_
    exact Steps.refl _)
  have c3 : Steps p.tables e below (s₁.setTop (entryFrame m #[.ref d, .int (Int32.ofNat B.slots.size)] 2)) (s₁.setTop (mkF m 8 #[.val (.ref d), .val (.int (Int32.ofNat B.slots.size))] [.int (lo8 (ushr (Int32.ofNat B.slots.size - Int32.ofNat B.slots.size) 31))])) := c2.trans (by
    refine X0.alen hexec hB0 rfl rfl (hb hbytes d2) ?_
    refine XS.isub X0.here hexec rfl (hb hbytes d3) rfl ?_
    refine bipushV X0.here hexec rfl 31 (hb hbytes d4) (by decide) ?_
    refine iushr X0.here hexec rfl (hb hbytes d6) rfl ?_
    refine i2b X0.here hexec rfl (hb hbytes d7) rfl ?_
    exact Steps.refl _)
  have e0 : lo8 (ushr (Int32.ofNat B.slots.size - Int32.ofNat B.slots.size) 31) = 0 := by rw [Int32.sub_self]; decide
  rw [e0] at c3
  exact ⟨s₁, some (.int 0), _, _, _, X0, rfl, rfl, rfl, (fun h => by cases h), ⟨rfl, hh0⟩, fun fs hl => c3.trans (X0.ireturnOut hexec hret rfl (Or.inr (Or.inr (Or.inl rfl))) (hb hbytes d8) hl)⟩
end CodL
/-- the String at a is Latin-1 over a new byte[] (the heap's one new cell): the low bytes of the len chars of A from o on; every cell but a is kept -/
def Got (a : Addr) (D : Cell) (fV fC : Field) (A : Cell) (o len : Nat) (r : Option Value) (s u : State) : Prop := r = none ∧ ∃ D' V : Cell, Blank "java/lang/String" a D' u ∧ Same D D' [fV.slot, fC.slot] ∧ D'.slots[fV.slot]? = some (.ref s.heap.size) ∧ D'.slots[fC.slot]? = some (.int 0) ∧ Arr .byte s.heap.size V u ∧ V.vm = .none ∧ u.vm.findClass "[B" = some V.cls ∧ V.slots.size = len ∧ (∀ j, j < len → V.slots[j]? = some (.int (lo8 (cv A (o + j))))) ∧ (∀ (y : Addr) (c : Cell), y ≠ a → s.heap[y]? = some c → u.heap[y]? = some c) ∧ u.heap.size = s.heap.size + 1
theorem Got.mv {a : Addr} {D A : Cell} {fV fC : Field} {o len : Nat} : ∀ r (U U' V V' : State), U'.heap = U.heap → V.vm.Alike V'.vm → V'.heap = V.heap → Got a D fV fC A o len r U V → Got a D fV fC A o len r U' V' :=
  fun r U U' V V' h1 hal h2 ⟨e0, D', X, a1, a2, a3, a4, a5, a6, a7, a8, a9, a10, a11⟩ => ⟨e0, D', X, a1.mv hal h2, a2, by rw [h1]; exact a3, a4, by rw [h1]; exact a5.mv hal h2, a6, by rw [hal.findClass]; exact a7, a8, a9, by rw [h1, h2]; exact a10, by rw [h1, h2]; exact a11⟩
namespace New4
def yN : MethodName := ⟨"java/lang/String", "<init>", "([CIILjava/lang/Void;)V"⟩
abbrev yB : ByteArray := jdk_42_method_149_code
theorem d0 : decode yB 0 = .ok (.aload_n 0, 1) := by decide +kernel
theorem d1 : decode yB 1 = .ok (.invokespecial 1, 3) := by decide +kernel
theorem d4 : decode yB 4 = .ok (.iload_n 3, 1) := by decide +kernel
theorem d5 : decode yB 5 = .ok (.ifCond (.ne) 22, 3) := by decide +kernel
theorem d27 : decode yB 27 = .ok (.getstatic 38, 3) := by decide +kernel
theorem d30 : decode yB 30 = .ok (.ifCond (.eq) 28, 3) := by decide +kernel
theorem d33 : decode yB 33 = .ok (.aload_n 1, 1) := by decide +kernel
theorem d34 : decode yB 34 = .ok (.iload_n 2, 1) := by decide +kernel
theorem d35 : decode yB 35 = .ok (.iload_n 3, 1) := by decide +kernel
theorem d36 : decode yB 36 = .ok (.invokestatic 177, 3) := by decide +kernel
theorem d39 : decode yB 39 = .ok (.astore 5, 2) := by decide +kernel
theorem d41 : decode yB 41 = .ok (.aload_n 0, 1) := by decide +kernel
theorem d42 : decode yB 42 = .ok (.aload 5, 2) := by decide +kernel
theorem d44 : decode yB 44 = .ok (.iload_n 3, 1) := by decide +kernel
theorem d45 : decode yB 45 = .ok (.invokestatic 47, 3) := by decide +kernel
theorem d48 : decode yB 48 = .ok (.putfield 15, 3) := by decide +kernel
theorem d51 : decode yB 51 = .ok (.aload_n 0, 1) := by decide +kernel
theorem d52 : decode yB 52 = .ok (.aload 5, 2) := by decide +kernel
theorem d54 : decode yB 54 = .ok (.putfield 9, 3) := by decide +kernel
theorem d57 : decode yB 57 = .ok (.return_, 1) := by decide +kernel
def site : List Cond := [.fieldLink "java/lang/String" 38 "java/lang/String" "COMPACT_STRINGS" "Z", Cmp3.tab, CodL.tab, .laysFinal "java/lang/String" "java/lang/String" "value" "[B", .fieldLink "java/lang/String" 9 "java/lang/String" "value" "[B", .laysFinal "java/lang/String" "java/lang/String" "coder" "B", .fieldLink "java/lang/String" 15 "java/lang/String" "coder" "B"] ++ objW "java/lang/String" 1 ++ staticW "java/lang/String" 177 Cmp3.yN ++ staticW "java/lang/String" 47 CodL.yN
def tab : Cond := tabOf yN yB 6 none site
def P (a : Addr) (D : Cell) (fV fC : Field) (b : Addr) (A : Cell) (z : Int32) (o len : Nat) (args : Array Value) (s : State) : Prop := args = #[.ref a, .ref b, .int (Int32.ofNat o), .int (Int32.ofNat len), .null] ∧ Blank "java/lang/String" a D s ∧ Found "java/lang/String" "value" "[B" fV s ∧ Found "java/lang/String" "coder" "B" fC s ∧ Ch b A s ∧ StaticIs s "java/lang/String" "COMPACT_STRINGS" "Z" (.int z) ∧ ¬ z = 0 ∧ 0 < len ∧ o + len ≤ A.slots.size ∧ len ≤ 536870912 ∧ ∀ i, i < len → ¬ 255 < cv A (o + i)
def E (a : Addr) (D : Cell) (fV fC : Field) (A : Cell) (o len : Nat) (r : Option Value) (s u : State) : Prop := Got a D fV fC A o len r s u
/-- len > 0, no char of the range above 255: a Latin-1 String of their low bytes -/
theorem law (l : Launch) (a : Addr) (D : Cell) (fV fC : Field) (b : Addr) (A : Cell) (z : Int32) (o len : Nat) : Law l yN 5 4 2 35 yB 6 none site (P a D fV fC b A z o len) (E a D fV fC A o len) [⟨a, fC.slot⟩, ⟨a, fV.slot⟩] 1 len := by
  refine Law.of_walk (plainFor_of_name (by decide +kernel)) (by decide +kernel) (by decide +kernel) (by decide) (fun _ _ h => by rw [h.1]; rfl) (fun _ U U' hal hh h => ⟨h.1, h.2.1.mv hal hh, h.2.2.1.al hal, h.2.2.2.1.al hal, h.2.2.2.2.1.mv hal hh, h.2.2.2.2.2.1.there hal hh, h.2.2.2.2.2.2⟩) (fun r U U' V V' h1 hal h2 h => Got.mv r U U' V V' h1 hal h2 h) ?_
  intro p e s m args below meth c s₁ X0 hexec hbytes hml hret hlk hnm hown hh0 W hP
  obtain ⟨rfl, hB, f1, f2, hA, s1, hz, l0, l1, l2, hp⟩ := hP
  have a31 := hA.1.2.2.2
  have c1 : Steps p.tables e below (s₁.setTop (entryFrame m #[.ref a, .ref b, .int (Int32.ofNat o), .int (Int32.ofNat len), .null] 6)) (s₁.setTop (mkF m 0 #[.val (.ref a), .val (.ref b), .val (.int (Int32.ofNat o)), .val (.int (Int32.ofNat len)), .val .null, .unset] [])) := entry rfl
  have c2 : Steps p.tables e below (s₁.setTop (entryFrame m #[.ref a, .ref b, .int (Int32.ofNat o), .int (Int32.ofNat len), .null] 6)) (s₁.setTop (mkF m 1 #[.val (.ref a), .val (.ref b), .val (.int (Int32.ofNat o)), .val (.int (Int32.ofNat len)), .val .null, .unset] [.ref a])) := c1.trans (by
    refine XS.aloadN X0.here hexec rfl (hb hbytes d0) rfl rfl ?_
    exact Steps.refl _)
  obtain ⟨T3, X3, q3, st3⟩ := X0.oinit hexec hown (wks W (objW "java/lang/String" 1)) (g := (mkF m 1 #[.val (.ref a), .val (.ref b), .val (.int (Int32.ofNat o)), .val (.int (Int32.ofNat len)), .val .null, .unset] [.ref a])) rfl (by rw [hml]; rfl) (rest := []) rfl (hb hbytes d1) (W := 0) (by show 2 * 0 + 0 ≤ _; decide) (Nat.le_of_ble_eq_true rfl) (Nat.le_of_ble_eq_true rfl)
  have hh3 := q3.trans hh0
  have c4 : Steps p.tables e below (s₁.setTop (entryFrame m #[.ref a, .ref b, .int (Int32.ofNat o), .int (Int32.ofNat len), .null] 6)) (T3.setTop (mkF m 27 #[.val (.ref a), .val (.ref b), .val (.int (Int32.ofNat o)), .val (.int (Int32.ofNat len)), .val .null, .unset] [])) := (c2.trans (st3 _ (Steps.refl _))).trans (by
    refine XS.iloadN X3.here hexec rfl (hb hbytes d4) rfl ?_
    refine XS.ifYes X3.here hexec rfl (pc0 := 5) rfl (hb hbytes d5) rfl (i0_ne_t (nz32 (by omega) l0)) (by decide) rfl ?_
    exact Steps.refl _)
  obtain ⟨T5, X5, q5, st5⟩ := X3.sget hexec hown (wk W (.fieldLink "java/lang/String" 38 "java/lang/String" "COMPACT_STRINGS" "Z")) s1 (fun _ _ h => by rw [hh3]; exact h) (g := (mkF m 27 #[.val (.ref a), .val (.ref b), .val (.int (Int32.ofNat o)), .val (.int (Int32.ofNat len)), .val .null, .unset] [])) rfl (hb hbytes d27)
  have hh5 := q5.trans hh3
  have c6 : Steps p.tables e below (s₁.setTop (entryFrame m #[.ref a, .ref b, .int (Int32.ofNat o), .int (Int32.ofNat len), .null] 6)) (T5.setTop (mkF m 30 #[.val (.ref a), .val (.ref b), .val (.int (Int32.ofNat o)), .val (.int (Int32.ofNat len)), .val .null, .unset] [.int z])) := c4.trans (st5 _ (Steps.refl _))
  have c7 : Steps p.tables e below (s₁.setTop (entryFrame m #[.ref a, .ref b, .int (Int32.ofNat o), .int (Int32.ofNat len), .null] 6)) (T5.setTop (mkF m 36 #[.val (.ref a), .val (.ref b), .val (.int (Int32.ofNat o)), .val (.int (Int32.ofNat len)), .val .null, .unset] [.int (Int32.ofNat len), .int (Int32.ofNat o), .ref b])) := c6.trans (by
    refine XS.ifNo X5.here hexec rfl (hb hbytes d30) rfl (i0_eq_f hz) ?_
    refine XS.aloadN X5.here hexec rfl (hb hbytes d33) rfl rfl ?_
    refine XS.iloadN X5.here hexec rfl (hb hbytes d34) rfl ?_
    refine XS.iloadN X5.here hexec rfl (hb hbytes d35) rfl ?_
    exact Steps.refl _)
  obtain ⟨v8, T8, X8, E8, g8⟩ := X5.callS hexec (Cmp3.law l b A o len) hown (wks W (staticW "java/lang/String" 177 Cmp3.yN)) (wk W Cmp3.tab) (W := 0) (Nat.le_of_ble_eq_true rfl) (Nat.le_of_ble_eq_true rfl) (Nat.le_refl _) (by show 0 + len ≤ len; omega) (g := (mkF m 36 #[.val (.ref a), .val (.ref b), .val (.int (Int32.ofNat o)), .val (.int (Int32.ofNat len)), .val .null, .unset] [.int (Int32.ofNat len), .int (Int32.ofNat o), .ref b])) rfl (by rw [hml]; rfl) c7 (argsL := [.ref b, .int (Int32.ofNat o), .int (Int32.ofNat len)]) (rest := []) rfl rfl (by show 2 * 0 + 0 ≤ _; decide) (hb hbytes d36) (⟨rfl, hA.mv X5.warmed.alike hh5, l1, l2, hp⟩)
  obtain ⟨e8, z8⟩ := E8
  obtain ⟨rfl, N, n1, n2, n3, n4, n5, n6⟩ := NewArr.mv _ T5 s _ _ hh5.symm (Vm.Alike.refl _) rfl e8
  rw [hh5] at z8
  have hB1 := hB.keep X8.warmed.alike (n6 _ _ hB.1)
  have hne : s.heap.size ≠ a := (Nat.ne_of_lt (Array.getElem?_eq_some_iff.mp hB.1).1).symm
  have c9 : Steps p.tables e below (s₁.setTop (entryFrame m #[.ref a, .ref b, .int (Int32.ofNat o), .int (Int32.ofNat len), .null] 6)) (T8.setTop (mkF m 39 #[.val (.ref a), .val (.ref b), .val (.int (Int32.ofNat o)), .val (.int (Int32.ofNat len)), .val .null, .unset] [.ref s.heap.size])) := g8
  have c10 : Steps p.tables e below (s₁.setTop (entryFrame m #[.ref a, .ref b, .int (Int32.ofNat o), .int (Int32.ofNat len), .null] 6)) (T8.setTop (mkF m 45 #[.val (.ref a), .val (.ref b), .val (.int (Int32.ofNat o)), .val (.int (Int32.ofNat len)), .val .null, .val (.ref s.heap.size)] [.int (Int32.ofNat N.slots.size), .ref s.heap.size, .ref a])) := by
    have hc : Steps p.tables e below (s₁.setTop (entryFrame m #[.ref a, .ref b, .int (Int32.ofNat o), .int (Int32.ofNat len), .null] 6)) (T8.setTop (mkF m 45 #[.val (.ref a), .val (.ref b), .val (.int (Int32.ofNat o)), .val (.int (Int32.ofNat len)), .val .null, .val (.ref s.heap.size)] [.int (Int32.ofNat len), .ref s.heap.size, .ref a])) := c9.trans (by
      refine XS.astore X8.here hexec rfl (hb hbytes d39) rfl rfl rfl ?_
      refine XS.aloadN X8.here hexec rfl (hb hbytes d41) rfl rfl ?_
      refine XS.aload X8.here hexec rfl (hb hbytes d42) rfl rfl ?_
      refine XS.iloadN X8.here hexec rfl (hb hbytes d44) rfl ?_
      exact Steps.refl _)
    rw [n4]; exact hc
  obtain ⟨v11, T11, X11, E11, g11⟩ := X8.callS hexec (CodL.law l s.heap.size N) hown (wks W (staticW "java/lang/String" 47 CodL.yN)) (wk W CodL.tab) (W := 1) (Nat.le_of_ble_eq_true rfl) (Nat.le_of_ble_eq_true rfl) (Nat.le_refl _) (by show 0 + len + 0 ≤ len; omega) (g := (mkF m 45 #[.val (.ref a), .val (.ref b), .val (.int (Int32.ofNat o)), .val (.int (Int32.ofNat len)), .val .null, .val (.ref s.heap.size)] [.int (Int32.ofNat N.slots.size), .ref s.heap.size, .ref a])) rfl (by rw [hml]; rfl) c10 (argsL := [.ref s.heap.size, .int (Int32.ofNat N.slots.size)]) (rest := [.ref a]) rfl rfl (by show 2 * 0 + (1 + 0) ≤ _; decide) (hb hbytes d45) (⟨rfl, n1⟩)
  obtain ⟨rfl, q11⟩ := E11
  have hB11 := hB1.mv (X8.warmed.alike.symm.trans X11.warmed.alike) q11
  have c12 : Steps p.tables e below (s₁.setTop (entryFrame m #[.ref a, .ref b, .int (Int32.ofNat o), .int (Int32.ofNat len), .null] 6)) (T11.setTop (mkF m 48 #[.val (.ref a), .val (.ref b), .val (.int (Int32.ofNat o)), .val (.int (Int32.ofNat len)), .val .null, .val (.ref s.heap.size)] [.int 0, .ref a])) := g11
  obtain ⟨T13, X13, p13, bl13, sl13, st13⟩ := X11.finit hexec hown (wk W (.fieldLink "java/lang/String" 15 "java/lang/String" "coder" "B")) (Or.inr ⟨_, (wk W (.laysFinal "java/lang/String" "java/lang/String" "coder" "B"))⟩) (Or.inl ⟨rfl, hnm⟩) f2 (Or.inl rfl) hB11 (t := .byte) (by decide +kernel) rfl (g := (mkF m 48 #[.val (.ref a), .val (.ref b), .val (.int (Int32.ofNat o)), .val (.int (Int32.ofNat len)), .val .null, .val (.ref s.heap.size)] [.int 0, .ref a])) rfl (rest := []) rfl (hb hbytes d48)
  have c14 : Steps p.tables e below (s₁.setTop (entryFrame m #[.ref a, .ref b, .int (Int32.ofNat o), .int (Int32.ofNat len), .null] 6)) (T13.setTop (mkF m 54 #[.val (.ref a), .val (.ref b), .val (.int (Int32.ofNat o)), .val (.int (Int32.ofNat len)), .val .null, .val (.ref s.heap.size)] [.ref s.heap.size, .ref a])) := (c12.trans (st13 _ (Steps.refl _))).trans (by
    refine XS.aloadN X13.here hexec rfl (hb hbytes d51) rfl rfl ?_
    refine XS.aload X13.here hexec rfl (hb hbytes d52) rfl rfl ?_
    exact Steps.refl _)
  obtain ⟨T15, X15, p15, bl15, sl15, st15⟩ := X13.finit hexec hown (wk W (.fieldLink "java/lang/String" 9 "java/lang/String" "value" "[B")) (Or.inr ⟨_, (wk W (.laysFinal "java/lang/String" "java/lang/String" "value" "[B"))⟩) (Or.inl ⟨rfl, hnm⟩) f1 (Or.inl rfl) bl13 (t := (.array .byte)) (by decide +kernel) rfl (g := (mkF m 54 #[.val (.ref a), .val (.ref b), .val (.int (Int32.ofNat o)), .val (.int (Int32.ofNat len)), .val .null, .val (.ref s.heap.size)] [.ref s.heap.size, .ref a])) rfl (rest := []) rfl (hb hbytes d54)
  have c16 : Steps p.tables e below (s₁.setTop (entryFrame m #[.ref a, .ref b, .int (Int32.ofNat o), .int (Int32.ofNat len), .null] 6)) (T15.setTop (mkF m 57 #[.val (.ref a), .val (.ref b), .val (.int (Int32.ofNat o)), .val (.int (Int32.ofNat len)), .val .null, .val (.ref s.heap.size)] [])) := c14.trans (st15 _ (Steps.refl _))
  have ap := apart (Or.inr ⟨_, (wk W (.laysFinal "java/lang/String" "java/lang/String" "value" "[B"))⟩) (Or.inr ⟨_, (wk W (.laysFinal "java/lang/String" "java/lang/String" "coder" "B"))⟩) f1 f2 (t₁ := .array .byte) (t₂ := .byte) (by decide +kernel) (by decide +kernel) (by decide)
  have al := X8.warmed.alike.symm.trans X15.warmed.alike
  have n7 : T11.heap[s.heap.size]? = some N := by rw [q11]; exact n1.1
  exact ⟨T15, none, _, _, _, X15, by simp, rfl, by omega, (fun _ => rfl), ⟨rfl, _, N, bl15, ((Same.refl D _).set _ (by simp)).set _ (by simp), sl15, (Cell.slots_setSlot_ne _ ap).trans sl13, n1.keep al (p15.other hne (p13.other hne n7)), n2, by rw [al.findClass]; exact n3, n4, n5, fun y c h1 h2 => p15.other h1 (p13.other h1 (by rw [q11]; exact n6 y c h2)), by rw [p15.2.2, p13.2.2, q11]; exact z8⟩, fun fs hl => c16.trans (X15.returnOut hexec hret (hb hbytes d57) hl)⟩
end New4
namespace New1
def yN : MethodName := ⟨"java/lang/String", "<init>", "([C)V"⟩
abbrev yB : ByteArray := jdk_42_method_3_code
theorem d0 : decode yB 0 = .ok (.aload_n 0, 1) := by decide +kernel
theorem d1 : decode yB 1 = .ok (.aload_n 1, 1) := by decide +kernel
theorem d2 : decode yB 2 = .ok (.iconst 0, 1) := by decide +kernel
theorem d3 : decode yB 3 = .ok (.aload_n 1, 1) := by decide +kernel
theorem d4 : decode yB 4 = .ok (.arraylength, 1) := by decide +kernel
theorem d5 : decode yB 5 = .ok (.aconst_null, 1) := by decide +kernel
theorem d6 : decode yB 6 = .ok (.invokespecial 27, 3) := by decide +kernel
theorem d9 : decode yB 9 = .ok (.return_, 1) := by decide +kernel
def site : List Cond := [New4.tab] ++ initW "java/lang/String" 27 New4.yN
def tab : Cond := tabOf yN yB 2 none site
def P (a : Addr) (D : Cell) (fV fC : Field) (b : Addr) (A : Cell) (z : Int32) (args : Array Value) (s : State) : Prop := args = #[.ref a, .ref b] ∧ Blank "java/lang/String" a D s ∧ Found "java/lang/String" "value" "[B" fV s ∧ Found "java/lang/String" "coder" "B" fC s ∧ Ch b A s ∧ StaticIs s "java/lang/String" "COMPACT_STRINGS" "Z" (.int z) ∧ ¬ z = 0 ∧ 0 < A.slots.size ∧ A.slots.size ≤ 536870912 ∧ ∀ i, i < A.slots.size → ¬ 255 < cv A i
def E (a : Addr) (D : Cell) (fV fC : Field) (A : Cell) (r : Option Value) (s u : State) : Prop := Got a D fV fC A 0 A.slots.size r s u
/-- new String(chars), not empty, no char above 255: a Latin-1 String of their low bytes -/
theorem law (l : Launch) (a : Addr) (D : Cell) (fV fC : Field) (b : Addr) (A : Cell) (z : Int32) : Law l yN 2 1 3 52 yB 2 none site (P a D fV fC b A z) (E a D fV fC A) [⟨a, fC.slot⟩, ⟨a, fV.slot⟩] 1 A.slots.size := by
  refine Law.of_walk (plainFor_of_name (by decide +kernel)) (by decide +kernel) (by decide +kernel) (by decide) (fun _ _ h => by rw [h.1]; rfl) (fun _ U U' hal hh h => ⟨h.1, h.2.1.mv hal hh, h.2.2.1.al hal, h.2.2.2.1.al hal, h.2.2.2.2.1.mv hal hh, h.2.2.2.2.2.1.there hal hh, h.2.2.2.2.2.2⟩) (fun r U U' V V' h1 hal h2 h => Got.mv r U U' V V' h1 hal h2 h) ?_
  intro p e s m args below meth c s₁ X0 hexec hbytes hml hret hlk hnm hown hh0 W hP
  obtain ⟨rfl, hB, f1, f2, hA, s1, hz, l0, l2, hp⟩ := hP
  have c1 : Steps p.tables e below (s₁.setTop (entryFrame m #[.ref a, .ref b] 2)) (s₁.setTop (mkF m 0 #[.val (.ref a), .val (.ref b)] [])) := entry rfl
  have c2 : Steps p.tables e below (s₁.setTop (entryFrame m #[.ref a, .ref b] 2)) (s₁.setTop (mkF m 6 #[.val (.ref a), .val (.ref b)] [.null, .int (Int32.ofNat A.slots.size), .int 0, .ref b, .ref a])) := c1.trans (by
    refine XS.aloadN X0.here hexec rfl (hb hbytes d0) rfl rfl ?_
    refine XS.aloadN X0.here hexec rfl (hb hbytes d1) rfl rfl ?_
    refine iconstV X0.here hexec rfl 0 (hb hbytes d2) (by decide) ?_
    refine XS.aloadN X0.here hexec rfl (hb hbytes d3) rfl rfl ?_
    refine X0.alen hexec (hA.1.mv X0.warmed.alike hh0) rfl rfl (hb hbytes d4) ?_
    refine XS.aconstNull X0.here hexec rfl (hb hbytes d5) ?_
    exact Steps.refl _)
  obtain ⟨v3, T3, X3, E3, g3⟩ := X0.callN hexec (New4.law l a D fV fC b A z 0 A.slots.size) rfl hown (wks W (initW "java/lang/String" 27 New4.yN)) (W New4.tab (by simp only [site, List.mem_cons, List.mem_append, true_or, or_true])) (W := 0) (Nat.le_of_ble_eq_true rfl) (Nat.le_of_ble_eq_true rfl) (Nat.le_refl _) (by show 0 + A.slots.size ≤ A.slots.size; omega) (g := (mkF m 6 #[.val (.ref a), .val (.ref b)] [.null, .int (Int32.ofNat A.slots.size), .int (Int32.ofNat 0), .ref b, .ref a])) rfl (by rw [hml]; rfl) c2 (argsL := [.ref b, .int (Int32.ofNat 0), .int (Int32.ofNat A.slots.size), .null]) (rest := []) rfl rfl (by show 2 * 0 + 0 ≤ _; decide) (hb hbytes d6) (⟨rfl, hB.mv X0.warmed.alike hh0, f1.al X0.warmed.alike, f2.al X0.warmed.alike, hA.mv X0.warmed.alike hh0, s1.there X0.warmed.alike hh0, hz, l0, by omega, l2, fun i hi => by rw [Nat.zero_add]; exact hp i hi⟩)
  have e0 := Got.mv _ s₁ s _ _ hh0.symm (Vm.Alike.refl _) rfl E3
  obtain rfl := e0.1
  have c4 : Steps p.tables e below (s₁.setTop (entryFrame m #[.ref a, .ref b] 2)) (T3.setTop (mkF m 9 #[.val (.ref a), .val (.ref b)] [])) := g3
  exact ⟨T3, none, _, _, _, X3, by simp, rfl, by omega, (fun _ => rfl), e0, fun fs hl => c4.trans (X3.returnOut hexec hret (hb hbytes d9) hl)⟩
theorem pays {l : Launch} {R : Room} {p : Program} {e : Env} {below : List Frame} {s : State} {sargs : Array Value} {len W : Nat} (a : Addr) (D : Cell) (fV fC : Field) (b : Addr) (A : Cell) (z : Int32) (htab : tab.before sargs s = true) (hfr : 4 ≤ R.frames) (hlo : W + 65 ≤ R.locals) :
    Back l R p e below s sargs yN len W (fun A₁ a₁ => A₁.cells + 1 ≤ R.cells ∧ A₁.slots + A.slots.size ≤ R.slots ∧ P a D fV fC b A z a₁ A₁.U) (fun A₁ _ v₁ B₁ => E a D fV fC A v₁ A₁.U B₁.U ∧ B₁.locs = A₁.locs ++ [⟨a, fC.slot⟩, ⟨a, fV.slot⟩] ∧ B₁.cells = A₁.cells + 1 ∧ B₁.slots = A₁.slots + A.slots.size) :=
  (law l a D fV fC b A z).pays htab hfr (by omega)
end New1
/-- the byte, read back as charAt reads it, is the char -/
theorem lo8_mask {x : Int32} (h0 : ¬ x < 0) (h1 : ¬ 255 < x) : lo8 x &&& 255 = x := by
  have t : ∀ k : Fin 256, lo8 (Int32.ofNat k.val) &&& 255 = Int32.ofNat k.val := by decide +kernel
  rw [Int32.lt_iff_toInt_lt] at h0 h1
  have e0 : (0 : Int32).toInt = 0 := rfl
  have e1 : (255 : Int32).toInt = 255 := rfl
  obtain ⟨k, hk⟩ : ∃ k : Nat, x.toInt = k := ⟨x.toInt.toNat, by omega⟩
  have hx : x = Int32.ofNat k := Int32.toInt_inj.mp (by rw [hk, Int32.toInt_ofNat_small (by omega)])
  rw [hx]
  exact t ⟨k, by omega⟩
end StrChars
namespace StrChars.Road
open Jvm Sem ClassFile Op Lib Jvm.Stand Jvm.Free Jvm.Free.XT
open Jvm.Lib.Cold (StaticIs)
abbrev ST : String := "java/lang/String"
/-- every table word that New1's law asks, flat -/
abbrev words : List Jvm.Cond := [.code New1.yN New1.yB 2 none, .initialized ST, .methodLink ST 27 New4.yN, .instanceMethod New4.yN,
  .code New4.yN New4.yB 6 none, .fieldLink ST 38 ST "COMPACT_STRINGS" "Z", .laysFinal ST ST "value" "[B", .fieldLink ST 9 ST "value" "[B", .laysFinal ST ST "coder" "B", .fieldLink ST 15 ST "coder" "B",
  .methodLink ST 1 Lib.objectInit, .instanceMethod Lib.objectInit, .code Lib.objectInit ⟨#[0xb1]⟩ 1 none, .methodLink ST 177 Cmp3.yN, .static Cmp3.yN, .methodLink ST 47 CodL.yN, .static CodL.yN,
  .code Cmp3.yN Cmp3.yB 6 (some (.array .byte)), .initialized U16, .arrayClass .byte, .methodLink U16 115 Cmp5.yN, .static Cmp5.yN, .code Cmp5.yN Cmp5.yB 7 (some .int), .code CodL.yN CodL.yB 2 (some .byte)]
theorem tab_of {a : Array Value} {s : State} (h : ∀ w ∈ words, w.before a s = true) : New1.tab.before a s = true := by
  have h5 : Cmp5.tab.before a s = true := unparts (wk h (.code Cmp5.yN Cmp5.yB 7 (some .int))) (wks h (.initialized Cmp5.yN.cls :: Cmp5.site))
  have hc : CodL.tab.before a s = true := unparts (wk h (.code CodL.yN CodL.yB 2 (some .byte))) (wks h (.initialized CodL.yN.cls :: CodL.site))
  have q5 : ∀ w ∈ Cmp5.tab :: words, w.before a s = true := fun w hw => (List.mem_cons.mp hw).elim (fun e => e ▸ h5) (h w)
  have h3 : Cmp3.tab.before a s = true := unparts (wk q5 (.code Cmp3.yN Cmp3.yB 6 (some (.array .byte)))) (wks q5 (.initialized Cmp3.yN.cls :: Cmp3.site))
  have q3 : ∀ w ∈ Cmp3.tab :: CodL.tab :: words, w.before a s = true := fun w hw => (List.mem_cons.mp hw).elim (fun e => e ▸ h3) fun hw => (List.mem_cons.mp hw).elim (fun e => e ▸ hc) (h w)
  have h4 : New4.tab.before a s = true := unparts (wk q3 (.code New4.yN New4.yB 6 none)) (wks q3 (.initialized New4.yN.cls :: New4.site))
  have q4 : ∀ w ∈ New4.tab :: words, w.before a s = true := fun w hw => (List.mem_cons.mp hw).elim (fun e => e ▸ h4) (h w)
  exact unparts (wk q4 (.code New1.yN New1.yB 2 none)) (wks q4 (.initialized New1.yN.cls :: New1.site))
/-- the words ride from the start Z to the walk's own state -/
theorem moved {Z s : State} {a0 args : Array Value} (hZ : Z.Warmed39 s.vm) (hw : ∀ d ∈ words, d.before a0 Z = true) : ∀ d ∈ words, d.before args s = true := fun d hd => by
  have q := hw d hd
  have t : ∀ d ∈ words, d = .arrayClass .byte ∨ (d.onTables && d.keepsFace) = true := by decide +kernel
  rcases t d hd with rfl | t
  · exact RoadKit.mvA hZ q
  · exact RoadKit.mv hZ q t
/-- WHAT COMES BACK, over the tables of the start Z: h the heap at the call, h' behind it -/
def Q (Z : State) (x : Addr) (A : Cell) (h : Heap) (v : Option Value) (h' : Heap) (L : List Loc) : Prop := v = none ∧ (∀ y ∈ L, y.base = x) ∧ RoadKit.Keep h h' [x] ∧ h'.size = h.size + 1 ∧ RoadKit.Exa Z h' x ST ∧ RoadKit.Fld Z h' x ST "value" "[B" (.ref h.size) ∧ RoadKit.Fld Z h' x ST "coder" "B" (.int 0) ∧
  (∃ V : Cell, RoadKit.Arr Z h' h.size V .byte ∧ V.vm = .none ∧ Z.vm.findClass "[B" = some V.cls ∧ V.slots.size = A.slots.size ∧ ∀ j, j < A.slots.size → V.slots[j]? = some (.int (lo8 (cv A j)))) ∧
  ∀ (O n d : String) (w : Value), RoadKit.Fld Z h x O n d w → RoadKit.slotOf Z O n d ≠ RoadKit.slotOf Z ST "value" "[B" → RoadKit.slotOf Z O n d ≠ RoadKit.slotOf Z ST "coder" "B" → RoadKit.Fld Z h' x O n d w
/-- **new String(chars) AT A CALL, IN THE ROAD'S FORM**: for specialBack behind newO: x the fresh String, b the char[] with the cell A -/
theorem back {p : Program} {l : Launch} {e : Env} {R : Room} {s : State} {args : Array Value} {below : List Frame} {len W : Nat} {Z : State} {a0 : Array Value} {h : Heap} (hZ : Z.Warmed39 s.vm) (hw : ∀ d ∈ words, d.before a0 Z = true) {kI : Nat} (wi : (Jvm.Cond.instantiable ST kI).before a0 Z = true)
    {x b : Addr} {A : Cell} {z : Int32} {v0 c0 : Value} (E : RoadKit.Exa Z h x ST) (V : RoadKit.Fld Z h x ST "value" "[B" v0) (C : RoadKit.Fld Z h x ST "coder" "B" c0) (K : RoadKit.Arr Z h b A .char) (hty : Typed .char A) (S : RoadKit.Sta Z h ST "COMPACT_STRINGS" "Z" (.int z)) (hz : ¬ z = 0)
    (l0 : 0 < A.slots.size) (l2 : A.slots.size ≤ 536870912) (hp : ∀ i, i < A.slots.size → ¬ 255 < cv A i) (hfr : 4 ≤ R.frames) (hlo : W + 65 ≤ R.locals) :
    Back l R p e below s args New1.yN len W (fun P a => a = #[.ref x, .ref b] ∧ P.U.heap = h ∧ P.cells + 1 ≤ R.cells ∧ P.slots + A.slots.size ≤ R.slots)
      (fun P _ v B => ∃ L, Q Z x A h v B.U.heap L ∧ B.locs = P.locs ++ L ∧ B.cells = P.cells + 1 ∧ B.slots = P.slots + A.slots.size) := by
  intro m meth c P g ig mk a X hg hsize hdg hW hn hp'
  obtain ⟨rfl, rfl, r1, r2⟩ := hp'
  have al : Z.vm.Alike P.U.vm := hZ.alike.trans X.warmed.alike
  obtain ⟨D, cfV, kV, iV, fV, hD, gV, stV, knV, obV, asV, slV⟩ := id V
  obtain ⟨D', cfC, kC, iC, fC, hD', gC, stC, -, -, asC, slC⟩ := id C
  cases hD.symm.trans hD'
  obtain ⟨D2, kD, e1, e2, e3, e4, e5⟩ := id E
  cases hD.symm.trans e1
  obtain ⟨c2, k2, i1, i2, i3, -⟩ := Cond.instantiable_spec wi
  cases e2.symm.trans i1
  cases e3.symm.trans i2
  obtain ⟨kU, u1, u2⟩ := al.2.2 _ _ e3
  have hB : Blank ST x D P.U := ⟨hD, ⟨knV, fun q hq => by rw [hq] at obV; cases obV⟩, by rw [al.findClass]; exact e2, kU, u1, by rw [u2]; exact i3, by rw [u2]; exact e5 i3⟩
  have F1 : Found ST "value" "[B" fV P.U := ⟨SBG.found_only al ⟨cfV, kV, iV, gV⟩, stV⟩
  have F2 : Found ST "coder" "B" fC P.U := ⟨SBG.found_only al ⟨cfC, kC, iC, gC⟩, stC⟩
  have hA : Ch b A P.U := ⟨⟨K.1, State.isArrayOf_alike al K.2.1, K.2.2, by omega⟩, hty⟩
  have hS : StaticIs P.U ST "COMPACT_STRINGS" "Z" (.int z) := by
    obtain ⟨cfS, iS, kS, fS, st, cS, t1, t2, t3, t4, t5, t6, t7⟩ := S
    exact StaticIs.there (s := { Z with heap := P.U.heap }) ⟨cfS, iS, kS, fS, st, cS, t1, t2, t3, t4, t5, (fun q => by rw [q] at t6; cases t6), t7⟩ al rfl
  obtain ⟨v, B, X', ⟨⟨hv, E', V', q1, q2, q3, q4, q5, q6, q7, q8, q9, q10, q11⟩, hl, hc, hs⟩, st⟩ := New1.pays x D fV fC b A z (tab_of (moved hZ hw)) hfr hlo m meth c P g ig mk _ X hg hsize hdg hW hn ⟨r1, r2, rfl, hB, F1, F2, hA, hS, hz, l0, l2, hp⟩
  have al' : Z.vm.Alike B.U.vm := hZ.alike.trans X'.warmed.alike
  have hsz : E'.slots.size = D.slots.size := by
    obtain ⟨-, -, -, kB, w1, w2, w3⟩ := q1
    obtain ⟨kB', y1, y2⟩ := al'.2.2 _ _ e3
    rw [q2.2.1] at w1
    cases w1.symm.trans y1
    rw [w3, e5 i3, y2]
  refine ⟨v, B, X', ⟨_, ⟨hv, ?_, ⟨by omega, fun y cy hy hn' => q10 y cy (by simpa using hn') hy, fun y cy hy => ?_⟩, q11, ⟨E', _, q1.1, by rw [q2.2.1]; exact e2, by rw [q2.2.1]; exact e3, by rw [q2.1]; exact obV, fun _ => by rw [hsz]; exact e5 i3⟩,
    ⟨E', cfV, kV, iV, fV, q1.1, gV, stV, by rw [q2.1]; exact knV, by rw [q2.1]; exact obV, by rw [q2.2.1]; exact asV, q3⟩, ⟨E', cfC, kC, iC, fC, q1.1, gC, stC, by rw [q2.1]; exact knV, by rw [q2.1]; exact obV, by rw [q2.2.1]; exact asC, q4⟩,
    ⟨V', ⟨q5.1, State.isArrayOf_alike al'.symm q5.2.1, q5.2.2.1⟩, q6, by rw [← al'.findClass]; exact q7, q8, fun j hj => by have := q9 j hj; rwa [Nat.zero_add] at this⟩, fun O n d w F n1 n2 => ?_⟩, hl, hc, hs⟩, st⟩
  · intro y hy
    simp only [List.mem_cons, List.not_mem_nil, or_false] at hy
    rcases hy with rfl | rfl <;> rfl
  · by_cases q : y = x
    · subst q
      cases hD.symm.trans hy
      exact ⟨E', q1.1, q2.2.1, q2.1, hsz⟩
    · exact ⟨cy, q10 y cy q hy, rfl, rfl, rfl⟩
  · obtain ⟨D3, cf, k, i, f, g1, g2, g3, g4, g5, g6, g7⟩ := F
    cases hD.symm.trans g1
    simp only [RoadKit.slotOf, g2, gV, gC, Option.map_some, Option.getD_some] at n1 n2
    exact ⟨E', cf, k, i, f, q1.1, g2, g3, by rw [q2.1]; exact g4, by rw [q2.1]; exact g5, by rw [q2.2.1]; exact g6, by rw [q2.2.2 f.slot (by simp [n1, n2])]; exact g7⟩
end StrChars.Road
namespace StrChars.Road
open Jvm Sem ClassFile Op Lib Jvm.Stand Jvm.Free Jvm.Free.XT
/-- WHAT COMES BACK, the byte[] as a list of values -/
def QA (Z : State) (x : Addr) (zn : Int32) (cs : List Int32) (h : Heap) (v : Option Value) (h' : Heap) (L : List Loc) : Prop := v = none ∧ (∀ y ∈ L, y.base = x) ∧ RoadKit.Keep h h' [x] ∧ h'.size = h.size + 1 ∧ RoadKit.Exa Z h' x ST ∧ RoadKit.Fld Z h' x ST "value" "[B" (.ref h.size) ∧ RoadKit.Fld Z h' x ST "coder" "B" (.int 0) ∧
  (∃ kb, Z.vm.findClass "[B" = some kb ∧ RoadKit.Arv Z h' h.size kb .byte zn (cs.map fun c => .int (lo8 c)) (.int 0)) ∧
  ∀ (O n d : String) (w : Value), RoadKit.Fld Z h x O n d w → RoadKit.slotOf Z O n d ≠ RoadKit.slotOf Z ST "value" "[B" → RoadKit.slotOf Z O n d ≠ RoadKit.slotOf Z ST "coder" "B" → RoadKit.Fld Z h' x O n d w
/-- **new String(chars) AT A CALL, THE ARRAYS AS LISTS**: the char[] at b holds cs, not empty, no char above 255 -/
theorem backArv {p : Program} {l : Launch} {e : Env} {R : Room} {s : State} {args : Array Value} {below : List Frame} {len W : Nat} {Z : State} {a0 : Array Value} {h : Heap} (hZ : Z.Warmed39 s.vm) (hw : ∀ d ∈ words, d.before a0 Z = true) {kI : Nat} (wi : (Jvm.Cond.instantiable ST kI).before a0 Z = true)
    {x b : Addr} {k : ClassId} {zn z : Int32} {cs : List Int32} {dv v0 c0 : Value} (E : RoadKit.Exa Z h x ST) (V : RoadKit.Fld Z h x ST "value" "[B" v0) (C : RoadKit.Fld Z h x ST "coder" "B" c0) (K : RoadKit.Arv Z h b k .char zn (cs.map Value.int) dv) (S : RoadKit.Sta Z h ST "COMPACT_STRINGS" "Z" (.int z)) (hz : ¬ z = 0)
    (hlen : zn.toNatClampNeg = cs.length) (h0 : 0 < cs.length) (hbig : cs.length ≤ 536870912) (hall : ∀ c ∈ cs, ¬ 255 < c) (hfr : 4 ≤ R.frames) (hlo : W + 65 ≤ R.locals) :
    Back l R p e below s args New1.yN len W (fun P a => a = #[.ref x, .ref b] ∧ P.U.heap = h ∧ P.cells + 1 ≤ R.cells ∧ P.slots + cs.length ≤ R.slots)
      (fun P _ v B => ∃ L, QA Z x zn cs h v B.U.heap L ∧ B.locs = P.locs ++ L ∧ B.cells = P.cells + 1 ∧ B.slots = P.slots + cs.length) := by
  obtain ⟨A, K1, K2, K3, K4, K5, K6⟩ := K
  have e : A.slots.size = cs.length := K3.trans hlen
  have hat : ∀ (i : Nat) (hi : i < cs.length), A.slots[i]? = some (.int cs[i]) := fun i hi => by rw [K5 i (by omega)]; simp [List.getD_eq_getElem?_getD, hi]
  have hcv : ∀ (i : Nat) (hi : i < cs.length), cv A i = cs[i] := fun i hi => by unfold cv; rw [hat i hi]
  have hty : Typed .char A := fun i v hv => by
    have hi : i < A.slots.size := (Array.getElem?_eq_some_iff.mp hv).1
    have q := K5 i hi
    rw [hv] at q
    rw [Option.some.inj q]
    exact K6 i hi
  refine Back.mono (back hZ hw wi E V C K1 hty S hz (by omega) (by omega) (fun i hi => by rw [hcv i (by omega)]; exact hall _ (List.getElem_mem _)) hfr hlo) (fun P a hp => ⟨hp.1, hp.2.1, hp.2.2.1, by rw [e]; exact hp.2.2.2⟩) (fun P a v B hp hq => ?_)
  obtain ⟨L, ⟨q1, q2, q3, q4, q5, q6, q7, ⟨V', v1, v2, v3, v4, v5⟩, q9⟩, hl, hc, hs⟩ := hq
  refine ⟨L, ⟨q1, q2, q3, q4, q5, q6, q7, ⟨V'.cls, v3, V', v1, rfl, by rw [v4, e, hlen], K4, fun i hi => ?_, fun i hi => ?_⟩, q9⟩, hl, hc, by rw [hs, e]⟩
  · have hi' : i < cs.length := by omega
    rw [v5 i (by omega), hcv i hi']; simp [List.getD_eq_getElem?_getD, hi']
  · have hi' : i < cs.length := by omega
    simp only [List.getD_eq_getElem?_getD, List.getElem?_map, List.getElem?_eq_getElem hi', Option.map_some, Option.getD_some]
    exact fits_lo8 _
end StrChars.Road
namespace StrChars.Road
open Jvm Sem ClassFile Op Lib Jvm.Stand Jvm.Free Jvm.Free.XT
/-- WHAT COMES BACK, in the writer's own shape -/
def QV (Z : State) (x : Addr) (N : Int32) (bs : List Int32) (h : Heap) (n0 : Nat) (v : Option Value) (h' : Heap) (L : List Loc) : Prop := v = none ∧ RoadKit.Fr n0 L ∧ RoadKit.Keep h h' [x] ∧ RoadKit.Exa Z h' x ST ∧ RoadKit.Fld Z h' x ST "coder" "B" (.int 0) ∧
  ∃ (t : Addr) (kb : ClassId), n0 ≤ t ∧ h.size ≤ t ∧ ¬ t = x ∧ RoadKit.Fld Z h' x ST "value" "[B" (.ref t) ∧ RoadKit.Arv Z h' t kb .byte N (bs.map Value.int) (.int 0)
/-- **new String(chars) AT A CALL, FOR THE WRITER**: a char[] of n known ints, each 0 to 255 -/
theorem backV {p : Program} {l : Launch} {e : Env} {R : Room} {s : State} {args : Array Value} {below : List Frame} {len W : Nat} {Z : State} {a0 : Array Value} {h : Heap} (hZ : Z.Warmed39 s.vm) (hw : ∀ d ∈ words, d.before a0 Z = true) {kI : Nat} (wi : (Jvm.Cond.instantiable ST kI).before a0 Z = true)
    {x b : Addr} {kC : ClassId} {cs bs : List Int32} {d v0 c0 : Value} {z N : Int32} {n n0 : Nat} (hx0 : n0 ≤ x) (hh0 : n0 ≤ h.size) (E : RoadKit.Exa Z h x ST) (V : RoadKit.Fld Z h x ST "value" "[B" v0) (C : RoadKit.Fld Z h x ST "coder" "B" c0) (K : RoadKit.Arv Z h b kC .char N (cs.map Value.int) d) (S : RoadKit.Sta Z h ST "COMPACT_STRINGS" "Z" (.int z)) (hz : ¬ z = 0)
    (hn : cs.length = n) (hN : N = Int32.ofNat n) (l0 : 0 < n) (l2 : n ≤ 4000) (hp : ∀ c ∈ cs, ¬ c < 0 ∧ ¬ (255 : Int32) < c) (hb : bs = cs.map (fun c => c.toInt8.toInt32)) (hfr : 4 ≤ R.frames) (hlo : W + 65 ≤ R.locals) :
    Back l R p e below s args (⟨"java/lang/String", "<init>", "([C)V"⟩ : MethodName) len W (fun P a => a = #[.ref x, .ref b] ∧ P.U.heap = h ∧ P.cells + 1 ≤ R.cells ∧ P.slots + n ≤ R.slots)
      (fun P _ v B => ∃ L, QV Z x N bs h n0 v B.U.heap L ∧ B.locs = P.locs ++ L ∧ B.cells = P.cells + 1 ∧ B.slots = P.slots + n) := by
  subst hn hN hb
  refine Back.mono (backArv hZ hw wi E V C K S hz (n32 (by omega)) l0 (by omega) (fun c hc => (hp c hc).2) hfr hlo) (fun P a hp => hp) (fun P a v B hp hq => ?_)
  obtain ⟨L, ⟨q1, q2, q3, q4, q5, q6, q7, ⟨kb, v1, v2⟩, q9⟩, hl, hc, hs⟩ := hq
  exact ⟨L, ⟨q1, fun y hy => by rw [q2 y hy]; exact hx0, q3, q5, q7, h.size, kb, hh0, Nat.le_refl _, Nat.ne_of_gt E.lt, q6, by rw [List.map_map]; exact v2⟩, hl, hc, hs⟩
end StrChars.Road
namespace StrChars
open Jvm Sem ClassFile Op Lib Jvm.Stand Jvm.Free.XT Jvm.Free.ALB Jvm.Free.JM Jvm.Free
open Jvm.Lib.Cold (StaticIs)
def hi8 (x : Int32) : Int32 := lo8 (x >>> ((8 : Int32) &&& 31))
/-- what StringUTF16.getChar makes of two bytes -/
def pairCh (u v : Int32) : Int32 := (((u &&& 255) <<< ((0 : Int32) &&& 31)) ||| ((v &&& 255) <<< ((8 : Int32) &&& 31))).toUInt32.toUInt16.toUInt32.toInt32
theorem lo8_and (x : Int32) : (lo8 x &&& 255).toBitVec.toNat = x.toBitVec.toNat % 256 := by
  have h : (lo8 x).toBitVec = (x.toBitVec.signExtend 8).signExtend 32 := by rw [lo8, Int8.toBitVec_toInt32, Int32.toBitVec_toInt8]
  rw [Int32.toBitVec_and, BitVec.toNat_and, h]
  have e : ((x.toBitVec.signExtend 8).signExtend 32).toNat % 256 = x.toBitVec.toNat % 256 := by
    rw [BitVec.toNat_signExtend]
    have hlt := x.toBitVec.isLt
    simp only [BitVec.toNat_setWidth, BitVec.toNat_signExtend]
    split <;> split <;> omega
  rw [← e]
  exact Nat.and_two_pow_sub_one_eq_mod _ 8
theorem pair_says {c : Int32} (h0 : ¬ c < 0) (h1 : ¬ 65535 < c) : pairCh (lo8 c) (hi8 c) = c := by
  rw [Int32.lt_iff_toInt_lt] at h0 h1
  have e0 : (0 : Int32).toInt = 0 := rfl
  have e1 : (65535 : Int32).toInt = 65535 := rfl
  have hc : c.toInt = c.toBitVec.toNat := by
    have := c.toBitVec.isLt
    have e : c.toInt = c.toBitVec.toInt := rfl
    rw [e] at h0 h1
    rw [e]
    rw [BitVec.toInt_eq_toNat_cond] at h0 h1 ⊢
    split at h0 <;> split <;> omega
  have hn : c.toBitVec.toNat < 65536 := by omega
  have a1 := lo8_and c
  have a2 : (hi8 c &&& 255).toBitVec.toNat = c.toBitVec.toNat / 256 := by
    rw [hi8, lo8_and]
    have e : ((8 : Int32) &&& 31) = 8 := by decide
    rw [e, Int32.toBitVec_shiftRight]
    have e2 : ((8 : Int32).toBitVec.smod 32) = 8#32 := by decide
    rw [e2, BitVec.sshiftRight_eq', BitVec.toNat_sshiftRight_of_msb_false (by rw [BitVec.msb_eq_false_iff_two_mul_lt]; omega)]
    show c.toBitVec.toNat >>> 8 % 256 = _
    rw [Nat.shiftRight_eq_div_pow]
    omega
  unfold pairCh
  apply Int32.toBitVec_inj.mp
  apply BitVec.eq_of_toNat_eq
  have f0 : ((0 : Int32) &&& 31) = 0 := by decide
  have f8 : ((8 : Int32) &&& 31) = 8 := by decide
  rw [f0, f8]
  have g : (((lo8 c &&& 255) <<< (0 : Int32)) ||| ((hi8 c &&& 255) <<< (8 : Int32))).toBitVec.toNat = c.toBitVec.toNat := by
    rw [Int32.toBitVec_or, Int32.toBitVec_shiftLeft, Int32.toBitVec_shiftLeft]
    have s0 : ((0 : Int32).toBitVec.smod 32) = 0#32 := by decide
    have s8 : ((8 : Int32).toBitVec.smod 32) = 8#32 := by decide
    rw [s0, s8, BitVec.toNat_or]
    simp only [BitVec.shiftLeft_eq', BitVec.toNat_shiftLeft, a1, a2]
    show (c.toBitVec.toNat % 256) <<< 0 % 2 ^ 32 ||| (c.toBitVec.toNat / 256) <<< 8 % 2 ^ 32 = _
    rw [Nat.shiftLeft_zero, Nat.mod_eq_of_lt (show c.toBitVec.toNat % 256 < 2 ^ 32 by omega), Nat.mod_eq_of_lt (show (c.toBitVec.toNat / 256) <<< 8 < 2 ^ 32 by rw [Nat.shiftLeft_eq]; omega), Nat.or_comm, ← Nat.shiftLeft_add_eq_or_of_lt (by omega), Nat.shiftLeft_eq]
    omega
  show BitVec.toNat (((((lo8 c &&& 255) <<< (0 : Int32)) ||| ((hi8 c &&& 255) <<< (8 : Int32))).toBitVec.setWidth 16).setWidth 32) = _
  rw [BitVec.toNat_setWidth, BitVec.toNat_setWidth, g]
  omega
end StrChars
namespace StrChars
open Jvm Sem ClassFile Op Lib Jvm.Stand Jvm.Free.XT Jvm.Free.ALB Jvm.Free.JM Jvm.Free
open Jvm.Lib.Cold (StaticIs)
/-- the array's cell V codes the n chars f 0 .. f (n - 1) by the coder cd, as the JDK does: coder 1 just where some char is above 255 -/
def Cod (cd : Int32) (n : Nat) (f : Nat → Int32) (V : Cell) : Prop := (cd = 0 ∧ V.slots.size = n ∧ ∀ j, j < n → V.slots[j]? = some (.int (lo8 (f j))) ∧ ¬ 255 < f j) ∨ (cd = 1 ∧ V.slots.size = 2 * n ∧ (∀ j, j < n → V.slots[2 * j]? = some (.int (lo8 (f j))) ∧ V.slots[2 * j + 1]? = some (.int (hi8 (f j)))) ∧ ∃ j, j < n ∧ 255 < f j)
/-- **x is a String of the n chars f 0 .. f (n - 1)**, Latin-1 or UTF-16; its array at t has the cell V -/
def Txt (x t : Addr) (V : Cell) (cd : Int32) (n : Nat) (f : Nat → Int32) (U : State) : Prop := Exact "java/lang/String" x U ∧ Has x "java/lang/String" "value" "[B" (.ref t) U ∧ Has x "java/lang/String" "coder" "B" (.int cd) U ∧ XT.Arr .byte t V U ∧ Cod cd n f V ∧ ∀ j, j < n → ¬ f j < 0 ∧ ¬ 65535 < f j
theorem Txt.mv {x t : Addr} {V : Cell} {cd : Int32} {n : Nat} {f : Nat → Int32} {U U' : State} (h : Txt x t V cd n f U) (hal : U.vm.Alike U'.vm) (hh : U'.heap = U.heap) : Txt x t V cd n f U' := ⟨h.1.mv hal hh, h.2.1.mv hal hh, h.2.2.1.mv hal hh, h.2.2.2.1.mv hal hh, h.2.2.2.2⟩
end StrChars
namespace StrChars.Road
open Jvm Sem ClassFile Op Lib Jvm.Stand Jvm.Free Jvm.Free.XT
open Jvm.Lib.Cold (StaticIs)
theorem consq {a : Array Value} {s : State} {c : Jvm.Cond} {L : List Jvm.Cond} (h0 : c.before a s = true) (h : ∀ w ∈ L, w.before a s = true) : ∀ w ∈ c :: L, w.before a s = true := fun w hw => (List.mem_cons.mp hw).elim (fun e => e ▸ h0) (h w)
/-- the bytes of the chars cs, low before high -/
def wideBytes : List Int32 → List Value
  | [] => []
  | c :: cs => .int (lo8 c) :: .int (hi8 c) :: wideBytes cs
theorem wide_lo (d : Value) : ∀ (cs : List Int32) (j : Nat), j < cs.length → (wideBytes cs).getD (2 * j) d = .int (lo8 (cs.getD j 0))
  | [], j, h => absurd h (Nat.not_lt_zero j)
  | c :: cs, 0, _ => rfl
  | c :: cs, j + 1, h => by
    have q := wide_lo d cs j (by simpa using h)
    rw [show 2 * (j + 1) = 2 * j + 1 + 1 from by omega]
    simpa [wideBytes] using q
theorem wide_hi (d : Value) : ∀ (cs : List Int32) (j : Nat), j < cs.length → (wideBytes cs).getD (2 * j + 1) d = .int (hi8 (cs.getD j 0))
  | [], j, h => absurd h (Nat.not_lt_zero j)
  | c :: cs, 0, _ => rfl
  | c :: cs, j + 1, h => by
    have q := wide_hi d cs j (by simpa using h)
    rw [show 2 * (j + 1) + 1 = 2 * j + 1 + 1 + 1 from by omega]
    simpa [wideBytes] using q
theorem low_at (d : Value) (cs : List Int32) (j : Nat) (h : j < cs.length) : (cs.map fun c => Value.int (lo8 c)).getD j d = .int (lo8 (cs.getD j 0)) := by
  simp [List.getD_eq_getElem?_getD, h]
/-- an array of N2 bytes vs codes the chars cs by the coder cd -/
def CodA (cs : List Int32) (cd N2 : Int32) (vs : List Value) : Prop := (cd = 0 ∧ N2 = Int32.ofNat cs.length ∧ vs = (cs.map fun c => Value.int (lo8 c)) ∧ ∀ c ∈ cs, ¬ 255 < c) ∨ (cd = 1 ∧ N2 = Int32.ofNat (2 * cs.length) ∧ vs = wideBytes cs ∧ ∃ c ∈ cs, 255 < c)
theorem CodA.cod {cs : List Int32} {cd N2 : Int32} {vs : List Value} {V : Cell} (h : CodA cs cd N2 vs) (hn : 2 * cs.length < 2 ^ 31) (hs : V.slots.size = N2.toNatClampNeg) (hv : RoadKit.Has V vs (.int 0)) : Cod cd cs.length (fun j => cs.getD j 0) V := by
  rcases h with ⟨rfl, rfl, rfl, h⟩ | ⟨rfl, rfl, rfl, c, hc, hw⟩
  · rw [n32 (by omega)] at hs
    exact Or.inl ⟨rfl, hs, fun j hj => ⟨by rw [hv j (by omega), low_at _ _ _ hj], by
      have e : cs.getD j 0 = cs[j] := by simp [List.getD_eq_getElem?_getD, hj]
      show ¬ 255 < cs.getD j 0
      rw [e]; exact h _ (List.getElem_mem _)⟩⟩
  · rw [n32 (by omega)] at hs
    obtain ⟨j, hj, rfl⟩ := List.getElem_of_mem hc
    exact Or.inr ⟨rfl, hs, fun j hj => ⟨by rw [hv _ (by omega), wide_lo _ _ _ hj], by rw [hv _ (by omega), wide_hi _ _ _ hj]⟩, j, hj, by
      have e : cs.getD j 0 = cs[j] := by simp [List.getD_eq_getElem?_getD, hj]
      show 255 < cs.getD j 0
      rw [e]; exact hw⟩
/-- an object of exactly java/lang/String, its two fields found: as the laws ask it -/
theorem strObj {Z U : State} {a0 : Array Value} {kI : Nat} (wi : (Jvm.Cond.instantiable ST kI).before a0 Z = true) (al : Z.vm.Alike U.vm) {x : Addr} {v0 c0 : Value} (E : RoadKit.Exa Z U.heap x ST) (V : RoadKit.Fld Z U.heap x ST "value" "[B" v0) (C : RoadKit.Fld Z U.heap x ST "coder" "B" c0) :
    ∃ (D : Cell) (fV fC : Field), Blank ST x D U ∧ Found ST "value" "[B" fV U ∧ Found ST "coder" "B" fC U ∧ D.slots[fV.slot]? = some v0 ∧ D.slots[fC.slot]? = some c0 ∧ RoadKit.slotOf Z ST "value" "[B" = fV.slot ∧ RoadKit.slotOf Z ST "coder" "B" = fC.slot := by
  obtain ⟨D, cfV, kV, iV, fV, hD, gV, stV, knV, obV, asV, slV⟩ := V
  obtain ⟨D', cfC, kC, iC, fC, hD', gC, stC, -, -, asC, slC⟩ := C
  cases hD.symm.trans hD'
  obtain ⟨D2, kD, e1, e2, e3, e4, e5⟩ := E
  cases hD.symm.trans e1
  obtain ⟨c2, k2, i1, i2, i3, -⟩ := Cond.instantiable_spec wi
  cases e2.symm.trans i1
  cases e3.symm.trans i2
  obtain ⟨kU, u1, u2⟩ := al.2.2 _ _ e3
  exact ⟨D, fV, fC, ⟨hD, ⟨knV, fun q hq => by rw [hq] at obV; cases obV⟩, by rw [al.findClass]; exact e2, kU, u1, by rw [u2]; exact i3, by rw [u2]; exact e5 i3⟩, ⟨SBG.found_only al ⟨cfV, kV, iV, gV⟩, stV⟩, ⟨SBG.found_only al ⟨cfC, kC, iC, gC⟩, stC⟩, slV, slC, by simp [RoadKit.slotOf, gV], by simp [RoadKit.slotOf, gC]⟩
theorem sta_is {Z U : State} (al : Z.vm.Alike U.vm) {C n d : String} {v : Value} (S : RoadKit.Sta Z U.heap C n d v) : StaticIs U C n d v := by
  obtain ⟨cfS, iS, kS, fS, st, cS, t1, t2, t3, t4, t5, t6, t7⟩ := S
  exact StaticIs.there (s := { Z with heap := U.heap }) ⟨cfS, iS, kS, fS, st, cS, t1, t2, t3, t4, t5, (fun q => by rw [q] at t6; cases t6), t7⟩ al rfl
end StrChars.Road
namespace StrChars
open Jvm Sem ClassFile Op Lib Jvm.Stand Jvm.Free.XT Jvm.Free.ALB Jvm.Free.JM Jvm.Free
open Jvm.Lib.Cold (StaticIs)
/-- what place i of a byte[]'s cell holds -/
def yv (A : Cell) (i : Nat) : Int32 := match A.slots[i]? with | some (.int x) => x | _ => 0
theorem yv_get {a : Addr} {A : Cell} {U : State} (h : XT.Arr .byte a A U) (ht : Typed .byte A) {i : Nat} (hi : i < A.slots.size) : A.slots[i]? = some (.int (yv A i)) := by
  have e := Array.getElem?_eq_getElem hi
  have f := ht i _ e
  unfold yv; rw [e]
  generalize A.slots[i] = v at f
  cases v <;> simp [fits] at f ⊢
/-- the two arrays are equal, place for place -/
def EqC (A B : Cell) : Prop := A.slots.size = B.slots.size ∧ ∀ i, i < A.slots.size → yv A i = yv B i
/-- a boolean that says whether p -/
def Says01 (q : Prop) (r : Option Value) (s u : State) : Prop := ∃ v : Int32, r = some (.int v) ∧ u.heap = s.heap ∧ ((v = 1 ∧ q) ∨ (v = 0 ∧ ¬ q))
theorem Says01.mv {q : Prop} : ∀ r (U U' V V' : State), U'.heap = U.heap → V.vm.Alike V'.vm → V'.heap = V.heap → Says01 q r U V → Says01 q r U' V' :=
  fun r U U' V V' h1 _ h2 ⟨v, a, b, c⟩ => ⟨v, a, by rw [h1, h2]; exact b, c⟩
namespace LEq
def yN : MethodName := ⟨"java/lang/StringLatin1", "equals", "([B[B)Z"⟩
abbrev yB : ByteArray := jdk_43_method_13_code
theorem d0 : decode yB 0 = .ok (.aload_n 0, 1) := by decide +kernel
theorem d1 : decode yB 1 = .ok (.arraylength, 1) := by decide +kernel
theorem d2 : decode yB 2 = .ok (.aload_n 1, 1) := by decide +kernel
theorem d3 : decode yB 3 = .ok (.arraylength, 1) := by decide +kernel
theorem d4 : decode yB 4 = .ok (.if_icmp (.ne) 30, 3) := by decide +kernel
theorem d7 : decode yB 7 = .ok (.iconst 0, 1) := by decide +kernel
theorem d8 : decode yB 8 = .ok (.istore_n 2, 1) := by decide +kernel
theorem d9 : decode yB 9 = .ok (.iload_n 2, 1) := by decide +kernel
theorem d10 : decode yB 10 = .ok (.aload_n 0, 1) := by decide +kernel
theorem d11 : decode yB 11 = .ok (.arraylength, 1) := by decide +kernel
theorem d12 : decode yB 12 = .ok (.if_icmp (.ge) 20, 3) := by decide +kernel
theorem d15 : decode yB 15 = .ok (.aload_n 0, 1) := by decide +kernel
theorem d16 : decode yB 16 = .ok (.iload_n 2, 1) := by decide +kernel
theorem d17 : decode yB 17 = .ok (.baload, 1) := by decide +kernel
theorem d18 : decode yB 18 = .ok (.aload_n 1, 1) := by decide +kernel
theorem d19 : decode yB 19 = .ok (.iload_n 2, 1) := by decide +kernel
theorem d20 : decode yB 20 = .ok (.baload, 1) := by decide +kernel
theorem d21 : decode yB 21 = .ok (.if_icmp (.eq) 5, 3) := by decide +kernel
theorem d24 : decode yB 24 = .ok (.iconst 0, 1) := by decide +kernel
theorem d25 : decode yB 25 = .ok (.ireturn, 1) := by decide +kernel
theorem d26 : decode yB 26 = .ok (.iinc 2 1, 3) := by decide +kernel
theorem d29 : decode yB 29 = .ok (.goto (-20), 3) := by decide +kernel
theorem d32 : decode yB 32 = .ok (.iconst 1, 1) := by decide +kernel
theorem d33 : decode yB 33 = .ok (.ireturn, 1) := by decide +kernel
theorem d34 : decode yB 34 = .ok (.iconst 0, 1) := by decide +kernel
theorem d35 : decode yB 35 = .ok (.ireturn, 1) := by decide +kernel
def site : List Cond := []
def tab : Cond := tabOf yN yB 3 (some .boolean) site
def P (a : Addr) (A : Cell) (b : Addr) (B : Cell) (args : Array Value) (s : State) : Prop := args = #[.ref a, .ref b] ∧ XT.Arr .byte a A s ∧ Typed .byte A ∧ XT.Arr .byte b B s ∧ Typed .byte B
/-- whether two byte[] are equal, place for place -/
theorem law (l : Launch) (a : Addr) (A : Cell) (b : Addr) (B : Cell) : Law l yN 2 2 0 0 yB 3 (some .boolean) site (P a A b B) (Says01 (EqC A B)) [] 0 0 := by
  refine Law.of_walk (plainFor_of_name (by decide +kernel)) (by decide +kernel) (by decide +kernel) (by decide) (fun _ _ h => by rw [h.1]; rfl) (fun _ U U' hal hh h => ⟨h.1, h.2.1.mv hal hh, h.2.2.1, h.2.2.2.1.mv hal hh, h.2.2.2.2⟩) (fun r U U' V V' h1 hal h2 h => Says01.mv r U U' V V' h1 hal h2 h) ?_
  intro p e s m args below meth c s₁ X0 hexec hbytes hml hret hlk hnm hown hh0 W hP
  obtain ⟨rfl, hA, tA, hB, tB⟩ := hP
  have a31 := hA.2.2.2
  have b31 := hB.2.2.2
  have hA0 := hA.mv X0.warmed.alike hh0
  have hB0 := hB.mv X0.warmed.alike hh0
  have c1 : Steps p.tables e below (s₁.setTop (entryFrame m #[.ref a, .ref b] 3)) (s₁.setTop (mkF m 0 #[.val (.ref a), .val (.ref b), .unset] [])) := entry rfl
  have c2 : Steps p.tables e below (s₁.setTop (entryFrame m #[.ref a, .ref b] 3)) (s₁.setTop (mkF m 4 #[.val (.ref a), .val (.ref b), .unset] [.int (Int32.ofNat B.slots.size), .int (Int32.ofNat A.slots.size)])) := c1.trans (by
    refine XS.aloadN X0.here hexec rfl (hb hbytes d0) rfl rfl ?_
    refine X0.alen hexec hA0 rfl rfl (hb hbytes d1) ?_
    refine XS.aloadN X0.here hexec rfl (hb hbytes d2) rfl rfl ?_
    refine X0.alen hexec hB0 rfl rfl (hb hbytes d3) ?_
    exact Steps.refl _)
  by_cases hs : A.slots.size = B.slots.size
  · have c3 : Steps p.tables e below (s₁.setTop (entryFrame m #[.ref a, .ref b] 3)) (s₁.setTop (mkF m 9 #[.val (.ref a), .val (.ref b), .val (.int 0)] [])) := c2.trans (by
      refine XS.icmpNo X0.here hexec rfl (hb hbytes d4) rfl (ii_ne_f (by rw [hs])) ?_
      refine iconstV X0.here hexec rfl 0 (hb hbytes d7) (by decide) ?_
      refine XS.istoreN X0.here hexec rfl (hb hbytes d8) rfl rfl ?_
      exact Steps.refl _)
    have loop : ∀ (r i : Nat), i + r = A.slots.size → (∀ j, j < i → yv A j = yv B j) → Steps p.tables e below (s₁.setTop (entryFrame m #[.ref a, .ref b] 3)) (s₁.setTop (mkF m 9 #[.val (.ref a), .val (.ref b), .val (.int (Int32.ofNat i))] [])) → ∃ (pc : Nat) (Ls : Array Slot) (v : Int32), (pc = 25 ∨ pc = 33) ∧ ((v = 1 ∧ EqC A B) ∨ (v = 0 ∧ ¬ EqC A B)) ∧ Steps p.tables e below (s₁.setTop (entryFrame m #[.ref a, .ref b] 3)) (s₁.setTop (mkF m pc Ls [.int v])) := by
      intro r
      induction r with
      | zero =>
        intro i hi he cl
        exact ⟨33, _, 1, Or.inr rfl, Or.inl ⟨rfl, hs, fun j hj => he j (by omega)⟩, cl.trans (by
          refine XS.iloadN X0.here hexec rfl (hb hbytes d9) rfl ?_
          refine XS.aloadN X0.here hexec rfl (hb hbytes d10) rfl rfl ?_
          refine X0.alen hexec hA0 rfl rfl (hb hbytes d11) ?_
          refine XS.icmpYes X0.here hexec rfl (pc0 := 12) rfl (hb hbytes d12) rfl (ii_ge_t (nlt32 (by omega) (by omega))) (by decide) rfl ?_
          refine iconstV X0.here hexec rfl 1 (hb hbytes d32) (by decide) ?_
          exact Steps.refl _)⟩
      | succ r ih =>
        intro i hi he cl
        have c4 : Steps p.tables e below (s₁.setTop (entryFrame m #[.ref a, .ref b] 3)) (s₁.setTop (mkF m 21 #[.val (.ref a), .val (.ref b), .val (.int (Int32.ofNat i))] [.int (yv B i), .int (yv A i)])) := cl.trans (by
          refine XS.iloadN X0.here hexec rfl (hb hbytes d9) rfl ?_
          refine XS.aloadN X0.here hexec rfl (hb hbytes d10) rfl rfl ?_
          refine X0.alen hexec hA0 rfl rfl (hb hbytes d11) ?_
          refine XS.icmpNo X0.here hexec rfl (hb hbytes d12) rfl (ii_ge_f (lt32 (by omega) (by omega))) ?_
          refine XS.aloadN X0.here hexec rfl (hb hbytes d15) rfl rfl ?_
          refine XS.iloadN X0.here hexec rfl (hb hbytes d16) rfl ?_
          refine X0.aget hexec hA0 rfl (yv_get hA tA (i := i) (by omega)) rfl rfl (hb hbytes d17) ?_
          refine XS.aloadN X0.here hexec rfl (hb hbytes d18) rfl rfl ?_
          refine XS.iloadN X0.here hexec rfl (hb hbytes d19) rfl ?_
          refine X0.aget hexec hB0 rfl (yv_get hB tB (i := i) (by omega)) rfl rfl (hb hbytes d20) ?_
          exact Steps.refl _)
        by_cases hv : yv A i = yv B i
        · have c5 : Steps p.tables e below (s₁.setTop (entryFrame m #[.ref a, .ref b] 3)) (s₁.setTop (mkF m 9 #[.val (.ref a), .val (.ref b), .val (.int (Int32.ofNat i + 1))] [])) := c4.trans (by
            refine XS.icmpYes X0.here hexec rfl (pc0 := 21) rfl (hb hbytes d21) rfl (ii_eq_t hv) (by decide) rfl ?_
            refine iincV X0.here hexec rfl 1 (hb hbytes d26) (by decide) rfl rfl ?_
            refine XS.goto X0.here hexec rfl (pc0 := 29) rfl (hb hbytes d29) (by decide) rfl ?_
            exact Steps.refl _)
          rw [succ32] at c5
          exact ih (i + 1) (by omega) (fun j hj => by
            by_cases e : j = i
            · rw [e]; exact hv
            · exact he j (by omega)) c5
        · exact ⟨25, _, 0, Or.inl rfl, Or.inr ⟨rfl, fun q => hv (q.2 i (by omega))⟩, c4.trans (by
            refine XS.icmpNo X0.here hexec rfl (hb hbytes d21) rfl (ii_eq_f hv) ?_
            refine iconstV X0.here hexec rfl 0 (hb hbytes d24) (by decide) ?_
            exact Steps.refl _)⟩
    obtain ⟨pc, Ls, v, hpc, hv, cz⟩ := loop A.slots.size 0 (by omega) (fun j hj => absurd hj (Nat.not_lt_zero j)) c3
    have nv : narrow .boolean (.int v) = .int v := by rcases hv with ⟨rfl, -⟩ | ⟨rfl, -⟩ <;> rfl
    rcases hpc with rfl | rfl
    · exact ⟨s₁, some (.int v), _, _, _, X0, rfl, rfl, rfl, (fun h => by cases h), ⟨v, rfl, hh0, hv⟩, fun fs hl => cz.trans (X0.ireturnOut hexec hret nv (Or.inr (Or.inl rfl)) (hb hbytes d25) hl)⟩
    · exact ⟨s₁, some (.int v), _, _, _, X0, rfl, rfl, rfl, (fun h => by cases h), ⟨v, rfl, hh0, hv⟩, fun fs hl => cz.trans (X0.ireturnOut hexec hret nv (Or.inr (Or.inl rfl)) (hb hbytes d33) hl)⟩
  · have c3 : Steps p.tables e below (s₁.setTop (entryFrame m #[.ref a, .ref b] 3)) (s₁.setTop (mkF m 35 #[.val (.ref a), .val (.ref b), .unset] [.int 0])) := c2.trans (by
      refine XS.icmpYes X0.here hexec rfl (pc0 := 4) rfl (hb hbytes d4) rfl (ii_ne_t (ne32 a31 b31 hs)) (by decide) rfl ?_
      refine iconstV X0.here hexec rfl 0 (hb hbytes d34) (by decide) ?_
      exact Steps.refl _)
    exact ⟨s₁, some (.int 0), _, _, _, X0, rfl, rfl, rfl, (fun h => by cases h), ⟨0, rfl, hh0, Or.inr ⟨rfl, fun q => hs q.1⟩⟩, fun fs hl => c3.trans (X0.ireturnOut hexec hret rfl (Or.inr (Or.inl rfl)) (hb hbytes d35) hl)⟩
end LEq
theorem Cod.ty {cd : Int32} {n : Nat} {f : Nat → Int32} {V : Cell} (h : Cod cd n f V) : Typed .byte V := fun i v hv => by
  have hi : i < V.slots.size := (Array.getElem?_eq_some_iff.mp hv).1
  rcases h with ⟨-, k1, k2⟩ | ⟨-, k1, k2, -⟩
  · rw [(k2 i (by omega)).1] at hv; cases hv; exact fits_lo8 _
  · rcases Nat.mod_two_eq_zero_or_one i with e | e
    · obtain ⟨j, rfl⟩ : ∃ j, i = 2 * j := ⟨i / 2, by omega⟩
      rw [(k2 j (by omega)).1] at hv; cases hv; exact fits_lo8 _
    · obtain ⟨j, rfl⟩ : ∃ j, i = 2 * j + 1 := ⟨i / 2, by omega⟩
      rw [(k2 j (by omega)).2] at hv; cases hv; exact fits_lo8 _
/-- the same text -/
def SameT (n : Nat) (f : Nat → Int32) (k : Nat) (g : Nat → Int32) : Prop := n = k ∧ ∀ j, j < n → f j = g j
theorem lo8_inj {x y : Int32} (h0 : ¬ x < 0) (h1 : ¬ 255 < x) (k0 : ¬ y < 0) (k1 : ¬ 255 < y) (h : lo8 x = lo8 y) : x = y := by
  rw [← lo8_mask h0 h1, ← lo8_mask k0 k1, h]
/-- arrays coded by one coder are equal just where the texts are -/
theorem Cod.eqv {cd : Int32} {n k : Nat} {f g : Nat → Int32} {V V' : Cell} (h : Cod cd n f V) (h' : Cod cd k g V') (hf : ∀ j, j < n → ¬ f j < 0 ∧ ¬ 65535 < f j) (hg : ∀ j, j < k → ¬ g j < 0 ∧ ¬ 65535 < g j) : EqC V V' ↔ SameT n f k g := by
  have yvv : ∀ {W : Cell} {i : Nat} {x : Int32}, W.slots[i]? = some (.int x) → yv W i = x := fun q => by unfold yv; rw [q]
  rcases h with ⟨rfl, k1, k2⟩ | ⟨rfl, k1, k2, -⟩
  · rcases h' with ⟨-, m1, m2⟩ | ⟨e, -⟩
    · constructor
      · rintro ⟨e1, e2⟩
        refine ⟨by omega, fun j hj => ?_⟩
        have q := e2 j (by omega)
        rw [yvv (k2 j hj).1, yvv (m2 j (by omega)).1] at q
        exact lo8_inj (hf j hj).1 (k2 j hj).2 (hg j (by omega)).1 (m2 j (by omega)).2 q
      · rintro ⟨rfl, e2⟩
        refine ⟨by omega, fun j hj => ?_⟩
        rw [yvv (k2 j (by omega)).1, yvv (m2 j (by omega)).1, e2 j (by omega)]
    · exact absurd e (by decide)
  · rcases h' with ⟨e, -⟩ | ⟨-, m1, m2, -⟩
    · exact absurd e (by decide)
    · constructor
      · rintro ⟨e1, e2⟩
        refine ⟨by omega, fun j hj => ?_⟩
        have q1 := e2 (2 * j) (by omega)
        have q2 := e2 (2 * j + 1) (by omega)
        rw [yvv (k2 j hj).1, yvv (m2 j (by omega)).1] at q1
        rw [yvv (k2 j hj).2, yvv (m2 j (by omega)).2] at q2
        rw [← pair_says (hf j hj).1 (hf j hj).2, ← pair_says (hg j (by omega)).1 (hg j (by omega)).2, q1, q2]
      · rintro ⟨rfl, e2⟩
        refine ⟨by omega, fun i hi => ?_⟩
        rcases Nat.mod_two_eq_zero_or_one i with e | e
        · obtain ⟨j, rfl⟩ : ∃ j, i = 2 * j := ⟨i / 2, by omega⟩
          rw [yvv (k2 j (by omega)).1, yvv (m2 j (by omega)).1, e2 j (by omega)]
        · obtain ⟨j, rfl⟩ : ∃ j, i = 2 * j + 1 := ⟨i / 2, by omega⟩
          rw [yvv (k2 j (by omega)).2, yvv (m2 j (by omega)).2, e2 j (by omega)]
/-- two codings differ: so do the texts -/
theorem Cod.dif {cd cd' : Int32} {n k : Nat} {f g : Nat → Int32} {V V' : Cell} (h : Cod cd n f V) (h' : Cod cd' k g V') (hne : ¬ cd = cd') : ¬ SameT n f k g := by
  rintro ⟨rfl, e⟩
  rcases h with ⟨rfl, -, k2⟩ | ⟨rfl, -, -, j, hj, hw⟩
  · rcases h' with ⟨rfl, -⟩ | ⟨-, -, -, j, hj, hw⟩
    · exact hne rfl
    · exact (k2 j hj).2 (by rw [e j hj]; exact hw)
  · rcases h' with ⟨-, -, m2⟩ | ⟨rfl, -⟩
    · exact (m2 j hj).2 (by rw [← e j hj]; exact hw)
    · exact hne rfl
/-- an object of exactly C is an instance of C -/
theorem cinst {p : Program} {l : Launch} {e : Env} {R : Room} {s : State} {m : MethodId} {args : Array Value} {below : List Frame} {meth : Method} {c : Code} {T : State} {locs : List Loc} {cells slots : Nat} (X : Stand p l e R s m args below meth c T locs cells slots) (hexec : p.tables.exec = Jvm.exec) {own C : String} {index : Nat} (hown : s.vm.findClass own = some m.cls) (hlink : (Cond.classLink own index C).before args s = true) {a : Addr} (hE : Exact C a T)
    {g : JFrame} (hg : g.method = m) {rest : List Value} (hstack : g.stack = .ref a :: rest) (hdg : decode c.code g.pc = .ok (.instanceof index, 3)) :
    ∃ T', Stand p l e R s m args below meth c T' locs cells slots ∧ T'.heap = T.heap ∧ ∀ target, Steps p.tables e below (T'.setTop { g with pc := g.pc + 3, stack := .int 1 :: rest }) target → Steps p.tables e below (T.setTop g) target := by
  obtain ⟨cB, h1, D, h2, h3, h4⟩ := hE
  have h1' : s.vm.findClass C = some cB := by rw [← X.warmed.alike.findClass]; exact h1
  obtain ⟨vm', X', st⟩ := X.instanceofYes hexec hown hlink h2 h4 h1' (by rw [h3]; exact Jvm.Free.SB.assignable_self _ _) hg hstack hdg
  exact ⟨_, X', rfl, st⟩
theorem cself {p : Program} {l : Launch} {e : Env} {R : Room} {s : State} {m : MethodId} {args : Array Value} {below : List Frame} {meth : Method} {c : Code} {T : State} {locs : List Loc} {cells slots : Nat} (X : Stand p l e R s m args below meth c T locs cells slots) (hexec : p.tables.exec = Jvm.exec) {own C : String} {index : Nat} (hown : s.vm.findClass own = some m.cls) (hlink : (Cond.classLink own index C).before args s = true) {a : Addr} (hE : Exact C a T)
    {g : JFrame} (hg : g.method = m) {rest : List Value} (hstack : g.stack = .ref a :: rest) (hdg : decode c.code g.pc = .ok (.checkcast index, 3)) :
    ∃ T', Stand p l e R s m args below meth c T' locs cells slots ∧ T'.heap = T.heap ∧ ∀ target, Steps p.tables e below (T'.setTop { g with pc := g.pc + 3, stack := .ref a :: rest }) target → Steps p.tables e below (T.setTop g) target := by
  obtain ⟨cB, h1, D, h2, h3, h4⟩ := hE
  have h1' : s.vm.findClass C = some cB := by rw [← X.warmed.alike.findClass]; exact h1
  obtain ⟨vm', X', st⟩ := X.checkcastYes hexec hown hlink h2 h4 h1' (by rw [h3]; exact Jvm.Free.SB.assignable_self _ _) hg hstack hdg
  exact ⟨_, X', rfl, fun t h => st t (by rw [← hstack] at h; exact h)⟩
namespace SEq
def yN : MethodName := ⟨"java/lang/String", "equals", "(Ljava/lang/Object;)Z"⟩
abbrev yB : ByteArray := jdk_42_method_66_code
theorem d0 : decode yB 0 = .ok (.aload_n 0, 1) := by decide +kernel
theorem d1 : decode yB 1 = .ok (.aload_n 1, 1) := by decide +kernel
theorem d2 : decode yB 2 = .ok (.if_acmp (.ne) 5, 3) := by decide +kernel
theorem d5 : decode yB 5 = .ok (.iconst 1, 1) := by decide +kernel
theorem d6 : decode yB 6 = .ok (.ireturn, 1) := by decide +kernel
theorem d7 : decode yB 7 = .ok (.aload_n 1, 1) := by decide +kernel
theorem d8 : decode yB 8 = .ok (.instanceof 10, 3) := by decide +kernel
theorem d11 : decode yB 11 = .ok (.ifCond (.eq) 43, 3) := by decide +kernel
theorem d14 : decode yB 14 = .ok (.aload_n 1, 1) := by decide +kernel
theorem d15 : decode yB 15 = .ok (.checkcast 10, 3) := by decide +kernel
theorem d18 : decode yB 18 = .ok (.astore_n 2, 1) := by decide +kernel
theorem d19 : decode yB 19 = .ok (.getstatic 38, 3) := by decide +kernel
theorem d22 : decode yB 22 = .ok (.ifCond (.eq) 14, 3) := by decide +kernel
theorem d25 : decode yB 25 = .ok (.aload_n 0, 1) := by decide +kernel
theorem d26 : decode yB 26 = .ok (.getfield 15, 3) := by decide +kernel
theorem d29 : decode yB 29 = .ok (.aload_n 2, 1) := by decide +kernel
theorem d30 : decode yB 30 = .ok (.getfield 15, 3) := by decide +kernel
theorem d33 : decode yB 33 = .ok (.if_icmp (.ne) 21, 3) := by decide +kernel
theorem d36 : decode yB 36 = .ok (.aload_n 0, 1) := by decide +kernel
theorem d37 : decode yB 37 = .ok (.getfield 9, 3) := by decide +kernel
theorem d40 : decode yB 40 = .ok (.aload_n 2, 1) := by decide +kernel
theorem d41 : decode yB 41 = .ok (.getfield 9, 3) := by decide +kernel
theorem d44 : decode yB 44 = .ok (.invokestatic 541, 3) := by decide +kernel
theorem d47 : decode yB 47 = .ok (.ifCond (.eq) 7, 3) := by decide +kernel
theorem d50 : decode yB 50 = .ok (.iconst 1, 1) := by decide +kernel
theorem d51 : decode yB 51 = .ok (.goto 4, 3) := by decide +kernel
theorem d54 : decode yB 54 = .ok (.iconst 0, 1) := by decide +kernel
theorem d55 : decode yB 55 = .ok (.ireturn, 1) := by decide +kernel
def site : List Cond := [.classLink "java/lang/String" 10 "java/lang/String", .fieldLink "java/lang/String" 38 "java/lang/String" "COMPACT_STRINGS" "Z", .fieldLink "java/lang/String" 15 "java/lang/String" "coder" "B", .fieldLink "java/lang/String" 9 "java/lang/String" "value" "[B", LEq.tab] ++ staticW "java/lang/String" 541 LEq.yN
def tab : Cond := tabOf yN yB 3 (some .boolean) site
def P (x t : Addr) (V : Cell) (cd : Int32) (n : Nat) (f : Nat → Int32) (y t' : Addr) (V' : Cell) (cd' : Int32) (k : Nat) (g : Nat → Int32) (z : Int32) (args : Array Value) (s : State) : Prop := args = #[.ref x, .ref y] ∧ Txt x t V cd n f s ∧ Txt y t' V' cd' k g s ∧ StaticIs s "java/lang/String" "COMPACT_STRINGS" "Z" (.int z) ∧ ¬ z = 0
/-- equals(Object) of two Strings: whether the texts are the same -/
theorem law (l : Launch) (x t : Addr) (V : Cell) (cd : Int32) (n : Nat) (f : Nat → Int32) (y t' : Addr) (V' : Cell) (cd' : Int32) (k : Nat) (g : Nat → Int32) (z : Int32) : Law l yN 2 1 1 14 yB 3 (some .boolean) site (P x t V cd n f y t' V' cd' k g z) (Says01 (SameT n f k g)) [] 0 0 := by
  refine Law.of_walk (plainFor_of_name (by decide +kernel)) (by decide +kernel) (by decide +kernel) (by decide) (fun _ _ h => by rw [h.1]; rfl) (fun _ U U' hal hh h => ⟨h.1, h.2.1.mv hal hh, h.2.2.1.mv hal hh, h.2.2.2.1.there hal hh, h.2.2.2.2⟩) (fun r U U' V V' h1 hal h2 h => Says01.mv r U U' V V' h1 hal h2 h) ?_
  intro p e s m args below meth c s₁ X0 hexec hbytes hml hret hlk hnm hown hh0 W hP
  obtain ⟨rfl, hx, hy, s1, hz⟩ := hP
  have c1 : Steps p.tables e below (s₁.setTop (entryFrame m #[.ref x, .ref y] 3)) (s₁.setTop (mkF m 2 #[.val (.ref x), .val (.ref y), .unset] [.ref y, .ref x])) := Steps.trans (entry rfl) (by
    show Steps p.tables e below (s₁.setTop (mkF m 0 #[.val (.ref x), .val (.ref y), .unset] [])) _
    refine XS.aloadN X0.here hexec rfl (hb hbytes d0) rfl rfl ?_
    refine XS.aloadN X0.here hexec rfl (hb hbytes d1) rfl rfl ?_
    exact Steps.refl _)
  by_cases hxy : x = y
  · have c2 : Steps p.tables e below (s₁.setTop (entryFrame m #[.ref x, .ref y] 3)) (s₁.setTop (mkF m 6 #[.val (.ref x), .val (.ref y), .unset] [.int 1])) := c1.trans (by
      refine acmpNo X0.here hexec rfl (hb hbytes d2) rfl rfl rfl (by simp [acmp, hxy]) ?_
      refine iconstV X0.here hexec rfl 1 (hb hbytes d5) (by decide) ?_
      exact Steps.refl _)
    subst hxy
    have ec : cd = cd' := by
      obtain ⟨D, fd, a1, a2, a3⟩ := hx.2.2.1
      obtain ⟨D', fd', b1, b2, b3⟩ := hy.2.2.1
      cases a1.symm.trans b1
      obtain ⟨q1, q2, q3, q4⟩ := a2.1
      obtain ⟨r1, r2, r3, r4⟩ := b2.1
      cases q4.symm.trans r4
      cases a3.symm.trans b3; rfl
    have et : t = t' := by
      obtain ⟨D, fd, a1, a2, a3⟩ := hx.2.1
      obtain ⟨D', fd', b1, b2, b3⟩ := hy.2.1
      cases a1.symm.trans b1
      obtain ⟨q1, q2, q3, q4⟩ := a2.1
      obtain ⟨r1, r2, r3, r4⟩ := b2.1
      cases q4.symm.trans r4
      cases a3.symm.trans b3; rfl
    subst ec et
    have ev : V = V' := by cases hx.2.2.2.1.1.symm.trans hy.2.2.2.1.1; rfl
    subst ev
    have hs : SameT n f k g := (Cod.eqv hx.2.2.2.2.1 hy.2.2.2.2.1 hx.2.2.2.2.2 hy.2.2.2.2.2).mp ⟨rfl, fun _ _ => rfl⟩
    exact ⟨s₁, some (.int 1), _, _, _, X0, rfl, rfl, rfl, (fun h => by cases h), ⟨1, rfl, hh0, Or.inl ⟨rfl, hs⟩⟩, fun fs hl => c2.trans (X0.ireturnOut hexec hret rfl (Or.inr (Or.inl rfl)) (hb hbytes d6) hl)⟩
  · have c2 : Steps p.tables e below (s₁.setTop (entryFrame m #[.ref x, .ref y] 3)) (s₁.setTop (mkF m 8 #[.val (.ref x), .val (.ref y), .unset] [.ref y])) := c1.trans (by
      refine acmpYes X0.here hexec rfl (pc0 := 2) rfl (hb hbytes d2) rfl rfl rfl (by simp [acmp, hxy]) (by decide) rfl ?_
      refine XS.aloadN X0.here hexec rfl (hb hbytes d7) rfl rfl ?_
      exact Steps.refl _)
    obtain ⟨T3, X3, q3, st3⟩ := cinst X0 hexec hown (wk W (.classLink "java/lang/String" 10 "java/lang/String")) (hy.mv X0.warmed.alike hh0).1 (g := (mkF m 8 #[.val (.ref x), .val (.ref y), .unset] [.ref y])) rfl (rest := []) rfl (hb hbytes d8)
    have hh3 := q3.trans hh0
    have c4 : Steps p.tables e below (s₁.setTop (entryFrame m #[.ref x, .ref y] 3)) (T3.setTop (mkF m 15 #[.val (.ref x), .val (.ref y), .unset] [.ref y])) := (c2.trans (st3 _ (Steps.refl _))).trans (by
      refine XS.ifNo X3.here hexec rfl (hb hbytes d11) rfl (i0_eq_f (by decide)) ?_
      refine XS.aloadN X3.here hexec rfl (hb hbytes d14) rfl rfl ?_
      exact Steps.refl _)
    obtain ⟨T5, X5, q5, st5⟩ := cself X3 hexec hown (wk W (.classLink "java/lang/String" 10 "java/lang/String")) (hy.mv X3.warmed.alike hh3).1 (g := (mkF m 15 #[.val (.ref x), .val (.ref y), .unset] [.ref y])) rfl (rest := []) rfl (hb hbytes d15)
    have hh5 := q5.trans hh3
    have c6 : Steps p.tables e below (s₁.setTop (entryFrame m #[.ref x, .ref y] 3)) (T5.setTop (mkF m 19 #[.val (.ref x), .val (.ref y), .val (.ref y)] [])) := (c4.trans (st5 _ (Steps.refl _))).trans (by
      refine XS.astoreN X5.here hexec rfl (hb hbytes d18) rfl rfl rfl ?_
      exact Steps.refl _)
    obtain ⟨T7, X7, q7, st7⟩ := X5.sget hexec hown (wk W (.fieldLink "java/lang/String" 38 "java/lang/String" "COMPACT_STRINGS" "Z")) s1 (fun _ _ h => by rw [hh5]; exact h) (g := (mkF m 19 #[.val (.ref x), .val (.ref y), .val (.ref y)] [])) rfl (hb hbytes d19)
    have hh7 := q7.trans hh5
    have c8 : Steps p.tables e below (s₁.setTop (entryFrame m #[.ref x, .ref y] 3)) (T7.setTop (mkF m 26 #[.val (.ref x), .val (.ref y), .val (.ref y)] [.ref x])) := (c6.trans (st7 _ (Steps.refl _))).trans (by
      refine XS.ifNo X7.here hexec rfl (hb hbytes d22) rfl (i0_eq_f hz) ?_
      refine XS.aloadN X7.here hexec rfl (hb hbytes d25) rfl rfl ?_
      exact Steps.refl _)
    obtain ⟨T9, X9, q9, st9⟩ := X7.hget hexec hown (wk W (.fieldLink "java/lang/String" 15 "java/lang/String" "coder" "B")) (hx.mv X7.warmed.alike hh7).2.2.1 (g := (mkF m 26 #[.val (.ref x), .val (.ref y), .val (.ref y)] [.ref x])) rfl (rest := []) rfl (hb hbytes d26)
    have hh9 := q9.trans hh7
    have c10 : Steps p.tables e below (s₁.setTop (entryFrame m #[.ref x, .ref y] 3)) (T9.setTop (mkF m 30 #[.val (.ref x), .val (.ref y), .val (.ref y)] [.ref y, .int cd])) := (c8.trans (st9 _ (Steps.refl _))).trans (by
      refine XS.aloadN X9.here hexec rfl (hb hbytes d29) rfl rfl ?_
      exact Steps.refl _)
    obtain ⟨T11, X11, q11, st11⟩ := X9.hget hexec hown (wk W (.fieldLink "java/lang/String" 15 "java/lang/String" "coder" "B")) (hy.mv X9.warmed.alike hh9).2.2.1 (g := (mkF m 30 #[.val (.ref x), .val (.ref y), .val (.ref y)] [.ref y, .int cd])) rfl (rest := [.int cd]) rfl (hb hbytes d30)
    have hh11 := q11.trans hh9
    have c12 : Steps p.tables e below (s₁.setTop (entryFrame m #[.ref x, .ref y] 3)) (T11.setTop (mkF m 33 #[.val (.ref x), .val (.ref y), .val (.ref y)] [.int cd', .int cd])) := c10.trans (st11 _ (Steps.refl _))
    by_cases hcd : cd = cd'
    · subst hcd
      have c13 : Steps p.tables e below (s₁.setTop (entryFrame m #[.ref x, .ref y] 3)) (T11.setTop (mkF m 37 #[.val (.ref x), .val (.ref y), .val (.ref y)] [.ref x])) := c12.trans (by
        refine XS.icmpNo X11.here hexec rfl (hb hbytes d33) rfl (ii_ne_f rfl) ?_
        refine XS.aloadN X11.here hexec rfl (hb hbytes d36) rfl rfl ?_
        exact Steps.refl _)
      obtain ⟨T14, X14, q14, st14⟩ := X11.hget hexec hown (wk W (.fieldLink "java/lang/String" 9 "java/lang/String" "value" "[B")) (hx.mv X11.warmed.alike hh11).2.1 (g := (mkF m 37 #[.val (.ref x), .val (.ref y), .val (.ref y)] [.ref x])) rfl (rest := []) rfl (hb hbytes d37)
      have hh14 := q14.trans hh11
      have c15 : Steps p.tables e below (s₁.setTop (entryFrame m #[.ref x, .ref y] 3)) (T14.setTop (mkF m 41 #[.val (.ref x), .val (.ref y), .val (.ref y)] [.ref y, .ref t])) := (c13.trans (st14 _ (Steps.refl _))).trans (by
        refine XS.aloadN X14.here hexec rfl (hb hbytes d40) rfl rfl ?_
        exact Steps.refl _)
      obtain ⟨T16, X16, q16, st16⟩ := X14.hget hexec hown (wk W (.fieldLink "java/lang/String" 9 "java/lang/String" "value" "[B")) (hy.mv X14.warmed.alike hh14).2.1 (g := (mkF m 41 #[.val (.ref x), .val (.ref y), .val (.ref y)] [.ref y, .ref t])) rfl (rest := [.ref t]) rfl (hb hbytes d41)
      have hh16 := q16.trans hh14
      have c17 : Steps p.tables e below (s₁.setTop (entryFrame m #[.ref x, .ref y] 3)) (T16.setTop (mkF m 44 #[.val (.ref x), .val (.ref y), .val (.ref y)] [.ref t', .ref t])) := c15.trans (st16 _ (Steps.refl _))
      obtain ⟨v18, T18, X18, E18, g18⟩ := X16.callS hexec (LEq.law l t V t' V') hown (wks W (staticW "java/lang/String" 541 LEq.yN)) (wk W LEq.tab) (W := 0) (Nat.le_of_ble_eq_true rfl) (Nat.le_of_ble_eq_true rfl) (Nat.le_refl _) (Nat.le_refl _) (g := (mkF m 44 #[.val (.ref x), .val (.ref y), .val (.ref y)] [.ref t', .ref t])) rfl (by rw [hml]; rfl) c17 (argsL := [.ref t, .ref t']) (rest := []) rfl rfl (by show 2 * 0 + 0 ≤ _; decide) (hb hbytes d44) (⟨rfl, hx.2.2.2.1.mv X16.warmed.alike hh16, hx.2.2.2.2.1.ty, hy.2.2.2.1.mv X16.warmed.alike hh16, hy.2.2.2.2.1.ty⟩)
      obtain ⟨v, rfl, q18, hv⟩ := E18
      have iff := Cod.eqv hx.2.2.2.2.1 hy.2.2.2.2.1 hx.2.2.2.2.2 hy.2.2.2.2.2
      rcases hv with ⟨rfl, he⟩ | ⟨rfl, he⟩
      · have c19 : Steps p.tables e below (s₁.setTop (entryFrame m #[.ref x, .ref y] 3)) (T18.setTop (mkF m 55 #[.val (.ref x), .val (.ref y), .val (.ref y)] [.int 1])) := Steps.trans g18 (by
          refine XS.ifNo X18.here hexec rfl (hb hbytes d47) rfl (i0_eq_f (by decide)) ?_
          refine iconstV X18.here hexec rfl 1 (hb hbytes d50) (by decide) ?_
          refine XS.goto X18.here hexec rfl (pc0 := 51) rfl (hb hbytes d51) (by decide) rfl ?_
          exact Steps.refl _)
        exact ⟨T18, some (.int 1), _, _, _, X18, rfl, rfl, rfl, (fun h => by cases h), ⟨1, rfl, q18.trans hh16, Or.inl ⟨rfl, iff.mp he⟩⟩, fun fs hl => c19.trans (X18.ireturnOut hexec hret rfl (Or.inr (Or.inl rfl)) (hb hbytes d55) hl)⟩
      · have c19 : Steps p.tables e below (s₁.setTop (entryFrame m #[.ref x, .ref y] 3)) (T18.setTop (mkF m 55 #[.val (.ref x), .val (.ref y), .val (.ref y)] [.int 0])) := Steps.trans g18 (by
          refine XS.ifYes X18.here hexec rfl (pc0 := 47) rfl (hb hbytes d47) rfl (i0_eq_t rfl) (by decide) rfl ?_
          refine iconstV X18.here hexec rfl 0 (hb hbytes d54) (by decide) ?_
          exact Steps.refl _)
        exact ⟨T18, some (.int 0), _, _, _, X18, rfl, rfl, rfl, (fun h => by cases h), ⟨0, rfl, q18.trans hh16, Or.inr ⟨rfl, fun q => he (iff.mpr q)⟩⟩, fun fs hl => c19.trans (X18.ireturnOut hexec hret rfl (Or.inr (Or.inl rfl)) (hb hbytes d55) hl)⟩
    · have c13 : Steps p.tables e below (s₁.setTop (entryFrame m #[.ref x, .ref y] 3)) (T11.setTop (mkF m 55 #[.val (.ref x), .val (.ref y), .val (.ref y)] [.int 0])) := c12.trans (by
        refine XS.icmpYes X11.here hexec rfl (pc0 := 33) rfl (hb hbytes d33) rfl (ii_ne_t hcd) (by decide) rfl ?_
        refine iconstV X11.here hexec rfl 0 (hb hbytes d54) (by decide) ?_
        exact Steps.refl _)
      exact ⟨T11, some (.int 0), _, _, _, X11, rfl, rfl, rfl, (fun h => by cases h), ⟨0, rfl, hh11, Or.inr ⟨rfl, Cod.dif hx.2.2.2.2.1 hy.2.2.2.2.1 hcd⟩⟩, fun fs hl => c13.trans (X11.ireturnOut hexec hret rfl (Or.inr (Or.inl rfl)) (hb hbytes d55) hl)⟩
theorem pays {l : Launch} {R : Room} {p : Program} {e : Env} {below : List Frame} {s : State} {sargs : Array Value} {len W : Nat} (x t : Addr) (V : Cell) (cd : Int32) (n : Nat) (f : Nat → Int32) (y t' : Addr) (V' : Cell) (cd' : Int32) (k : Nat) (g : Nat → Int32) (z : Int32) (htab : tab.before sargs s = true) (hfr : 2 ≤ R.frames) (hlo : W + 28 ≤ R.locals) :
    Back l R p e below s sargs yN len W (fun A₁ a₁ => A₁.cells + 0 ≤ R.cells ∧ A₁.slots + 0 ≤ R.slots ∧ P x t V cd n f y t' V' cd' k g z a₁ A₁.U) (fun A₁ _ v₁ B₁ => Says01 (SameT n f k g) v₁ A₁.U B₁.U ∧ B₁.locs = A₁.locs ++ [] ∧ B₁.cells = A₁.cells + 0 ∧ B₁.slots = A₁.slots + 0) :=
  (law l x t V cd n f y t' V' cd' k g z).pays htab hfr (by omega)
end SEq
end StrChars
namespace StrChars.Road
open Jvm Sem ClassFile Op Lib Jvm.Stand Jvm.Free Jvm.Free.XT
open Jvm.Lib.Cold (StaticIs)
/-- the words of String.equals(Object) -/
abbrev wordsEq : List Jvm.Cond := [.code SEq.yN SEq.yB 3 (some .boolean), .initialized ST, .classLink ST 10 ST, .fieldLink ST 38 ST "COMPACT_STRINGS" "Z", .fieldLink ST 15 ST "coder" "B", .fieldLink ST 9 ST "value" "[B", .methodLink ST 541 LEq.yN, .static LEq.yN, .code LEq.yN LEq.yB 3 (some .boolean), .initialized "java/lang/StringLatin1"]
theorem tabEq_of {a : Array Value} {s : State} (h : ∀ w ∈ wordsEq, w.before a s = true) : SEq.tab.before a s = true := by
  have hl : LEq.tab.before a s = true := unparts (wk h (.code LEq.yN LEq.yB 3 (some .boolean))) (wks h (.initialized LEq.yN.cls :: LEq.site))
  have q := consq hl h
  exact unparts (wk q (.code SEq.yN SEq.yB 3 (some .boolean))) (wks q (.initialized SEq.yN.cls :: SEq.site))
theorem movedEq {Z s : State} {a0 args : Array Value} (hZ : Z.Warmed39 s.vm) (hw : ∀ d ∈ wordsEq, d.before a0 Z = true) : ∀ d ∈ wordsEq, d.before args s = true := fun d hd => by
  have t : ∀ d ∈ wordsEq, (d.onTables && d.keepsFace) = true := by decide +kernel
  exact RoadKit.mv hZ (hw d hd) (t d hd)
/-- the road's facts of a String, as the laws ask it -/
theorem txt_of {Z U : State} {a0 : Array Value} {kI : Nat} (wi : (Jvm.Cond.instantiable ST kI).before a0 Z = true) (al : Z.vm.Alike U.vm) {x t : Addr} {kb : ClassId} {cs : List Int32} {cd N2 : Int32} {vs : List Value} (E : RoadKit.Exa Z U.heap x ST) (V : RoadKit.Fld Z U.heap x ST "value" "[B" (.ref t)) (C : RoadKit.Fld Z U.heap x ST "coder" "B" (.int cd)) (K : RoadKit.Arv Z U.heap t kb .byte N2 vs (.int 0)) (hc : CodA cs cd N2 vs) (hb : ∀ c ∈ cs, ¬ c < 0 ∧ ¬ (65535 : Int32) < c) (l2 : cs.length ≤ 4000) :
    ∃ A, Txt x t A cd cs.length (fun j => cs.getD j 0) U := by
  obtain ⟨A, K1, K2, K3, K4, K5, K6⟩ := K
  have hcod := hc.cod (by omega) K3 K5
  obtain ⟨D, fV, fC, hB, F1, F2, g1, g2, -, -⟩ := strObj wi al E V C
  exact ⟨A, ⟨_, hB.2.2.1, D, hB.1, rfl, by cases q : D.vm <;> first | rfl | exact absurd q (hB.2.1.2 _)⟩, Has.of hB F1 g1, Has.of hB F2 g2, ⟨K1.1, State.isArrayOf_alike al K1.2.1, K1.2.2, by rcases hcod with ⟨-, q, -⟩ | ⟨-, q, -⟩ <;> omega⟩, hcod, fun j hj => by
    have e : cs.getD j 0 = cs[j] := by simp [List.getD_eq_getElem?_getD, hj]
    show ¬ cs.getD j 0 < 0 ∧ ¬ 65535 < cs.getD j 0
    rw [e]; exact hb _ (List.getElem_mem _)⟩
theorem same_list (cs ds : List Int32) : SameT cs.length (fun j => cs.getD j 0) ds.length (fun j => ds.getD j 0) ↔ cs = ds := by
  constructor
  · rintro ⟨e, q⟩
    refine List.ext_getElem e fun j h1 h2 => ?_
    have := q j h1
    simpa [List.getD_eq_getElem?_getD, h1, h2] using this
  · rintro rfl
    exact ⟨rfl, fun _ _ => rfl⟩
/-- **equals(Object) OF TWO SUCH STRINGS**: 1 just where the chars are the same -/
theorem eqW {p : Program} {l : Launch} {e : Env} {R : Room} {s : State} {args : Array Value} {below : List Frame} {len W : Nat} {Z : State} {a0 : Array Value} {h : Heap} (hZ : Z.Warmed39 s.vm) (hw : ∀ d ∈ wordsEq, d.before a0 Z = true) {kI : Nat} (wi : (Jvm.Cond.instantiable ST kI).before a0 Z = true)
    {x t : Addr} {kb : ClassId} {cs : List Int32} {cd N2 : Int32} {vs : List Value} (E : RoadKit.Exa Z h x ST) (V : RoadKit.Fld Z h x ST "value" "[B" (.ref t)) (C : RoadKit.Fld Z h x ST "coder" "B" (.int cd)) (K : RoadKit.Arv Z h t kb .byte N2 vs (.int 0)) (hc : CodA cs cd N2 vs) (hb : ∀ c ∈ cs, ¬ c < 0 ∧ ¬ (65535 : Int32) < c) (l2 : cs.length ≤ 4000)
    {y t' : Addr} {kb' : ClassId} {ds : List Int32} {cd' N2' : Int32} {vs' : List Value} (E' : RoadKit.Exa Z h y ST) (V' : RoadKit.Fld Z h y ST "value" "[B" (.ref t')) (C' : RoadKit.Fld Z h y ST "coder" "B" (.int cd')) (K' : RoadKit.Arv Z h t' kb' .byte N2' vs' (.int 0)) (hc' : CodA ds cd' N2' vs') (hb' : ∀ c ∈ ds, ¬ c < 0 ∧ ¬ (65535 : Int32) < c) (l2' : ds.length ≤ 4000)
    {z : Int32} (S : RoadKit.Sta Z h ST "COMPACT_STRINGS" "Z" (.int z)) (hz : ¬ z = 0) (hfr : 2 ≤ R.frames) (hlo : W + 28 ≤ R.locals) :
    Back l R p e below s args (⟨"java/lang/String", "equals", "(Ljava/lang/Object;)Z"⟩ : MethodName) len W (fun P a => a = #[.ref x, .ref y] ∧ P.U.heap = h ∧ P.cells + 0 ≤ R.cells ∧ P.slots + 0 ≤ R.slots)
      (fun P _ v B => ∃ L, (((v = some (.int 1) ∧ cs = ds) ∨ (v = some (.int 0) ∧ ¬ cs = ds)) ∧ L = [] ∧ B.U.heap = h) ∧ B.locs = P.locs ++ L ∧ B.cells = P.cells + 0 ∧ B.slots = P.slots + 0) := by
  intro m meth c P g ig mk a X hg hsize hdg hW hn hp'
  obtain ⟨rfl, rfl, r1, r2⟩ := hp'
  have al : Z.vm.Alike P.U.vm := hZ.alike.trans X.warmed.alike
  obtain ⟨A, hx⟩ := txt_of wi al E V C K hc hb l2
  obtain ⟨A', hy⟩ := txt_of wi al E' V' C' K' hc' hb' l2'
  obtain ⟨v, B, X', ⟨⟨w, hv, hh, hq⟩, hl, hk, hs⟩, st⟩ := SEq.pays x t A cd cs.length (fun j => cs.getD j 0) y t' A' cd' ds.length (fun j => ds.getD j 0) z (tabEq_of (movedEq hZ hw)) hfr hlo m meth c P g ig mk _ X hg hsize hdg hW hn ⟨r1, r2, rfl, hx, hy, sta_is al S, hz⟩
  refine ⟨v, B, X', ⟨[], ⟨?_, rfl, hh⟩, hl, hk, hs⟩, st⟩
  rcases hq with ⟨rfl, q⟩ | ⟨rfl, q⟩
  · exact Or.inl ⟨hv, (same_list cs ds).mp q⟩
  · exact Or.inr ⟨hv, fun e => q ((same_list cs ds).mpr e)⟩
end StrChars.Road
namespace StrChars.Road
open Jvm Sem ClassFile Op Lib Jvm.Stand Jvm.Free Jvm.Free.XT
open Jvm.Lib.Cold (StaticIs)
/-- what backV says of its String, as the contracts of this text ask it: cs's low bytes, coder 0 -/
theorem codOf {cs : List Int32} {n : Nat} (hn : cs.length = n) (hb : ∀ c ∈ cs, ¬ 255 < c) : CodA cs 0 (Int32.ofNat n) ((cs.map lo8).map Value.int) := Or.inl ⟨rfl, by rw [hn], by simp [List.map_map, Function.comp_def], hb⟩
end StrChars.Road
end Jvm.Pilot.@@N@@

namespace Jvm.Pilot.@@N@@
open Jvm Jvm.ClassFile Sem Op Lib Jvm.Free Jvm.Stand Jvm.LawKit Jvm.RoadKit Bundle Jvm.Pilot.@@N@@.Jvm.D
section OwnKit
variable {p : Program} {l : Launch} {e : Env} {R : Room} {s : State} {m : MethodId} {args : Array Value} {below : List Frame} {meth : Method} {c : Code} {T : State} {locs : List Loc} {cells slots : Nat} {Z : State} {h : Heap}
def own_Post (Q : Option Value → Heap → List Loc → Prop) (k n : Nat) (below : List Frame) (U : State) (t : State) (o : Outcome) : Prop :=
  t.status = .running ∧ Ended t below o ∧ ∃ v L, o = .returned v ∧ Q v t.heap L ∧ FrameEnd U o t L k n
def own_Fin (tb : Tables) (e : Env) (below : List Frame) (P : State → Outcome → Prop) (t0 : State) : Prop := ∃ t o, Steps tb e below t0 t ∧ P t o
theorem own_go {tb : Tables} {P : State → Outcome → Prop} {t0 t1 : State} (st : ∀ t, Steps tb e below t1 t → Steps tb e below t0 t) (q : own_Fin tb e below P t1) : own_Fin tb e below P t0 := by
  obtain ⟨t, o, h1, h2⟩ := q
  exact ⟨t, o, st _ h1, h2⟩
theorem own_retI {x : MethodName} {S : Spec} {code : ByteArray} {mx : Nat} {rt : Option FieldType} {s₁ : State} {Q : Option Value → Heap → List Loc → Prop} {kc kn : Nat} (X : Stand p l e R s m args below meth c T locs cells slots) (hx : p.tables.exec = Jvm.exec) (Bd : BodyLoose p l x S code mx rt e s m args below meth c s₁) {pc : Nat} {Ls : Array Slot} {z : Int32} {t : FieldType} {rest : List Value} (hret : meth.sig.returnType = some t) (hn : narrow t (.int z) = .int z)
    (ht : t = .int ∨ t = .boolean ∨ t = .byte ∨ t = .char ∨ t = .short) (hd : decode c.code pc = .ok (.ireturn, 1)) (hQ : Q (some (.int z)) T.heap locs) (hc : cells ≤ kc) (hs : slots ≤ kn) : own_Fin p.tables e below (own_Post Q kc kn below s) (T.setTop (mkF m pc Ls (.int z :: rest))) := by
  obtain ⟨fs, hr, hrun, hended, hW, hsame⟩ := X.leave (v := some (.int z)) (fun h => by rw [hret] at h; cases h) Bd.notSynchronized
  exact ⟨_, _, retOut X hx hret hn (Or.inl ⟨rfl, ht, z, rfl⟩) hd hr, hrun, hended, _, _, rfl, hQ, ⟨_, rfl⟩, hW, hsame.mono hc hs⟩
theorem own_retJ {x : MethodName} {S : Spec} {code : ByteArray} {mx : Nat} {rt : Option FieldType} {s₁ : State} {Q : Option Value → Heap → List Loc → Prop} {kc kn : Nat} (X : Stand p l e R s m args below meth c T locs cells slots) (hx : p.tables.exec = Jvm.exec) (Bd : BodyLoose p l x S code mx rt e s m args below meth c s₁) {pc : Nat} {Ls : Array Slot} {z : Int64} {rest : List Value} (hret : meth.sig.returnType = some .long)
    (hd : decode c.code pc = .ok (.lreturn, 1)) (hQ : Q (some (.long z)) T.heap locs) (hc : cells ≤ kc) (hs : slots ≤ kn) : own_Fin p.tables e below (own_Post Q kc kn below s) (T.setTop (mkF m pc Ls (.long z :: rest))) := by
  obtain ⟨fs, hr, hrun, hended, hW, hsame⟩ := X.leave (v := some (.long z)) (fun h => by rw [hret] at h; cases h) Bd.notSynchronized
  exact ⟨_, _, retOut X hx hret rfl (Or.inr (Or.inl ⟨rfl, rfl, z, rfl⟩)) hd hr, hrun, hended, _, _, rfl, hQ, ⟨_, rfl⟩, hW, hsame.mono hc hs⟩
theorem own_retA {x : MethodName} {S : Spec} {code : ByteArray} {mx : Nat} {rt : Option FieldType} {s₁ : State} {Q : Option Value → Heap → List Loc → Prop} {kc kn : Nat} (X : Stand p l e R s m args below meth c T locs cells slots) (hx : p.tables.exec = Jvm.exec) (Bd : BodyLoose p l x S code mx rt e s m args below meth c s₁) {pc : Nat} {Ls : Array Slot} {w : Value} {t : FieldType} {rest : List Value} (hret : meth.sig.returnType = some t) (ht : t.isReference = true) (hw : w.isRef = true) (hn : narrow t w = w)
    (hd : decode c.code pc = .ok (.areturn, 1)) (hQ : Q (some w) T.heap locs) (hc : cells ≤ kc) (hs : slots ≤ kn) : own_Fin p.tables e below (own_Post Q kc kn below s) (T.setTop (mkF m pc Ls (w :: rest))) := by
  obtain ⟨fs, hr, hrun, hended, hW, hsame⟩ := X.leave (v := some w) (fun h => by rw [hret] at h; cases h) Bd.notSynchronized
  exact ⟨_, _, retOut X hx hret hn (Or.inr (Or.inr (Or.inr (Or.inr ⟨rfl, ht, hw⟩)))) hd hr, hrun, hended, _, _, rfl, hQ, ⟨_, rfl⟩, hW, hsame.mono hc hs⟩
theorem own_ret0 {x : MethodName} {S : Spec} {code : ByteArray} {mx : Nat} {s₁ : State} {Q : Option Value → Heap → List Loc → Prop} {kc kn : Nat} (X : Stand p l e R s m args below meth c T locs cells slots) (hx : p.tables.exec = Jvm.exec) (Bd : BodyLoose p l x S code mx none e s m args below meth c s₁) {pc : Nat} {Ls : Array Slot}
    (hd : decode c.code pc = .ok (.return_, 1)) (hQ : Q none T.heap locs) (hc : cells ≤ kc) (hs : slots ≤ kn) : own_Fin p.tables e below (own_Post Q kc kn below s) (T.setTop (mkF m pc Ls [])) := by
  obtain ⟨fs, hr, hrun, hended, hW, hsame⟩ := X.leave (v := none) (fun _ => rfl) Bd.notSynchronized
  exact ⟨_, _, X.returnOut hx Bd.returns hd hr, hrun, hended, _, _, rfl, hQ, ⟨_, rfl⟩, hW, hsame.mono hc hs⟩
theorem own_alen {a : Addr} {k : ClassId} {ty : FieldType} {n : Int32} {vs : List Value} {d : Value} (X : Stand p l e R s m args below meth c T locs cells slots) (hx : p.tables.exec = Jvm.exec) (hZ : Z.Warmed39 s.vm) (eT : T.heap = h) (V : Arv Z h a k ty n vs d) {g : JFrame} (hg : g.method = m) {rest : List Value} (hs : g.stack = .ref a :: rest) (hd : decode c.code g.pc = .ok (.arraylength, 1)) (target : State)
    (q : Steps p.tables e below (T.setTop { g with pc := g.pc + 1, stack := .int n :: rest }) target) : Steps p.tables e below (T.setTop g) target := by
  obtain ⟨cl, A, -, S, M, -, -⟩ := V
  refine X.arraylength hx (by rw [eT]; exact A.1) (State.isArrayOf_alike hZ.alike A.2.1) hg hs hd _ ?_
  rw [len_of S M]; exact q
theorem own_laload {a : Addr} {k : ClassId} {n : Int32} {vs : List Value} {d : Value} (X : Stand p l e R s m args below meth c T locs cells slots) (hx : p.tables.exec = Jvm.exec) (hZ : Z.Warmed39 s.vm) (eT : T.heap = h) (V : Arv Z h a k .long n vs d) {j : Int32} (hj : ¬ j < 0 ∧ j < n) {v : Value} (hv : vs.getD j.toNatClampNeg d = v) {g : JFrame} (hg : g.method = m) {rest : List Value} (hs : g.stack = .int j :: .ref a :: rest) (hd : decode c.code g.pc = .ok (.laload, 1)) (target : State)
    (q : Steps p.tables e below (T.setTop { g with pc := g.pc + 1, stack := v :: rest }) target) : Steps p.tables e below (T.setTop g) target := by
  obtain ⟨cl, A, -, S, M, H, -⟩ := V
  exact X.laload hx (by rw [eT]; exact A.1) (State.isArrayOf_alike hZ.alike A.2.1) A.2.2 (inb_of S hj) (Has.at H (inb_of S hj) hv) hg hs hd _ q
theorem own_iaload {a : Addr} {k : ClassId} {n : Int32} {vs : List Value} {d : Value} (X : Stand p l e R s m args below meth c T locs cells slots) (hx : p.tables.exec = Jvm.exec) (hZ : Z.Warmed39 s.vm) (eT : T.heap = h) (V : Arv Z h a k .int n vs d) {j : Int32} (hj : ¬ j < 0 ∧ j < n) {v : Value} (hv : vs.getD j.toNatClampNeg d = v) {g : JFrame} (hg : g.method = m) {rest : List Value} (hs : g.stack = .int j :: .ref a :: rest) (hd : decode c.code g.pc = .ok (.iaload, 1)) (target : State)
    (q : Steps p.tables e below (T.setTop { g with pc := g.pc + 1, stack := v :: rest }) target) : Steps p.tables e below (T.setTop g) target := by
  obtain ⟨cl, A, -, S, M, H, -⟩ := V
  exact X.iaload hx (by rw [eT]; exact A.1) (State.isArrayOf_alike hZ.alike A.2.1) A.2.2 (inb_of S hj) (Has.at H (inb_of S hj) hv) hg hs hd _ q
theorem own_caload {a : Addr} {k : ClassId} {n : Int32} {vs : List Value} {d : Value} (X : Stand p l e R s m args below meth c T locs cells slots) (hx : p.tables.exec = Jvm.exec) (hZ : Z.Warmed39 s.vm) (eT : T.heap = h) (V : Arv Z h a k .char n vs d) {j : Int32} (hj : ¬ j < 0 ∧ j < n) {v : Value} (hv : vs.getD j.toNatClampNeg d = v) {g : JFrame} (hg : g.method = m) {rest : List Value} (hs : g.stack = .int j :: .ref a :: rest) (hd : decode c.code g.pc = .ok (.caload, 1)) (target : State)
    (q : Steps p.tables e below (T.setTop { g with pc := g.pc + 1, stack := v :: rest }) target) : Steps p.tables e below (T.setTop g) target := by
  obtain ⟨cl, A, -, S, M, H, -⟩ := V
  exact X.caload hx (by rw [eT]; exact A.1) (State.isArrayOf_alike hZ.alike A.2.1) A.2.2 (inb_of S hj) (Has.at H (inb_of S hj) hv) hg hs hd _ q
theorem own_baload {a : Addr} {k : ClassId} {n : Int32} {vs : List Value} {d : Value} (X : Stand p l e R s m args below meth c T locs cells slots) (hx : p.tables.exec = Jvm.exec) (hZ : Z.Warmed39 s.vm) (eT : T.heap = h) (V : Arv Z h a k .byte n vs d) {j : Int32} (hj : ¬ j < 0 ∧ j < n) {v : Value} (hv : vs.getD j.toNatClampNeg d = v) {g : JFrame} (hg : g.method = m) {rest : List Value} (hs : g.stack = .int j :: .ref a :: rest) (hd : decode c.code g.pc = .ok (.baload, 1)) (target : State)
    (q : Steps p.tables e below (T.setTop { g with pc := g.pc + 1, stack := v :: rest }) target) : Steps p.tables e below (T.setTop g) target := by
  obtain ⟨cl, A, -, S, M, H, -⟩ := V
  exact X.baloadBytes hx (by rw [eT]; exact A.1) (State.isArrayOf_alike hZ.alike A.2.1) A.2.2 (inb_of S hj) (Has.at H (inb_of S hj) hv) hg hs hd _ q
theorem own_aaload {a : Addr} {k : ClassId} {ty : FieldType} {n : Int32} {vs : List Value} {d : Value} (X : Stand p l e R s m args below meth c T locs cells slots) (hx : p.tables.exec = Jvm.exec) (hZ : Z.Warmed39 s.vm) (eT : T.heap = h) (V : Arv Z h a k ty n vs d) {j : Int32} (hj : ¬ j < 0 ∧ j < n) {v : Value} (hr : ty.isReference = true) (hv : vs.getD j.toNatClampNeg d = v) {g : JFrame} (hg : g.method = m) {rest : List Value} (hs : g.stack = .int j :: .ref a :: rest) (hd : decode c.code g.pc = .ok (.aaload, 1)) (target : State)
    (q : Steps p.tables e below (T.setTop { g with pc := g.pc + 1, stack := v :: rest }) target) : Steps p.tables e below (T.setTop g) target := by
  obtain ⟨cl, A, -, S, M, H, -⟩ := V
  exact X.aaload hx (by rw [eT]; exact A.1) (State.isArrayOf_alike hZ.alike A.2.1) hr A.2.2 (inb_of S hj) (Has.at H (inb_of S hj) hv) hg hs hd _ q
theorem own_stJ {a : Addr} {k : ClassId} {n : Int32} {vs : List Value} {d : Value} (X : Stand p l e R s m args below meth c T locs cells slots) (hx : p.tables.exec = Jvm.exec) (hZ : Z.Warmed39 s.vm) (eT : T.heap = h) (V : Arv Z h a k .long n vs d) {j : Int32} (hj : ¬ j < 0 ∧ j < n) {i : Nat} (hji : j.toNatClampNeg = i) (hi : i < vs.length) {x : Int64} {g : JFrame} (hg : g.method = m) {rest : List Value} (hs : g.stack = .long x :: .int j :: .ref a :: rest) (hd : decode c.code g.pc = .ok (.lastore, 1)) :
    ∃ T' h', Stand p l e R s m args below meth c T' (locs ++ [⟨a, j.toNatClampNeg⟩]) cells slots ∧ T'.heap = h' ∧ Wr h h' a j.toNatClampNeg (.long x) ∧ Arv Z h' a k .long n (vs.set i (.long x)) d ∧ ∀ target, Steps p.tables e below (T'.setTop { g with pc := g.pc + 1, stack := rest }) target → Steps p.tables e below (T.setTop g) target := by
  obtain ⟨cl, A, q1, S, M, H, G⟩ := V
  obtain ⟨T', h', X', e', W, st⟩ := stJ X hx hZ eT A (j := j) (inb_of S hj) hg hs hd
  exact ⟨T', h', X', e', W, Arv.set A q1 S M H G rfl W i hji hi, st⟩
theorem own_stC {a : Addr} {k : ClassId} {n : Int32} {vs : List Value} {d : Value} (X : Stand p l e R s m args below meth c T locs cells slots) (hx : p.tables.exec = Jvm.exec) (hZ : Z.Warmed39 s.vm) (eT : T.heap = h) (V : Arv Z h a k .char n vs d) {j : Int32} (hj : ¬ j < 0 ∧ j < n) {i : Nat} (hji : j.toNatClampNeg = i) (hi : i < vs.length) {x : Int32} {g : JFrame} (hg : g.method = m) {rest : List Value} (hs : g.stack = .int x :: .int j :: .ref a :: rest) (hd : decode c.code g.pc = .ok (.castore, 1)) :
    ∃ T' h', Stand p l e R s m args below meth c T' (locs ++ [⟨a, j.toNatClampNeg⟩]) cells slots ∧ T'.heap = h' ∧ Wr h h' a j.toNatClampNeg (.int (nar .char x)) ∧ Arv Z h' a k .char n (vs.set i (.int (nar .char x))) d ∧ ∀ target, Steps p.tables e below (T'.setTop { g with pc := g.pc + 1, stack := rest }) target → Steps p.tables e below (T.setTop g) target := by
  obtain ⟨cl, A, q1, S, M, H, G⟩ := V
  obtain ⟨T', h', X', e', W, st⟩ := stC X hx hZ eT A (j := j) (inb_of S hj) hg hs hd
  exact ⟨T', h', X', e', W, Arv.set A q1 S M H G (fits_nar_char _) W i hji hi, st⟩
theorem own_stB {a : Addr} {k : ClassId} {n : Int32} {vs : List Value} {d : Value} (X : Stand p l e R s m args below meth c T locs cells slots) (hx : p.tables.exec = Jvm.exec) (hZ : Z.Warmed39 s.vm) (eT : T.heap = h) (V : Arv Z h a k .byte n vs d) {j : Int32} (hj : ¬ j < 0 ∧ j < n) {i : Nat} (hji : j.toNatClampNeg = i) (hi : i < vs.length) {x : Int32} {g : JFrame} (hg : g.method = m) {rest : List Value} (hs : g.stack = .int x :: .int j :: .ref a :: rest) (hd : decode c.code g.pc = .ok (.bastore, 1)) :
    ∃ T' h', Stand p l e R s m args below meth c T' (locs ++ [⟨a, j.toNatClampNeg⟩]) cells slots ∧ T'.heap = h' ∧ Wr h h' a j.toNatClampNeg (.int (x.toInt8.toInt32)) ∧ Arv Z h' a k .byte n (vs.set i (.int (x.toInt8.toInt32))) d ∧ ∀ target, Steps p.tables e below (T'.setTop { g with pc := g.pc + 1, stack := rest }) target → Steps p.tables e below (T.setTop g) target := by
  obtain ⟨cl, A, q1, S, M, H, G⟩ := V
  obtain ⟨T', h', X', e', W, st⟩ := stB X hx hZ eT A (j := j) (inb_of S hj) hg hs hd
  exact ⟨T', h', X', e', W, Arv.set A q1 S M H G (fits_nar_byte _) W i hji hi, st⟩
theorem own_notface {C : String} {y z y' : MethodName} (hsel : (Jvm.Cond.selects C y z).before args s = true) (hc : y'.cls = z.cls) : NotFace s y' := fun r0 h0 => by
  obtain ⟨c2, r2, m2, q1, q2, q3, q4, kP, hkP, hkPi⟩ := Cond.selects_spec hsel
  have f1 := findClass_of_methodNamed h0
  have f2 := findClass_of_methodNamed q3
  rw [hc, f2] at f1
  rw [← Option.some.inj f1]
  exact ⟨kP, hkP, hkPi⟩
end OwnKit
theorem own_up (cs : List Int32) (h : ∀ c ∈ cs, ¬ c < 0 ∧ ¬ (255 : Int32) < c) : ∀ c ∈ cs, ¬ c < 0 ∧ ¬ (65535 : Int32) < c := fun c hc => ⟨(h c hc).1, fun q => (h c hc).2 (by rw [Int32.lt_iff_toInt_lt] at q ⊢; have e1 : (65535 : Int32).toInt = 65535 := rfl; have e2 : (255 : Int32).toInt = 255 := rfl; omega)⟩
theorem own_eqv {v : Option Value} {P : Prop} (h : (v = some (.int 1) ∧ P) ∨ (v = some (.int 0) ∧ ¬ P)) : ∃ z : Int32, v = some (.int z) ∧ ((z = 1 ∧ P) ∨ (z = 0 ∧ ¬ P)) := by
  rcases h with ⟨h1, h2⟩ | ⟨h1, h2⟩
  · exact ⟨1, h1, Or.inl ⟨rfl, h2⟩⟩
  · exact ⟨0, h1, Or.inr ⟨rfl, h2⟩⟩
def own_Str (Z : State) (h : Heap) (x t : Addr) (cs : List Int32) : Prop := ∃ (k : ClassId) (N cd : Int32) (vs : List Value), Exa Z h x "java/lang/String" ∧ Fld Z h x "java/lang/String" "value" "[B" (.ref t) ∧ Fld Z h x "java/lang/String" "coder" "B" (.int cd) ∧ Arv Z h t k .byte N vs (.int 0) ∧ StrChars.Road.CodA cs cd N vs ∧ (∀ c ∈ cs, ¬ c < 0 ∧ ¬ (65535 : Int32) < c) ∧ cs.length ≤ 4000
section OwnStr
variable {Z : State} {h h' : Heap} {x t a : Addr} {cs ds : List Int32} {sl : Nat} {v : Value} {ws : List Addr}
theorem own_Str.lt (F : own_Str Z h x t cs) : x < h.size := by obtain ⟨_, _, _, _, E, -⟩ := F; exact E.lt
theorem own_Str.ltt (F : own_Str Z h x t cs) : t < h.size := by obtain ⟨_, _, _, _, -, -, -, K, -⟩ := F; exact K.lt
theorem own_Str.exa (F : own_Str Z h x t cs) : Exa Z h x "java/lang/String" := by obtain ⟨_, _, _, _, E, -⟩ := F; exact E
theorem own_Str.ext (F : own_Str Z h x t cs) (E : Ext h h') : own_Str Z h' x t cs := by obtain ⟨k, N, cd, vs, f1, f2, f3, f4, r⟩ := F; exact ⟨k, N, cd, vs, f1.ext E, f2.ext E, f3.ext E, f4.ext E, r⟩
theorem own_Str.other (F : own_Str Z h x t cs) (W : Wr h h' a sl v) (n1 : x ≠ a) (n2 : t ≠ a) : own_Str Z h' x t cs := by obtain ⟨k, N, cd, vs, f1, f2, f3, f4, r⟩ := F; exact ⟨k, N, cd, vs, f1.wr W, f2.other W (Or.inl n1), f3.other W (Or.inl n1), f4.other W n2, r⟩
theorem own_Str.keep (F : own_Str Z h x t cs) (K : Keep h h' ws) (n1 : x ∉ ws) (n2 : t ∉ ws) : own_Str Z h' x t cs := by obtain ⟨k, N, cd, vs, f1, f2, f3, f4, r⟩ := F; exact ⟨k, N, cd, vs, f1.keep K, f2.keep K n1, f3.keep K n1, f4.keep K n2, r⟩
end OwnStr
theorem own_eqB {p : Program} {l : Launch} {e : Env} {R : Room} {s : State} {args : Array Value} {below : List Frame} {len W : Nat} {Z : State} {a0 : Array Value} {h : Heap} (hZ : Z.Warmed39 s.vm) (hw : ∀ d ∈ StrChars.Road.wordsEq, d.before a0 Z = true) (wi : (Jvm.Cond.instantiable "java/lang/String" 4).before a0 Z = true) {x t y t' : Addr} {cs ds : List Int32} {z : Int32} (A : own_Str Z h x t cs) (B : own_Str Z h y t' ds) (S : Sta Z h "java/lang/String" "COMPACT_STRINGS" "Z" (.int z)) (hz : ¬ z = 0) (hfr : 2 ≤ R.frames) (hlo : W + 28 ≤ R.locals) :
    Back l R p e below s args (⟨"java/lang/String", "equals", "(Ljava/lang/Object;)Z"⟩ : MethodName) len W (fun P a => a = #[.ref x, .ref y] ∧ P.U.heap = h ∧ P.cells + 0 ≤ R.cells ∧ P.slots + 0 ≤ R.slots)
      (fun P _ v B => ∃ L, (((v = some (.int 1) ∧ cs = ds) ∨ (v = some (.int 0) ∧ ¬ cs = ds)) ∧ L = [] ∧ B.U.heap = h) ∧ B.locs = P.locs ++ L ∧ B.cells = P.cells + 0 ∧ B.slots = P.slots + 0) := by
  obtain ⟨_, _, _, _, f1, f2, f3, f4, f5, f6, f7⟩ := A
  obtain ⟨_, _, _, _, g1, g2, g3, g4, g5, g6, g7⟩ := B
  exact StrChars.Road.eqW hZ hw wi f1 f2 f3 f4 f5 f6 f7 g1 g2 g3 g4 g5 g6 g7 S hz hfr hlo
section OwnKitS
variable {p : Program} {l : Launch} {e : Env} {R : Room} {s : State} {m : MethodId} {args : Array Value} {below : List Frame} {meth : Method} {c : Code} {T : State} {locs : List Loc} {cells slots : Nat} {Z : State} {h : Heap} {vm0 : Vm} {EL : List (String × Nat)} {a0 : Array Value}
def own_PostW (Z : State) (EL : List (String × Nat)) (Q : Option Value → Heap → List Loc → Prop) (k n : Nat) (below : List Frame) (U : State) (t : State) (o : Outcome) : Prop :=
  t.status = .running ∧ Ended t below o ∧ ∃ v L, o = .returned v ∧ Q v t.heap L ∧ CHr Z EL U.vm U.heap t.vm t.heap ∧ ReturnedEndW U o t L k n
theorem own_retW {x : MethodName} {S : Spec} {code : ByteArray} {mx : Nat} {rt : Option FieldType} {s₁ : State} {Q : Option Value → Heap → List Loc → Prop} {kc kn k0 : Nat} (X : Stand p l e R (s.setVm vm0) m args below meth c T locs cells slots) (hx : p.tables.exec = Jvm.exec) (Bd : BodyLoose p l x S code mx rt e s m args below meth c s₁) (hS : s.Since vm0 k0) (hk : k0 ≤ T.heap.size) {pc : Nat} {Ls : Array Slot} {w : Value} {t : FieldType} {i : Instr} {rest : List Value} (hret : meth.sig.returnType = some t) (hn : narrow t w = w)
    (hi : (i = .ireturn ∧ (t = .int ∨ t = .boolean ∨ t = .byte ∨ t = .char ∨ t = .short) ∧ ∃ z, w = .int z) ∨ (i = .lreturn ∧ t = .long ∧ ∃ z, w = .long z) ∨ (i = .dreturn ∧ t = .double ∧ ∃ z, w = .double z) ∨ (i = .freturn ∧ t = .float ∧ ∃ z, w = .float z) ∨ (i = .areturn ∧ t.isReference = true ∧ w.isRef = true))
    (hd : decode c.code pc = .ok (i, 1)) (hCR : CHr Z EL s.vm s.heap T.vm T.heap) (hQ : Q (some w) T.heap locs) (hc : cells ≤ kc) (hs : slots ≤ kn) : own_Fin p.tables e below (own_PostW Z EL Q kc kn below s) (T.setTop (mkF m pc Ls (w :: rest))) := by
  obtain ⟨fs, hr, hrun, hended, hW⟩ := X.leaveW hS hk (v := some w) (fun h => by rw [hret] at h; cases h) Bd.notSynchronized
  exact ⟨_, _, retOut X hx hret hn hi hd hr, hrun, hended, _, _, rfl, hQ, hCR, hW.1, hW.2.1, hW.2.2.1, hW.2.2.2.mono hc hs⟩
theorem own_retW0 {x : MethodName} {S : Spec} {code : ByteArray} {mx : Nat} {s₁ : State} {Q : Option Value → Heap → List Loc → Prop} {kc kn k0 : Nat} (X : Stand p l e R (s.setVm vm0) m args below meth c T locs cells slots) (hx : p.tables.exec = Jvm.exec) (Bd : BodyLoose p l x S code mx none e s m args below meth c s₁) (hS : s.Since vm0 k0) (hk : k0 ≤ T.heap.size) {pc : Nat} {Ls : Array Slot}
    (hd : decode c.code pc = .ok (.return_, 1)) (hCR : CHr Z EL s.vm s.heap T.vm T.heap) (hQ : Q none T.heap locs) (hc : cells ≤ kc) (hs : slots ≤ kn) : own_Fin p.tables e below (own_PostW Z EL Q kc kn below s) (T.setTop (mkF m pc Ls [])) := by
  obtain ⟨fs, hr, hrun, hended, hW⟩ := X.leaveW hS hk (v := none) (fun _ => rfl) Bd.notSynchronized
  exact ⟨_, _, X.returnOut hx Bd.returns hd hr, hrun, hended, _, _, rfl, hQ, hCR, hW.1, hW.2.1, hW.2.2.1, hW.2.2.2.mono hc hs⟩
theorem own_safe_null {x : Addr} (hal : Z.vm.Alike vm0) (E : Exa Z h x "java/lang/String") (F : Fld Z h x "java/lang/String" "value" "[B" .null) : Safe Z EL vm0 h x := fun B => by
  obtain ⟨cell, k, e1, e2, e3, -, -⟩ := E
  obtain ⟨p, -, u, a, -, q, -, G, rfl | rfl⟩ := B
  · cases (show h[q.sa]? = some q.sC from G.ha).symm.trans e1
    obtain ⟨cS, ⟨⟨-, -, -, ⟨c1, k1, i1, f1, -⟩, -, -, -, v1, -⟩, -⟩, -⟩ := G
    obtain ⟨cl2, cf, kf, i, f, g1, g2, -, -, -, -, g7⟩ := F
    cases (show h[q.sa]? = some q.sC from e1).symm.trans g1
    obtain ⟨k3, e4, -⟩ := State.fieldFound?_setVm (s := Z) hal g2
    have e5 := (show (Wst Z vm0 h).fieldFound? _ _ _ = _ from e4).symm.trans f1
    simp only [Option.some.injEq, Prod.mk.injEq] at e5
    rw [e5.2.2.2, v1] at g7
    simp at g7
  · cases (show h[q.sd]? = some q.SA from G.hd).symm.trans e1
    obtain ⟨cS, -, -, f, -⟩ := G
    rw [show (Wst Z vm0 h).vm = vm0 from rfl, hal.findClass] at f
    obtain ⟨k1, q1, q2⟩ := Vm.findClass_spec f
    obtain ⟨k2, q3, q4⟩ := Vm.findClass_spec e2
    cases q1.symm.trans q3
    exact absurd (q2.symm.trans q4) (by decide)
end OwnKitS
theorem own_b8 {x : Int32} : x.toInt8.toInt32.toInt8.toInt32 = x.toInt8.toInt32 := by simp
theorem own_and255 (x : Int32) : ¬ (x &&& 255) < 0 ∧ ¬ (255 : Int32) < (x &&& 255) := by
  have t : ∀ k : Fin 256, ¬ (Int32.ofNat k.val) < 0 ∧ ¬ (255 : Int32) < Int32.ofNat k.val := by decide +kernel
  have h : (x &&& 255).toBitVec.toNat < 256 := by
    simp only [Int32.toBitVec_and, BitVec.toNat_and]
    exact Nat.lt_succ_of_le Nat.and_le_right
  have e : (x &&& 255) = Int32.ofNat (x &&& 255).toBitVec.toNat := by
    apply Int32.toBitVec_inj.mp
    show _ = BitVec.ofNat 32 _
    rw [BitVec.ofNat_toNat]; simp
  rw [e]
  exact t ⟨_, h⟩
theorem own_nar255 {x : Int32} : nar .char (x &&& 255) = x &&& 255 := i2c_mask x
theorem own_and_max (x : Int32) : 0 ≤ (x &&& 2147483647).toInt := by
  have e : (2147483647 : Int32).toBitVec.msb = false := by decide
  have h : (x &&& 2147483647).toBitVec.msb = false := by rw [Int32.toBitVec_and, BitVec.msb_and, e, Bool.and_false]
  have := BitVec.toInt_eq_toNat_of_msb h
  show 0 ≤ (x &&& 2147483647).toBitVec.toInt
  omega
theorem own_mod9 (x : Int32) : (x &&& 2147483647) % 9 = 0 ∨ (x &&& 2147483647) % 9 = 1 ∨ (x &&& 2147483647) % 9 = 2 ∨ (x &&& 2147483647) % 9 = 3 ∨ (x &&& 2147483647) % 9 = 4 ∨ (x &&& 2147483647) % 9 = 5 ∨ (x &&& 2147483647) % 9 = 6 ∨ (x &&& 2147483647) % 9 = 7 ∨ (x &&& 2147483647) % 9 = 8 := by
  have e : ((x &&& 2147483647) % 9).toInt = (x &&& 2147483647).toInt.tmod 9 := by rw [Int32.toInt_mod]; rfl
  have h0 := own_and_max x
  rw [Int.tmod_eq_emod_of_nonneg h0] at e
  simp only [← Int32.toInt_inj]
  have : (0 : Int32).toInt = 0 ∧ (1 : Int32).toInt = 1 ∧ (2 : Int32).toInt = 2 ∧ (3 : Int32).toInt = 3 ∧ (4 : Int32).toInt = 4 ∧ (5 : Int32).toInt = 5 ∧ (6 : Int32).toInt = 6 ∧ (7 : Int32).toInt = 7 ∧ (8 : Int32).toInt = 8 := by decide
  omega
theorem pn_0 : plainName "java/lang/StringLatin1" = true := by first | (simp [plainName, overriddenIn]; done) | decide +kernel
theorem d12_0 : decode jdk_43_method_3_code 0 = .ok (.iload_n 0, 1) := by decide +kernel
theorem d12_1 : decode jdk_43_method_3_code 1 = .ok (.sipush 255, 3) := by decide +kernel
theorem d12_4 : decode jdk_43_method_3_code 4 = .ok (.if_icmp .gt 7, 3) := by decide +kernel
theorem d12_7 : decode jdk_43_method_3_code 7 = .ok (.iconst 1, 1) := by decide +kernel
theorem d12_8 : decode jdk_43_method_3_code 8 = .ok (.goto 4, 3) := by decide +kernel
theorem d12_12 : decode jdk_43_method_3_code 12 = .ok (.ireturn, 1) := by decide +kernel
theorem d13_0 : decode jdk_43_method_46_code 0 = .ok (.iconst 1, 1) := by decide +kernel
theorem d13_1 : decode jdk_43_method_46_code 1 = .ok (.newarray .byte, 2) := by decide +kernel
theorem d13_3 : decode jdk_43_method_46_code 3 = .ok (.dup, 1) := by decide +kernel
theorem d13_4 : decode jdk_43_method_46_code 4 = .ok (.iconst 0, 1) := by decide +kernel
theorem d13_5 : decode jdk_43_method_46_code 5 = .ok (.iload_n 0, 1) := by decide +kernel
theorem d13_6 : decode jdk_43_method_46_code 6 = .ok (.i2b, 1) := by decide +kernel
theorem d13_7 : decode jdk_43_method_46_code 7 = .ok (.bastore, 1) := by decide +kernel
theorem d13_8 : decode jdk_43_method_46_code 8 = .ok (.areturn, 1) := by decide +kernel
theorem pn_1 : plainName "java/lang/String" = true := by first | (simp [plainName, overriddenIn]; done) | decide +kernel
theorem d14_0 : decode jdk_42_method_151_code 0 = .ok (.aload_n 0, 1) := by decide +kernel
theorem d14_1 : decode jdk_42_method_151_code 1 = .ok (.invokespecial 1, 3) := by decide +kernel
theorem d14_4 : decode jdk_42_method_151_code 4 = .ok (.aload_n 0, 1) := by decide +kernel
theorem d14_5 : decode jdk_42_method_151_code 5 = .ok (.aload_n 1, 1) := by decide +kernel
theorem d14_6 : decode jdk_42_method_151_code 6 = .ok (.putfield 9, 3) := by decide +kernel
theorem d14_9 : decode jdk_42_method_151_code 9 = .ok (.aload_n 0, 1) := by decide +kernel
theorem d14_10 : decode jdk_42_method_151_code 10 = .ok (.iload_n 2, 1) := by decide +kernel
theorem d14_11 : decode jdk_42_method_151_code 11 = .ok (.putfield 15, 3) := by decide +kernel
theorem d14_14 : decode jdk_42_method_151_code 14 = .ok (.return_, 1) := by decide +kernel
theorem d11_0 : decode jdk_42_method_139_code 0 = .ok (.getstatic 38, 3) := by decide +kernel
theorem d11_3 : decode jdk_42_method_139_code 3 = .ok (.ifCond .eq 23, 3) := by decide +kernel
theorem d11_6 : decode jdk_42_method_139_code 6 = .ok (.iload_n 0, 1) := by decide +kernel
theorem d11_7 : decode jdk_42_method_139_code 7 = .ok (.invokestatic 1015, 3) := by decide +kernel
theorem pd_2 : parseMethodDescriptor "(C)Z" = some ⟨[.char], some .boolean⟩ := by decide +kernel
theorem d11_10 : decode jdk_42_method_139_code 10 = .ok (.ifCond .eq 16, 3) := by decide +kernel
theorem d11_13 : decode jdk_42_method_139_code 13 = .ok (.new 10, 3) := by decide +kernel
theorem d11_16 : decode jdk_42_method_139_code 16 = .ok (.dup, 1) := by decide +kernel
theorem d11_17 : decode jdk_42_method_139_code 17 = .ok (.iload_n 0, 1) := by decide +kernel
theorem d11_18 : decode jdk_42_method_139_code 18 = .ok (.invokestatic 1018, 3) := by decide +kernel
theorem pd_3 : parseMethodDescriptor "(C)[B" = some ⟨[.char], some (.array .byte)⟩ := by decide +kernel
theorem d11_21 : decode jdk_42_method_139_code 21 = .ok (.iconst 0, 1) := by decide +kernel
theorem d11_22 : decode jdk_42_method_139_code 22 = .ok (.invokespecial 209, 3) := by decide +kernel
theorem pd_4 : parseMethodDescriptor "([BB)V" = some ⟨[(.array .byte), .byte], none⟩ := by decide +kernel
theorem d11_25 : decode jdk_42_method_139_code 25 = .ok (.areturn, 1) := by decide +kernel
theorem d3_0 : decode jdk_42_method_149_code 0 = .ok (.aload_n 0, 1) := by decide +kernel
theorem d3_1 : decode jdk_42_method_149_code 1 = .ok (.invokespecial 1, 3) := by decide +kernel
theorem d3_4 : decode jdk_42_method_149_code 4 = .ok (.iload_n 3, 1) := by decide +kernel
theorem d3_5 : decode jdk_42_method_149_code 5 = .ok (.ifCond .ne 22, 3) := by decide +kernel
theorem d3_8 : decode jdk_42_method_149_code 8 = .ok (.aload_n 0, 1) := by decide +kernel
theorem d3_9 : decode jdk_42_method_149_code 9 = .ok (.ldc 7, 2) := by decide +kernel
theorem d3_11 : decode jdk_42_method_149_code 11 = .ok (.getfield 9, 3) := by decide +kernel
theorem d3_14 : decode jdk_42_method_149_code 14 = .ok (.putfield 9, 3) := by decide +kernel
theorem d3_17 : decode jdk_42_method_149_code 17 = .ok (.aload_n 0, 1) := by decide +kernel
theorem d3_18 : decode jdk_42_method_149_code 18 = .ok (.ldc 7, 2) := by decide +kernel
theorem d3_20 : decode jdk_42_method_149_code 20 = .ok (.getfield 15, 3) := by decide +kernel
theorem d3_23 : decode jdk_42_method_149_code 23 = .ok (.putfield 15, 3) := by decide +kernel
theorem d3_26 : decode jdk_42_method_149_code 26 = .ok (.return_, 1) := by decide +kernel
theorem d2_0 : decode jdk_42_method_3_code 0 = .ok (.aload_n 0, 1) := by decide +kernel
theorem d2_1 : decode jdk_42_method_3_code 1 = .ok (.aload_n 1, 1) := by decide +kernel
theorem d2_2 : decode jdk_42_method_3_code 2 = .ok (.iconst 0, 1) := by decide +kernel
theorem d2_3 : decode jdk_42_method_3_code 3 = .ok (.aload_n 1, 1) := by decide +kernel
theorem d2_4 : decode jdk_42_method_3_code 4 = .ok (.arraylength, 1) := by decide +kernel
theorem d2_5 : decode jdk_42_method_3_code 5 = .ok (.aconst_null, 1) := by decide +kernel
theorem d2_6 : decode jdk_42_method_3_code 6 = .ok (.invokespecial 27, 3) := by decide +kernel
theorem pd_5 : parseMethodDescriptor "([CIILjava/lang/Void;)V" = some ⟨[(.array .char), .int, .int, (.object "java/lang/Void")], none⟩ := by decide +kernel
theorem d2_9 : decode jdk_42_method_3_code 9 = .ok (.return_, 1) := by decide +kernel
theorem pn_6 : plainName "com/example/laminate/laminate/core/DefaultRegistryApiHostPinLaw" = true := by first | (simp [plainName, overriddenIn]; done) | decide +kernel
theorem d1_0 : decode method_2_code 0 = .ok (.iload_n 0, 1) := by decide +kernel
theorem d1_1 : decode method_2_code 1 = .ok (.ifCond .ne 83, 3) := by decide +kernel
theorem d1_4 : decode method_2_code 4 = .ok (.bipush 9, 2) := by decide +kernel
theorem d1_6 : decode method_2_code 6 = .ok (.newarray .char, 2) := by decide +kernel
theorem d1_8 : decode method_2_code 8 = .ok (.dup, 1) := by decide +kernel
theorem d1_9 : decode method_2_code 9 = .ok (.iconst 0, 1) := by decide +kernel
theorem d1_10 : decode method_2_code 10 = .ok (.bipush 100, 2) := by decide +kernel
theorem d1_12 : decode method_2_code 12 = .ok (.castore, 1) := by decide +kernel
theorem d1_13 : decode method_2_code 13 = .ok (.dup, 1) := by decide +kernel
theorem d1_14 : decode method_2_code 14 = .ok (.iconst 1, 1) := by decide +kernel
theorem d1_15 : decode method_2_code 15 = .ok (.bipush 111, 2) := by decide +kernel
theorem d1_17 : decode method_2_code 17 = .ok (.castore, 1) := by decide +kernel
theorem d1_18 : decode method_2_code 18 = .ok (.dup, 1) := by decide +kernel
theorem d1_19 : decode method_2_code 19 = .ok (.iconst 2, 1) := by decide +kernel
theorem d1_20 : decode method_2_code 20 = .ok (.bipush 99, 2) := by decide +kernel
theorem d1_22 : decode method_2_code 22 = .ok (.castore, 1) := by decide +kernel
theorem d1_23 : decode method_2_code 23 = .ok (.dup, 1) := by decide +kernel
theorem d1_24 : decode method_2_code 24 = .ok (.iconst 3, 1) := by decide +kernel
theorem d1_25 : decode method_2_code 25 = .ok (.bipush 107, 2) := by decide +kernel
theorem d1_27 : decode method_2_code 27 = .ok (.castore, 1) := by decide +kernel
theorem d1_28 : decode method_2_code 28 = .ok (.dup, 1) := by decide +kernel
theorem d1_29 : decode method_2_code 29 = .ok (.iconst 4, 1) := by decide +kernel
theorem d1_30 : decode method_2_code 30 = .ok (.bipush 101, 2) := by decide +kernel
theorem d1_32 : decode method_2_code 32 = .ok (.castore, 1) := by decide +kernel
theorem d1_33 : decode method_2_code 33 = .ok (.dup, 1) := by decide +kernel
theorem d1_34 : decode method_2_code 34 = .ok (.iconst 5, 1) := by decide +kernel
theorem d1_35 : decode method_2_code 35 = .ok (.bipush 114, 2) := by decide +kernel
theorem d1_37 : decode method_2_code 37 = .ok (.castore, 1) := by decide +kernel
theorem d1_38 : decode method_2_code 38 = .ok (.dup, 1) := by decide +kernel
theorem d1_39 : decode method_2_code 39 = .ok (.bipush 6, 2) := by decide +kernel
theorem d1_41 : decode method_2_code 41 = .ok (.bipush 46, 2) := by decide +kernel
theorem d1_43 : decode method_2_code 43 = .ok (.castore, 1) := by decide +kernel
theorem d1_44 : decode method_2_code 44 = .ok (.dup, 1) := by decide +kernel
theorem d1_45 : decode method_2_code 45 = .ok (.bipush 7, 2) := by decide +kernel
theorem d1_47 : decode method_2_code 47 = .ok (.bipush 105, 2) := by decide +kernel
theorem d1_49 : decode method_2_code 49 = .ok (.castore, 1) := by decide +kernel
theorem d1_50 : decode method_2_code 50 = .ok (.dup, 1) := by decide +kernel
theorem d1_51 : decode method_2_code 51 = .ok (.bipush 8, 2) := by decide +kernel
theorem d1_53 : decode method_2_code 53 = .ok (.bipush 111, 2) := by decide +kernel
theorem d1_55 : decode method_2_code 55 = .ok (.castore, 1) := by decide +kernel
theorem d1_56 : decode method_2_code 56 = .ok (.astore 5, 2) := by decide +kernel
theorem d1_58 : decode method_2_code 58 = .ok (.aload 5, 2) := by decide +kernel
theorem d1_60 : decode method_2_code 60 = .ok (.iload_n 1, 1) := by decide +kernel
theorem d1_61 : decode method_2_code 61 = .ok (.ldc 7, 2) := by decide +kernel
theorem d1_63 : decode method_2_code 63 = .ok (.iand, 1) := by decide +kernel
theorem d1_64 : decode method_2_code 64 = .ok (.bipush 9, 2) := by decide +kernel
theorem d1_66 : decode method_2_code 66 = .ok (.irem, 1) := by decide +kernel
theorem d1_67 : decode method_2_code 67 = .ok (.iload_n 2, 1) := by decide +kernel
theorem d1_68 : decode method_2_code 68 = .ok (.sipush 255, 3) := by decide +kernel
theorem d1_71 : decode method_2_code 71 = .ok (.iand, 1) := by decide +kernel
theorem d1_72 : decode method_2_code 72 = .ok (.i2c, 1) := by decide +kernel
theorem d1_73 : decode method_2_code 73 = .ok (.castore, 1) := by decide +kernel
theorem d1_74 : decode method_2_code 74 = .ok (.new 8, 3) := by decide +kernel
theorem d1_77 : decode method_2_code 77 = .ok (.dup, 1) := by decide +kernel
theorem d1_78 : decode method_2_code 78 = .ok (.aload 5, 2) := by decide +kernel
theorem d1_80 : decode method_2_code 80 = .ok (.invokespecial 10, 3) := by decide +kernel
theorem pd_7 : parseMethodDescriptor "([C)V" = some ⟨[(.array .char)], none⟩ := by decide +kernel
theorem d1_83 : decode method_2_code 83 = .ok (.areturn, 1) := by decide +kernel
theorem d1_84 : decode method_2_code 84 = .ok (.iload_n 0, 1) := by decide +kernel
theorem d1_85 : decode method_2_code 85 = .ok (.iconst 1, 1) := by decide +kernel
theorem d1_86 : decode method_2_code 86 = .ok (.if_icmp .ne 6, 3) := by decide +kernel
theorem d1_89 : decode method_2_code 89 = .ok (.ldc 13, 2) := by decide +kernel
theorem d1_91 : decode method_2_code 91 = .ok (.areturn, 1) := by decide +kernel
theorem d1_92 : decode method_2_code 92 = .ok (.iload_n 0, 1) := by decide +kernel
theorem d1_93 : decode method_2_code 93 = .ok (.iconst 2, 1) := by decide +kernel
theorem d1_94 : decode method_2_code 94 = .ok (.if_icmp .ne 6, 3) := by decide +kernel
theorem d1_97 : decode method_2_code 97 = .ok (.ldc 15, 2) := by decide +kernel
theorem d1_99 : decode method_2_code 99 = .ok (.areturn, 1) := by decide +kernel
theorem d1_100 : decode method_2_code 100 = .ok (.iload_n 0, 1) := by decide +kernel
theorem d1_101 : decode method_2_code 101 = .ok (.iconst 3, 1) := by decide +kernel
theorem d1_102 : decode method_2_code 102 = .ok (.if_icmp .ne 6, 3) := by decide +kernel
theorem d1_105 : decode method_2_code 105 = .ok (.ldc 17, 2) := by decide +kernel
theorem d1_107 : decode method_2_code 107 = .ok (.areturn, 1) := by decide +kernel
theorem d1_108 : decode method_2_code 108 = .ok (.iload_n 0, 1) := by decide +kernel
theorem d1_109 : decode method_2_code 109 = .ok (.iconst 4, 1) := by decide +kernel
theorem d1_110 : decode method_2_code 110 = .ok (.if_icmp .ne 14, 3) := by decide +kernel
theorem d1_113 : decode method_2_code 113 = .ok (.new 8, 3) := by decide +kernel
theorem d1_116 : decode method_2_code 116 = .ok (.dup, 1) := by decide +kernel
theorem d1_117 : decode method_2_code 117 = .ok (.iconst 0, 1) := by decide +kernel
theorem d1_118 : decode method_2_code 118 = .ok (.newarray .char, 2) := by decide +kernel
theorem d1_120 : decode method_2_code 120 = .ok (.invokespecial 10, 3) := by decide +kernel
theorem d1_123 : decode method_2_code 123 = .ok (.areturn, 1) := by decide +kernel
theorem d1_124 : decode method_2_code 124 = .ok (.iload_n 0, 1) := by decide +kernel
theorem d1_125 : decode method_2_code 125 = .ok (.iconst 5, 1) := by decide +kernel
theorem d1_126 : decode method_2_code 126 = .ok (.if_icmp .ne 13, 3) := by decide +kernel
theorem d1_129 : decode method_2_code 129 = .ok (.iload_n 3, 1) := by decide +kernel
theorem d1_130 : decode method_2_code 130 = .ok (.sipush 255, 3) := by decide +kernel
theorem d1_133 : decode method_2_code 133 = .ok (.iand, 1) := by decide +kernel
theorem d1_134 : decode method_2_code 134 = .ok (.i2c, 1) := by decide +kernel
theorem d1_135 : decode method_2_code 135 = .ok (.invokestatic 19, 3) := by decide +kernel
theorem pd_8 : parseMethodDescriptor "(C)Ljava/lang/String;" = some ⟨[.char], some (.object "java/lang/String")⟩ := by decide +kernel
theorem d1_138 : decode method_2_code 138 = .ok (.areturn, 1) := by decide +kernel
theorem d1_139 : decode method_2_code 139 = .ok (.bipush 9, 2) := by decide +kernel
theorem d1_141 : decode method_2_code 141 = .ok (.newarray .char, 2) := by decide +kernel
theorem d1_143 : decode method_2_code 143 = .ok (.dup, 1) := by decide +kernel
theorem d1_144 : decode method_2_code 144 = .ok (.iconst 0, 1) := by decide +kernel
theorem d1_145 : decode method_2_code 145 = .ok (.iload_n 3, 1) := by decide +kernel
theorem d1_146 : decode method_2_code 146 = .ok (.sipush 255, 3) := by decide +kernel
theorem d1_149 : decode method_2_code 149 = .ok (.iand, 1) := by decide +kernel
theorem d1_150 : decode method_2_code 150 = .ok (.i2c, 1) := by decide +kernel
theorem d1_151 : decode method_2_code 151 = .ok (.castore, 1) := by decide +kernel
theorem d1_152 : decode method_2_code 152 = .ok (.dup, 1) := by decide +kernel
theorem d1_153 : decode method_2_code 153 = .ok (.iconst 1, 1) := by decide +kernel
theorem d1_154 : decode method_2_code 154 = .ok (.iload_n 3, 1) := by decide +kernel
theorem d1_155 : decode method_2_code 155 = .ok (.bipush 8, 2) := by decide +kernel
theorem d1_157 : decode method_2_code 157 = .ok (.iushr, 1) := by decide +kernel
theorem d1_158 : decode method_2_code 158 = .ok (.sipush 255, 3) := by decide +kernel
theorem d1_161 : decode method_2_code 161 = .ok (.iand, 1) := by decide +kernel
theorem d1_162 : decode method_2_code 162 = .ok (.i2c, 1) := by decide +kernel
theorem d1_163 : decode method_2_code 163 = .ok (.castore, 1) := by decide +kernel
theorem d1_164 : decode method_2_code 164 = .ok (.dup, 1) := by decide +kernel
theorem d1_165 : decode method_2_code 165 = .ok (.iconst 2, 1) := by decide +kernel
theorem d1_166 : decode method_2_code 166 = .ok (.iload_n 3, 1) := by decide +kernel
theorem d1_167 : decode method_2_code 167 = .ok (.bipush 16, 2) := by decide +kernel
theorem d1_169 : decode method_2_code 169 = .ok (.iushr, 1) := by decide +kernel
theorem d1_170 : decode method_2_code 170 = .ok (.sipush 255, 3) := by decide +kernel
theorem d1_173 : decode method_2_code 173 = .ok (.iand, 1) := by decide +kernel
theorem d1_174 : decode method_2_code 174 = .ok (.i2c, 1) := by decide +kernel
theorem d1_175 : decode method_2_code 175 = .ok (.castore, 1) := by decide +kernel
theorem d1_176 : decode method_2_code 176 = .ok (.dup, 1) := by decide +kernel
theorem d1_177 : decode method_2_code 177 = .ok (.iconst 3, 1) := by decide +kernel
theorem d1_178 : decode method_2_code 178 = .ok (.iload_n 3, 1) := by decide +kernel
theorem d1_179 : decode method_2_code 179 = .ok (.bipush 24, 2) := by decide +kernel
theorem d1_181 : decode method_2_code 181 = .ok (.iushr, 1) := by decide +kernel
theorem d1_182 : decode method_2_code 182 = .ok (.sipush 255, 3) := by decide +kernel
theorem d1_185 : decode method_2_code 185 = .ok (.iand, 1) := by decide +kernel
theorem d1_186 : decode method_2_code 186 = .ok (.i2c, 1) := by decide +kernel
theorem d1_187 : decode method_2_code 187 = .ok (.castore, 1) := by decide +kernel
theorem d1_188 : decode method_2_code 188 = .ok (.dup, 1) := by decide +kernel
theorem d1_189 : decode method_2_code 189 = .ok (.iconst 4, 1) := by decide +kernel
theorem d1_190 : decode method_2_code 190 = .ok (.iload 4, 2) := by decide +kernel
theorem d1_192 : decode method_2_code 192 = .ok (.sipush 255, 3) := by decide +kernel
theorem d1_195 : decode method_2_code 195 = .ok (.iand, 1) := by decide +kernel
theorem d1_196 : decode method_2_code 196 = .ok (.i2c, 1) := by decide +kernel
theorem d1_197 : decode method_2_code 197 = .ok (.castore, 1) := by decide +kernel
theorem d1_198 : decode method_2_code 198 = .ok (.dup, 1) := by decide +kernel
theorem d1_199 : decode method_2_code 199 = .ok (.iconst 5, 1) := by decide +kernel
theorem d1_200 : decode method_2_code 200 = .ok (.iload 4, 2) := by decide +kernel
theorem d1_202 : decode method_2_code 202 = .ok (.bipush 8, 2) := by decide +kernel
theorem d1_204 : decode method_2_code 204 = .ok (.iushr, 1) := by decide +kernel
theorem d1_205 : decode method_2_code 205 = .ok (.sipush 255, 3) := by decide +kernel
theorem d1_208 : decode method_2_code 208 = .ok (.iand, 1) := by decide +kernel
theorem d1_209 : decode method_2_code 209 = .ok (.i2c, 1) := by decide +kernel
theorem d1_210 : decode method_2_code 210 = .ok (.castore, 1) := by decide +kernel
theorem d1_211 : decode method_2_code 211 = .ok (.dup, 1) := by decide +kernel
theorem d1_212 : decode method_2_code 212 = .ok (.bipush 6, 2) := by decide +kernel
theorem d1_214 : decode method_2_code 214 = .ok (.iload 4, 2) := by decide +kernel
theorem d1_216 : decode method_2_code 216 = .ok (.bipush 16, 2) := by decide +kernel
theorem d1_218 : decode method_2_code 218 = .ok (.iushr, 1) := by decide +kernel
theorem d1_219 : decode method_2_code 219 = .ok (.sipush 255, 3) := by decide +kernel
theorem d1_222 : decode method_2_code 222 = .ok (.iand, 1) := by decide +kernel
theorem d1_223 : decode method_2_code 223 = .ok (.i2c, 1) := by decide +kernel
theorem d1_224 : decode method_2_code 224 = .ok (.castore, 1) := by decide +kernel
theorem d1_225 : decode method_2_code 225 = .ok (.dup, 1) := by decide +kernel
theorem d1_226 : decode method_2_code 226 = .ok (.bipush 7, 2) := by decide +kernel
theorem d1_228 : decode method_2_code 228 = .ok (.iload 4, 2) := by decide +kernel
theorem d1_230 : decode method_2_code 230 = .ok (.bipush 24, 2) := by decide +kernel
theorem d1_232 : decode method_2_code 232 = .ok (.iushr, 1) := by decide +kernel
theorem d1_233 : decode method_2_code 233 = .ok (.sipush 255, 3) := by decide +kernel
theorem d1_236 : decode method_2_code 236 = .ok (.iand, 1) := by decide +kernel
theorem d1_237 : decode method_2_code 237 = .ok (.i2c, 1) := by decide +kernel
theorem d1_238 : decode method_2_code 238 = .ok (.castore, 1) := by decide +kernel
theorem d1_239 : decode method_2_code 239 = .ok (.dup, 1) := by decide +kernel
theorem d1_240 : decode method_2_code 240 = .ok (.bipush 8, 2) := by decide +kernel
theorem d1_242 : decode method_2_code 242 = .ok (.iload_n 1, 1) := by decide +kernel
theorem d1_243 : decode method_2_code 243 = .ok (.sipush 255, 3) := by decide +kernel
theorem d1_246 : decode method_2_code 246 = .ok (.iand, 1) := by decide +kernel
theorem d1_247 : decode method_2_code 247 = .ok (.i2c, 1) := by decide +kernel
theorem d1_248 : decode method_2_code 248 = .ok (.castore, 1) := by decide +kernel
theorem d1_249 : decode method_2_code 249 = .ok (.astore 5, 2) := by decide +kernel
theorem d1_251 : decode method_2_code 251 = .ok (.new 8, 3) := by decide +kernel
theorem d1_254 : decode method_2_code 254 = .ok (.dup, 1) := by decide +kernel
theorem d1_255 : decode method_2_code 255 = .ok (.aload 5, 2) := by decide +kernel
theorem d1_257 : decode method_2_code 257 = .ok (.invokespecial 10, 3) := by decide +kernel
theorem d1_260 : decode method_2_code 260 = .ok (.areturn, 1) := by decide +kernel
theorem pn_9 : plainName "com/example/laminate/laminate/core/DefaultRegistry" = true := by first | (simp [plainName, overriddenIn]; done) | decide +kernel
theorem d8_0 : decode prog_8_method_3_code 0 = .ok (.aload_n 0, 1) := by decide +kernel
theorem d8_1 : decode prog_8_method_3_code 1 = .ok (.ldc 17, 2) := by decide +kernel
theorem d8_3 : decode prog_8_method_3_code 3 = .ok (.invokevirtual 11, 3) := by decide +kernel
theorem pd_10 : parseMethodDescriptor "(Ljava/lang/Object;)Z" = some ⟨[(.object "java/lang/Object")], some .boolean⟩ := by decide +kernel
theorem d8_6 : decode prog_8_method_3_code 6 = .ok (.ifCond .eq 8, 3) := by decide +kernel
theorem d8_14 : decode prog_8_method_3_code 14 = .ok (.aload_n 0, 1) := by decide +kernel
theorem d8_15 : decode prog_8_method_3_code 15 = .ok (.areturn, 1) := by decide +kernel
theorem d8_9 : decode prog_8_method_3_code 9 = .ok (.ldc 19, 2) := by decide +kernel
theorem d8_11 : decode prog_8_method_3_code 11 = .ok (.goto 4, 3) := by decide +kernel
theorem pd_11 : parseMethodDescriptor "(IIIII)Ljava/lang/String;" = some ⟨[.int, .int, .int, .int, .int], some (.object "java/lang/String")⟩ := by decide +kernel
theorem pd_12 : parseMethodDescriptor "(Ljava/lang/String;)Ljava/lang/String;" = some ⟨[(.object "java/lang/String")], some (.object "java/lang/String")⟩ := by decide +kernel
def Q_rm_can (Z : State) (ch : Int32) (h0 : Heap) (n0 : Nat) (v : Option Value) (h : Heap) (L : List Loc) : Prop := v = some (.int (1 : Int32)) ∧ Fr n0 L ∧ h = h0
theorem ef_rm_can (m : MethodId) (ch : Int32) : entryFrame m #[(.int ch)] 1 = mkF m 0 #[.val (.int ch)] [] := by first | (simp [entryFrame, mkF, argsToLocals, Value.category]; done) | rfl
set_option maxRecDepth 65536 in
set_option maxHeartbeats 40000000 in
theorem rm_can (l : Launch) (Z : State) (a0 : Array Value) (hw : ∀ d ∈ tables_1, d.before a0 Z = true) (ws : List Jvm.Cond) (ch : Int32) (h0 : Heap) (n0 : Nat) (Z0 : n0 ≤ h0.size) (hch : ¬ (255 : Int32) < ch) :
    MetFree l (⟨"java/lang/StringLatin1", "canEncode", "(C)Z"⟩ : MethodName) (head1 (Jvm.Cond.code (⟨"java/lang/StringLatin1", "canEncode", "(C)Z"⟩ : MethodName) jdk_43_method_3_code 1 (some .boolean) :: ws) ({ frames := 0, cells := 0, slots := 0, locals := 0 } : Room)) (fun a_ U_ => a_ = #[(.int ch)] ∧ Z.Warmed39 U_.vm ∧ U_.heap = h0) (fun _ _ _ _ _ => True) (fun _ U_ o_ V_ => ∃ v_ L_, o_ = .returned v_ ∧ (Q_rm_can Z ch h0 n0) v_ V_.heap L_ ∧ FrameEnd U_ o_ V_ L_ ({ frames := 0, cells := 0, slots := 0, locals := 0 } : Room).cells ({ frames := 0, cells := 0, slots := 0, locals := 0 } : Room).slots) := by
  refine MetFree.of_bodySF (plainFor_of_name pn_0) hisR ?_
  intro p e s m args below meth c s₁ Bd hml0 hP hK
  obtain ⟨rfl, hZ, hh⟩ := hP
  have hx := Bd.exec
  have hby := Bd.bytes
  have hml : c.maxLocals = 1 := hml0
  have hown : s.vm.findClass "java/lang/StringLatin1" = some m.cls := findClass_of_methodNamed Bd.named
  have hnm := (name_of_methodNamed Bd.named Bd.method).1
  have X0 : Stand p l e ({ frames := 0, cells := 0, slots := 0, locals := 0 } : Room) s m #[(.int ch)] below meth c s₁ [] 0 0 := Stand.of_body Bd
  have e0 : s₁.heap = h0 := by rw [← hh, Bd.state]; rfl
  have N0 := Fr.nil n0
  have K0 : Keep h0 h0 [] := Keep.refl _ _
  show own_Fin p.tables e below (own_Post (Q_rm_can Z ch h0 n0) ({ frames := 0, cells := 0, slots := 0, locals := 0 } : Room).cells ({ frames := 0, cells := 0, slots := 0, locals := 0 } : Room).slots below s) _
  refine own_go (fun _ kk_ => castTop (ef_rm_can m ch) kk_) ?_
  refine own_go (fun _ kk_ => XS.iloadN X0.here hx rfl (hb hby d12_0) rfl kk_) ?_
  refine own_go (fun _ kk_ => XS.sipush X0.here hx rfl (hb hby d12_1) kk_) ?_
  show own_Fin p.tables e below _ (s₁.setTop (mkF m 4 #[.val (.int ch)] [(.int (255 : Int32)), (.int ch)]))
  refine own_go (fun _ kk_ => XS.icmpNo X0.here hx rfl (hb hby d12_4) rfl (flt hch).2.2.1 kk_) ?_
  refine own_go (fun _ kk_ => XS.iconst X0.here hx rfl (hb hby d12_7) kk_) ?_
  refine own_go (fun _ kk_ => XS.goto X0.here hx rfl (pc0 := 8) (pc' := 12) rfl (hb hby d12_8) (by decide) (by decide) kk_) ?_
  show own_Fin p.tables e below _ (s₁.setTop (mkF m 12 #[.val (.int ch)] [(.int (1 : Int32))]))
  refine own_retI X0 hx Bd (t := .boolean) Bd.returns rfl (by simp) (hb hby d12_12) ?_ (by decide) (by decide)
  show (Q_rm_can Z ch h0 n0) (some (.int (1 : Int32))) s₁.heap _
  rw [e0]
  exact ⟨rfl, N0, rfl⟩
def Q_rm_tb (Z : State) (ch : Int32) (h0 : Heap) (n0 : Nat) (v : Option Value) (h : Heap) (L : List Loc) : Prop := ∃ (r : Addr) (k : ClassId), v = some (.ref r) ∧ Fr n0 L ∧ Keep h0 h [] ∧ h0.size ≤ r ∧ Arv Z h r k .byte (1 : Int32) [.int ch.toInt8.toInt32] (.int (0 : Int32))
theorem ef_rm_tb (m : MethodId) (ch : Int32) : entryFrame m #[(.int ch)] 1 = mkF m 0 #[.val (.int ch)] [] := by first | (simp [entryFrame, mkF, argsToLocals, Value.category]; done) | rfl
set_option maxRecDepth 65536 in
set_option maxHeartbeats 40000000 in
theorem rm_tb (l : Launch) (Z : State) (a0 : Array Value) (hw : ∀ d ∈ tables_1, d.before a0 Z = true) (ws : List Jvm.Cond) (ch : Int32) (h0 : Heap) (n0 : Nat) (Z0 : n0 ≤ h0.size) :
    MetFree l (⟨"java/lang/StringLatin1", "toBytes", "(C)[B"⟩ : MethodName) (head1 (Jvm.Cond.code (⟨"java/lang/StringLatin1", "toBytes", "(C)[B"⟩ : MethodName) jdk_43_method_46_code 1 (some (.array .byte)) :: ws) ({ frames := 0, cells := 1, slots := 1, locals := 0 } : Room)) (fun a_ U_ => a_ = #[(.int ch)] ∧ Z.Warmed39 U_.vm ∧ U_.heap = h0) (fun _ _ _ _ _ => True) (fun _ U_ o_ V_ => ∃ v_ L_, o_ = .returned v_ ∧ (Q_rm_tb Z ch h0 n0) v_ V_.heap L_ ∧ FrameEnd U_ o_ V_ L_ ({ frames := 0, cells := 1, slots := 1, locals := 0 } : Room).cells ({ frames := 0, cells := 1, slots := 1, locals := 0 } : Room).slots) := by
  refine MetFree.of_bodySF (plainFor_of_name pn_0) hisR ?_
  intro p e s m args below meth c s₁ Bd hml0 hP hK
  obtain ⟨rfl, hZ, hh⟩ := hP
  have hx := Bd.exec
  have hby := Bd.bytes
  have hml : c.maxLocals = 1 := hml0
  have hown : s.vm.findClass "java/lang/StringLatin1" = some m.cls := findClass_of_methodNamed Bd.named
  have hnm := (name_of_methodNamed Bd.named Bd.method).1
  have X0 : Stand p l e ({ frames := 0, cells := 1, slots := 1, locals := 0 } : Room) s m #[(.int ch)] below meth c s₁ [] 0 0 := Stand.of_body Bd
  have e0 : s₁.heap = h0 := by rw [← hh, Bd.state]; rfl
  have N0 := Fr.nil n0
  have K0 : Keep h0 h0 [] := Keep.refl _ _
  show own_Fin p.tables e below (own_Post (Q_rm_tb Z ch h0 n0) ({ frames := 0, cells := 1, slots := 1, locals := 0 } : Room).cells ({ frames := 0, cells := 1, slots := 1, locals := 0 } : Room).slots below s) _
  refine own_go (fun _ kk_ => castTop (ef_rm_tb m ch) kk_) ?_
  refine own_go (fun _ kk_ => XS.iconst X0.here hx rfl (hb hby d13_0) kk_) ?_
  show own_Fin p.tables e below _ (s₁.setTop (mkF m 1 #[.val (.int ch)] [(.int (1 : Int32))]))
  obtain ⟨T1, h1, k1, X1, e1, E1, A1, st1⟩ := newP X0 hx hZ (hw _ (List.mem_of_getElem? (i := 24) rfl)) e0 (g := (mkF m 1 #[.val (.int ch)] [(.int (1 : Int32))])) rfl (hb hby d13_1) rfl (by decide) (cap := 1) (by decide) (by decide) (by decide) (by decide)
  obtain ⟨b1, g1⟩ : ∃ z, z = h0.size := ⟨_, rfl⟩
  rw [← g1] at A1 st1
  have sz_b1 : h0.size ≤ b1 := Nat.le_trans K0.1 (Nat.le_of_eq g1.symm)
  have g_b1 : n0 ≤ b1 := Nat.le_trans Z0 sz_b1
  have K2 := K0.ext E1
  have V1 : Arv Z h1 b1 k1 .byte (1 : Int32) [(.int (0 : Int32))] (.int (0 : Int32)) := (Arv.new A1 (by decide)).pad (pad_rep [] (.int (0 : Int32)) 1)
  refine own_go st1 ?_
  refine own_go (fun _ kk_ => XS.dup X1.here hx rfl (hb hby d13_3) rfl rfl kk_) ?_
  refine own_go (fun _ kk_ => XS.iconst X1.here hx rfl (hb hby d13_4) kk_) ?_
  refine own_go (fun _ kk_ => XS.iloadN X1.here hx rfl (hb hby d13_5) rfl kk_) ?_
  show own_Fin p.tables e below _ (T1.setTop (mkF m 6 #[.val (.int ch)] [(.int ch), (.int (0 : Int32)), (.ref b1), (.ref b1)]))
  refine own_go (fun _ kk_ => XS.i2b X1.here hx rfl (hb hby d13_6) rfl kk_) ?_
  show own_Fin p.tables e below _ (T1.setTop (mkF m 7 #[.val (.int ch)] [(.int (ch.toInt8.toInt32)), (.int (0 : Int32)), (.ref b1), (.ref b1)]))
  obtain ⟨T3, h3, X3, e3, W3, V3, st3⟩ := own_stB X1 hx hZ e1 V1 (by decide) (i := 0) rfl (Nat.le_of_ble_eq_true rfl) (g := (mkF m 7 #[.val (.int ch)] [(.int (ch.toInt8.toInt32)), (.int (0 : Int32)), (.ref b1), (.ref b1)])) rfl rfl (hb hby d13_7)
  rw [own_b8] at V3
  replace V1 : Arv Z h3 b1 k1 .byte (1 : Int32) [(.int (ch.toInt8.toInt32))] (.int (0 : Int32)) := V3
  have N3 := Fr.snoc X3 N0 g_b1
  refine own_go st3 ?_
  have K4 := K2.wr W3 (Or.inr sz_b1)
  show own_Fin p.tables e below _ (T3.setTop (mkF m 8 #[.val (.int ch)] [(.ref b1)]))
  refine own_retA X3 hx Bd (t := (.array .byte)) Bd.returns rfl rfl rfl (hb hby d13_8) ?_ (by decide) (by decide)
  show (Q_rm_tb Z ch h0 n0) (some (.ref b1)) T3.heap _
  rw [e3]
  exact ⟨_, _, rfl, N3, K4, sz_b1, V1⟩
def Q_rm_ibb (Z : State) (xx : Addr) (bb : Addr) (h0 : Heap) (n0 : Nat) (v : Option Value) (h : Heap) (L : List Loc) : Prop := v = none ∧ Fr n0 L ∧ Keep h0 h [xx] ∧ Fld Z h xx "java/lang/String" "value" "[B" (.ref bb) ∧ Fld Z h xx "java/lang/String" "coder" "B" (.int (0 : Int32))
theorem ef_rm_ibb (m : MethodId) (xx : Addr) (bb : Addr) : entryFrame m #[(.ref xx), (.ref bb), (.int (0 : Int32))] 3 = mkF m 0 #[.val (.ref xx), .val (.ref bb), .val (.int (0 : Int32))] [] := by first | (simp [entryFrame, mkF, argsToLocals, Value.category]; done) | rfl
set_option maxRecDepth 65536 in
set_option maxHeartbeats 40000000 in
theorem rm_ibb (l : Launch) (Z : State) (a0 : Array Value) (hw : ∀ d ∈ tables_1, d.before a0 Z = true) (ws : List Jvm.Cond) (xx : Addr) (bb : Addr) (h0 : Heap) (n0 : Nat) (Z0 : n0 ≤ h0.size) (E_xx : Exa Z h0 xx "java/lang/String") (V_xx : Fld Z h0 xx "java/lang/String" "value" "[B" .null) (C_xx : Fld Z h0 xx "java/lang/String" "coder" "B" (.int (0 : Int32))) (g_xx : n0 ≤ xx) :
    MetFree l (⟨"java/lang/String", "<init>", "([BB)V"⟩ : MethodName) (head1 (Jvm.Cond.code (⟨"java/lang/String", "<init>", "([BB)V"⟩ : MethodName) jdk_42_method_151_code 3 none :: ws) ({ frames := 1, cells := 0, slots := 0, locals := 12 } : Room)) (fun a_ U_ => a_ = #[(.ref xx), (.ref bb), (.int (0 : Int32))] ∧ Z.Warmed39 U_.vm ∧ U_.heap = h0) (fun _ _ _ _ _ => True) (fun _ U_ o_ V_ => ∃ v_ L_, o_ = .returned v_ ∧ (Q_rm_ibb Z xx bb h0 n0) v_ V_.heap L_ ∧ FrameEnd U_ o_ V_ L_ ({ frames := 1, cells := 0, slots := 0, locals := 12 } : Room).cells ({ frames := 1, cells := 0, slots := 0, locals := 12 } : Room).slots) := by
  refine MetFree.of_bodySF (plainFor_of_name pn_1) hisR ?_
  intro p e s m args below meth c s₁ Bd hml0 hP hK
  obtain ⟨rfl, hZ, hh⟩ := hP
  have hx := Bd.exec
  have hby := Bd.bytes
  have hml : c.maxLocals = 3 := hml0
  have hown : s.vm.findClass "java/lang/String" = some m.cls := findClass_of_methodNamed Bd.named
  have hnm := (name_of_methodNamed Bd.named Bd.method).1
  have X0 : Stand p l e ({ frames := 1, cells := 0, slots := 0, locals := 12 } : Room) s m #[(.ref xx), (.ref bb), (.int (0 : Int32))] below meth c s₁ [] 0 0 := Stand.of_body Bd
  have e0 : s₁.heap = h0 := by rw [← hh, Bd.state]; rfl
  have N0 := Fr.nil n0
  have K0 : Keep h0 h0 [xx] := Keep.refl _ _
  show own_Fin p.tables e below (own_Post (Q_rm_ibb Z xx bb h0 n0) ({ frames := 1, cells := 0, slots := 0, locals := 12 } : Room).cells ({ frames := 1, cells := 0, slots := 0, locals := 12 } : Room).slots below s) _
  refine own_go (fun _ kk_ => castTop (ef_rm_ibb m xx bb) kk_) ?_
  refine own_go (fun _ kk_ => XS.aloadN X0.here hx rfl (hb hby d14_0) rfl rfl kk_) ?_
  show own_Fin p.tables e below _ (s₁.setTop (mkF m 1 #[.val (.ref xx), .val (.ref bb), .val (.int (0 : Int32))] [(.ref xx)]))
  obtain ⟨T5, X5, e5, st5⟩ := initO X0 hx hZ hown (hw _ (List.mem_of_getElem? (i := 16) rfl)) (hw _ (List.mem_of_getElem? (i := 17) rfl)) (hw _ (List.mem_of_getElem? (i := 18) rfl)) e0 (g := (mkF m 1 #[.val (.ref xx), .val (.ref bb), .val (.int (0 : Int32))] [(.ref xx)])) rfl (by rw [hml]; rfl) rfl (hb hby d14_1) (by decide) (W := 0) (by show 2 * 0 + _ ≤ _; exact Nat.le_of_eq rfl) (by decide)
  refine own_go st5 ?_
  refine own_go (fun _ kk_ => XS.aloadN X5.here hx rfl (hb hby d14_4) rfl rfl kk_) ?_
  refine own_go (fun _ kk_ => XS.aloadN X5.here hx rfl (hb hby d14_5) rfl rfl kk_) ?_
  show own_Fin p.tables e below _ (T5.setTop (mkF m 6 #[.val (.ref xx), .val (.ref bb), .val (.int (0 : Int32))] [(.ref bb), (.ref xx)]))
  obtain ⟨T6, h6, X6, e6, W6, st6⟩ := putF X5 hx hZ hown (host := "") (Or.inl (hw _ (List.mem_of_getElem? (i := 33) rfl))) Via.refl e5 V_xx E_xx (Or.inr ⟨(hw _ (List.mem_of_getElem? (i := 34) rfl)), rfl, hnm⟩) (hw _ (List.mem_of_getElem? (i := 7) rfl)) (ty := (.array .byte)) (by decide) rfl rfl (g := (mkF m 6 #[.val (.ref xx), .val (.ref bb), .val (.int (0 : Int32))] [(.ref bb), (.ref xx)])) rfl rfl (hb hby d14_6)
  have N6 := Fr.snoc X6 N0 g_xx
  replace V_xx := V_xx.same W6
  refine own_go st6 ?_
  replace E_xx := E_xx.wr W6
  replace C_xx := C_xx.other W6 (Or.inr (slot_ne (Or.inr (hw _ (List.mem_of_getElem? (i := 32) rfl))) (Or.inr (hw _ (List.mem_of_getElem? (i := 34) rfl))) (by decide) (t := .byte) (t' := (.array .byte)) (by decide) (by decide)))
  have K7 := K0.wr W6 (Or.inl (by simp))
  refine own_go (fun _ kk_ => XS.aloadN X6.here hx rfl (hb hby d14_9) rfl rfl kk_) ?_
  refine own_go (fun _ kk_ => XS.iloadN X6.here hx rfl (hb hby d14_10) rfl kk_) ?_
  show own_Fin p.tables e below _ (T6.setTop (mkF m 11 #[.val (.ref xx), .val (.ref bb), .val (.int (0 : Int32))] [(.int (0 : Int32)), (.ref xx)]))
  obtain ⟨T8, h8, X8, e8, W8, st8⟩ := putFN X6 hx hZ hown (hw _ (List.mem_of_getElem? (i := 31) rfl)) Via.refl e6 C_xx E_xx (Or.inr ⟨(hw _ (List.mem_of_getElem? (i := 32) rfl)), rfl, hnm⟩) (hw _ (List.mem_of_getElem? (i := 7) rfl)) (ty := .byte) (v' := .int (0 : Int32)) (by decide) rfl rfl (g := (mkF m 11 #[.val (.ref xx), .val (.ref bb), .val (.int (0 : Int32))] [(.int (0 : Int32)), (.ref xx)])) rfl rfl (hb hby d14_11)
  have N8 := Fr.snoc X8 N6 g_xx
  replace C_xx := C_xx.same W8
  refine own_go st8 ?_
  replace E_xx := E_xx.wr W8
  replace V_xx := V_xx.other W8 (Or.inr (slot_ne (Or.inr (hw _ (List.mem_of_getElem? (i := 34) rfl))) (Or.inr (hw _ (List.mem_of_getElem? (i := 32) rfl))) (by decide) (t := (.array .byte)) (t' := .byte) (by decide) (by decide)))
  have K9 := K7.wr W8 (Or.inl (by simp))
  show own_Fin p.tables e below _ (T8.setTop (mkF m 14 #[.val (.ref xx), .val (.ref bb), .val (.int (0 : Int32))] []))
  refine own_ret0 X8 hx Bd (hb hby d14_14) ?_ (by decide) (by decide)
  show (Q_rm_ibb Z xx bb h0 n0) none T8.heap _
  rw [e8]
  exact ⟨rfl, N8, K9, V_xx, C_xx⟩
def Q_rm_vo (Z : State) (ch : Int32) (gc : Int32) (h0 : Heap) (n0 : Nat) (v : Option Value) (h : Heap) (L : List Loc) : Prop := ∃ xr tr : Addr, v = some (.ref xr) ∧ Fr n0 L ∧ Keep h0 h [] ∧ h0.size ≤ xr ∧ h0.size ≤ tr ∧ own_Str Z h xr tr [ch]
theorem ef_rm_vo (m : MethodId) (ch : Int32) (gc : Int32) : entryFrame m #[(.int ch)] 1 = mkF m 0 #[.val (.int ch)] [] := by first | (simp [entryFrame, mkF, argsToLocals, Value.category]; done) | rfl
set_option maxRecDepth 65536 in
set_option maxHeartbeats 40000000 in
theorem rm_vo (l : Launch) (Z : State) (a0 : Array Value) (hw : ∀ d ∈ tables_1, d.before a0 Z = true) (ws : List Jvm.Cond) (ch : Int32) (gc : Int32) (h0 : Heap) (n0 : Nat) (Z0 : n0 ≤ h0.size) (hch0 : ¬ ch < 0) (hch : ¬ (255 : Int32) < ch) (S_C : Sta Z Z.heap "java/lang/String" "COMPACT_STRINGS" "Z" (.int gc)) (hcs : ¬ gc = 0) (O0 : Old Z n0 h0) :
    MetFree l (⟨"java/lang/String", "valueOf", "(C)Ljava/lang/String;"⟩ : MethodName) (head1 (Jvm.Cond.code (⟨"java/lang/String", "valueOf", "(C)Ljava/lang/String;"⟩ : MethodName) jdk_42_method_139_code 1 (some (.object "java/lang/String")) :: ws) ({ frames := 2, cells := 2, slots := 5, locals := 27 } : Room)) (fun a_ U_ => a_ = #[(.int ch)] ∧ Z.Warmed39 U_.vm ∧ U_.heap = h0) (fun _ _ _ _ _ => True) (fun _ U_ o_ V_ => ∃ v_ L_, o_ = .returned v_ ∧ (Q_rm_vo Z ch gc h0 n0) v_ V_.heap L_ ∧ FrameEnd U_ o_ V_ L_ ({ frames := 2, cells := 2, slots := 5, locals := 27 } : Room).cells ({ frames := 2, cells := 2, slots := 5, locals := 27 } : Room).slots) := by
  refine MetFree.of_bodySF (plainFor_of_name pn_1) hisR ?_
  intro p e s m args below meth c s₁ Bd hml0 hP hK
  obtain ⟨rfl, hZ, hh⟩ := hP
  have hx := Bd.exec
  have hby := Bd.bytes
  have hml : c.maxLocals = 1 := hml0
  have hown : s.vm.findClass "java/lang/String" = some m.cls := findClass_of_methodNamed Bd.named
  have hnm := (name_of_methodNamed Bd.named Bd.method).1
  have X0 : Stand p l e ({ frames := 2, cells := 2, slots := 5, locals := 27 } : Room) s m #[(.int ch)] below meth c s₁ [] 0 0 := Stand.of_body Bd
  have e0 : s₁.heap = h0 := by rw [← hh, Bd.state]; rfl
  have N0 := Fr.nil n0
  have K0 : Keep h0 h0 [] := Keep.refl _ _
  show own_Fin p.tables e below (own_Post (Q_rm_vo Z ch gc h0 n0) ({ frames := 2, cells := 2, slots := 5, locals := 27 } : Room).cells ({ frames := 2, cells := 2, slots := 5, locals := 27 } : Room).slots below s) _
  refine own_go (fun _ kk_ => castTop (ef_rm_vo m ch gc) kk_) ?_
  show own_Fin p.tables e below _ (s₁.setTop (mkF m 0 #[.val (.int ch)] []))
  obtain ⟨T10, X10, e10, st10⟩ := getS2 X0 hx hZ hown (host := "") (Or.inl (hw _ (List.mem_of_getElem? (i := 19) rfl))) Via.refl e0 (S_C.ext O0.2) (g := (mkF m 0 #[.val (.int ch)] [])) rfl (hb hby d11_0)
  refine own_go st10 ?_
  show own_Fin p.tables e below _ (T10.setTop (mkF m 3 #[.val (.int ch)] [(.int gc)]))
  refine own_go (fun _ kk_ => XS.ifNo X10.here hx rfl (hb hby d11_3) rfl ((if0 _ _).trans (feq hcs).1) kk_) ?_
  refine own_go (fun _ kk_ => XS.iloadN X10.here hx rfl (hb hby d11_6) rfl kk_) ?_
  show own_Fin p.tables e below _ (T10.setTop (mkF m 7 #[.val (.int ch)] [(.int ch)]))
  obtain ⟨_, _, ⟨T11, L11, k11, n11⟩, -, X11, ⟨Lc11, hQ11, l11, y11, z11⟩, st11⟩ := Jvm.LawKit.callS X10 hx (y := (⟨"java/lang/StringLatin1", "canEncode", "(C)Z"⟩ : MethodName)) hown (mvT hZ (hw _ (List.mem_of_getElem? (i := 59) rfl))) (mvT hZ (hw _ (List.mem_of_getElem? (i := 60) rfl))) (mvT hZ (hw _ (List.mem_of_getElem? (i := 50) rfl))) (mvT hZ (hw _ (List.mem_of_getElem? (i := 61) rfl))) (by decide) (backOf (W := 0) (rm_can l Z a0 hw [] ch  h0 n0 (Nat.le_trans Z0 K0.1) hch) hZ (hw _ (List.mem_of_getElem? (i := 61) rfl)) (hw _ (List.mem_of_getElem? (i := 50) rfl)) (by decide) (by decide)) (g := (mkF m 7 #[.val (.int ch)] [(.int ch)])) rfl (by rw [hml]; rfl) (argsL := [(.int ch)]) (rest := []) (lenOf pd_2 rfl) rfl (by show 2 * 0 + _ ≤ _; exact Nat.le_of_eq rfl) (hb hby d11_7) (fun _ _ => ⟨rfl, e10, (by decide : 0 + 0 ≤ _), (by decide : 0 + 0 ≤ _)⟩)
  dsimp only [Pt.U, Pt.locs, Pt.cells, Pt.slots] at X11 l11 y11 z11 st11 hQ11
  subst l11 y11 z11
  obtain ⟨rfl, N11q, e11⟩ := hQ11
  have N11 := Fr.app N0 N11q
  refine own_go st11 ?_
  show own_Fin p.tables e below _ (T11.setTop (mkF m 10 #[.val (.int ch)] [(.int (1 : Int32))]))
  refine own_go (fun _ kk_ => XS.ifNo X11.here hx rfl (hb hby d11_10) rfl ((if0 _ _).trans (feq (by decide)).1) kk_) ?_
  show own_Fin p.tables e below _ (T11.setTop (mkF m 13 #[.val (.int ch)] []))
  obtain ⟨T12, h12, X12, e12, E12, A12, D12, -, st12⟩ := newO X11 hx hZ hown (hw _ (List.mem_of_getElem? (i := 47) rfl)) (hw _ (List.mem_of_getElem? (i := 7) rfl)) (hw _ (List.mem_of_getElem? (i := 8) rfl)) e11 (g := (mkF m 13 #[.val (.int ch)] [])) rfl (hb hby d11_13) (by decide) (by decide)
  obtain ⟨b12, g12⟩ : ∃ z, z = h0.size := ⟨_, rfl⟩
  rw [← g12] at A12 D12 st12
  have sz_b12 : h0.size ≤ b12 := Nat.le_trans K0.1 (Nat.le_of_eq g12.symm)
  have g_b12 : n0 ≤ b12 := Nat.le_trans Z0 sz_b12
  replace O0 := O0.ext E12
  have K13 := K0.ext E12
  have F12_coder : Fld Z h12 b12 "java/lang/String" "coder" "B" (.int (0 : Int32)) := D12 (Or.inr (hw _ (List.mem_of_getElem? (i := 32) rfl))) (ty := .byte) (by decide)
  have F12_value : Fld Z h12 b12 "java/lang/String" "value" "[B" .null := D12 (Or.inr (hw _ (List.mem_of_getElem? (i := 34) rfl))) (ty := (.array .byte)) (by decide)
  refine own_go st12 ?_
  refine own_go (fun _ kk_ => XS.dup X12.here hx rfl (hb hby d11_16) rfl rfl kk_) ?_
  refine own_go (fun _ kk_ => XS.iloadN X12.here hx rfl (hb hby d11_17) rfl kk_) ?_
  show own_Fin p.tables e below _ (T12.setTop (mkF m 18 #[.val (.int ch)] [(.int ch), (.ref b12), (.ref b12)]))
  obtain ⟨_, _, ⟨T14, L14, k14, n14⟩, -, X14, ⟨Lc14, hQ14, l14, y14, z14⟩, st14⟩ := Jvm.LawKit.callS X12 hx (y := (⟨"java/lang/StringLatin1", "toBytes", "(C)[B"⟩ : MethodName)) hown (mvT hZ (hw _ (List.mem_of_getElem? (i := 62) rfl))) (mvT hZ (hw _ (List.mem_of_getElem? (i := 63) rfl))) (mvT hZ (hw _ (List.mem_of_getElem? (i := 50) rfl))) (mvT hZ (hw _ (List.mem_of_getElem? (i := 64) rfl))) (by decide) (backOf (W := 2) (rm_tb l Z a0 hw [] ch h12 n0 (Nat.le_trans Z0 K13.1)) hZ (hw _ (List.mem_of_getElem? (i := 64) rfl)) (hw _ (List.mem_of_getElem? (i := 50) rfl)) (by decide) (by decide)) (g := (mkF m 18 #[.val (.int ch)] [(.int ch), (.ref b12), (.ref b12)])) rfl (by rw [hml]; rfl) (argsL := [(.int ch)]) (rest := [(.ref b12), (.ref b12)]) (lenOf pd_3 rfl) rfl (by show 2 * 0 + _ ≤ _; exact Nat.le_of_eq rfl) (hb hby d11_18) (fun _ _ => ⟨rfl, e12, (by decide : 1 + 1 ≤ _), (by decide : 4 + 1 ≤ _)⟩)
  dsimp only [Pt.U, Pt.locs, Pt.cells, Pt.slots] at X14 l14 y14 z14 st14 hQ14
  subst l14 y14 z14
  obtain ⟨r14, kk14, rfl, N14q, KK14, sz14, V14⟩ := hQ14
  have N14 := Fr.app N11 N14q
  have sz_r14 : h0.size ≤ r14 := Nat.le_trans K13.1 sz14
  have g_r14 : n0 ≤ r14 := Nat.le_trans Z0 sz_r14
  have ne15 : b12 ≠ r14 := Nat.ne_of_lt (Nat.lt_of_lt_of_le A12.lt sz14)
  replace O0 := O0.keep KK14 all0
  replace A12 := A12.keep KK14
  replace F12_coder := F12_coder.keep KK14 nin0
  replace F12_value := F12_value.keep KK14 nin0
  have K16 := K13.trans KK14 all0
  refine own_go st14 ?_
  refine own_go (fun _ kk_ => XS.iconst X14.here hx rfl (hb hby d11_21) kk_) ?_
  show own_Fin p.tables e below _ (T14.setTop (mkF m 22 #[.val (.int ch)] [(.int (0 : Int32)), (.ref r14), (.ref b12), (.ref b12)]))
  obtain ⟨_, _, ⟨T17, L17, k17, n17⟩, -, X17, ⟨Lc17, hQ17, l17, y17, z17⟩, st17⟩ := X14.specialBack hx (y := (⟨"java/lang/String", "<init>", "([BB)V"⟩ : MethodName)) rfl hown (mvT hZ (hw _ (List.mem_of_getElem? (i := 65) rfl))) (mvT hZ (hw _ (List.mem_of_getElem? (i := 66) rfl))) (mvT hZ (hw _ (List.mem_of_getElem? (i := 67) rfl))) (by decide) (backOf (W := 1) (rm_ibb l Z a0 hw [] b12 r14 T14.heap n0 (Nat.le_trans Z0 K16.1) A12 F12_value F12_coder g_b12) hZ (hw _ (List.mem_of_getElem? (i := 67) rfl)) (hw _ (List.mem_of_getElem? (i := 8) rfl)) (by decide) (by decide)) (g := (mkF m 22 #[.val (.int ch)] [(.int (0 : Int32)), (.ref r14), (.ref b12), (.ref b12)])) rfl (by rw [hml]; rfl) (Steps.refl _) (a := b12) (argsL := [(.ref r14), (.int (0 : Int32))]) (rest := [(.ref b12)]) (lenOf pd_4 rfl) rfl (by show 2 * 0 + _ ≤ _; exact Nat.le_of_eq rfl) (hb hby d11_22) (fun _ _ => ⟨rfl, rfl, (by decide : 2 + 0 ≤ _), (by decide : 5 + 0 ≤ _)⟩)
  dsimp only [Pt.U, Pt.locs, Pt.cells, Pt.slots] at X17 l17 y17 z17 st17 hQ17
  subst l17 y17 z17
  obtain ⟨rfl, N17q, KK17, FV17, FC17⟩ := hQ17
  have N17 := Fr.app N14 N17q
  replace O0 := O0.keep KK17 (allS g_b12 (all0))
  replace A12 := A12.keep KK17
  replace V14 := V14.keep KK17 (ninS (Ne.symm ne15) nin0)
  have K18 := K16.trans KK17 (allS (Or.inr sz_b12) all0)
  refine own_go (fun _ kk_ => st17.trans kk_) ?_
  show own_Fin p.tables e below _ (T17.setTop (mkF m 25 #[.val (.int ch)] [(.ref b12)]))
  refine own_retA X17 hx Bd (t := (.object "java/lang/String")) Bd.returns rfl rfl rfl (hb hby d11_25) ?_ (by decide) (by decide)
  show (Q_rm_vo Z ch gc h0 n0) (some (.ref b12)) T17.heap _
  exact ⟨_, _, rfl, N17, K18, sz_b12, sz_r14, _, _, _, _, A12, FV17, FC17, V14, StrChars.Road.codOf (n := 1) rfl (by intro c hc; cases List.mem_singleton.mp hc; exact hch), own_up _ (by intro c hc; cases List.mem_singleton.mp hc; exact ⟨hch0, hch⟩), Nat.le_of_ble_eq_true rfl⟩
def Q_rm_ne0 (Z : State) (xx : Addr) (bb : Addr) (gc : Int32) (h0 : Heap) (n0 : Nat) (v : Option Value) (h : Heap) (L : List Loc) : Prop := v = none ∧ Fr n0 L ∧ Keep h0 h [xx] ∧ ∃ t, own_Str Z h xx t []
theorem ef_rm_ne0 (m : MethodId) (xx : Addr) (bb : Addr) (gc : Int32) : entryFrame m #[(.ref xx), (.ref bb), (.int (0 : Int32)), (.int (0 : Int32)), .null] 6 = mkF m 0 #[.val (.ref xx), .val (.ref bb), .val (.int (0 : Int32)), .val (.int (0 : Int32)), .val .null, .unset] [] := by first | (simp [entryFrame, mkF, argsToLocals, Value.category]; done) | rfl
set_option maxRecDepth 65536 in
set_option maxHeartbeats 40000000 in
theorem rm_ne0 (l : Launch) (Z : State) (a0 : Array Value) (hw : ∀ d ∈ tables_1, d.before a0 Z = true) (ws : List Jvm.Cond) (hEL : EW Z a0 consts_1) (xx : Addr) (bb : Addr) (gc : Int32) (h0 : Heap) (n0 : Nat) (Z0 : n0 ≤ h0.size) (E_xx : Exa Z h0 xx "java/lang/String") (V_xx : Fld Z h0 xx "java/lang/String" "value" "[B" .null) (C_xx : Fld Z h0 xx "java/lang/String" "coder" "B" (.int (0 : Int32))) (g_xx : n0 ≤ xx) (O0 : Old Z n0 h0) :
    MetFree l (⟨"java/lang/String", "<init>", "([CIILjava/lang/Void;)V"⟩ : MethodName) (head1 (Jvm.Cond.code (⟨"java/lang/String", "<init>", "([CIILjava/lang/Void;)V"⟩ : MethodName) jdk_42_method_149_code 6 none :: ws) ({ frames := 1, cells := 4, slots := 8, locals := 12 } : Room)) (fun a_ U_ => a_ = #[(.ref xx), (.ref bb), (.int (0 : Int32)), (.int (0 : Int32)), .null] ∧ Z.Warmed39 U_.vm ∧ U_.heap = h0 ∧ CHv Z consts_1 U_.vm h0) (fun _ _ _ _ _ => True) (fun _ U_ o_ V_ => ∃ v_ L_, o_ = .returned v_ ∧ (Q_rm_ne0 Z xx bb gc h0 n0) v_ V_.heap L_ ∧ CHr Z consts_1 U_.vm U_.heap V_.vm V_.heap ∧ ReturnedEndW U_ o_ V_ L_ ({ frames := 1, cells := 4, slots := 8, locals := 12 } : Room).cells ({ frames := 1, cells := 4, slots := 8, locals := 12 } : Room).slots) := by
  refine MetFree.of_bodySF (plainFor_of_name pn_1) hisR ?_
  intro p e s m args below meth c s₁ Bd hml0 hP hK
  obtain ⟨rfl, hZ, hh, CH⟩ := hP
  have hx := Bd.exec
  have hby := Bd.bytes
  have hml : c.maxLocals = 6 := hml0
  have hown : s.vm.findClass "java/lang/String" = some m.cls := findClass_of_methodNamed Bd.named
  have hnm := (name_of_methodNamed Bd.named Bd.method).1
  have wS : ∀ a ∈ Bundle.stringAtoms, a.before a0 Z = true := fun d hd => hw d ((by decide +kernel : ∀ d ∈ Bundle.stringAtoms, d ∈ tables_1) d hd)
  have X0 : Stand p l e ({ frames := 1, cells := 4, slots := 8, locals := 12 } : Room) (s.setVm s.vm) m #[(.ref xx), (.ref bb), (.int (0 : Int32)), (.int (0 : Int32)), .null] below meth c s₁ [] 0 0 := Stand.of_body Bd
  have e0 : s₁.heap = h0 := by rw [← hh, Bd.state]; rfl
  have N0 := Fr.nil n0
  have K0 : Keep h0 h0 [xx] := Keep.refl _ _
  replace hZ : Z.Warmed39 (s.setVm s.vm).vm := hZ
  replace hown : (s.setVm s.vm).vm.findClass "java/lang/String" = some m.cls := hown
  have hS : s.Since s.vm h0.size := (State.WarmedH.refl s).since _
  have hk : h0.size ≤ h0.size := Nat.le_refl _
  have CR : CHr Z consts_1 s.vm h0 s.vm h0 := CHr.refl CH
  show own_Fin p.tables e below (own_PostW Z consts_1 (Q_rm_ne0 Z xx bb gc h0 n0) ({ frames := 1, cells := 4, slots := 8, locals := 12 } : Room).cells ({ frames := 1, cells := 4, slots := 8, locals := 12 } : Room).slots below s) _
  refine own_go (fun _ kk_ => castTop (ef_rm_ne0 m xx bb gc) kk_) ?_
  have S_xx := own_safe_null (EL := consts_1) hZ.alike E_xx V_xx
  refine own_go (fun _ kk_ => XS.aloadN X0.here hx rfl (hb hby d3_0) rfl rfl kk_) ?_
  show own_Fin p.tables e below _ (s₁.setTop (mkF m 1 #[.val (.ref xx), .val (.ref bb), .val (.int (0 : Int32)), .val (.int (0 : Int32)), .val .null, .unset] [(.ref xx)]))
  obtain ⟨T19, X19, e19, st19⟩ := initO X0 hx hZ hown (hw _ (List.mem_of_getElem? (i := 16) rfl)) (hw _ (List.mem_of_getElem? (i := 17) rfl)) (hw _ (List.mem_of_getElem? (i := 18) rfl)) e0 (g := (mkF m 1 #[.val (.ref xx), .val (.ref bb), .val (.int (0 : Int32)), .val (.int (0 : Int32)), .val .null, .unset] [(.ref xx)])) rfl (by rw [hml]; rfl) rfl (hb hby d3_1) (by decide) (W := 0) (by show 2 * 0 + _ ≤ _; exact Nat.le_of_eq rfl) (by decide)
  refine own_go st19 ?_
  refine own_go (fun _ kk_ => XS.iloadN X19.here hx rfl (hb hby d3_4) rfl kk_) ?_
  show own_Fin p.tables e below _ (T19.setTop (mkF m 5 #[.val (.ref xx), .val (.ref bb), .val (.int (0 : Int32)), .val (.int (0 : Int32)), .val .null, .unset] [(.int (0 : Int32))]))
  refine own_go (fun _ kk_ => XS.ifNo X19.here hx rfl (hb hby d3_5) rfl ((if0 _ _).trans (teq (by decide : (0 : Int32) = (0 : Int32))).2) kk_) ?_
  refine own_go (fun _ kk_ => XS.aloadN X19.here hx rfl (hb hby d3_8) rfl rfl kk_) ?_
  show own_Fin p.tables e below _ (T19.setTop (mkF m 9 #[.val (.ref xx), .val (.ref bb), .val (.int (0 : Int32)), .val (.int (0 : Int32)), .val .null, .unset] [(.ref xx)]))
  obtain ⟨a20, T20, h20, k20, tb20, kb20, X20, e20, E20, hS, hk, hZ, hown, EA20, FC20, FV20, VB20, -, -, CR20, -, NE20, st20⟩ := ldcCH X19 hx hZ hown (hw _ (List.mem_of_getElem? (i := 68) rfl)) wS e19 hS hk hEL (by decide) CH (vs := ((([] : List Int32).map (fun c => c.toInt8.toInt32)).map Value.int)) (z := (0 : Int32)) (by exact ⟨by decide, by decide⟩) (by decide) rfl (g := (mkF m 9 #[.val (.ref xx), .val (.ref bb), .val (.int (0 : Int32)), .val (.int (0 : Int32)), .val .null, .unset] [(.ref xx)])) rfl (hb hby d3_9) (n := 0) (by decide) (by decide) (by decide) (by decide)
  replace S_xx := CR20.safe E_xx.lt S_xx
  replace CR := CR.trans CR20
  replace CH := CR20.1
  replace E_xx := E_xx.ext E20
  replace V_xx := V_xx.ext E20
  replace C_xx := C_xx.ext E20
  replace O0 := O0.ext E20
  have K21 := K0.ext E20
  have ne22 : xx ≠ a20 := (NE20 _ S_xx).1
  have ne23 : xx ≠ tb20 := (NE20 _ S_xx).2
  refine own_go st20 ?_
  show own_Fin p.tables e below _ (T20.setTop (mkF m 11 #[.val (.ref xx), .val (.ref bb), .val (.int (0 : Int32)), .val (.int (0 : Int32)), .val .null, .unset] [(.ref a20), (.ref xx)]))
  obtain ⟨T24, X24, e24, st24⟩ := getF X20 hx hZ hown (host := "") (Or.inl (hw _ (List.mem_of_getElem? (i := 33) rfl))) Via.refl e20 FV20 (g := (mkF m 11 #[.val (.ref xx), .val (.ref bb), .val (.int (0 : Int32)), .val (.int (0 : Int32)), .val .null, .unset] [(.ref a20), (.ref xx)])) rfl rfl (hb hby d3_11)
  refine own_go st24 ?_
  show own_Fin p.tables e below _ (T24.setTop (mkF m 14 #[.val (.ref xx), .val (.ref bb), .val (.int (0 : Int32)), .val (.int (0 : Int32)), .val .null, .unset] [(.ref tb20), (.ref xx)]))
  obtain ⟨T25, h25, X25, e25, W25, st25⟩ := putF X24 hx hZ hown (host := "") (Or.inl (hw _ (List.mem_of_getElem? (i := 33) rfl))) Via.refl e24 V_xx E_xx (Or.inr ⟨(hw _ (List.mem_of_getElem? (i := 34) rfl)), rfl, hnm⟩) (hw _ (List.mem_of_getElem? (i := 7) rfl)) (ty := (.array .byte)) (by decide) rfl rfl (g := (mkF m 14 #[.val (.ref xx), .val (.ref bb), .val (.int (0 : Int32)), .val (.int (0 : Int32)), .val .null, .unset] [(.ref tb20), (.ref xx)])) rfl rfl (hb hby d3_14)
  have N25 := Fr.snoc X25 N0 g_xx
  replace V_xx := V_xx.same W25
  refine own_go st25 ?_
  have sa26 := S_xx
  replace S_xx := Safe.wr W25 sa26 CH S_xx
  replace CR := CR.trans (CHr.wr W25 sa26 CH)
  replace CH := CHv.wr W25 sa26 CH
  replace hk := Nat.le_trans hk (Keep.of_wr W25).1
  replace E_xx := E_xx.wr W25
  replace C_xx := C_xx.other W25 (Or.inr (slot_ne (Or.inr (hw _ (List.mem_of_getElem? (i := 32) rfl))) (Or.inr (hw _ (List.mem_of_getElem? (i := 34) rfl))) (by decide) (t := .byte) (t' := (.array .byte)) (by decide) (by decide)))
  replace O0 := O0.wr W25 g_xx
  replace EA20 := EA20.wr W25
  replace FC20 := FC20.other W25 (Or.inl (Ne.symm ne22))
  replace FV20 := FV20.other W25 (Or.inl (Ne.symm ne22))
  replace VB20 := VB20.other W25 (Ne.symm ne23)
  have K27 := K21.wr W25 (Or.inl (by simp))
  refine own_go (fun _ kk_ => XS.aloadN X25.here hx rfl (hb hby d3_17) rfl rfl kk_) ?_
  show own_Fin p.tables e below _ (T25.setTop (mkF m 18 #[.val (.ref xx), .val (.ref bb), .val (.int (0 : Int32)), .val (.int (0 : Int32)), .val .null, .unset] [(.ref xx)]))
  obtain ⟨a28, T28, h28, k28, tb28, kb28, X28, e28, E28, hS, hk, hZ, hown, EA28, FC28, FV28, VB28, -, -, CR28, -, NE28, st28⟩ := ldcCH X25 hx hZ hown (hw _ (List.mem_of_getElem? (i := 68) rfl)) wS e25 hS hk hEL (by decide) CH (vs := ((([] : List Int32).map (fun c => c.toInt8.toInt32)).map Value.int)) (z := (0 : Int32)) (by exact ⟨by decide, by decide⟩) (by decide) rfl (g := (mkF m 18 #[.val (.ref xx), .val (.ref bb), .val (.int (0 : Int32)), .val (.int (0 : Int32)), .val .null, .unset] [(.ref xx)])) rfl (hb hby d3_18) (n := 0) (by decide) (by decide) (by decide) (by decide)
  replace S_xx := CR28.safe E_xx.lt S_xx
  replace CR := CR.trans CR28
  replace CH := CR28.1
  replace E_xx := E_xx.ext E28
  replace V_xx := V_xx.ext E28
  replace C_xx := C_xx.ext E28
  replace O0 := O0.ext E28
  replace EA20 := EA20.ext E28
  replace FC20 := FC20.ext E28
  replace FV20 := FV20.ext E28
  replace VB20 := VB20.ext E28
  have K29 := K27.ext E28
  have ne30 : xx ≠ a28 := (NE28 _ S_xx).1
  have ne31 : xx ≠ tb28 := (NE28 _ S_xx).2
  refine own_go st28 ?_
  show own_Fin p.tables e below _ (T28.setTop (mkF m 20 #[.val (.ref xx), .val (.ref bb), .val (.int (0 : Int32)), .val (.int (0 : Int32)), .val .null, .unset] [(.ref a28), (.ref xx)]))
  obtain ⟨T32, X32, e32, st32⟩ := getF X28 hx hZ hown (host := "") (Or.inl (hw _ (List.mem_of_getElem? (i := 31) rfl))) Via.refl e28 FC28 (g := (mkF m 20 #[.val (.ref xx), .val (.ref bb), .val (.int (0 : Int32)), .val (.int (0 : Int32)), .val .null, .unset] [(.ref a28), (.ref xx)])) rfl rfl (hb hby d3_20)
  refine own_go st32 ?_
  show own_Fin p.tables e below _ (T32.setTop (mkF m 23 #[.val (.ref xx), .val (.ref bb), .val (.int (0 : Int32)), .val (.int (0 : Int32)), .val .null, .unset] [(.int (0 : Int32)), (.ref xx)]))
  obtain ⟨T33, h33, X33, e33, W33, st33⟩ := putFN X32 hx hZ hown (hw _ (List.mem_of_getElem? (i := 31) rfl)) Via.refl e32 C_xx E_xx (Or.inr ⟨(hw _ (List.mem_of_getElem? (i := 32) rfl)), rfl, hnm⟩) (hw _ (List.mem_of_getElem? (i := 7) rfl)) (ty := .byte) (v' := .int (0 : Int32)) (by decide) rfl rfl (g := (mkF m 23 #[.val (.ref xx), .val (.ref bb), .val (.int (0 : Int32)), .val (.int (0 : Int32)), .val .null, .unset] [(.int (0 : Int32)), (.ref xx)])) rfl rfl (hb hby d3_23)
  have N33 := Fr.snoc X33 N25 g_xx
  replace C_xx := C_xx.same W33
  refine own_go st33 ?_
  have sa34 := S_xx
  replace S_xx := Safe.wr W33 sa34 CH S_xx
  replace CR := CR.trans (CHr.wr W33 sa34 CH)
  replace CH := CHv.wr W33 sa34 CH
  replace hk := Nat.le_trans hk (Keep.of_wr W33).1
  replace E_xx := E_xx.wr W33
  replace V_xx := V_xx.other W33 (Or.inr (slot_ne (Or.inr (hw _ (List.mem_of_getElem? (i := 34) rfl))) (Or.inr (hw _ (List.mem_of_getElem? (i := 32) rfl))) (by decide) (t := (.array .byte)) (t' := .byte) (by decide) (by decide)))
  replace O0 := O0.wr W33 g_xx
  replace EA20 := EA20.wr W33
  replace FC20 := FC20.other W33 (Or.inl (Ne.symm ne22))
  replace FV20 := FV20.other W33 (Or.inl (Ne.symm ne22))
  replace VB20 := VB20.other W33 (Ne.symm ne23)
  replace EA28 := EA28.wr W33
  replace FC28 := FC28.other W33 (Or.inl (Ne.symm ne30))
  replace FV28 := FV28.other W33 (Or.inl (Ne.symm ne30))
  replace VB28 := VB28.other W33 (Ne.symm ne31)
  have K35 := K29.wr W33 (Or.inl (by simp))
  show own_Fin p.tables e below _ (T33.setTop (mkF m 26 #[.val (.ref xx), .val (.ref bb), .val (.int (0 : Int32)), .val (.int (0 : Int32)), .val .null, .unset] []))
  have CRz : CHr Z consts_1 s.vm s.heap T33.vm T33.heap := by
    rw [hh, e33]
    exact CR.trans (CHv.at X33 hZ hEL CH)
  refine own_retW0 X33 hx Bd hS (show _ ≤ T33.heap.size by rw [e33]; exact hk) (hb hby d3_26) CRz ?_ (by decide) (by decide)
  show (Q_rm_ne0 Z xx bb gc h0 n0) none T33.heap _
  rw [e33]
  exact ⟨rfl, N33, K35, _, _, _, _, _, E_xx, V_xx, C_xx, VB20, StrChars.Road.codOf (n := 0) rfl (by decide), by decide, Nat.le_of_ble_eq_true rfl⟩
def Q_rm_ne (Z : State) (xx : Addr) (bb : Addr) (kb : ClassId) (gc : Int32) (h0 : Heap) (n0 : Nat) (v : Option Value) (h : Heap) (L : List Loc) : Prop := v = none ∧ Fr n0 L ∧ Keep h0 h [xx] ∧ ∃ t, own_Str Z h xx t []
theorem ef_rm_ne (m : MethodId) (xx : Addr) (bb : Addr) (gc : Int32) : entryFrame m #[(.ref xx), (.ref bb)] 2 = mkF m 0 #[.val (.ref xx), .val (.ref bb)] [] := by first | (simp [entryFrame, mkF, argsToLocals, Value.category]; done) | rfl
set_option maxRecDepth 65536 in
set_option maxHeartbeats 40000000 in
theorem rm_ne (l : Launch) (Z : State) (a0 : Array Value) (hw : ∀ d ∈ tables_1, d.before a0 Z = true) (ws : List Jvm.Cond) (hEL : EW Z a0 consts_1) (xx : Addr) (bb : Addr) (kb : ClassId) (gc : Int32) (h0 : Heap) (n0 : Nat) (Z0 : n0 ≤ h0.size) (E_xx : Exa Z h0 xx "java/lang/String") (V_xx : Fld Z h0 xx "java/lang/String" "value" "[B" .null) (C_xx : Fld Z h0 xx "java/lang/String" "coder" "B" (.int (0 : Int32))) (g_xx : n0 ≤ xx) (V_bb : Arv Z h0 bb kb .char (0 : Int32) [] (.int (0 : Int32))) (neb : bb ≠ xx) (O0 : Old Z n0 h0) :
    MetFree l (⟨"java/lang/String", "<init>", "([C)V"⟩ : MethodName) (head1 (Jvm.Cond.code (⟨"java/lang/String", "<init>", "([C)V"⟩ : MethodName) jdk_42_method_3_code 2 none :: ws) ({ frames := 2, cells := 4, slots := 8, locals := 29 } : Room)) (fun a_ U_ => a_ = #[(.ref xx), (.ref bb)] ∧ Z.Warmed39 U_.vm ∧ U_.heap = h0 ∧ CHv Z consts_1 U_.vm h0) (fun _ _ _ _ _ => True) (fun _ U_ o_ V_ => ∃ v_ L_, o_ = .returned v_ ∧ (Q_rm_ne Z xx bb kb gc h0 n0) v_ V_.heap L_ ∧ CHr Z consts_1 U_.vm U_.heap V_.vm V_.heap ∧ ReturnedEndW U_ o_ V_ L_ ({ frames := 2, cells := 4, slots := 8, locals := 29 } : Room).cells ({ frames := 2, cells := 4, slots := 8, locals := 29 } : Room).slots) := by
  refine MetFree.of_bodySF (plainFor_of_name pn_1) hisR ?_
  intro p e s m args below meth c s₁ Bd hml0 hP hK
  obtain ⟨rfl, hZ, hh, CH⟩ := hP
  have hx := Bd.exec
  have hby := Bd.bytes
  have hml : c.maxLocals = 2 := hml0
  have hown : s.vm.findClass "java/lang/String" = some m.cls := findClass_of_methodNamed Bd.named
  have hnm := (name_of_methodNamed Bd.named Bd.method).1
  have wS : ∀ a ∈ Bundle.stringAtoms, a.before a0 Z = true := fun d hd => hw d ((by decide +kernel : ∀ d ∈ Bundle.stringAtoms, d ∈ tables_1) d hd)
  have X0 : Stand p l e ({ frames := 2, cells := 4, slots := 8, locals := 29 } : Room) (s.setVm s.vm) m #[(.ref xx), (.ref bb)] below meth c s₁ [] 0 0 := Stand.of_body Bd
  have e0 : s₁.heap = h0 := by rw [← hh, Bd.state]; rfl
  have N0 := Fr.nil n0
  have K0 : Keep h0 h0 [xx] := Keep.refl _ _
  replace hZ : Z.Warmed39 (s.setVm s.vm).vm := hZ
  replace hown : (s.setVm s.vm).vm.findClass "java/lang/String" = some m.cls := hown
  have hS : s.Since s.vm h0.size := (State.WarmedH.refl s).since _
  have hk : h0.size ≤ h0.size := Nat.le_refl _
  have CR : CHr Z consts_1 s.vm h0 s.vm h0 := CHr.refl CH
  show own_Fin p.tables e below (own_PostW Z consts_1 (Q_rm_ne Z xx bb kb gc h0 n0) ({ frames := 2, cells := 4, slots := 8, locals := 29 } : Room).cells ({ frames := 2, cells := 4, slots := 8, locals := 29 } : Room).slots below s) _
  refine own_go (fun _ kk_ => castTop (ef_rm_ne m xx bb gc) kk_) ?_
  refine own_go (fun _ kk_ => XS.aloadN X0.here hx rfl (hb hby d2_0) rfl rfl kk_) ?_
  refine own_go (fun _ kk_ => XS.aloadN X0.here hx rfl (hb hby d2_1) rfl rfl kk_) ?_
  refine own_go (fun _ kk_ => XS.iconst X0.here hx rfl (hb hby d2_2) kk_) ?_
  refine own_go (fun _ kk_ => XS.aloadN X0.here hx rfl (hb hby d2_3) rfl rfl kk_) ?_
  show own_Fin p.tables e below _ (s₁.setTop (mkF m 4 #[.val (.ref xx), .val (.ref bb)] [(.ref bb), (.int (0 : Int32)), (.ref bb), (.ref xx)]))
  refine own_go (fun _ kk_ => own_alen X0 hx hZ e0 V_bb (g := (mkF m 4 #[.val (.ref xx), .val (.ref bb)] [(.ref bb), (.int (0 : Int32)), (.ref bb), (.ref xx)])) rfl rfl (hb hby d2_4) _ kk_) ?_
  refine own_go (fun _ kk_ => XS.aconstNull X0.here hx rfl (hb hby d2_5) kk_) ?_
  show own_Fin p.tables e below _ (s₁.setTop (mkF m 6 #[.val (.ref xx), .val (.ref bb)] [.null, (.int (0 : Int32)), (.int (0 : Int32)), (.ref bb), (.ref xx)]))
  obtain ⟨_, _, ⟨T36, L36, k36, n36⟩, -, X36, hSn36, hgr36, ⟨Lc36, hQ36, l36, y36, z36, CR36⟩, st36⟩ := X0.specialBackS hx (y := (⟨"java/lang/String", "<init>", "([CIILjava/lang/Void;)V"⟩ : MethodName)) rfl hown (mvT hZ (hw _ (List.mem_of_getElem? (i := 12) rfl))) (mvT hZ (hw _ (List.mem_of_getElem? (i := 13) rfl))) (mvT hZ (hw _ (List.mem_of_getElem? (i := 15) rfl))) (by decide) (backOfSH (s := s) (W := 0) (rm_ne0 l Z a0 hw [] hEL xx bb gc h0 n0 (Nat.le_trans Z0 K0.1) E_xx V_xx C_xx g_xx O0) hZ (hw _ (List.mem_of_getElem? (i := 15) rfl)) (hw _ (List.mem_of_getElem? (i := 8) rfl)) (by decide) (by decide) hEL CH) (g := (mkF m 6 #[.val (.ref xx), .val (.ref bb)] [.null, (.int (0 : Int32)), (.int (0 : Int32)), (.ref bb), (.ref xx)])) rfl (by rw [hml]; rfl) (Steps.refl _) (a := xx) (argsL := [(.ref bb), (.int (0 : Int32)), (.int (0 : Int32)), .null]) (rest := []) (lenOf pd_5 rfl) rfl (by show 2 * 0 + _ ≤ _; exact Nat.le_of_eq rfl) (hb hby d2_6) (fun _ _ => ⟨rfl, e0, (by decide : 0 + 4 ≤ _), (by decide : 0 + 8 ≤ _)⟩)
  dsimp only [Pt.U, Pt.locs, Pt.cells, Pt.slots] at X36 l36 y36 z36 st36 hQ36 hSn36 hgr36 CR36
  subst l36 y36 z36
  replace hS := foldS hS (show _ ≤ s₁.heap.size by rw [e0]; exact hk) hSn36 hgr36
  replace hk : T36.heap.size ≤ T36.heap.size := Nat.le_refl _
  replace hZ : Z.Warmed39 (s.setVm T36.vm).vm := State.Warmed39.trans (t := s.setVm s.vm) hZ hSn36.1
  replace hown : (s.setVm T36.vm).vm.findClass "java/lang/String" = some m.cls := by rw [show (s.setVm T36.vm).vm = T36.vm from rfl, hSn36.1.alike.findClass]; exact hown
  replace X36 : Stand p l e ({ frames := 2, cells := 4, slots := 8, locals := 29 } : Room) (s.setVm T36.vm) m #[(.ref xx), (.ref bb)] below meth c T36 _ _ _ := X36
  replace CR := CR.trans CR36
  replace CH := CR36.1
  obtain ⟨rfl, N36q, KK36, t36, SS36⟩ := hQ36
  have N36 := Fr.app N0 N36q
  replace E_xx := E_xx.keep KK36
  replace O0 := O0.keep KK36 (allS g_xx (all0))
  replace V_bb := V_bb.keep KK36 (ninS neb nin0)
  have K37 := K0.trans KK36 (allS (Or.inl (by simp)) all0)
  refine own_go (fun _ kk_ => st36.trans kk_) ?_
  show own_Fin p.tables e below _ (T36.setTop (mkF m 9 #[.val (.ref xx), .val (.ref bb)] []))
  have CRz : CHr Z consts_1 s.vm s.heap T36.vm T36.heap := by
    rw [hh]
    exact CR.trans (CHv.at X36 hZ hEL CH)
  refine own_retW0 X36 hx Bd hS hk (hb hby d2_9) CRz ?_ (by decide) (by decide)
  show (Q_rm_ne Z xx bb kb gc h0 n0) none T36.heap _
  exact ⟨rfl, N36, K37, _, SS36⟩
def Q_rm_dr (Z : State) (mo : Int32) (pa : Int32) (pb : Int32) (pc_ : Int32) (pd_ : Int32) (gc : Int32) (h0 : Heap) (n0 : Nat) (v : Option Value) (h : Heap) (L : List Loc) : Prop := ∃ (xr tr : Addr) (cs : List Int32), v = some (.ref xr) ∧ Fr n0 L ∧ Keep h0 h [] ∧ own_Str Z h xr tr cs
theorem ef_rm_dr (m : MethodId) (mo : Int32) (pa : Int32) (pb : Int32) (pc_ : Int32) (pd_ : Int32) (gc : Int32) : entryFrame m #[(.int mo), (.int pa), (.int pb), (.int pc_), (.int pd_)] 6 = mkF m 0 #[.val (.int mo), .val (.int pa), .val (.int pb), .val (.int pc_), .val (.int pd_), .unset] [] := by first | (simp [entryFrame, mkF, argsToLocals, Value.category]; done) | rfl
set_option maxRecDepth 65536 in
set_option maxHeartbeats 40000000 in
theorem rm_dr (l : Launch) (Z : State) (a0 : Array Value) (hw : ∀ d ∈ tables_1, d.before a0 Z = true) (ws : List Jvm.Cond) (hEL : EW Z a0 consts_1) (mo : Int32) (pa : Int32) (pb : Int32) (pc_ : Int32) (pd_ : Int32) (gc : Int32) (h0 : Heap) (n0 : Nat) (Z0 : n0 ≤ h0.size) (S_C : Sta Z Z.heap "java/lang/String" "COMPACT_STRINGS" "Z" (.int gc)) (hcs : ¬ gc = 0) (O0 : Old Z n0 h0) :
    MetFree l (⟨"com/example/laminate/laminate/core/DefaultRegistryApiHostPinLaw", "draw", "(IIIII)Ljava/lang/String;"⟩ : MethodName) (head1 (Jvm.Cond.code (⟨"com/example/laminate/laminate/core/DefaultRegistryApiHostPinLaw", "draw", "(IIIII)Ljava/lang/String;"⟩ : MethodName) method_2_code 6 (some (.object "java/lang/String")) :: ws) ({ frames := 4, cells := 6, slots := 120, locals := 67 } : Room)) (fun a_ U_ => a_ = #[(.int mo), (.int pa), (.int pb), (.int pc_), (.int pd_)] ∧ Z.Warmed39 U_.vm ∧ U_.heap = h0 ∧ CHv Z consts_1 U_.vm h0) (fun _ _ _ _ _ => True) (fun _ U_ o_ V_ => ∃ v_ L_, o_ = .returned v_ ∧ (Q_rm_dr Z mo pa pb pc_ pd_ gc h0 n0) v_ V_.heap L_ ∧ CHr Z consts_1 U_.vm U_.heap V_.vm V_.heap ∧ ReturnedEndW U_ o_ V_ L_ ({ frames := 4, cells := 6, slots := 120, locals := 67 } : Room).cells ({ frames := 4, cells := 6, slots := 120, locals := 67 } : Room).slots) := by
  refine MetFree.of_bodySF (plainFor_of_name pn_6) hisR ?_
  intro p e s m args below meth c s₁ Bd hml0 hP hK
  obtain ⟨rfl, hZ, hh, CH⟩ := hP
  have hx := Bd.exec
  have hby := Bd.bytes
  have hml : c.maxLocals = 6 := hml0
  have hown : s.vm.findClass "com/example/laminate/laminate/core/DefaultRegistryApiHostPinLaw" = some m.cls := findClass_of_methodNamed Bd.named
  have hnm := (name_of_methodNamed Bd.named Bd.method).1
  have wS : ∀ a ∈ Bundle.stringAtoms, a.before a0 Z = true := fun d hd => hw d ((by decide +kernel : ∀ d ∈ Bundle.stringAtoms, d ∈ tables_1) d hd)
  have X0 : Stand p l e ({ frames := 4, cells := 6, slots := 120, locals := 67 } : Room) (s.setVm s.vm) m #[(.int mo), (.int pa), (.int pb), (.int pc_), (.int pd_)] below meth c s₁ [] 0 0 := Stand.of_body Bd
  have e0 : s₁.heap = h0 := by rw [← hh, Bd.state]; rfl
  have N0 := Fr.nil n0
  have K0 : Keep h0 h0 [] := Keep.refl _ _
  replace hZ : Z.Warmed39 (s.setVm s.vm).vm := hZ
  replace hown : (s.setVm s.vm).vm.findClass "com/example/laminate/laminate/core/DefaultRegistryApiHostPinLaw" = some m.cls := hown
  have hS : s.Since s.vm h0.size := (State.WarmedH.refl s).since _
  have hk : h0.size ≤ h0.size := Nat.le_refl _
  have CR : CHr Z consts_1 s.vm h0 s.vm h0 := CHr.refl CH
  show own_Fin p.tables e below (own_PostW Z consts_1 (Q_rm_dr Z mo pa pb pc_ pd_ gc h0 n0) ({ frames := 4, cells := 6, slots := 120, locals := 67 } : Room).cells ({ frames := 4, cells := 6, slots := 120, locals := 67 } : Room).slots below s) _
  refine own_go (fun _ kk_ => castTop (ef_rm_dr m mo pa pb pc_ pd_ gc) kk_) ?_
  have hws : ∀ d ∈ StrChars.Road.words, d.before a0 Z = true := fun d hd => hw d ((by decide +kernel : ∀ d ∈ StrChars.Road.words, d ∈ tables_1) d hd)
  refine own_go (fun _ kk_ => XS.iloadN X0.here hx rfl (hb hby d1_0) rfl kk_) ?_
  show own_Fin p.tables e below _ (s₁.setTop (mkF m 1 #[.val (.int mo), .val (.int pa), .val (.int pb), .val (.int pc_), .val (.int pd_), .unset] [(.int mo)]))
  by_cases hc38 : mo = (0 : Int32)
  · skip
    refine own_go (fun _ kk_ => XS.ifNo X0.here hx rfl (hb hby d1_1) rfl ((if0 _ _).trans (teq hc38).2) kk_) ?_
    refine own_go (fun _ kk_ => XS.bipush X0.here hx rfl (hb hby d1_4) kk_) ?_
    show own_Fin p.tables e below _ (s₁.setTop (mkF m 6 #[.val (.int mo), .val (.int pa), .val (.int pb), .val (.int pc_), .val (.int pd_), .unset] [(.int (9 : Int32))]))
    obtain ⟨T39, h39, k39, X39, e39, E39, A39, st39⟩ := newP X0 hx hZ (hw _ (List.mem_of_getElem? (i := 4) rfl)) e0 (g := (mkF m 6 #[.val (.int mo), .val (.int pa), .val (.int pb), .val (.int pc_), .val (.int pd_), .unset] [(.int (9 : Int32))])) rfl (hb hby d1_6) rfl (by decide) (cap := 9) (by decide) (by decide) (by decide) (by decide)
    obtain ⟨b39, g39⟩ : ∃ z, z = h0.size := ⟨_, rfl⟩
    rw [← g39] at A39 st39
    have sz_b39 : h0.size ≤ b39 := Nat.le_trans K0.1 (Nat.le_of_eq g39.symm)
    have g_b39 : n0 ≤ b39 := Nat.le_trans Z0 sz_b39
    have S_b39 := Safe.new (Z := Z) (EL := consts_1) (vm := s.vm) (Nat.le_of_eq g39.symm)
    replace S_b39 := Safe.ext E39 CH S_b39
    replace CR := CR.trans (CHr.ext E39 CH)
    replace CH := CH.ext E39
    replace hk := Nat.le_trans hk E39.1
    replace O0 := O0.ext E39
    have K40 := K0.ext E39
    have V39 : Arv Z h39 b39 k39 .char (9 : Int32) [(.int (0 : Int32)), (.int (0 : Int32)), (.int (0 : Int32)), (.int (0 : Int32)), (.int (0 : Int32)), (.int (0 : Int32)), (.int (0 : Int32)), (.int (0 : Int32)), (.int (0 : Int32))] (.int (0 : Int32)) := (Arv.new A39 (by decide)).pad (pad_rep [] (.int (0 : Int32)) 9)
    refine own_go st39 ?_
    refine own_go (fun _ kk_ => XS.dup X39.here hx rfl (hb hby d1_8) rfl rfl kk_) ?_
    refine own_go (fun _ kk_ => XS.iconst X39.here hx rfl (hb hby d1_9) kk_) ?_
    refine own_go (fun _ kk_ => XS.bipush X39.here hx rfl (hb hby d1_10) kk_) ?_
    show own_Fin p.tables e below _ (T39.setTop (mkF m 12 #[.val (.int mo), .val (.int pa), .val (.int pb), .val (.int pc_), .val (.int pd_), .unset] [(.int (100 : Int32)), (.int (0 : Int32)), (.ref b39), (.ref b39)]))
    obtain ⟨T41, h41, X41, e41, W41, V41, st41⟩ := own_stC X39 hx hZ e39 V39 (by decide) (i := 0) rfl (Nat.le_of_ble_eq_true rfl) (g := (mkF m 12 #[.val (.int mo), .val (.int pa), .val (.int pb), .val (.int pc_), .val (.int pd_), .unset] [(.int (100 : Int32)), (.int (0 : Int32)), (.ref b39), (.ref b39)])) rfl rfl (hb hby d1_12)
    replace V39 : Arv Z h41 b39 k39 .char (9 : Int32) [(.int (100 : Int32)), (.int (0 : Int32)), (.int (0 : Int32)), (.int (0 : Int32)), (.int (0 : Int32)), (.int (0 : Int32)), (.int (0 : Int32)), (.int (0 : Int32)), (.int (0 : Int32))] (.int (0 : Int32)) := V41
    have N41 := Fr.snoc X41 N0 g_b39
    refine own_go st41 ?_
    have sa42 := S_b39
    replace S_b39 := Safe.wr W41 sa42 CH S_b39
    replace CR := CR.trans (CHr.wr W41 sa42 CH)
    replace CH := CHv.wr W41 sa42 CH
    replace hk := Nat.le_trans hk (Keep.of_wr W41).1
    replace O0 := O0.wr W41 g_b39
    have K43 := K40.wr W41 (Or.inr sz_b39)
    refine own_go (fun _ kk_ => XS.dup X41.here hx rfl (hb hby d1_13) rfl rfl kk_) ?_
    refine own_go (fun _ kk_ => XS.iconst X41.here hx rfl (hb hby d1_14) kk_) ?_
    refine own_go (fun _ kk_ => XS.bipush X41.here hx rfl (hb hby d1_15) kk_) ?_
    show own_Fin p.tables e below _ (T41.setTop (mkF m 17 #[.val (.int mo), .val (.int pa), .val (.int pb), .val (.int pc_), .val (.int pd_), .unset] [(.int (111 : Int32)), (.int (1 : Int32)), (.ref b39), (.ref b39)]))
    obtain ⟨T44, h44, X44, e44, W44, V44, st44⟩ := own_stC X41 hx hZ e41 V39 (by decide) (i := 1) rfl (Nat.le_of_ble_eq_true rfl) (g := (mkF m 17 #[.val (.int mo), .val (.int pa), .val (.int pb), .val (.int pc_), .val (.int pd_), .unset] [(.int (111 : Int32)), (.int (1 : Int32)), (.ref b39), (.ref b39)])) rfl rfl (hb hby d1_17)
    replace V39 : Arv Z h44 b39 k39 .char (9 : Int32) [(.int (100 : Int32)), (.int (111 : Int32)), (.int (0 : Int32)), (.int (0 : Int32)), (.int (0 : Int32)), (.int (0 : Int32)), (.int (0 : Int32)), (.int (0 : Int32)), (.int (0 : Int32))] (.int (0 : Int32)) := V44
    have N44 := Fr.snoc X44 N41 g_b39
    refine own_go st44 ?_
    have sa45 := S_b39
    replace S_b39 := Safe.wr W44 sa45 CH S_b39
    replace CR := CR.trans (CHr.wr W44 sa45 CH)
    replace CH := CHv.wr W44 sa45 CH
    replace hk := Nat.le_trans hk (Keep.of_wr W44).1
    replace O0 := O0.wr W44 g_b39
    have K46 := K43.wr W44 (Or.inr sz_b39)
    refine own_go (fun _ kk_ => XS.dup X44.here hx rfl (hb hby d1_18) rfl rfl kk_) ?_
    refine own_go (fun _ kk_ => XS.iconst X44.here hx rfl (hb hby d1_19) kk_) ?_
    refine own_go (fun _ kk_ => XS.bipush X44.here hx rfl (hb hby d1_20) kk_) ?_
    show own_Fin p.tables e below _ (T44.setTop (mkF m 22 #[.val (.int mo), .val (.int pa), .val (.int pb), .val (.int pc_), .val (.int pd_), .unset] [(.int (99 : Int32)), (.int (2 : Int32)), (.ref b39), (.ref b39)]))
    obtain ⟨T47, h47, X47, e47, W47, V47, st47⟩ := own_stC X44 hx hZ e44 V39 (by decide) (i := 2) rfl (Nat.le_of_ble_eq_true rfl) (g := (mkF m 22 #[.val (.int mo), .val (.int pa), .val (.int pb), .val (.int pc_), .val (.int pd_), .unset] [(.int (99 : Int32)), (.int (2 : Int32)), (.ref b39), (.ref b39)])) rfl rfl (hb hby d1_22)
    replace V39 : Arv Z h47 b39 k39 .char (9 : Int32) [(.int (100 : Int32)), (.int (111 : Int32)), (.int (99 : Int32)), (.int (0 : Int32)), (.int (0 : Int32)), (.int (0 : Int32)), (.int (0 : Int32)), (.int (0 : Int32)), (.int (0 : Int32))] (.int (0 : Int32)) := V47
    have N47 := Fr.snoc X47 N44 g_b39
    refine own_go st47 ?_
    have sa48 := S_b39
    replace S_b39 := Safe.wr W47 sa48 CH S_b39
    replace CR := CR.trans (CHr.wr W47 sa48 CH)
    replace CH := CHv.wr W47 sa48 CH
    replace hk := Nat.le_trans hk (Keep.of_wr W47).1
    replace O0 := O0.wr W47 g_b39
    have K49 := K46.wr W47 (Or.inr sz_b39)
    refine own_go (fun _ kk_ => XS.dup X47.here hx rfl (hb hby d1_23) rfl rfl kk_) ?_
    refine own_go (fun _ kk_ => XS.iconst X47.here hx rfl (hb hby d1_24) kk_) ?_
    refine own_go (fun _ kk_ => XS.bipush X47.here hx rfl (hb hby d1_25) kk_) ?_
    show own_Fin p.tables e below _ (T47.setTop (mkF m 27 #[.val (.int mo), .val (.int pa), .val (.int pb), .val (.int pc_), .val (.int pd_), .unset] [(.int (107 : Int32)), (.int (3 : Int32)), (.ref b39), (.ref b39)]))
    obtain ⟨T50, h50, X50, e50, W50, V50, st50⟩ := own_stC X47 hx hZ e47 V39 (by decide) (i := 3) rfl (Nat.le_of_ble_eq_true rfl) (g := (mkF m 27 #[.val (.int mo), .val (.int pa), .val (.int pb), .val (.int pc_), .val (.int pd_), .unset] [(.int (107 : Int32)), (.int (3 : Int32)), (.ref b39), (.ref b39)])) rfl rfl (hb hby d1_27)
    replace V39 : Arv Z h50 b39 k39 .char (9 : Int32) [(.int (100 : Int32)), (.int (111 : Int32)), (.int (99 : Int32)), (.int (107 : Int32)), (.int (0 : Int32)), (.int (0 : Int32)), (.int (0 : Int32)), (.int (0 : Int32)), (.int (0 : Int32))] (.int (0 : Int32)) := V50
    have N50 := Fr.snoc X50 N47 g_b39
    refine own_go st50 ?_
    have sa51 := S_b39
    replace S_b39 := Safe.wr W50 sa51 CH S_b39
    replace CR := CR.trans (CHr.wr W50 sa51 CH)
    replace CH := CHv.wr W50 sa51 CH
    replace hk := Nat.le_trans hk (Keep.of_wr W50).1
    replace O0 := O0.wr W50 g_b39
    have K52 := K49.wr W50 (Or.inr sz_b39)
    refine own_go (fun _ kk_ => XS.dup X50.here hx rfl (hb hby d1_28) rfl rfl kk_) ?_
    refine own_go (fun _ kk_ => XS.iconst X50.here hx rfl (hb hby d1_29) kk_) ?_
    refine own_go (fun _ kk_ => XS.bipush X50.here hx rfl (hb hby d1_30) kk_) ?_
    show own_Fin p.tables e below _ (T50.setTop (mkF m 32 #[.val (.int mo), .val (.int pa), .val (.int pb), .val (.int pc_), .val (.int pd_), .unset] [(.int (101 : Int32)), (.int (4 : Int32)), (.ref b39), (.ref b39)]))
    obtain ⟨T53, h53, X53, e53, W53, V53, st53⟩ := own_stC X50 hx hZ e50 V39 (by decide) (i := 4) rfl (Nat.le_of_ble_eq_true rfl) (g := (mkF m 32 #[.val (.int mo), .val (.int pa), .val (.int pb), .val (.int pc_), .val (.int pd_), .unset] [(.int (101 : Int32)), (.int (4 : Int32)), (.ref b39), (.ref b39)])) rfl rfl (hb hby d1_32)
    replace V39 : Arv Z h53 b39 k39 .char (9 : Int32) [(.int (100 : Int32)), (.int (111 : Int32)), (.int (99 : Int32)), (.int (107 : Int32)), (.int (101 : Int32)), (.int (0 : Int32)), (.int (0 : Int32)), (.int (0 : Int32)), (.int (0 : Int32))] (.int (0 : Int32)) := V53
    have N53 := Fr.snoc X53 N50 g_b39
    refine own_go st53 ?_
    have sa54 := S_b39
    replace S_b39 := Safe.wr W53 sa54 CH S_b39
    replace CR := CR.trans (CHr.wr W53 sa54 CH)
    replace CH := CHv.wr W53 sa54 CH
    replace hk := Nat.le_trans hk (Keep.of_wr W53).1
    replace O0 := O0.wr W53 g_b39
    have K55 := K52.wr W53 (Or.inr sz_b39)
    refine own_go (fun _ kk_ => XS.dup X53.here hx rfl (hb hby d1_33) rfl rfl kk_) ?_
    refine own_go (fun _ kk_ => XS.iconst X53.here hx rfl (hb hby d1_34) kk_) ?_
    refine own_go (fun _ kk_ => XS.bipush X53.here hx rfl (hb hby d1_35) kk_) ?_
    show own_Fin p.tables e below _ (T53.setTop (mkF m 37 #[.val (.int mo), .val (.int pa), .val (.int pb), .val (.int pc_), .val (.int pd_), .unset] [(.int (114 : Int32)), (.int (5 : Int32)), (.ref b39), (.ref b39)]))
    obtain ⟨T56, h56, X56, e56, W56, V56, st56⟩ := own_stC X53 hx hZ e53 V39 (by decide) (i := 5) rfl (Nat.le_of_ble_eq_true rfl) (g := (mkF m 37 #[.val (.int mo), .val (.int pa), .val (.int pb), .val (.int pc_), .val (.int pd_), .unset] [(.int (114 : Int32)), (.int (5 : Int32)), (.ref b39), (.ref b39)])) rfl rfl (hb hby d1_37)
    replace V39 : Arv Z h56 b39 k39 .char (9 : Int32) [(.int (100 : Int32)), (.int (111 : Int32)), (.int (99 : Int32)), (.int (107 : Int32)), (.int (101 : Int32)), (.int (114 : Int32)), (.int (0 : Int32)), (.int (0 : Int32)), (.int (0 : Int32))] (.int (0 : Int32)) := V56
    have N56 := Fr.snoc X56 N53 g_b39
    refine own_go st56 ?_
    have sa57 := S_b39
    replace S_b39 := Safe.wr W56 sa57 CH S_b39
    replace CR := CR.trans (CHr.wr W56 sa57 CH)
    replace CH := CHv.wr W56 sa57 CH
    replace hk := Nat.le_trans hk (Keep.of_wr W56).1
    replace O0 := O0.wr W56 g_b39
    have K58 := K55.wr W56 (Or.inr sz_b39)
    refine own_go (fun _ kk_ => XS.dup X56.here hx rfl (hb hby d1_38) rfl rfl kk_) ?_
    refine own_go (fun _ kk_ => XS.bipush X56.here hx rfl (hb hby d1_39) kk_) ?_
    refine own_go (fun _ kk_ => XS.bipush X56.here hx rfl (hb hby d1_41) kk_) ?_
    show own_Fin p.tables e below _ (T56.setTop (mkF m 43 #[.val (.int mo), .val (.int pa), .val (.int pb), .val (.int pc_), .val (.int pd_), .unset] [(.int (46 : Int32)), (.int (6 : Int32)), (.ref b39), (.ref b39)]))
    obtain ⟨T59, h59, X59, e59, W59, V59, st59⟩ := own_stC X56 hx hZ e56 V39 (by decide) (i := 6) rfl (Nat.le_of_ble_eq_true rfl) (g := (mkF m 43 #[.val (.int mo), .val (.int pa), .val (.int pb), .val (.int pc_), .val (.int pd_), .unset] [(.int (46 : Int32)), (.int (6 : Int32)), (.ref b39), (.ref b39)])) rfl rfl (hb hby d1_43)
    replace V39 : Arv Z h59 b39 k39 .char (9 : Int32) [(.int (100 : Int32)), (.int (111 : Int32)), (.int (99 : Int32)), (.int (107 : Int32)), (.int (101 : Int32)), (.int (114 : Int32)), (.int (46 : Int32)), (.int (0 : Int32)), (.int (0 : Int32))] (.int (0 : Int32)) := V59
    have N59 := Fr.snoc X59 N56 g_b39
    refine own_go st59 ?_
    have sa60 := S_b39
    replace S_b39 := Safe.wr W59 sa60 CH S_b39
    replace CR := CR.trans (CHr.wr W59 sa60 CH)
    replace CH := CHv.wr W59 sa60 CH
    replace hk := Nat.le_trans hk (Keep.of_wr W59).1
    replace O0 := O0.wr W59 g_b39
    have K61 := K58.wr W59 (Or.inr sz_b39)
    refine own_go (fun _ kk_ => XS.dup X59.here hx rfl (hb hby d1_44) rfl rfl kk_) ?_
    refine own_go (fun _ kk_ => XS.bipush X59.here hx rfl (hb hby d1_45) kk_) ?_
    refine own_go (fun _ kk_ => XS.bipush X59.here hx rfl (hb hby d1_47) kk_) ?_
    show own_Fin p.tables e below _ (T59.setTop (mkF m 49 #[.val (.int mo), .val (.int pa), .val (.int pb), .val (.int pc_), .val (.int pd_), .unset] [(.int (105 : Int32)), (.int (7 : Int32)), (.ref b39), (.ref b39)]))
    obtain ⟨T62, h62, X62, e62, W62, V62, st62⟩ := own_stC X59 hx hZ e59 V39 (by decide) (i := 7) rfl (Nat.le_of_ble_eq_true rfl) (g := (mkF m 49 #[.val (.int mo), .val (.int pa), .val (.int pb), .val (.int pc_), .val (.int pd_), .unset] [(.int (105 : Int32)), (.int (7 : Int32)), (.ref b39), (.ref b39)])) rfl rfl (hb hby d1_49)
    replace V39 : Arv Z h62 b39 k39 .char (9 : Int32) [(.int (100 : Int32)), (.int (111 : Int32)), (.int (99 : Int32)), (.int (107 : Int32)), (.int (101 : Int32)), (.int (114 : Int32)), (.int (46 : Int32)), (.int (105 : Int32)), (.int (0 : Int32))] (.int (0 : Int32)) := V62
    have N62 := Fr.snoc X62 N59 g_b39
    refine own_go st62 ?_
    have sa63 := S_b39
    replace S_b39 := Safe.wr W62 sa63 CH S_b39
    replace CR := CR.trans (CHr.wr W62 sa63 CH)
    replace CH := CHv.wr W62 sa63 CH
    replace hk := Nat.le_trans hk (Keep.of_wr W62).1
    replace O0 := O0.wr W62 g_b39
    have K64 := K61.wr W62 (Or.inr sz_b39)
    refine own_go (fun _ kk_ => XS.dup X62.here hx rfl (hb hby d1_50) rfl rfl kk_) ?_
    refine own_go (fun _ kk_ => XS.bipush X62.here hx rfl (hb hby d1_51) kk_) ?_
    refine own_go (fun _ kk_ => XS.bipush X62.here hx rfl (hb hby d1_53) kk_) ?_
    show own_Fin p.tables e below _ (T62.setTop (mkF m 55 #[.val (.int mo), .val (.int pa), .val (.int pb), .val (.int pc_), .val (.int pd_), .unset] [(.int (111 : Int32)), (.int (8 : Int32)), (.ref b39), (.ref b39)]))
    obtain ⟨T65, h65, X65, e65, W65, V65, st65⟩ := own_stC X62 hx hZ e62 V39 (by decide) (i := 8) rfl (Nat.le_of_ble_eq_true rfl) (g := (mkF m 55 #[.val (.int mo), .val (.int pa), .val (.int pb), .val (.int pc_), .val (.int pd_), .unset] [(.int (111 : Int32)), (.int (8 : Int32)), (.ref b39), (.ref b39)])) rfl rfl (hb hby d1_55)
    replace V39 : Arv Z h65 b39 k39 .char (9 : Int32) [(.int (100 : Int32)), (.int (111 : Int32)), (.int (99 : Int32)), (.int (107 : Int32)), (.int (101 : Int32)), (.int (114 : Int32)), (.int (46 : Int32)), (.int (105 : Int32)), (.int (111 : Int32))] (.int (0 : Int32)) := V65
    have N65 := Fr.snoc X65 N62 g_b39
    refine own_go st65 ?_
    have sa66 := S_b39
    replace S_b39 := Safe.wr W65 sa66 CH S_b39
    replace CR := CR.trans (CHr.wr W65 sa66 CH)
    replace CH := CHv.wr W65 sa66 CH
    replace hk := Nat.le_trans hk (Keep.of_wr W65).1
    replace O0 := O0.wr W65 g_b39
    have K67 := K64.wr W65 (Or.inr sz_b39)
    refine own_go (fun _ kk_ => XS.astore X65.here hx rfl (hb hby d1_56) rfl rfl (l' := #[.val (.int mo), .val (.int pa), .val (.int pb), .val (.int pc_), .val (.int pd_), .val (.ref b39)]) rfl kk_) ?_
    refine own_go (fun _ kk_ => XS.aload X65.here hx rfl (hb hby d1_58) rfl rfl kk_) ?_
    refine own_go (fun _ kk_ => XS.iloadN X65.here hx rfl (hb hby d1_60) rfl kk_) ?_
    show own_Fin p.tables e below _ (T65.setTop (mkF m 61 #[.val (.int mo), .val (.int pa), .val (.int pb), .val (.int pc_), .val (.int pd_), .val (.ref b39)] [(.int pa), (.ref b39)]))
    refine own_go (fun _ kk_ => Jvm.Stand.ldcI X65 hx hown (mvT hZ (hw _ (List.mem_of_getElem? (i := 5) rfl))) (g := (mkF m 61 #[.val (.int mo), .val (.int pa), .val (.int pb), .val (.int pc_), .val (.int pd_), .val (.ref b39)] [(.int pa), (.ref b39)])) rfl (hb hby d1_61) kk_) ?_
    show own_Fin p.tables e below _ (T65.setTop (mkF m 63 #[.val (.int mo), .val (.int pa), .val (.int pb), .val (.int pc_), .val (.int pd_), .val (.ref b39)] [(.int (2147483647 : Int32)), (.int pa), (.ref b39)]))
    refine own_go (fun _ kk_ => XS.iand X65.here hx rfl (hb hby d1_63) rfl kk_) ?_
    refine own_go (fun _ kk_ => XS.bipush X65.here hx rfl (hb hby d1_64) kk_) ?_
    show own_Fin p.tables e below _ (T65.setTop (mkF m 66 #[.val (.int mo), .val (.int pa), .val (.int pb), .val (.int pc_), .val (.int pd_), .val (.ref b39)] [(.int (9 : Int32)), (.int (pa &&& (2147483647 : Int32))), (.ref b39)]))
    refine own_go (fun _ kk_ => iremM X65 hx rfl  (hb hby d1_66) rfl (by decide) kk_) ?_
    show own_Fin p.tables e below _ (T65.setTop (mkF m 67 #[.val (.int mo), .val (.int pa), .val (.int pb), .val (.int pc_), .val (.int pd_), .val (.ref b39)] [(.int ((pa &&& (2147483647 : Int32)) % (9 : Int32))), (.ref b39)]))
    rcases own_mod9 pa with hs9 | hs9 | hs9 | hs9 | hs9 | hs9 | hs9 | hs9 | hs9
    · skip
      show own_Fin p.tables e below _ (T65.setTop (mkF m 67 #[.val (.int mo), .val (.int pa), .val (.int pb), .val (.int pc_), .val (.int pd_), .val (.ref b39)] [(.int ((pa &&& (2147483647 : Int32)) % (9 : Int32))), (.ref b39)]))
      rw [hs9]
      refine own_go (fun _ kk_ => XS.iloadN X65.here hx rfl (hb hby d1_67) rfl kk_) ?_
      refine own_go (fun _ kk_ => XS.sipush X65.here hx rfl (hb hby d1_68) kk_) ?_
      show own_Fin p.tables e below _ (T65.setTop (mkF m 71 #[.val (.int mo), .val (.int pa), .val (.int pb), .val (.int pc_), .val (.int pd_), .val (.ref b39)] [(.int (255 : Int32)), (.int pb), (.int (0 : Int32)), (.ref b39)]))
      refine own_go (fun _ kk_ => XS.iand X65.here hx rfl (hb hby d1_71) rfl kk_) ?_
      show own_Fin p.tables e below _ (T65.setTop (mkF m 72 #[.val (.int mo), .val (.int pa), .val (.int pb), .val (.int pc_), .val (.int pd_), .val (.ref b39)] [(.int (pb &&& (255 : Int32))), (.int (0 : Int32)), (.ref b39)]))
      refine own_go (fun _ kk_ => XS.i2c X65.here hx rfl (hb hby d1_72) rfl kk_) ?_
      rw [i2c_mask]
      show own_Fin p.tables e below _ (T65.setTop (mkF m 73 #[.val (.int mo), .val (.int pa), .val (.int pb), .val (.int pc_), .val (.int pd_), .val (.ref b39)] [(.int (pb &&& (255 : Int32))), (.int (0 : Int32)), (.ref b39)]))
      obtain ⟨T68, h68, X68, e68, W68, V68, st68⟩ := own_stC X65 hx hZ e65 V39 (by decide) (i := 0) rfl (Nat.le_of_ble_eq_true rfl) (g := (mkF m 73 #[.val (.int mo), .val (.int pa), .val (.int pb), .val (.int pc_), .val (.int pd_), .val (.ref b39)] [(.int (pb &&& (255 : Int32))), (.int (0 : Int32)), (.ref b39)])) rfl rfl (hb hby d1_73)
      rw [own_nar255] at V68
      replace V39 : Arv Z h68 b39 k39 .char (9 : Int32) [(.int (pb &&& (255 : Int32))), (.int (111 : Int32)), (.int (99 : Int32)), (.int (107 : Int32)), (.int (101 : Int32)), (.int (114 : Int32)), (.int (46 : Int32)), (.int (105 : Int32)), (.int (111 : Int32))] (.int (0 : Int32)) := V68
      have N68 := Fr.snoc X68 N65 g_b39
      refine own_go st68 ?_
      have sa69 := S_b39
      replace S_b39 := Safe.wr W68 sa69 CH S_b39
      replace CR := CR.trans (CHr.wr W68 sa69 CH)
      replace CH := CHv.wr W68 sa69 CH
      replace hk := Nat.le_trans hk (Keep.of_wr W68).1
      replace O0 := O0.wr W68 g_b39
      have K70 := K67.wr W68 (Or.inr sz_b39)
      show own_Fin p.tables e below _ (T68.setTop (mkF m 74 #[.val (.int mo), .val (.int pa), .val (.int pb), .val (.int pc_), .val (.int pd_), .val (.ref b39)] []))
      obtain ⟨T71, h71, X71, e71, E71, A71, D71, -, st71⟩ := newO X68 hx hZ hown (hw _ (List.mem_of_getElem? (i := 6) rfl)) (hw _ (List.mem_of_getElem? (i := 7) rfl)) (hw _ (List.mem_of_getElem? (i := 8) rfl)) e68 (g := (mkF m 74 #[.val (.int mo), .val (.int pa), .val (.int pb), .val (.int pc_), .val (.int pd_), .val (.ref b39)] [])) rfl (hb hby d1_74) (by decide) (by decide)
      obtain ⟨b71, g71⟩ : ∃ z, z = h68.size := ⟨_, rfl⟩
      rw [← g71] at A71 D71 st71
      have sz_b71 : h0.size ≤ b71 := Nat.le_trans K70.1 (Nat.le_of_eq g71.symm)
      have g_b71 : n0 ≤ b71 := Nat.le_trans Z0 sz_b71
      have ne72 : b39 ≠ b71 := Nat.ne_of_lt (Nat.lt_of_lt_of_le V39.lt (Nat.le_of_eq g71.symm))
      have S_b71 := Safe.new (Z := Z) (EL := consts_1) (vm := s.vm) (Nat.le_of_eq g71.symm)
      replace S_b39 := Safe.ext E71 CH S_b39
      replace S_b71 := Safe.ext E71 CH S_b71
      replace CR := CR.trans (CHr.ext E71 CH)
      replace CH := CH.ext E71
      replace hk := Nat.le_trans hk E71.1
      replace O0 := O0.ext E71
      replace V39 := V39.ext E71
      have K73 := K70.ext E71
      have F71_coder : Fld Z h71 b71 "java/lang/String" "coder" "B" (.int (0 : Int32)) := D71 (Or.inr (hw _ (List.mem_of_getElem? (i := 32) rfl))) (ty := .byte) (by decide)
      have F71_value : Fld Z h71 b71 "java/lang/String" "value" "[B" .null := D71 (Or.inr (hw _ (List.mem_of_getElem? (i := 34) rfl))) (ty := (.array .byte)) (by decide)
      refine own_go st71 ?_
      refine own_go (fun _ kk_ => XS.dup X71.here hx rfl (hb hby d1_77) rfl rfl kk_) ?_
      refine own_go (fun _ kk_ => XS.aload X71.here hx rfl (hb hby d1_78) rfl rfl kk_) ?_
      show own_Fin p.tables e below _ (T71.setTop (mkF m 80 #[.val (.int mo), .val (.int pa), .val (.int pb), .val (.int pc_), .val (.int pd_), .val (.ref b39)] [(.ref b39), (.ref b71), (.ref b71)]))
      have hp75 : ∀ c ∈ ([(pb &&& (255 : Int32)), (111 : Int32), (99 : Int32), (107 : Int32), (101 : Int32), (114 : Int32), (46 : Int32), (105 : Int32), (111 : Int32)] : List Int32), ¬ c < 0 ∧ ¬ (255 : Int32) < c := by
        intro c hc
        simp only [List.mem_cons, List.not_mem_nil, or_false] at hc
        rcases hc with rfl | rfl | rfl | rfl | rfl | rfl | rfl | rfl | rfl
        · exact own_and255 _
        · exact by decide
        · exact by decide
        · exact by decide
        · exact by decide
        · exact by decide
        · exact by decide
        · exact by decide
        · exact by decide
      obtain ⟨_, _, ⟨T74, L74, k74, n74⟩, -, X74, ⟨Lc74, hQ74, l74, y74, z74⟩, st74⟩ := X71.specialBack hx (y := (⟨"java/lang/String", "<init>", "([C)V"⟩ : MethodName)) rfl hown (mvT hZ (hw _ (List.mem_of_getElem? (i := 9) rfl))) (mvT hZ (hw _ (List.mem_of_getElem? (i := 10) rfl))) (mvT hZ (hw _ (List.mem_of_getElem? (i := 11) rfl))) (by decide) (StrChars.Road.backV (W := 1) hZ hws (kI := 4) (hw _ (List.mem_of_getElem? (i := 7) rfl)) (cs := ([(pb &&& (255 : Int32)), (111 : Int32), (99 : Int32), (107 : Int32), (101 : Int32), (114 : Int32), (46 : Int32), (105 : Int32), (111 : Int32)] : List Int32)) (bs := (([(pb &&& (255 : Int32)), (111 : Int32), (99 : Int32), (107 : Int32), (101 : Int32), (114 : Int32), (46 : Int32), (105 : Int32), (111 : Int32)] : List Int32)).map (fun c => c.toInt8.toInt32)) (n := 9) g_b71 (Nat.le_trans Z0 K73.1) A71 F71_value F71_coder V39 (S_C.ext O0.2) hcs rfl rfl (by decide) (by decide) hp75 rfl (by decide) (by decide)) (g := (mkF m 80 #[.val (.int mo), .val (.int pa), .val (.int pb), .val (.int pc_), .val (.int pd_), .val (.ref b39)] [(.ref b39), (.ref b71), (.ref b71)])) rfl (by rw [hml]; rfl) (Steps.refl _) (a := b71) (argsL := [(.ref b39)]) (rest := [(.ref b71)]) (lenOf pd_7 rfl) rfl (by show 2 * 0 + _ ≤ _; exact Nat.le_of_eq rfl) (hb hby d1_80) (fun _ _ => ⟨rfl, e71, (by decide : 2 + 1 ≤ _), (by decide : 13 + 9 ≤ _)⟩)
      dsimp only [Pt.U, Pt.locs, Pt.cells, Pt.slots] at X74 l74 y74 z74 st74 hQ74
      subst l74 y74 z74
      obtain ⟨rfl, N74q, KK74, EE74, FC74, t74, kb74, gt74, szt74, netx74, FV74, VV74⟩ := hQ74
      have N74 := Fr.app N68 N74q
      have SS74 : own_Str Z T74.heap b71 t74 ([(pb &&& (255 : Int32)), (111 : Int32), (99 : Int32), (107 : Int32), (101 : Int32), (114 : Int32), (46 : Int32), (105 : Int32), (111 : Int32)] : List Int32) := ⟨_, _, _, _, EE74, FV74, FC74, VV74, StrChars.Road.codOf (n := 9) rfl (fun c hc => (hp75 c hc).2), own_up _ hp75, Nat.le_of_ble_eq_true rfl⟩
      have sz_t74 : h0.size ≤ t74 := Nat.le_trans K73.1 szt74
      have ne76 : b39 ≠ t74 := Nat.ne_of_lt (Nat.lt_of_lt_of_le V39.lt szt74)
      have ne77 : b71 ≠ t74 := Nat.ne_of_lt (Nat.lt_of_lt_of_le A71.lt szt74)
      have S_t74 := Safe.new (Z := Z) (EL := consts_1) (vm := s.vm) szt74
      have hs78 : ∀ x ∈ [b71], Safe Z consts_1 s.vm h71 x := (sfS S_b71 sf0)
      replace S_b39 := Safe.keep KK74 hs78 CH S_b39
      replace S_b71 := Safe.keep KK74 hs78 CH S_b71
      replace S_t74 := Safe.keep KK74 hs78 CH S_t74
      replace CR := CR.trans (CHr.keep KK74 hs78 CH)
      replace CH := CHv.keep KK74 hs78 CH
      replace hk := Nat.le_trans hk KK74.1
      replace O0 := O0.keep KK74 (allS g_b71 (all0))
      replace V39 := V39.keep KK74 (ninS ne72 nin0)
      replace A71 := A71.keep KK74
      have K79 := K73.trans KK74 (allS (Or.inr sz_b71) all0)
      refine own_go (fun _ kk_ => st74.trans kk_) ?_
      show own_Fin p.tables e below _ (T74.setTop (mkF m 83 #[.val (.int mo), .val (.int pa), .val (.int pb), .val (.int pc_), .val (.int pd_), .val (.ref b39)] [(.ref b71)]))
      have CRz : CHr Z consts_1 s.vm s.heap T74.vm T74.heap := by
        rw [hh]
        exact CR.trans (CHv.at X74 hZ hEL CH)
      refine own_retW X74 hx Bd hS hk (t := (.object "java/lang/String")) Bd.returns rfl (Or.inr (Or.inr (Or.inr (Or.inr ⟨rfl, rfl, rfl⟩)))) (hb hby d1_83) CRz ?_ (by decide) (by decide)
      show (Q_rm_dr Z mo pa pb pc_ pd_ gc h0 n0) (some (.ref b71)) T74.heap _
      exact ⟨_, _, _, rfl, N74, K79, SS74⟩
    · skip
      show own_Fin p.tables e below _ (T65.setTop (mkF m 67 #[.val (.int mo), .val (.int pa), .val (.int pb), .val (.int pc_), .val (.int pd_), .val (.ref b39)] [(.int ((pa &&& (2147483647 : Int32)) % (9 : Int32))), (.ref b39)]))
      rw [hs9]
      refine own_go (fun _ kk_ => XS.iloadN X65.here hx rfl (hb hby d1_67) rfl kk_) ?_
      refine own_go (fun _ kk_ => XS.sipush X65.here hx rfl (hb hby d1_68) kk_) ?_
      show own_Fin p.tables e below _ (T65.setTop (mkF m 71 #[.val (.int mo), .val (.int pa), .val (.int pb), .val (.int pc_), .val (.int pd_), .val (.ref b39)] [(.int (255 : Int32)), (.int pb), (.int (1 : Int32)), (.ref b39)]))
      refine own_go (fun _ kk_ => XS.iand X65.here hx rfl (hb hby d1_71) rfl kk_) ?_
      show own_Fin p.tables e below _ (T65.setTop (mkF m 72 #[.val (.int mo), .val (.int pa), .val (.int pb), .val (.int pc_), .val (.int pd_), .val (.ref b39)] [(.int (pb &&& (255 : Int32))), (.int (1 : Int32)), (.ref b39)]))
      refine own_go (fun _ kk_ => XS.i2c X65.here hx rfl (hb hby d1_72) rfl kk_) ?_
      rw [i2c_mask]
      show own_Fin p.tables e below _ (T65.setTop (mkF m 73 #[.val (.int mo), .val (.int pa), .val (.int pb), .val (.int pc_), .val (.int pd_), .val (.ref b39)] [(.int (pb &&& (255 : Int32))), (.int (1 : Int32)), (.ref b39)]))
      obtain ⟨T80, h80, X80, e80, W80, V80, st80⟩ := own_stC X65 hx hZ e65 V39 (by decide) (i := 1) rfl (Nat.le_of_ble_eq_true rfl) (g := (mkF m 73 #[.val (.int mo), .val (.int pa), .val (.int pb), .val (.int pc_), .val (.int pd_), .val (.ref b39)] [(.int (pb &&& (255 : Int32))), (.int (1 : Int32)), (.ref b39)])) rfl rfl (hb hby d1_73)
      rw [own_nar255] at V80
      replace V39 : Arv Z h80 b39 k39 .char (9 : Int32) [(.int (100 : Int32)), (.int (pb &&& (255 : Int32))), (.int (99 : Int32)), (.int (107 : Int32)), (.int (101 : Int32)), (.int (114 : Int32)), (.int (46 : Int32)), (.int (105 : Int32)), (.int (111 : Int32))] (.int (0 : Int32)) := V80
      have N80 := Fr.snoc X80 N65 g_b39
      refine own_go st80 ?_
      have sa81 := S_b39
      replace S_b39 := Safe.wr W80 sa81 CH S_b39
      replace CR := CR.trans (CHr.wr W80 sa81 CH)
      replace CH := CHv.wr W80 sa81 CH
      replace hk := Nat.le_trans hk (Keep.of_wr W80).1
      replace O0 := O0.wr W80 g_b39
      have K82 := K67.wr W80 (Or.inr sz_b39)
      show own_Fin p.tables e below _ (T80.setTop (mkF m 74 #[.val (.int mo), .val (.int pa), .val (.int pb), .val (.int pc_), .val (.int pd_), .val (.ref b39)] []))
      obtain ⟨T83, h83, X83, e83, E83, A83, D83, -, st83⟩ := newO X80 hx hZ hown (hw _ (List.mem_of_getElem? (i := 6) rfl)) (hw _ (List.mem_of_getElem? (i := 7) rfl)) (hw _ (List.mem_of_getElem? (i := 8) rfl)) e80 (g := (mkF m 74 #[.val (.int mo), .val (.int pa), .val (.int pb), .val (.int pc_), .val (.int pd_), .val (.ref b39)] [])) rfl (hb hby d1_74) (by decide) (by decide)
      obtain ⟨b83, g83⟩ : ∃ z, z = h80.size := ⟨_, rfl⟩
      rw [← g83] at A83 D83 st83
      have sz_b83 : h0.size ≤ b83 := Nat.le_trans K82.1 (Nat.le_of_eq g83.symm)
      have g_b83 : n0 ≤ b83 := Nat.le_trans Z0 sz_b83
      have ne84 : b39 ≠ b83 := Nat.ne_of_lt (Nat.lt_of_lt_of_le V39.lt (Nat.le_of_eq g83.symm))
      have S_b83 := Safe.new (Z := Z) (EL := consts_1) (vm := s.vm) (Nat.le_of_eq g83.symm)
      replace S_b39 := Safe.ext E83 CH S_b39
      replace S_b83 := Safe.ext E83 CH S_b83
      replace CR := CR.trans (CHr.ext E83 CH)
      replace CH := CH.ext E83
      replace hk := Nat.le_trans hk E83.1
      replace O0 := O0.ext E83
      replace V39 := V39.ext E83
      have K85 := K82.ext E83
      have F83_coder : Fld Z h83 b83 "java/lang/String" "coder" "B" (.int (0 : Int32)) := D83 (Or.inr (hw _ (List.mem_of_getElem? (i := 32) rfl))) (ty := .byte) (by decide)
      have F83_value : Fld Z h83 b83 "java/lang/String" "value" "[B" .null := D83 (Or.inr (hw _ (List.mem_of_getElem? (i := 34) rfl))) (ty := (.array .byte)) (by decide)
      refine own_go st83 ?_
      refine own_go (fun _ kk_ => XS.dup X83.here hx rfl (hb hby d1_77) rfl rfl kk_) ?_
      refine own_go (fun _ kk_ => XS.aload X83.here hx rfl (hb hby d1_78) rfl rfl kk_) ?_
      show own_Fin p.tables e below _ (T83.setTop (mkF m 80 #[.val (.int mo), .val (.int pa), .val (.int pb), .val (.int pc_), .val (.int pd_), .val (.ref b39)] [(.ref b39), (.ref b83), (.ref b83)]))
      have hp87 : ∀ c ∈ ([(100 : Int32), (pb &&& (255 : Int32)), (99 : Int32), (107 : Int32), (101 : Int32), (114 : Int32), (46 : Int32), (105 : Int32), (111 : Int32)] : List Int32), ¬ c < 0 ∧ ¬ (255 : Int32) < c := by
        intro c hc
        simp only [List.mem_cons, List.not_mem_nil, or_false] at hc
        rcases hc with rfl | rfl | rfl | rfl | rfl | rfl | rfl | rfl | rfl
        · exact by decide
        · exact own_and255 _
        · exact by decide
        · exact by decide
        · exact by decide
        · exact by decide
        · exact by decide
        · exact by decide
        · exact by decide
      obtain ⟨_, _, ⟨T86, L86, k86, n86⟩, -, X86, ⟨Lc86, hQ86, l86, y86, z86⟩, st86⟩ := X83.specialBack hx (y := (⟨"java/lang/String", "<init>", "([C)V"⟩ : MethodName)) rfl hown (mvT hZ (hw _ (List.mem_of_getElem? (i := 9) rfl))) (mvT hZ (hw _ (List.mem_of_getElem? (i := 10) rfl))) (mvT hZ (hw _ (List.mem_of_getElem? (i := 11) rfl))) (by decide) (StrChars.Road.backV (W := 1) hZ hws (kI := 4) (hw _ (List.mem_of_getElem? (i := 7) rfl)) (cs := ([(100 : Int32), (pb &&& (255 : Int32)), (99 : Int32), (107 : Int32), (101 : Int32), (114 : Int32), (46 : Int32), (105 : Int32), (111 : Int32)] : List Int32)) (bs := (([(100 : Int32), (pb &&& (255 : Int32)), (99 : Int32), (107 : Int32), (101 : Int32), (114 : Int32), (46 : Int32), (105 : Int32), (111 : Int32)] : List Int32)).map (fun c => c.toInt8.toInt32)) (n := 9) g_b83 (Nat.le_trans Z0 K85.1) A83 F83_value F83_coder V39 (S_C.ext O0.2) hcs rfl rfl (by decide) (by decide) hp87 rfl (by decide) (by decide)) (g := (mkF m 80 #[.val (.int mo), .val (.int pa), .val (.int pb), .val (.int pc_), .val (.int pd_), .val (.ref b39)] [(.ref b39), (.ref b83), (.ref b83)])) rfl (by rw [hml]; rfl) (Steps.refl _) (a := b83) (argsL := [(.ref b39)]) (rest := [(.ref b83)]) (lenOf pd_7 rfl) rfl (by show 2 * 0 + _ ≤ _; exact Nat.le_of_eq rfl) (hb hby d1_80) (fun _ _ => ⟨rfl, e83, (by decide : 2 + 1 ≤ _), (by decide : 13 + 9 ≤ _)⟩)
      dsimp only [Pt.U, Pt.locs, Pt.cells, Pt.slots] at X86 l86 y86 z86 st86 hQ86
      subst l86 y86 z86
      obtain ⟨rfl, N86q, KK86, EE86, FC86, t86, kb86, gt86, szt86, netx86, FV86, VV86⟩ := hQ86
      have N86 := Fr.app N80 N86q
      have SS86 : own_Str Z T86.heap b83 t86 ([(100 : Int32), (pb &&& (255 : Int32)), (99 : Int32), (107 : Int32), (101 : Int32), (114 : Int32), (46 : Int32), (105 : Int32), (111 : Int32)] : List Int32) := ⟨_, _, _, _, EE86, FV86, FC86, VV86, StrChars.Road.codOf (n := 9) rfl (fun c hc => (hp87 c hc).2), own_up _ hp87, Nat.le_of_ble_eq_true rfl⟩
      have sz_t86 : h0.size ≤ t86 := Nat.le_trans K85.1 szt86
      have ne88 : b39 ≠ t86 := Nat.ne_of_lt (Nat.lt_of_lt_of_le V39.lt szt86)
      have ne89 : b83 ≠ t86 := Nat.ne_of_lt (Nat.lt_of_lt_of_le A83.lt szt86)
      have S_t86 := Safe.new (Z := Z) (EL := consts_1) (vm := s.vm) szt86
      have hs90 : ∀ x ∈ [b83], Safe Z consts_1 s.vm h83 x := (sfS S_b83 sf0)
      replace S_b39 := Safe.keep KK86 hs90 CH S_b39
      replace S_b83 := Safe.keep KK86 hs90 CH S_b83
      replace S_t86 := Safe.keep KK86 hs90 CH S_t86
      replace CR := CR.trans (CHr.keep KK86 hs90 CH)
      replace CH := CHv.keep KK86 hs90 CH
      replace hk := Nat.le_trans hk KK86.1
      replace O0 := O0.keep KK86 (allS g_b83 (all0))
      replace V39 := V39.keep KK86 (ninS ne84 nin0)
      replace A83 := A83.keep KK86
      have K91 := K85.trans KK86 (allS (Or.inr sz_b83) all0)
      refine own_go (fun _ kk_ => st86.trans kk_) ?_
      show own_Fin p.tables e below _ (T86.setTop (mkF m 83 #[.val (.int mo), .val (.int pa), .val (.int pb), .val (.int pc_), .val (.int pd_), .val (.ref b39)] [(.ref b83)]))
      have CRz : CHr Z consts_1 s.vm s.heap T86.vm T86.heap := by
        rw [hh]
        exact CR.trans (CHv.at X86 hZ hEL CH)
      refine own_retW X86 hx Bd hS hk (t := (.object "java/lang/String")) Bd.returns rfl (Or.inr (Or.inr (Or.inr (Or.inr ⟨rfl, rfl, rfl⟩)))) (hb hby d1_83) CRz ?_ (by decide) (by decide)
      show (Q_rm_dr Z mo pa pb pc_ pd_ gc h0 n0) (some (.ref b83)) T86.heap _
      exact ⟨_, _, _, rfl, N86, K91, SS86⟩
    · skip
      show own_Fin p.tables e below _ (T65.setTop (mkF m 67 #[.val (.int mo), .val (.int pa), .val (.int pb), .val (.int pc_), .val (.int pd_), .val (.ref b39)] [(.int ((pa &&& (2147483647 : Int32)) % (9 : Int32))), (.ref b39)]))
      rw [hs9]
      refine own_go (fun _ kk_ => XS.iloadN X65.here hx rfl (hb hby d1_67) rfl kk_) ?_
      refine own_go (fun _ kk_ => XS.sipush X65.here hx rfl (hb hby d1_68) kk_) ?_
      show own_Fin p.tables e below _ (T65.setTop (mkF m 71 #[.val (.int mo), .val (.int pa), .val (.int pb), .val (.int pc_), .val (.int pd_), .val (.ref b39)] [(.int (255 : Int32)), (.int pb), (.int (2 : Int32)), (.ref b39)]))
      refine own_go (fun _ kk_ => XS.iand X65.here hx rfl (hb hby d1_71) rfl kk_) ?_
      show own_Fin p.tables e below _ (T65.setTop (mkF m 72 #[.val (.int mo), .val (.int pa), .val (.int pb), .val (.int pc_), .val (.int pd_), .val (.ref b39)] [(.int (pb &&& (255 : Int32))), (.int (2 : Int32)), (.ref b39)]))
      refine own_go (fun _ kk_ => XS.i2c X65.here hx rfl (hb hby d1_72) rfl kk_) ?_
      rw [i2c_mask]
      show own_Fin p.tables e below _ (T65.setTop (mkF m 73 #[.val (.int mo), .val (.int pa), .val (.int pb), .val (.int pc_), .val (.int pd_), .val (.ref b39)] [(.int (pb &&& (255 : Int32))), (.int (2 : Int32)), (.ref b39)]))
      obtain ⟨T92, h92, X92, e92, W92, V92, st92⟩ := own_stC X65 hx hZ e65 V39 (by decide) (i := 2) rfl (Nat.le_of_ble_eq_true rfl) (g := (mkF m 73 #[.val (.int mo), .val (.int pa), .val (.int pb), .val (.int pc_), .val (.int pd_), .val (.ref b39)] [(.int (pb &&& (255 : Int32))), (.int (2 : Int32)), (.ref b39)])) rfl rfl (hb hby d1_73)
      rw [own_nar255] at V92
      replace V39 : Arv Z h92 b39 k39 .char (9 : Int32) [(.int (100 : Int32)), (.int (111 : Int32)), (.int (pb &&& (255 : Int32))), (.int (107 : Int32)), (.int (101 : Int32)), (.int (114 : Int32)), (.int (46 : Int32)), (.int (105 : Int32)), (.int (111 : Int32))] (.int (0 : Int32)) := V92
      have N92 := Fr.snoc X92 N65 g_b39
      refine own_go st92 ?_
      have sa93 := S_b39
      replace S_b39 := Safe.wr W92 sa93 CH S_b39
      replace CR := CR.trans (CHr.wr W92 sa93 CH)
      replace CH := CHv.wr W92 sa93 CH
      replace hk := Nat.le_trans hk (Keep.of_wr W92).1
      replace O0 := O0.wr W92 g_b39
      have K94 := K67.wr W92 (Or.inr sz_b39)
      show own_Fin p.tables e below _ (T92.setTop (mkF m 74 #[.val (.int mo), .val (.int pa), .val (.int pb), .val (.int pc_), .val (.int pd_), .val (.ref b39)] []))
      obtain ⟨T95, h95, X95, e95, E95, A95, D95, -, st95⟩ := newO X92 hx hZ hown (hw _ (List.mem_of_getElem? (i := 6) rfl)) (hw _ (List.mem_of_getElem? (i := 7) rfl)) (hw _ (List.mem_of_getElem? (i := 8) rfl)) e92 (g := (mkF m 74 #[.val (.int mo), .val (.int pa), .val (.int pb), .val (.int pc_), .val (.int pd_), .val (.ref b39)] [])) rfl (hb hby d1_74) (by decide) (by decide)
      obtain ⟨b95, g95⟩ : ∃ z, z = h92.size := ⟨_, rfl⟩
      rw [← g95] at A95 D95 st95
      have sz_b95 : h0.size ≤ b95 := Nat.le_trans K94.1 (Nat.le_of_eq g95.symm)
      have g_b95 : n0 ≤ b95 := Nat.le_trans Z0 sz_b95
      have ne96 : b39 ≠ b95 := Nat.ne_of_lt (Nat.lt_of_lt_of_le V39.lt (Nat.le_of_eq g95.symm))
      have S_b95 := Safe.new (Z := Z) (EL := consts_1) (vm := s.vm) (Nat.le_of_eq g95.symm)
      replace S_b39 := Safe.ext E95 CH S_b39
      replace S_b95 := Safe.ext E95 CH S_b95
      replace CR := CR.trans (CHr.ext E95 CH)
      replace CH := CH.ext E95
      replace hk := Nat.le_trans hk E95.1
      replace O0 := O0.ext E95
      replace V39 := V39.ext E95
      have K97 := K94.ext E95
      have F95_coder : Fld Z h95 b95 "java/lang/String" "coder" "B" (.int (0 : Int32)) := D95 (Or.inr (hw _ (List.mem_of_getElem? (i := 32) rfl))) (ty := .byte) (by decide)
      have F95_value : Fld Z h95 b95 "java/lang/String" "value" "[B" .null := D95 (Or.inr (hw _ (List.mem_of_getElem? (i := 34) rfl))) (ty := (.array .byte)) (by decide)
      refine own_go st95 ?_
      refine own_go (fun _ kk_ => XS.dup X95.here hx rfl (hb hby d1_77) rfl rfl kk_) ?_
      refine own_go (fun _ kk_ => XS.aload X95.here hx rfl (hb hby d1_78) rfl rfl kk_) ?_
      show own_Fin p.tables e below _ (T95.setTop (mkF m 80 #[.val (.int mo), .val (.int pa), .val (.int pb), .val (.int pc_), .val (.int pd_), .val (.ref b39)] [(.ref b39), (.ref b95), (.ref b95)]))
      have hp99 : ∀ c ∈ ([(100 : Int32), (111 : Int32), (pb &&& (255 : Int32)), (107 : Int32), (101 : Int32), (114 : Int32), (46 : Int32), (105 : Int32), (111 : Int32)] : List Int32), ¬ c < 0 ∧ ¬ (255 : Int32) < c := by
        intro c hc
        simp only [List.mem_cons, List.not_mem_nil, or_false] at hc
        rcases hc with rfl | rfl | rfl | rfl | rfl | rfl | rfl | rfl | rfl
        · exact by decide
        · exact by decide
        · exact own_and255 _
        · exact by decide
        · exact by decide
        · exact by decide
        · exact by decide
        · exact by decide
        · exact by decide
      obtain ⟨_, _, ⟨T98, L98, k98, n98⟩, -, X98, ⟨Lc98, hQ98, l98, y98, z98⟩, st98⟩ := X95.specialBack hx (y := (⟨"java/lang/String", "<init>", "([C)V"⟩ : MethodName)) rfl hown (mvT hZ (hw _ (List.mem_of_getElem? (i := 9) rfl))) (mvT hZ (hw _ (List.mem_of_getElem? (i := 10) rfl))) (mvT hZ (hw _ (List.mem_of_getElem? (i := 11) rfl))) (by decide) (StrChars.Road.backV (W := 1) hZ hws (kI := 4) (hw _ (List.mem_of_getElem? (i := 7) rfl)) (cs := ([(100 : Int32), (111 : Int32), (pb &&& (255 : Int32)), (107 : Int32), (101 : Int32), (114 : Int32), (46 : Int32), (105 : Int32), (111 : Int32)] : List Int32)) (bs := (([(100 : Int32), (111 : Int32), (pb &&& (255 : Int32)), (107 : Int32), (101 : Int32), (114 : Int32), (46 : Int32), (105 : Int32), (111 : Int32)] : List Int32)).map (fun c => c.toInt8.toInt32)) (n := 9) g_b95 (Nat.le_trans Z0 K97.1) A95 F95_value F95_coder V39 (S_C.ext O0.2) hcs rfl rfl (by decide) (by decide) hp99 rfl (by decide) (by decide)) (g := (mkF m 80 #[.val (.int mo), .val (.int pa), .val (.int pb), .val (.int pc_), .val (.int pd_), .val (.ref b39)] [(.ref b39), (.ref b95), (.ref b95)])) rfl (by rw [hml]; rfl) (Steps.refl _) (a := b95) (argsL := [(.ref b39)]) (rest := [(.ref b95)]) (lenOf pd_7 rfl) rfl (by show 2 * 0 + _ ≤ _; exact Nat.le_of_eq rfl) (hb hby d1_80) (fun _ _ => ⟨rfl, e95, (by decide : 2 + 1 ≤ _), (by decide : 13 + 9 ≤ _)⟩)
      dsimp only [Pt.U, Pt.locs, Pt.cells, Pt.slots] at X98 l98 y98 z98 st98 hQ98
      subst l98 y98 z98
      obtain ⟨rfl, N98q, KK98, EE98, FC98, t98, kb98, gt98, szt98, netx98, FV98, VV98⟩ := hQ98
      have N98 := Fr.app N92 N98q
      have SS98 : own_Str Z T98.heap b95 t98 ([(100 : Int32), (111 : Int32), (pb &&& (255 : Int32)), (107 : Int32), (101 : Int32), (114 : Int32), (46 : Int32), (105 : Int32), (111 : Int32)] : List Int32) := ⟨_, _, _, _, EE98, FV98, FC98, VV98, StrChars.Road.codOf (n := 9) rfl (fun c hc => (hp99 c hc).2), own_up _ hp99, Nat.le_of_ble_eq_true rfl⟩
      have sz_t98 : h0.size ≤ t98 := Nat.le_trans K97.1 szt98
      have ne100 : b39 ≠ t98 := Nat.ne_of_lt (Nat.lt_of_lt_of_le V39.lt szt98)
      have ne101 : b95 ≠ t98 := Nat.ne_of_lt (Nat.lt_of_lt_of_le A95.lt szt98)
      have S_t98 := Safe.new (Z := Z) (EL := consts_1) (vm := s.vm) szt98
      have hs102 : ∀ x ∈ [b95], Safe Z consts_1 s.vm h95 x := (sfS S_b95 sf0)
      replace S_b39 := Safe.keep KK98 hs102 CH S_b39
      replace S_b95 := Safe.keep KK98 hs102 CH S_b95
      replace S_t98 := Safe.keep KK98 hs102 CH S_t98
      replace CR := CR.trans (CHr.keep KK98 hs102 CH)
      replace CH := CHv.keep KK98 hs102 CH
      replace hk := Nat.le_trans hk KK98.1
      replace O0 := O0.keep KK98 (allS g_b95 (all0))
      replace V39 := V39.keep KK98 (ninS ne96 nin0)
      replace A95 := A95.keep KK98
      have K103 := K97.trans KK98 (allS (Or.inr sz_b95) all0)
      refine own_go (fun _ kk_ => st98.trans kk_) ?_
      show own_Fin p.tables e below _ (T98.setTop (mkF m 83 #[.val (.int mo), .val (.int pa), .val (.int pb), .val (.int pc_), .val (.int pd_), .val (.ref b39)] [(.ref b95)]))
      have CRz : CHr Z consts_1 s.vm s.heap T98.vm T98.heap := by
        rw [hh]
        exact CR.trans (CHv.at X98 hZ hEL CH)
      refine own_retW X98 hx Bd hS hk (t := (.object "java/lang/String")) Bd.returns rfl (Or.inr (Or.inr (Or.inr (Or.inr ⟨rfl, rfl, rfl⟩)))) (hb hby d1_83) CRz ?_ (by decide) (by decide)
      show (Q_rm_dr Z mo pa pb pc_ pd_ gc h0 n0) (some (.ref b95)) T98.heap _
      exact ⟨_, _, _, rfl, N98, K103, SS98⟩
    · skip
      show own_Fin p.tables e below _ (T65.setTop (mkF m 67 #[.val (.int mo), .val (.int pa), .val (.int pb), .val (.int pc_), .val (.int pd_), .val (.ref b39)] [(.int ((pa &&& (2147483647 : Int32)) % (9 : Int32))), (.ref b39)]))
      rw [hs9]
      refine own_go (fun _ kk_ => XS.iloadN X65.here hx rfl (hb hby d1_67) rfl kk_) ?_
      refine own_go (fun _ kk_ => XS.sipush X65.here hx rfl (hb hby d1_68) kk_) ?_
      show own_Fin p.tables e below _ (T65.setTop (mkF m 71 #[.val (.int mo), .val (.int pa), .val (.int pb), .val (.int pc_), .val (.int pd_), .val (.ref b39)] [(.int (255 : Int32)), (.int pb), (.int (3 : Int32)), (.ref b39)]))
      refine own_go (fun _ kk_ => XS.iand X65.here hx rfl (hb hby d1_71) rfl kk_) ?_
      show own_Fin p.tables e below _ (T65.setTop (mkF m 72 #[.val (.int mo), .val (.int pa), .val (.int pb), .val (.int pc_), .val (.int pd_), .val (.ref b39)] [(.int (pb &&& (255 : Int32))), (.int (3 : Int32)), (.ref b39)]))
      refine own_go (fun _ kk_ => XS.i2c X65.here hx rfl (hb hby d1_72) rfl kk_) ?_
      rw [i2c_mask]
      show own_Fin p.tables e below _ (T65.setTop (mkF m 73 #[.val (.int mo), .val (.int pa), .val (.int pb), .val (.int pc_), .val (.int pd_), .val (.ref b39)] [(.int (pb &&& (255 : Int32))), (.int (3 : Int32)), (.ref b39)]))
      obtain ⟨T104, h104, X104, e104, W104, V104, st104⟩ := own_stC X65 hx hZ e65 V39 (by decide) (i := 3) rfl (Nat.le_of_ble_eq_true rfl) (g := (mkF m 73 #[.val (.int mo), .val (.int pa), .val (.int pb), .val (.int pc_), .val (.int pd_), .val (.ref b39)] [(.int (pb &&& (255 : Int32))), (.int (3 : Int32)), (.ref b39)])) rfl rfl (hb hby d1_73)
      rw [own_nar255] at V104
      replace V39 : Arv Z h104 b39 k39 .char (9 : Int32) [(.int (100 : Int32)), (.int (111 : Int32)), (.int (99 : Int32)), (.int (pb &&& (255 : Int32))), (.int (101 : Int32)), (.int (114 : Int32)), (.int (46 : Int32)), (.int (105 : Int32)), (.int (111 : Int32))] (.int (0 : Int32)) := V104
      have N104 := Fr.snoc X104 N65 g_b39
      refine own_go st104 ?_
      have sa105 := S_b39
      replace S_b39 := Safe.wr W104 sa105 CH S_b39
      replace CR := CR.trans (CHr.wr W104 sa105 CH)
      replace CH := CHv.wr W104 sa105 CH
      replace hk := Nat.le_trans hk (Keep.of_wr W104).1
      replace O0 := O0.wr W104 g_b39
      have K106 := K67.wr W104 (Or.inr sz_b39)
      show own_Fin p.tables e below _ (T104.setTop (mkF m 74 #[.val (.int mo), .val (.int pa), .val (.int pb), .val (.int pc_), .val (.int pd_), .val (.ref b39)] []))
      obtain ⟨T107, h107, X107, e107, E107, A107, D107, -, st107⟩ := newO X104 hx hZ hown (hw _ (List.mem_of_getElem? (i := 6) rfl)) (hw _ (List.mem_of_getElem? (i := 7) rfl)) (hw _ (List.mem_of_getElem? (i := 8) rfl)) e104 (g := (mkF m 74 #[.val (.int mo), .val (.int pa), .val (.int pb), .val (.int pc_), .val (.int pd_), .val (.ref b39)] [])) rfl (hb hby d1_74) (by decide) (by decide)
      obtain ⟨b107, g107⟩ : ∃ z, z = h104.size := ⟨_, rfl⟩
      rw [← g107] at A107 D107 st107
      have sz_b107 : h0.size ≤ b107 := Nat.le_trans K106.1 (Nat.le_of_eq g107.symm)
      have g_b107 : n0 ≤ b107 := Nat.le_trans Z0 sz_b107
      have ne108 : b39 ≠ b107 := Nat.ne_of_lt (Nat.lt_of_lt_of_le V39.lt (Nat.le_of_eq g107.symm))
      have S_b107 := Safe.new (Z := Z) (EL := consts_1) (vm := s.vm) (Nat.le_of_eq g107.symm)
      replace S_b39 := Safe.ext E107 CH S_b39
      replace S_b107 := Safe.ext E107 CH S_b107
      replace CR := CR.trans (CHr.ext E107 CH)
      replace CH := CH.ext E107
      replace hk := Nat.le_trans hk E107.1
      replace O0 := O0.ext E107
      replace V39 := V39.ext E107
      have K109 := K106.ext E107
      have F107_coder : Fld Z h107 b107 "java/lang/String" "coder" "B" (.int (0 : Int32)) := D107 (Or.inr (hw _ (List.mem_of_getElem? (i := 32) rfl))) (ty := .byte) (by decide)
      have F107_value : Fld Z h107 b107 "java/lang/String" "value" "[B" .null := D107 (Or.inr (hw _ (List.mem_of_getElem? (i := 34) rfl))) (ty := (.array .byte)) (by decide)
      refine own_go st107 ?_
      refine own_go (fun _ kk_ => XS.dup X107.here hx rfl (hb hby d1_77) rfl rfl kk_) ?_
      refine own_go (fun _ kk_ => XS.aload X107.here hx rfl (hb hby d1_78) rfl rfl kk_) ?_
      show own_Fin p.tables e below _ (T107.setTop (mkF m 80 #[.val (.int mo), .val (.int pa), .val (.int pb), .val (.int pc_), .val (.int pd_), .val (.ref b39)] [(.ref b39), (.ref b107), (.ref b107)]))
      have hp111 : ∀ c ∈ ([(100 : Int32), (111 : Int32), (99 : Int32), (pb &&& (255 : Int32)), (101 : Int32), (114 : Int32), (46 : Int32), (105 : Int32), (111 : Int32)] : List Int32), ¬ c < 0 ∧ ¬ (255 : Int32) < c := by
        intro c hc
        simp only [List.mem_cons, List.not_mem_nil, or_false] at hc
        rcases hc with rfl | rfl | rfl | rfl | rfl | rfl | rfl | rfl | rfl
        · exact by decide
        · exact by decide
        · exact by decide
        · exact own_and255 _
        · exact by decide
        · exact by decide
        · exact by decide
        · exact by decide
        · exact by decide
      obtain ⟨_, _, ⟨T110, L110, k110, n110⟩, -, X110, ⟨Lc110, hQ110, l110, y110, z110⟩, st110⟩ := X107.specialBack hx (y := (⟨"java/lang/String", "<init>", "([C)V"⟩ : MethodName)) rfl hown (mvT hZ (hw _ (List.mem_of_getElem? (i := 9) rfl))) (mvT hZ (hw _ (List.mem_of_getElem? (i := 10) rfl))) (mvT hZ (hw _ (List.mem_of_getElem? (i := 11) rfl))) (by decide) (StrChars.Road.backV (W := 1) hZ hws (kI := 4) (hw _ (List.mem_of_getElem? (i := 7) rfl)) (cs := ([(100 : Int32), (111 : Int32), (99 : Int32), (pb &&& (255 : Int32)), (101 : Int32), (114 : Int32), (46 : Int32), (105 : Int32), (111 : Int32)] : List Int32)) (bs := (([(100 : Int32), (111 : Int32), (99 : Int32), (pb &&& (255 : Int32)), (101 : Int32), (114 : Int32), (46 : Int32), (105 : Int32), (111 : Int32)] : List Int32)).map (fun c => c.toInt8.toInt32)) (n := 9) g_b107 (Nat.le_trans Z0 K109.1) A107 F107_value F107_coder V39 (S_C.ext O0.2) hcs rfl rfl (by decide) (by decide) hp111 rfl (by decide) (by decide)) (g := (mkF m 80 #[.val (.int mo), .val (.int pa), .val (.int pb), .val (.int pc_), .val (.int pd_), .val (.ref b39)] [(.ref b39), (.ref b107), (.ref b107)])) rfl (by rw [hml]; rfl) (Steps.refl _) (a := b107) (argsL := [(.ref b39)]) (rest := [(.ref b107)]) (lenOf pd_7 rfl) rfl (by show 2 * 0 + _ ≤ _; exact Nat.le_of_eq rfl) (hb hby d1_80) (fun _ _ => ⟨rfl, e107, (by decide : 2 + 1 ≤ _), (by decide : 13 + 9 ≤ _)⟩)
      dsimp only [Pt.U, Pt.locs, Pt.cells, Pt.slots] at X110 l110 y110 z110 st110 hQ110
      subst l110 y110 z110
      obtain ⟨rfl, N110q, KK110, EE110, FC110, t110, kb110, gt110, szt110, netx110, FV110, VV110⟩ := hQ110
      have N110 := Fr.app N104 N110q
      have SS110 : own_Str Z T110.heap b107 t110 ([(100 : Int32), (111 : Int32), (99 : Int32), (pb &&& (255 : Int32)), (101 : Int32), (114 : Int32), (46 : Int32), (105 : Int32), (111 : Int32)] : List Int32) := ⟨_, _, _, _, EE110, FV110, FC110, VV110, StrChars.Road.codOf (n := 9) rfl (fun c hc => (hp111 c hc).2), own_up _ hp111, Nat.le_of_ble_eq_true rfl⟩
      have sz_t110 : h0.size ≤ t110 := Nat.le_trans K109.1 szt110
      have ne112 : b39 ≠ t110 := Nat.ne_of_lt (Nat.lt_of_lt_of_le V39.lt szt110)
      have ne113 : b107 ≠ t110 := Nat.ne_of_lt (Nat.lt_of_lt_of_le A107.lt szt110)
      have S_t110 := Safe.new (Z := Z) (EL := consts_1) (vm := s.vm) szt110
      have hs114 : ∀ x ∈ [b107], Safe Z consts_1 s.vm h107 x := (sfS S_b107 sf0)
      replace S_b39 := Safe.keep KK110 hs114 CH S_b39
      replace S_b107 := Safe.keep KK110 hs114 CH S_b107
      replace S_t110 := Safe.keep KK110 hs114 CH S_t110
      replace CR := CR.trans (CHr.keep KK110 hs114 CH)
      replace CH := CHv.keep KK110 hs114 CH
      replace hk := Nat.le_trans hk KK110.1
      replace O0 := O0.keep KK110 (allS g_b107 (all0))
      replace V39 := V39.keep KK110 (ninS ne108 nin0)
      replace A107 := A107.keep KK110
      have K115 := K109.trans KK110 (allS (Or.inr sz_b107) all0)
      refine own_go (fun _ kk_ => st110.trans kk_) ?_
      show own_Fin p.tables e below _ (T110.setTop (mkF m 83 #[.val (.int mo), .val (.int pa), .val (.int pb), .val (.int pc_), .val (.int pd_), .val (.ref b39)] [(.ref b107)]))
      have CRz : CHr Z consts_1 s.vm s.heap T110.vm T110.heap := by
        rw [hh]
        exact CR.trans (CHv.at X110 hZ hEL CH)
      refine own_retW X110 hx Bd hS hk (t := (.object "java/lang/String")) Bd.returns rfl (Or.inr (Or.inr (Or.inr (Or.inr ⟨rfl, rfl, rfl⟩)))) (hb hby d1_83) CRz ?_ (by decide) (by decide)
      show (Q_rm_dr Z mo pa pb pc_ pd_ gc h0 n0) (some (.ref b107)) T110.heap _
      exact ⟨_, _, _, rfl, N110, K115, SS110⟩
    · skip
      show own_Fin p.tables e below _ (T65.setTop (mkF m 67 #[.val (.int mo), .val (.int pa), .val (.int pb), .val (.int pc_), .val (.int pd_), .val (.ref b39)] [(.int ((pa &&& (2147483647 : Int32)) % (9 : Int32))), (.ref b39)]))
      rw [hs9]
      refine own_go (fun _ kk_ => XS.iloadN X65.here hx rfl (hb hby d1_67) rfl kk_) ?_
      refine own_go (fun _ kk_ => XS.sipush X65.here hx rfl (hb hby d1_68) kk_) ?_
      show own_Fin p.tables e below _ (T65.setTop (mkF m 71 #[.val (.int mo), .val (.int pa), .val (.int pb), .val (.int pc_), .val (.int pd_), .val (.ref b39)] [(.int (255 : Int32)), (.int pb), (.int (4 : Int32)), (.ref b39)]))
      refine own_go (fun _ kk_ => XS.iand X65.here hx rfl (hb hby d1_71) rfl kk_) ?_
      show own_Fin p.tables e below _ (T65.setTop (mkF m 72 #[.val (.int mo), .val (.int pa), .val (.int pb), .val (.int pc_), .val (.int pd_), .val (.ref b39)] [(.int (pb &&& (255 : Int32))), (.int (4 : Int32)), (.ref b39)]))
      refine own_go (fun _ kk_ => XS.i2c X65.here hx rfl (hb hby d1_72) rfl kk_) ?_
      rw [i2c_mask]
      show own_Fin p.tables e below _ (T65.setTop (mkF m 73 #[.val (.int mo), .val (.int pa), .val (.int pb), .val (.int pc_), .val (.int pd_), .val (.ref b39)] [(.int (pb &&& (255 : Int32))), (.int (4 : Int32)), (.ref b39)]))
      obtain ⟨T116, h116, X116, e116, W116, V116, st116⟩ := own_stC X65 hx hZ e65 V39 (by decide) (i := 4) rfl (Nat.le_of_ble_eq_true rfl) (g := (mkF m 73 #[.val (.int mo), .val (.int pa), .val (.int pb), .val (.int pc_), .val (.int pd_), .val (.ref b39)] [(.int (pb &&& (255 : Int32))), (.int (4 : Int32)), (.ref b39)])) rfl rfl (hb hby d1_73)
      rw [own_nar255] at V116
      replace V39 : Arv Z h116 b39 k39 .char (9 : Int32) [(.int (100 : Int32)), (.int (111 : Int32)), (.int (99 : Int32)), (.int (107 : Int32)), (.int (pb &&& (255 : Int32))), (.int (114 : Int32)), (.int (46 : Int32)), (.int (105 : Int32)), (.int (111 : Int32))] (.int (0 : Int32)) := V116
      have N116 := Fr.snoc X116 N65 g_b39
      refine own_go st116 ?_
      have sa117 := S_b39
      replace S_b39 := Safe.wr W116 sa117 CH S_b39
      replace CR := CR.trans (CHr.wr W116 sa117 CH)
      replace CH := CHv.wr W116 sa117 CH
      replace hk := Nat.le_trans hk (Keep.of_wr W116).1
      replace O0 := O0.wr W116 g_b39
      have K118 := K67.wr W116 (Or.inr sz_b39)
      show own_Fin p.tables e below _ (T116.setTop (mkF m 74 #[.val (.int mo), .val (.int pa), .val (.int pb), .val (.int pc_), .val (.int pd_), .val (.ref b39)] []))
      obtain ⟨T119, h119, X119, e119, E119, A119, D119, -, st119⟩ := newO X116 hx hZ hown (hw _ (List.mem_of_getElem? (i := 6) rfl)) (hw _ (List.mem_of_getElem? (i := 7) rfl)) (hw _ (List.mem_of_getElem? (i := 8) rfl)) e116 (g := (mkF m 74 #[.val (.int mo), .val (.int pa), .val (.int pb), .val (.int pc_), .val (.int pd_), .val (.ref b39)] [])) rfl (hb hby d1_74) (by decide) (by decide)
      obtain ⟨b119, g119⟩ : ∃ z, z = h116.size := ⟨_, rfl⟩
      rw [← g119] at A119 D119 st119
      have sz_b119 : h0.size ≤ b119 := Nat.le_trans K118.1 (Nat.le_of_eq g119.symm)
      have g_b119 : n0 ≤ b119 := Nat.le_trans Z0 sz_b119
      have ne120 : b39 ≠ b119 := Nat.ne_of_lt (Nat.lt_of_lt_of_le V39.lt (Nat.le_of_eq g119.symm))
      have S_b119 := Safe.new (Z := Z) (EL := consts_1) (vm := s.vm) (Nat.le_of_eq g119.symm)
      replace S_b39 := Safe.ext E119 CH S_b39
      replace S_b119 := Safe.ext E119 CH S_b119
      replace CR := CR.trans (CHr.ext E119 CH)
      replace CH := CH.ext E119
      replace hk := Nat.le_trans hk E119.1
      replace O0 := O0.ext E119
      replace V39 := V39.ext E119
      have K121 := K118.ext E119
      have F119_coder : Fld Z h119 b119 "java/lang/String" "coder" "B" (.int (0 : Int32)) := D119 (Or.inr (hw _ (List.mem_of_getElem? (i := 32) rfl))) (ty := .byte) (by decide)
      have F119_value : Fld Z h119 b119 "java/lang/String" "value" "[B" .null := D119 (Or.inr (hw _ (List.mem_of_getElem? (i := 34) rfl))) (ty := (.array .byte)) (by decide)
      refine own_go st119 ?_
      refine own_go (fun _ kk_ => XS.dup X119.here hx rfl (hb hby d1_77) rfl rfl kk_) ?_
      refine own_go (fun _ kk_ => XS.aload X119.here hx rfl (hb hby d1_78) rfl rfl kk_) ?_
      show own_Fin p.tables e below _ (T119.setTop (mkF m 80 #[.val (.int mo), .val (.int pa), .val (.int pb), .val (.int pc_), .val (.int pd_), .val (.ref b39)] [(.ref b39), (.ref b119), (.ref b119)]))
      have hp123 : ∀ c ∈ ([(100 : Int32), (111 : Int32), (99 : Int32), (107 : Int32), (pb &&& (255 : Int32)), (114 : Int32), (46 : Int32), (105 : Int32), (111 : Int32)] : List Int32), ¬ c < 0 ∧ ¬ (255 : Int32) < c := by
        intro c hc
        simp only [List.mem_cons, List.not_mem_nil, or_false] at hc
        rcases hc with rfl | rfl | rfl | rfl | rfl | rfl | rfl | rfl | rfl
        · exact by decide
        · exact by decide
        · exact by decide
        · exact by decide
        · exact own_and255 _
        · exact by decide
        · exact by decide
        · exact by decide
        · exact by decide
      obtain ⟨_, _, ⟨T122, L122, k122, n122⟩, -, X122, ⟨Lc122, hQ122, l122, y122, z122⟩, st122⟩ := X119.specialBack hx (y := (⟨"java/lang/String", "<init>", "([C)V"⟩ : MethodName)) rfl hown (mvT hZ (hw _ (List.mem_of_getElem? (i := 9) rfl))) (mvT hZ (hw _ (List.mem_of_getElem? (i := 10) rfl))) (mvT hZ (hw _ (List.mem_of_getElem? (i := 11) rfl))) (by decide) (StrChars.Road.backV (W := 1) hZ hws (kI := 4) (hw _ (List.mem_of_getElem? (i := 7) rfl)) (cs := ([(100 : Int32), (111 : Int32), (99 : Int32), (107 : Int32), (pb &&& (255 : Int32)), (114 : Int32), (46 : Int32), (105 : Int32), (111 : Int32)] : List Int32)) (bs := (([(100 : Int32), (111 : Int32), (99 : Int32), (107 : Int32), (pb &&& (255 : Int32)), (114 : Int32), (46 : Int32), (105 : Int32), (111 : Int32)] : List Int32)).map (fun c => c.toInt8.toInt32)) (n := 9) g_b119 (Nat.le_trans Z0 K121.1) A119 F119_value F119_coder V39 (S_C.ext O0.2) hcs rfl rfl (by decide) (by decide) hp123 rfl (by decide) (by decide)) (g := (mkF m 80 #[.val (.int mo), .val (.int pa), .val (.int pb), .val (.int pc_), .val (.int pd_), .val (.ref b39)] [(.ref b39), (.ref b119), (.ref b119)])) rfl (by rw [hml]; rfl) (Steps.refl _) (a := b119) (argsL := [(.ref b39)]) (rest := [(.ref b119)]) (lenOf pd_7 rfl) rfl (by show 2 * 0 + _ ≤ _; exact Nat.le_of_eq rfl) (hb hby d1_80) (fun _ _ => ⟨rfl, e119, (by decide : 2 + 1 ≤ _), (by decide : 13 + 9 ≤ _)⟩)
      dsimp only [Pt.U, Pt.locs, Pt.cells, Pt.slots] at X122 l122 y122 z122 st122 hQ122
      subst l122 y122 z122
      obtain ⟨rfl, N122q, KK122, EE122, FC122, t122, kb122, gt122, szt122, netx122, FV122, VV122⟩ := hQ122
      have N122 := Fr.app N116 N122q
      have SS122 : own_Str Z T122.heap b119 t122 ([(100 : Int32), (111 : Int32), (99 : Int32), (107 : Int32), (pb &&& (255 : Int32)), (114 : Int32), (46 : Int32), (105 : Int32), (111 : Int32)] : List Int32) := ⟨_, _, _, _, EE122, FV122, FC122, VV122, StrChars.Road.codOf (n := 9) rfl (fun c hc => (hp123 c hc).2), own_up _ hp123, Nat.le_of_ble_eq_true rfl⟩
      have sz_t122 : h0.size ≤ t122 := Nat.le_trans K121.1 szt122
      have ne124 : b39 ≠ t122 := Nat.ne_of_lt (Nat.lt_of_lt_of_le V39.lt szt122)
      have ne125 : b119 ≠ t122 := Nat.ne_of_lt (Nat.lt_of_lt_of_le A119.lt szt122)
      have S_t122 := Safe.new (Z := Z) (EL := consts_1) (vm := s.vm) szt122
      have hs126 : ∀ x ∈ [b119], Safe Z consts_1 s.vm h119 x := (sfS S_b119 sf0)
      replace S_b39 := Safe.keep KK122 hs126 CH S_b39
      replace S_b119 := Safe.keep KK122 hs126 CH S_b119
      replace S_t122 := Safe.keep KK122 hs126 CH S_t122
      replace CR := CR.trans (CHr.keep KK122 hs126 CH)
      replace CH := CHv.keep KK122 hs126 CH
      replace hk := Nat.le_trans hk KK122.1
      replace O0 := O0.keep KK122 (allS g_b119 (all0))
      replace V39 := V39.keep KK122 (ninS ne120 nin0)
      replace A119 := A119.keep KK122
      have K127 := K121.trans KK122 (allS (Or.inr sz_b119) all0)
      refine own_go (fun _ kk_ => st122.trans kk_) ?_
      show own_Fin p.tables e below _ (T122.setTop (mkF m 83 #[.val (.int mo), .val (.int pa), .val (.int pb), .val (.int pc_), .val (.int pd_), .val (.ref b39)] [(.ref b119)]))
      have CRz : CHr Z consts_1 s.vm s.heap T122.vm T122.heap := by
        rw [hh]
        exact CR.trans (CHv.at X122 hZ hEL CH)
      refine own_retW X122 hx Bd hS hk (t := (.object "java/lang/String")) Bd.returns rfl (Or.inr (Or.inr (Or.inr (Or.inr ⟨rfl, rfl, rfl⟩)))) (hb hby d1_83) CRz ?_ (by decide) (by decide)
      show (Q_rm_dr Z mo pa pb pc_ pd_ gc h0 n0) (some (.ref b119)) T122.heap _
      exact ⟨_, _, _, rfl, N122, K127, SS122⟩
    · skip
      show own_Fin p.tables e below _ (T65.setTop (mkF m 67 #[.val (.int mo), .val (.int pa), .val (.int pb), .val (.int pc_), .val (.int pd_), .val (.ref b39)] [(.int ((pa &&& (2147483647 : Int32)) % (9 : Int32))), (.ref b39)]))
      rw [hs9]
      refine own_go (fun _ kk_ => XS.iloadN X65.here hx rfl (hb hby d1_67) rfl kk_) ?_
      refine own_go (fun _ kk_ => XS.sipush X65.here hx rfl (hb hby d1_68) kk_) ?_
      show own_Fin p.tables e below _ (T65.setTop (mkF m 71 #[.val (.int mo), .val (.int pa), .val (.int pb), .val (.int pc_), .val (.int pd_), .val (.ref b39)] [(.int (255 : Int32)), (.int pb), (.int (5 : Int32)), (.ref b39)]))
      refine own_go (fun _ kk_ => XS.iand X65.here hx rfl (hb hby d1_71) rfl kk_) ?_
      show own_Fin p.tables e below _ (T65.setTop (mkF m 72 #[.val (.int mo), .val (.int pa), .val (.int pb), .val (.int pc_), .val (.int pd_), .val (.ref b39)] [(.int (pb &&& (255 : Int32))), (.int (5 : Int32)), (.ref b39)]))
      refine own_go (fun _ kk_ => XS.i2c X65.here hx rfl (hb hby d1_72) rfl kk_) ?_
      rw [i2c_mask]
      show own_Fin p.tables e below _ (T65.setTop (mkF m 73 #[.val (.int mo), .val (.int pa), .val (.int pb), .val (.int pc_), .val (.int pd_), .val (.ref b39)] [(.int (pb &&& (255 : Int32))), (.int (5 : Int32)), (.ref b39)]))
      obtain ⟨T128, h128, X128, e128, W128, V128, st128⟩ := own_stC X65 hx hZ e65 V39 (by decide) (i := 5) rfl (Nat.le_of_ble_eq_true rfl) (g := (mkF m 73 #[.val (.int mo), .val (.int pa), .val (.int pb), .val (.int pc_), .val (.int pd_), .val (.ref b39)] [(.int (pb &&& (255 : Int32))), (.int (5 : Int32)), (.ref b39)])) rfl rfl (hb hby d1_73)
      rw [own_nar255] at V128
      replace V39 : Arv Z h128 b39 k39 .char (9 : Int32) [(.int (100 : Int32)), (.int (111 : Int32)), (.int (99 : Int32)), (.int (107 : Int32)), (.int (101 : Int32)), (.int (pb &&& (255 : Int32))), (.int (46 : Int32)), (.int (105 : Int32)), (.int (111 : Int32))] (.int (0 : Int32)) := V128
      have N128 := Fr.snoc X128 N65 g_b39
      refine own_go st128 ?_
      have sa129 := S_b39
      replace S_b39 := Safe.wr W128 sa129 CH S_b39
      replace CR := CR.trans (CHr.wr W128 sa129 CH)
      replace CH := CHv.wr W128 sa129 CH
      replace hk := Nat.le_trans hk (Keep.of_wr W128).1
      replace O0 := O0.wr W128 g_b39
      have K130 := K67.wr W128 (Or.inr sz_b39)
      show own_Fin p.tables e below _ (T128.setTop (mkF m 74 #[.val (.int mo), .val (.int pa), .val (.int pb), .val (.int pc_), .val (.int pd_), .val (.ref b39)] []))
      obtain ⟨T131, h131, X131, e131, E131, A131, D131, -, st131⟩ := newO X128 hx hZ hown (hw _ (List.mem_of_getElem? (i := 6) rfl)) (hw _ (List.mem_of_getElem? (i := 7) rfl)) (hw _ (List.mem_of_getElem? (i := 8) rfl)) e128 (g := (mkF m 74 #[.val (.int mo), .val (.int pa), .val (.int pb), .val (.int pc_), .val (.int pd_), .val (.ref b39)] [])) rfl (hb hby d1_74) (by decide) (by decide)
      obtain ⟨b131, g131⟩ : ∃ z, z = h128.size := ⟨_, rfl⟩
      rw [← g131] at A131 D131 st131
      have sz_b131 : h0.size ≤ b131 := Nat.le_trans K130.1 (Nat.le_of_eq g131.symm)
      have g_b131 : n0 ≤ b131 := Nat.le_trans Z0 sz_b131
      have ne132 : b39 ≠ b131 := Nat.ne_of_lt (Nat.lt_of_lt_of_le V39.lt (Nat.le_of_eq g131.symm))
      have S_b131 := Safe.new (Z := Z) (EL := consts_1) (vm := s.vm) (Nat.le_of_eq g131.symm)
      replace S_b39 := Safe.ext E131 CH S_b39
      replace S_b131 := Safe.ext E131 CH S_b131
      replace CR := CR.trans (CHr.ext E131 CH)
      replace CH := CH.ext E131
      replace hk := Nat.le_trans hk E131.1
      replace O0 := O0.ext E131
      replace V39 := V39.ext E131
      have K133 := K130.ext E131
      have F131_coder : Fld Z h131 b131 "java/lang/String" "coder" "B" (.int (0 : Int32)) := D131 (Or.inr (hw _ (List.mem_of_getElem? (i := 32) rfl))) (ty := .byte) (by decide)
      have F131_value : Fld Z h131 b131 "java/lang/String" "value" "[B" .null := D131 (Or.inr (hw _ (List.mem_of_getElem? (i := 34) rfl))) (ty := (.array .byte)) (by decide)
      refine own_go st131 ?_
      refine own_go (fun _ kk_ => XS.dup X131.here hx rfl (hb hby d1_77) rfl rfl kk_) ?_
      refine own_go (fun _ kk_ => XS.aload X131.here hx rfl (hb hby d1_78) rfl rfl kk_) ?_
      show own_Fin p.tables e below _ (T131.setTop (mkF m 80 #[.val (.int mo), .val (.int pa), .val (.int pb), .val (.int pc_), .val (.int pd_), .val (.ref b39)] [(.ref b39), (.ref b131), (.ref b131)]))
      have hp135 : ∀ c ∈ ([(100 : Int32), (111 : Int32), (99 : Int32), (107 : Int32), (101 : Int32), (pb &&& (255 : Int32)), (46 : Int32), (105 : Int32), (111 : Int32)] : List Int32), ¬ c < 0 ∧ ¬ (255 : Int32) < c := by
        intro c hc
        simp only [List.mem_cons, List.not_mem_nil, or_false] at hc
        rcases hc with rfl | rfl | rfl | rfl | rfl | rfl | rfl | rfl | rfl
        · exact by decide
        · exact by decide
        · exact by decide
        · exact by decide
        · exact by decide
        · exact own_and255 _
        · exact by decide
        · exact by decide
        · exact by decide
      obtain ⟨_, _, ⟨T134, L134, k134, n134⟩, -, X134, ⟨Lc134, hQ134, l134, y134, z134⟩, st134⟩ := X131.specialBack hx (y := (⟨"java/lang/String", "<init>", "([C)V"⟩ : MethodName)) rfl hown (mvT hZ (hw _ (List.mem_of_getElem? (i := 9) rfl))) (mvT hZ (hw _ (List.mem_of_getElem? (i := 10) rfl))) (mvT hZ (hw _ (List.mem_of_getElem? (i := 11) rfl))) (by decide) (StrChars.Road.backV (W := 1) hZ hws (kI := 4) (hw _ (List.mem_of_getElem? (i := 7) rfl)) (cs := ([(100 : Int32), (111 : Int32), (99 : Int32), (107 : Int32), (101 : Int32), (pb &&& (255 : Int32)), (46 : Int32), (105 : Int32), (111 : Int32)] : List Int32)) (bs := (([(100 : Int32), (111 : Int32), (99 : Int32), (107 : Int32), (101 : Int32), (pb &&& (255 : Int32)), (46 : Int32), (105 : Int32), (111 : Int32)] : List Int32)).map (fun c => c.toInt8.toInt32)) (n := 9) g_b131 (Nat.le_trans Z0 K133.1) A131 F131_value F131_coder V39 (S_C.ext O0.2) hcs rfl rfl (by decide) (by decide) hp135 rfl (by decide) (by decide)) (g := (mkF m 80 #[.val (.int mo), .val (.int pa), .val (.int pb), .val (.int pc_), .val (.int pd_), .val (.ref b39)] [(.ref b39), (.ref b131), (.ref b131)])) rfl (by rw [hml]; rfl) (Steps.refl _) (a := b131) (argsL := [(.ref b39)]) (rest := [(.ref b131)]) (lenOf pd_7 rfl) rfl (by show 2 * 0 + _ ≤ _; exact Nat.le_of_eq rfl) (hb hby d1_80) (fun _ _ => ⟨rfl, e131, (by decide : 2 + 1 ≤ _), (by decide : 13 + 9 ≤ _)⟩)
      dsimp only [Pt.U, Pt.locs, Pt.cells, Pt.slots] at X134 l134 y134 z134 st134 hQ134
      subst l134 y134 z134
      obtain ⟨rfl, N134q, KK134, EE134, FC134, t134, kb134, gt134, szt134, netx134, FV134, VV134⟩ := hQ134
      have N134 := Fr.app N128 N134q
      have SS134 : own_Str Z T134.heap b131 t134 ([(100 : Int32), (111 : Int32), (99 : Int32), (107 : Int32), (101 : Int32), (pb &&& (255 : Int32)), (46 : Int32), (105 : Int32), (111 : Int32)] : List Int32) := ⟨_, _, _, _, EE134, FV134, FC134, VV134, StrChars.Road.codOf (n := 9) rfl (fun c hc => (hp135 c hc).2), own_up _ hp135, Nat.le_of_ble_eq_true rfl⟩
      have sz_t134 : h0.size ≤ t134 := Nat.le_trans K133.1 szt134
      have ne136 : b39 ≠ t134 := Nat.ne_of_lt (Nat.lt_of_lt_of_le V39.lt szt134)
      have ne137 : b131 ≠ t134 := Nat.ne_of_lt (Nat.lt_of_lt_of_le A131.lt szt134)
      have S_t134 := Safe.new (Z := Z) (EL := consts_1) (vm := s.vm) szt134
      have hs138 : ∀ x ∈ [b131], Safe Z consts_1 s.vm h131 x := (sfS S_b131 sf0)
      replace S_b39 := Safe.keep KK134 hs138 CH S_b39
      replace S_b131 := Safe.keep KK134 hs138 CH S_b131
      replace S_t134 := Safe.keep KK134 hs138 CH S_t134
      replace CR := CR.trans (CHr.keep KK134 hs138 CH)
      replace CH := CHv.keep KK134 hs138 CH
      replace hk := Nat.le_trans hk KK134.1
      replace O0 := O0.keep KK134 (allS g_b131 (all0))
      replace V39 := V39.keep KK134 (ninS ne132 nin0)
      replace A131 := A131.keep KK134
      have K139 := K133.trans KK134 (allS (Or.inr sz_b131) all0)
      refine own_go (fun _ kk_ => st134.trans kk_) ?_
      show own_Fin p.tables e below _ (T134.setTop (mkF m 83 #[.val (.int mo), .val (.int pa), .val (.int pb), .val (.int pc_), .val (.int pd_), .val (.ref b39)] [(.ref b131)]))
      have CRz : CHr Z consts_1 s.vm s.heap T134.vm T134.heap := by
        rw [hh]
        exact CR.trans (CHv.at X134 hZ hEL CH)
      refine own_retW X134 hx Bd hS hk (t := (.object "java/lang/String")) Bd.returns rfl (Or.inr (Or.inr (Or.inr (Or.inr ⟨rfl, rfl, rfl⟩)))) (hb hby d1_83) CRz ?_ (by decide) (by decide)
      show (Q_rm_dr Z mo pa pb pc_ pd_ gc h0 n0) (some (.ref b131)) T134.heap _
      exact ⟨_, _, _, rfl, N134, K139, SS134⟩
    · skip
      show own_Fin p.tables e below _ (T65.setTop (mkF m 67 #[.val (.int mo), .val (.int pa), .val (.int pb), .val (.int pc_), .val (.int pd_), .val (.ref b39)] [(.int ((pa &&& (2147483647 : Int32)) % (9 : Int32))), (.ref b39)]))
      rw [hs9]
      refine own_go (fun _ kk_ => XS.iloadN X65.here hx rfl (hb hby d1_67) rfl kk_) ?_
      refine own_go (fun _ kk_ => XS.sipush X65.here hx rfl (hb hby d1_68) kk_) ?_
      show own_Fin p.tables e below _ (T65.setTop (mkF m 71 #[.val (.int mo), .val (.int pa), .val (.int pb), .val (.int pc_), .val (.int pd_), .val (.ref b39)] [(.int (255 : Int32)), (.int pb), (.int (6 : Int32)), (.ref b39)]))
      refine own_go (fun _ kk_ => XS.iand X65.here hx rfl (hb hby d1_71) rfl kk_) ?_
      show own_Fin p.tables e below _ (T65.setTop (mkF m 72 #[.val (.int mo), .val (.int pa), .val (.int pb), .val (.int pc_), .val (.int pd_), .val (.ref b39)] [(.int (pb &&& (255 : Int32))), (.int (6 : Int32)), (.ref b39)]))
      refine own_go (fun _ kk_ => XS.i2c X65.here hx rfl (hb hby d1_72) rfl kk_) ?_
      rw [i2c_mask]
      show own_Fin p.tables e below _ (T65.setTop (mkF m 73 #[.val (.int mo), .val (.int pa), .val (.int pb), .val (.int pc_), .val (.int pd_), .val (.ref b39)] [(.int (pb &&& (255 : Int32))), (.int (6 : Int32)), (.ref b39)]))
      obtain ⟨T140, h140, X140, e140, W140, V140, st140⟩ := own_stC X65 hx hZ e65 V39 (by decide) (i := 6) rfl (Nat.le_of_ble_eq_true rfl) (g := (mkF m 73 #[.val (.int mo), .val (.int pa), .val (.int pb), .val (.int pc_), .val (.int pd_), .val (.ref b39)] [(.int (pb &&& (255 : Int32))), (.int (6 : Int32)), (.ref b39)])) rfl rfl (hb hby d1_73)
      rw [own_nar255] at V140
      replace V39 : Arv Z h140 b39 k39 .char (9 : Int32) [(.int (100 : Int32)), (.int (111 : Int32)), (.int (99 : Int32)), (.int (107 : Int32)), (.int (101 : Int32)), (.int (114 : Int32)), (.int (pb &&& (255 : Int32))), (.int (105 : Int32)), (.int (111 : Int32))] (.int (0 : Int32)) := V140
      have N140 := Fr.snoc X140 N65 g_b39
      refine own_go st140 ?_
      have sa141 := S_b39
      replace S_b39 := Safe.wr W140 sa141 CH S_b39
      replace CR := CR.trans (CHr.wr W140 sa141 CH)
      replace CH := CHv.wr W140 sa141 CH
      replace hk := Nat.le_trans hk (Keep.of_wr W140).1
      replace O0 := O0.wr W140 g_b39
      have K142 := K67.wr W140 (Or.inr sz_b39)
      show own_Fin p.tables e below _ (T140.setTop (mkF m 74 #[.val (.int mo), .val (.int pa), .val (.int pb), .val (.int pc_), .val (.int pd_), .val (.ref b39)] []))
      obtain ⟨T143, h143, X143, e143, E143, A143, D143, -, st143⟩ := newO X140 hx hZ hown (hw _ (List.mem_of_getElem? (i := 6) rfl)) (hw _ (List.mem_of_getElem? (i := 7) rfl)) (hw _ (List.mem_of_getElem? (i := 8) rfl)) e140 (g := (mkF m 74 #[.val (.int mo), .val (.int pa), .val (.int pb), .val (.int pc_), .val (.int pd_), .val (.ref b39)] [])) rfl (hb hby d1_74) (by decide) (by decide)
      obtain ⟨b143, g143⟩ : ∃ z, z = h140.size := ⟨_, rfl⟩
      rw [← g143] at A143 D143 st143
      have sz_b143 : h0.size ≤ b143 := Nat.le_trans K142.1 (Nat.le_of_eq g143.symm)
      have g_b143 : n0 ≤ b143 := Nat.le_trans Z0 sz_b143
      have ne144 : b39 ≠ b143 := Nat.ne_of_lt (Nat.lt_of_lt_of_le V39.lt (Nat.le_of_eq g143.symm))
      have S_b143 := Safe.new (Z := Z) (EL := consts_1) (vm := s.vm) (Nat.le_of_eq g143.symm)
      replace S_b39 := Safe.ext E143 CH S_b39
      replace S_b143 := Safe.ext E143 CH S_b143
      replace CR := CR.trans (CHr.ext E143 CH)
      replace CH := CH.ext E143
      replace hk := Nat.le_trans hk E143.1
      replace O0 := O0.ext E143
      replace V39 := V39.ext E143
      have K145 := K142.ext E143
      have F143_coder : Fld Z h143 b143 "java/lang/String" "coder" "B" (.int (0 : Int32)) := D143 (Or.inr (hw _ (List.mem_of_getElem? (i := 32) rfl))) (ty := .byte) (by decide)
      have F143_value : Fld Z h143 b143 "java/lang/String" "value" "[B" .null := D143 (Or.inr (hw _ (List.mem_of_getElem? (i := 34) rfl))) (ty := (.array .byte)) (by decide)
      refine own_go st143 ?_
      refine own_go (fun _ kk_ => XS.dup X143.here hx rfl (hb hby d1_77) rfl rfl kk_) ?_
      refine own_go (fun _ kk_ => XS.aload X143.here hx rfl (hb hby d1_78) rfl rfl kk_) ?_
      show own_Fin p.tables e below _ (T143.setTop (mkF m 80 #[.val (.int mo), .val (.int pa), .val (.int pb), .val (.int pc_), .val (.int pd_), .val (.ref b39)] [(.ref b39), (.ref b143), (.ref b143)]))
      have hp147 : ∀ c ∈ ([(100 : Int32), (111 : Int32), (99 : Int32), (107 : Int32), (101 : Int32), (114 : Int32), (pb &&& (255 : Int32)), (105 : Int32), (111 : Int32)] : List Int32), ¬ c < 0 ∧ ¬ (255 : Int32) < c := by
        intro c hc
        simp only [List.mem_cons, List.not_mem_nil, or_false] at hc
        rcases hc with rfl | rfl | rfl | rfl | rfl | rfl | rfl | rfl | rfl
        · exact by decide
        · exact by decide
        · exact by decide
        · exact by decide
        · exact by decide
        · exact by decide
        · exact own_and255 _
        · exact by decide
        · exact by decide
      obtain ⟨_, _, ⟨T146, L146, k146, n146⟩, -, X146, ⟨Lc146, hQ146, l146, y146, z146⟩, st146⟩ := X143.specialBack hx (y := (⟨"java/lang/String", "<init>", "([C)V"⟩ : MethodName)) rfl hown (mvT hZ (hw _ (List.mem_of_getElem? (i := 9) rfl))) (mvT hZ (hw _ (List.mem_of_getElem? (i := 10) rfl))) (mvT hZ (hw _ (List.mem_of_getElem? (i := 11) rfl))) (by decide) (StrChars.Road.backV (W := 1) hZ hws (kI := 4) (hw _ (List.mem_of_getElem? (i := 7) rfl)) (cs := ([(100 : Int32), (111 : Int32), (99 : Int32), (107 : Int32), (101 : Int32), (114 : Int32), (pb &&& (255 : Int32)), (105 : Int32), (111 : Int32)] : List Int32)) (bs := (([(100 : Int32), (111 : Int32), (99 : Int32), (107 : Int32), (101 : Int32), (114 : Int32), (pb &&& (255 : Int32)), (105 : Int32), (111 : Int32)] : List Int32)).map (fun c => c.toInt8.toInt32)) (n := 9) g_b143 (Nat.le_trans Z0 K145.1) A143 F143_value F143_coder V39 (S_C.ext O0.2) hcs rfl rfl (by decide) (by decide) hp147 rfl (by decide) (by decide)) (g := (mkF m 80 #[.val (.int mo), .val (.int pa), .val (.int pb), .val (.int pc_), .val (.int pd_), .val (.ref b39)] [(.ref b39), (.ref b143), (.ref b143)])) rfl (by rw [hml]; rfl) (Steps.refl _) (a := b143) (argsL := [(.ref b39)]) (rest := [(.ref b143)]) (lenOf pd_7 rfl) rfl (by show 2 * 0 + _ ≤ _; exact Nat.le_of_eq rfl) (hb hby d1_80) (fun _ _ => ⟨rfl, e143, (by decide : 2 + 1 ≤ _), (by decide : 13 + 9 ≤ _)⟩)
      dsimp only [Pt.U, Pt.locs, Pt.cells, Pt.slots] at X146 l146 y146 z146 st146 hQ146
      subst l146 y146 z146
      obtain ⟨rfl, N146q, KK146, EE146, FC146, t146, kb146, gt146, szt146, netx146, FV146, VV146⟩ := hQ146
      have N146 := Fr.app N140 N146q
      have SS146 : own_Str Z T146.heap b143 t146 ([(100 : Int32), (111 : Int32), (99 : Int32), (107 : Int32), (101 : Int32), (114 : Int32), (pb &&& (255 : Int32)), (105 : Int32), (111 : Int32)] : List Int32) := ⟨_, _, _, _, EE146, FV146, FC146, VV146, StrChars.Road.codOf (n := 9) rfl (fun c hc => (hp147 c hc).2), own_up _ hp147, Nat.le_of_ble_eq_true rfl⟩
      have sz_t146 : h0.size ≤ t146 := Nat.le_trans K145.1 szt146
      have ne148 : b39 ≠ t146 := Nat.ne_of_lt (Nat.lt_of_lt_of_le V39.lt szt146)
      have ne149 : b143 ≠ t146 := Nat.ne_of_lt (Nat.lt_of_lt_of_le A143.lt szt146)
      have S_t146 := Safe.new (Z := Z) (EL := consts_1) (vm := s.vm) szt146
      have hs150 : ∀ x ∈ [b143], Safe Z consts_1 s.vm h143 x := (sfS S_b143 sf0)
      replace S_b39 := Safe.keep KK146 hs150 CH S_b39
      replace S_b143 := Safe.keep KK146 hs150 CH S_b143
      replace S_t146 := Safe.keep KK146 hs150 CH S_t146
      replace CR := CR.trans (CHr.keep KK146 hs150 CH)
      replace CH := CHv.keep KK146 hs150 CH
      replace hk := Nat.le_trans hk KK146.1
      replace O0 := O0.keep KK146 (allS g_b143 (all0))
      replace V39 := V39.keep KK146 (ninS ne144 nin0)
      replace A143 := A143.keep KK146
      have K151 := K145.trans KK146 (allS (Or.inr sz_b143) all0)
      refine own_go (fun _ kk_ => st146.trans kk_) ?_
      show own_Fin p.tables e below _ (T146.setTop (mkF m 83 #[.val (.int mo), .val (.int pa), .val (.int pb), .val (.int pc_), .val (.int pd_), .val (.ref b39)] [(.ref b143)]))
      have CRz : CHr Z consts_1 s.vm s.heap T146.vm T146.heap := by
        rw [hh]
        exact CR.trans (CHv.at X146 hZ hEL CH)
      refine own_retW X146 hx Bd hS hk (t := (.object "java/lang/String")) Bd.returns rfl (Or.inr (Or.inr (Or.inr (Or.inr ⟨rfl, rfl, rfl⟩)))) (hb hby d1_83) CRz ?_ (by decide) (by decide)
      show (Q_rm_dr Z mo pa pb pc_ pd_ gc h0 n0) (some (.ref b143)) T146.heap _
      exact ⟨_, _, _, rfl, N146, K151, SS146⟩
    · skip
      show own_Fin p.tables e below _ (T65.setTop (mkF m 67 #[.val (.int mo), .val (.int pa), .val (.int pb), .val (.int pc_), .val (.int pd_), .val (.ref b39)] [(.int ((pa &&& (2147483647 : Int32)) % (9 : Int32))), (.ref b39)]))
      rw [hs9]
      refine own_go (fun _ kk_ => XS.iloadN X65.here hx rfl (hb hby d1_67) rfl kk_) ?_
      refine own_go (fun _ kk_ => XS.sipush X65.here hx rfl (hb hby d1_68) kk_) ?_
      show own_Fin p.tables e below _ (T65.setTop (mkF m 71 #[.val (.int mo), .val (.int pa), .val (.int pb), .val (.int pc_), .val (.int pd_), .val (.ref b39)] [(.int (255 : Int32)), (.int pb), (.int (7 : Int32)), (.ref b39)]))
      refine own_go (fun _ kk_ => XS.iand X65.here hx rfl (hb hby d1_71) rfl kk_) ?_
      show own_Fin p.tables e below _ (T65.setTop (mkF m 72 #[.val (.int mo), .val (.int pa), .val (.int pb), .val (.int pc_), .val (.int pd_), .val (.ref b39)] [(.int (pb &&& (255 : Int32))), (.int (7 : Int32)), (.ref b39)]))
      refine own_go (fun _ kk_ => XS.i2c X65.here hx rfl (hb hby d1_72) rfl kk_) ?_
      rw [i2c_mask]
      show own_Fin p.tables e below _ (T65.setTop (mkF m 73 #[.val (.int mo), .val (.int pa), .val (.int pb), .val (.int pc_), .val (.int pd_), .val (.ref b39)] [(.int (pb &&& (255 : Int32))), (.int (7 : Int32)), (.ref b39)]))
      obtain ⟨T152, h152, X152, e152, W152, V152, st152⟩ := own_stC X65 hx hZ e65 V39 (by decide) (i := 7) rfl (Nat.le_of_ble_eq_true rfl) (g := (mkF m 73 #[.val (.int mo), .val (.int pa), .val (.int pb), .val (.int pc_), .val (.int pd_), .val (.ref b39)] [(.int (pb &&& (255 : Int32))), (.int (7 : Int32)), (.ref b39)])) rfl rfl (hb hby d1_73)
      rw [own_nar255] at V152
      replace V39 : Arv Z h152 b39 k39 .char (9 : Int32) [(.int (100 : Int32)), (.int (111 : Int32)), (.int (99 : Int32)), (.int (107 : Int32)), (.int (101 : Int32)), (.int (114 : Int32)), (.int (46 : Int32)), (.int (pb &&& (255 : Int32))), (.int (111 : Int32))] (.int (0 : Int32)) := V152
      have N152 := Fr.snoc X152 N65 g_b39
      refine own_go st152 ?_
      have sa153 := S_b39
      replace S_b39 := Safe.wr W152 sa153 CH S_b39
      replace CR := CR.trans (CHr.wr W152 sa153 CH)
      replace CH := CHv.wr W152 sa153 CH
      replace hk := Nat.le_trans hk (Keep.of_wr W152).1
      replace O0 := O0.wr W152 g_b39
      have K154 := K67.wr W152 (Or.inr sz_b39)
      show own_Fin p.tables e below _ (T152.setTop (mkF m 74 #[.val (.int mo), .val (.int pa), .val (.int pb), .val (.int pc_), .val (.int pd_), .val (.ref b39)] []))
      obtain ⟨T155, h155, X155, e155, E155, A155, D155, -, st155⟩ := newO X152 hx hZ hown (hw _ (List.mem_of_getElem? (i := 6) rfl)) (hw _ (List.mem_of_getElem? (i := 7) rfl)) (hw _ (List.mem_of_getElem? (i := 8) rfl)) e152 (g := (mkF m 74 #[.val (.int mo), .val (.int pa), .val (.int pb), .val (.int pc_), .val (.int pd_), .val (.ref b39)] [])) rfl (hb hby d1_74) (by decide) (by decide)
      obtain ⟨b155, g155⟩ : ∃ z, z = h152.size := ⟨_, rfl⟩
      rw [← g155] at A155 D155 st155
      have sz_b155 : h0.size ≤ b155 := Nat.le_trans K154.1 (Nat.le_of_eq g155.symm)
      have g_b155 : n0 ≤ b155 := Nat.le_trans Z0 sz_b155
      have ne156 : b39 ≠ b155 := Nat.ne_of_lt (Nat.lt_of_lt_of_le V39.lt (Nat.le_of_eq g155.symm))
      have S_b155 := Safe.new (Z := Z) (EL := consts_1) (vm := s.vm) (Nat.le_of_eq g155.symm)
      replace S_b39 := Safe.ext E155 CH S_b39
      replace S_b155 := Safe.ext E155 CH S_b155
      replace CR := CR.trans (CHr.ext E155 CH)
      replace CH := CH.ext E155
      replace hk := Nat.le_trans hk E155.1
      replace O0 := O0.ext E155
      replace V39 := V39.ext E155
      have K157 := K154.ext E155
      have F155_coder : Fld Z h155 b155 "java/lang/String" "coder" "B" (.int (0 : Int32)) := D155 (Or.inr (hw _ (List.mem_of_getElem? (i := 32) rfl))) (ty := .byte) (by decide)
      have F155_value : Fld Z h155 b155 "java/lang/String" "value" "[B" .null := D155 (Or.inr (hw _ (List.mem_of_getElem? (i := 34) rfl))) (ty := (.array .byte)) (by decide)
      refine own_go st155 ?_
      refine own_go (fun _ kk_ => XS.dup X155.here hx rfl (hb hby d1_77) rfl rfl kk_) ?_
      refine own_go (fun _ kk_ => XS.aload X155.here hx rfl (hb hby d1_78) rfl rfl kk_) ?_
      show own_Fin p.tables e below _ (T155.setTop (mkF m 80 #[.val (.int mo), .val (.int pa), .val (.int pb), .val (.int pc_), .val (.int pd_), .val (.ref b39)] [(.ref b39), (.ref b155), (.ref b155)]))
      have hp159 : ∀ c ∈ ([(100 : Int32), (111 : Int32), (99 : Int32), (107 : Int32), (101 : Int32), (114 : Int32), (46 : Int32), (pb &&& (255 : Int32)), (111 : Int32)] : List Int32), ¬ c < 0 ∧ ¬ (255 : Int32) < c := by
        intro c hc
        simp only [List.mem_cons, List.not_mem_nil, or_false] at hc
        rcases hc with rfl | rfl | rfl | rfl | rfl | rfl | rfl | rfl | rfl
        · exact by decide
        · exact by decide
        · exact by decide
        · exact by decide
        · exact by decide
        · exact by decide
        · exact by decide
        · exact own_and255 _
        · exact by decide
      obtain ⟨_, _, ⟨T158, L158, k158, n158⟩, -, X158, ⟨Lc158, hQ158, l158, y158, z158⟩, st158⟩ := X155.specialBack hx (y := (⟨"java/lang/String", "<init>", "([C)V"⟩ : MethodName)) rfl hown (mvT hZ (hw _ (List.mem_of_getElem? (i := 9) rfl))) (mvT hZ (hw _ (List.mem_of_getElem? (i := 10) rfl))) (mvT hZ (hw _ (List.mem_of_getElem? (i := 11) rfl))) (by decide) (StrChars.Road.backV (W := 1) hZ hws (kI := 4) (hw _ (List.mem_of_getElem? (i := 7) rfl)) (cs := ([(100 : Int32), (111 : Int32), (99 : Int32), (107 : Int32), (101 : Int32), (114 : Int32), (46 : Int32), (pb &&& (255 : Int32)), (111 : Int32)] : List Int32)) (bs := (([(100 : Int32), (111 : Int32), (99 : Int32), (107 : Int32), (101 : Int32), (114 : Int32), (46 : Int32), (pb &&& (255 : Int32)), (111 : Int32)] : List Int32)).map (fun c => c.toInt8.toInt32)) (n := 9) g_b155 (Nat.le_trans Z0 K157.1) A155 F155_value F155_coder V39 (S_C.ext O0.2) hcs rfl rfl (by decide) (by decide) hp159 rfl (by decide) (by decide)) (g := (mkF m 80 #[.val (.int mo), .val (.int pa), .val (.int pb), .val (.int pc_), .val (.int pd_), .val (.ref b39)] [(.ref b39), (.ref b155), (.ref b155)])) rfl (by rw [hml]; rfl) (Steps.refl _) (a := b155) (argsL := [(.ref b39)]) (rest := [(.ref b155)]) (lenOf pd_7 rfl) rfl (by show 2 * 0 + _ ≤ _; exact Nat.le_of_eq rfl) (hb hby d1_80) (fun _ _ => ⟨rfl, e155, (by decide : 2 + 1 ≤ _), (by decide : 13 + 9 ≤ _)⟩)
      dsimp only [Pt.U, Pt.locs, Pt.cells, Pt.slots] at X158 l158 y158 z158 st158 hQ158
      subst l158 y158 z158
      obtain ⟨rfl, N158q, KK158, EE158, FC158, t158, kb158, gt158, szt158, netx158, FV158, VV158⟩ := hQ158
      have N158 := Fr.app N152 N158q
      have SS158 : own_Str Z T158.heap b155 t158 ([(100 : Int32), (111 : Int32), (99 : Int32), (107 : Int32), (101 : Int32), (114 : Int32), (46 : Int32), (pb &&& (255 : Int32)), (111 : Int32)] : List Int32) := ⟨_, _, _, _, EE158, FV158, FC158, VV158, StrChars.Road.codOf (n := 9) rfl (fun c hc => (hp159 c hc).2), own_up _ hp159, Nat.le_of_ble_eq_true rfl⟩
      have sz_t158 : h0.size ≤ t158 := Nat.le_trans K157.1 szt158
      have ne160 : b39 ≠ t158 := Nat.ne_of_lt (Nat.lt_of_lt_of_le V39.lt szt158)
      have ne161 : b155 ≠ t158 := Nat.ne_of_lt (Nat.lt_of_lt_of_le A155.lt szt158)
      have S_t158 := Safe.new (Z := Z) (EL := consts_1) (vm := s.vm) szt158
      have hs162 : ∀ x ∈ [b155], Safe Z consts_1 s.vm h155 x := (sfS S_b155 sf0)
      replace S_b39 := Safe.keep KK158 hs162 CH S_b39
      replace S_b155 := Safe.keep KK158 hs162 CH S_b155
      replace S_t158 := Safe.keep KK158 hs162 CH S_t158
      replace CR := CR.trans (CHr.keep KK158 hs162 CH)
      replace CH := CHv.keep KK158 hs162 CH
      replace hk := Nat.le_trans hk KK158.1
      replace O0 := O0.keep KK158 (allS g_b155 (all0))
      replace V39 := V39.keep KK158 (ninS ne156 nin0)
      replace A155 := A155.keep KK158
      have K163 := K157.trans KK158 (allS (Or.inr sz_b155) all0)
      refine own_go (fun _ kk_ => st158.trans kk_) ?_
      show own_Fin p.tables e below _ (T158.setTop (mkF m 83 #[.val (.int mo), .val (.int pa), .val (.int pb), .val (.int pc_), .val (.int pd_), .val (.ref b39)] [(.ref b155)]))
      have CRz : CHr Z consts_1 s.vm s.heap T158.vm T158.heap := by
        rw [hh]
        exact CR.trans (CHv.at X158 hZ hEL CH)
      refine own_retW X158 hx Bd hS hk (t := (.object "java/lang/String")) Bd.returns rfl (Or.inr (Or.inr (Or.inr (Or.inr ⟨rfl, rfl, rfl⟩)))) (hb hby d1_83) CRz ?_ (by decide) (by decide)
      show (Q_rm_dr Z mo pa pb pc_ pd_ gc h0 n0) (some (.ref b155)) T158.heap _
      exact ⟨_, _, _, rfl, N158, K163, SS158⟩
    · skip
      show own_Fin p.tables e below _ (T65.setTop (mkF m 67 #[.val (.int mo), .val (.int pa), .val (.int pb), .val (.int pc_), .val (.int pd_), .val (.ref b39)] [(.int ((pa &&& (2147483647 : Int32)) % (9 : Int32))), (.ref b39)]))
      rw [hs9]
      refine own_go (fun _ kk_ => XS.iloadN X65.here hx rfl (hb hby d1_67) rfl kk_) ?_
      refine own_go (fun _ kk_ => XS.sipush X65.here hx rfl (hb hby d1_68) kk_) ?_
      show own_Fin p.tables e below _ (T65.setTop (mkF m 71 #[.val (.int mo), .val (.int pa), .val (.int pb), .val (.int pc_), .val (.int pd_), .val (.ref b39)] [(.int (255 : Int32)), (.int pb), (.int (8 : Int32)), (.ref b39)]))
      refine own_go (fun _ kk_ => XS.iand X65.here hx rfl (hb hby d1_71) rfl kk_) ?_
      show own_Fin p.tables e below _ (T65.setTop (mkF m 72 #[.val (.int mo), .val (.int pa), .val (.int pb), .val (.int pc_), .val (.int pd_), .val (.ref b39)] [(.int (pb &&& (255 : Int32))), (.int (8 : Int32)), (.ref b39)]))
      refine own_go (fun _ kk_ => XS.i2c X65.here hx rfl (hb hby d1_72) rfl kk_) ?_
      rw [i2c_mask]
      show own_Fin p.tables e below _ (T65.setTop (mkF m 73 #[.val (.int mo), .val (.int pa), .val (.int pb), .val (.int pc_), .val (.int pd_), .val (.ref b39)] [(.int (pb &&& (255 : Int32))), (.int (8 : Int32)), (.ref b39)]))
      obtain ⟨T164, h164, X164, e164, W164, V164, st164⟩ := own_stC X65 hx hZ e65 V39 (by decide) (i := 8) rfl (Nat.le_of_ble_eq_true rfl) (g := (mkF m 73 #[.val (.int mo), .val (.int pa), .val (.int pb), .val (.int pc_), .val (.int pd_), .val (.ref b39)] [(.int (pb &&& (255 : Int32))), (.int (8 : Int32)), (.ref b39)])) rfl rfl (hb hby d1_73)
      rw [own_nar255] at V164
      replace V39 : Arv Z h164 b39 k39 .char (9 : Int32) [(.int (100 : Int32)), (.int (111 : Int32)), (.int (99 : Int32)), (.int (107 : Int32)), (.int (101 : Int32)), (.int (114 : Int32)), (.int (46 : Int32)), (.int (105 : Int32)), (.int (pb &&& (255 : Int32)))] (.int (0 : Int32)) := V164
      have N164 := Fr.snoc X164 N65 g_b39
      refine own_go st164 ?_
      have sa165 := S_b39
      replace S_b39 := Safe.wr W164 sa165 CH S_b39
      replace CR := CR.trans (CHr.wr W164 sa165 CH)
      replace CH := CHv.wr W164 sa165 CH
      replace hk := Nat.le_trans hk (Keep.of_wr W164).1
      replace O0 := O0.wr W164 g_b39
      have K166 := K67.wr W164 (Or.inr sz_b39)
      show own_Fin p.tables e below _ (T164.setTop (mkF m 74 #[.val (.int mo), .val (.int pa), .val (.int pb), .val (.int pc_), .val (.int pd_), .val (.ref b39)] []))
      obtain ⟨T167, h167, X167, e167, E167, A167, D167, -, st167⟩ := newO X164 hx hZ hown (hw _ (List.mem_of_getElem? (i := 6) rfl)) (hw _ (List.mem_of_getElem? (i := 7) rfl)) (hw _ (List.mem_of_getElem? (i := 8) rfl)) e164 (g := (mkF m 74 #[.val (.int mo), .val (.int pa), .val (.int pb), .val (.int pc_), .val (.int pd_), .val (.ref b39)] [])) rfl (hb hby d1_74) (by decide) (by decide)
      obtain ⟨b167, g167⟩ : ∃ z, z = h164.size := ⟨_, rfl⟩
      rw [← g167] at A167 D167 st167
      have sz_b167 : h0.size ≤ b167 := Nat.le_trans K166.1 (Nat.le_of_eq g167.symm)
      have g_b167 : n0 ≤ b167 := Nat.le_trans Z0 sz_b167
      have ne168 : b39 ≠ b167 := Nat.ne_of_lt (Nat.lt_of_lt_of_le V39.lt (Nat.le_of_eq g167.symm))
      have S_b167 := Safe.new (Z := Z) (EL := consts_1) (vm := s.vm) (Nat.le_of_eq g167.symm)
      replace S_b39 := Safe.ext E167 CH S_b39
      replace S_b167 := Safe.ext E167 CH S_b167
      replace CR := CR.trans (CHr.ext E167 CH)
      replace CH := CH.ext E167
      replace hk := Nat.le_trans hk E167.1
      replace O0 := O0.ext E167
      replace V39 := V39.ext E167
      have K169 := K166.ext E167
      have F167_coder : Fld Z h167 b167 "java/lang/String" "coder" "B" (.int (0 : Int32)) := D167 (Or.inr (hw _ (List.mem_of_getElem? (i := 32) rfl))) (ty := .byte) (by decide)
      have F167_value : Fld Z h167 b167 "java/lang/String" "value" "[B" .null := D167 (Or.inr (hw _ (List.mem_of_getElem? (i := 34) rfl))) (ty := (.array .byte)) (by decide)
      refine own_go st167 ?_
      refine own_go (fun _ kk_ => XS.dup X167.here hx rfl (hb hby d1_77) rfl rfl kk_) ?_
      refine own_go (fun _ kk_ => XS.aload X167.here hx rfl (hb hby d1_78) rfl rfl kk_) ?_
      show own_Fin p.tables e below _ (T167.setTop (mkF m 80 #[.val (.int mo), .val (.int pa), .val (.int pb), .val (.int pc_), .val (.int pd_), .val (.ref b39)] [(.ref b39), (.ref b167), (.ref b167)]))
      have hp171 : ∀ c ∈ ([(100 : Int32), (111 : Int32), (99 : Int32), (107 : Int32), (101 : Int32), (114 : Int32), (46 : Int32), (105 : Int32), (pb &&& (255 : Int32))] : List Int32), ¬ c < 0 ∧ ¬ (255 : Int32) < c := by
        intro c hc
        simp only [List.mem_cons, List.not_mem_nil, or_false] at hc
        rcases hc with rfl | rfl | rfl | rfl | rfl | rfl | rfl | rfl | rfl
        · exact by decide
        · exact by decide
        · exact by decide
        · exact by decide
        · exact by decide
        · exact by decide
        · exact by decide
        · exact by decide
        · exact own_and255 _
      obtain ⟨_, _, ⟨T170, L170, k170, n170⟩, -, X170, ⟨Lc170, hQ170, l170, y170, z170⟩, st170⟩ := X167.specialBack hx (y := (⟨"java/lang/String", "<init>", "([C)V"⟩ : MethodName)) rfl hown (mvT hZ (hw _ (List.mem_of_getElem? (i := 9) rfl))) (mvT hZ (hw _ (List.mem_of_getElem? (i := 10) rfl))) (mvT hZ (hw _ (List.mem_of_getElem? (i := 11) rfl))) (by decide) (StrChars.Road.backV (W := 1) hZ hws (kI := 4) (hw _ (List.mem_of_getElem? (i := 7) rfl)) (cs := ([(100 : Int32), (111 : Int32), (99 : Int32), (107 : Int32), (101 : Int32), (114 : Int32), (46 : Int32), (105 : Int32), (pb &&& (255 : Int32))] : List Int32)) (bs := (([(100 : Int32), (111 : Int32), (99 : Int32), (107 : Int32), (101 : Int32), (114 : Int32), (46 : Int32), (105 : Int32), (pb &&& (255 : Int32))] : List Int32)).map (fun c => c.toInt8.toInt32)) (n := 9) g_b167 (Nat.le_trans Z0 K169.1) A167 F167_value F167_coder V39 (S_C.ext O0.2) hcs rfl rfl (by decide) (by decide) hp171 rfl (by decide) (by decide)) (g := (mkF m 80 #[.val (.int mo), .val (.int pa), .val (.int pb), .val (.int pc_), .val (.int pd_), .val (.ref b39)] [(.ref b39), (.ref b167), (.ref b167)])) rfl (by rw [hml]; rfl) (Steps.refl _) (a := b167) (argsL := [(.ref b39)]) (rest := [(.ref b167)]) (lenOf pd_7 rfl) rfl (by show 2 * 0 + _ ≤ _; exact Nat.le_of_eq rfl) (hb hby d1_80) (fun _ _ => ⟨rfl, e167, (by decide : 2 + 1 ≤ _), (by decide : 13 + 9 ≤ _)⟩)
      dsimp only [Pt.U, Pt.locs, Pt.cells, Pt.slots] at X170 l170 y170 z170 st170 hQ170
      subst l170 y170 z170
      obtain ⟨rfl, N170q, KK170, EE170, FC170, t170, kb170, gt170, szt170, netx170, FV170, VV170⟩ := hQ170
      have N170 := Fr.app N164 N170q
      have SS170 : own_Str Z T170.heap b167 t170 ([(100 : Int32), (111 : Int32), (99 : Int32), (107 : Int32), (101 : Int32), (114 : Int32), (46 : Int32), (105 : Int32), (pb &&& (255 : Int32))] : List Int32) := ⟨_, _, _, _, EE170, FV170, FC170, VV170, StrChars.Road.codOf (n := 9) rfl (fun c hc => (hp171 c hc).2), own_up _ hp171, Nat.le_of_ble_eq_true rfl⟩
      have sz_t170 : h0.size ≤ t170 := Nat.le_trans K169.1 szt170
      have ne172 : b39 ≠ t170 := Nat.ne_of_lt (Nat.lt_of_lt_of_le V39.lt szt170)
      have ne173 : b167 ≠ t170 := Nat.ne_of_lt (Nat.lt_of_lt_of_le A167.lt szt170)
      have S_t170 := Safe.new (Z := Z) (EL := consts_1) (vm := s.vm) szt170
      have hs174 : ∀ x ∈ [b167], Safe Z consts_1 s.vm h167 x := (sfS S_b167 sf0)
      replace S_b39 := Safe.keep KK170 hs174 CH S_b39
      replace S_b167 := Safe.keep KK170 hs174 CH S_b167
      replace S_t170 := Safe.keep KK170 hs174 CH S_t170
      replace CR := CR.trans (CHr.keep KK170 hs174 CH)
      replace CH := CHv.keep KK170 hs174 CH
      replace hk := Nat.le_trans hk KK170.1
      replace O0 := O0.keep KK170 (allS g_b167 (all0))
      replace V39 := V39.keep KK170 (ninS ne168 nin0)
      replace A167 := A167.keep KK170
      have K175 := K169.trans KK170 (allS (Or.inr sz_b167) all0)
      refine own_go (fun _ kk_ => st170.trans kk_) ?_
      show own_Fin p.tables e below _ (T170.setTop (mkF m 83 #[.val (.int mo), .val (.int pa), .val (.int pb), .val (.int pc_), .val (.int pd_), .val (.ref b39)] [(.ref b167)]))
      have CRz : CHr Z consts_1 s.vm s.heap T170.vm T170.heap := by
        rw [hh]
        exact CR.trans (CHv.at X170 hZ hEL CH)
      refine own_retW X170 hx Bd hS hk (t := (.object "java/lang/String")) Bd.returns rfl (Or.inr (Or.inr (Or.inr (Or.inr ⟨rfl, rfl, rfl⟩)))) (hb hby d1_83) CRz ?_ (by decide) (by decide)
      show (Q_rm_dr Z mo pa pb pc_ pd_ gc h0 n0) (some (.ref b167)) T170.heap _
      exact ⟨_, _, _, rfl, N170, K175, SS170⟩
  · skip
    refine own_go (fun _ kk_ => XS.ifYes X0.here hx rfl (pc0 := 1) (pc' := 84) rfl (hb hby d1_1) rfl ((if0 _ _).trans (feq hc38).2) (by decide) (by decide) kk_) ?_
    refine own_go (fun _ kk_ => XS.iloadN X0.here hx rfl (hb hby d1_84) rfl kk_) ?_
    refine own_go (fun _ kk_ => XS.iconst X0.here hx rfl (hb hby d1_85) kk_) ?_
    show own_Fin p.tables e below _ (s₁.setTop (mkF m 86 #[.val (.int mo), .val (.int pa), .val (.int pb), .val (.int pc_), .val (.int pd_), .unset] [(.int (1 : Int32)), (.int mo)]))
    by_cases hc176 : mo = (1 : Int32)
    · skip
      refine own_go (fun _ kk_ => XS.icmpNo X0.here hx rfl (hb hby d1_86) rfl (teq hc176).2 kk_) ?_
      show own_Fin p.tables e below _ (s₁.setTop (mkF m 89 #[.val (.int mo), .val (.int pa), .val (.int pb), .val (.int pc_), .val (.int pd_), .unset] []))
      obtain ⟨a177, T177, h177, k177, tb177, kb177, X177, e177, E177, hS, hk, hZ, hown, EA177, FC177, FV177, VB177, -, -, CR177, -, NE177, st177⟩ := ldcCH X0 hx hZ hown (hw _ (List.mem_of_getElem? (i := 69) rfl)) wS e0 hS hk hEL (by decide) CH (vs := ((([(105 : Int32), (110 : Int32), (100 : Int32), (101 : Int32), (120 : Int32), (46 : Int32), (100 : Int32), (111 : Int32), (99 : Int32), (107 : Int32), (101 : Int32), (114 : Int32), (46 : Int32), (105 : Int32), (111 : Int32)] : List Int32).map (fun c => c.toInt8.toInt32)).map Value.int)) (z := (15 : Int32)) (by exact ⟨by decide, by decide⟩) (by decide) rfl (g := (mkF m 89 #[.val (.int mo), .val (.int pa), .val (.int pb), .val (.int pc_), .val (.int pd_), .unset] [])) rfl (hb hby d1_89) (n := 60) (by decide) (by decide) (by decide) (by decide)
      replace CR := CR.trans CR177
      replace CH := CR177.1
      replace O0 := O0.ext E177
      have K178 := K0.ext E177
      have SS177 : own_Str Z h177 a177 tb177 ([(105 : Int32), (110 : Int32), (100 : Int32), (101 : Int32), (120 : Int32), (46 : Int32), (100 : Int32), (111 : Int32), (99 : Int32), (107 : Int32), (101 : Int32), (114 : Int32), (46 : Int32), (105 : Int32), (111 : Int32)] : List Int32) := ⟨_, _, _, _, EA177, FV177, FC177, VB177, StrChars.Road.codOf (n := 15) rfl (by decide), by decide, Nat.le_of_ble_eq_true rfl⟩
      refine own_go st177 ?_
      show own_Fin p.tables e below _ (T177.setTop (mkF m 91 #[.val (.int mo), .val (.int pa), .val (.int pb), .val (.int pc_), .val (.int pd_), .unset] [(.ref a177)]))
      have CRz : CHr Z consts_1 s.vm s.heap T177.vm T177.heap := by
        rw [hh, e177]
        exact CR.trans (CHv.at X177 hZ hEL CH)
      refine own_retW X177 hx Bd hS (show _ ≤ T177.heap.size by rw [e177]; exact hk) (t := (.object "java/lang/String")) Bd.returns rfl (Or.inr (Or.inr (Or.inr (Or.inr ⟨rfl, rfl, rfl⟩)))) (hb hby d1_91) CRz ?_ (by decide) (by decide)
      show (Q_rm_dr Z mo pa pb pc_ pd_ gc h0 n0) (some (.ref a177)) T177.heap _
      rw [e177]
      exact ⟨_, _, _, rfl, N0, K178, SS177⟩
    · skip
      refine own_go (fun _ kk_ => XS.icmpYes X0.here hx rfl (pc0 := 86) (pc' := 92) rfl (hb hby d1_86) rfl (feq hc176).2 (by decide) (by decide) kk_) ?_
      refine own_go (fun _ kk_ => XS.iloadN X0.here hx rfl (hb hby d1_92) rfl kk_) ?_
      refine own_go (fun _ kk_ => XS.iconst X0.here hx rfl (hb hby d1_93) kk_) ?_
      show own_Fin p.tables e below _ (s₁.setTop (mkF m 94 #[.val (.int mo), .val (.int pa), .val (.int pb), .val (.int pc_), .val (.int pd_), .unset] [(.int (2 : Int32)), (.int mo)]))
      by_cases hc179 : mo = (2 : Int32)
      · skip
        refine own_go (fun _ kk_ => XS.icmpNo X0.here hx rfl (hb hby d1_94) rfl (teq hc179).2 kk_) ?_
        show own_Fin p.tables e below _ (s₁.setTop (mkF m 97 #[.val (.int mo), .val (.int pa), .val (.int pb), .val (.int pc_), .val (.int pd_), .unset] []))
        obtain ⟨a180, T180, h180, k180, tb180, kb180, X180, e180, E180, hS, hk, hZ, hown, EA180, FC180, FV180, VB180, -, -, CR180, -, NE180, st180⟩ := ldcCH X0 hx hZ hown (hw _ (List.mem_of_getElem? (i := 55) rfl)) wS e0 hS hk hEL (by decide) CH (vs := ((([(114 : Int32), (101 : Int32), (103 : Int32), (105 : Int32), (115 : Int32), (116 : Int32), (114 : Int32), (121 : Int32), (45 : Int32), (49 : Int32), (46 : Int32), (100 : Int32), (111 : Int32), (99 : Int32), (107 : Int32), (101 : Int32), (114 : Int32), (46 : Int32), (105 : Int32), (111 : Int32)] : List Int32).map (fun c => c.toInt8.toInt32)).map Value.int)) (z := (20 : Int32)) (by exact ⟨by decide, by decide⟩) (by decide) rfl (g := (mkF m 97 #[.val (.int mo), .val (.int pa), .val (.int pb), .val (.int pc_), .val (.int pd_), .unset] [])) rfl (hb hby d1_97) (n := 80) (by decide) (by decide) (by decide) (by decide)
        replace CR := CR.trans CR180
        replace CH := CR180.1
        replace O0 := O0.ext E180
        have K181 := K0.ext E180
        have SS180 : own_Str Z h180 a180 tb180 ([(114 : Int32), (101 : Int32), (103 : Int32), (105 : Int32), (115 : Int32), (116 : Int32), (114 : Int32), (121 : Int32), (45 : Int32), (49 : Int32), (46 : Int32), (100 : Int32), (111 : Int32), (99 : Int32), (107 : Int32), (101 : Int32), (114 : Int32), (46 : Int32), (105 : Int32), (111 : Int32)] : List Int32) := ⟨_, _, _, _, EA180, FV180, FC180, VB180, StrChars.Road.codOf (n := 20) rfl (by decide), by decide, Nat.le_of_ble_eq_true rfl⟩
        refine own_go st180 ?_
        show own_Fin p.tables e below _ (T180.setTop (mkF m 99 #[.val (.int mo), .val (.int pa), .val (.int pb), .val (.int pc_), .val (.int pd_), .unset] [(.ref a180)]))
        have CRz : CHr Z consts_1 s.vm s.heap T180.vm T180.heap := by
          rw [hh, e180]
          exact CR.trans (CHv.at X180 hZ hEL CH)
        refine own_retW X180 hx Bd hS (show _ ≤ T180.heap.size by rw [e180]; exact hk) (t := (.object "java/lang/String")) Bd.returns rfl (Or.inr (Or.inr (Or.inr (Or.inr ⟨rfl, rfl, rfl⟩)))) (hb hby d1_99) CRz ?_ (by decide) (by decide)
        show (Q_rm_dr Z mo pa pb pc_ pd_ gc h0 n0) (some (.ref a180)) T180.heap _
        rw [e180]
        exact ⟨_, _, _, rfl, N0, K181, SS180⟩
      · skip
        refine own_go (fun _ kk_ => XS.icmpYes X0.here hx rfl (pc0 := 94) (pc' := 100) rfl (hb hby d1_94) rfl (feq hc179).2 (by decide) (by decide) kk_) ?_
        refine own_go (fun _ kk_ => XS.iloadN X0.here hx rfl (hb hby d1_100) rfl kk_) ?_
        refine own_go (fun _ kk_ => XS.iconst X0.here hx rfl (hb hby d1_101) kk_) ?_
        show own_Fin p.tables e below _ (s₁.setTop (mkF m 102 #[.val (.int mo), .val (.int pa), .val (.int pb), .val (.int pc_), .val (.int pd_), .unset] [(.int (3 : Int32)), (.int mo)]))
        by_cases hc182 : mo = (3 : Int32)
        · skip
          refine own_go (fun _ kk_ => XS.icmpNo X0.here hx rfl (hb hby d1_102) rfl (teq hc182).2 kk_) ?_
          show own_Fin p.tables e below _ (s₁.setTop (mkF m 105 #[.val (.int mo), .val (.int pa), .val (.int pb), .val (.int pc_), .val (.int pd_), .unset] []))
          obtain ⟨a183, T183, h183, k183, tb183, kb183, X183, e183, E183, hS, hk, hZ, hown, EA183, FC183, FV183, VB183, -, -, CR183, -, NE183, st183⟩ := ldcCH X0 hx hZ hown (hw _ (List.mem_of_getElem? (i := 52) rfl)) wS e0 hS hk hEL (by decide) CH (vs := ((([(100 : Int32), (111 : Int32), (99 : Int32), (107 : Int32), (101 : Int32), (114 : Int32), (46 : Int32), (105 : Int32), (111 : Int32)] : List Int32).map (fun c => c.toInt8.toInt32)).map Value.int)) (z := (9 : Int32)) (by exact ⟨by decide, by decide⟩) (by decide) rfl (g := (mkF m 105 #[.val (.int mo), .val (.int pa), .val (.int pb), .val (.int pc_), .val (.int pd_), .unset] [])) rfl (hb hby d1_105) (n := 36) (by decide) (by decide) (by decide) (by decide)
          replace CR := CR.trans CR183
          replace CH := CR183.1
          replace O0 := O0.ext E183
          have K184 := K0.ext E183
          have SS183 : own_Str Z h183 a183 tb183 ([(100 : Int32), (111 : Int32), (99 : Int32), (107 : Int32), (101 : Int32), (114 : Int32), (46 : Int32), (105 : Int32), (111 : Int32)] : List Int32) := ⟨_, _, _, _, EA183, FV183, FC183, VB183, StrChars.Road.codOf (n := 9) rfl (by decide), by decide, Nat.le_of_ble_eq_true rfl⟩
          refine own_go st183 ?_
          show own_Fin p.tables e below _ (T183.setTop (mkF m 107 #[.val (.int mo), .val (.int pa), .val (.int pb), .val (.int pc_), .val (.int pd_), .unset] [(.ref a183)]))
          have CRz : CHr Z consts_1 s.vm s.heap T183.vm T183.heap := by
            rw [hh, e183]
            exact CR.trans (CHv.at X183 hZ hEL CH)
          refine own_retW X183 hx Bd hS (show _ ≤ T183.heap.size by rw [e183]; exact hk) (t := (.object "java/lang/String")) Bd.returns rfl (Or.inr (Or.inr (Or.inr (Or.inr ⟨rfl, rfl, rfl⟩)))) (hb hby d1_107) CRz ?_ (by decide) (by decide)
          show (Q_rm_dr Z mo pa pb pc_ pd_ gc h0 n0) (some (.ref a183)) T183.heap _
          rw [e183]
          exact ⟨_, _, _, rfl, N0, K184, SS183⟩
        · skip
          refine own_go (fun _ kk_ => XS.icmpYes X0.here hx rfl (pc0 := 102) (pc' := 108) rfl (hb hby d1_102) rfl (feq hc182).2 (by decide) (by decide) kk_) ?_
          refine own_go (fun _ kk_ => XS.iloadN X0.here hx rfl (hb hby d1_108) rfl kk_) ?_
          refine own_go (fun _ kk_ => XS.iconst X0.here hx rfl (hb hby d1_109) kk_) ?_
          show own_Fin p.tables e below _ (s₁.setTop (mkF m 110 #[.val (.int mo), .val (.int pa), .val (.int pb), .val (.int pc_), .val (.int pd_), .unset] [(.int (4 : Int32)), (.int mo)]))
          by_cases hc185 : mo = (4 : Int32)
          · skip
            refine own_go (fun _ kk_ => XS.icmpNo X0.here hx rfl (hb hby d1_110) rfl (teq hc185).2 kk_) ?_
            show own_Fin p.tables e below _ (s₁.setTop (mkF m 113 #[.val (.int mo), .val (.int pa), .val (.int pb), .val (.int pc_), .val (.int pd_), .unset] []))
            obtain ⟨T186, h186, X186, e186, E186, A186, D186, -, st186⟩ := newO X0 hx hZ hown (hw _ (List.mem_of_getElem? (i := 6) rfl)) (hw _ (List.mem_of_getElem? (i := 7) rfl)) (hw _ (List.mem_of_getElem? (i := 8) rfl)) e0 (g := (mkF m 113 #[.val (.int mo), .val (.int pa), .val (.int pb), .val (.int pc_), .val (.int pd_), .unset] [])) rfl (hb hby d1_113) (by decide) (by decide)
            obtain ⟨b186, g186⟩ : ∃ z, z = h0.size := ⟨_, rfl⟩
            rw [← g186] at A186 D186 st186
            have sz_b186 : h0.size ≤ b186 := Nat.le_trans K0.1 (Nat.le_of_eq g186.symm)
            have g_b186 : n0 ≤ b186 := Nat.le_trans Z0 sz_b186
            have S_b186 := Safe.new (Z := Z) (EL := consts_1) (vm := s.vm) (Nat.le_of_eq g186.symm)
            replace S_b186 := Safe.ext E186 CH S_b186
            replace CR := CR.trans (CHr.ext E186 CH)
            replace CH := CH.ext E186
            replace hk := Nat.le_trans hk E186.1
            replace O0 := O0.ext E186
            have K187 := K0.ext E186
            have F186_coder : Fld Z h186 b186 "java/lang/String" "coder" "B" (.int (0 : Int32)) := D186 (Or.inr (hw _ (List.mem_of_getElem? (i := 32) rfl))) (ty := .byte) (by decide)
            have F186_value : Fld Z h186 b186 "java/lang/String" "value" "[B" .null := D186 (Or.inr (hw _ (List.mem_of_getElem? (i := 34) rfl))) (ty := (.array .byte)) (by decide)
            refine own_go st186 ?_
            refine own_go (fun _ kk_ => XS.dup X186.here hx rfl (hb hby d1_116) rfl rfl kk_) ?_
            refine own_go (fun _ kk_ => XS.iconst X186.here hx rfl (hb hby d1_117) kk_) ?_
            show own_Fin p.tables e below _ (T186.setTop (mkF m 118 #[.val (.int mo), .val (.int pa), .val (.int pb), .val (.int pc_), .val (.int pd_), .unset] [(.int (0 : Int32)), (.ref b186), (.ref b186)]))
            obtain ⟨T188, h188, k188, X188, e188, E188, A188, st188⟩ := newP X186 hx hZ (hw _ (List.mem_of_getElem? (i := 4) rfl)) e186 (g := (mkF m 118 #[.val (.int mo), .val (.int pa), .val (.int pb), .val (.int pc_), .val (.int pd_), .unset] [(.int (0 : Int32)), (.ref b186), (.ref b186)])) rfl (hb hby d1_118) rfl (by decide) (cap := 0) (by decide) (by decide) (by decide) (by decide)
            obtain ⟨b188, g188⟩ : ∃ z, z = h186.size := ⟨_, rfl⟩
            rw [← g188] at A188 st188
            have sz_b188 : h0.size ≤ b188 := Nat.le_trans K187.1 (Nat.le_of_eq g188.symm)
            have g_b188 : n0 ≤ b188 := Nat.le_trans Z0 sz_b188
            have ne189 : b186 ≠ b188 := Nat.ne_of_lt (Nat.lt_of_lt_of_le A186.lt (Nat.le_of_eq g188.symm))
            have S_b188 := Safe.new (Z := Z) (EL := consts_1) (vm := s.vm) (Nat.le_of_eq g188.symm)
            replace S_b186 := Safe.ext E188 CH S_b186
            replace S_b188 := Safe.ext E188 CH S_b188
            replace CR := CR.trans (CHr.ext E188 CH)
            replace CH := CH.ext E188
            replace hk := Nat.le_trans hk E188.1
            replace O0 := O0.ext E188
            replace A186 := A186.ext E188
            replace F186_coder := F186_coder.ext E188
            replace F186_value := F186_value.ext E188
            have K190 := K187.ext E188
            have V188 : Arv Z h188 b188 k188 .char (0 : Int32) [] (.int (0 : Int32)) := (Arv.new A188 (by decide)).pad (pad_rep [] (.int (0 : Int32)) 0)
            refine own_go st188 ?_
            show own_Fin p.tables e below _ (T188.setTop (mkF m 120 #[.val (.int mo), .val (.int pa), .val (.int pb), .val (.int pc_), .val (.int pd_), .unset] [(.ref b188), (.ref b186), (.ref b186)]))
            obtain ⟨_, _, ⟨T191, L191, k191, n191⟩, -, X191, hSn191, hgr191, ⟨Lc191, hQ191, l191, y191, z191, CR191⟩, st191⟩ := X188.specialBackS hx (y := (⟨"java/lang/String", "<init>", "([C)V"⟩ : MethodName)) rfl hown (mvT hZ (hw _ (List.mem_of_getElem? (i := 9) rfl))) (mvT hZ (hw _ (List.mem_of_getElem? (i := 10) rfl))) (mvT hZ (hw _ (List.mem_of_getElem? (i := 11) rfl))) (by decide) (backOfSH (s := s) (W := 1) (rm_ne l Z a0 hw [] hEL b186 b188 k188 gc h188 n0 (Nat.le_trans Z0 K190.1) A186 F186_value F186_coder g_b186 V188 (Ne.symm ne189) O0) hZ (hw _ (List.mem_of_getElem? (i := 11) rfl)) (hw _ (List.mem_of_getElem? (i := 8) rfl)) (by decide) (by decide) hEL CH) (g := (mkF m 120 #[.val (.int mo), .val (.int pa), .val (.int pb), .val (.int pc_), .val (.int pd_), .unset] [(.ref b188), (.ref b186), (.ref b186)])) rfl (by rw [hml]; rfl) (Steps.refl _) (a := b186) (argsL := [(.ref b188)]) (rest := [(.ref b186)]) (lenOf pd_7 rfl) rfl (by show 2 * 0 + _ ≤ _; exact Nat.le_of_eq rfl) (hb hby d1_120) (fun _ _ => ⟨rfl, e188, (by decide : 2 + 4 ≤ _), (by decide : 4 + 8 ≤ _)⟩)
            dsimp only [Pt.U, Pt.locs, Pt.cells, Pt.slots] at X191 l191 y191 z191 st191 hQ191 hSn191 hgr191 CR191
            subst l191 y191 z191
            replace hS := foldS hS (show _ ≤ T188.heap.size by rw [e188]; exact hk) hSn191 hgr191
            replace hk : T191.heap.size ≤ T191.heap.size := Nat.le_refl _
            replace hZ : Z.Warmed39 (s.setVm T191.vm).vm := State.Warmed39.trans (t := s.setVm s.vm) hZ hSn191.1
            replace hown : (s.setVm T191.vm).vm.findClass "com/example/laminate/laminate/core/DefaultRegistryApiHostPinLaw" = some m.cls := by rw [show (s.setVm T191.vm).vm = T191.vm from rfl, hSn191.1.alike.findClass]; exact hown
            replace X191 : Stand p l e ({ frames := 4, cells := 6, slots := 120, locals := 67 } : Room) (s.setVm T191.vm) m #[(.int mo), (.int pa), (.int pb), (.int pc_), (.int pd_)] below meth c T191 _ _ _ := X191
            replace S_b186 := CR191.safe A186.lt S_b186
            replace S_b188 := CR191.safe V188.lt S_b188
            replace CR := CR.trans CR191
            replace CH := CR191.1
            obtain ⟨rfl, N191q, KK191, t191, SS191⟩ := hQ191
            have N191 := Fr.app N0 N191q
            replace O0 := O0.keep KK191 (allS g_b186 (all0))
            replace A186 := A186.keep KK191
            replace V188 := V188.keep KK191 (ninS (Ne.symm ne189) nin0)
            have K192 := K190.trans KK191 (allS (Or.inr sz_b186) all0)
            refine own_go (fun _ kk_ => st191.trans kk_) ?_
            show own_Fin p.tables e below _ (T191.setTop (mkF m 123 #[.val (.int mo), .val (.int pa), .val (.int pb), .val (.int pc_), .val (.int pd_), .unset] [(.ref b186)]))
            have CRz : CHr Z consts_1 s.vm s.heap T191.vm T191.heap := by
              rw [hh]
              exact CR.trans (CHv.at X191 hZ hEL CH)
            refine own_retW X191 hx Bd hS hk (t := (.object "java/lang/String")) Bd.returns rfl (Or.inr (Or.inr (Or.inr (Or.inr ⟨rfl, rfl, rfl⟩)))) (hb hby d1_123) CRz ?_ (by decide) (by decide)
            show (Q_rm_dr Z mo pa pb pc_ pd_ gc h0 n0) (some (.ref b186)) T191.heap _
            exact ⟨_, _, _, rfl, N191, K192, SS191⟩
          · skip
            refine own_go (fun _ kk_ => XS.icmpYes X0.here hx rfl (pc0 := 110) (pc' := 124) rfl (hb hby d1_110) rfl (feq hc185).2 (by decide) (by decide) kk_) ?_
            refine own_go (fun _ kk_ => XS.iloadN X0.here hx rfl (hb hby d1_124) rfl kk_) ?_
            refine own_go (fun _ kk_ => XS.iconst X0.here hx rfl (hb hby d1_125) kk_) ?_
            show own_Fin p.tables e below _ (s₁.setTop (mkF m 126 #[.val (.int mo), .val (.int pa), .val (.int pb), .val (.int pc_), .val (.int pd_), .unset] [(.int (5 : Int32)), (.int mo)]))
            by_cases hc193 : mo = (5 : Int32)
            · skip
              refine own_go (fun _ kk_ => XS.icmpNo X0.here hx rfl (hb hby d1_126) rfl (teq hc193).2 kk_) ?_
              refine own_go (fun _ kk_ => XS.iloadN X0.here hx rfl (hb hby d1_129) rfl kk_) ?_
              refine own_go (fun _ kk_ => XS.sipush X0.here hx rfl (hb hby d1_130) kk_) ?_
              show own_Fin p.tables e below _ (s₁.setTop (mkF m 133 #[.val (.int mo), .val (.int pa), .val (.int pb), .val (.int pc_), .val (.int pd_), .unset] [(.int (255 : Int32)), (.int pc_)]))
              refine own_go (fun _ kk_ => XS.iand X0.here hx rfl (hb hby d1_133) rfl kk_) ?_
              show own_Fin p.tables e below _ (s₁.setTop (mkF m 134 #[.val (.int mo), .val (.int pa), .val (.int pb), .val (.int pc_), .val (.int pd_), .unset] [(.int (pc_ &&& (255 : Int32)))]))
              refine own_go (fun _ kk_ => XS.i2c X0.here hx rfl (hb hby d1_134) rfl kk_) ?_
              rw [i2c_mask]
              show own_Fin p.tables e below _ (s₁.setTop (mkF m 135 #[.val (.int mo), .val (.int pa), .val (.int pb), .val (.int pc_), .val (.int pd_), .unset] [(.int (pc_ &&& (255 : Int32)))]))
              obtain ⟨_, _, ⟨T194, L194, k194, n194⟩, -, X194, ⟨Lc194, hQ194, l194, y194, z194⟩, st194⟩ := Jvm.LawKit.callS X0 hx (y := (⟨"java/lang/String", "valueOf", "(C)Ljava/lang/String;"⟩ : MethodName)) hown (mvT hZ (hw _ (List.mem_of_getElem? (i := 56) rfl))) (mvT hZ (hw _ (List.mem_of_getElem? (i := 57) rfl))) (mvT hZ (hw _ (List.mem_of_getElem? (i := 8) rfl))) (mvT hZ (hw _ (List.mem_of_getElem? (i := 58) rfl))) (by decide) (backOf (W := 0) (rm_vo l Z a0 hw [] (pc_ &&& (255 : Int32)) gc h0 n0 (Nat.le_trans Z0 K0.1) (own_and255 _).1 (own_and255 _).2 S_C hcs O0) hZ (hw _ (List.mem_of_getElem? (i := 58) rfl)) (hw _ (List.mem_of_getElem? (i := 8) rfl)) (by decide) (by decide)) (g := (mkF m 135 #[.val (.int mo), .val (.int pa), .val (.int pb), .val (.int pc_), .val (.int pd_), .unset] [(.int (pc_ &&& (255 : Int32)))])) rfl (by rw [hml]; rfl) (argsL := [(.int (pc_ &&& (255 : Int32)))]) (rest := []) (lenOf pd_8 rfl) rfl (by show 2 * 0 + _ ≤ _; exact Nat.le_of_eq rfl) (hb hby d1_135) (fun _ _ => ⟨rfl, e0, (by decide : 0 + 2 ≤ _), (by decide : 0 + 5 ≤ _)⟩)
              dsimp only [Pt.U, Pt.locs, Pt.cells, Pt.slots] at X194 l194 y194 z194 st194 hQ194
              subst l194 y194 z194
              obtain ⟨r194, t194, rfl, N194q, KK194, szx194, szt194, SS194⟩ := hQ194
              have N194 := Fr.app N0 N194q
              have sz_r194 : h0.size ≤ r194 := Nat.le_trans K0.1 szx194
              have g_r194 : n0 ≤ r194 := Nat.le_trans Z0 sz_r194
              have S_r194 := Safe.new (Z := Z) (EL := consts_1) (vm := s.vm) szx194
              have sz_t194 : h0.size ≤ t194 := Nat.le_trans K0.1 szt194
              have g_t194 : n0 ≤ t194 := Nat.le_trans Z0 sz_t194
              have S_t194 := Safe.new (Z := Z) (EL := consts_1) (vm := s.vm) szt194
              have hs195 : ∀ x ∈ [], Safe Z consts_1 s.vm h0 x := sf0
              replace S_r194 := Safe.keep KK194 hs195 CH S_r194
              replace S_t194 := Safe.keep KK194 hs195 CH S_t194
              replace CR := CR.trans (CHr.keep KK194 hs195 CH)
              replace CH := CHv.keep KK194 hs195 CH
              replace hk := Nat.le_trans hk KK194.1
              replace O0 := O0.keep KK194 all0
              have K196 := K0.trans KK194 all0
              refine own_go st194 ?_
              show own_Fin p.tables e below _ (T194.setTop (mkF m 138 #[.val (.int mo), .val (.int pa), .val (.int pb), .val (.int pc_), .val (.int pd_), .unset] [(.ref r194)]))
              have CRz : CHr Z consts_1 s.vm s.heap T194.vm T194.heap := by
                rw [hh]
                exact CR.trans (CHv.at X194 hZ hEL CH)
              refine own_retW X194 hx Bd hS hk (t := (.object "java/lang/String")) Bd.returns rfl (Or.inr (Or.inr (Or.inr (Or.inr ⟨rfl, rfl, rfl⟩)))) (hb hby d1_138) CRz ?_ (by decide) (by decide)
              show (Q_rm_dr Z mo pa pb pc_ pd_ gc h0 n0) (some (.ref r194)) T194.heap _
              exact ⟨_, _, _, rfl, N194, K196, SS194⟩
            · skip
              refine own_go (fun _ kk_ => XS.icmpYes X0.here hx rfl (pc0 := 126) (pc' := 139) rfl (hb hby d1_126) rfl (feq hc193).2 (by decide) (by decide) kk_) ?_
              refine own_go (fun _ kk_ => XS.bipush X0.here hx rfl (hb hby d1_139) kk_) ?_
              show own_Fin p.tables e below _ (s₁.setTop (mkF m 141 #[.val (.int mo), .val (.int pa), .val (.int pb), .val (.int pc_), .val (.int pd_), .unset] [(.int (9 : Int32))]))
              obtain ⟨T197, h197, k197, X197, e197, E197, A197, st197⟩ := newP X0 hx hZ (hw _ (List.mem_of_getElem? (i := 4) rfl)) e0 (g := (mkF m 141 #[.val (.int mo), .val (.int pa), .val (.int pb), .val (.int pc_), .val (.int pd_), .unset] [(.int (9 : Int32))])) rfl (hb hby d1_141) rfl (by decide) (cap := 9) (by decide) (by decide) (by decide) (by decide)
              obtain ⟨b197, g197⟩ : ∃ z, z = h0.size := ⟨_, rfl⟩
              rw [← g197] at A197 st197
              have sz_b197 : h0.size ≤ b197 := Nat.le_trans K0.1 (Nat.le_of_eq g197.symm)
              have g_b197 : n0 ≤ b197 := Nat.le_trans Z0 sz_b197
              have S_b197 := Safe.new (Z := Z) (EL := consts_1) (vm := s.vm) (Nat.le_of_eq g197.symm)
              replace S_b197 := Safe.ext E197 CH S_b197
              replace CR := CR.trans (CHr.ext E197 CH)
              replace CH := CH.ext E197
              replace hk := Nat.le_trans hk E197.1
              replace O0 := O0.ext E197
              have K198 := K0.ext E197
              have V197 : Arv Z h197 b197 k197 .char (9 : Int32) [(.int (0 : Int32)), (.int (0 : Int32)), (.int (0 : Int32)), (.int (0 : Int32)), (.int (0 : Int32)), (.int (0 : Int32)), (.int (0 : Int32)), (.int (0 : Int32)), (.int (0 : Int32))] (.int (0 : Int32)) := (Arv.new A197 (by decide)).pad (pad_rep [] (.int (0 : Int32)) 9)
              refine own_go st197 ?_
              refine own_go (fun _ kk_ => XS.dup X197.here hx rfl (hb hby d1_143) rfl rfl kk_) ?_
              refine own_go (fun _ kk_ => XS.iconst X197.here hx rfl (hb hby d1_144) kk_) ?_
              refine own_go (fun _ kk_ => XS.iloadN X197.here hx rfl (hb hby d1_145) rfl kk_) ?_
              refine own_go (fun _ kk_ => XS.sipush X197.here hx rfl (hb hby d1_146) kk_) ?_
              show own_Fin p.tables e below _ (T197.setTop (mkF m 149 #[.val (.int mo), .val (.int pa), .val (.int pb), .val (.int pc_), .val (.int pd_), .unset] [(.int (255 : Int32)), (.int pc_), (.int (0 : Int32)), (.ref b197), (.ref b197)]))
              refine own_go (fun _ kk_ => XS.iand X197.here hx rfl (hb hby d1_149) rfl kk_) ?_
              show own_Fin p.tables e below _ (T197.setTop (mkF m 150 #[.val (.int mo), .val (.int pa), .val (.int pb), .val (.int pc_), .val (.int pd_), .unset] [(.int (pc_ &&& (255 : Int32))), (.int (0 : Int32)), (.ref b197), (.ref b197)]))
              refine own_go (fun _ kk_ => XS.i2c X197.here hx rfl (hb hby d1_150) rfl kk_) ?_
              rw [i2c_mask]
              show own_Fin p.tables e below _ (T197.setTop (mkF m 151 #[.val (.int mo), .val (.int pa), .val (.int pb), .val (.int pc_), .val (.int pd_), .unset] [(.int (pc_ &&& (255 : Int32))), (.int (0 : Int32)), (.ref b197), (.ref b197)]))
              obtain ⟨T199, h199, X199, e199, W199, V199, st199⟩ := own_stC X197 hx hZ e197 V197 (by decide) (i := 0) rfl (Nat.le_of_ble_eq_true rfl) (g := (mkF m 151 #[.val (.int mo), .val (.int pa), .val (.int pb), .val (.int pc_), .val (.int pd_), .unset] [(.int (pc_ &&& (255 : Int32))), (.int (0 : Int32)), (.ref b197), (.ref b197)])) rfl rfl (hb hby d1_151)
              rw [own_nar255] at V199
              replace V197 : Arv Z h199 b197 k197 .char (9 : Int32) [(.int (pc_ &&& (255 : Int32))), (.int (0 : Int32)), (.int (0 : Int32)), (.int (0 : Int32)), (.int (0 : Int32)), (.int (0 : Int32)), (.int (0 : Int32)), (.int (0 : Int32)), (.int (0 : Int32))] (.int (0 : Int32)) := V199
              have N199 := Fr.snoc X199 N0 g_b197
              refine own_go st199 ?_
              have sa200 := S_b197
              replace S_b197 := Safe.wr W199 sa200 CH S_b197
              replace CR := CR.trans (CHr.wr W199 sa200 CH)
              replace CH := CHv.wr W199 sa200 CH
              replace hk := Nat.le_trans hk (Keep.of_wr W199).1
              replace O0 := O0.wr W199 g_b197
              have K201 := K198.wr W199 (Or.inr sz_b197)
              refine own_go (fun _ kk_ => XS.dup X199.here hx rfl (hb hby d1_152) rfl rfl kk_) ?_
              refine own_go (fun _ kk_ => XS.iconst X199.here hx rfl (hb hby d1_153) kk_) ?_
              refine own_go (fun _ kk_ => XS.iloadN X199.here hx rfl (hb hby d1_154) rfl kk_) ?_
              refine own_go (fun _ kk_ => XS.bipush X199.here hx rfl (hb hby d1_155) kk_) ?_
              show own_Fin p.tables e below _ (T199.setTop (mkF m 157 #[.val (.int mo), .val (.int pa), .val (.int pb), .val (.int pc_), .val (.int pd_), .unset] [(.int (8 : Int32)), (.int pc_), (.int (1 : Int32)), (.ref b197), (.ref b197)]))
              refine own_go (fun _ kk_ => XS.iushr X199.here hx rfl (hb hby d1_157) rfl kk_) ?_
              refine own_go (fun _ kk_ => XS.sipush X199.here hx rfl (hb hby d1_158) kk_) ?_
              show own_Fin p.tables e below _ (T199.setTop (mkF m 161 #[.val (.int mo), .val (.int pa), .val (.int pb), .val (.int pc_), .val (.int pd_), .unset] [(.int (255 : Int32)), (.int ((pc_.toUInt32 >>> ((8 : Int32) &&& 31).toUInt32).toInt32)), (.int (1 : Int32)), (.ref b197), (.ref b197)]))
              refine own_go (fun _ kk_ => XS.iand X199.here hx rfl (hb hby d1_161) rfl kk_) ?_
              show own_Fin p.tables e below _ (T199.setTop (mkF m 162 #[.val (.int mo), .val (.int pa), .val (.int pb), .val (.int pc_), .val (.int pd_), .unset] [(.int (((pc_.toUInt32 >>> ((8 : Int32) &&& 31).toUInt32).toInt32) &&& (255 : Int32))), (.int (1 : Int32)), (.ref b197), (.ref b197)]))
              refine own_go (fun _ kk_ => XS.i2c X199.here hx rfl (hb hby d1_162) rfl kk_) ?_
              rw [i2c_mask]
              show own_Fin p.tables e below _ (T199.setTop (mkF m 163 #[.val (.int mo), .val (.int pa), .val (.int pb), .val (.int pc_), .val (.int pd_), .unset] [(.int (((pc_.toUInt32 >>> ((8 : Int32) &&& 31).toUInt32).toInt32) &&& (255 : Int32))), (.int (1 : Int32)), (.ref b197), (.ref b197)]))
              obtain ⟨T202, h202, X202, e202, W202, V202, st202⟩ := own_stC X199 hx hZ e199 V197 (by decide) (i := 1) rfl (Nat.le_of_ble_eq_true rfl) (g := (mkF m 163 #[.val (.int mo), .val (.int pa), .val (.int pb), .val (.int pc_), .val (.int pd_), .unset] [(.int (((pc_.toUInt32 >>> ((8 : Int32) &&& 31).toUInt32).toInt32) &&& (255 : Int32))), (.int (1 : Int32)), (.ref b197), (.ref b197)])) rfl rfl (hb hby d1_163)
              rw [own_nar255] at V202
              replace V197 : Arv Z h202 b197 k197 .char (9 : Int32) [(.int (pc_ &&& (255 : Int32))), (.int (((pc_.toUInt32 >>> ((8 : Int32) &&& 31).toUInt32).toInt32) &&& (255 : Int32))), (.int (0 : Int32)), (.int (0 : Int32)), (.int (0 : Int32)), (.int (0 : Int32)), (.int (0 : Int32)), (.int (0 : Int32)), (.int (0 : Int32))] (.int (0 : Int32)) := V202
              have N202 := Fr.snoc X202 N199 g_b197
              refine own_go st202 ?_
              have sa203 := S_b197
              replace S_b197 := Safe.wr W202 sa203 CH S_b197
              replace CR := CR.trans (CHr.wr W202 sa203 CH)
              replace CH := CHv.wr W202 sa203 CH
              replace hk := Nat.le_trans hk (Keep.of_wr W202).1
              replace O0 := O0.wr W202 g_b197
              have K204 := K201.wr W202 (Or.inr sz_b197)
              refine own_go (fun _ kk_ => XS.dup X202.here hx rfl (hb hby d1_164) rfl rfl kk_) ?_
              refine own_go (fun _ kk_ => XS.iconst X202.here hx rfl (hb hby d1_165) kk_) ?_
              refine own_go (fun _ kk_ => XS.iloadN X202.here hx rfl (hb hby d1_166) rfl kk_) ?_
              refine own_go (fun _ kk_ => XS.bipush X202.here hx rfl (hb hby d1_167) kk_) ?_
              show own_Fin p.tables e below _ (T202.setTop (mkF m 169 #[.val (.int mo), .val (.int pa), .val (.int pb), .val (.int pc_), .val (.int pd_), .unset] [(.int (16 : Int32)), (.int pc_), (.int (2 : Int32)), (.ref b197), (.ref b197)]))
              refine own_go (fun _ kk_ => XS.iushr X202.here hx rfl (hb hby d1_169) rfl kk_) ?_
              refine own_go (fun _ kk_ => XS.sipush X202.here hx rfl (hb hby d1_170) kk_) ?_
              show own_Fin p.tables e below _ (T202.setTop (mkF m 173 #[.val (.int mo), .val (.int pa), .val (.int pb), .val (.int pc_), .val (.int pd_), .unset] [(.int (255 : Int32)), (.int ((pc_.toUInt32 >>> ((16 : Int32) &&& 31).toUInt32).toInt32)), (.int (2 : Int32)), (.ref b197), (.ref b197)]))
              refine own_go (fun _ kk_ => XS.iand X202.here hx rfl (hb hby d1_173) rfl kk_) ?_
              show own_Fin p.tables e below _ (T202.setTop (mkF m 174 #[.val (.int mo), .val (.int pa), .val (.int pb), .val (.int pc_), .val (.int pd_), .unset] [(.int (((pc_.toUInt32 >>> ((16 : Int32) &&& 31).toUInt32).toInt32) &&& (255 : Int32))), (.int (2 : Int32)), (.ref b197), (.ref b197)]))
              refine own_go (fun _ kk_ => XS.i2c X202.here hx rfl (hb hby d1_174) rfl kk_) ?_
              rw [i2c_mask]
              show own_Fin p.tables e below _ (T202.setTop (mkF m 175 #[.val (.int mo), .val (.int pa), .val (.int pb), .val (.int pc_), .val (.int pd_), .unset] [(.int (((pc_.toUInt32 >>> ((16 : Int32) &&& 31).toUInt32).toInt32) &&& (255 : Int32))), (.int (2 : Int32)), (.ref b197), (.ref b197)]))
              obtain ⟨T205, h205, X205, e205, W205, V205, st205⟩ := own_stC X202 hx hZ e202 V197 (by decide) (i := 2) rfl (Nat.le_of_ble_eq_true rfl) (g := (mkF m 175 #[.val (.int mo), .val (.int pa), .val (.int pb), .val (.int pc_), .val (.int pd_), .unset] [(.int (((pc_.toUInt32 >>> ((16 : Int32) &&& 31).toUInt32).toInt32) &&& (255 : Int32))), (.int (2 : Int32)), (.ref b197), (.ref b197)])) rfl rfl (hb hby d1_175)
              rw [own_nar255] at V205
              replace V197 : Arv Z h205 b197 k197 .char (9 : Int32) [(.int (pc_ &&& (255 : Int32))), (.int (((pc_.toUInt32 >>> ((8 : Int32) &&& 31).toUInt32).toInt32) &&& (255 : Int32))), (.int (((pc_.toUInt32 >>> ((16 : Int32) &&& 31).toUInt32).toInt32) &&& (255 : Int32))), (.int (0 : Int32)), (.int (0 : Int32)), (.int (0 : Int32)), (.int (0 : Int32)), (.int (0 : Int32)), (.int (0 : Int32))] (.int (0 : Int32)) := V205
              have N205 := Fr.snoc X205 N202 g_b197
              refine own_go st205 ?_
              have sa206 := S_b197
              replace S_b197 := Safe.wr W205 sa206 CH S_b197
              replace CR := CR.trans (CHr.wr W205 sa206 CH)
              replace CH := CHv.wr W205 sa206 CH
              replace hk := Nat.le_trans hk (Keep.of_wr W205).1
              replace O0 := O0.wr W205 g_b197
              have K207 := K204.wr W205 (Or.inr sz_b197)
              refine own_go (fun _ kk_ => XS.dup X205.here hx rfl (hb hby d1_176) rfl rfl kk_) ?_
              refine own_go (fun _ kk_ => XS.iconst X205.here hx rfl (hb hby d1_177) kk_) ?_
              refine own_go (fun _ kk_ => XS.iloadN X205.here hx rfl (hb hby d1_178) rfl kk_) ?_
              refine own_go (fun _ kk_ => XS.bipush X205.here hx rfl (hb hby d1_179) kk_) ?_
              show own_Fin p.tables e below _ (T205.setTop (mkF m 181 #[.val (.int mo), .val (.int pa), .val (.int pb), .val (.int pc_), .val (.int pd_), .unset] [(.int (24 : Int32)), (.int pc_), (.int (3 : Int32)), (.ref b197), (.ref b197)]))
              refine own_go (fun _ kk_ => XS.iushr X205.here hx rfl (hb hby d1_181) rfl kk_) ?_
              refine own_go (fun _ kk_ => XS.sipush X205.here hx rfl (hb hby d1_182) kk_) ?_
              show own_Fin p.tables e below _ (T205.setTop (mkF m 185 #[.val (.int mo), .val (.int pa), .val (.int pb), .val (.int pc_), .val (.int pd_), .unset] [(.int (255 : Int32)), (.int ((pc_.toUInt32 >>> ((24 : Int32) &&& 31).toUInt32).toInt32)), (.int (3 : Int32)), (.ref b197), (.ref b197)]))
              refine own_go (fun _ kk_ => XS.iand X205.here hx rfl (hb hby d1_185) rfl kk_) ?_
              show own_Fin p.tables e below _ (T205.setTop (mkF m 186 #[.val (.int mo), .val (.int pa), .val (.int pb), .val (.int pc_), .val (.int pd_), .unset] [(.int (((pc_.toUInt32 >>> ((24 : Int32) &&& 31).toUInt32).toInt32) &&& (255 : Int32))), (.int (3 : Int32)), (.ref b197), (.ref b197)]))
              refine own_go (fun _ kk_ => XS.i2c X205.here hx rfl (hb hby d1_186) rfl kk_) ?_
              rw [i2c_mask]
              show own_Fin p.tables e below _ (T205.setTop (mkF m 187 #[.val (.int mo), .val (.int pa), .val (.int pb), .val (.int pc_), .val (.int pd_), .unset] [(.int (((pc_.toUInt32 >>> ((24 : Int32) &&& 31).toUInt32).toInt32) &&& (255 : Int32))), (.int (3 : Int32)), (.ref b197), (.ref b197)]))
              obtain ⟨T208, h208, X208, e208, W208, V208, st208⟩ := own_stC X205 hx hZ e205 V197 (by decide) (i := 3) rfl (Nat.le_of_ble_eq_true rfl) (g := (mkF m 187 #[.val (.int mo), .val (.int pa), .val (.int pb), .val (.int pc_), .val (.int pd_), .unset] [(.int (((pc_.toUInt32 >>> ((24 : Int32) &&& 31).toUInt32).toInt32) &&& (255 : Int32))), (.int (3 : Int32)), (.ref b197), (.ref b197)])) rfl rfl (hb hby d1_187)
              rw [own_nar255] at V208
              replace V197 : Arv Z h208 b197 k197 .char (9 : Int32) [(.int (pc_ &&& (255 : Int32))), (.int (((pc_.toUInt32 >>> ((8 : Int32) &&& 31).toUInt32).toInt32) &&& (255 : Int32))), (.int (((pc_.toUInt32 >>> ((16 : Int32) &&& 31).toUInt32).toInt32) &&& (255 : Int32))), (.int (((pc_.toUInt32 >>> ((24 : Int32) &&& 31).toUInt32).toInt32) &&& (255 : Int32))), (.int (0 : Int32)), (.int (0 : Int32)), (.int (0 : Int32)), (.int (0 : Int32)), (.int (0 : Int32))] (.int (0 : Int32)) := V208
              have N208 := Fr.snoc X208 N205 g_b197
              refine own_go st208 ?_
              have sa209 := S_b197
              replace S_b197 := Safe.wr W208 sa209 CH S_b197
              replace CR := CR.trans (CHr.wr W208 sa209 CH)
              replace CH := CHv.wr W208 sa209 CH
              replace hk := Nat.le_trans hk (Keep.of_wr W208).1
              replace O0 := O0.wr W208 g_b197
              have K210 := K207.wr W208 (Or.inr sz_b197)
              refine own_go (fun _ kk_ => XS.dup X208.here hx rfl (hb hby d1_188) rfl rfl kk_) ?_
              refine own_go (fun _ kk_ => XS.iconst X208.here hx rfl (hb hby d1_189) kk_) ?_
              refine own_go (fun _ kk_ => XS.iload X208.here hx rfl (hb hby d1_190) rfl kk_) ?_
              refine own_go (fun _ kk_ => XS.sipush X208.here hx rfl (hb hby d1_192) kk_) ?_
              show own_Fin p.tables e below _ (T208.setTop (mkF m 195 #[.val (.int mo), .val (.int pa), .val (.int pb), .val (.int pc_), .val (.int pd_), .unset] [(.int (255 : Int32)), (.int pd_), (.int (4 : Int32)), (.ref b197), (.ref b197)]))
              refine own_go (fun _ kk_ => XS.iand X208.here hx rfl (hb hby d1_195) rfl kk_) ?_
              show own_Fin p.tables e below _ (T208.setTop (mkF m 196 #[.val (.int mo), .val (.int pa), .val (.int pb), .val (.int pc_), .val (.int pd_), .unset] [(.int (pd_ &&& (255 : Int32))), (.int (4 : Int32)), (.ref b197), (.ref b197)]))
              refine own_go (fun _ kk_ => XS.i2c X208.here hx rfl (hb hby d1_196) rfl kk_) ?_
              rw [i2c_mask]
              show own_Fin p.tables e below _ (T208.setTop (mkF m 197 #[.val (.int mo), .val (.int pa), .val (.int pb), .val (.int pc_), .val (.int pd_), .unset] [(.int (pd_ &&& (255 : Int32))), (.int (4 : Int32)), (.ref b197), (.ref b197)]))
              obtain ⟨T211, h211, X211, e211, W211, V211, st211⟩ := own_stC X208 hx hZ e208 V197 (by decide) (i := 4) rfl (Nat.le_of_ble_eq_true rfl) (g := (mkF m 197 #[.val (.int mo), .val (.int pa), .val (.int pb), .val (.int pc_), .val (.int pd_), .unset] [(.int (pd_ &&& (255 : Int32))), (.int (4 : Int32)), (.ref b197), (.ref b197)])) rfl rfl (hb hby d1_197)
              rw [own_nar255] at V211
              replace V197 : Arv Z h211 b197 k197 .char (9 : Int32) [(.int (pc_ &&& (255 : Int32))), (.int (((pc_.toUInt32 >>> ((8 : Int32) &&& 31).toUInt32).toInt32) &&& (255 : Int32))), (.int (((pc_.toUInt32 >>> ((16 : Int32) &&& 31).toUInt32).toInt32) &&& (255 : Int32))), (.int (((pc_.toUInt32 >>> ((24 : Int32) &&& 31).toUInt32).toInt32) &&& (255 : Int32))), (.int (pd_ &&& (255 : Int32))), (.int (0 : Int32)), (.int (0 : Int32)), (.int (0 : Int32)), (.int (0 : Int32))] (.int (0 : Int32)) := V211
              have N211 := Fr.snoc X211 N208 g_b197
              refine own_go st211 ?_
              have sa212 := S_b197
              replace S_b197 := Safe.wr W211 sa212 CH S_b197
              replace CR := CR.trans (CHr.wr W211 sa212 CH)
              replace CH := CHv.wr W211 sa212 CH
              replace hk := Nat.le_trans hk (Keep.of_wr W211).1
              replace O0 := O0.wr W211 g_b197
              have K213 := K210.wr W211 (Or.inr sz_b197)
              refine own_go (fun _ kk_ => XS.dup X211.here hx rfl (hb hby d1_198) rfl rfl kk_) ?_
              refine own_go (fun _ kk_ => XS.iconst X211.here hx rfl (hb hby d1_199) kk_) ?_
              refine own_go (fun _ kk_ => XS.iload X211.here hx rfl (hb hby d1_200) rfl kk_) ?_
              refine own_go (fun _ kk_ => XS.bipush X211.here hx rfl (hb hby d1_202) kk_) ?_
              show own_Fin p.tables e below _ (T211.setTop (mkF m 204 #[.val (.int mo), .val (.int pa), .val (.int pb), .val (.int pc_), .val (.int pd_), .unset] [(.int (8 : Int32)), (.int pd_), (.int (5 : Int32)), (.ref b197), (.ref b197)]))
              refine own_go (fun _ kk_ => XS.iushr X211.here hx rfl (hb hby d1_204) rfl kk_) ?_
              refine own_go (fun _ kk_ => XS.sipush X211.here hx rfl (hb hby d1_205) kk_) ?_
              show own_Fin p.tables e below _ (T211.setTop (mkF m 208 #[.val (.int mo), .val (.int pa), .val (.int pb), .val (.int pc_), .val (.int pd_), .unset] [(.int (255 : Int32)), (.int ((pd_.toUInt32 >>> ((8 : Int32) &&& 31).toUInt32).toInt32)), (.int (5 : Int32)), (.ref b197), (.ref b197)]))
              refine own_go (fun _ kk_ => XS.iand X211.here hx rfl (hb hby d1_208) rfl kk_) ?_
              show own_Fin p.tables e below _ (T211.setTop (mkF m 209 #[.val (.int mo), .val (.int pa), .val (.int pb), .val (.int pc_), .val (.int pd_), .unset] [(.int (((pd_.toUInt32 >>> ((8 : Int32) &&& 31).toUInt32).toInt32) &&& (255 : Int32))), (.int (5 : Int32)), (.ref b197), (.ref b197)]))
              refine own_go (fun _ kk_ => XS.i2c X211.here hx rfl (hb hby d1_209) rfl kk_) ?_
              rw [i2c_mask]
              show own_Fin p.tables e below _ (T211.setTop (mkF m 210 #[.val (.int mo), .val (.int pa), .val (.int pb), .val (.int pc_), .val (.int pd_), .unset] [(.int (((pd_.toUInt32 >>> ((8 : Int32) &&& 31).toUInt32).toInt32) &&& (255 : Int32))), (.int (5 : Int32)), (.ref b197), (.ref b197)]))
              obtain ⟨T214, h214, X214, e214, W214, V214, st214⟩ := own_stC X211 hx hZ e211 V197 (by decide) (i := 5) rfl (Nat.le_of_ble_eq_true rfl) (g := (mkF m 210 #[.val (.int mo), .val (.int pa), .val (.int pb), .val (.int pc_), .val (.int pd_), .unset] [(.int (((pd_.toUInt32 >>> ((8 : Int32) &&& 31).toUInt32).toInt32) &&& (255 : Int32))), (.int (5 : Int32)), (.ref b197), (.ref b197)])) rfl rfl (hb hby d1_210)
              rw [own_nar255] at V214
              replace V197 : Arv Z h214 b197 k197 .char (9 : Int32) [(.int (pc_ &&& (255 : Int32))), (.int (((pc_.toUInt32 >>> ((8 : Int32) &&& 31).toUInt32).toInt32) &&& (255 : Int32))), (.int (((pc_.toUInt32 >>> ((16 : Int32) &&& 31).toUInt32).toInt32) &&& (255 : Int32))), (.int (((pc_.toUInt32 >>> ((24 : Int32) &&& 31).toUInt32).toInt32) &&& (255 : Int32))), (.int (pd_ &&& (255 : Int32))), (.int (((pd_.toUInt32 >>> ((8 : Int32) &&& 31).toUInt32).toInt32) &&& (255 : Int32))), (.int (0 : Int32)), (.int (0 : Int32)), (.int (0 : Int32))] (.int (0 : Int32)) := V214
              have N214 := Fr.snoc X214 N211 g_b197
              refine own_go st214 ?_
              have sa215 := S_b197
              replace S_b197 := Safe.wr W214 sa215 CH S_b197
              replace CR := CR.trans (CHr.wr W214 sa215 CH)
              replace CH := CHv.wr W214 sa215 CH
              replace hk := Nat.le_trans hk (Keep.of_wr W214).1
              replace O0 := O0.wr W214 g_b197
              have K216 := K213.wr W214 (Or.inr sz_b197)
              refine own_go (fun _ kk_ => XS.dup X214.here hx rfl (hb hby d1_211) rfl rfl kk_) ?_
              refine own_go (fun _ kk_ => XS.bipush X214.here hx rfl (hb hby d1_212) kk_) ?_
              refine own_go (fun _ kk_ => XS.iload X214.here hx rfl (hb hby d1_214) rfl kk_) ?_
              refine own_go (fun _ kk_ => XS.bipush X214.here hx rfl (hb hby d1_216) kk_) ?_
              show own_Fin p.tables e below _ (T214.setTop (mkF m 218 #[.val (.int mo), .val (.int pa), .val (.int pb), .val (.int pc_), .val (.int pd_), .unset] [(.int (16 : Int32)), (.int pd_), (.int (6 : Int32)), (.ref b197), (.ref b197)]))
              refine own_go (fun _ kk_ => XS.iushr X214.here hx rfl (hb hby d1_218) rfl kk_) ?_
              refine own_go (fun _ kk_ => XS.sipush X214.here hx rfl (hb hby d1_219) kk_) ?_
              show own_Fin p.tables e below _ (T214.setTop (mkF m 222 #[.val (.int mo), .val (.int pa), .val (.int pb), .val (.int pc_), .val (.int pd_), .unset] [(.int (255 : Int32)), (.int ((pd_.toUInt32 >>> ((16 : Int32) &&& 31).toUInt32).toInt32)), (.int (6 : Int32)), (.ref b197), (.ref b197)]))
              refine own_go (fun _ kk_ => XS.iand X214.here hx rfl (hb hby d1_222) rfl kk_) ?_
              show own_Fin p.tables e below _ (T214.setTop (mkF m 223 #[.val (.int mo), .val (.int pa), .val (.int pb), .val (.int pc_), .val (.int pd_), .unset] [(.int (((pd_.toUInt32 >>> ((16 : Int32) &&& 31).toUInt32).toInt32) &&& (255 : Int32))), (.int (6 : Int32)), (.ref b197), (.ref b197)]))
              refine own_go (fun _ kk_ => XS.i2c X214.here hx rfl (hb hby d1_223) rfl kk_) ?_
              rw [i2c_mask]
              show own_Fin p.tables e below _ (T214.setTop (mkF m 224 #[.val (.int mo), .val (.int pa), .val (.int pb), .val (.int pc_), .val (.int pd_), .unset] [(.int (((pd_.toUInt32 >>> ((16 : Int32) &&& 31).toUInt32).toInt32) &&& (255 : Int32))), (.int (6 : Int32)), (.ref b197), (.ref b197)]))
              obtain ⟨T217, h217, X217, e217, W217, V217, st217⟩ := own_stC X214 hx hZ e214 V197 (by decide) (i := 6) rfl (Nat.le_of_ble_eq_true rfl) (g := (mkF m 224 #[.val (.int mo), .val (.int pa), .val (.int pb), .val (.int pc_), .val (.int pd_), .unset] [(.int (((pd_.toUInt32 >>> ((16 : Int32) &&& 31).toUInt32).toInt32) &&& (255 : Int32))), (.int (6 : Int32)), (.ref b197), (.ref b197)])) rfl rfl (hb hby d1_224)
              rw [own_nar255] at V217
              replace V197 : Arv Z h217 b197 k197 .char (9 : Int32) [(.int (pc_ &&& (255 : Int32))), (.int (((pc_.toUInt32 >>> ((8 : Int32) &&& 31).toUInt32).toInt32) &&& (255 : Int32))), (.int (((pc_.toUInt32 >>> ((16 : Int32) &&& 31).toUInt32).toInt32) &&& (255 : Int32))), (.int (((pc_.toUInt32 >>> ((24 : Int32) &&& 31).toUInt32).toInt32) &&& (255 : Int32))), (.int (pd_ &&& (255 : Int32))), (.int (((pd_.toUInt32 >>> ((8 : Int32) &&& 31).toUInt32).toInt32) &&& (255 : Int32))), (.int (((pd_.toUInt32 >>> ((16 : Int32) &&& 31).toUInt32).toInt32) &&& (255 : Int32))), (.int (0 : Int32)), (.int (0 : Int32))] (.int (0 : Int32)) := V217
              have N217 := Fr.snoc X217 N214 g_b197
              refine own_go st217 ?_
              have sa218 := S_b197
              replace S_b197 := Safe.wr W217 sa218 CH S_b197
              replace CR := CR.trans (CHr.wr W217 sa218 CH)
              replace CH := CHv.wr W217 sa218 CH
              replace hk := Nat.le_trans hk (Keep.of_wr W217).1
              replace O0 := O0.wr W217 g_b197
              have K219 := K216.wr W217 (Or.inr sz_b197)
              refine own_go (fun _ kk_ => XS.dup X217.here hx rfl (hb hby d1_225) rfl rfl kk_) ?_
              refine own_go (fun _ kk_ => XS.bipush X217.here hx rfl (hb hby d1_226) kk_) ?_
              refine own_go (fun _ kk_ => XS.iload X217.here hx rfl (hb hby d1_228) rfl kk_) ?_
              refine own_go (fun _ kk_ => XS.bipush X217.here hx rfl (hb hby d1_230) kk_) ?_
              show own_Fin p.tables e below _ (T217.setTop (mkF m 232 #[.val (.int mo), .val (.int pa), .val (.int pb), .val (.int pc_), .val (.int pd_), .unset] [(.int (24 : Int32)), (.int pd_), (.int (7 : Int32)), (.ref b197), (.ref b197)]))
              refine own_go (fun _ kk_ => XS.iushr X217.here hx rfl (hb hby d1_232) rfl kk_) ?_
              refine own_go (fun _ kk_ => XS.sipush X217.here hx rfl (hb hby d1_233) kk_) ?_
              show own_Fin p.tables e below _ (T217.setTop (mkF m 236 #[.val (.int mo), .val (.int pa), .val (.int pb), .val (.int pc_), .val (.int pd_), .unset] [(.int (255 : Int32)), (.int ((pd_.toUInt32 >>> ((24 : Int32) &&& 31).toUInt32).toInt32)), (.int (7 : Int32)), (.ref b197), (.ref b197)]))
              refine own_go (fun _ kk_ => XS.iand X217.here hx rfl (hb hby d1_236) rfl kk_) ?_
              show own_Fin p.tables e below _ (T217.setTop (mkF m 237 #[.val (.int mo), .val (.int pa), .val (.int pb), .val (.int pc_), .val (.int pd_), .unset] [(.int (((pd_.toUInt32 >>> ((24 : Int32) &&& 31).toUInt32).toInt32) &&& (255 : Int32))), (.int (7 : Int32)), (.ref b197), (.ref b197)]))
              refine own_go (fun _ kk_ => XS.i2c X217.here hx rfl (hb hby d1_237) rfl kk_) ?_
              rw [i2c_mask]
              show own_Fin p.tables e below _ (T217.setTop (mkF m 238 #[.val (.int mo), .val (.int pa), .val (.int pb), .val (.int pc_), .val (.int pd_), .unset] [(.int (((pd_.toUInt32 >>> ((24 : Int32) &&& 31).toUInt32).toInt32) &&& (255 : Int32))), (.int (7 : Int32)), (.ref b197), (.ref b197)]))
              obtain ⟨T220, h220, X220, e220, W220, V220, st220⟩ := own_stC X217 hx hZ e217 V197 (by decide) (i := 7) rfl (Nat.le_of_ble_eq_true rfl) (g := (mkF m 238 #[.val (.int mo), .val (.int pa), .val (.int pb), .val (.int pc_), .val (.int pd_), .unset] [(.int (((pd_.toUInt32 >>> ((24 : Int32) &&& 31).toUInt32).toInt32) &&& (255 : Int32))), (.int (7 : Int32)), (.ref b197), (.ref b197)])) rfl rfl (hb hby d1_238)
              rw [own_nar255] at V220
              replace V197 : Arv Z h220 b197 k197 .char (9 : Int32) [(.int (pc_ &&& (255 : Int32))), (.int (((pc_.toUInt32 >>> ((8 : Int32) &&& 31).toUInt32).toInt32) &&& (255 : Int32))), (.int (((pc_.toUInt32 >>> ((16 : Int32) &&& 31).toUInt32).toInt32) &&& (255 : Int32))), (.int (((pc_.toUInt32 >>> ((24 : Int32) &&& 31).toUInt32).toInt32) &&& (255 : Int32))), (.int (pd_ &&& (255 : Int32))), (.int (((pd_.toUInt32 >>> ((8 : Int32) &&& 31).toUInt32).toInt32) &&& (255 : Int32))), (.int (((pd_.toUInt32 >>> ((16 : Int32) &&& 31).toUInt32).toInt32) &&& (255 : Int32))), (.int (((pd_.toUInt32 >>> ((24 : Int32) &&& 31).toUInt32).toInt32) &&& (255 : Int32))), (.int (0 : Int32))] (.int (0 : Int32)) := V220
              have N220 := Fr.snoc X220 N217 g_b197
              refine own_go st220 ?_
              have sa221 := S_b197
              replace S_b197 := Safe.wr W220 sa221 CH S_b197
              replace CR := CR.trans (CHr.wr W220 sa221 CH)
              replace CH := CHv.wr W220 sa221 CH
              replace hk := Nat.le_trans hk (Keep.of_wr W220).1
              replace O0 := O0.wr W220 g_b197
              have K222 := K219.wr W220 (Or.inr sz_b197)
              refine own_go (fun _ kk_ => XS.dup X220.here hx rfl (hb hby d1_239) rfl rfl kk_) ?_
              refine own_go (fun _ kk_ => XS.bipush X220.here hx rfl (hb hby d1_240) kk_) ?_
              refine own_go (fun _ kk_ => XS.iloadN X220.here hx rfl (hb hby d1_242) rfl kk_) ?_
              refine own_go (fun _ kk_ => XS.sipush X220.here hx rfl (hb hby d1_243) kk_) ?_
              show own_Fin p.tables e below _ (T220.setTop (mkF m 246 #[.val (.int mo), .val (.int pa), .val (.int pb), .val (.int pc_), .val (.int pd_), .unset] [(.int (255 : Int32)), (.int pa), (.int (8 : Int32)), (.ref b197), (.ref b197)]))
              refine own_go (fun _ kk_ => XS.iand X220.here hx rfl (hb hby d1_246) rfl kk_) ?_
              show own_Fin p.tables e below _ (T220.setTop (mkF m 247 #[.val (.int mo), .val (.int pa), .val (.int pb), .val (.int pc_), .val (.int pd_), .unset] [(.int (pa &&& (255 : Int32))), (.int (8 : Int32)), (.ref b197), (.ref b197)]))
              refine own_go (fun _ kk_ => XS.i2c X220.here hx rfl (hb hby d1_247) rfl kk_) ?_
              rw [i2c_mask]
              show own_Fin p.tables e below _ (T220.setTop (mkF m 248 #[.val (.int mo), .val (.int pa), .val (.int pb), .val (.int pc_), .val (.int pd_), .unset] [(.int (pa &&& (255 : Int32))), (.int (8 : Int32)), (.ref b197), (.ref b197)]))
              obtain ⟨T223, h223, X223, e223, W223, V223, st223⟩ := own_stC X220 hx hZ e220 V197 (by decide) (i := 8) rfl (Nat.le_of_ble_eq_true rfl) (g := (mkF m 248 #[.val (.int mo), .val (.int pa), .val (.int pb), .val (.int pc_), .val (.int pd_), .unset] [(.int (pa &&& (255 : Int32))), (.int (8 : Int32)), (.ref b197), (.ref b197)])) rfl rfl (hb hby d1_248)
              rw [own_nar255] at V223
              replace V197 : Arv Z h223 b197 k197 .char (9 : Int32) [(.int (pc_ &&& (255 : Int32))), (.int (((pc_.toUInt32 >>> ((8 : Int32) &&& 31).toUInt32).toInt32) &&& (255 : Int32))), (.int (((pc_.toUInt32 >>> ((16 : Int32) &&& 31).toUInt32).toInt32) &&& (255 : Int32))), (.int (((pc_.toUInt32 >>> ((24 : Int32) &&& 31).toUInt32).toInt32) &&& (255 : Int32))), (.int (pd_ &&& (255 : Int32))), (.int (((pd_.toUInt32 >>> ((8 : Int32) &&& 31).toUInt32).toInt32) &&& (255 : Int32))), (.int (((pd_.toUInt32 >>> ((16 : Int32) &&& 31).toUInt32).toInt32) &&& (255 : Int32))), (.int (((pd_.toUInt32 >>> ((24 : Int32) &&& 31).toUInt32).toInt32) &&& (255 : Int32))), (.int (pa &&& (255 : Int32)))] (.int (0 : Int32)) := V223
              have N223 := Fr.snoc X223 N220 g_b197
              refine own_go st223 ?_
              have sa224 := S_b197
              replace S_b197 := Safe.wr W223 sa224 CH S_b197
              replace CR := CR.trans (CHr.wr W223 sa224 CH)
              replace CH := CHv.wr W223 sa224 CH
              replace hk := Nat.le_trans hk (Keep.of_wr W223).1
              replace O0 := O0.wr W223 g_b197
              have K225 := K222.wr W223 (Or.inr sz_b197)
              refine own_go (fun _ kk_ => XS.astore X223.here hx rfl (hb hby d1_249) rfl rfl (l' := #[.val (.int mo), .val (.int pa), .val (.int pb), .val (.int pc_), .val (.int pd_), .val (.ref b197)]) rfl kk_) ?_
              show own_Fin p.tables e below _ (T223.setTop (mkF m 251 #[.val (.int mo), .val (.int pa), .val (.int pb), .val (.int pc_), .val (.int pd_), .val (.ref b197)] []))
              obtain ⟨T226, h226, X226, e226, E226, A226, D226, -, st226⟩ := newO X223 hx hZ hown (hw _ (List.mem_of_getElem? (i := 6) rfl)) (hw _ (List.mem_of_getElem? (i := 7) rfl)) (hw _ (List.mem_of_getElem? (i := 8) rfl)) e223 (g := (mkF m 251 #[.val (.int mo), .val (.int pa), .val (.int pb), .val (.int pc_), .val (.int pd_), .val (.ref b197)] [])) rfl (hb hby d1_251) (by decide) (by decide)
              obtain ⟨b226, g226⟩ : ∃ z, z = h223.size := ⟨_, rfl⟩
              rw [← g226] at A226 D226 st226
              have sz_b226 : h0.size ≤ b226 := Nat.le_trans K225.1 (Nat.le_of_eq g226.symm)
              have g_b226 : n0 ≤ b226 := Nat.le_trans Z0 sz_b226
              have ne227 : b197 ≠ b226 := Nat.ne_of_lt (Nat.lt_of_lt_of_le V197.lt (Nat.le_of_eq g226.symm))
              have S_b226 := Safe.new (Z := Z) (EL := consts_1) (vm := s.vm) (Nat.le_of_eq g226.symm)
              replace S_b197 := Safe.ext E226 CH S_b197
              replace S_b226 := Safe.ext E226 CH S_b226
              replace CR := CR.trans (CHr.ext E226 CH)
              replace CH := CH.ext E226
              replace hk := Nat.le_trans hk E226.1
              replace O0 := O0.ext E226
              replace V197 := V197.ext E226
              have K228 := K225.ext E226
              have F226_coder : Fld Z h226 b226 "java/lang/String" "coder" "B" (.int (0 : Int32)) := D226 (Or.inr (hw _ (List.mem_of_getElem? (i := 32) rfl))) (ty := .byte) (by decide)
              have F226_value : Fld Z h226 b226 "java/lang/String" "value" "[B" .null := D226 (Or.inr (hw _ (List.mem_of_getElem? (i := 34) rfl))) (ty := (.array .byte)) (by decide)
              refine own_go st226 ?_
              refine own_go (fun _ kk_ => XS.dup X226.here hx rfl (hb hby d1_254) rfl rfl kk_) ?_
              refine own_go (fun _ kk_ => XS.aload X226.here hx rfl (hb hby d1_255) rfl rfl kk_) ?_
              show own_Fin p.tables e below _ (T226.setTop (mkF m 257 #[.val (.int mo), .val (.int pa), .val (.int pb), .val (.int pc_), .val (.int pd_), .val (.ref b197)] [(.ref b197), (.ref b226), (.ref b226)]))
              have hp230 : ∀ c ∈ ([(pc_ &&& (255 : Int32)), (((pc_.toUInt32 >>> ((8 : Int32) &&& 31).toUInt32).toInt32) &&& (255 : Int32)), (((pc_.toUInt32 >>> ((16 : Int32) &&& 31).toUInt32).toInt32) &&& (255 : Int32)), (((pc_.toUInt32 >>> ((24 : Int32) &&& 31).toUInt32).toInt32) &&& (255 : Int32)), (pd_ &&& (255 : Int32)), (((pd_.toUInt32 >>> ((8 : Int32) &&& 31).toUInt32).toInt32) &&& (255 : Int32)), (((pd_.toUInt32 >>> ((16 : Int32) &&& 31).toUInt32).toInt32) &&& (255 : Int32)), (((pd_.toUInt32 >>> ((24 : Int32) &&& 31).toUInt32).toInt32) &&& (255 : Int32)), (pa &&& (255 : Int32))] : List Int32), ¬ c < 0 ∧ ¬ (255 : Int32) < c := by
                intro c hc
                simp only [List.mem_cons, List.not_mem_nil, or_false] at hc
                rcases hc with rfl | rfl | rfl | rfl | rfl | rfl | rfl | rfl | rfl
                · exact own_and255 _
                · exact own_and255 _
                · exact own_and255 _
                · exact own_and255 _
                · exact own_and255 _
                · exact own_and255 _
                · exact own_and255 _
                · exact own_and255 _
                · exact own_and255 _
              obtain ⟨_, _, ⟨T229, L229, k229, n229⟩, -, X229, ⟨Lc229, hQ229, l229, y229, z229⟩, st229⟩ := X226.specialBack hx (y := (⟨"java/lang/String", "<init>", "([C)V"⟩ : MethodName)) rfl hown (mvT hZ (hw _ (List.mem_of_getElem? (i := 9) rfl))) (mvT hZ (hw _ (List.mem_of_getElem? (i := 10) rfl))) (mvT hZ (hw _ (List.mem_of_getElem? (i := 11) rfl))) (by decide) (StrChars.Road.backV (W := 1) hZ hws (kI := 4) (hw _ (List.mem_of_getElem? (i := 7) rfl)) (cs := ([(pc_ &&& (255 : Int32)), (((pc_.toUInt32 >>> ((8 : Int32) &&& 31).toUInt32).toInt32) &&& (255 : Int32)), (((pc_.toUInt32 >>> ((16 : Int32) &&& 31).toUInt32).toInt32) &&& (255 : Int32)), (((pc_.toUInt32 >>> ((24 : Int32) &&& 31).toUInt32).toInt32) &&& (255 : Int32)), (pd_ &&& (255 : Int32)), (((pd_.toUInt32 >>> ((8 : Int32) &&& 31).toUInt32).toInt32) &&& (255 : Int32)), (((pd_.toUInt32 >>> ((16 : Int32) &&& 31).toUInt32).toInt32) &&& (255 : Int32)), (((pd_.toUInt32 >>> ((24 : Int32) &&& 31).toUInt32).toInt32) &&& (255 : Int32)), (pa &&& (255 : Int32))] : List Int32)) (bs := (([(pc_ &&& (255 : Int32)), (((pc_.toUInt32 >>> ((8 : Int32) &&& 31).toUInt32).toInt32) &&& (255 : Int32)), (((pc_.toUInt32 >>> ((16 : Int32) &&& 31).toUInt32).toInt32) &&& (255 : Int32)), (((pc_.toUInt32 >>> ((24 : Int32) &&& 31).toUInt32).toInt32) &&& (255 : Int32)), (pd_ &&& (255 : Int32)), (((pd_.toUInt32 >>> ((8 : Int32) &&& 31).toUInt32).toInt32) &&& (255 : Int32)), (((pd_.toUInt32 >>> ((16 : Int32) &&& 31).toUInt32).toInt32) &&& (255 : Int32)), (((pd_.toUInt32 >>> ((24 : Int32) &&& 31).toUInt32).toInt32) &&& (255 : Int32)), (pa &&& (255 : Int32))] : List Int32)).map (fun c => c.toInt8.toInt32)) (n := 9) g_b226 (Nat.le_trans Z0 K228.1) A226 F226_value F226_coder V197 (S_C.ext O0.2) hcs rfl rfl (by decide) (by decide) hp230 rfl (by decide) (by decide)) (g := (mkF m 257 #[.val (.int mo), .val (.int pa), .val (.int pb), .val (.int pc_), .val (.int pd_), .val (.ref b197)] [(.ref b197), (.ref b226), (.ref b226)])) rfl (by rw [hml]; rfl) (Steps.refl _) (a := b226) (argsL := [(.ref b197)]) (rest := [(.ref b226)]) (lenOf pd_7 rfl) rfl (by show 2 * 0 + _ ≤ _; exact Nat.le_of_eq rfl) (hb hby d1_257) (fun _ _ => ⟨rfl, e226, (by decide : 2 + 1 ≤ _), (by decide : 13 + 9 ≤ _)⟩)
              dsimp only [Pt.U, Pt.locs, Pt.cells, Pt.slots] at X229 l229 y229 z229 st229 hQ229
              subst l229 y229 z229
              obtain ⟨rfl, N229q, KK229, EE229, FC229, t229, kb229, gt229, szt229, netx229, FV229, VV229⟩ := hQ229
              have N229 := Fr.app N223 N229q
              have SS229 : own_Str Z T229.heap b226 t229 ([(pc_ &&& (255 : Int32)), (((pc_.toUInt32 >>> ((8 : Int32) &&& 31).toUInt32).toInt32) &&& (255 : Int32)), (((pc_.toUInt32 >>> ((16 : Int32) &&& 31).toUInt32).toInt32) &&& (255 : Int32)), (((pc_.toUInt32 >>> ((24 : Int32) &&& 31).toUInt32).toInt32) &&& (255 : Int32)), (pd_ &&& (255 : Int32)), (((pd_.toUInt32 >>> ((8 : Int32) &&& 31).toUInt32).toInt32) &&& (255 : Int32)), (((pd_.toUInt32 >>> ((16 : Int32) &&& 31).toUInt32).toInt32) &&& (255 : Int32)), (((pd_.toUInt32 >>> ((24 : Int32) &&& 31).toUInt32).toInt32) &&& (255 : Int32)), (pa &&& (255 : Int32))] : List Int32) := ⟨_, _, _, _, EE229, FV229, FC229, VV229, StrChars.Road.codOf (n := 9) rfl (fun c hc => (hp230 c hc).2), own_up _ hp230, Nat.le_of_ble_eq_true rfl⟩
              have sz_t229 : h0.size ≤ t229 := Nat.le_trans K228.1 szt229
              have ne231 : b197 ≠ t229 := Nat.ne_of_lt (Nat.lt_of_lt_of_le V197.lt szt229)
              have ne232 : b226 ≠ t229 := Nat.ne_of_lt (Nat.lt_of_lt_of_le A226.lt szt229)
              have S_t229 := Safe.new (Z := Z) (EL := consts_1) (vm := s.vm) szt229
              have hs233 : ∀ x ∈ [b226], Safe Z consts_1 s.vm h226 x := (sfS S_b226 sf0)
              replace S_b197 := Safe.keep KK229 hs233 CH S_b197
              replace S_b226 := Safe.keep KK229 hs233 CH S_b226
              replace S_t229 := Safe.keep KK229 hs233 CH S_t229
              replace CR := CR.trans (CHr.keep KK229 hs233 CH)
              replace CH := CHv.keep KK229 hs233 CH
              replace hk := Nat.le_trans hk KK229.1
              replace O0 := O0.keep KK229 (allS g_b226 (all0))
              replace V197 := V197.keep KK229 (ninS ne227 nin0)
              replace A226 := A226.keep KK229
              have K234 := K228.trans KK229 (allS (Or.inr sz_b226) all0)
              refine own_go (fun _ kk_ => st229.trans kk_) ?_
              show own_Fin p.tables e below _ (T229.setTop (mkF m 260 #[.val (.int mo), .val (.int pa), .val (.int pb), .val (.int pc_), .val (.int pd_), .val (.ref b197)] [(.ref b226)]))
              have CRz : CHr Z consts_1 s.vm s.heap T229.vm T229.heap := by
                rw [hh]
                exact CR.trans (CHv.at X229 hZ hEL CH)
              refine own_retW X229 hx Bd hS hk (t := (.object "java/lang/String")) Bd.returns rfl (Or.inr (Or.inr (Or.inr (Or.inr ⟨rfl, rfl, rfl⟩)))) (hb hby d1_260) CRz ?_ (by decide) (by decide)
              show (Q_rm_dr Z mo pa pb pc_ pd_ gc h0 n0) (some (.ref b226)) T229.heap _
              exact ⟨_, _, _, rfl, N229, K234, SS229⟩
def Q_rm_ah (Z : State) (xx : Addr) (tt : Addr) (cs : List Int32) (gc : Int32) (h0 : Heap) (n0 : Nat) (v : Option Value) (h : Heap) (L : List Loc) : Prop := Fr n0 L ∧ Keep h0 h [] ∧ (cs = ([(100 : Int32), (111 : Int32), (99 : Int32), (107 : Int32), (101 : Int32), (114 : Int32), (46 : Int32), (105 : Int32), (111 : Int32)] : List Int32) → ∃ a b, v = some (.ref a) ∧ own_Str Z h a b ([(114 : Int32), (101 : Int32), (103 : Int32), (105 : Int32), (115 : Int32), (116 : Int32), (114 : Int32), (121 : Int32), (45 : Int32), (49 : Int32), (46 : Int32), (100 : Int32), (111 : Int32), (99 : Int32), (107 : Int32), (101 : Int32), (114 : Int32), (46 : Int32), (105 : Int32), (111 : Int32)] : List Int32)) ∧ (¬ cs = ([(100 : Int32), (111 : Int32), (99 : Int32), (107 : Int32), (101 : Int32), (114 : Int32), (46 : Int32), (105 : Int32), (111 : Int32)] : List Int32) → v = some (.ref xx))
theorem ef_rm_ah (m : MethodId) (xx : Addr) (tt : Addr) (gc : Int32) : entryFrame m #[(.ref xx)] 1 = mkF m 0 #[.val (.ref xx)] [] := by first | (simp [entryFrame, mkF, argsToLocals, Value.category]; done) | rfl
set_option maxRecDepth 65536 in
set_option maxHeartbeats 40000000 in
theorem rm_ah (l : Launch) (Z : State) (a0 : Array Value) (hw : ∀ d ∈ tables_1, d.before a0 Z = true) (ws : List Jvm.Cond) (hEL : EW Z a0 consts_1) (xx : Addr) (tt : Addr) (cs : List Int32) (gc : Int32) (h0 : Heap) (n0 : Nat) (Z0 : n0 ≤ h0.size) (F_x : own_Str Z h0 xx tt cs) (S_C : Sta Z Z.heap "java/lang/String" "COMPACT_STRINGS" "Z" (.int gc)) (hcs : ¬ gc = 0) (O0 : Old Z n0 h0) :
    MetFree l (⟨"com/example/laminate/laminate/core/DefaultRegistry", "apiHost", "(Ljava/lang/String;)Ljava/lang/String;"⟩ : MethodName) (head1 (Jvm.Cond.code (⟨"com/example/laminate/laminate/core/DefaultRegistry", "apiHost", "(Ljava/lang/String;)Ljava/lang/String;"⟩ : MethodName) prog_8_method_3_code 1 (some (.object "java/lang/String")) :: ws) ({ frames := 2, cells := 4, slots := 124, locals := 28 } : Room)) (fun a_ U_ => a_ = #[(.ref xx)] ∧ Z.Warmed39 U_.vm ∧ U_.heap = h0 ∧ CHv Z consts_1 U_.vm h0) (fun _ _ _ _ _ => True) (fun _ U_ o_ V_ => ∃ v_ L_, o_ = .returned v_ ∧ (Q_rm_ah Z xx tt cs gc h0 n0) v_ V_.heap L_ ∧ CHr Z consts_1 U_.vm U_.heap V_.vm V_.heap ∧ ReturnedEndW U_ o_ V_ L_ ({ frames := 2, cells := 4, slots := 124, locals := 28 } : Room).cells ({ frames := 2, cells := 4, slots := 124, locals := 28 } : Room).slots) := by
  refine MetFree.of_bodySF (plainFor_of_name pn_9) hisR ?_
  intro p e s m args below meth c s₁ Bd hml0 hP hK
  obtain ⟨rfl, hZ, hh, CH⟩ := hP
  have hx := Bd.exec
  have hby := Bd.bytes
  have hml : c.maxLocals = 1 := hml0
  have hown : s.vm.findClass "com/example/laminate/laminate/core/DefaultRegistry" = some m.cls := findClass_of_methodNamed Bd.named
  have hnm := (name_of_methodNamed Bd.named Bd.method).1
  have wS : ∀ a ∈ Bundle.stringAtoms, a.before a0 Z = true := fun d hd => hw d ((by decide +kernel : ∀ d ∈ Bundle.stringAtoms, d ∈ tables_1) d hd)
  have X0 : Stand p l e ({ frames := 2, cells := 4, slots := 124, locals := 28 } : Room) (s.setVm s.vm) m #[(.ref xx)] below meth c s₁ [] 0 0 := Stand.of_body Bd
  have e0 : s₁.heap = h0 := by rw [← hh, Bd.state]; rfl
  have N0 := Fr.nil n0
  have K0 : Keep h0 h0 [] := Keep.refl _ _
  replace hZ : Z.Warmed39 (s.setVm s.vm).vm := hZ
  replace hown : (s.setVm s.vm).vm.findClass "com/example/laminate/laminate/core/DefaultRegistry" = some m.cls := hown
  have hS : s.Since s.vm h0.size := (State.WarmedH.refl s).since _
  have hk : h0.size ≤ h0.size := Nat.le_refl _
  have CR : CHr Z consts_1 s.vm h0 s.vm h0 := CHr.refl CH
  show own_Fin p.tables e below (own_PostW Z consts_1 (Q_rm_ah Z xx tt cs gc h0 n0) ({ frames := 2, cells := 4, slots := 124, locals := 28 } : Room).cells ({ frames := 2, cells := 4, slots := 124, locals := 28 } : Room).slots below s) _
  refine own_go (fun _ kk_ => castTop (ef_rm_ah m xx tt gc) kk_) ?_
  have heq : ∀ d ∈ StrChars.Road.wordsEq, d.before a0 Z = true := fun d hd => hw d ((by decide +kernel : ∀ d ∈ StrChars.Road.wordsEq, d ∈ tables_1) d hd)
  refine own_go (fun _ kk_ => XS.aloadN X0.here hx rfl (hb hby d8_0) rfl rfl kk_) ?_
  show own_Fin p.tables e below _ (s₁.setTop (mkF m 1 #[.val (.ref xx)] [(.ref xx)]))
  obtain ⟨a235, T235, h235, k235, tb235, kb235, X235, e235, E235, hS, hk, hZ, hown, EA235, FC235, FV235, VB235, -, -, CR235, -, NE235, st235⟩ := ldcCH X0 hx hZ hown (hw _ (List.mem_of_getElem? (i := 39) rfl)) wS e0 hS hk hEL (by decide) CH (vs := ((([(100 : Int32), (111 : Int32), (99 : Int32), (107 : Int32), (101 : Int32), (114 : Int32), (46 : Int32), (105 : Int32), (111 : Int32)] : List Int32).map (fun c => c.toInt8.toInt32)).map Value.int)) (z := (9 : Int32)) (by exact ⟨by decide, by decide⟩) (by decide) rfl (g := (mkF m 1 #[.val (.ref xx)] [(.ref xx)])) rfl (hb hby d8_1) (n := 36) (by decide) (by decide) (by decide) (by decide)
  replace CR := CR.trans CR235
  replace CH := CR235.1
  replace O0 := O0.ext E235
  replace F_x := F_x.ext E235
  have K236 := K0.ext E235
  have SS235 : own_Str Z h235 a235 tb235 ([(100 : Int32), (111 : Int32), (99 : Int32), (107 : Int32), (101 : Int32), (114 : Int32), (46 : Int32), (105 : Int32), (111 : Int32)] : List Int32) := ⟨_, _, _, _, EA235, FV235, FC235, VB235, StrChars.Road.codOf (n := 9) rfl (by decide), by decide, Nat.le_of_ble_eq_true rfl⟩
  refine own_go st235 ?_
  show own_Fin p.tables e below _ (T235.setTop (mkF m 3 #[.val (.ref xx)] [(.ref a235), (.ref xx)]))
  obtain ⟨cq237, kq237, qa237, qb237, qc237⟩ := isOf hZ e235 F_x.exa
  obtain ⟨_, _, ⟨T237, L237, k237, n237⟩, -, X237, ⟨Lc237, hQ237, l237, y237, z237⟩, st237⟩ := X235.virtualBack hx (y := (⟨"java/lang/String", "equals", "(Ljava/lang/Object;)Z"⟩ : MethodName)) (z := (⟨"java/lang/String", "equals", "(Ljava/lang/Object;)Z"⟩ : MethodName)) hown (mvT hZ (hw _ (List.mem_of_getElem? (i := 42) rfl))) (mvT hZ (hw _ (List.mem_of_getElem? (i := 43) rfl))) (own_notface (args := #[]) (mvT hZ (hw _ (List.mem_of_getElem? (i := 45) rfl))) rfl) (mvT hZ (hw _ (List.mem_of_getElem? (i := 45) rfl))) (mvT hZ (hw _ (List.mem_of_getElem? (i := 44) rfl))) (by decide) (own_eqB (W := 0) hZ heq (hw _ (List.mem_of_getElem? (i := 7) rfl)) F_x SS235 (S_C.ext O0.2) hcs (by decide) (by decide)) qa237 qc237 (g := (mkF m 3 #[.val (.ref xx)] [(.ref a235), (.ref xx)])) rfl (by rw [hml]; rfl) (Steps.refl _) (argsL := [(.ref a235)]) (rest := []) (lenOf pd_10 rfl) rfl (by show 2 * 0 + _ ≤ _; exact Nat.le_of_eq rfl) (hb hby d8_3) (fun _ _ => ⟨rfl, e235, (by decide : 2 + 0 ≤ _), (by decide : 40 + 0 ≤ _)⟩)
  dsimp only [Pt.U, Pt.locs, Pt.cells, Pt.slots] at X237 l237 y237 z237 st237 hQ237
  subst l237 y237 z237
  obtain ⟨hq237, rfl, e237⟩ := hQ237
  obtain ⟨z237, rfl, hz237⟩ := own_eqv hq237
  have N237 := Fr.app N0 (Fr.nil n0)
  refine own_go (fun _ kk_ => st237.trans kk_) ?_
  show own_Fin p.tables e below _ (T237.setTop (mkF m 6 #[.val (.ref xx)] [(.int z237)]))
  by_cases hc238 : z237 = (0 : Int32)
  · skip
    refine own_go (fun _ kk_ => XS.ifYes X237.here hx rfl (pc0 := 6) (pc' := 14) rfl (hb hby d8_6) rfl ((if0 _ _).trans (teq hc238).1) (by decide) (by decide) kk_) ?_
    refine own_go (fun _ kk_ => XS.aloadN X237.here hx rfl (hb hby d8_14) rfl rfl kk_) ?_
    show own_Fin p.tables e below _ (T237.setTop (mkF m 15 #[.val (.ref xx)] [(.ref xx)]))
    have CRz : CHr Z consts_1 s.vm s.heap T237.vm T237.heap := by
      rw [hh, e237]
      exact CR.trans (CHv.at X237 hZ hEL CH)
    refine own_retW X237 hx Bd hS (show _ ≤ T237.heap.size by rw [e237]; exact hk) (t := (.object "java/lang/String")) Bd.returns rfl (Or.inr (Or.inr (Or.inr (Or.inr ⟨rfl, rfl, rfl⟩)))) (hb hby d8_15) CRz ?_ (by decide) (by decide)
    show (Q_rm_ah Z xx tt cs gc h0 n0) (some (.ref xx)) T237.heap _
    rw [e237]
    refine ⟨N237, K236, fun q => ?_, fun q => ?_⟩
    · rcases hz237 with ⟨q1, q2⟩ | ⟨q1, q2⟩
      · rw [q1] at hc238; exact absurd hc238 (by decide)
      · exact absurd q q2
    · rfl
  · skip
    refine own_go (fun _ kk_ => XS.ifNo X237.here hx rfl (hb hby d8_6) rfl ((if0 _ _).trans (feq hc238).1) kk_) ?_
    show own_Fin p.tables e below _ (T237.setTop (mkF m 9 #[.val (.ref xx)] []))
    obtain ⟨a239, T239, h239, k239, tb239, kb239, X239, e239, E239, hS, hk, hZ, hown, EA239, FC239, FV239, VB239, -, -, CR239, -, NE239, st239⟩ := ldcCH X237 hx hZ hown (hw _ (List.mem_of_getElem? (i := 54) rfl)) wS e237 hS hk hEL (by decide) CH (vs := ((([(114 : Int32), (101 : Int32), (103 : Int32), (105 : Int32), (115 : Int32), (116 : Int32), (114 : Int32), (121 : Int32), (45 : Int32), (49 : Int32), (46 : Int32), (100 : Int32), (111 : Int32), (99 : Int32), (107 : Int32), (101 : Int32), (114 : Int32), (46 : Int32), (105 : Int32), (111 : Int32)] : List Int32).map (fun c => c.toInt8.toInt32)).map Value.int)) (z := (20 : Int32)) (by exact ⟨by decide, by decide⟩) (by decide) rfl (g := (mkF m 9 #[.val (.ref xx)] [])) rfl (hb hby d8_9) (n := 80) (by decide) (by decide) (by decide) (by decide)
    replace CR := CR.trans CR239
    replace CH := CR239.1
    replace O0 := O0.ext E239
    replace F_x := F_x.ext E239
    replace SS235 := SS235.ext E239
    have K240 := K236.ext E239
    have SS239 : own_Str Z h239 a239 tb239 ([(114 : Int32), (101 : Int32), (103 : Int32), (105 : Int32), (115 : Int32), (116 : Int32), (114 : Int32), (121 : Int32), (45 : Int32), (49 : Int32), (46 : Int32), (100 : Int32), (111 : Int32), (99 : Int32), (107 : Int32), (101 : Int32), (114 : Int32), (46 : Int32), (105 : Int32), (111 : Int32)] : List Int32) := ⟨_, _, _, _, EA239, FV239, FC239, VB239, StrChars.Road.codOf (n := 20) rfl (by decide), by decide, Nat.le_of_ble_eq_true rfl⟩
    refine own_go st239 ?_
    refine own_go (fun _ kk_ => XS.goto X239.here hx rfl (pc0 := 11) (pc' := 15) rfl (hb hby d8_11) (by decide) (by decide) kk_) ?_
    show own_Fin p.tables e below _ (T239.setTop (mkF m 15 #[.val (.ref xx)] [(.ref a239)]))
    have CRz : CHr Z consts_1 s.vm s.heap T239.vm T239.heap := by
      rw [hh, e239]
      exact CR.trans (CHv.at X239 hZ hEL CH)
    refine own_retW X239 hx Bd hS (show _ ≤ T239.heap.size by rw [e239]; exact hk) (t := (.object "java/lang/String")) Bd.returns rfl (Or.inr (Or.inr (Or.inr (Or.inr ⟨rfl, rfl, rfl⟩)))) (hb hby d8_15) CRz ?_ (by decide) (by decide)
    show (Q_rm_ah Z xx tt cs gc h0 n0) (some (.ref a239)) T239.heap _
    rw [e239]
    refine ⟨N237, K240, fun q => ⟨_, _, rfl, SS239⟩, fun q => ?_⟩
    rcases hz237 with ⟨q1, q2⟩ | ⟨q1, q2⟩
    · exact absurd q2 q
    · exact absurd q1 hc238
def Q_rm_law (Z : State) (mo : Int32) (pa : Int32) (pb : Int32) (pc_ : Int32) (pd_ : Int32) (gc : Int32) (h0 : Heap) (n0 : Nat) (v : Option Value) (h : Heap) (L : List Loc) : Prop := v = some (.int 1) ∧ Fr n0 L
theorem ef_rm_law (m : MethodId) (mo : Int32) (pa : Int32) (pb : Int32) (pc_ : Int32) (pd_ : Int32) (gc : Int32) : entryFrame m #[(.int mo), (.int pa), (.int pb), (.int pc_), (.int pd_)] maxLocals = mkF m 0 #[.val (.int mo), .val (.int pa), .val (.int pb), .val (.int pc_), .val (.int pd_), .unset, .unset, .unset, .unset] [] := by first | (simp [entryFrame, mkF, argsToLocals, Value.category, maxLocals]; done) | rfl
set_option maxRecDepth 65536 in
set_option maxHeartbeats 40000000 in
theorem rm_law (l : Launch) (Z : State) (a0 : Array Value) (hw : ∀ d ∈ tables_1, d.before a0 Z = true) (ws : List Jvm.Cond) (hEL : EW Z a0 consts_1) (mo : Int32) (pa : Int32) (pb : Int32) (pc_ : Int32) (pd_ : Int32) (gc : Int32) (h0 : Heap) (n0 : Nat) (Z0 : n0 ≤ h0.size) (S_C : Sta Z Z.heap "java/lang/String" "COMPACT_STRINGS" "Z" (.int gc)) (hcs : ¬ gc = 0) (O0 : Old Z n0 h0) :
    MetFree l x (head1 (Jvm.Cond.code x code maxLocals ret :: ws) room_1) (fun a_ U_ => a_ = #[(.int mo), (.int pa), (.int pb), (.int pc_), (.int pd_)] ∧ Z.Warmed39 U_.vm ∧ U_.heap = h0 ∧ CHv Z consts_1 U_.vm h0) (fun _ _ _ _ _ => True) (fun _ U_ o_ V_ => ∃ v_ L_, o_ = .returned v_ ∧ (Q_rm_law Z mo pa pb pc_ pd_ gc h0 n0) v_ V_.heap L_ ∧ CHr Z consts_1 U_.vm U_.heap V_.vm V_.heap ∧ ReturnedEndW U_ o_ V_ L_ room_1.cells room_1.slots) := by
  refine MetFree.of_bodySF (plainFor_of_name pn_6) hisR ?_
  intro p e s m args below meth c s₁ Bd hml0 hP hK
  obtain ⟨rfl, hZ, hh, CH⟩ := hP
  have hx := Bd.exec
  have hby := Bd.bytes
  have hml : c.maxLocals = 9 := hml0
  have hown : s.vm.findClass "com/example/laminate/laminate/core/DefaultRegistryApiHostPinLaw" = some m.cls := findClass_of_methodNamed Bd.named
  have hnm := (name_of_methodNamed Bd.named Bd.method).1
  have wS : ∀ a ∈ Bundle.stringAtoms, a.before a0 Z = true := fun d hd => hw d ((by decide +kernel : ∀ d ∈ Bundle.stringAtoms, d ∈ tables_1) d hd)
  have X0 : Stand p l e room_1 (s.setVm s.vm) m #[(.int mo), (.int pa), (.int pb), (.int pc_), (.int pd_)] below meth c s₁ [] 0 0 := Stand.of_body Bd
  have e0 : s₁.heap = h0 := by rw [← hh, Bd.state]; rfl
  have N0 := Fr.nil n0
  have K0 : Keep h0 h0 [] := Keep.refl _ _
  replace hZ : Z.Warmed39 (s.setVm s.vm).vm := hZ
  replace hown : (s.setVm s.vm).vm.findClass "com/example/laminate/laminate/core/DefaultRegistryApiHostPinLaw" = some m.cls := hown
  have hS : s.Since s.vm h0.size := (State.WarmedH.refl s).since _
  have hk : h0.size ≤ h0.size := Nat.le_refl _
  have CR : CHr Z consts_1 s.vm h0 s.vm h0 := CHr.refl CH
  show own_Fin p.tables e below (own_PostW Z consts_1 (Q_rm_law Z mo pa pb pc_ pd_ gc h0 n0) room_1.cells room_1.slots below s) _
  refine own_go (fun _ kk_ => castTop (ef_rm_law m mo pa pb pc_ pd_ gc) kk_) ?_
  have heq : ∀ d ∈ StrChars.Road.wordsEq, d.before a0 Z = true := fun d hd => hw d ((by decide +kernel : ∀ d ∈ StrChars.Road.wordsEq, d ∈ tables_1) d hd)
  refine own_go (fun _ kk_ => XS.iloadN X0.here hx rfl (hb hby at_0) rfl kk_) ?_
  refine own_go (fun _ kk_ => XS.bipush X0.here hx rfl (hb hby at_1) kk_) ?_
  show own_Fin p.tables e below _ (s₁.setTop (mkF m 3 #[.val (.int mo), .val (.int pa), .val (.int pb), .val (.int pc_), .val (.int pd_), .unset, .unset, .unset, .unset] [(.int (7 : Int32)), (.int mo)]))
  refine own_go (fun _ kk_ => XS.iand X0.here hx rfl (hb hby at_3) rfl kk_) ?_
  refine own_go (fun _ kk_ => XS.iloadN X0.here hx rfl (hb hby at_4) rfl kk_) ?_
  refine own_go (fun _ kk_ => XS.iloadN X0.here hx rfl (hb hby at_5) rfl kk_) ?_
  refine own_go (fun _ kk_ => XS.iloadN X0.here hx rfl (hb hby at_6) rfl kk_) ?_
  refine own_go (fun _ kk_ => XS.iload X0.here hx rfl (hb hby at_7) rfl kk_) ?_
  show own_Fin p.tables e below _ (s₁.setTop (mkF m 9 #[.val (.int mo), .val (.int pa), .val (.int pb), .val (.int pc_), .val (.int pd_), .unset, .unset, .unset, .unset] [(.int pd_), (.int pc_), (.int pb), (.int pa), (.int (mo &&& (7 : Int32)))]))
  obtain ⟨_, _, ⟨T241, L241, k241, n241⟩, -, X241, hSn241, hgr241, ⟨Lc241, hQ241, l241, y241, z241, CR241⟩, st241⟩ := callSS X0 hx (y := (⟨"com/example/laminate/laminate/core/DefaultRegistryApiHostPinLaw", "draw", "(IIIII)Ljava/lang/String;"⟩ : MethodName)) hown (mvT hZ (hw _ (List.mem_of_getElem? (i := 0) rfl))) (mvT hZ (hw _ (List.mem_of_getElem? (i := 1) rfl))) (mvT hZ (hw _ (List.mem_of_getElem? (i := 2) rfl))) (mvT hZ (hw _ (List.mem_of_getElem? (i := 3) rfl))) (by decide) (backOfSH (s := s) (W := 0) (rm_dr l Z a0 hw [] hEL (mo &&& (7 : Int32)) pa pb pc_ pd_ gc h0 n0 (Nat.le_trans Z0 K0.1) S_C hcs O0) hZ (hw _ (List.mem_of_getElem? (i := 3) rfl)) (hw _ (List.mem_of_getElem? (i := 2) rfl)) (by decide) (by decide) hEL CH) (g := (mkF m 9 #[.val (.int mo), .val (.int pa), .val (.int pb), .val (.int pc_), .val (.int pd_), .unset, .unset, .unset, .unset] [(.int pd_), (.int pc_), (.int pb), (.int pa), (.int (mo &&& (7 : Int32)))])) rfl (by rw [hml]; rfl) (argsL := [(.int (mo &&& (7 : Int32))), (.int pa), (.int pb), (.int pc_), (.int pd_)]) (rest := []) (lenOf pd_11 rfl) rfl (by show 2 * 0 + _ ≤ _; exact Nat.le_of_eq rfl) (hb hby at_9) (fun _ _ => ⟨rfl, e0, (by decide : 0 + 6 ≤ _), (by decide : 0 + 120 ≤ _)⟩)
  dsimp only [Pt.U, Pt.locs, Pt.cells, Pt.slots] at X241 l241 y241 z241 st241 hQ241 hSn241 hgr241 CR241
  subst l241 y241 z241
  replace hS := foldS hS (show _ ≤ s₁.heap.size by rw [e0]; exact hk) hSn241 hgr241
  replace hk : T241.heap.size ≤ T241.heap.size := Nat.le_refl _
  replace hZ : Z.Warmed39 (s.setVm T241.vm).vm := State.Warmed39.trans (t := s.setVm s.vm) hZ hSn241.1
  replace hown : (s.setVm T241.vm).vm.findClass "com/example/laminate/laminate/core/DefaultRegistryApiHostPinLaw" = some m.cls := by rw [show (s.setVm T241.vm).vm = T241.vm from rfl, hSn241.1.alike.findClass]; exact hown
  replace X241 : Stand p l e room_1 (s.setVm T241.vm) m #[(.int mo), (.int pa), (.int pb), (.int pc_), (.int pd_)] below meth c T241 _ _ _ := X241
  replace CR := CR.trans CR241
  replace CH := CR241.1
  obtain ⟨xs, ts, css, rfl, N241q, KK241, SS241⟩ := hQ241
  have N241 := Fr.app N0 N241q
  replace O0 := O0.keep KK241 all0
  have K242 := K0.trans KK241 all0
  refine own_go (fun _ kk_ => st241.trans kk_) ?_
  refine own_go (fun _ kk_ => XS.astore X241.here hx rfl (hb hby at_12) rfl rfl (l' := #[.val (.int mo), .val (.int pa), .val (.int pb), .val (.int pc_), .val (.int pd_), .val (.ref xs), .unset, .unset, .unset]) rfl kk_) ?_
  show own_Fin p.tables e below _ (T241.setTop (mkF m 14 #[.val (.int mo), .val (.int pa), .val (.int pb), .val (.int pc_), .val (.int pd_), .val (.ref xs), .unset, .unset, .unset] []))
  by_cases hdk : css = ([(100 : Int32), (111 : Int32), (99 : Int32), (107 : Int32), (101 : Int32), (114 : Int32), (46 : Int32), (105 : Int32), (111 : Int32)] : List Int32)
  · skip
    refine own_go (fun _ kk_ => XS.aload X241.here hx rfl (hb hby at_14) rfl rfl kk_) ?_
    show own_Fin p.tables e below _ (T241.setTop (mkF m 16 #[.val (.int mo), .val (.int pa), .val (.int pb), .val (.int pc_), .val (.int pd_), .val (.ref xs), .unset, .unset, .unset] [(.ref xs)]))
    obtain ⟨_, _, ⟨T243, L243, k243, n243⟩, -, X243, hSn243, hgr243, ⟨Lc243, hQ243, l243, y243, z243, CR243⟩, st243⟩ := callSS X241 hx (y := (⟨"com/example/laminate/laminate/core/DefaultRegistry", "apiHost", "(Ljava/lang/String;)Ljava/lang/String;"⟩ : MethodName)) hown (mvT hZ (hw _ (List.mem_of_getElem? (i := 35) rfl))) (mvT hZ (hw _ (List.mem_of_getElem? (i := 36) rfl))) (mvT hZ (hw _ (List.mem_of_getElem? (i := 37) rfl))) (mvT hZ (hw _ (List.mem_of_getElem? (i := 38) rfl))) (by decide) (backOfSH (s := s) (W := 0) (rm_ah l Z a0 hw [] hEL xs ts css gc T241.heap n0 (Nat.le_trans Z0 K242.1) SS241 S_C hcs O0) hZ (hw _ (List.mem_of_getElem? (i := 38) rfl)) (hw _ (List.mem_of_getElem? (i := 37) rfl)) (by decide) (by decide) hEL CH) (g := (mkF m 16 #[.val (.int mo), .val (.int pa), .val (.int pb), .val (.int pc_), .val (.int pd_), .val (.ref xs), .unset, .unset, .unset] [(.ref xs)])) rfl (by rw [hml]; rfl) (argsL := [(.ref xs)]) (rest := []) (lenOf pd_12 rfl) rfl (by show 2 * 0 + _ ≤ _; exact Nat.le_of_eq rfl) (hb hby at_16) (fun _ _ => ⟨rfl, rfl, (by decide : 6 + 4 ≤ _), (by decide : 120 + 124 ≤ _)⟩)
    dsimp only [Pt.U, Pt.locs, Pt.cells, Pt.slots] at X243 l243 y243 z243 st243 hQ243 hSn243 hgr243 CR243
    subst l243 y243 z243
    replace hS := foldS hS hk hSn243 hgr243
    replace hk : T243.heap.size ≤ T243.heap.size := Nat.le_refl _
    replace hZ : Z.Warmed39 (s.setVm T243.vm).vm := State.Warmed39.trans (t := s.setVm T241.vm) hZ hSn243.1
    replace hown : (s.setVm T243.vm).vm.findClass "com/example/laminate/laminate/core/DefaultRegistryApiHostPinLaw" = some m.cls := by rw [show (s.setVm T243.vm).vm = T243.vm from rfl, hSn243.1.alike.findClass]; exact hown
    replace X243 : Stand p l e room_1 (s.setVm T243.vm) m #[(.int mo), (.int pa), (.int pb), (.int pc_), (.int pd_)] below meth c T243 _ _ _ := X243
    replace CR := CR.trans CR243
    replace CH := CR243.1
    obtain ⟨N243q, KK243, hy243, hn243⟩ := hQ243
    have N243 := Fr.app N241 N243q
    obtain ⟨ra243, rb243, rfl, SR243⟩ := hy243 hdk
    replace O0 := O0.keep KK243 all0
    replace SS241 := SS241.keep KK243 nin0 nin0
    have K244 := K242.trans KK243 all0
    refine own_go (fun _ kk_ => st243.trans kk_) ?_
    refine own_go (fun _ kk_ => XS.astore X243.here hx rfl (hb hby at_19) rfl rfl (l' := #[.val (.int mo), .val (.int pa), .val (.int pb), .val (.int pc_), .val (.int pd_), .val (.ref xs), .val (.ref ra243), .unset, .unset]) rfl kk_) ?_
    refine own_go (fun _ kk_ => XS.aload X243.here hx rfl (hb hby at_21) rfl rfl kk_) ?_
    show own_Fin p.tables e below _ (T243.setTop (mkF m 23 #[.val (.int mo), .val (.int pa), .val (.int pb), .val (.int pc_), .val (.int pd_), .val (.ref xs), .val (.ref ra243), .unset, .unset] [(.ref ra243)]))
    refine own_go (fun _ kk_ => XS.ifnonnullYes X243.here hx rfl (pc0 := 23) (pc' := 28) rfl (hb hby at_23) rfl (by decide) (by decide) kk_) ?_
    refine own_go (fun _ kk_ => XS.aload X243.here hx rfl (hb hby at_28) rfl rfl kk_) ?_
    show own_Fin p.tables e below _ (T243.setTop (mkF m 30 #[.val (.int mo), .val (.int pa), .val (.int pb), .val (.int pc_), .val (.int pd_), .val (.ref xs), .val (.ref ra243), .unset, .unset] [(.ref xs)]))
    obtain ⟨a245, T245, h245, k245, tb245, kb245, X245, e245, E245, hS, hk, hZ, hown, EA245, FC245, FV245, VB245, -, -, CR245, -, NE245, st245⟩ := ldcCH X243 hx hZ hown (hw _ (List.mem_of_getElem? (i := 52) rfl)) wS rfl hS hk hEL (by decide) CH (vs := ((([(100 : Int32), (111 : Int32), (99 : Int32), (107 : Int32), (101 : Int32), (114 : Int32), (46 : Int32), (105 : Int32), (111 : Int32)] : List Int32).map (fun c => c.toInt8.toInt32)).map Value.int)) (z := (9 : Int32)) (by exact ⟨by decide, by decide⟩) (by decide) rfl (g := (mkF m 30 #[.val (.int mo), .val (.int pa), .val (.int pb), .val (.int pc_), .val (.int pd_), .val (.ref xs), .val (.ref ra243), .unset, .unset] [(.ref xs)])) rfl (hb hby at_30) (n := 36) (by decide) (by decide) (by decide) (by decide)
    replace CR := CR.trans CR245
    replace CH := CR245.1
    replace O0 := O0.ext E245
    replace SS241 := SS241.ext E245
    replace SR243 := SR243.ext E245
    have K246 := K244.ext E245
    have SS245 : own_Str Z h245 a245 tb245 ([(100 : Int32), (111 : Int32), (99 : Int32), (107 : Int32), (101 : Int32), (114 : Int32), (46 : Int32), (105 : Int32), (111 : Int32)] : List Int32) := ⟨_, _, _, _, EA245, FV245, FC245, VB245, StrChars.Road.codOf (n := 9) rfl (by decide), by decide, Nat.le_of_ble_eq_true rfl⟩
    refine own_go st245 ?_
    show own_Fin p.tables e below _ (T245.setTop (mkF m 32 #[.val (.int mo), .val (.int pa), .val (.int pb), .val (.int pc_), .val (.int pd_), .val (.ref xs), .val (.ref ra243), .unset, .unset] [(.ref a245), (.ref xs)]))
    obtain ⟨cq247, kq247, qa247, qb247, qc247⟩ := isOf hZ e245 SS241.exa
    obtain ⟨_, _, ⟨T247, L247, k247, n247⟩, -, X247, ⟨Lc247, hQ247, l247, y247, z247⟩, st247⟩ := X245.virtualBack hx (y := (⟨"java/lang/String", "equals", "(Ljava/lang/Object;)Z"⟩ : MethodName)) (z := (⟨"java/lang/String", "equals", "(Ljava/lang/Object;)Z"⟩ : MethodName)) hown (mvT hZ (hw _ (List.mem_of_getElem? (i := 53) rfl))) (mvT hZ (hw _ (List.mem_of_getElem? (i := 43) rfl))) (own_notface (args := #[]) (mvT hZ (hw _ (List.mem_of_getElem? (i := 45) rfl))) rfl) (mvT hZ (hw _ (List.mem_of_getElem? (i := 45) rfl))) (mvT hZ (hw _ (List.mem_of_getElem? (i := 44) rfl))) (by decide) (own_eqB (W := 0) hZ heq (hw _ (List.mem_of_getElem? (i := 7) rfl)) SS241 SS245 (S_C.ext O0.2) hcs (by decide) (by decide)) qa247 qc247 (g := (mkF m 32 #[.val (.int mo), .val (.int pa), .val (.int pb), .val (.int pc_), .val (.int pd_), .val (.ref xs), .val (.ref ra243), .unset, .unset] [(.ref a245), (.ref xs)])) rfl (by rw [hml]; rfl) (Steps.refl _) (argsL := [(.ref a245)]) (rest := []) (lenOf pd_10 rfl) rfl (by show 2 * 0 + _ ≤ _; exact Nat.le_of_eq rfl) (hb hby at_32) (fun _ _ => ⟨rfl, e245, (by decide : 12 + 0 ≤ _), (by decide : 284 + 0 ≤ _)⟩)
    dsimp only [Pt.U, Pt.locs, Pt.cells, Pt.slots] at X247 l247 y247 z247 st247 hQ247
    subst l247 y247 z247
    obtain ⟨hq247, rfl, e247⟩ := hQ247
    obtain ⟨z247, rfl, hz247⟩ := own_eqv hq247
    have N247 := Fr.app N243 (Fr.nil n0)
    obtain rfl : z247 = 1 := hz247.elim (fun q => q.1) (fun q => absurd hdk q.2)
    refine own_go (fun _ kk_ => st247.trans kk_) ?_
    show own_Fin p.tables e below _ (T247.setTop (mkF m 35 #[.val (.int mo), .val (.int pa), .val (.int pb), .val (.int pc_), .val (.int pd_), .val (.ref xs), .val (.ref ra243), .unset, .unset] [(.int (1 : Int32))]))
    refine own_go (fun _ kk_ => XS.ifNo X247.here hx rfl (hb hby at_35) rfl ((if0 _ _).trans (feq (by decide : ¬ (1 : Int32) = (0 : Int32))).1) kk_) ?_
    refine own_go (fun _ kk_ => XS.aload X247.here hx rfl (hb hby at_38) rfl rfl kk_) ?_
    show own_Fin p.tables e below _ (T247.setTop (mkF m 40 #[.val (.int mo), .val (.int pa), .val (.int pb), .val (.int pc_), .val (.int pd_), .val (.ref xs), .val (.ref ra243), .unset, .unset] [(.ref ra243)]))
    obtain ⟨a248, T248, h248, k248, tb248, kb248, X248, e248, E248, hS, hk, hZ, hown, EA248, FC248, FV248, VB248, -, -, CR248, -, NE248, st248⟩ := ldcCH X247 hx hZ hown (hw _ (List.mem_of_getElem? (i := 55) rfl)) wS e247 hS hk hEL (by decide) CH (vs := ((([(114 : Int32), (101 : Int32), (103 : Int32), (105 : Int32), (115 : Int32), (116 : Int32), (114 : Int32), (121 : Int32), (45 : Int32), (49 : Int32), (46 : Int32), (100 : Int32), (111 : Int32), (99 : Int32), (107 : Int32), (101 : Int32), (114 : Int32), (46 : Int32), (105 : Int32), (111 : Int32)] : List Int32).map (fun c => c.toInt8.toInt32)).map Value.int)) (z := (20 : Int32)) (by exact ⟨by decide, by decide⟩) (by decide) rfl (g := (mkF m 40 #[.val (.int mo), .val (.int pa), .val (.int pb), .val (.int pc_), .val (.int pd_), .val (.ref xs), .val (.ref ra243), .unset, .unset] [(.ref ra243)])) rfl (hb hby at_40) (n := 80) (by decide) (by decide) (by decide) (by decide)
    replace CR := CR.trans CR248
    replace CH := CR248.1
    replace O0 := O0.ext E248
    replace SS241 := SS241.ext E248
    replace SR243 := SR243.ext E248
    replace SS245 := SS245.ext E248
    have K249 := K246.ext E248
    have SS248 : own_Str Z h248 a248 tb248 ([(114 : Int32), (101 : Int32), (103 : Int32), (105 : Int32), (115 : Int32), (116 : Int32), (114 : Int32), (121 : Int32), (45 : Int32), (49 : Int32), (46 : Int32), (100 : Int32), (111 : Int32), (99 : Int32), (107 : Int32), (101 : Int32), (114 : Int32), (46 : Int32), (105 : Int32), (111 : Int32)] : List Int32) := ⟨_, _, _, _, EA248, FV248, FC248, VB248, StrChars.Road.codOf (n := 20) rfl (by decide), by decide, Nat.le_of_ble_eq_true rfl⟩
    refine own_go st248 ?_
    show own_Fin p.tables e below _ (T248.setTop (mkF m 42 #[.val (.int mo), .val (.int pa), .val (.int pb), .val (.int pc_), .val (.int pd_), .val (.ref xs), .val (.ref ra243), .unset, .unset] [(.ref a248), (.ref ra243)]))
    obtain ⟨cq250, kq250, qa250, qb250, qc250⟩ := isOf hZ e248 SR243.exa
    obtain ⟨_, _, ⟨T250, L250, k250, n250⟩, -, X250, ⟨Lc250, hQ250, l250, y250, z250⟩, st250⟩ := X248.virtualBack hx (y := (⟨"java/lang/String", "equals", "(Ljava/lang/Object;)Z"⟩ : MethodName)) (z := (⟨"java/lang/String", "equals", "(Ljava/lang/Object;)Z"⟩ : MethodName)) hown (mvT hZ (hw _ (List.mem_of_getElem? (i := 53) rfl))) (mvT hZ (hw _ (List.mem_of_getElem? (i := 43) rfl))) (own_notface (args := #[]) (mvT hZ (hw _ (List.mem_of_getElem? (i := 45) rfl))) rfl) (mvT hZ (hw _ (List.mem_of_getElem? (i := 45) rfl))) (mvT hZ (hw _ (List.mem_of_getElem? (i := 44) rfl))) (by decide) (own_eqB (W := 0) hZ heq (hw _ (List.mem_of_getElem? (i := 7) rfl)) SR243 SS248 (S_C.ext O0.2) hcs (by decide) (by decide)) qa250 qc250 (g := (mkF m 42 #[.val (.int mo), .val (.int pa), .val (.int pb), .val (.int pc_), .val (.int pd_), .val (.ref xs), .val (.ref ra243), .unset, .unset] [(.ref a248), (.ref ra243)])) rfl (by rw [hml]; rfl) (Steps.refl _) (argsL := [(.ref a248)]) (rest := []) (lenOf pd_10 rfl) rfl (by show 2 * 0 + _ ≤ _; exact Nat.le_of_eq rfl) (hb hby at_42) (fun _ _ => ⟨rfl, e248, (by decide : 14 + 0 ≤ _), (by decide : 368 + 0 ≤ _)⟩)
    dsimp only [Pt.U, Pt.locs, Pt.cells, Pt.slots] at X250 l250 y250 z250 st250 hQ250
    subst l250 y250 z250
    obtain ⟨hq250, rfl, e250⟩ := hQ250
    obtain ⟨z250, rfl, hz250⟩ := own_eqv hq250
    have N250 := Fr.app N247 (Fr.nil n0)
    obtain rfl : z250 = 1 := hz250.elim (fun q => q.1) (fun q => absurd rfl q.2)
    refine own_go (fun _ kk_ => st250.trans kk_) ?_
    refine own_go (fun _ kk_ => XS.istore X250.here hx rfl (hb hby at_45) rfl (l' := #[.val (.int mo), .val (.int pa), .val (.int pb), .val (.int pc_), .val (.int pd_), .val (.ref xs), .val (.ref ra243), .val (.int (1 : Int32)), .unset]) rfl kk_) ?_
    refine own_go (fun _ kk_ => XS.goto X250.here hx rfl (pc0 := 47) (pc' := 59) rfl (hb hby at_47) (by decide) (by decide) kk_) ?_
    refine own_go (fun _ kk_ => XS.aload X250.here hx rfl (hb hby at_59) rfl rfl kk_) ?_
    show own_Fin p.tables e below _ (T250.setTop (mkF m 61 #[.val (.int mo), .val (.int pa), .val (.int pb), .val (.int pc_), .val (.int pd_), .val (.ref xs), .val (.ref ra243), .val (.int (1 : Int32)), .unset] [(.ref ra243)]))
    obtain ⟨a251, T251, h251, k251, tb251, kb251, X251, e251, E251, hS, hk, hZ, hown, EA251, FC251, FV251, VB251, -, -, CR251, -, NE251, st251⟩ := ldcCH X250 hx hZ hown (hw _ (List.mem_of_getElem? (i := 52) rfl)) wS e250 hS hk hEL (by decide) CH (vs := ((([(100 : Int32), (111 : Int32), (99 : Int32), (107 : Int32), (101 : Int32), (114 : Int32), (46 : Int32), (105 : Int32), (111 : Int32)] : List Int32).map (fun c => c.toInt8.toInt32)).map Value.int)) (z := (9 : Int32)) (by exact ⟨by decide, by decide⟩) (by decide) rfl (g := (mkF m 61 #[.val (.int mo), .val (.int pa), .val (.int pb), .val (.int pc_), .val (.int pd_), .val (.ref xs), .val (.ref ra243), .val (.int (1 : Int32)), .unset] [(.ref ra243)])) rfl (hb hby at_61) (n := 36) (by decide) (by decide) (by decide) (by decide)
    replace CR := CR.trans CR251
    replace CH := CR251.1
    replace O0 := O0.ext E251
    replace SS241 := SS241.ext E251
    replace SR243 := SR243.ext E251
    replace SS245 := SS245.ext E251
    replace SS248 := SS248.ext E251
    have K252 := K249.ext E251
    have SS251 : own_Str Z h251 a251 tb251 ([(100 : Int32), (111 : Int32), (99 : Int32), (107 : Int32), (101 : Int32), (114 : Int32), (46 : Int32), (105 : Int32), (111 : Int32)] : List Int32) := ⟨_, _, _, _, EA251, FV251, FC251, VB251, StrChars.Road.codOf (n := 9) rfl (by decide), by decide, Nat.le_of_ble_eq_true rfl⟩
    refine own_go st251 ?_
    show own_Fin p.tables e below _ (T251.setTop (mkF m 63 #[.val (.int mo), .val (.int pa), .val (.int pb), .val (.int pc_), .val (.int pd_), .val (.ref xs), .val (.ref ra243), .val (.int (1 : Int32)), .unset] [(.ref a251), (.ref ra243)]))
    obtain ⟨cq253, kq253, qa253, qb253, qc253⟩ := isOf hZ e251 SR243.exa
    obtain ⟨_, _, ⟨T253, L253, k253, n253⟩, -, X253, ⟨Lc253, hQ253, l253, y253, z253⟩, st253⟩ := X251.virtualBack hx (y := (⟨"java/lang/String", "equals", "(Ljava/lang/Object;)Z"⟩ : MethodName)) (z := (⟨"java/lang/String", "equals", "(Ljava/lang/Object;)Z"⟩ : MethodName)) hown (mvT hZ (hw _ (List.mem_of_getElem? (i := 53) rfl))) (mvT hZ (hw _ (List.mem_of_getElem? (i := 43) rfl))) (own_notface (args := #[]) (mvT hZ (hw _ (List.mem_of_getElem? (i := 45) rfl))) rfl) (mvT hZ (hw _ (List.mem_of_getElem? (i := 45) rfl))) (mvT hZ (hw _ (List.mem_of_getElem? (i := 44) rfl))) (by decide) (own_eqB (W := 0) hZ heq (hw _ (List.mem_of_getElem? (i := 7) rfl)) SR243 SS251 (S_C.ext O0.2) hcs (by decide) (by decide)) qa253 qc253 (g := (mkF m 63 #[.val (.int mo), .val (.int pa), .val (.int pb), .val (.int pc_), .val (.int pd_), .val (.ref xs), .val (.ref ra243), .val (.int (1 : Int32)), .unset] [(.ref a251), (.ref ra243)])) rfl (by rw [hml]; rfl) (Steps.refl _) (argsL := [(.ref a251)]) (rest := []) (lenOf pd_10 rfl) rfl (by show 2 * 0 + _ ≤ _; exact Nat.le_of_eq rfl) (hb hby at_63) (fun _ _ => ⟨rfl, e251, (by decide : 16 + 0 ≤ _), (by decide : 408 + 0 ≤ _)⟩)
    dsimp only [Pt.U, Pt.locs, Pt.cells, Pt.slots] at X253 l253 y253 z253 st253 hQ253
    subst l253 y253 z253
    obtain ⟨hq253, rfl, e253⟩ := hQ253
    obtain ⟨z253, rfl, hz253⟩ := own_eqv hq253
    have N253 := Fr.app N250 (Fr.nil n0)
    obtain rfl : z253 = 0 := hz253.elim (fun q => absurd q.2 (by decide)) (fun q => q.1)
    refine own_go (fun _ kk_ => st253.trans kk_) ?_
    show own_Fin p.tables e below _ (T253.setTop (mkF m 66 #[.val (.int mo), .val (.int pa), .val (.int pb), .val (.int pc_), .val (.int pd_), .val (.ref xs), .val (.ref ra243), .val (.int (1 : Int32)), .unset] [(.int (0 : Int32))]))
    refine own_go (fun _ kk_ => XS.ifYes X253.here hx rfl (pc0 := 66) (pc' := 71) rfl (hb hby at_66) rfl ((if0 _ _).trans (teq (by decide : (0 : Int32) = (0 : Int32))).1) (by decide) (by decide) kk_) ?_
    refine own_go (fun _ kk_ => XS.aload X253.here hx rfl (hb hby at_71) rfl rfl kk_) ?_
    show own_Fin p.tables e below _ (T253.setTop (mkF m 73 #[.val (.int mo), .val (.int pa), .val (.int pb), .val (.int pc_), .val (.int pd_), .val (.ref xs), .val (.ref ra243), .val (.int (1 : Int32)), .unset] [(.ref ra243)]))
    obtain ⟨_, _, ⟨T254, L254, k254, n254⟩, -, X254, hSn254, hgr254, ⟨Lc254, hQ254, l254, y254, z254, CR254⟩, st254⟩ := callSS X253 hx (y := (⟨"com/example/laminate/laminate/core/DefaultRegistry", "apiHost", "(Ljava/lang/String;)Ljava/lang/String;"⟩ : MethodName)) hown (mvT hZ (hw _ (List.mem_of_getElem? (i := 35) rfl))) (mvT hZ (hw _ (List.mem_of_getElem? (i := 36) rfl))) (mvT hZ (hw _ (List.mem_of_getElem? (i := 37) rfl))) (mvT hZ (hw _ (List.mem_of_getElem? (i := 38) rfl))) (by decide) (backOfSH (s := s) (W := 0) (rm_ah l Z a0 hw [] hEL ra243 rb243 ([(114 : Int32), (101 : Int32), (103 : Int32), (105 : Int32), (115 : Int32), (116 : Int32), (114 : Int32), (121 : Int32), (45 : Int32), (49 : Int32), (46 : Int32), (100 : Int32), (111 : Int32), (99 : Int32), (107 : Int32), (101 : Int32), (114 : Int32), (46 : Int32), (105 : Int32), (111 : Int32)] : List Int32) gc h251 n0 (Nat.le_trans Z0 K252.1) SR243 S_C hcs O0) hZ (hw _ (List.mem_of_getElem? (i := 38) rfl)) (hw _ (List.mem_of_getElem? (i := 37) rfl)) (by decide) (by decide) hEL CH) (g := (mkF m 73 #[.val (.int mo), .val (.int pa), .val (.int pb), .val (.int pc_), .val (.int pd_), .val (.ref xs), .val (.ref ra243), .val (.int (1 : Int32)), .unset] [(.ref ra243)])) rfl (by rw [hml]; rfl) (argsL := [(.ref ra243)]) (rest := []) (lenOf pd_12 rfl) rfl (by show 2 * 0 + _ ≤ _; exact Nat.le_of_eq rfl) (hb hby at_73) (fun _ _ => ⟨rfl, e253, (by decide : 16 + 4 ≤ _), (by decide : 408 + 124 ≤ _)⟩)
    dsimp only [Pt.U, Pt.locs, Pt.cells, Pt.slots] at X254 l254 y254 z254 st254 hQ254 hSn254 hgr254 CR254
    subst l254 y254 z254
    replace hS := foldS hS (show _ ≤ T253.heap.size by rw [e253]; exact hk) hSn254 hgr254
    replace hk : T254.heap.size ≤ T254.heap.size := Nat.le_refl _
    replace hZ : Z.Warmed39 (s.setVm T254.vm).vm := State.Warmed39.trans (t := s.setVm T251.vm) hZ hSn254.1
    replace hown : (s.setVm T254.vm).vm.findClass "com/example/laminate/laminate/core/DefaultRegistryApiHostPinLaw" = some m.cls := by rw [show (s.setVm T254.vm).vm = T254.vm from rfl, hSn254.1.alike.findClass]; exact hown
    replace X254 : Stand p l e room_1 (s.setVm T254.vm) m #[(.int mo), (.int pa), (.int pb), (.int pc_), (.int pd_)] below meth c T254 _ _ _ := X254
    replace CR := CR.trans CR254
    replace CH := CR254.1
    obtain ⟨N254q, KK254, hy254, hn254⟩ := hQ254
    have N254 := Fr.app N253 N254q
    obtain rfl := hn254 (by decide)
    replace O0 := O0.keep KK254 all0
    replace SS241 := SS241.keep KK254 nin0 nin0
    replace SR243 := SR243.keep KK254 nin0 nin0
    replace SS245 := SS245.keep KK254 nin0 nin0
    replace SS248 := SS248.keep KK254 nin0 nin0
    replace SS251 := SS251.keep KK254 nin0 nin0
    have K255 := K252.trans KK254 all0
    refine own_go (fun _ kk_ => st254.trans kk_) ?_
    refine own_go (fun _ kk_ => XS.astore X254.here hx rfl (hb hby at_76) rfl rfl (l' := #[.val (.int mo), .val (.int pa), .val (.int pb), .val (.int pc_), .val (.int pd_), .val (.ref xs), .val (.ref ra243), .val (.int (1 : Int32)), .val (.ref ra243)]) rfl kk_) ?_
    refine own_go (fun _ kk_ => XS.iload X254.here hx rfl (hb hby at_78) rfl kk_) ?_
    show own_Fin p.tables e below _ (T254.setTop (mkF m 80 #[.val (.int mo), .val (.int pa), .val (.int pb), .val (.int pc_), .val (.int pd_), .val (.ref xs), .val (.ref ra243), .val (.int (1 : Int32)), .val (.ref ra243)] [(.int (1 : Int32))]))
    refine own_go (fun _ kk_ => XS.ifNo X254.here hx rfl (hb hby at_80) rfl ((if0 _ _).trans (feq (by decide : ¬ (1 : Int32) = (0 : Int32))).1) kk_) ?_
    refine own_go (fun _ kk_ => XS.aload X254.here hx rfl (hb hby at_83) rfl rfl kk_) ?_
    show own_Fin p.tables e below _ (T254.setTop (mkF m 85 #[.val (.int mo), .val (.int pa), .val (.int pb), .val (.int pc_), .val (.int pd_), .val (.ref xs), .val (.ref ra243), .val (.int (1 : Int32)), .val (.ref ra243)] [(.ref ra243)]))
    refine own_go (fun _ kk_ => XS.ifnullNo X254.here hx rfl (hb hby at_85) rfl kk_) ?_
    refine own_go (fun _ kk_ => XS.aload X254.here hx rfl (hb hby at_88) rfl rfl kk_) ?_
    refine own_go (fun _ kk_ => XS.aload X254.here hx rfl (hb hby at_90) rfl rfl kk_) ?_
    show own_Fin p.tables e below _ (T254.setTop (mkF m 92 #[.val (.int mo), .val (.int pa), .val (.int pb), .val (.int pc_), .val (.int pd_), .val (.ref xs), .val (.ref ra243), .val (.int (1 : Int32)), .val (.ref ra243)] [(.ref ra243), (.ref ra243)]))
    obtain ⟨cq256, kq256, qa256, qb256, qc256⟩ := isOf hZ rfl SR243.exa
    obtain ⟨_, _, ⟨T256, L256, k256, n256⟩, -, X256, ⟨Lc256, hQ256, l256, y256, z256⟩, st256⟩ := X254.virtualBack hx (y := (⟨"java/lang/String", "equals", "(Ljava/lang/Object;)Z"⟩ : MethodName)) (z := (⟨"java/lang/String", "equals", "(Ljava/lang/Object;)Z"⟩ : MethodName)) hown (mvT hZ (hw _ (List.mem_of_getElem? (i := 53) rfl))) (mvT hZ (hw _ (List.mem_of_getElem? (i := 43) rfl))) (own_notface (args := #[]) (mvT hZ (hw _ (List.mem_of_getElem? (i := 45) rfl))) rfl) (mvT hZ (hw _ (List.mem_of_getElem? (i := 45) rfl))) (mvT hZ (hw _ (List.mem_of_getElem? (i := 44) rfl))) (by decide) (own_eqB (W := 0) hZ heq (hw _ (List.mem_of_getElem? (i := 7) rfl)) SR243 SR243 (S_C.ext O0.2) hcs (by decide) (by decide)) qa256 qc256 (g := (mkF m 92 #[.val (.int mo), .val (.int pa), .val (.int pb), .val (.int pc_), .val (.int pd_), .val (.ref xs), .val (.ref ra243), .val (.int (1 : Int32)), .val (.ref ra243)] [(.ref ra243), (.ref ra243)])) rfl (by rw [hml]; rfl) (Steps.refl _) (argsL := [(.ref ra243)]) (rest := []) (lenOf pd_10 rfl) rfl (by show 2 * 0 + _ ≤ _; exact Nat.le_of_eq rfl) (hb hby at_92) (fun _ _ => ⟨rfl, rfl, (by decide : 20 + 0 ≤ _), (by decide : 532 + 0 ≤ _)⟩)
    dsimp only [Pt.U, Pt.locs, Pt.cells, Pt.slots] at X256 l256 y256 z256 st256 hQ256
    subst l256 y256 z256
    obtain ⟨hq256, rfl, e256⟩ := hQ256
    obtain ⟨z256, rfl, hz256⟩ := own_eqv hq256
    have N256 := Fr.app N254 (Fr.nil n0)
    obtain rfl : z256 = 1 := hz256.elim (fun q => q.1) (fun q => absurd rfl q.2)
    refine own_go (fun _ kk_ => st256.trans kk_) ?_
    show own_Fin p.tables e below _ (T256.setTop (mkF m 95 #[.val (.int mo), .val (.int pa), .val (.int pb), .val (.int pc_), .val (.int pd_), .val (.ref xs), .val (.ref ra243), .val (.int (1 : Int32)), .val (.ref ra243)] [(.int (1 : Int32))]))
    refine own_go (fun _ kk_ => XS.ifNo X256.here hx rfl (hb hby at_95) rfl ((if0 _ _).trans (feq (by decide : ¬ (1 : Int32) = (0 : Int32))).1) kk_) ?_
    refine own_go (fun _ kk_ => XS.iconst X256.here hx rfl (hb hby at_98) kk_) ?_
    refine own_go (fun _ kk_ => XS.goto X256.here hx rfl (pc0 := 99) (pc' := 103) rfl (hb hby at_99) (by decide) (by decide) kk_) ?_
    show own_Fin p.tables e below _ (T256.setTop (mkF m 103 #[.val (.int mo), .val (.int pa), .val (.int pb), .val (.int pc_), .val (.int pd_), .val (.ref xs), .val (.ref ra243), .val (.int (1 : Int32)), .val (.ref ra243)] [(.int (1 : Int32))]))
    have CRz : CHr Z consts_1 s.vm s.heap T256.vm T256.heap := by
      rw [hh, e256]
      exact CR.trans (CHv.at X256 hZ hEL CH)
    refine own_retW X256 hx Bd hS (show _ ≤ T256.heap.size by rw [e256]; exact hk) (t := .boolean) Bd.returns rfl (Or.inl ⟨rfl, by simp, _, rfl⟩) (hb hby at_103) CRz ?_ (by decide) (by decide)
    show (Q_rm_law Z mo pa pb pc_ pd_ gc h0 n0) (some (.int (1 : Int32))) T256.heap _
    rw [e256]
    exact ⟨rfl, N256⟩
  · skip
    refine own_go (fun _ kk_ => XS.aload X241.here hx rfl (hb hby at_14) rfl rfl kk_) ?_
    show own_Fin p.tables e below _ (T241.setTop (mkF m 16 #[.val (.int mo), .val (.int pa), .val (.int pb), .val (.int pc_), .val (.int pd_), .val (.ref xs), .unset, .unset, .unset] [(.ref xs)]))
    obtain ⟨_, _, ⟨T257, L257, k257, n257⟩, -, X257, hSn257, hgr257, ⟨Lc257, hQ257, l257, y257, z257, CR257⟩, st257⟩ := callSS X241 hx (y := (⟨"com/example/laminate/laminate/core/DefaultRegistry", "apiHost", "(Ljava/lang/String;)Ljava/lang/String;"⟩ : MethodName)) hown (mvT hZ (hw _ (List.mem_of_getElem? (i := 35) rfl))) (mvT hZ (hw _ (List.mem_of_getElem? (i := 36) rfl))) (mvT hZ (hw _ (List.mem_of_getElem? (i := 37) rfl))) (mvT hZ (hw _ (List.mem_of_getElem? (i := 38) rfl))) (by decide) (backOfSH (s := s) (W := 0) (rm_ah l Z a0 hw [] hEL xs ts css gc T241.heap n0 (Nat.le_trans Z0 K242.1) SS241 S_C hcs O0) hZ (hw _ (List.mem_of_getElem? (i := 38) rfl)) (hw _ (List.mem_of_getElem? (i := 37) rfl)) (by decide) (by decide) hEL CH) (g := (mkF m 16 #[.val (.int mo), .val (.int pa), .val (.int pb), .val (.int pc_), .val (.int pd_), .val (.ref xs), .unset, .unset, .unset] [(.ref xs)])) rfl (by rw [hml]; rfl) (argsL := [(.ref xs)]) (rest := []) (lenOf pd_12 rfl) rfl (by show 2 * 0 + _ ≤ _; exact Nat.le_of_eq rfl) (hb hby at_16) (fun _ _ => ⟨rfl, rfl, (by decide : 6 + 4 ≤ _), (by decide : 120 + 124 ≤ _)⟩)
    dsimp only [Pt.U, Pt.locs, Pt.cells, Pt.slots] at X257 l257 y257 z257 st257 hQ257 hSn257 hgr257 CR257
    subst l257 y257 z257
    replace hS := foldS hS hk hSn257 hgr257
    replace hk : T257.heap.size ≤ T257.heap.size := Nat.le_refl _
    replace hZ : Z.Warmed39 (s.setVm T257.vm).vm := State.Warmed39.trans (t := s.setVm T241.vm) hZ hSn257.1
    replace hown : (s.setVm T257.vm).vm.findClass "com/example/laminate/laminate/core/DefaultRegistryApiHostPinLaw" = some m.cls := by rw [show (s.setVm T257.vm).vm = T257.vm from rfl, hSn257.1.alike.findClass]; exact hown
    replace X257 : Stand p l e room_1 (s.setVm T257.vm) m #[(.int mo), (.int pa), (.int pb), (.int pc_), (.int pd_)] below meth c T257 _ _ _ := X257
    replace CR := CR.trans CR257
    replace CH := CR257.1
    obtain ⟨N257q, KK257, hy257, hn257⟩ := hQ257
    have N257 := Fr.app N241 N257q
    obtain rfl := hn257 hdk
    replace O0 := O0.keep KK257 all0
    replace SS241 := SS241.keep KK257 nin0 nin0
    have K258 := K242.trans KK257 all0
    refine own_go (fun _ kk_ => st257.trans kk_) ?_
    refine own_go (fun _ kk_ => XS.astore X257.here hx rfl (hb hby at_19) rfl rfl (l' := #[.val (.int mo), .val (.int pa), .val (.int pb), .val (.int pc_), .val (.int pd_), .val (.ref xs), .val (.ref xs), .unset, .unset]) rfl kk_) ?_
    refine own_go (fun _ kk_ => XS.aload X257.here hx rfl (hb hby at_21) rfl rfl kk_) ?_
    show own_Fin p.tables e below _ (T257.setTop (mkF m 23 #[.val (.int mo), .val (.int pa), .val (.int pb), .val (.int pc_), .val (.int pd_), .val (.ref xs), .val (.ref xs), .unset, .unset] [(.ref xs)]))
    refine own_go (fun _ kk_ => XS.ifnonnullYes X257.here hx rfl (pc0 := 23) (pc' := 28) rfl (hb hby at_23) rfl (by decide) (by decide) kk_) ?_
    refine own_go (fun _ kk_ => XS.aload X257.here hx rfl (hb hby at_28) rfl rfl kk_) ?_
    show own_Fin p.tables e below _ (T257.setTop (mkF m 30 #[.val (.int mo), .val (.int pa), .val (.int pb), .val (.int pc_), .val (.int pd_), .val (.ref xs), .val (.ref xs), .unset, .unset] [(.ref xs)]))
    obtain ⟨a259, T259, h259, k259, tb259, kb259, X259, e259, E259, hS, hk, hZ, hown, EA259, FC259, FV259, VB259, -, -, CR259, -, NE259, st259⟩ := ldcCH X257 hx hZ hown (hw _ (List.mem_of_getElem? (i := 52) rfl)) wS rfl hS hk hEL (by decide) CH (vs := ((([(100 : Int32), (111 : Int32), (99 : Int32), (107 : Int32), (101 : Int32), (114 : Int32), (46 : Int32), (105 : Int32), (111 : Int32)] : List Int32).map (fun c => c.toInt8.toInt32)).map Value.int)) (z := (9 : Int32)) (by exact ⟨by decide, by decide⟩) (by decide) rfl (g := (mkF m 30 #[.val (.int mo), .val (.int pa), .val (.int pb), .val (.int pc_), .val (.int pd_), .val (.ref xs), .val (.ref xs), .unset, .unset] [(.ref xs)])) rfl (hb hby at_30) (n := 36) (by decide) (by decide) (by decide) (by decide)
    replace CR := CR.trans CR259
    replace CH := CR259.1
    replace O0 := O0.ext E259
    replace SS241 := SS241.ext E259
    have K260 := K258.ext E259
    have SS259 : own_Str Z h259 a259 tb259 ([(100 : Int32), (111 : Int32), (99 : Int32), (107 : Int32), (101 : Int32), (114 : Int32), (46 : Int32), (105 : Int32), (111 : Int32)] : List Int32) := ⟨_, _, _, _, EA259, FV259, FC259, VB259, StrChars.Road.codOf (n := 9) rfl (by decide), by decide, Nat.le_of_ble_eq_true rfl⟩
    refine own_go st259 ?_
    show own_Fin p.tables e below _ (T259.setTop (mkF m 32 #[.val (.int mo), .val (.int pa), .val (.int pb), .val (.int pc_), .val (.int pd_), .val (.ref xs), .val (.ref xs), .unset, .unset] [(.ref a259), (.ref xs)]))
    obtain ⟨cq261, kq261, qa261, qb261, qc261⟩ := isOf hZ e259 SS241.exa
    obtain ⟨_, _, ⟨T261, L261, k261, n261⟩, -, X261, ⟨Lc261, hQ261, l261, y261, z261⟩, st261⟩ := X259.virtualBack hx (y := (⟨"java/lang/String", "equals", "(Ljava/lang/Object;)Z"⟩ : MethodName)) (z := (⟨"java/lang/String", "equals", "(Ljava/lang/Object;)Z"⟩ : MethodName)) hown (mvT hZ (hw _ (List.mem_of_getElem? (i := 53) rfl))) (mvT hZ (hw _ (List.mem_of_getElem? (i := 43) rfl))) (own_notface (args := #[]) (mvT hZ (hw _ (List.mem_of_getElem? (i := 45) rfl))) rfl) (mvT hZ (hw _ (List.mem_of_getElem? (i := 45) rfl))) (mvT hZ (hw _ (List.mem_of_getElem? (i := 44) rfl))) (by decide) (own_eqB (W := 0) hZ heq (hw _ (List.mem_of_getElem? (i := 7) rfl)) SS241 SS259 (S_C.ext O0.2) hcs (by decide) (by decide)) qa261 qc261 (g := (mkF m 32 #[.val (.int mo), .val (.int pa), .val (.int pb), .val (.int pc_), .val (.int pd_), .val (.ref xs), .val (.ref xs), .unset, .unset] [(.ref a259), (.ref xs)])) rfl (by rw [hml]; rfl) (Steps.refl _) (argsL := [(.ref a259)]) (rest := []) (lenOf pd_10 rfl) rfl (by show 2 * 0 + _ ≤ _; exact Nat.le_of_eq rfl) (hb hby at_32) (fun _ _ => ⟨rfl, e259, (by decide : 12 + 0 ≤ _), (by decide : 284 + 0 ≤ _)⟩)
    dsimp only [Pt.U, Pt.locs, Pt.cells, Pt.slots] at X261 l261 y261 z261 st261 hQ261
    subst l261 y261 z261
    obtain ⟨hq261, rfl, e261⟩ := hQ261
    obtain ⟨z261, rfl, hz261⟩ := own_eqv hq261
    have N261 := Fr.app N257 (Fr.nil n0)
    obtain rfl : z261 = 0 := hz261.elim (fun q => absurd q.2 hdk) (fun q => q.1)
    refine own_go (fun _ kk_ => st261.trans kk_) ?_
    show own_Fin p.tables e below _ (T261.setTop (mkF m 35 #[.val (.int mo), .val (.int pa), .val (.int pb), .val (.int pc_), .val (.int pd_), .val (.ref xs), .val (.ref xs), .unset, .unset] [(.int (0 : Int32))]))
    refine own_go (fun _ kk_ => XS.ifYes X261.here hx rfl (pc0 := 35) (pc' := 50) rfl (hb hby at_35) rfl ((if0 _ _).trans (teq (by decide : (0 : Int32) = (0 : Int32))).1) (by decide) (by decide) kk_) ?_
    refine own_go (fun _ kk_ => XS.aload X261.here hx rfl (hb hby at_50) rfl rfl kk_) ?_
    refine own_go (fun _ kk_ => XS.aload X261.here hx rfl (hb hby at_52) rfl rfl kk_) ?_
    show own_Fin p.tables e below _ (T261.setTop (mkF m 54 #[.val (.int mo), .val (.int pa), .val (.int pb), .val (.int pc_), .val (.int pd_), .val (.ref xs), .val (.ref xs), .unset, .unset] [(.ref xs), (.ref xs)]))
    obtain ⟨cq262, kq262, qa262, qb262, qc262⟩ := isOf hZ e261 SS241.exa
    obtain ⟨_, _, ⟨T262, L262, k262, n262⟩, -, X262, ⟨Lc262, hQ262, l262, y262, z262⟩, st262⟩ := X261.virtualBack hx (y := (⟨"java/lang/String", "equals", "(Ljava/lang/Object;)Z"⟩ : MethodName)) (z := (⟨"java/lang/String", "equals", "(Ljava/lang/Object;)Z"⟩ : MethodName)) hown (mvT hZ (hw _ (List.mem_of_getElem? (i := 53) rfl))) (mvT hZ (hw _ (List.mem_of_getElem? (i := 43) rfl))) (own_notface (args := #[]) (mvT hZ (hw _ (List.mem_of_getElem? (i := 45) rfl))) rfl) (mvT hZ (hw _ (List.mem_of_getElem? (i := 45) rfl))) (mvT hZ (hw _ (List.mem_of_getElem? (i := 44) rfl))) (by decide) (own_eqB (W := 0) hZ heq (hw _ (List.mem_of_getElem? (i := 7) rfl)) SS241 SS241 (S_C.ext O0.2) hcs (by decide) (by decide)) qa262 qc262 (g := (mkF m 54 #[.val (.int mo), .val (.int pa), .val (.int pb), .val (.int pc_), .val (.int pd_), .val (.ref xs), .val (.ref xs), .unset, .unset] [(.ref xs), (.ref xs)])) rfl (by rw [hml]; rfl) (Steps.refl _) (argsL := [(.ref xs)]) (rest := []) (lenOf pd_10 rfl) rfl (by show 2 * 0 + _ ≤ _; exact Nat.le_of_eq rfl) (hb hby at_54) (fun _ _ => ⟨rfl, e261, (by decide : 12 + 0 ≤ _), (by decide : 284 + 0 ≤ _)⟩)
    dsimp only [Pt.U, Pt.locs, Pt.cells, Pt.slots] at X262 l262 y262 z262 st262 hQ262
    subst l262 y262 z262
    obtain ⟨hq262, rfl, e262⟩ := hQ262
    obtain ⟨z262, rfl, hz262⟩ := own_eqv hq262
    have N262 := Fr.app N261 (Fr.nil n0)
    obtain rfl : z262 = 1 := hz262.elim (fun q => q.1) (fun q => absurd rfl q.2)
    refine own_go (fun _ kk_ => st262.trans kk_) ?_
    refine own_go (fun _ kk_ => XS.istore X262.here hx rfl (hb hby at_57) rfl (l' := #[.val (.int mo), .val (.int pa), .val (.int pb), .val (.int pc_), .val (.int pd_), .val (.ref xs), .val (.ref xs), .val (.int (1 : Int32)), .unset]) rfl kk_) ?_
    refine own_go (fun _ kk_ => XS.aload X262.here hx rfl (hb hby at_59) rfl rfl kk_) ?_
    show own_Fin p.tables e below _ (T262.setTop (mkF m 61 #[.val (.int mo), .val (.int pa), .val (.int pb), .val (.int pc_), .val (.int pd_), .val (.ref xs), .val (.ref xs), .val (.int (1 : Int32)), .unset] [(.ref xs)]))
    obtain ⟨a263, T263, h263, k263, tb263, kb263, X263, e263, E263, hS, hk, hZ, hown, EA263, FC263, FV263, VB263, -, -, CR263, -, NE263, st263⟩ := ldcCH X262 hx hZ hown (hw _ (List.mem_of_getElem? (i := 52) rfl)) wS e262 hS hk hEL (by decide) CH (vs := ((([(100 : Int32), (111 : Int32), (99 : Int32), (107 : Int32), (101 : Int32), (114 : Int32), (46 : Int32), (105 : Int32), (111 : Int32)] : List Int32).map (fun c => c.toInt8.toInt32)).map Value.int)) (z := (9 : Int32)) (by exact ⟨by decide, by decide⟩) (by decide) rfl (g := (mkF m 61 #[.val (.int mo), .val (.int pa), .val (.int pb), .val (.int pc_), .val (.int pd_), .val (.ref xs), .val (.ref xs), .val (.int (1 : Int32)), .unset] [(.ref xs)])) rfl (hb hby at_61) (n := 36) (by decide) (by decide) (by decide) (by decide)
    replace CR := CR.trans CR263
    replace CH := CR263.1
    replace O0 := O0.ext E263
    replace SS241 := SS241.ext E263
    replace SS259 := SS259.ext E263
    have K264 := K260.ext E263
    have SS263 : own_Str Z h263 a263 tb263 ([(100 : Int32), (111 : Int32), (99 : Int32), (107 : Int32), (101 : Int32), (114 : Int32), (46 : Int32), (105 : Int32), (111 : Int32)] : List Int32) := ⟨_, _, _, _, EA263, FV263, FC263, VB263, StrChars.Road.codOf (n := 9) rfl (by decide), by decide, Nat.le_of_ble_eq_true rfl⟩
    refine own_go st263 ?_
    show own_Fin p.tables e below _ (T263.setTop (mkF m 63 #[.val (.int mo), .val (.int pa), .val (.int pb), .val (.int pc_), .val (.int pd_), .val (.ref xs), .val (.ref xs), .val (.int (1 : Int32)), .unset] [(.ref a263), (.ref xs)]))
    obtain ⟨cq265, kq265, qa265, qb265, qc265⟩ := isOf hZ e263 SS241.exa
    obtain ⟨_, _, ⟨T265, L265, k265, n265⟩, -, X265, ⟨Lc265, hQ265, l265, y265, z265⟩, st265⟩ := X263.virtualBack hx (y := (⟨"java/lang/String", "equals", "(Ljava/lang/Object;)Z"⟩ : MethodName)) (z := (⟨"java/lang/String", "equals", "(Ljava/lang/Object;)Z"⟩ : MethodName)) hown (mvT hZ (hw _ (List.mem_of_getElem? (i := 53) rfl))) (mvT hZ (hw _ (List.mem_of_getElem? (i := 43) rfl))) (own_notface (args := #[]) (mvT hZ (hw _ (List.mem_of_getElem? (i := 45) rfl))) rfl) (mvT hZ (hw _ (List.mem_of_getElem? (i := 45) rfl))) (mvT hZ (hw _ (List.mem_of_getElem? (i := 44) rfl))) (by decide) (own_eqB (W := 0) hZ heq (hw _ (List.mem_of_getElem? (i := 7) rfl)) SS241 SS263 (S_C.ext O0.2) hcs (by decide) (by decide)) qa265 qc265 (g := (mkF m 63 #[.val (.int mo), .val (.int pa), .val (.int pb), .val (.int pc_), .val (.int pd_), .val (.ref xs), .val (.ref xs), .val (.int (1 : Int32)), .unset] [(.ref a263), (.ref xs)])) rfl (by rw [hml]; rfl) (Steps.refl _) (argsL := [(.ref a263)]) (rest := []) (lenOf pd_10 rfl) rfl (by show 2 * 0 + _ ≤ _; exact Nat.le_of_eq rfl) (hb hby at_63) (fun _ _ => ⟨rfl, e263, (by decide : 14 + 0 ≤ _), (by decide : 324 + 0 ≤ _)⟩)
    dsimp only [Pt.U, Pt.locs, Pt.cells, Pt.slots] at X265 l265 y265 z265 st265 hQ265
    subst l265 y265 z265
    obtain ⟨hq265, rfl, e265⟩ := hQ265
    obtain ⟨z265, rfl, hz265⟩ := own_eqv hq265
    have N265 := Fr.app N262 (Fr.nil n0)
    obtain rfl : z265 = 0 := hz265.elim (fun q => absurd q.2 hdk) (fun q => q.1)
    refine own_go (fun _ kk_ => st265.trans kk_) ?_
    show own_Fin p.tables e below _ (T265.setTop (mkF m 66 #[.val (.int mo), .val (.int pa), .val (.int pb), .val (.int pc_), .val (.int pd_), .val (.ref xs), .val (.ref xs), .val (.int (1 : Int32)), .unset] [(.int (0 : Int32))]))
    refine own_go (fun _ kk_ => XS.ifYes X265.here hx rfl (pc0 := 66) (pc' := 71) rfl (hb hby at_66) rfl ((if0 _ _).trans (teq (by decide : (0 : Int32) = (0 : Int32))).1) (by decide) (by decide) kk_) ?_
    refine own_go (fun _ kk_ => XS.aload X265.here hx rfl (hb hby at_71) rfl rfl kk_) ?_
    show own_Fin p.tables e below _ (T265.setTop (mkF m 73 #[.val (.int mo), .val (.int pa), .val (.int pb), .val (.int pc_), .val (.int pd_), .val (.ref xs), .val (.ref xs), .val (.int (1 : Int32)), .unset] [(.ref xs)]))
    obtain ⟨_, _, ⟨T266, L266, k266, n266⟩, -, X266, hSn266, hgr266, ⟨Lc266, hQ266, l266, y266, z266, CR266⟩, st266⟩ := callSS X265 hx (y := (⟨"com/example/laminate/laminate/core/DefaultRegistry", "apiHost", "(Ljava/lang/String;)Ljava/lang/String;"⟩ : MethodName)) hown (mvT hZ (hw _ (List.mem_of_getElem? (i := 35) rfl))) (mvT hZ (hw _ (List.mem_of_getElem? (i := 36) rfl))) (mvT hZ (hw _ (List.mem_of_getElem? (i := 37) rfl))) (mvT hZ (hw _ (List.mem_of_getElem? (i := 38) rfl))) (by decide) (backOfSH (s := s) (W := 0) (rm_ah l Z a0 hw [] hEL xs ts css gc h263 n0 (Nat.le_trans Z0 K264.1) SS241 S_C hcs O0) hZ (hw _ (List.mem_of_getElem? (i := 38) rfl)) (hw _ (List.mem_of_getElem? (i := 37) rfl)) (by decide) (by decide) hEL CH) (g := (mkF m 73 #[.val (.int mo), .val (.int pa), .val (.int pb), .val (.int pc_), .val (.int pd_), .val (.ref xs), .val (.ref xs), .val (.int (1 : Int32)), .unset] [(.ref xs)])) rfl (by rw [hml]; rfl) (argsL := [(.ref xs)]) (rest := []) (lenOf pd_12 rfl) rfl (by show 2 * 0 + _ ≤ _; exact Nat.le_of_eq rfl) (hb hby at_73) (fun _ _ => ⟨rfl, e265, (by decide : 14 + 4 ≤ _), (by decide : 324 + 124 ≤ _)⟩)
    dsimp only [Pt.U, Pt.locs, Pt.cells, Pt.slots] at X266 l266 y266 z266 st266 hQ266 hSn266 hgr266 CR266
    subst l266 y266 z266
    replace hS := foldS hS (show _ ≤ T265.heap.size by rw [e265]; exact hk) hSn266 hgr266
    replace hk : T266.heap.size ≤ T266.heap.size := Nat.le_refl _
    replace hZ : Z.Warmed39 (s.setVm T266.vm).vm := State.Warmed39.trans (t := s.setVm T263.vm) hZ hSn266.1
    replace hown : (s.setVm T266.vm).vm.findClass "com/example/laminate/laminate/core/DefaultRegistryApiHostPinLaw" = some m.cls := by rw [show (s.setVm T266.vm).vm = T266.vm from rfl, hSn266.1.alike.findClass]; exact hown
    replace X266 : Stand p l e room_1 (s.setVm T266.vm) m #[(.int mo), (.int pa), (.int pb), (.int pc_), (.int pd_)] below meth c T266 _ _ _ := X266
    replace CR := CR.trans CR266
    replace CH := CR266.1
    obtain ⟨N266q, KK266, hy266, hn266⟩ := hQ266
    have N266 := Fr.app N265 N266q
    obtain rfl := hn266 hdk
    replace O0 := O0.keep KK266 all0
    replace SS241 := SS241.keep KK266 nin0 nin0
    replace SS259 := SS259.keep KK266 nin0 nin0
    replace SS263 := SS263.keep KK266 nin0 nin0
    have K267 := K264.trans KK266 all0
    refine own_go (fun _ kk_ => st266.trans kk_) ?_
    refine own_go (fun _ kk_ => XS.astore X266.here hx rfl (hb hby at_76) rfl rfl (l' := #[.val (.int mo), .val (.int pa), .val (.int pb), .val (.int pc_), .val (.int pd_), .val (.ref xs), .val (.ref xs), .val (.int (1 : Int32)), .val (.ref xs)]) rfl kk_) ?_
    refine own_go (fun _ kk_ => XS.iload X266.here hx rfl (hb hby at_78) rfl kk_) ?_
    show own_Fin p.tables e below _ (T266.setTop (mkF m 80 #[.val (.int mo), .val (.int pa), .val (.int pb), .val (.int pc_), .val (.int pd_), .val (.ref xs), .val (.ref xs), .val (.int (1 : Int32)), .val (.ref xs)] [(.int (1 : Int32))]))
    refine own_go (fun _ kk_ => XS.ifNo X266.here hx rfl (hb hby at_80) rfl ((if0 _ _).trans (feq (by decide : ¬ (1 : Int32) = (0 : Int32))).1) kk_) ?_
    refine own_go (fun _ kk_ => XS.aload X266.here hx rfl (hb hby at_83) rfl rfl kk_) ?_
    show own_Fin p.tables e below _ (T266.setTop (mkF m 85 #[.val (.int mo), .val (.int pa), .val (.int pb), .val (.int pc_), .val (.int pd_), .val (.ref xs), .val (.ref xs), .val (.int (1 : Int32)), .val (.ref xs)] [(.ref xs)]))
    refine own_go (fun _ kk_ => XS.ifnullNo X266.here hx rfl (hb hby at_85) rfl kk_) ?_
    refine own_go (fun _ kk_ => XS.aload X266.here hx rfl (hb hby at_88) rfl rfl kk_) ?_
    refine own_go (fun _ kk_ => XS.aload X266.here hx rfl (hb hby at_90) rfl rfl kk_) ?_
    show own_Fin p.tables e below _ (T266.setTop (mkF m 92 #[.val (.int mo), .val (.int pa), .val (.int pb), .val (.int pc_), .val (.int pd_), .val (.ref xs), .val (.ref xs), .val (.int (1 : Int32)), .val (.ref xs)] [(.ref xs), (.ref xs)]))
    obtain ⟨cq268, kq268, qa268, qb268, qc268⟩ := isOf hZ rfl SS241.exa
    obtain ⟨_, _, ⟨T268, L268, k268, n268⟩, -, X268, ⟨Lc268, hQ268, l268, y268, z268⟩, st268⟩ := X266.virtualBack hx (y := (⟨"java/lang/String", "equals", "(Ljava/lang/Object;)Z"⟩ : MethodName)) (z := (⟨"java/lang/String", "equals", "(Ljava/lang/Object;)Z"⟩ : MethodName)) hown (mvT hZ (hw _ (List.mem_of_getElem? (i := 53) rfl))) (mvT hZ (hw _ (List.mem_of_getElem? (i := 43) rfl))) (own_notface (args := #[]) (mvT hZ (hw _ (List.mem_of_getElem? (i := 45) rfl))) rfl) (mvT hZ (hw _ (List.mem_of_getElem? (i := 45) rfl))) (mvT hZ (hw _ (List.mem_of_getElem? (i := 44) rfl))) (by decide) (own_eqB (W := 0) hZ heq (hw _ (List.mem_of_getElem? (i := 7) rfl)) SS241 SS241 (S_C.ext O0.2) hcs (by decide) (by decide)) qa268 qc268 (g := (mkF m 92 #[.val (.int mo), .val (.int pa), .val (.int pb), .val (.int pc_), .val (.int pd_), .val (.ref xs), .val (.ref xs), .val (.int (1 : Int32)), .val (.ref xs)] [(.ref xs), (.ref xs)])) rfl (by rw [hml]; rfl) (Steps.refl _) (argsL := [(.ref xs)]) (rest := []) (lenOf pd_10 rfl) rfl (by show 2 * 0 + _ ≤ _; exact Nat.le_of_eq rfl) (hb hby at_92) (fun _ _ => ⟨rfl, rfl, (by decide : 18 + 0 ≤ _), (by decide : 448 + 0 ≤ _)⟩)
    dsimp only [Pt.U, Pt.locs, Pt.cells, Pt.slots] at X268 l268 y268 z268 st268 hQ268
    subst l268 y268 z268
    obtain ⟨hq268, rfl, e268⟩ := hQ268
    obtain ⟨z268, rfl, hz268⟩ := own_eqv hq268
    have N268 := Fr.app N266 (Fr.nil n0)
    obtain rfl : z268 = 1 := hz268.elim (fun q => q.1) (fun q => absurd rfl q.2)
    refine own_go (fun _ kk_ => st268.trans kk_) ?_
    show own_Fin p.tables e below _ (T268.setTop (mkF m 95 #[.val (.int mo), .val (.int pa), .val (.int pb), .val (.int pc_), .val (.int pd_), .val (.ref xs), .val (.ref xs), .val (.int (1 : Int32)), .val (.ref xs)] [(.int (1 : Int32))]))
    refine own_go (fun _ kk_ => XS.ifNo X268.here hx rfl (hb hby at_95) rfl ((if0 _ _).trans (feq (by decide : ¬ (1 : Int32) = (0 : Int32))).1) kk_) ?_
    refine own_go (fun _ kk_ => XS.iconst X268.here hx rfl (hb hby at_98) kk_) ?_
    refine own_go (fun _ kk_ => XS.goto X268.here hx rfl (pc0 := 99) (pc' := 103) rfl (hb hby at_99) (by decide) (by decide) kk_) ?_
    show own_Fin p.tables e below _ (T268.setTop (mkF m 103 #[.val (.int mo), .val (.int pa), .val (.int pb), .val (.int pc_), .val (.int pd_), .val (.ref xs), .val (.ref xs), .val (.int (1 : Int32)), .val (.ref xs)] [(.int (1 : Int32))]))
    have CRz : CHr Z consts_1 s.vm s.heap T268.vm T268.heap := by
      rw [hh, e268]
      exact CR.trans (CHv.at X268 hZ hEL CH)
    refine own_retW X268 hx Bd hS (show _ ≤ T268.heap.size by rw [e268]; exact hk) (t := .boolean) Bd.returns rfl (Or.inl ⟨rfl, by simp, _, rfl⟩) (hb hby at_103) CRz ?_ (by decide) (by decide)
    show (Q_rm_law Z mo pa pb pc_ pd_ gc h0 n0) (some (.int (1 : Int32))) T268.heap _
    rw [e268]
    exact ⟨rfl, N268⟩
section OwnStart
variable {args : Array Value} {s : State}
theorem own_eqL {t : Term} {c : Int64} (h : (Jvm.Cond.eq t (.long c)).value args s none s [] = some true) : t.eval args s none [] s = some (.long c) := by
  obtain ⟨x, y, hx, hy, k1, -⟩ := cmp_v (Or.inl h)
  cases Option.some.inj (hy.symm.trans (long_at c))
  cases x <;> simp [Kin, Value.isRef] at k1
  have q := gotT (eq_L hx hy) h
  rw [hx, q]
theorem own_eqI {t : Term} {c : Int32} (h : (Jvm.Cond.eq t (.int c)).value args s none s [] = some true) : t.eval args s none [] s = some (.int c) := by
  obtain ⟨x, y, hx, hy, k1, -⟩ := cmp_v (Or.inl h)
  cases Option.some.inj (hy.symm.trans (Term.int_eval c))
  cases x <;> simp [Kin, Value.isRef] at k1
  have q := gotT (Cond.eq_ints hx hy) h
  rw [hx, q]
theorem own_eqR {t u : Term} {a : Addr} (hu : u.eval args s none [] s = some (.ref a)) (h : (Jvm.Cond.eq t u).value args s none s [] = some true) : t.eval args s none [] s = some (.ref a) := by
  obtain ⟨x, y, hx, hy, k1, -⟩ := cmp_v (Or.inl h)
  cases Option.some.inj (hy.symm.trans hu)
  have hr : x.isRef = true := by cases x <;> simp [Kin, Value.isRef] at k1 ⊢
  have q := gotT (eq_R hx hy hr rfl) h
  rw [hx, q]
theorem own_arr {t : Term} {a : Addr} {ty : FieldType} {N : Int32} (ev : t.eval args s none [] s = some (.ref a)) (h1 : (Jvm.Cond.arrayOf t ty).value args s none s [] = some true) (h2 : (Jvm.Cond.eq (Term.length t) (.int N)).value args s none s [] = some true) :
    ∃ cl, Arr s s.heap a cl ty ∧ s.arrayAt? a = some cl ∧ cl.slots.size < 2 ^ 31 ∧ cl.slots.size.toInt32 = N := by
  obtain ⟨cl, A⟩ := Arr.start ev h1
  have aa : s.arrayAt? a = some cl := A.fin (hal := Vm.Alike.refl _)
  have hlen := own_eqI h2
  simp only [Term.eval, ev, Option.bind_eq_bind, Option.bind_some, aa] at hlen
  split at hlen
  · rename_i q; exact ⟨cl, A, aa, q, by simpa using hlen⟩
  · cases hlen
theorem own_elL {t : Term} {a : Addr} {cl : Cell} {j : Int32} {c : Int64} (ev : t.eval args s none [] s = some (.ref a)) (aa : s.arrayAt? a = some cl) (hj : ¬ j < 0) (h : (Jvm.Cond.eq (Term.elem t (.int j)) (.long c)).value args s none s [] = some true) : cl.slots[j.toNatClampNeg]? = some (.long c) := by
  have q := own_eqL h
  rwa [elem_f ev (Term.int_eval j) aa hj] at q
theorem own_elI {t : Term} {a : Addr} {cl : Cell} {j : Int32} {c : Int32} (ev : t.eval args s none [] s = some (.ref a)) (aa : s.arrayAt? a = some cl) (hj : ¬ j < 0) (h : (Jvm.Cond.eq (Term.elem t (.int j)) (.int c)).value args s none s [] = some true) : cl.slots[j.toNatClampNeg]? = some (.int c) := by
  have q := own_eqI h
  rwa [elem_f ev (Term.int_eval j) aa hj] at q
theorem own_elR {t u : Term} {a b : Addr} {cl : Cell} {j : Int32} (ev : t.eval args s none [] s = some (.ref a)) (aa : s.arrayAt? a = some cl) (hj : ¬ j < 0) (hu : u.eval args s none [] s = some (.ref b)) (h : (Jvm.Cond.eq (Term.elem t (.int j)) u).value args s none s [] = some true) : cl.slots[j.toNatClampNeg]? = some (.ref b) := by
  have q := own_eqR hu h
  rwa [elem_f ev (Term.int_eval j) aa hj] at q
end OwnStart
set_option maxRecDepth 65536 in
set_option maxHeartbeats 40000000 in
theorem comes_1 {Post : Tables → Env → Array Value → State → Outcome → State → Prop} (hpost : ∀ tb e args s v u, (limb_1_1.after args s (.returned v) u = true ∧ limb_1_2.after args s (.returned v) u = true ∧ True) → ReturnedEndW s (.returned v) u (Jvm.fieldLocs frame_1_writes args s ++ Jvm.arrayLocs frame_1_arrays args s ++ Jvm.staticLocs frame_1_statics s) 32 6336 → Post tb e args s (.returned v) u) :
    ArmFor flags0 classFile x code maxLocals ret World_1 tables_1 room_1 Calls_1 rest_1 Pre_1 Post := by
  intro l hfl _ _ p e ha hc hk s m args below hf hA hF happ hP
  obtain ⟨hcalls, hrest, hpre⟩ := hP
  obtain ⟨-, -, -, hnamed, -, -, -, hat⟩ := (Spec.applies_iff hf).mp happ
  obtain ⟨hg, hn⟩ := and_e (Cond.before_iff.mp (show (Jvm.Cond.and given_1 narrow_1).before args s = true from hpre))
  obtain ⟨h1, hg⟩ := and_e hg
  obtain ⟨g0, hg⟩ := and_e hg
  obtain ⟨g1, hg⟩ := and_e hg
  obtain ⟨g2, hg⟩ := and_e hg
  obtain ⟨g3, hg⟩ := and_e hg
  obtain ⟨w0, w1, w2, w3, w4, rfl⟩ : ∃ w0 w1 w2 w3 w4 : Value, args = #[w0, w1, w2, w3, w4] := by
    have hs : args.size = 5 := by simpa [Cond.value, given_1] using h1
    obtain ⟨L⟩ := args
    match L, hs with
    | [w0, w1, w2, w3, w4], _ => exact ⟨w0, w1, w2, w3, w4, rfl⟩
  have hw := fun d (hd : d ∈ tables_1) => atoms_spec (ws := Jvm.Cond.code x code maxLocals ret :: tables_1) hat d (List.mem_cons_of_mem _ hd)
  obtain ⟨hsets, hown0⟩ := atoms_of _ (rest_1_c_eq ▸ (show rest_1_c.before _ s = true from hrest))
  have hfit : Fit s := fun {y c} hc i hi => by
    obtain ⟨ha, rfl⟩ := Array.getElem?_eq_some_iff.mp hc
    have q := List.all_eq_true.mp ((Array.all_eq_true_iff_forall_mem.mp hF) _ (Array.getElem_mem ha)) i (List.mem_range.mpr hi)
    simpa [Array.getElem?_eq_getElem hi] using q
  obtain ⟨i0, e0⟩ := is_v g0
  obtain rfl : w0 = (.int i0) := Option.some.inj e0
  obtain ⟨i1, e1⟩ := is_v g1
  obtain rfl : w1 = (.int i1) := Option.some.inj e1
  obtain ⟨i2, e2⟩ := is_v g2
  obtain rfl : w2 = (.int i2) := Option.some.inj e2
  obtain ⟨i3, e3⟩ := is_v g3
  obtain rfl : w3 = (.int i3) := Option.some.inj e3
  obtain ⟨i4, e4⟩ := is_v hg
  obtain rfl : w4 = (.int i4) := Option.some.inj e4
  have n5 := not_v (Cond.before_iff.mp (hsets _ (List.mem_of_getElem? (i := 2) rfl)))
  obtain ⟨gc, e10⟩ := is_v (Cond.before_iff.mp (hsets _ (List.mem_of_getElem? (i := 1) rfl)))
  have SC : Sta s s.heap "java/lang/String" "COMPACT_STRINGS" "Z" (.int gc) := Sta.start e10 (Or.inl (hsets _ (List.mem_of_getElem? (i := 0) rfl)))
  have hcs : ¬ (gc = (0 : Int32)) := gotF (Cond.eq_ints e10 (Term.int_eval (0))) n5
  obtain ⟨gs, e14, hgs⟩ := isR_v (Cond.before_iff.mp (hsets _ (List.mem_of_getElem? (i := 8) rfl)))
  have SF : Sta s s.heap "jdk/internal/util/Preconditions" "SIOOBE_FORMATTER" "Ljava/util/function/BiFunction;" gs := Sta.start e14 (Or.inl (hsets _ (List.mem_of_getElem? (i := 7) rfl)))
  have hEL : EW s _ consts_1 := (EW.cons (hw _ (List.mem_of_getElem? (i := 39) rfl)) (by decide) (EW.cons (hw _ (List.mem_of_getElem? (i := 54) rfl)) (by decide) (EW.cons (hw _ (List.mem_of_getElem? (i := 69) rfl)) (by decide) (EW.cons (hw _ (List.mem_of_getElem? (i := 55) rfl)) (by decide) (EW.cons (hw _ (List.mem_of_getElem? (i := 52) rfl)) (by decide) (EW.cons (hw _ (List.mem_of_getElem? (i := 68) rfl)) (by decide) EW.nil))))))
  have CH0 := CHv.start hEL (fun p hp => hcalls.1 p hp) (hsets _ (List.mem_of_getElem? (i := 2) rfl)) (hw _ (List.mem_of_getElem? (i := 24) rfl)) (hw _ (List.mem_of_getElem? (i := 7) rfl))
  obtain ⟨n, o, h1, h2, h3, _, L, rfl, ⟨rfl, N⟩, -, hq⟩ := rm_law l s _ hw tables_1 hEL i0 i1 i2 i3 i4 gc s.heap s.heap.size (Nat.le_refl _) SC hcs (Old.start s) p e ha hc hk s m _ below hf ((Spec.applies_iff_loose hf).mp happ).1 ⟨rfl, State.Warmed39.refl s, rfl, CH0⟩ trivial
  refine ⟨n, _, h1, h2, h3, hpost _ _ _ _ _ _ ⟨Cond.after_iff.mpr rfl, Cond.after_iff.mpr (eq_i res_at (Term.int_eval (1)) rfl), trivial⟩ ⟨hq.1, hq.2.1, hq.2.2.1, (hq.2.2.2.sift fun y hy => Or.inr (N y hy)).mono (by decide) (by decide)⟩⟩
theorem main_1_1 : Claimed_1_1 := comes_1 fun _ _ _ _ _ _ h hF => ⟨h.1, hF⟩
theorem main_1_2 : Claimed_1_2 := comes_1 fun _ _ _ _ _ _ h hF => ⟨h.2.1, hF⟩
end Jvm.Pilot.@@N@@
namespace Jvm.Pilot.@@N@@
open Jvm Jvm.ClassFile Sem Op Lib Jvm.Free Jvm.Stand Jvm.Pilot.@@N@@.Jvm.D
/-! MADE BY PROGRAM (witnessworld.py) out of the Statement's table words and the real class files: 20 classes; the members and pool entries that the words name. The judged class is class 1, her method 2. -/
namespace start1
open Jvm.ClassFile
def u (s : String) : CpInfo := .utf8 (stringToUtf16 s)
/-- a pool by its gaps: so many unusable entries, then the entry; so many at the end -/
def gap : Nat → List CpInfo → List CpInfo
  | 0, r => r
  | n + 1, r => .unusable :: gap n r
def poolList (es : List (Nat × CpInfo)) (last : Nat) : List CpInfo := es.foldr (fun e r => gap e.1 (e.2 :: r)) (gap last [])
def pool (es : List (Nat × CpInfo)) (last : Nat) : Array CpInfo := ⟨poolList es last⟩
def fileOf (pool : Array CpInfo) (this : Nat) (attrs : Array Attribute := #[]) (ms : Array MethodInfo := #[]) (fl : Nat := 33) (sup : Nat := 0) (ifs : Array Nat := #[]) (fds : Array FieldInfo := #[]) : ClassFile where
  minorVersion := 0
  majorVersion := 65
  constantPool := pool
  accessFlags := fl
  thisClass := this
  superClass := sup
  interfaces := ifs
  fields := fds
  methods := ms
  attributes := attrs
def plain (name : String) (sup : Option ClassId) : Class where
  name := name
  kind := .ordinary
  loader := none
  accessFlags := 33
  super := sup
  interfaces := #[]
  cf := none
  fields := #[]
  methods := #[]
  instanceTypes := #[]
  staticTypes := #[]
  resolved := #[]
  callSites := []
  init := .initialized
  statics := none
  mirror := none

def pool0 : Array CpInfo := pool [(5, u "<init>"), (0, u "()V"), (1, .class_ 10), (1, u "java/lang/Object")] 113

def k0c0 : Code := { maxStack := 0, maxLocals := 1, code := object_method_1_code, exceptionTable := #[], attributes := #[] }
def k0m0 : Method := { name := "<init>", desc := "()V", sig := { parameters := [], returnType := none }, accessFlags := 1, code := some k0c0 }
/-- java/lang/Object -/
def k0 : Class := { plain "java/lang/Object" none with
  accessFlags := 33
  interfaces := #[]
  cf := some (fileOf pool0 8 #[] #[{ accessFlags := 1, nameIndex := 5, descriptorIndex := 6, attributes := #[] }] 33 0 #[] #[])
  fields := #[]
  methods := #[k0m0]
  instanceTypes := #[]
  staticTypes := #[]
  resolved := Array.replicate 124 none
  statics := none }

def pool1 : Array CpInfo := pool [(2, .class_ 4), (1, u "java/lang/Object"), (0, u "<init>"), (0, u "()V"), (0, .integer 2147483647), (0, .class_ 9), (0, u "java/lang/String"), (0, .methodref 8 11), (0, .nameAndType 5 12), (0, u "([C)V"), (0, .string 14), (0, u "index.docker.io"), (0, .string 16), (0, u "registry-1.docker.io"), (0, .string 18), (0, u "docker.io"), (0, .methodref 8 20), (0, .nameAndType 21 22), (0, u "valueOf"), (0, u "(C)Ljava/lang/String;"), (0, .methodref 24 25), (0, .class_ 26), (0, .nameAndType 27 28), (0, u "com/example/laminate/laminate/core/DefaultRegistryApiHostPinLaw"), (0, u "draw"), (0, u "(IIIII)Ljava/lang/String;"), (0, .methodref 30 31), (0, .class_ 32), (0, .nameAndType 33 34), (0, u "com/example/laminate/laminate/core/DefaultRegistry"), (0, u "apiHost"), (0, u "(Ljava/lang/String;)Ljava/lang/String;"), (0, .methodref 8 36), (0, .nameAndType 37 38), (0, u "equals"), (0, u "(Ljava/lang/Object;)Z"), (3, u "law"), (0, u "(IIIII)Z")] 2

def k1m0 : Method := { name := "<init>", desc := "()V", sig := { parameters := [], returnType := none }, accessFlags := 2, code := none }
def k1c1 : Code := { maxStack := 5, maxLocals := 6, code := method_2_code, exceptionTable := #[], attributes := #[] }
def k1m1 : Method := { name := "draw", desc := "(IIIII)Ljava/lang/String;", sig := { parameters := [.int, .int, .int, .int, .int], returnType := some (.object "java/lang/String") }, accessFlags := 10, code := some k1c1 }
def k1c2 : Code := { maxStack := 5, maxLocals := 9, code := code, exceptionTable := #[], attributes := #[] }
def k1m2 : Method := { name := "law", desc := "(IIIII)Z", sig := { parameters := [.int, .int, .int, .int, .int], returnType := some .boolean }, accessFlags := 9, code := some k1c2 }
/-- com/example/laminate/laminate/core/DefaultRegistryApiHostPinLaw -/
def k1 : Class := { plain "com/example/laminate/laminate/core/DefaultRegistryApiHostPinLaw" (some 0) with
  accessFlags := 49
  interfaces := #[]
  cf := some (fileOf pool1 24 #[] #[{ accessFlags := 2, nameIndex := 5, descriptorIndex := 6, attributes := #[] }, { accessFlags := 10, nameIndex := 27, descriptorIndex := 28, attributes := #[] }, { accessFlags := 9, nameIndex := 42, descriptorIndex := 43, attributes := #[] }] 49 2 #[] #[])
  fields := #[]
  methods := #[k1m0, k1m1, k1m2]
  instanceTypes := #[]
  staticTypes := #[]
  resolved := Array.replicate 46 none
  statics := none }

def pool2 : Array CpInfo := pool [(1, .class_ 2), (0, u "java/io/Serializable"), (0, .class_ 4), (0, u "java/lang/Object")] 2

/-- java/io/Serializable -/
def k2 : Class := { plain "java/io/Serializable" (some 0) with
  accessFlags := 1537
  interfaces := #[]
  cf := some (fileOf pool2 1 #[] #[] 1537 3 #[] #[])
  fields := #[]
  methods := #[]
  instanceTypes := #[]
  staticTypes := #[]
  resolved := Array.replicate 7 none
  statics := none }

def pool3 : Array CpInfo := pool [(1, .class_ 2), (0, u "java/lang/Comparable"), (0, .class_ 4), (0, u "java/lang/Object")] 7

/-- java/lang/Comparable -/
def k3 : Class := { plain "java/lang/Comparable" (some 0) with
  accessFlags := 1537
  interfaces := #[]
  cf := some (fileOf pool3 1 #[] #[] 1537 3 #[] #[])
  fields := #[]
  methods := #[]
  instanceTypes := #[]
  staticTypes := #[]
  resolved := Array.replicate 12 none
  statics := none }

def pool4 : Array CpInfo := pool [(2, .class_ 4), (1, u "java/lang/CharSequence"), (42, .class_ 48), (0, u "java/lang/CharSequence$1CodePointIterator"), (10, .class_ 60), (0, u "java/lang/CharSequence$1CharIterator"), (5, .class_ 67), (0, u "java/lang/Object")] 63

/-- java/lang/CharSequence -/
def k4 : Class := { plain "java/lang/CharSequence" (some 0) with
  accessFlags := 1537
  interfaces := #[]
  cf := some (fileOf pool4 2 #[.nestMembers #[47, 59]] #[] 1537 66 #[] #[])
  fields := #[]
  methods := #[]
  instanceTypes := #[]
  staticTypes := #[]
  resolved := Array.replicate 131 none
  statics := none }

def pool5 : Array CpInfo := pool [(1, .class_ 2), (0, u "java/lang/constant/Constable"), (0, .class_ 4), (0, u "java/lang/Object")] 6

/-- java/lang/constant/Constable -/
def k5 : Class := { plain "java/lang/constant/Constable" (some 0) with
  accessFlags := 1537
  interfaces := #[]
  cf := some (fileOf pool5 1 #[] #[] 1537 3 #[] #[])
  fields := #[]
  methods := #[]
  instanceTypes := #[]
  staticTypes := #[]
  resolved := Array.replicate 11 none
  statics := none }

def pool6 : Array CpInfo := pool [(1, .class_ 2), (0, u "java/lang/constant/ConstantDesc"), (0, .class_ 4), (0, u "java/lang/Object")] 32

/-- java/lang/constant/ConstantDesc -/
def k6 : Class := { plain "java/lang/constant/ConstantDesc" (some 0) with
  accessFlags := 1537
  interfaces := #[]
  cf := some (fileOf pool6 1 #[] #[] 1537 3 #[] #[])
  fields := #[]
  methods := #[]
  instanceTypes := #[]
  staticTypes := #[]
  resolved := Array.replicate 37 none
  statics := none }

def pool7 : Array CpInfo := pool [(1, .methodref 2 3), (0, .class_ 4), (0, .nameAndType 5 6), (0, u "java/lang/Object"), (0, u "<init>"), (0, u "()V"), (0, .string 8), (0, u ""), (0, .fieldref 10 11), (0, .class_ 12), (0, .nameAndType 13 14), (0, u "java/lang/String"), (0, u "value"), (0, u "[B"), (0, .fieldref 10 16), (0, .nameAndType 17 18), (0, u "coder"), (0, u "B"), (2, u "hash"), (0, u "I"), (2, u "hashIsZero"), (0, u "Z"), (0, .methodref 10 28), (0, .nameAndType 5 29), (0, u "([CIILjava/lang/Void;)V"), (8, .fieldref 10 39), (0, .nameAndType 40 26), (0, u "COMPACT_STRINGS"), (1, .class_ 44), (1, u "java/lang/StringUTF16"), (0, u "compress"), (1, .methodref 42 48), (0, .nameAndType 49 50), (0, u "coderFromArrayLen"), (0, u "([BI)B"), (2, u "toBytes"), (53, .class_ 109), (1, u "java/lang/StringLatin1"), (67, .methodref 42 178), (0, .nameAndType 45 179), (0, u "([CII)[B"), (29, .methodref 10 210), (0, .nameAndType 5 211), (0, u "([BB)V"), (157, u "(C)Z"), (171, .methodref 107 542), (0, .nameAndType 543 544), (0, u "equals"), (0, u "([B[B)Z"), (28, u "(Ljava/lang/Object;)Z"), (1, .class_ 576), (0, u "java/lang/CharSequence"), (22, u "CASE_INSENSITIVE_ORDER"), (0, u "Ljava/util/Comparator;"), (181, u "valueOf"), (0, u "(C)Ljava/lang/String;"), (226, u "([C)V"), (4, .methodref 107 1016), (0, .nameAndType 1017 369), (0, u "canEncode"), (0, .methodref 107 1019), (0, .nameAndType 53 1020), (0, u "(C)[B"), (80, u "serialPersistentFields"), (0, u "[Ljava/io/ObjectStreamField;"), (0, .class_ 1104), (0, u "java/lang/String$CaseInsensitiveComparator"), (1, .class_ 1107), (0, u "java/io/Serializable"), (0, .class_ 1109), (0, u "java/lang/Comparable"), (0, .class_ 1111), (0, u "java/lang/constant/Constable"), (0, .class_ 1113), (0, u "java/lang/constant/ConstantDesc"), (2, u "serialVersionUID"), (0, u "J"), (3, u "REPL"), (0, u "C"), (2, u "LATIN1"), (1, u "UTF16")] 323

def k7m0 : Method := { name := "<init>", desc := "()V", sig := { parameters := [], returnType := none }, accessFlags := 1, code := none }
def k7c1 : Code := { maxStack := 5, maxLocals := 2, code := jdk_42_method_3_code, exceptionTable := #[], attributes := #[] }
def k7m1 : Method := { name := "<init>", desc := "([C)V", sig := { parameters := [(.array .char)], returnType := none }, accessFlags := 1, code := some k7c1 }
def k7c2 : Code := { maxStack := 2, maxLocals := 3, code := jdk_42_method_66_code, exceptionTable := #[], attributes := #[] }
def k7m2 : Method := { name := "equals", desc := "(Ljava/lang/Object;)Z", sig := { parameters := [(.object "java/lang/Object")], returnType := some .boolean }, accessFlags := 1, code := some k7c2 }
def k7c3 : Code := { maxStack := 4, maxLocals := 1, code := jdk_42_method_139_code, exceptionTable := #[], attributes := #[] }
def k7m3 : Method := { name := "valueOf", desc := "(C)Ljava/lang/String;", sig := { parameters := [.char], returnType := some (.object "java/lang/String") }, accessFlags := 9, code := some k7c3 }
def k7c4 : Code := { maxStack := 4, maxLocals := 6, code := jdk_42_method_149_code, exceptionTable := #[], attributes := #[] }
def k7m4 : Method := { name := "<init>", desc := "([CIILjava/lang/Void;)V", sig := { parameters := [(.array .char), .int, .int, (.object "java/lang/Void")], returnType := none }, accessFlags := 2, code := some k7c4 }
def k7c5 : Code := { maxStack := 2, maxLocals := 3, code := jdk_42_method_151_code, exceptionTable := #[], attributes := #[] }
def k7m5 : Method := { name := "<init>", desc := "([BB)V", sig := { parameters := [(.array .byte), .byte], returnType := none }, accessFlags := 0, code := some k7c5 }
/-- java/lang/String -/
def k7 : Class := { plain "java/lang/String" (some 0) with
  accessFlags := 49
  interfaces := #[2, 3, 4, 5, 6]
  cf := some (fileOf pool7 10 #[.nestMembers #[1103]] #[{ accessFlags := 1, nameIndex := 5, descriptorIndex := 6, attributes := #[] }, { accessFlags := 1, nameIndex := 5, descriptorIndex := 1010, attributes := #[] }, { accessFlags := 1, nameIndex := 543, descriptorIndex := 573, attributes := #[] }, { accessFlags := 9, nameIndex := 782, descriptorIndex := 783, attributes := #[] }, { accessFlags := 2, nameIndex := 5, descriptorIndex := 29, attributes := #[] }, { accessFlags := 0, nameIndex := 5, descriptorIndex := 211, attributes := #[] }] 49 2 #[1106, 1108, 575, 1110, 1112] #[{ accessFlags := 18, nameIndex := 13, descriptorIndex := 14, attributes := #[] }, { accessFlags := 18, nameIndex := 17, descriptorIndex := 18, attributes := #[] }, { accessFlags := 2, nameIndex := 21, descriptorIndex := 22, attributes := #[] }, { accessFlags := 2, nameIndex := 25, descriptorIndex := 26, attributes := #[] }, { accessFlags := 26, nameIndex := 1116, descriptorIndex := 1117, attributes := #[] }, { accessFlags := 24, nameIndex := 40, descriptorIndex := 26, attributes := #[] }, { accessFlags := 26, nameIndex := 1101, descriptorIndex := 1102, attributes := #[] }, { accessFlags := 26, nameIndex := 1121, descriptorIndex := 1122, attributes := #[] }, { accessFlags := 25, nameIndex := 599, descriptorIndex := 600, attributes := #[] }, { accessFlags := 24, nameIndex := 1125, descriptorIndex := 18, attributes := #[] }, { accessFlags := 24, nameIndex := 1127, descriptorIndex := 18, attributes := #[] }])
  fields := #[{ name := "value", type := (.array .byte), accessFlags := 18, slot := 0, constantValue := 0 }, { name := "coder", type := .byte, accessFlags := 18, slot := 1, constantValue := 0 }, { name := "hash", type := .int, accessFlags := 2, slot := 2, constantValue := 0 }, { name := "hashIsZero", type := .boolean, accessFlags := 2, slot := 3, constantValue := 0 }, { name := "serialVersionUID", type := .long, accessFlags := 26, slot := 0, constantValue := 0 }, { name := "COMPACT_STRINGS", type := .boolean, accessFlags := 24, slot := 1, constantValue := 0 }, { name := "serialPersistentFields", type := (.array (.object "java/io/ObjectStreamField")), accessFlags := 26, slot := 2, constantValue := 0 }, { name := "REPL", type := .char, accessFlags := 26, slot := 3, constantValue := 0 }, { name := "CASE_INSENSITIVE_ORDER", type := (.object "java/util/Comparator"), accessFlags := 25, slot := 4, constantValue := 0 }, { name := "LATIN1", type := .byte, accessFlags := 24, slot := 5, constantValue := 0 }, { name := "UTF16", type := .byte, accessFlags := 24, slot := 6, constantValue := 0 }]
  methods := #[k7m0, k7m1, k7m2, k7m3, k7m4, k7m5]
  instanceTypes := #[(.array .byte), .byte, .int, .boolean]
  staticTypes := #[.long, .boolean, (.array (.object "java/io/ObjectStreamField")), .char, (.object "java/util/Comparator"), .byte, .byte]
  resolved := Array.replicate 1451 none
  statics := some 0 }

def pool8 : Array CpInfo := pool [(6, .class_ 8), (1, u "java/lang/Object"), (0, u "<init>"), (0, u "()V"), (1, .class_ 14), (1, u "java/lang/StringUTF16"), (31, u "$assertionsDisabled"), (0, u "Z"), (13, u "HI_BYTE_SHIFT"), (0, u "I"), (2, u "LO_BYTE_SHIFT"), (49, .methodref 12 116), (0, .nameAndType 117 118), (0, u "compress"), (0, u "([CI[BII)I"), (3, u "([CII)[B"), (138, u "coderFromArrayLen"), (0, u "([BI)B"), (106, .class_ 371), (1, u "java/lang/StringUTF16$LinesSpliterator"), (58, u "MAX_LENGTH"), (196, .class_ 628), (0, u "java/lang/StringUTF16$CodePointsSpliterator"), (0, .class_ 630), (0, u "java/lang/StringUTF16$CharsSpliterator")] 4

def k8m0 : Method := { name := "<init>", desc := "()V", sig := { parameters := [], returnType := none }, accessFlags := 0, code := none }
def k8c1 : Code := { maxStack := 2, maxLocals := 2, code := jdk_52_method_15_code, exceptionTable := #[], attributes := #[] }
def k8m1 : Method := { name := "coderFromArrayLen", desc := "([BI)B", sig := { parameters := [(.array .byte), .int], returnType := some .byte }, accessFlags := 8, code := some k8c1 }
def k8c2 : Code := { maxStack := 5, maxLocals := 6, code := jdk_52_method_16_code, exceptionTable := #[], attributes := #[] }
def k8m2 : Method := { name := "compress", desc := "([CII)[B", sig := { parameters := [(.array .char), .int, .int], returnType := some (.array .byte) }, accessFlags := 9, code := some k8c2 }
def k8c3 : Code := { maxStack := 3, maxLocals := 7, code := jdk_52_method_21_code, exceptionTable := #[], attributes := #[] }
def k8m3 : Method := { name := "compress", desc := "([CI[BII)I", sig := { parameters := [(.array .char), .int, (.array .byte), .int, .int], returnType := some .int }, accessFlags := 9, code := some k8c3 }
/-- java/lang/StringUTF16 -/
def k8 : Class := { plain "java/lang/StringUTF16" (some 0) with
  accessFlags := 48
  interfaces := #[]
  cf := some (fileOf pool8 12 #[.nestMembers #[627, 629, 369]] #[{ accessFlags := 0, nameIndex := 9, descriptorIndex := 10, attributes := #[] }, { accessFlags := 8, nameIndex := 261, descriptorIndex := 262, attributes := #[] }, { accessFlags := 9, nameIndex := 117, descriptorIndex := 122, attributes := #[] }, { accessFlags := 9, nameIndex := 117, descriptorIndex := 118, attributes := #[] }] 48 6 #[] #[{ accessFlags := 26, nameIndex := 61, descriptorIndex := 62, attributes := #[] }, { accessFlags := 26, nameIndex := 65, descriptorIndex := 62, attributes := #[] }, { accessFlags := 24, nameIndex := 430, descriptorIndex := 62, attributes := #[] }, { accessFlags := 4120, nameIndex := 46, descriptorIndex := 47, attributes := #[] }])
  fields := #[{ name := "HI_BYTE_SHIFT", type := .int, accessFlags := 26, slot := 0, constantValue := 0 }, { name := "LO_BYTE_SHIFT", type := .int, accessFlags := 26, slot := 1, constantValue := 0 }, { name := "MAX_LENGTH", type := .int, accessFlags := 24, slot := 2, constantValue := 0 }, { name := "$assertionsDisabled", type := .boolean, accessFlags := 4120, slot := 3, constantValue := 0 }]
  methods := #[k8m0, k8m1, k8m2, k8m3]
  instanceTypes := #[]
  staticTypes := #[.int, .int, .int, .boolean]
  resolved := Array.replicate 635 none
  statics := none }

def pool9 : Array CpInfo := pool [(1, .class_ 2), (0, u "com/example/laminate/laminate/core/DefaultRegistry"), (1, .class_ 6), (1, u "java/lang/Object"), (0, u "<init>"), (0, u "()V"), (2, .methodref 12 13), (0, .class_ 14), (0, .nameAndType 15 16), (0, u "java/lang/String"), (0, u "equals"), (0, u "(Ljava/lang/Object;)Z"), (0, .string 18), (0, u "docker.io"), (0, .string 20), (0, u "registry-1.docker.io"), (2, u "NAME"), (0, u "Ljava/lang/String;"), (1, u "OTHER_NAME"), (0, u "API_HOST"), (0, u "CREDENTIALS_KEY"), (3, u "(Ljava/lang/String;)Ljava/lang/String;"), (1, u "apiHost")] 3

def k9m0 : Method := { name := "<init>", desc := "()V", sig := { parameters := [], returnType := none }, accessFlags := 2, code := none }
def k9c1 : Code := { maxStack := 2, maxLocals := 1, code := prog_8_method_3_code, exceptionTable := #[], attributes := #[] }
def k9m1 : Method := { name := "apiHost", desc := "(Ljava/lang/String;)Ljava/lang/String;", sig := { parameters := [(.object "java/lang/String")], returnType := some (.object "java/lang/String") }, accessFlags := 8, code := some k9c1 }
/-- com/example/laminate/laminate/core/DefaultRegistry -/
def k9 : Class := { plain "com/example/laminate/laminate/core/DefaultRegistry" (some 0) with
  accessFlags := 48
  interfaces := #[]
  cf := some (fileOf pool9 1 #[] #[{ accessFlags := 2, nameIndex := 7, descriptorIndex := 8, attributes := #[] }, { accessFlags := 8, nameIndex := 34, descriptorIndex := 32, attributes := #[] }] 48 4 #[] #[{ accessFlags := 24, nameIndex := 23, descriptorIndex := 24, attributes := #[] }, { accessFlags := 26, nameIndex := 26, descriptorIndex := 24, attributes := #[] }, { accessFlags := 26, nameIndex := 27, descriptorIndex := 24, attributes := #[] }, { accessFlags := 26, nameIndex := 28, descriptorIndex := 24, attributes := #[] }])
  fields := #[{ name := "NAME", type := (.object "java/lang/String"), accessFlags := 24, slot := 0, constantValue := 0 }, { name := "OTHER_NAME", type := (.object "java/lang/String"), accessFlags := 26, slot := 1, constantValue := 0 }, { name := "API_HOST", type := (.object "java/lang/String"), accessFlags := 26, slot := 2, constantValue := 0 }, { name := "CREDENTIALS_KEY", type := (.object "java/lang/String"), accessFlags := 26, slot := 3, constantValue := 0 }]
  methods := #[k9m0, k9m1]
  instanceTypes := #[]
  staticTypes := #[(.object "java/lang/String"), (.object "java/lang/String"), (.object "java/lang/String"), (.object "java/lang/String")]
  resolved := Array.replicate 38 none
  statics := none }

def pool10 : Array CpInfo := pool [(4, .class_ 6), (1, u "java/lang/Object"), (0, u "<init>"), (0, u "()V"), (5, .class_ 16), (1, u "java/lang/StringLatin1"), (73, u "canEncode"), (14, u "(C)Z"), (15, u "$assertionsDisabled"), (0, u "Z"), (98, .class_ 223), (1, u "java/lang/StringLatin1$LinesSpliterator"), (57, u "equals"), (0, u "([B[B)Z"), (97, u "toBytes"), (1, u "(C)[B"), (7, .class_ 391), (0, u "java/lang/StringLatin1$CharsSpliterator")] 3

def k10m0 : Method := { name := "<init>", desc := "()V", sig := { parameters := [], returnType := none }, accessFlags := 0, code := none }
def k10c1 : Code := { maxStack := 2, maxLocals := 1, code := jdk_43_method_3_code, exceptionTable := #[], attributes := #[] }
def k10m1 : Method := { name := "canEncode", desc := "(C)Z", sig := { parameters := [.char], returnType := some .boolean }, accessFlags := 9, code := some k10c1 }
def k10c2 : Code := { maxStack := 3, maxLocals := 3, code := jdk_43_method_13_code, exceptionTable := #[], attributes := #[] }
def k10m2 : Method := { name := "equals", desc := "([B[B)Z", sig := { parameters := [(.array .byte), (.array .byte)], returnType := some .boolean }, accessFlags := 9, code := some k10c2 }
def k10c3 : Code := { maxStack := 4, maxLocals := 1, code := jdk_43_method_46_code, exceptionTable := #[], attributes := #[] }
def k10m3 : Method := { name := "toBytes", desc := "(C)[B", sig := { parameters := [.char], returnType := some (.array .byte) }, accessFlags := 9, code := some k10c3 }
/-- java/lang/StringLatin1 -/
def k10 : Class := { plain "java/lang/StringLatin1" (some 0) with
  accessFlags := 48
  interfaces := #[]
  cf := some (fileOf pool10 14 #[.nestMembers #[390, 221]] #[{ accessFlags := 0, nameIndex := 7, descriptorIndex := 8, attributes := #[] }, { accessFlags := 9, nameIndex := 90, descriptorIndex := 105, attributes := #[] }, { accessFlags := 9, nameIndex := 281, descriptorIndex := 282, attributes := #[] }, { accessFlags := 9, nameIndex := 380, descriptorIndex := 382, attributes := #[] }] 48 4 #[] #[{ accessFlags := 4120, nameIndex := 121, descriptorIndex := 122, attributes := #[] }])
  fields := #[{ name := "$assertionsDisabled", type := .boolean, accessFlags := 4120, slot := 0, constantValue := 0 }]
  methods := #[k10m0, k10m1, k10m2, k10m3]
  instanceTypes := #[]
  staticTypes := #[.boolean]
  resolved := Array.replicate 395 none
  statics := none }

def pool11 : Array CpInfo := pool [(2, .class_ 4), (1, u "java/lang/Object"), (0, u "<init>"), (0, u "()V"), (17, .class_ 26), (1, u "jdk/internal/util/Preconditions"), (28, .class_ 56), (0, u "jdk/internal/util/Preconditions$4"), (57, .class_ 115), (0, u "jdk/internal/util/Preconditions$1"), (7, u "SIOOBE_FORMATTER"), (0, u "Ljava/util/function/BiFunction;"), (0, .class_ 126), (0, u "jdk/internal/util/Preconditions$2"), (3, u "AIOOBE_FORMATTER"), (0, .class_ 132), (0, u "jdk/internal/util/Preconditions$3"), (3, u "IOOBE_FORMATTER")] 57

def k11m0 : Method := { name := "<init>", desc := "()V", sig := { parameters := [], returnType := none }, accessFlags := 1, code := none }
/-- jdk/internal/util/Preconditions -/
def k11 : Class := { plain "jdk/internal/util/Preconditions" (some 0) with
  accessFlags := 33
  interfaces := #[]
  cf := some (fileOf pool11 24 #[.nestMembers #[55, 131, 125, 114]] #[{ accessFlags := 1, nameIndex := 5, descriptorIndex := 6, attributes := #[] }] 33 2 #[] #[{ accessFlags := 25, nameIndex := 123, descriptorIndex := 124, attributes := #[] }, { accessFlags := 25, nameIndex := 130, descriptorIndex := 124, attributes := #[] }, { accessFlags := 25, nameIndex := 136, descriptorIndex := 124, attributes := #[] }])
  fields := #[{ name := "SIOOBE_FORMATTER", type := (.object "java/util/function/BiFunction"), accessFlags := 25, slot := 0, constantValue := 0 }, { name := "AIOOBE_FORMATTER", type := (.object "java/util/function/BiFunction"), accessFlags := 25, slot := 1, constantValue := 0 }, { name := "IOOBE_FORMATTER", type := (.object "java/util/function/BiFunction"), accessFlags := 25, slot := 2, constantValue := 0 }]
  methods := #[k11m0]
  instanceTypes := #[]
  staticTypes := #[(.object "java/util/function/BiFunction"), (.object "java/util/function/BiFunction"), (.object "java/util/function/BiFunction")]
  resolved := Array.replicate 194 none
  statics := some 1 }

def pool12 : Array CpInfo := pool [(9, u "<init>"), (6, .class_ 18), (1, u "java/lang/Object"), (0, u "()V"), (1, .class_ 23), (1, u "jdk/internal/util/ArraysSupport"), (0, u "LOG2_ARRAY_LONG_INDEX_SCALE"), (0, u "I"), (2, u "U"), (0, u "Ljdk/internal/misc/Unsafe;"), (8, u "BIG_ENDIAN"), (0, u "Z"), (8, u "LOG2_BYTE_BIT_SIZE"), (4, u "LOG2_ARRAY_INT_INDEX_SCALE"), (54, u "JLA"), (0, u "Ljdk/internal/access/JavaLangAccess;"), (11, u "LOG2_ARRAY_BOOLEAN_INDEX_SCALE"), (9, u "LOG2_ARRAY_BYTE_INDEX_SCALE"), (5, u "LOG2_ARRAY_CHAR_INDEX_SCALE"), (5, u "LOG2_ARRAY_SHORT_INDEX_SCALE"), (18, u "LOG2_ARRAY_FLOAT_INDEX_SCALE"), (24, u "LOG2_ARRAY_DOUBLE_INDEX_SCALE"), (89, u "T_BOOLEAN"), (2, u "T_CHAR"), (1, u "T_FLOAT"), (1, u "T_DOUBLE"), (1, u "T_BYTE"), (1, u "T_SHORT"), (1, u "T_INT"), (1, u "T_LONG"), (1, u "SOFT_MAX_ARRAY_LENGTH")] 83

def k12m0 : Method := { name := "<init>", desc := "()V", sig := { parameters := [], returnType := none }, accessFlags := 2, code := none }
/-- jdk/internal/util/ArraysSupport -/
def k12 : Class := { plain "jdk/internal/util/ArraysSupport" (some 0) with
  accessFlags := 33
  interfaces := #[]
  cf := some (fileOf pool12 21 #[] #[{ accessFlags := 2, nameIndex := 9, descriptorIndex := 19, attributes := #[] }] 33 16 #[] #[{ accessFlags := 24, nameIndex := 28, descriptorIndex := 29, attributes := #[] }, { accessFlags := 26, nameIndex := 38, descriptorIndex := 39, attributes := #[] }, { accessFlags := 25, nameIndex := 121, descriptorIndex := 25, attributes := #[] }, { accessFlags := 25, nameIndex := 131, descriptorIndex := 25, attributes := #[] }, { accessFlags := 25, nameIndex := 137, descriptorIndex := 25, attributes := #[] }, { accessFlags := 25, nameIndex := 143, descriptorIndex := 25, attributes := #[] }, { accessFlags := 25, nameIndex := 53, descriptorIndex := 25, attributes := #[] }, { accessFlags := 25, nameIndex := 24, descriptorIndex := 25, attributes := #[] }, { accessFlags := 25, nameIndex := 162, descriptorIndex := 25, attributes := #[] }, { accessFlags := 25, nameIndex := 187, descriptorIndex := 25, attributes := #[] }, { accessFlags := 26, nameIndex := 48, descriptorIndex := 25, attributes := #[] }, { accessFlags := 25, nameIndex := 277, descriptorIndex := 25, attributes := #[] }, { accessFlags := 25, nameIndex := 280, descriptorIndex := 25, attributes := #[] }, { accessFlags := 25, nameIndex := 282, descriptorIndex := 25, attributes := #[] }, { accessFlags := 25, nameIndex := 284, descriptorIndex := 25, attributes := #[] }, { accessFlags := 25, nameIndex := 286, descriptorIndex := 25, attributes := #[] }, { accessFlags := 25, nameIndex := 288, descriptorIndex := 25, attributes := #[] }, { accessFlags := 25, nameIndex := 290, descriptorIndex := 25, attributes := #[] }, { accessFlags := 25, nameIndex := 292, descriptorIndex := 25, attributes := #[] }, { accessFlags := 26, nameIndex := 108, descriptorIndex := 109, attributes := #[] }, { accessFlags := 25, nameIndex := 294, descriptorIndex := 25, attributes := #[] }])
  fields := #[{ name := "U", type := (.object "jdk/internal/misc/Unsafe"), accessFlags := 24, slot := 0, constantValue := 0 }, { name := "BIG_ENDIAN", type := .boolean, accessFlags := 26, slot := 1, constantValue := 0 }, { name := "LOG2_ARRAY_BOOLEAN_INDEX_SCALE", type := .int, accessFlags := 25, slot := 2, constantValue := 0 }, { name := "LOG2_ARRAY_BYTE_INDEX_SCALE", type := .int, accessFlags := 25, slot := 3, constantValue := 0 }, { name := "LOG2_ARRAY_CHAR_INDEX_SCALE", type := .int, accessFlags := 25, slot := 4, constantValue := 0 }, { name := "LOG2_ARRAY_SHORT_INDEX_SCALE", type := .int, accessFlags := 25, slot := 5, constantValue := 0 }, { name := "LOG2_ARRAY_INT_INDEX_SCALE", type := .int, accessFlags := 25, slot := 6, constantValue := 0 }, { name := "LOG2_ARRAY_LONG_INDEX_SCALE", type := .int, accessFlags := 25, slot := 7, constantValue := 0 }, { name := "LOG2_ARRAY_FLOAT_INDEX_SCALE", type := .int, accessFlags := 25, slot := 8, constantValue := 0 }, { name := "LOG2_ARRAY_DOUBLE_INDEX_SCALE", type := .int, accessFlags := 25, slot := 9, constantValue := 0 }, { name := "LOG2_BYTE_BIT_SIZE", type := .int, accessFlags := 26, slot := 10, constantValue := 0 }, { name := "T_BOOLEAN", type := .int, accessFlags := 25, slot := 11, constantValue := 0 }, { name := "T_CHAR", type := .int, accessFlags := 25, slot := 12, constantValue := 0 }, { name := "T_FLOAT", type := .int, accessFlags := 25, slot := 13, constantValue := 0 }, { name := "T_DOUBLE", type := .int, accessFlags := 25, slot := 14, constantValue := 0 }, { name := "T_BYTE", type := .int, accessFlags := 25, slot := 15, constantValue := 0 }, { name := "T_SHORT", type := .int, accessFlags := 25, slot := 16, constantValue := 0 }, { name := "T_INT", type := .int, accessFlags := 25, slot := 17, constantValue := 0 }, { name := "T_LONG", type := .int, accessFlags := 25, slot := 18, constantValue := 0 }, { name := "JLA", type := (.object "jdk/internal/access/JavaLangAccess"), accessFlags := 26, slot := 19, constantValue := 0 }, { name := "SOFT_MAX_ARRAY_LENGTH", type := .int, accessFlags := 25, slot := 20, constantValue := 0 }]
  methods := #[k12m0]
  instanceTypes := #[]
  staticTypes := #[(.object "jdk/internal/misc/Unsafe"), .boolean, .int, .int, .int, .int, .int, .int, .int, .int, .int, .int, .int, .int, .int, .int, .int, .int, .int, (.object "jdk/internal/access/JavaLangAccess"), .int]
  resolved := Array.replicate 378 none
  statics := none }

def pool13 : Array CpInfo := pool [(1, u "java/lang/Cloneable"), (0, .class_ 1), (0, u "java/lang/Object"), (0, .class_ 3)] 3

/-- java/lang/Cloneable -/
def k13 : Class := { plain "java/lang/Cloneable" (some 0) with
  accessFlags := 1537
  interfaces := #[]
  cf := some (fileOf pool13 2 #[] #[] 1537 4 #[] #[])
  fields := #[]
  methods := #[]
  instanceTypes := #[]
  staticTypes := #[]
  resolved := Array.replicate 8 none
  statics := none }

/-- the primitive byte -/
def k14 : Class := { plain "byte" none with kind := .primitive 'B', accessFlags := 0x411 }
/-- [B -/
def k15 : Class := { plain "[B" (some 0) with kind := .array 14 .byte, interfaces := #[13, 2], accessFlags := 1041 }

/-- the primitive char -/
def k16 : Class := { plain "char" none with kind := .primitive 'C', accessFlags := 0x411 }
/-- [C -/
def k17 : Class := { plain "[C" (some 0) with kind := .array 16 .char, interfaces := #[13, 2], accessFlags := 1041 }

/-- the primitive int -/
def k18 : Class := { plain "int" none with kind := .primitive 'I', accessFlags := 0x411 }
/-- [I -/
def k19 : Class := { plain "[I" (some 0) with kind := .array 18 .int, interfaces := #[13, 2], accessFlags := 1041 }

def heap : Heap := #[{ cls := 7, slots := #[.long 0, .int 1, .null, .int 0, .null, .int 0, .int 0], vm := .statics 7 },
  { cls := 11, slots := #[.null, .null, .null], vm := .statics 11 }]
def classes : Array Class := #[k0, k1, k2, k3, k4, k5, k6, k7, k8, k9, k10, k11, k12, k13, k14, k15, k16, k17, k18, k19]
def interned : List (Array UInt16 × Addr) := []
def slotsUsed : Nat := 10
def theMethod : MethodId := ⟨1, 2⟩
def args0 : Array Value := #[.int 1, .int 1, .int 1, .int 1, .int 1]
def aboutOver (below : List Frame) : State where
  vm := { classes := classes, interned := interned.toArray }
  heap := heap
  slotsUsed := slotsUsed
  threads := #[{ frames := .invoking theMethod args0 :: below }]
def below0 : List Frame := [.native { method := ⟨0, 0⟩, args := #[] }]
def about1 : State := aboutOver below0
def p0 : Program := .bare "" "" ""
def e0 : Env := launch0.env 0 0 0
theorem w_frames : about1.frames = Frame.invoking theMethod args0 :: below0 := rfl
set_option maxRecDepth 65536 in
theorem w_args : argsFit about1.vm theMethod args0 = true := by decide +kernel
set_option maxRecDepth 65536 in
theorem w_heap : heapFits about1 = true := by decide +kernel
set_option maxRecDepth 65536 in
theorem w_runnable : about1.curStatus? = some .runnable := by decide +kernel
set_option maxRecDepth 65536 in
theorem w_alone : about1.alone = true := by decide +kernel
set_option maxRecDepth 65536 in
theorem w_named : about1.methodNamed? x = some theMethod := by decide +kernel
set_option maxRecDepth 65536 in
theorem w_hears : about1.hears theMethod below0 = true := by decide +kernel
set_option maxRecDepth 65536 in
theorem w_ripe : about1.ripe theMethod args0 below0 = true := by decide +kernel
theorem w_running : about1.status = .running := rfl
set_option maxRecDepth 65536 in
theorem w_room : about1.hasRoom e0.platform room_1 = true :=
  launch0.hasRoom_least _ room_1 (by decide +kernel) (by decide +kernel) (by decide +kernel) (by decide +kernel) (by decide +kernel) (by decide +kernel)
theorem allAtoms_all (ts : List Jvm.Cond) (a : Array Jvm.Value) (st : Jvm.State) : (allAtoms ts).before a st = ts.all (fun c => c.before a st) := by
  induction ts with
  | nil => rfl
  | cons c t ih =>
    show (Jvm.Cond.and c (allAtoms t)).before a st = _
    rw [Jvm.Cond.before_and, ih, List.all_cons]
def words1 : List Jvm.Cond := Jvm.Cond.code x code maxLocals ret :: tables_1
/-- a 'code' word, met by the world's own term for the bytes: nothing is compared byte by byte -/
theorem code_word {y : MethodName} {bytes : ByteArray} {mx : Nat} {rt : Option FieldType} {a : Array Value} {s : State} {m : MethodId} {meth : Method} {c : Code} (h1 : s.methodNamed? y = some m) (h2 : s.vm.method? m = some meth) (h3 : meth.code = some c) (h4 : c.code = bytes)
    (h5 : (c.maxLocals == mx && c.exceptionTable.isEmpty && decide (c.maxStack ≤ mostOperands) && decide (meth.sig.returnType = rt) && !meth.locks && decide (parseMethodDescriptor y.desc = some meth.sig)) = true) : (Jvm.Cond.code y bytes mx rt).before a s = true := by
  simp only [Bool.and_eq_true, beq_iff_eq, Bool.not_eq_true', decide_eq_true_eq] at h5
  obtain ⟨⟨⟨⟨⟨g1, g2⟩, g3⟩, g4⟩, g5⟩, g6⟩ := h5
  simp [Cond.before, Cond.holds, Cond.value, h1, h2, h3, h4, g1, g2, g3, g4, g5, g6]
def isCode : Jvm.Cond → Bool
  | .code _ _ _ _ => true
  | _ => false
theorem all_split {L : List Jvm.Cond} {P : Jvm.Cond → Bool} (h1 : L.all (fun c => isCode c || P c) = true) (h2 : ∀ c ∈ L.filter isCode, P c = true) : L.all P = true := by
  refine List.all_eq_true.mpr fun c hc => ?_
  have h := List.all_eq_true.mp h1 c hc
  rcases Bool.eq_false_or_eq_true (isCode c) with hi | hi
  · exact h2 c (List.mem_filter.mpr ⟨hc, hi⟩)
  · simpa [hi] using h
set_option maxRecDepth 65536 in
theorem w_c0 : (Jvm.Cond.code x code maxLocals ret).before args0 about1 = true := code_word (m := ⟨1, 2⟩) (meth := k1m2) (c := k1c2) (by decide +kernel) rfl rfl rfl (by decide +kernel)
set_option maxRecDepth 65536 in
theorem w_c1 : (Jvm.Cond.code ({ cls := "com/example/laminate/laminate/core/DefaultRegistryApiHostPinLaw", name := "draw", desc := "(IIIII)Ljava/lang/String;" } : Jvm.MethodName) method_2_code (6 : Nat) (Option.some (Jvm.ClassFile.FieldType.object "java/lang/String"))).before args0 about1 = true := code_word (m := ⟨1, 1⟩) (meth := k1m1) (c := k1c1) (by decide +kernel) rfl rfl rfl (by decide +kernel)
set_option maxRecDepth 65536 in
theorem w_c2 : (Jvm.Cond.code ({ cls := "java/lang/String", name := "<init>", desc := "([C)V" } : Jvm.MethodName) jdk_42_method_3_code (2 : Nat) (Option.none : Option Jvm.ClassFile.FieldType)).before args0 about1 = true := code_word (m := ⟨7, 1⟩) (meth := k7m1) (c := k7c1) (by decide +kernel) rfl rfl rfl (by decide +kernel)
set_option maxRecDepth 65536 in
theorem w_c3 : (Jvm.Cond.code ({ cls := "java/lang/String", name := "<init>", desc := "([CIILjava/lang/Void;)V" } : Jvm.MethodName) jdk_42_method_149_code (6 : Nat) (Option.none : Option Jvm.ClassFile.FieldType)).before args0 about1 = true := code_word (m := ⟨7, 4⟩) (meth := k7m4) (c := k7c4) (by decide +kernel) rfl rfl rfl (by decide +kernel)
set_option maxRecDepth 65536 in
theorem w_c4 : (Jvm.Cond.code ({ cls := "java/lang/Object", name := "<init>", desc := "()V" } : Jvm.MethodName) object_method_1_code (1 : Nat) (Option.none : Option Jvm.ClassFile.FieldType)).before args0 about1 = true := code_word (m := ⟨0, 0⟩) (meth := k0m0) (c := k0c0) (by decide +kernel) rfl rfl rfl (by decide +kernel)
set_option maxRecDepth 65536 in
theorem w_c5 : (Jvm.Cond.code ({ cls := "java/lang/StringUTF16", name := "compress", desc := "([CII)[B" } : Jvm.MethodName) jdk_52_method_16_code (6 : Nat) (Option.some (Jvm.ClassFile.FieldType.array Jvm.ClassFile.FieldType.byte))).before args0 about1 = true := code_word (m := ⟨8, 2⟩) (meth := k8m2) (c := k8c2) (by decide +kernel) rfl rfl rfl (by decide +kernel)
set_option maxRecDepth 65536 in
theorem w_c6 : (Jvm.Cond.code ({ cls := "java/lang/StringUTF16", name := "compress", desc := "([CI[BII)I" } : Jvm.MethodName) jdk_52_method_21_code (7 : Nat) (Option.some Jvm.ClassFile.FieldType.int)).before args0 about1 = true := code_word (m := ⟨8, 3⟩) (meth := k8m3) (c := k8c3) (by decide +kernel) rfl rfl rfl (by decide +kernel)
set_option maxRecDepth 65536 in
theorem w_c7 : (Jvm.Cond.code ({ cls := "java/lang/StringUTF16", name := "coderFromArrayLen", desc := "([BI)B" } : Jvm.MethodName) jdk_52_method_15_code (2 : Nat) (Option.some Jvm.ClassFile.FieldType.byte)).before args0 about1 = true := code_word (m := ⟨8, 1⟩) (meth := k8m1) (c := k8c1) (by decide +kernel) rfl rfl rfl (by decide +kernel)
set_option maxRecDepth 65536 in
theorem w_c8 : (Jvm.Cond.code ({ cls := "com/example/laminate/laminate/core/DefaultRegistry", name := "apiHost", desc := "(Ljava/lang/String;)Ljava/lang/String;" } : Jvm.MethodName) prog_8_method_3_code (1 : Nat) (Option.some (Jvm.ClassFile.FieldType.object "java/lang/String"))).before args0 about1 = true := code_word (m := ⟨9, 1⟩) (meth := k9m1) (c := k9c1) (by decide +kernel) rfl rfl rfl (by decide +kernel)
set_option maxRecDepth 65536 in
theorem w_c9 : (Jvm.Cond.code ({ cls := "java/lang/String", name := "equals", desc := "(Ljava/lang/Object;)Z" } : Jvm.MethodName) jdk_42_method_66_code (3 : Nat) (Option.some Jvm.ClassFile.FieldType.boolean)).before args0 about1 = true := code_word (m := ⟨7, 2⟩) (meth := k7m2) (c := k7c2) (by decide +kernel) rfl rfl rfl (by decide +kernel)
set_option maxRecDepth 65536 in
theorem w_c10 : (Jvm.Cond.code ({ cls := "java/lang/StringLatin1", name := "equals", desc := "([B[B)Z" } : Jvm.MethodName) jdk_43_method_13_code (3 : Nat) (Option.some Jvm.ClassFile.FieldType.boolean)).before args0 about1 = true := code_word (m := ⟨10, 2⟩) (meth := k10m2) (c := k10c2) (by decide +kernel) rfl rfl rfl (by decide +kernel)
set_option maxRecDepth 65536 in
theorem w_c11 : (Jvm.Cond.code ({ cls := "java/lang/String", name := "valueOf", desc := "(C)Ljava/lang/String;" } : Jvm.MethodName) jdk_42_method_139_code (1 : Nat) (Option.some (Jvm.ClassFile.FieldType.object "java/lang/String"))).before args0 about1 = true := code_word (m := ⟨7, 3⟩) (meth := k7m3) (c := k7c3) (by decide +kernel) rfl rfl rfl (by decide +kernel)
set_option maxRecDepth 65536 in
theorem w_c12 : (Jvm.Cond.code ({ cls := "java/lang/StringLatin1", name := "canEncode", desc := "(C)Z" } : Jvm.MethodName) jdk_43_method_3_code (1 : Nat) (Option.some Jvm.ClassFile.FieldType.boolean)).before args0 about1 = true := code_word (m := ⟨10, 1⟩) (meth := k10m1) (c := k10c1) (by decide +kernel) rfl rfl rfl (by decide +kernel)
set_option maxRecDepth 65536 in
theorem w_c13 : (Jvm.Cond.code ({ cls := "java/lang/StringLatin1", name := "toBytes", desc := "(C)[B" } : Jvm.MethodName) jdk_43_method_46_code (1 : Nat) (Option.some (Jvm.ClassFile.FieldType.array Jvm.ClassFile.FieldType.byte))).before args0 about1 = true := code_word (m := ⟨10, 3⟩) (meth := k10m3) (c := k10c3) (by decide +kernel) rfl rfl rfl (by decide +kernel)
set_option maxRecDepth 65536 in
theorem w_c14 : (Jvm.Cond.code ({ cls := "java/lang/String", name := "<init>", desc := "([BB)V" } : Jvm.MethodName) jdk_42_method_151_code (3 : Nat) (Option.none : Option Jvm.ClassFile.FieldType)).before args0 about1 = true := code_word (m := ⟨7, 5⟩) (meth := k7m5) (c := k7c5) (by decide +kernel) rfl rfl rfl (by decide +kernel)
def codes1 : List Jvm.Cond := [Jvm.Cond.code x code maxLocals ret, Jvm.Cond.code ({ cls := "com/example/laminate/laminate/core/DefaultRegistryApiHostPinLaw", name := "draw", desc := "(IIIII)Ljava/lang/String;" } : Jvm.MethodName) method_2_code (6 : Nat) (Option.some (Jvm.ClassFile.FieldType.object "java/lang/String")), Jvm.Cond.code ({ cls := "java/lang/String", name := "<init>", desc := "([C)V" } : Jvm.MethodName) jdk_42_method_3_code (2 : Nat) (Option.none : Option Jvm.ClassFile.FieldType), Jvm.Cond.code ({ cls := "java/lang/String", name := "<init>", desc := "([CIILjava/lang/Void;)V" } : Jvm.MethodName) jdk_42_method_149_code (6 : Nat) (Option.none : Option Jvm.ClassFile.FieldType), Jvm.Cond.code ({ cls := "java/lang/Object", name := "<init>", desc := "()V" } : Jvm.MethodName) object_method_1_code (1 : Nat) (Option.none : Option Jvm.ClassFile.FieldType), Jvm.Cond.code ({ cls := "java/lang/StringUTF16", name := "compress", desc := "([CII)[B" } : Jvm.MethodName) jdk_52_method_16_code (6 : Nat) (Option.some (Jvm.ClassFile.FieldType.array Jvm.ClassFile.FieldType.byte)), Jvm.Cond.code ({ cls := "java/lang/StringUTF16", name := "compress", desc := "([CI[BII)I" } : Jvm.MethodName) jdk_52_method_21_code (7 : Nat) (Option.some Jvm.ClassFile.FieldType.int), Jvm.Cond.code ({ cls := "java/lang/StringUTF16", name := "coderFromArrayLen", desc := "([BI)B" } : Jvm.MethodName) jdk_52_method_15_code (2 : Nat) (Option.some Jvm.ClassFile.FieldType.byte), Jvm.Cond.code ({ cls := "com/example/laminate/laminate/core/DefaultRegistry", name := "apiHost", desc := "(Ljava/lang/String;)Ljava/lang/String;" } : Jvm.MethodName) prog_8_method_3_code (1 : Nat) (Option.some (Jvm.ClassFile.FieldType.object "java/lang/String")), Jvm.Cond.code ({ cls := "java/lang/String", name := "equals", desc := "(Ljava/lang/Object;)Z" } : Jvm.MethodName) jdk_42_method_66_code (3 : Nat) (Option.some Jvm.ClassFile.FieldType.boolean), Jvm.Cond.code ({ cls := "java/lang/StringLatin1", name := "equals", desc := "([B[B)Z" } : Jvm.MethodName) jdk_43_method_13_code (3 : Nat) (Option.some Jvm.ClassFile.FieldType.boolean), Jvm.Cond.code ({ cls := "java/lang/String", name := "valueOf", desc := "(C)Ljava/lang/String;" } : Jvm.MethodName) jdk_42_method_139_code (1 : Nat) (Option.some (Jvm.ClassFile.FieldType.object "java/lang/String")), Jvm.Cond.code ({ cls := "java/lang/StringLatin1", name := "canEncode", desc := "(C)Z" } : Jvm.MethodName) jdk_43_method_3_code (1 : Nat) (Option.some Jvm.ClassFile.FieldType.boolean), Jvm.Cond.code ({ cls := "java/lang/StringLatin1", name := "toBytes", desc := "(C)[B" } : Jvm.MethodName) jdk_43_method_46_code (1 : Nat) (Option.some (Jvm.ClassFile.FieldType.array Jvm.ClassFile.FieldType.byte)), Jvm.Cond.code ({ cls := "java/lang/String", name := "<init>", desc := "([BB)V" } : Jvm.MethodName) jdk_42_method_151_code (3 : Nat) (Option.none : Option Jvm.ClassFile.FieldType)]
set_option maxRecDepth 65536 in
theorem codes_eq : words1.filter isCode = codes1 := rfl
theorem w_codes : ∀ c ∈ words1.filter isCode, c.before args0 about1 = true := by
  rw [codes_eq]
  intro c hc
  simp only [codes1, List.mem_cons, List.not_mem_nil, or_false] at hc
  rcases hc with rfl | rfl | rfl | rfl | rfl | rfl | rfl | rfl | rfl | rfl | rfl | rfl | rfl | rfl | rfl
  · exact w_c0
  · exact w_c1
  · exact w_c2
  · exact w_c3
  · exact w_c4
  · exact w_c5
  · exact w_c6
  · exact w_c7
  · exact w_c8
  · exact w_c9
  · exact w_c10
  · exact w_c11
  · exact w_c12
  · exact w_c13
  · exact w_c14
set_option maxRecDepth 65536 in
theorem w_t1 : (words1.take 24).all (fun c => isCode c || c.before args0 about1) = true := by decide +kernel
set_option maxRecDepth 65536 in
theorem w_t2 : ((words1.drop 24).take 24).all (fun c => isCode c || c.before args0 about1) = true := by decide +kernel
set_option maxRecDepth 65536 in
theorem w_t3 : ((words1.drop 24).drop 24).all (fun c => isCode c || c.before args0 about1) = true := by decide +kernel
theorem w_tables : (allAtoms (Jvm.Cond.code x code maxLocals ret :: tables_1)).before args0 about1 = true := by
  rw [allAtoms_all]
  show words1.all (fun c => c.before args0 about1) = true
  refine all_split ?_ w_codes
  rw [← List.take_append_drop 24 words1, List.all_append, w_t1, ← List.take_append_drop 24 (words1.drop 24), List.all_append, w_t2, w_t3]
  rfl
set_option maxRecDepth 65536 in
theorem w_rest : rest_1_c.before args0 about1 = true := by decide +kernel
set_option maxRecDepth 65536 in
theorem w_case : (Jvm.Cond.and given_1 narrow_1).before args0 about1 = true := by decide +kernel
set_option maxRecDepth 65536 in
theorem w_consts : constsHeld consts_1 about1 := Jvm.Lit.constsHeldB_iff.mp (by decide +kernel)
theorem w_applies : (headSpec (Jvm.Cond.code x code maxLocals ret :: tables_1) room_1).applies x e0.platform about1 = true :=
  (Spec.applies_iff w_frames).mpr ⟨w_running, w_runnable, w_alone, w_named, w_hears, w_ripe, w_room, w_tables⟩
theorem atStart : AtStart classFile x code maxLocals ret World_1 tables_1 room_1 Calls_1 rest_1 Pre_1 launch0 p0 e0 about1 theMethod args0 below0 :=
  ⟨lists_1, trivial, launch0.admits_env _ _ _, launch0.least_env, fairChoices_fair.cas, fairChoices_fair.clock, w_frames, w_args, w_heap, w_applies, ⟨w_consts, trivial⟩, w_rest, w_case⟩
end start1
theorem witness_1 : WitnessClaimed_1 := ⟨start1.p0, start1.e0, start1.about1, start1.theMethod, start1.args0, start1.below0, start1.atStart⟩
end Jvm.Pilot.@@N@@
