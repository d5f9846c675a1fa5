import JvmDerived
import JvmDerived.Pilot.@@N@@Statement
import JvmDerived.Pilot.@@N@@Code
set_option linter.unusedVariables false
set_option linter.unusedSimpArgs false
/- laws to paste: Road.backV, Road.eqW, Road.codOf (cut by pick.py; bodies as the Statement names them) -/
namespace Jvm.Pilot.@@N@@
namespace StrChars
open Jvm Sem ClassFile Op Lib Jvm.Stand Jvm.Free.XT Jvm.Free.ALB Jvm.Free.JM Jvm.Free
open Jvm.Lib.Cold (StaticIs)
/-- a char array whose places are chars -/
def Ch (a : Addr) (A : Cell) (U : State) : Prop := Arr .char a A U ∧ Typed .char A
theorem Ch.mv {a : Addr} {A : Cell} {U U' : State} (h : Ch a A U) (hal : U.vm.Alike U'.vm) (hh : U'.heap = U.heap) : Ch a A U' := ⟨h.1.mv hal hh, h.2⟩
theorem Ch.keep {a : Addr} {A : Cell} {U U' : State} (h : Ch a A U) (hal : U.vm.Alike U'.vm) (hk : U'.heap[a]? = some A) : Ch a A U' := ⟨h.1.keep hal hk, h.2⟩
/-- what place i of a char[]'s cell holds -/
def cv (A : Cell) (i : Nat) : Int32 := match A.slots[i]? with | some (.int x) => x | _ => 0
theorem Ch.get {a : Addr} {A : Cell} {U : State} (h : Ch a A U) {i : Nat} (hi : i < A.slots.size) : A.slots[i]? = some (.int (cv A i)) := by
  have e := Array.getElem?_eq_getElem hi
  have f := h.2 i _ e
  unfold cv; rw [e]
  generalize A.slots[i] = v at f
  cases v <;> simp [fits] at f ⊢
/-- the byte that i2b leaves of a char -/
def lo8 (x : Int32) : Int32 := x.toInt8.toInt32
theorem fits_lo8 (y : Int32) : fits .byte (.int (lo8 y)) = true := by
  have h1 := y.toInt8.le_toInt
  have h2 := y.toInt8.toInt_lt
  simp only [lo8, fits, Bool.and_eq_true, decide_eq_true_eq, Int32.le_iff_toInt_le, Int8.toInt_toInt32, show (-128 : Int32).toInt = -128 from by decide, show (127 : Int32).toInt = 127 from by decide]
  omega
/-- A' is A but that each place j of lo .. hi - 1 holds f j -/
def Laid (A A' : Cell) (lo hi : Nat) (f : Nat → Value) : Prop := A'.cls = A.cls ∧ A'.vm = A.vm ∧ A'.slots.size = A.slots.size ∧ ∀ i, A'.slots[i]? = if lo ≤ i ∧ i < hi then some (f i) else A.slots[i]?
theorem Laid.zero (A : Cell) (lo : Nat) (f : Nat → Value) : Laid A A lo (lo + 0) f := ⟨rfl, rfl, rfl, fun i => by rw [if_neg (by omega)]⟩
theorem Laid.step {A Ak : Cell} {lo k : Nat} {f : Nat → Value} {v : Value} (h : Laid A Ak lo k f) (hlo : lo ≤ k) (hk : k < Ak.slots.size) (hv : v = f k) : Laid A (Ak.setSlot k v) lo (k + 1) f := by
  refine ⟨h.1, h.2.1, by simpa [Cell.setSlot] using h.2.2.1, fun i => ?_⟩
  by_cases e : k = i
  · subst e; rw [Cell.slots_setSlot_self v hk, if_pos (by omega), hv]
  · rw [Cell.slots_setSlot_ne v e, h.2.2.2 i]
    by_cases q : lo ≤ i ∧ i < k
    · rw [if_pos q, if_pos (by omega)]
    · rw [if_neg q, if_neg (by omega)]
def U16 : String := "java/lang/StringUTF16"
namespace Cmp5
def yN : MethodName := ⟨"java/lang/StringUTF16", "compress", "([CI[BII)I"⟩
abbrev yB : ByteArray := jdk_52_method_21_code
theorem d0 : decode yB 0 = .ok (.iconst 0, 1) := by decide +kernel
theorem d1 : decode yB 1 = .ok (.istore 5, 2) := by decide +kernel
theorem d3 : decode yB 3 = .ok (.iload 5, 2) := by decide +kernel
theorem d5 : decode yB 5 = .ok (.iload 4, 2) := by decide +kernel
theorem d7 : decode yB 7 = .ok (.if_icmp (.ge) 37, 3) := by decide +kernel
theorem d10 : decode yB 10 = .ok (.aload_n 0, 1) := by decide +kernel
theorem d11 : decode yB 11 = .ok (.iload_n 1, 1) := by decide +kernel
theorem d12 : decode yB 12 = .ok (.caload, 1) := by decide +kernel
theorem d13 : decode yB 13 = .ok (.istore 6, 2) := by decide +kernel
theorem d15 : decode yB 15 = .ok (.iload 6, 2) := by decide +kernel
theorem d17 : decode yB 17 = .ok (.sipush 255, 3) := by decide +kernel
theorem d20 : decode yB 20 = .ok (.if_icmp (.le) 6, 3) := by decide +kernel
theorem d26 : decode yB 26 = .ok (.aload_n 2, 1) := by decide +kernel
theorem d27 : decode yB 27 = .ok (.iload_n 3, 1) := by decide +kernel
theorem d28 : decode yB 28 = .ok (.iload 6, 2) := by decide +kernel
theorem d30 : decode yB 30 = .ok (.i2b, 1) := by decide +kernel
theorem d31 : decode yB 31 = .ok (.bastore, 1) := by decide +kernel
theorem d32 : decode yB 32 = .ok (.iinc 1 1, 3) := by decide +kernel
theorem d35 : decode yB 35 = .ok (.iinc 3 1, 3) := by decide +kernel
theorem d38 : decode yB 38 = .ok (.iinc 5 1, 3) := by decide +kernel
theorem d41 : decode yB 41 = .ok (.goto (-38), 3) := by decide +kernel
theorem d44 : decode yB 44 = .ok (.iload 4, 2) := by decide +kernel
theorem d46 : decode yB 46 = .ok (.ireturn, 1) := by decide +kernel
def site : List Cond := []
def tab : Cond := tabOf yN yB 7 (some .int) site
def P (b : Addr) (A : Cell) (d : Addr) (B : Cell) (o q len : Nat) (args : Array Value) (s : State) : Prop := args = #[.ref b, .int (Int32.ofNat o), .ref d, .int (Int32.ofNat q), .int (Int32.ofNat len)] ∧ Ch b A s ∧ Arr .byte d B s ∧ b ≠ d ∧ o + len ≤ A.slots.size ∧ q + len ≤ B.slots.size ∧ ∀ i, i < len → ¬ 255 < cv A (o + i)
def E (b : Addr) (A : Cell) (d : Addr) (B : Cell) (o q len : Nat) (r : Option Value) (s u : State) : Prop := r = some (.int (Int32.ofNat len)) ∧ ∃ B', Put d B' s u ∧ Laid B B' q (q + len) (fun j => Value.int (lo8 (cv A (o + (j - q)))))
/-- no char of the range above 255: len; the places written hold each char's low byte -/
theorem law (l : Launch) (b : Addr) (A : Cell) (d : Addr) (B : Cell) (o q len : Nat) : Law l yN 5 5 0 0 yB 7 (some .int) site (P b A d B o q len) (E b A d B o q len) (copyLocs d q len) 0 0 := by
  refine Law.of_walk (plainFor_of_name (by decide +kernel)) (by decide +kernel) (by decide +kernel) (by decide) (fun _ _ h => by rw [h.1]; rfl) (fun _ U U' hal hh h => ⟨h.1, h.2.1.mv hal hh, h.2.2.1.mv hal hh, h.2.2.2⟩) (fun r U U' V V' h1 hal h2 h => ⟨h.1, h.2.elim fun B' q => ⟨B', q.1.mv h1 h2, q.2⟩⟩) ?_
  intro p e s m args below meth c s₁ X0 hexec hbytes hml hret hlk hnm hown hh0 W hP
  obtain ⟨rfl, hA, hB, hne, l1, l2, hp⟩ := hP
  have c1 : Steps p.tables e below (s₁.setTop (entryFrame m #[.ref b, .int (Int32.ofNat o), .ref d, .int (Int32.ofNat q), .int (Int32.ofNat len)] 7)) (s₁.setTop (mkF m 0 #[.val (.ref b), .val (.int (Int32.ofNat o)), .val (.ref d), .val (.int (Int32.ofNat q)), .val (.int (Int32.ofNat len)), .unset, .unset] [])) := entry rfl
  have hA0 := hA.1.mv X0.warmed.alike hh0
  have hB0 := hB.mv X0.warmed.alike hh0
  have a31 := hA.1.2.2.2
  have c2 : Steps p.tables e below (s₁.setTop (entryFrame m #[.ref b, .int (Int32.ofNat o), .ref d, .int (Int32.ofNat q), .int (Int32.ofNat len)] 7)) (s₁.setTop (mkF m 3 #[.val (.ref b), .val (.int (Int32.ofNat o)), .val (.ref d), .val (.int (Int32.ofNat q)), .val (.int (Int32.ofNat len)), .val (.int 0), .unset] [])) := c1.trans (by
    refine iconstV X0.here hexec rfl 0 (hb hbytes d0) (by decide) ?_
    refine XS.istore X0.here hexec rfl (hb hbytes d1) rfl rfl ?_
    exact Steps.refl _)
  have loop : ∀ (r i : Nat), i + r = len → ∀ (z : Slot), (z = .unset ∨ ∃ w, z = .val w ∧ w.category = 1) → ∀ (Tl : State) (Bk : Cell), Stand p l e { frames := 0, locals := 0, cells := 0, slots := 0 } s m #[.ref b, .int (Int32.ofNat o), .ref d, .int (Int32.ofNat q), .int (Int32.ofNat len)] below meth c Tl ([] ++ copyLocs d q i) 0 0 → Put d Bk s₁ Tl → Laid B Bk q (q + i) (fun j => Value.int (lo8 (cv A (o + (j - q))))) →
      Steps p.tables e below (s₁.setTop (entryFrame m #[.ref b, .int (Int32.ofNat o), .ref d, .int (Int32.ofNat q), .int (Int32.ofNat len)] 7)) (Tl.setTop (mkF m 3 #[.val (.ref b), .val (.int (Int32.ofNat (o + i))), .val (.ref d), .val (.int (Int32.ofNat (q + i))), .val (.int (Int32.ofNat len)), .val (.int (Int32.ofNat i)), z] [])) → ∃ (T' : State) (B' : Cell) (z' : Slot), Stand p l e { frames := 0, locals := 0, cells := 0, slots := 0 } s m #[.ref b, .int (Int32.ofNat o), .ref d, .int (Int32.ofNat q), .int (Int32.ofNat len)] below meth c T' ([] ++ copyLocs d q len) 0 0 ∧ Put d B' s₁ T' ∧ Laid B B' q (q + len) (fun j => Value.int (lo8 (cv A (o + (j - q))))) ∧
      Steps p.tables e below (s₁.setTop (entryFrame m #[.ref b, .int (Int32.ofNat o), .ref d, .int (Int32.ofNat q), .int (Int32.ofNat len)] 7)) (T'.setTop (mkF m 3 #[.val (.ref b), .val (.int (Int32.ofNat (o + len))), .val (.ref d), .val (.int (Int32.ofNat (q + len))), .val (.int (Int32.ofNat len)), .val (.int (Int32.ofNat len)), z'] [])) := by
    intro r
    induction r with
    | zero =>
      intro i hi z hz Tl Bk Xl pl fl cl
      have hil : i = len := by omega
      rw [hil] at Xl fl cl
      exact ⟨Tl, Bk, z, Xl, pl, fl, cl⟩
    | succ r ih =>
      intro i hi z hz Tl Bk Xl pl fl cl
      have all := X0.warmed.alike.symm.trans Xl.warmed.alike
      have hAl := hA0.keep all (pl.other hne hA0.1)
      have hBk := hB0.like all pl.1 fl.1 fl.2.1 fl.2.2.1
      have hlt : q + i < Bk.slots.size := by rw [fl.2.2.1]; omega
      have c3 : Steps p.tables e below (s₁.setTop (entryFrame m #[.ref b, .int (Int32.ofNat o), .ref d, .int (Int32.ofNat q), .int (Int32.ofNat len)] 7)) (Tl.setTop (mkF m 12 #[.val (.ref b), .val (.int (Int32.ofNat (o + i))), .val (.ref d), .val (.int (Int32.ofNat (q + i))), .val (.int (Int32.ofNat len)), .val (.int (Int32.ofNat i)), z] [.int (Int32.ofNat (o + i)), .ref b])) := cl.trans (by
        refine XS.iload Xl.here hexec rfl (hb hbytes d3) rfl ?_
        refine XS.iload Xl.here hexec rfl (hb hbytes d5) rfl ?_
        refine XS.icmpNo Xl.here hexec rfl (hb hbytes d7) rfl (ii_ge_f (lt32 (by omega) (by omega))) ?_
        refine XS.aloadN Xl.here hexec rfl (hb hbytes d10) rfl rfl ?_
        refine XS.iloadN Xl.here hexec rfl (hb hbytes d11) rfl ?_
        exact Steps.refl _)
      have c4 : Steps p.tables e below (s₁.setTop (entryFrame m #[.ref b, .int (Int32.ofNat o), .ref d, .int (Int32.ofNat q), .int (Int32.ofNat len)] 7)) (Tl.setTop (mkF m 13 #[.val (.ref b), .val (.int (Int32.ofNat (o + i))), .val (.ref d), .val (.int (Int32.ofNat (q + i))), .val (.int (Int32.ofNat len)), .val (.int (Int32.ofNat i)), z] [.int (cv A (o + i))])) := c3.trans (by
        refine Xl.aget hexec hAl rfl (hA.get (i := o + i) (by omega)) rfl rfl (hb hbytes d12) ?_
        exact Steps.refl _)
      have c5 : Steps p.tables e below (s₁.setTop (entryFrame m #[.ref b, .int (Int32.ofNat o), .ref d, .int (Int32.ofNat q), .int (Int32.ofNat len)] 7)) (Tl.setTop (mkF m 15 #[.val (.ref b), .val (.int (Int32.ofNat (o + i))), .val (.ref d), .val (.int (Int32.ofNat (q + i))), .val (.int (Int32.ofNat len)), .val (.int (Int32.ofNat i)), .val (.int (cv A (o + i)))] [])) := c4.trans (by
        refine XS.istoreS Xl.here hexec rfl (hb hbytes d13) rfl rfl hz ?_
        exact Steps.refl _)
      have c6 : Steps p.tables e below (s₁.setTop (entryFrame m #[.ref b, .int (Int32.ofNat o), .ref d, .int (Int32.ofNat q), .int (Int32.ofNat len)] 7)) (Tl.setTop (mkF m 31 #[.val (.ref b), .val (.int (Int32.ofNat (o + i))), .val (.ref d), .val (.int (Int32.ofNat (q + i))), .val (.int (Int32.ofNat len)), .val (.int (Int32.ofNat i)), .val (.int (cv A (o + i)))] [.int (lo8 (cv A (o + i))), .int (Int32.ofNat (q + i)), .ref d])) := c5.trans (by
        refine XS.iload Xl.here hexec rfl (hb hbytes d15) rfl ?_
        refine sipushV Xl.here hexec rfl 255 (hb hbytes d17) (by decide) ?_
        refine XS.icmpYes Xl.here hexec rfl (pc0 := 20) rfl (hb hbytes d20) rfl (ii_le_t (hp i (by omega))) (by decide) rfl ?_
        refine XS.aloadN Xl.here hexec rfl (hb hbytes d26) rfl rfl ?_
        refine XS.iloadN Xl.here hexec rfl (hb hbytes d27) rfl ?_
        refine XS.iload Xl.here hexec rfl (hb hbytes d28) rfl ?_
        refine i2b Xl.here hexec rfl (hb hbytes d30) rfl ?_
        exact Steps.refl _)
      obtain ⟨T7, X7, p7, st7⟩ := Xl.aput hexec hBk rfl hlt rfl (fits_lo8 (cv A (o + i))) (g := (mkF m 31 #[.val (.ref b), .val (.int (Int32.ofNat (o + i))), .val (.ref d), .val (.int (Int32.ofNat (q + i))), .val (.int (Int32.ofNat len)), .val (.int (Int32.ofNat i)), .val (.int (cv A (o + i)))] [.int (lo8 (cv A (o + i))), .int (Int32.ofNat (q + i)), .ref d])) rfl (rest := []) rfl (hb hbytes d31)
      have c8 : Steps p.tables e below (s₁.setTop (entryFrame m #[.ref b, .int (Int32.ofNat o), .ref d, .int (Int32.ofNat q), .int (Int32.ofNat len)] 7)) (T7.setTop (mkF m 32 #[.val (.ref b), .val (.int (Int32.ofNat (o + i))), .val (.ref d), .val (.int (Int32.ofNat (q + i))), .val (.int (Int32.ofNat len)), .val (.int (Int32.ofNat i)), .val (.int (cv A (o + i)))] [])) := c6.trans (st7 _ (Steps.refl _))
      have c9 : Steps p.tables e below (s₁.setTop (entryFrame m #[.ref b, .int (Int32.ofNat o), .ref d, .int (Int32.ofNat q), .int (Int32.ofNat len)] 7)) (T7.setTop (mkF m 3 #[.val (.ref b), .val (.int (Int32.ofNat (o + i) + 1)), .val (.ref d), .val (.int (Int32.ofNat (q + i) + 1)), .val (.int (Int32.ofNat len)), .val (.int (Int32.ofNat i + 1)), .val (.int (cv A (o + i)))] [])) := c8.trans (by
        refine iincV X7.here hexec rfl 1 (hb hbytes d32) (by decide) rfl rfl ?_
        refine iincV X7.here hexec rfl 1 (hb hbytes d35) (by decide) rfl rfl ?_
        refine iincV X7.here hexec rfl 1 (hb hbytes d38) (by decide) rfl rfl ?_
        refine XS.goto X7.here hexec rfl (pc0 := 41) rfl (hb hbytes d41) (by decide) rfl ?_
        exact Steps.refl _)
      have c10 : Steps p.tables e below (s₁.setTop (entryFrame m #[.ref b, .int (Int32.ofNat o), .ref d, .int (Int32.ofNat q), .int (Int32.ofNat len)] 7)) (T7.setTop (mkF m 3 #[.val (.ref b), .val (.int (Int32.ofNat (o + (i + 1)))), .val (.ref d), .val (.int (Int32.ofNat (q + (i + 1)))), .val (.int (Int32.ofNat len)), .val (.int (Int32.ofNat (i + 1))), .val (.int (cv A (o + i)))] [])) := by
        have := c9
        rw [succ32, succ32, succ32] at this
        exact this
      exact ih (i + 1) (by omega) _ (Or.inr ⟨_, rfl, rfl⟩) T7 _ (by rw [copyLocs_step, ← List.append_assoc]; exact X7) (pl.trans p7) (fl.step (by omega) hlt (by simp)) c10
  obtain ⟨T9, B9, z9, X9, p9, f9, g9⟩ := loop len 0 (by omega) .unset (Or.inl rfl) s₁ B (by simpa [copyLocs] using X0) ⟨hB0.1, fun _ _ => rfl, rfl⟩ (Laid.zero _ _ _) c2
  have c11 : Steps p.tables e below (s₁.setTop (entryFrame m #[.ref b, .int (Int32.ofNat o), .ref d, .int (Int32.ofNat q), .int (Int32.ofNat len)] 7)) (T9.setTop (mkF m 46 #[.val (.ref b), .val (.int (Int32.ofNat (o + len))), .val (.ref d), .val (.int (Int32.ofNat (q + len))), .val (.int (Int32.ofNat len)), .val (.int (Int32.ofNat len)), z9] [.int (Int32.ofNat len)])) := g9.trans (by
    refine XS.iload X9.here hexec rfl (hb hbytes d3) rfl ?_
    refine XS.iload X9.here hexec rfl (hb hbytes d5) rfl ?_
    refine XS.icmpYes X9.here hexec rfl (pc0 := 7) rfl (hb hbytes d7) rfl (ii_ge_t (nlt32 (by omega) (Nat.le_refl _))) (by decide) rfl ?_
    refine XS.iload X9.here hexec rfl (hb hbytes d44) rfl ?_
    exact Steps.refl _)
  exact ⟨T9, some (.int (Int32.ofNat len)), _, _, _, X9, by simp, rfl, rfl, (fun h => by cases h), ⟨rfl, B9, p9.from hh0, f9⟩, fun fs hl => c11.trans (X9.ireturnOut hexec hret rfl (Or.inl rfl) (hb hbytes d46) hl)⟩
end Cmp5
namespace Cmp3
def yN : MethodName := ⟨"java/lang/StringUTF16", "compress", "([CII)[B"⟩
abbrev yB : ByteArray := jdk_52_method_16_code
theorem d0 : decode yB 0 = .ok (.iload_n 2, 1) := by decide +kernel
theorem d1 : decode yB 1 = .ok (.newarray .byte, 2) := by decide +kernel
theorem d3 : decode yB 3 = .ok (.astore_n 3, 1) := by decide +kernel
theorem d4 : decode yB 4 = .ok (.aload_n 0, 1) := by decide +kernel
theorem d5 : decode yB 5 = .ok (.iload_n 1, 1) := by decide +kernel
theorem d6 : decode yB 6 = .ok (.aload_n 3, 1) := by decide +kernel
theorem d7 : decode yB 7 = .ok (.iconst 0, 1) := by decide +kernel
theorem d8 : decode yB 8 = .ok (.iload_n 2, 1) := by decide +kernel
theorem d9 : decode yB 9 = .ok (.invokestatic 115, 3) := by decide +kernel
theorem d12 : decode yB 12 = .ok (.istore 4, 2) := by decide +kernel
theorem d14 : decode yB 14 = .ok (.iload 4, 2) := by decide +kernel
theorem d16 : decode yB 16 = .ok (.iload_n 2, 1) := by decide +kernel
theorem d17 : decode yB 17 = .ok (.if_icmp (.eq) 40, 3) := by decide +kernel
theorem d57 : decode yB 57 = .ok (.aload_n 3, 1) := by decide +kernel
theorem d58 : decode yB 58 = .ok (.areturn, 1) := by decide +kernel
def site : List Cond := [.arrayClass .byte, Cmp5.tab] ++ staticW U16 115 Cmp5.yN
def tab : Cond := tabOf yN yB 6 (some (.array .byte)) site
def P (b : Addr) (A : Cell) (o len : Nat) (args : Array Value) (s : State) : Prop := args = #[.ref b, .int (Int32.ofNat o), .int (Int32.ofNat len)] ∧ Ch b A s ∧ o + len ≤ A.slots.size ∧ len ≤ 536870912 ∧ ∀ i, i < len → ¬ 255 < cv A (o + i)
def E (b : Addr) (A : Cell) (o len : Nat) (r : Option Value) (s u : State) : Prop := NewArr .byte "[B" len (fun j => .int (lo8 (cv A (o + j)))) r s u ∧ u.heap.size = s.heap.size + 1
/-- no char of the range above 255: a new byte[] of their low bytes -/
theorem law (l : Launch) (b : Addr) (A : Cell) (o len : Nat) : Law l yN 3 3 1 18 yB 6 (some (.array .byte)) site (P b A o len) (E b A o len) [] 1 len := by
  refine Law.of_walk (plainFor_of_name (by decide +kernel)) (by decide +kernel) (by decide +kernel) (by decide) (fun _ _ h => by rw [h.1]; rfl) (fun _ U U' hal hh h => ⟨h.1, h.2.1.mv hal hh, h.2.2⟩) (fun r U U' V V' h1 hal h2 h => ⟨NewArr.mv r U U' V V' h1 hal h2 h.1, by rw [h1, h2]; exact h.2⟩) ?_
  intro p e s m args below meth c s₁ X0 hexec hbytes hml hret hlk hnm hown hh0 W hP
  obtain ⟨rfl, hA, l1, l2, hp⟩ := hP
  have a31 := hA.1.2.2.2
  have c1 : Steps p.tables e below (s₁.setTop (entryFrame m #[.ref b, .int (Int32.ofNat o), .int (Int32.ofNat len)] 6)) (s₁.setTop (mkF m 0 #[.val (.ref b), .val (.int (Int32.ofNat o)), .val (.int (Int32.ofNat len)), .unset, .unset, .unset] [])) := entry rfl
  have c2 : Steps p.tables e below (s₁.setTop (entryFrame m #[.ref b, .int (Int32.ofNat o), .int (Int32.ofNat len)] 6)) (s₁.setTop (mkF m 1 #[.val (.ref b), .val (.int (Int32.ofNat o)), .val (.int (Int32.ofNat len)), .unset, .unset, .unset] [.int (Int32.ofNat len)])) := c1.trans (by
    refine XS.iloadN X0.here hexec rfl (hb hbytes d0) rfl ?_
    exact Steps.refl _)
  obtain ⟨T3, B3, X3, ba3, bs3, bv3, bh3, bf3, st3⟩ := X0.anew hexec (atype := .byte) (wk W (.arrayClass .byte)) rfl (by show len * 1 ≤ _; omega) (by omega) (g := (mkF m 1 #[.val (.ref b), .val (.int (Int32.ofNat o)), .val (.int (Int32.ofNat len)), .unset, .unset, .unset] [.int (Int32.ofNat len)])) rfl (hb hbytes d1) (rest := []) rfl (Nat.le_refl _) (by show 0 + len ≤ len; omega)
  rw [hh0] at ba3 st3
  have kp3 : XT.Kept s T3 := (XT.Kept.of_eq hh0).push bh3
  have hA3 := hA.keep X3.warmed.alike (kp3 _ _ hA.1.1)
  have hne : b ≠ s.heap.size := hA.1.ne
  have c4 : Steps p.tables e below (s₁.setTop (entryFrame m #[.ref b, .int (Int32.ofNat o), .int (Int32.ofNat len)] 6)) (T3.setTop (mkF m 3 #[.val (.ref b), .val (.int (Int32.ofNat o)), .val (.int (Int32.ofNat len)), .unset, .unset, .unset] [.ref s.heap.size])) := c2.trans (st3 _ (Steps.refl _))
  have c5 : Steps p.tables e below (s₁.setTop (entryFrame m #[.ref b, .int (Int32.ofNat o), .int (Int32.ofNat len)] 6)) (T3.setTop (mkF m 9 #[.val (.ref b), .val (.int (Int32.ofNat o)), .val (.int (Int32.ofNat len)), .val (.ref s.heap.size), .unset, .unset] [.int (Int32.ofNat len), .int 0, .ref s.heap.size, .int (Int32.ofNat o), .ref b])) := c4.trans (by
    refine XS.astoreN X3.here hexec rfl (hb hbytes d3) rfl rfl rfl ?_
    refine XS.aloadN X3.here hexec rfl (hb hbytes d4) rfl rfl ?_
    refine XS.iloadN X3.here hexec rfl (hb hbytes d5) rfl ?_
    refine XS.aloadN X3.here hexec rfl (hb hbytes d6) rfl rfl ?_
    refine iconstV X3.here hexec rfl 0 (hb hbytes d7) (by decide) ?_
    refine XS.iloadN X3.here hexec rfl (hb hbytes d8) rfl ?_
    exact Steps.refl _)
  obtain ⟨v6, T6, X6, E6, g6⟩ := X3.callS hexec (Cmp5.law l b A s.heap.size B3 o 0 len) hown (wks W (staticW U16 115 Cmp5.yN)) (wk W Cmp5.tab) (W := 0) (Nat.le_of_ble_eq_true rfl) (Nat.le_of_ble_eq_true rfl) (Nat.le_refl _) (by show 0 + len + 0 ≤ len; omega) (g := (mkF m 9 #[.val (.ref b), .val (.int (Int32.ofNat o)), .val (.int (Int32.ofNat len)), .val (.ref s.heap.size), .unset, .unset] [.int (Int32.ofNat len), .int (Int32.ofNat 0), .ref s.heap.size, .int (Int32.ofNat o), .ref b])) rfl (by rw [hml]; rfl) c5 (argsL := [.ref b, .int (Int32.ofNat o), .ref s.heap.size, .int (Int32.ofNat 0), .int (Int32.ofNat len)]) (rest := []) rfl rfl (by show 2 * 0 + 0 ≤ _; decide) (hb hbytes d9) (⟨rfl, hA3, ba3, hne, l1, by rw [bs3]; simp, hp⟩)
  obtain ⟨rfl, B6, p6, f6⟩ := E6
  have c7 : Steps p.tables e below (s₁.setTop (entryFrame m #[.ref b, .int (Int32.ofNat o), .int (Int32.ofNat len)] 6)) (T6.setTop (mkF m 12 #[.val (.ref b), .val (.int (Int32.ofNat o)), .val (.int (Int32.ofNat len)), .val (.ref s.heap.size), .unset, .unset] [.int (Int32.ofNat len)])) := g6
  have c8 : Steps p.tables e below (s₁.setTop (entryFrame m #[.ref b, .int (Int32.ofNat o), .int (Int32.ofNat len)] 6)) (T6.setTop (mkF m 58 #[.val (.ref b), .val (.int (Int32.ofNat o)), .val (.int (Int32.ofNat len)), .val (.ref s.heap.size), .val (.int (Int32.ofNat len)), .unset] [.ref s.heap.size])) := c7.trans (by
    refine XS.istore X6.here hexec rfl (hb hbytes d12) rfl rfl ?_
    refine XS.iload X6.here hexec rfl (hb hbytes d14) rfl ?_
    refine XS.iloadN X6.here hexec rfl (hb hbytes d16) rfl ?_
    refine XS.icmpYes X6.here hexec rfl (pc0 := 17) rfl (hb hbytes d17) rfl (ii_eq_t rfl) (by decide) rfl ?_
    refine XS.aloadN X6.here hexec rfl (hb hbytes d57) rfl rfl ?_
    exact Steps.refl _)
  have X8 := X6.wide (L' := []) (cells' := 1) (slots' := len) (fun x hx hlt => by
    simp only [List.nil_append, copyLocs, List.mem_map, List.mem_range] at hx
    obtain ⟨i, -, rfl⟩ := hx
    exact absurd hlt (Nat.lt_irrefl _)) (Nat.le_refl _) (by omega)
  exact ⟨T6, some (.ref s.heap.size), _, _, _, X8, rfl, rfl, rfl, (fun h => by cases h), ⟨⟨rfl, B6, ba3.like (X3.warmed.alike.symm.trans X6.warmed.alike) p6.1 f6.1 f6.2.1 f6.2.2.1, f6.2.1.trans bv3, by rw [X6.warmed.alike.findClass, f6.1]; exact bf3, by rw [f6.2.2.1, bs3]; simp, fun j hj => by rw [f6.2.2.2 j, if_pos (by omega)]; rfl, kp3.put p6 (Nat.le_refl _)⟩, by rw [p6.2.2, bh3, hh0]; simp⟩, fun fs hl => c8.trans (X8.areturnOut hexec rfl hret rfl (hb hbytes d58) hl)⟩
end Cmp3
namespace CodL
def yN : MethodName := ⟨"java/lang/StringUTF16", "coderFromArrayLen", "([BI)B"⟩
abbrev yB : ByteArray := jdk_52_method_15_code
theorem d0 : decode yB 0 = .ok (.iload_n 1, 1) := by decide +kernel
theorem d1 : decode yB 1 = .ok (.aload_n 0, 1) := by decide +kernel
theorem d2 : decode yB 2 = .ok (.arraylength, 1) := by decide +kernel
theorem d3 : decode yB 3 = .ok (.isub, 1) := by decide +kernel
theorem d4 : decode yB 4 = .ok (.bipush 31, 2) := by decide +kernel
theorem d6 : decode yB 6 = .ok (.iushr, 1) := by decide +kernel
theorem d7 : decode yB 7 = .ok (.i2b, 1) := by decide +kernel
theorem d8 : decode yB 8 = .ok (.ireturn, 1) := by decide +kernel
def site : List Cond := []
def tab : Cond := tabOf yN yB 2 (some .byte) site
def P (d : Addr) (B : Cell) (args : Array Value) (s : State) : Prop := args = #[.ref d, .int (Int32.ofNat B.slots.size)] ∧ Arr .byte d B s
def E (r : Option Value) (s u : State) : Prop := XT.PureE (some (.int 0)) r s u
/-- an array as long as the number of chars: LATIN1 -/
theorem law (l : Launch) (d : Addr) (B : Cell) : Law l yN 2 2 0 0 yB 2 (some .byte) site (P d B) E [] 0 0 := by
  refine Law.of_walk (plainFor_of_name (by decide +kernel)) (by decide +kernel) (by decide +kernel) (by decide) (fun _ _ h => by rw [h.1]; rfl) (fun _ U U' hal hh h => ⟨h.1, h.2.mv hal hh⟩) (fun r U U' V V' h1 hal h2 h => XT.PureE.mv r U U' V V' h1 hal h2 h) ?_
  intro p e s m args below meth c s₁ X0 hexec hbytes hml hret hlk hnm hown hh0 W hP
  obtain ⟨rfl, hB⟩ := hP
  have hB0 := hB.mv X0.warmed.alike hh0
  have c1 : Steps p.tables e below (s₁.setTop (entryFrame m #[.ref d, .int (Int32.ofNat B.slots.size)] 2)) (s₁.setTop (mkF m 0 #[.val (.ref d), .val (.int (Int32.ofNat B.slots.size))] [])) := entry rfl
  have c2 : Steps p.tables e below (s₁.setTop (entryFrame m #[.ref d, .int (Int32.ofNat B.slots.size)] 2)) (s₁.setTop (mkF m 2 #[.val (.ref d), .val (.int (Int32.ofNat B.slots.size))] [.ref d, .int (Int32.ofNat B.slots.size)])) := c1.trans (by
    refine XS.iloadN X0.here hexec rfl (hb hbytes d0) rfl ?_
    refine XS.aloadN X0.here hexec rfl (hb hbytes d1) rfl rfl ?_
    exact Steps.refl _)
  have c3 : Steps p.tables e below (s₁.setTop (entryFrame m #[.ref d, .int (Int32.ofNat B.slots.size)] 2)) (s₁.setTop (mkF m 8 #[.val (.ref d), .val (.int (Int32.ofNat B.slots.size))] [.int (lo8 (ushr (Int32.ofNat B.slots.size - Int32.ofNat B.slots.size) 31))])) := c2.trans (by
    refine X0.alen hexec hB0 rfl rfl (hb hbytes d2) ?_
    refine XS.isub X0.here hexec rfl (hb hbytes d3) rfl ?_
    refine bipushV X0.here hexec rfl 31 (hb hbytes d4) (by decide) ?_
    refine iushr X0.here hexec rfl (hb hbytes d6) rfl ?_
    refine i2b X0.here hexec rfl (hb hbytes d7) rfl ?_
    exact Steps.refl _)
  have e0 : lo8 (ushr (Int32.ofNat B.slots.size - Int32.ofNat B.slots.size) 31) = 0 := by rw [Int32.sub_self]; decide
  rw [e0] at c3
  exact ⟨s₁, some (.int 0), _, _, _, X0, rfl, rfl, rfl, (fun h => by cases h), ⟨rfl, hh0⟩, fun fs hl => c3.trans (X0.ireturnOut hexec hret rfl (Or.inr (Or.inr (Or.inl rfl))) (hb hbytes d8) hl)⟩
end CodL
/-- the String at a is Latin-1 over a new byte[] (the heap's one new cell): the low bytes of the len chars of A from o on; every cell but a is kept -/
def Got (a : Addr) (D : Cell) (fV fC : Field) (A : Cell) (o len : Nat) (r : Option Value) (s u : State) : Prop := r = none ∧ ∃ D' V : Cell, Blank "java/lang/String" a D' u ∧ Same D D' [fV.slot, fC.slot] ∧ D'.slots[fV.slot]? = some (.ref s.heap.size) ∧ D'.slots[fC.slot]? = some (.int 0) ∧ Arr .byte s.heap.size V u ∧ V.vm = .none ∧ u.vm.findClass "[B" = some V.cls ∧ V.slots.size = len ∧ (∀ j, j < len → V.slots[j]? = some (.int (lo8 (cv A (o + j))))) ∧ (∀ (y : Addr) (c : Cell), y ≠ a → s.heap[y]? = some c → u.heap[y]? = some c) ∧ u.heap.size = s.heap.size + 1
theorem Got.mv {a : Addr} {D A : Cell} {fV fC : Field} {o len : Nat} : ∀ r (U U' V V' : State), U'.heap = U.heap → V.vm.Alike V'.vm → V'.heap = V.heap → Got a D fV fC A o len r U V → Got a D fV fC A o len r U' V' :=
  fun r U U' V V' h1 hal h2 ⟨e0, D', X, a1, a2, a3, a4, a5, a6, a7, a8, a9, a10, a11⟩ => ⟨e0, D', X, a1.mv hal h2, a2, by rw [h1]; exact a3, a4, by rw [h1]; exact a5.mv hal h2, a6, by rw [hal.findClass]; exact a7, a8, a9, by rw [h1, h2]; exact a10, by rw [h1, h2]; exact a11⟩
namespace New4
def yN : MethodName := ⟨"java/lang/String", "<init>", "([CIILjava/lang/Void;)V"⟩
abbrev yB : ByteArray := jdk_42_method_149_code
theorem d0 : decode yB 0 = .ok (.aload_n 0, 1) := by decide +kernel
theorem d1 : decode yB 1 = .ok (.invokespecial 1, 3) := by decide +kernel
theorem d4 : decode yB 4 = .ok (.iload_n 3, 1) := by decide +kernel
theorem d5 : decode yB 5 = .ok (.ifCond (.ne) 22, 3) := by decide +kernel
theorem d27 : decode yB 27 = .ok (.getstatic 38, 3) := by decide +kernel
theorem d30 : decode yB 30 = .ok (.ifCond (.eq) 28, 3) := by decide +kernel
theorem d33 : decode yB 33 = .ok (.aload_n 1, 1) := by decide +kernel
theorem d34 : decode yB 34 = .ok (.iload_n 2, 1) := by decide +kernel
theorem d35 : decode yB 35 = .ok (.iload_n 3, 1) := by decide +kernel
theorem d36 : decode yB 36 = .ok (.invokestatic 177, 3) := by decide +kernel
theorem d39 : decode yB 39 = .ok (.astore 5, 2) := by decide +kernel
theorem d41 : decode yB 41 = .ok (.aload_n 0, 1) := by decide +kernel
theorem d42 : decode yB 42 = .ok (.aload 5, 2) := by decide +kernel
theorem d44 : decode yB 44 = .ok (.iload_n 3, 1) := by decide +kernel
theorem d45 : decode yB 45 = .ok (.invokestatic 47, 3) := by decide +kernel
theorem d48 : decode yB 48 = .ok (.putfield 15, 3) := by decide +kernel
theorem d51 : decode yB 51 = .ok (.aload_n 0, 1) := by decide +kernel
theorem d52 : decode yB 52 = .ok (.aload 5, 2) := by decide +kernel
theorem d54 : decode yB 54 = .ok (.putfield 9, 3) := by decide +kernel
theorem d57 : decode yB 57 = .ok (.return_, 1) := by decide +kernel
def site : List Cond := [.fieldLink "java/lang/String" 38 "java/lang/String" "COMPACT_STRINGS" "Z", Cmp3.tab, CodL.tab, .laysFinal "java/lang/String" "java/lang/String" "value" "[B", .fieldLink "java/lang/String" 9 "java/lang/String" "value" "[B", .laysFinal "java/lang/String" "java/lang/String" "coder" "B", .fieldLink "java/lang/String" 15 "java/lang/String" "coder" "B"] ++ objW "java/lang/String" 1 ++ staticW "java/lang/String" 177 Cmp3.yN ++ staticW "java/lang/String" 47 CodL.yN
def tab : Cond := tabOf yN yB 6 none site
def P (a : Addr) (D : Cell) (fV fC : Field) (b : Addr) (A : Cell) (z : Int32) (o len : Nat) (args : Array Value) (s : State) : Prop := args = #[.ref a, .ref b, .int (Int32.ofNat o), .int (Int32.ofNat len), .null] ∧ Blank "java/lang/String" a D s ∧ Found "java/lang/String" "value" "[B" fV s ∧ Found "java/lang/String" "coder" "B" fC s ∧ Ch b A s ∧ StaticIs s "java/lang/String" "COMPACT_STRINGS" "Z" (.int z) ∧ ¬ z = 0 ∧ 0 < len ∧ o + len ≤ A.slots.size ∧ len ≤ 536870912 ∧ ∀ i, i < len → ¬ 255 < cv A (o + i)
def E (a : Addr) (D : Cell) (fV fC : Field) (A : Cell) (o len : Nat) (r : Option Value) (s u : State) : Prop := Got a D fV fC A o len r s u
/-- len > 0, no char of the range above 255: a Latin-1 String of their low bytes -/
theorem law (l : Launch) (a : Addr) (D : Cell) (fV fC : Field) (b : Addr) (A : Cell) (z : Int32) (o len : Nat) : Law l yN 5 4 2 35 yB 6 none site (P a D fV fC b A z o len) (E a D fV fC A o len) [⟨a, fC.slot⟩, ⟨a, fV.slot⟩] 1 len := by
  refine Law.of_walk (plainFor_of_name (by decide +kernel)) (by decide +kernel) (by decide +kernel) (by decide) (fun _ _ h => by rw [h.1]; rfl) (fun _ U U' hal hh h => ⟨h.1, h.2.1.mv hal hh, h.2.2.1.al hal, h.2.2.2.1.al hal, h.2.2.2.2.1.mv hal hh, h.2.2.2.2.2.1.there hal hh, h.2.2.2.2.2.2⟩) (fun r U U' V V' h1 hal h2 h => Got.mv r U U' V V' h1 hal h2 h) ?_
  intro p e s m args below meth c s₁ X0 hexec hbytes hml hret hlk hnm hown hh0 W hP
  obtain ⟨rfl, hB, f1, f2, hA, s1, hz, l0, l1, l2, hp⟩ := hP
  have a31 := hA.1.2.2.2
  have c1 : Steps p.tables e below (s₁.setTop (entryFrame m #[.ref a, .ref b, .int (Int32.ofNat o), .int (Int32.ofNat len), .null] 6)) (s₁.setTop (mkF m 0 #[.val (.ref a), .val (.ref b), .val (.int (Int32.ofNat o)), .val (.int (Int32.ofNat len)), .val .null, .unset] [])) := entry rfl
  have c2 : Steps p.tables e below (s₁.setTop (entryFrame m #[.ref a, .ref b, .int (Int32.ofNat o), .int (Int32.ofNat len), .null] 6)) (s₁.setTop (mkF m 1 #[.val (.ref a), .val (.ref b), .val (.int (Int32.ofNat o)), .val (.int (Int32.ofNat len)), .val .null, .unset] [.ref a])) := c1.trans (by
    refine XS.aloadN X0.here hexec rfl (hb hbytes d0) rfl rfl ?_
    exact Steps.refl _)
  obtain ⟨T3, X3, q3, st3⟩ := X0.oinit hexec hown (wks W (objW "java/lang/String" 1)) (g := (mkF m 1 #[.val (.ref a), .val (.ref b), .val (.int (Int32.ofNat o)), .val (.int (Int32.ofNat len)), .val .null, .unset] [.ref a])) rfl (by rw [hml]; rfl) (rest := []) rfl (hb hbytes d1) (W := 0) (by show 2 * 0 + 0 ≤ _; decide) (Nat.le_of_ble_eq_true rfl) (Nat.le_of_ble_eq_true rfl)
  have hh3 := q3.trans hh0
  have c4 : Steps p.tables e below (s₁.setTop (entryFrame m #[.ref a, .ref b, .int (Int32.ofNat o), .int (Int32.ofNat len), .null] 6)) (T3.setTop (mkF m 27 #[.val (.ref a), .val (.ref b), .val (.int (Int32.ofNat o)), .val (.int (Int32.ofNat len)), .val .null, .unset] [])) := (c2.trans (st3 _ (Steps.refl _))).trans (by
    refine XS.iloadN X3.here hexec rfl (hb hbytes d4) rfl ?_
    refine XS.ifYes X3.here hexec rfl (pc0 := 5) rfl (hb hbytes d5) rfl (i0_ne_t (nz32 (by omega) l0)) (by decide) rfl ?_
    exact Steps.refl _)
  obtain ⟨T5, X5, q5, st5⟩ := X3.sget hexec hown (wk W (.fieldLink "java/lang/String" 38 "java/lang/String" "COMPACT_STRINGS" "Z")) s1 (fun _ _ h => by rw [hh3]; exact h) (g := (mkF m 27 #[.val (.ref a), .val (.ref b), .val (.int (Int32.ofNat o)), .val (.int (Int32.ofNat len)), .val .null, .unset] [])) rfl (hb hbytes d27)
  have hh5 := q5.trans hh3
  have c6 : Steps p.tables e below (s₁.setTop (entryFrame m #[.ref a, .ref b, .int (Int32.ofNat o), .int (Int32.ofNat len), .null] 6)) (T5.setTop (mkF m 30 #[.val (.ref a), .val (.ref b), .val (.int (Int32.ofNat o)), .val (.int (Int32.ofNat len)), .val .null, .unset] [.int z])) := c4.trans (st5 _ (Steps.refl _))
  have c7 : Steps p.tables e below (s₁.setTop (entryFrame m #[.ref a, .ref b, .int (Int32.ofNat o), .int (Int32.ofNat len), .null] 6)) (T5.setTop (mkF m 36 #[.val (.ref a), .val (.ref b), .val (.int (Int32.ofNat o)), .val (.int (Int32.ofNat len)), .val .null, .unset] [.int (Int32.ofNat len), .int (Int32.ofNat o), .ref b])) := c6.trans (by
    refine XS.ifNo X5.here hexec rfl (hb hbytes d30) rfl (i0_eq_f hz) ?_
    refine XS.aloadN X5.here hexec rfl (hb hbytes d33) rfl rfl ?_
    refine XS.iloadN X5.here hexec rfl (hb hbytes d34) rfl ?_
    refine XS.iloadN X5.here hexec rfl (hb hbytes d35) rfl ?_
    exact Steps.refl _)
  obtain ⟨v8, T8, X8, E8, g8⟩ := X5.callS hexec (Cmp3.law l b A o len) hown (wks W (staticW "java/lang/String" 177 Cmp3.yN)) (wk W Cmp3.tab) (W := 0) (Nat.le_of_ble_eq_true rfl) (Nat.le_of_ble_eq_true rfl) (Nat.le_refl _) (by show 0 + len ≤ len; omega) (g := (mkF m 36 #[.val (.ref a), .val (.ref b), .val (.int (Int32.ofNat o)), .val (.int (Int32.ofNat len)), .val .null, .unset] [.int (Int32.ofNat len), .int (Int32.ofNat o), .ref b])) rfl (by rw [hml]; rfl) c7 (argsL := [.ref b, .int (Int32.ofNat o), .int (Int32.ofNat len)]) (rest := []) rfl rfl (by show 2 * 0 + 0 ≤ _; decide) (hb hbytes d36) (⟨rfl, hA.mv X5.warmed.alike hh5, l1, l2, hp⟩)
  obtain ⟨e8, z8⟩ := E8
  obtain ⟨rfl, N, n1, n2, n3, n4, n5, n6⟩ := NewArr.mv _ T5 s _ _ hh5.symm (Vm.Alike.refl _) rfl e8
  rw [hh5] at z8
  have hB1 := hB.keep X8.warmed.alike (n6 _ _ hB.1)
  have hne : s.heap.size ≠ a := (Nat.ne_of_lt (Array.getElem?_eq_some_iff.mp hB.1).1).symm
  have c9 : Steps p.tables e below (s₁.setTop (entryFrame m #[.ref a, .ref b, .int (Int32.ofNat o), .int (Int32.ofNat len), .null] 6)) (T8.setTop (mkF m 39 #[.val (.ref a), .val (.ref b), .val (.int (Int32.ofNat o)), .val (.int (Int32.ofNat len)), .val .null, .unset] [.ref s.heap.size])) := g8
  have c10 : Steps p.tables e below (s₁.setTop (entryFrame m #[.ref a, .ref b, .int (Int32.ofNat o), .int (Int32.ofNat len), .null] 6)) (T8.setTop (mkF m 45 #[.val (.ref a), .val (.ref b), .val (.int (Int32.ofNat o)), .val (.int (Int32.ofNat len)), .val .null, .val (.ref s.heap.size)] [.int (Int32.ofNat N.slots.size), .ref s.heap.size, .ref a])) := by
    have hc : Steps p.tables e below (s₁.setTop (entryFrame m #[.ref a, .ref b, .int (Int32.ofNat o), .int (Int32.ofNat len), .null] 6)) (T8.setTop (mkF m 45 #[.val (.ref a), .val (.ref b), .val (.int (Int32.ofNat o)), .val (.int (Int32.ofNat len)), .val .null, .val (.ref s.heap.size)] [.int (Int32.ofNat len), .ref s.heap.size, .ref a])) := c9.trans (by
      refine XS.astore X8.here hexec rfl (hb hbytes d39) rfl rfl rfl ?_
      refine XS.aloadN X8.here hexec rfl (hb hbytes d41) rfl rfl ?_
      refine XS.aload X8.here hexec rfl (hb hbytes d42) rfl rfl ?_
      refine XS.iloadN X8.here hexec rfl (hb hbytes d44) rfl ?_
      exact Steps.refl _)
    rw [n4]; exact hc
  obtain ⟨v11, T11, X11, E11, g11⟩ := X8.callS hexec (CodL.law l s.heap.size N) hown (wks W (staticW "java/lang/String" 47 CodL.yN)) (wk W CodL.tab) (W := 1) (Nat.le_of_ble_eq_true rfl) (Nat.le_of_ble_eq_true rfl) (Nat.le_refl _) (by show 0 + len + 0 ≤ len; omega) (g := (mkF m 45 #[.val (.ref a), .val (.ref b), .val (.int (Int32.ofNat o)), .val (.int (Int32.ofNat len)), .val .null, .val (.ref s.heap.size)] [.int (Int32.ofNat N.slots.size), .ref s.heap.size, .ref a])) rfl (by rw [hml]; rfl) c10 (argsL := [.ref s.heap.size, .int (Int32.ofNat N.slots.size)]) (rest := [.ref a]) rfl rfl (by show 2 * 0 + (1 + 0) ≤ _; decide) (hb hbytes d45) (⟨rfl, n1⟩)
  obtain ⟨rfl, q11⟩ := E11
  have hB11 := hB1.mv (X8.warmed.alike.symm.trans X11.warmed.alike) q11
  have c12 : Steps p.tables e below (s₁.setTop (entryFrame m #[.ref a, .ref b, .int (Int32.ofNat o), .int (Int32.ofNat len), .null] 6)) (T11.setTop (mkF m 48 #[.val (.ref a), .val (.ref b), .val (.int (Int32.ofNat o)), .val (.int (Int32.ofNat len)), .val .null, .val (.ref s.heap.size)] [.int 0, .ref a])) := g11
  obtain ⟨T13, X13, p13, bl13, sl13, st13⟩ := X11.finit hexec hown (wk W (.fieldLink "java/lang/String" 15 "java/lang/String" "coder" "B")) (Or.inr ⟨_, (wk W (.laysFinal "java/lang/String" "java/lang/String" "coder" "B"))⟩) (Or.inl ⟨rfl, hnm⟩) f2 (Or.inl rfl) hB11 (t := .byte) (by decide +kernel) rfl (g := (mkF m 48 #[.val (.ref a), .val (.ref b), .val (.int (Int32.ofNat o)), .val (.int (Int32.ofNat len)), .val .null, .val (.ref s.heap.size)] [.int 0, .ref a])) rfl (rest := []) rfl (hb hbytes d48)
  have c14 : Steps p.tables e below (s₁.setTop (entryFrame m #[.ref a, .ref b, .int (Int32.ofNat o), .int (Int32.ofNat len), .null] 6)) (T13.setTop (mkF m 54 #[.val (.ref a), .val (.ref b), .val (.int (Int32.ofNat o)), .val (.int (Int32.ofNat len)), .val .null, .val (.ref s.heap.size)] [.ref s.heap.size, .ref a])) := (c12.trans (st13 _ (Steps.refl _))).trans (by
    refine XS.aloadN X13.here hexec rfl (hb hbytes d51) rfl rfl ?_
    refine XS.aload X13.here hexec rfl (hb hbytes d52) rfl rfl ?_
    exact Steps.refl _)
  obtain ⟨T15, X15, p15, bl15, sl15, st15⟩ := X13.finit hexec hown (wk W (.fieldLink "java/lang/String" 9 "java/lang/String" "value" "[B")) (Or.inr ⟨_, (wk W (.laysFinal "java/lang/String" "java/lang/String" "value" "[B"))⟩) (Or.inl ⟨rfl, hnm⟩) f1 (Or.inl rfl) bl13 (t := (.array .byte)) (by decide +kernel) rfl (g := (mkF m 54 #[.val (.ref a), .val (.ref b), .val (.int (Int32.ofNat o)), .val (.int (Int32.ofNat len)), .val .null, .val (.ref s.heap.size)] [.ref s.heap.size, .ref a])) rfl (rest := []) rfl (hb hbytes d54)
  have c16 : Steps p.tables e below (s₁.setTop (entryFrame m #[.ref a, .ref b, .int (Int32.ofNat o), .int (Int32.ofNat len), .null] 6)) (T15.setTop (mkF m 57 #[.val (.ref a), .val (.ref b), .val (.int (Int32.ofNat o)), .val (.int (Int32.ofNat len)), .val .null, .val (.ref s.heap.size)] [])) := c14.trans (st15 _ (Steps.refl _))
  have ap := apart (Or.inr ⟨_, (wk W (.laysFinal "java/lang/String" "java/lang/String" "value" "[B"))⟩) (Or.inr ⟨_, (wk W (.laysFinal "java/lang/String" "java/lang/String" "coder" "B"))⟩) f1 f2 (t₁ := .array .byte) (t₂ := .byte) (by decide +kernel) (by decide +kernel) (by decide)
  have al := X8.warmed.alike.symm.trans X15.warmed.alike
  have n7 : T11.heap[s.heap.size]? = some N := by rw [q11]; exact n1.1
  exact ⟨T15, none, _, _, _, X15, by simp, rfl, by omega, (fun _ => rfl), ⟨rfl, _, N, bl15, ((Same.refl D _).set _ (by simp)).set _ (by simp), sl15, (Cell.slots_setSlot_ne _ ap).trans sl13, n1.keep al (p15.other hne (p13.other hne n7)), n2, by rw [al.findClass]; exact n3, n4, n5, fun y c h1 h2 => p15.other h1 (p13.other h1 (by rw [q11]; exact n6 y c h2)), by rw [p15.2.2, p13.2.2, q11]; exact z8⟩, fun fs hl => c16.trans (X15.returnOut hexec hret (hb hbytes d57) hl)⟩
end New4
namespace New1
def yN : MethodName := ⟨"java/lang/String", "<init>", "([C)V"⟩
abbrev yB : ByteArray := jdk_42_method_3_code
theorem d0 : decode yB 0 = .ok (.aload_n 0, 1) := by decide +kernel
theorem d1 : decode yB 1 = .ok (.aload_n 1, 1) := by decide +kernel
theorem d2 : decode yB 2 = .ok (.iconst 0, 1) := by decide +kernel
theorem d3 : decode yB 3 = .ok (.aload_n 1, 1) := by decide +kernel
theorem d4 : decode yB 4 = .ok (.arraylength, 1) := by decide +kernel
theorem d5 : decode yB 5 = .ok (.aconst_null, 1) := by decide +kernel
theorem d6 : decode yB 6 = .ok (.invokespecial 27, 3) := by decide +kernel
theorem d9 : decode yB 9 = .ok (.return_, 1) := by decide +kernel
def site : List Cond := [New4.tab] ++ initW "java/lang/String" 27 New4.yN
def tab : Cond := tabOf yN yB 2 none site
def P (a : Addr) (D : Cell) (fV fC : Field) (b : Addr) (A : Cell) (z : Int32) (args : Array Value) (s : State) : Prop := args = #[.ref a, .ref b] ∧ Blank "java/lang/String" a D s ∧ Found "java/lang/String" "value" "[B" fV s ∧ Found "java/lang/String" "coder" "B" fC s ∧ Ch b A s ∧ StaticIs s "java/lang/String" "COMPACT_STRINGS" "Z" (.int z) ∧ ¬ z = 0 ∧ 0 < A.slots.size ∧ A.slots.size ≤ 536870912 ∧ ∀ i, i < A.slots.size → ¬ 255 < cv A i
def E (a : Addr) (D : Cell) (fV fC : Field) (A : Cell) (r : Option Value) (s u : State) : Prop := Got a D fV fC A 0 A.slots.size r s u
/-- new String(chars), not empty, no char above 255: a Latin-1 String of their low bytes -/
theorem law (l : Launch) (a : Addr) (D : Cell) (fV fC : Field) (b : Addr) (A : Cell) (z : Int32) : Law l yN 2 1 3 52 yB 2 none site (P a D fV fC b A z) (E a D fV fC A) [⟨a, fC.slot⟩, ⟨a, fV.slot⟩] 1 A.slots.size := by
  refine Law.of_walk (plainFor_of_name (by decide +kernel)) (by decide +kernel) (by decide +kernel) (by decide) (fun _ _ h => by rw [h.1]; rfl) (fun _ U U' hal hh h => ⟨h.1, h.2.1.mv hal hh, h.2.2.1.al hal, h.2.2.2.1.al hal, h.2.2.2.2.1.mv hal hh, h.2.2.2.2.2.1.there hal hh, h.2.2.2.2.2.2⟩) (fun r U U' V V' h1 hal h2 h => Got.mv r U U' V V' h1 hal h2 h) ?_
  intro p e s m args below meth c s₁ X0 hexec hbytes hml hret hlk hnm hown hh0 W hP
  obtain ⟨rfl, hB, f1, f2, hA, s1, hz, l0, l2, hp⟩ := hP
  have c1 : Steps p.tables e below (s₁.setTop (entryFrame m #[.ref a, .ref b] 2)) (s₁.setTop (mkF m 0 #[.val (.ref a), .val (.ref b)] [])) := entry rfl
  have c2 : Steps p.tables e below (s₁.setTop (entryFrame m #[.ref a, .ref b] 2)) (s₁.setTop (mkF m 6 #[.val (.ref a), .val (.ref b)] [.null, .int (Int32.ofNat A.slots.size), .int 0, .ref b, .ref a])) := c1.trans (by
    refine XS.aloadN X0.here hexec rfl (hb hbytes d0) rfl rfl ?_
    refine XS.aloadN X0.here hexec rfl (hb hbytes d1) rfl rfl ?_
    refine iconstV X0.here hexec rfl 0 (hb hbytes d2) (by decide) ?_
    refine XS.aloadN X0.here hexec rfl (hb hbytes d3) rfl rfl ?_
    refine X0.alen hexec (hA.1.mv X0.warmed.alike hh0) rfl rfl (hb hbytes d4) ?_
    refine XS.aconstNull X0.here hexec rfl (hb hbytes d5) ?_
    exact Steps.refl _)
  obtain ⟨v3, T3, X3, E3, g3⟩ := X0.callN hexec (New4.law l a D fV fC b A z 0 A.slots.size) rfl hown (wks W (initW "java/lang/String" 27 New4.yN)) (W New4.tab (by simp only [site, List.mem_cons, List.mem_append, true_or, or_true])) (W := 0) (Nat.le_of_ble_eq_true rfl) (Nat.le_of_ble_eq_true rfl) (Nat.le_refl _) (by show 0 + A.slots.size ≤ A.slots.size; omega) (g := (mkF m 6 #[.val (.ref a), .val (.ref b)] [.null, .int (Int32.ofNat A.slots.size), .int (Int32.ofNat 0), .ref b, .ref a])) rfl (by rw [hml]; rfl) c2 (argsL := [.ref b, .int (Int32.ofNat 0), .int (Int32.ofNat A.slots.size), .null]) (rest := []) rfl rfl (by show 2 * 0 + 0 ≤ _; decide) (hb hbytes d6) (⟨rfl, hB.mv X0.warmed.alike hh0, f1.al X0.warmed.alike, f2.al X0.warmed.alike, hA.mv X0.warmed.alike hh0, s1.there X0.warmed.alike hh0, hz, l0, by omega, l2, fun i hi => by rw [Nat.zero_add]; exact hp i hi⟩)
  have e0 := Got.mv _ s₁ s _ _ hh0.symm (Vm.Alike.refl _) rfl E3
  obtain rfl := e0.1
  have c4 : Steps p.tables e below (s₁.setTop (entryFrame m #[.ref a, .ref b] 2)) (T3.setTop (mkF m 9 #[.val (.ref a), .val (.ref b)] [])) := g3
  exact ⟨T3, none, _, _, _, X3, by simp, rfl, by omega, (fun _ => rfl), e0, fun fs hl => c4.trans (X3.returnOut hexec hret (hb hbytes d9) hl)⟩
theorem pays {l : Launch} {R : Room} {p : Program} {e : Env} {below : List Frame} {s : State} {sargs : Array Value} {len W : Nat} (a : Addr) (D : Cell) (fV fC : Field) (b : Addr) (A : Cell) (z : Int32) (htab : tab.before sargs s = true) (hfr : 4 ≤ R.frames) (hlo : W + 65 ≤ R.locals) :
    Back l R p e below s sargs yN len W (fun A₁ a₁ => A₁.cells + 1 ≤ R.cells ∧ A₁.slots + A.slots.size ≤ R.slots ∧ P a D fV fC b A z a₁ A₁.U) (fun A₁ _ v₁ B₁ => E a D fV fC A v₁ A₁.U B₁.U ∧ B₁.locs = A₁.locs ++ [⟨a, fC.slot⟩, ⟨a, fV.slot⟩] ∧ B₁.cells = A₁.cells + 1 ∧ B₁.slots = A₁.slots + A.slots.size) :=
  (law l a D fV fC b A z).pays htab hfr (by omega)
end New1
/-- the byte, read back as charAt reads it, is the char -/
theorem lo8_mask {x : Int32} (h0 : ¬ x < 0) (h1 : ¬ 255 < x) : lo8 x &&& 255 = x := by
  have t : ∀ k : Fin 256, lo8 (Int32.ofNat k.val) &&& 255 = Int32.ofNat k.val := by decide +kernel
  rw [Int32.lt_iff_toInt_lt] at h0 h1
  have e0 : (0 : Int32).toInt = 0 := rfl
  have e1 : (255 : Int32).toInt = 255 := rfl
  obtain ⟨k, hk⟩ : ∃ k : Nat, x.toInt = k := ⟨x.toInt.toNat, by omega⟩
  have hx : x = Int32.ofNat k := Int32.toInt_inj.mp (by rw [hk, Int32.toInt_ofNat_small (by omega)])
  rw [hx]
  exact t ⟨k, by omega⟩
end StrChars
namespace StrChars.Road
open Jvm Sem ClassFile Op Lib Jvm.Stand Jvm.Free Jvm.Free.XT
open Jvm.Lib.Cold (StaticIs)
abbrev ST : String := "java/lang/String"
/-- every table word that New1's law asks, flat -/
abbrev words : List Jvm.Cond := [.code New1.yN New1.yB 2 none, .initialized ST, .methodLink ST 27 New4.yN, .instanceMethod New4.yN,
  .code New4.yN New4.yB 6 none, .fieldLink ST 38 ST "COMPACT_STRINGS" "Z", .laysFinal ST ST "value" "[B", .fieldLink ST 9 ST "value" "[B", .laysFinal ST ST "coder" "B", .fieldLink ST 15 ST "coder" "B",
  .methodLink ST 1 Lib.objectInit, .instanceMethod Lib.objectInit, .code Lib.objectInit ⟨#[0xb1]⟩ 1 none, .methodLink ST 177 Cmp3.yN, .static Cmp3.yN, .methodLink ST 47 CodL.yN, .static CodL.yN,
  .code Cmp3.yN Cmp3.yB 6 (some (.array .byte)), .initialized U16, .arrayClass .byte, .methodLink U16 115 Cmp5.yN, .static Cmp5.yN, .code Cmp5.yN Cmp5.yB 7 (some .int), .code CodL.yN CodL.yB 2 (some .byte)]
theorem tab_of {a : Array Value} {s : State} (h : ∀ w ∈ words, w.before a s = true) : New1.tab.before a s = true := by
  have h5 : Cmp5.tab.before a s = true := unparts (wk h (.code Cmp5.yN Cmp5.yB 7 (some .int))) (wks h (.initialized Cmp5.yN.cls :: Cmp5.site))
  have hc : CodL.tab.before a s = true := unparts (wk h (.code CodL.yN CodL.yB 2 (some .byte))) (wks h (.initialized CodL.yN.cls :: CodL.site))
  have q5 : ∀ w ∈ Cmp5.tab :: words, w.before a s = true := fun w hw => (List.mem_cons.mp hw).elim (fun e => e ▸ h5) (h w)
  have h3 : Cmp3.tab.before a s = true := unparts (wk q5 (.code Cmp3.yN Cmp3.yB 6 (some (.array .byte)))) (wks q5 (.initialized Cmp3.yN.cls :: Cmp3.site))
  have q3 : ∀ w ∈ Cmp3.tab :: CodL.tab :: words, w.before a s = true := fun w hw => (List.mem_cons.mp hw).elim (fun e => e ▸ h3) fun hw => (List.mem_cons.mp hw).elim (fun e => e ▸ hc) (h w)
  have h4 : New4.tab.before a s = true := unparts (wk q3 (.code New4.yN New4.yB 6 none)) (wks q3 (.initialized New4.yN.cls :: New4.site))
  have q4 : ∀ w ∈ New4.tab :: words, w.before a s = true := fun w hw => (List.mem_cons.mp hw).elim (fun e => e ▸ h4) (h w)
  exact unparts (wk q4 (.code New1.yN New1.yB 2 none)) (wks q4 (.initialized New1.yN.cls :: New1.site))
/-- the words ride from the start Z to the walk's own state -/
theorem moved {Z s : State} {a0 args : Array Value} (hZ : Z.Warmed39 s.vm) (hw : ∀ d ∈ words, d.before a0 Z = true) : ∀ d ∈ words, d.before args s = true := fun d hd => by
  have q := hw d hd
  have t : ∀ d ∈ words, d = .arrayClass .byte ∨ (d.onTables && d.keepsFace) = true := by decide +kernel
  rcases t d hd with rfl | t
  · exact RoadKit.mvA hZ q
  · exact RoadKit.mv hZ q t
/-- WHAT COMES BACK, over the tables of the start Z: h the heap at the call, h' behind it -/
def Q (Z : State) (x : Addr) (A : Cell) (h : Heap) (v : Option Value) (h' : Heap) (L : List Loc) : Prop := v = none ∧ (∀ y ∈ L, y.base = x) ∧ RoadKit.Keep h h' [x] ∧ h'.size = h.size + 1 ∧ RoadKit.Exa Z h' x ST ∧ RoadKit.Fld Z h' x ST "value" "[B" (.ref h.size) ∧ RoadKit.Fld Z h' x ST "coder" "B" (.int 0) ∧
  (∃ V : Cell, RoadKit.Arr Z h' h.size V .byte ∧ V.vm = .none ∧ Z.vm.findClass "[B" = some V.cls ∧ V.slots.size = A.slots.size ∧ ∀ j, j < A.slots.size → V.slots[j]? = some (.int (lo8 (cv A j)))) ∧
  ∀ (O n d : String) (w : Value), RoadKit.Fld Z h x O n d w → RoadKit.slotOf Z O n d ≠ RoadKit.slotOf Z ST "value" "[B" → RoadKit.slotOf Z O n d ≠ RoadKit.slotOf Z ST "coder" "B" → RoadKit.Fld Z h' x O n d w
/-- **new String(chars) AT A CALL, IN THE ROAD'S FORM**: for specialBack behind newO: x the fresh String, b the char[] with the cell A -/
theorem back {p : Program} {l : Launch} {e : Env} {R : Room} {s : State} {args : Array Value} {below : List Frame} {len W : Nat} {Z : State} {a0 : Array Value} {h : Heap} (hZ : Z.Warmed39 s.vm) (hw : ∀ d ∈ words, d.before a0 Z = true) {kI : Nat} (wi : (Jvm.Cond.instantiable ST kI).before a0 Z = true)
    {x b : Addr} {A : Cell} {z : Int32} {v0 c0 : Value} (E : RoadKit.Exa Z h x ST) (V : RoadKit.Fld Z h x ST "value" "[B" v0) (C : RoadKit.Fld Z h x ST "coder" "B" c0) (K : RoadKit.Arr Z h b A .char) (hty : Typed .char A) (S : RoadKit.Sta Z h ST "COMPACT_STRINGS" "Z" (.int z)) (hz : ¬ z = 0)
    (l0 : 0 < A.slots.size) (l2 : A.slots.size ≤ 536870912) (hp : ∀ i, i < A.slots.size → ¬ 255 < cv A i) (hfr : 4 ≤ R.frames) (hlo : W + 65 ≤ R.locals) :
    Back l R p e below s args New1.yN len W (fun P a => a = #[.ref x, .ref b] ∧ P.U.heap = h ∧ P.cells + 1 ≤ R.cells ∧ P.slots + A.slots.size ≤ R.slots)
      (fun P _ v B => ∃ L, Q Z x A h v B.U.heap L ∧ B.locs = P.locs ++ L ∧ B.cells = P.cells + 1 ∧ B.slots = P.slots + A.slots.size) := by
  intro m meth c P g ig mk a X hg hsize hdg hW hn hp'
  obtain ⟨rfl, rfl, r1, r2⟩ := hp'
  have al : Z.vm.Alike P.U.vm := hZ.alike.trans X.warmed.alike
  obtain ⟨D, cfV, kV, iV, fV, hD, gV, stV, knV, obV, asV, slV⟩ := id V
  obtain ⟨D', cfC, kC, iC, fC, hD', gC, stC, -, -, asC, slC⟩ := id C
  cases hD.symm.trans hD'
  obtain ⟨D2, kD, e1, e2, e3, e4, e5⟩ := id E
  cases hD.symm.trans e1
  obtain ⟨c2, k2, i1, i2, i3, -⟩ := Cond.instantiable_spec wi
  cases e2.symm.trans i1
  cases e3.symm.trans i2
  obtain ⟨kU, u1, u2⟩ := al.2.2 _ _ e3
  have hB : Blank ST x D P.U := ⟨hD, ⟨knV, fun q hq => by rw [hq] at obV; cases obV⟩, by rw [al.findClass]; exact e2, kU, u1, by rw [u2]; exact i3, by rw [u2]; exact e5 i3⟩
  have F1 : Found ST "value" "[B" fV P.U := ⟨SBG.found_only al ⟨cfV, kV, iV, gV⟩, stV⟩
  have F2 : Found ST "coder" "B" fC P.U := ⟨SBG.found_only al ⟨cfC, kC, iC, gC⟩, stC⟩
  have hA : Ch b A P.U := ⟨⟨K.1, State.isArrayOf_alike al K.2.1, K.2.2, by omega⟩, hty⟩
  have hS : StaticIs P.U ST "COMPACT_STRINGS" "Z" (.int z) := by
    obtain ⟨cfS, iS, kS, fS, st, cS, t1, t2, t3, t4, t5, t6, t7⟩ := S
    exact StaticIs.there (s := { Z with heap := P.U.heap }) ⟨cfS, iS, kS, fS, st, cS, t1, t2, t3, t4, t5, (fun q => by rw [q] at t6; cases t6), t7⟩ al rfl
  obtain ⟨v, B, X', ⟨⟨hv, E', V', q1, q2, q3, q4, q5, q6, q7, q8, q9, q10, q11⟩, hl, hc, hs⟩, st⟩ := New1.pays x D fV fC b A z (tab_of (moved hZ hw)) hfr hlo m meth c P g ig mk _ X hg hsize hdg hW hn ⟨r1, r2, rfl, hB, F1, F2, hA, hS, hz, l0, l2, hp⟩
  have al' : Z.vm.Alike B.U.vm := hZ.alike.trans X'.warmed.alike
  have hsz : E'.slots.size = D.slots.size := by
    obtain ⟨-, -, -, kB, w1, w2, w3⟩ := q1
    obtain ⟨kB', y1, y2⟩ := al'.2.2 _ _ e3
    rw [q2.2.1] at w1
    cases w1.symm.trans y1
    rw [w3, e5 i3, y2]
  refine ⟨v, B, X', ⟨_, ⟨hv, ?_, ⟨by omega, fun y cy hy hn' => q10 y cy (by simpa using hn') hy, fun y cy hy => ?_⟩, q11, ⟨E', _, q1.1, by rw [q2.2.1]; exact e2, by rw [q2.2.1]; exact e3, by rw [q2.1]; exact obV, fun _ => by rw [hsz]; exact e5 i3⟩,
    ⟨E', cfV, kV, iV, fV, q1.1, gV, stV, by rw [q2.1]; exact knV, by rw [q2.1]; exact obV, by rw [q2.2.1]; exact asV, q3⟩, ⟨E', cfC, kC, iC, fC, q1.1, gC, stC, by rw [q2.1]; exact knV, by rw [q2.1]; exact obV, by rw [q2.2.1]; exact asC, q4⟩,
    ⟨V', ⟨q5.1, State.isArrayOf_alike al'.symm q5.2.1, q5.2.2.1⟩, q6, by rw [← al'.findClass]; exact q7, q8, fun j hj => by have := q9 j hj; rwa [Nat.zero_add] at this⟩, fun O n d w F n1 n2 => ?_⟩, hl, hc, hs⟩, st⟩
  · intro y hy
    simp only [List.mem_cons, List.not_mem_nil, or_false] at hy
    rcases hy with rfl | rfl <;> rfl
  · by_cases q : y = x
    · subst q
      cases hD.symm.trans hy
      exact ⟨E', q1.1, q2.2.1, q2.1, hsz⟩
    · exact ⟨cy, q10 y cy q hy, rfl, rfl, rfl⟩
  · obtain ⟨D3, cf, k, i, f, g1, g2, g3, g4, g5, g6, g7⟩ := F
    cases hD.symm.trans g1
    simp only [RoadKit.slotOf, g2, gV, gC, Option.map_some, Option.getD_some] at n1 n2
    exact ⟨E', cf, k, i, f, q1.1, g2, g3, by rw [q2.1]; exact g4, by rw [q2.1]; exact g5, by rw [q2.2.1]; exact g6, by rw [q2.2.2 f.slot (by simp [n1, n2])]; exact g7⟩
end StrChars.Road
namespace StrChars.Road
open Jvm Sem ClassFile Op Lib Jvm.Stand Jvm.Free Jvm.Free.XT
/-- WHAT COMES BACK, the byte[] as a list of values -/
def QA (Z : State) (x : Addr) (zn : Int32) (cs : List Int32) (h : Heap) (v : Option Value) (h' : Heap) (L : List Loc) : Prop := v = none ∧ (∀ y ∈ L, y.base = x) ∧ RoadKit.Keep h h' [x] ∧ h'.size = h.size + 1 ∧ RoadKit.Exa Z h' x ST ∧ RoadKit.Fld Z h' x ST "value" "[B" (.ref h.size) ∧ RoadKit.Fld Z h' x ST "coder" "B" (.int 0) ∧
  (∃ kb, Z.vm.findClass "[B" = some kb ∧ RoadKit.Arv Z h' h.size kb .byte zn (cs.map fun c => .int (lo8 c)) (.int 0)) ∧
  ∀ (O n d : String) (w : Value), RoadKit.Fld Z h x O n d w → RoadKit.slotOf Z O n d ≠ RoadKit.slotOf Z ST "value" "[B" → RoadKit.slotOf Z O n d ≠ RoadKit.slotOf Z ST "coder" "B" → RoadKit.Fld Z h' x O n d w
/-- **new String(chars) AT A CALL, THE ARRAYS AS LISTS**: the char[] at b holds cs, not empty, no char above 255 -/
theorem backArv {p : Program} {l : Launch} {e : Env} {R : Room} {s : State} {args : Array Value} {below : List Frame} {len W : Nat} {Z : State} {a0 : Array Value} {h : Heap} (hZ : Z.Warmed39 s.vm) (hw : ∀ d ∈ words, d.before a0 Z = true) {kI : Nat} (wi : (Jvm.Cond.instantiable ST kI).before a0 Z = true)
    {x b : Addr} {k : ClassId} {zn z : Int32} {cs : List Int32} {dv v0 c0 : Value} (E : RoadKit.Exa Z h x ST) (V : RoadKit.Fld Z h x ST "value" "[B" v0) (C : RoadKit.Fld Z h x ST "coder" "B" c0) (K : RoadKit.Arv Z h b k .char zn (cs.map Value.int) dv) (S : RoadKit.Sta Z h ST "COMPACT_STRINGS" "Z" (.int z)) (hz : ¬ z = 0)
    (hlen : zn.toNatClampNeg = cs.length) (h0 : 0 < cs.length) (hbig : cs.length ≤ 536870912) (hall : ∀ c ∈ cs, ¬ 255 < c) (hfr : 4 ≤ R.frames) (hlo : W + 65 ≤ R.locals) :
    Back l R p e below s args New1.yN len W (fun P a => a = #[.ref x, .ref b] ∧ P.U.heap = h ∧ P.cells + 1 ≤ R.cells ∧ P.slots + cs.length ≤ R.slots)
      (fun P _ v B => ∃ L, QA Z x zn cs h v B.U.heap L ∧ B.locs = P.locs ++ L ∧ B.cells = P.cells + 1 ∧ B.slots = P.slots + cs.length) := by
  obtain ⟨A, K1, K2, K3, K4, K5, K6⟩ := K
  have e : A.slots.size = cs.length := K3.trans hlen
  have hat : ∀ (i : Nat) (hi : i < cs.length), A.slots[i]? = some (.int cs[i]) := fun i hi => by rw [K5 i (by omega)]; simp [List.getD_eq_getElem?_getD, hi]
  have hcv : ∀ (i : Nat) (hi : i < cs.length), cv A i = cs[i] := fun i hi => by unfold cv; rw [hat i hi]
  have hty : Typed .char A := fun i v hv => by
    have hi : i < A.slots.size := (Array.getElem?_eq_some_iff.mp hv).1
    have q := K5 i hi
    rw [hv] at q
    rw [Option.some.inj q]
    exact K6 i hi
  refine Back.mono (back hZ hw wi E V C K1 hty S hz (by omega) (by omega) (fun i hi => by rw [hcv i (by omega)]; exact hall _ (List.getElem_mem _)) hfr hlo) (fun P a hp => ⟨hp.1, hp.2.1, hp.2.2.1, by rw [e]; exact hp.2.2.2⟩) (fun P a v B hp hq => ?_)
  obtain ⟨L, ⟨q1, q2, q3, q4, q5, q6, q7, ⟨V', v1, v2, v3, v4, v5⟩, q9⟩, hl, hc, hs⟩ := hq
  refine ⟨L, ⟨q1, q2, q3, q4, q5, q6, q7, ⟨V'.cls, v3, V', v1, rfl, by rw [v4, e, hlen], K4, fun i hi => ?_, fun i hi => ?_⟩, q9⟩, hl, hc, by rw [hs, e]⟩
  · have hi' : i < cs.length := by omega
    rw [v5 i (by omega), hcv i hi']; simp [List.getD_eq_getElem?_getD, hi']
  · have hi' : i < cs.length := by omega
    simp only [List.getD_eq_getElem?_getD, List.getElem?_map, List.getElem?_eq_getElem hi', Option.map_some, Option.getD_some]
    exact fits_lo8 _
end StrChars.Road
namespace StrChars.Road
open Jvm Sem ClassFile Op Lib Jvm.Stand Jvm.Free Jvm.Free.XT
/-- WHAT COMES BACK, in the writer's own shape -/
def QV (Z : State) (x : Addr) (N : Int32) (bs : List Int32) (h : Heap) (n0 : Nat) (v : Option Value) (h' : Heap) (L : List Loc) : Prop := v = none ∧ RoadKit.Fr n0 L ∧ RoadKit.Keep h h' [x] ∧ RoadKit.Exa Z h' x ST ∧ RoadKit.Fld Z h' x ST "coder" "B" (.int 0) ∧
  ∃ (t : Addr) (kb : ClassId), n0 ≤ t ∧ h.size ≤ t ∧ ¬ t = x ∧ RoadKit.Fld Z h' x ST "value" "[B" (.ref t) ∧ RoadKit.Arv Z h' t kb .byte N (bs.map Value.int) (.int 0)
/-- **new String(chars) AT A CALL, FOR THE WRITER**: a char[] of n known ints, each 0 to 255 -/
theorem backV {p : Program} {l : Launch} {e : Env} {R : Room} {s : State} {args : Array Value} {below : List Frame} {len W : Nat} {Z : State} {a0 : Array Value} {h : Heap} (hZ : Z.Warmed39 s.vm) (hw : ∀ d ∈ words, d.before a0 Z = true) {kI : Nat} (wi : (Jvm.Cond.instantiable ST kI).before a0 Z = true)
    {x b : Addr} {kC : ClassId} {cs bs : List Int32} {d v0 c0 : Value} {z N : Int32} {n n0 : Nat} (hx0 : n0 ≤ x) (hh0 : n0 ≤ h.size) (E : RoadKit.Exa Z h x ST) (V : RoadKit.Fld Z h x ST "value" "[B" v0) (C : RoadKit.Fld Z h x ST "coder" "B" c0) (K : RoadKit.Arv Z h b kC .char N (cs.map Value.int) d) (S : RoadKit.Sta Z h ST "COMPACT_STRINGS" "Z" (.int z)) (hz : ¬ z = 0)
    (hn : cs.length = n) (hN : N = Int32.ofNat n) (l0 : 0 < n) (l2 : n ≤ 4000) (hp : ∀ c ∈ cs, ¬ c < 0 ∧ ¬ (255 : Int32) < c) (hb : bs = cs.map (fun c => c.toInt8.toInt32)) (hfr : 4 ≤ R.frames) (hlo : W + 65 ≤ R.locals) :
    Back l R p e below s args (⟨"java/lang/String", "<init>", "([C)V"⟩ : MethodName) len W (fun P a => a = #[.ref x, .ref b] ∧ P.U.heap = h ∧ P.cells + 1 ≤ R.cells ∧ P.slots + n ≤ R.slots)
      (fun P _ v B => ∃ L, QV Z x N bs h n0 v B.U.heap L ∧ B.locs = P.locs ++ L ∧ B.cells = P.cells + 1 ∧ B.slots = P.slots + n) := by
  subst hn hN hb
  refine Back.mono (backArv hZ hw wi E V C K S hz (n32 (by omega)) l0 (by omega) (fun c hc => (hp c hc).2) hfr hlo) (fun P a hp => hp) (fun P a v B hp hq => ?_)
  obtain ⟨L, ⟨q1, q2, q3, q4, q5, q6, q7, ⟨kb, v1, v2⟩, q9⟩, hl, hc, hs⟩ := hq
  exact ⟨L, ⟨q1, fun y hy => by rw [q2 y hy]; exact hx0, q3, q5, q7, h.size, kb, hh0, Nat.le_refl _, Nat.ne_of_gt E.lt, q6, by rw [List.map_map]; exact v2⟩, hl, hc, hs⟩
end StrChars.Road
namespace StrChars
open Jvm Sem ClassFile Op Lib Jvm.Stand Jvm.Free.XT Jvm.Free.ALB Jvm.Free.JM Jvm.Free
open Jvm.Lib.Cold (StaticIs)
def hi8 (x : Int32) : Int32 := lo8 (x >>> ((8 : Int32) &&& 31))
/-- what StringUTF16.getChar makes of two bytes -/
def pairCh (u v : Int32) : Int32 := (((u &&& 255) <<< ((0 : Int32) &&& 31)) ||| ((v &&& 255) <<< ((8 : Int32) &&& 31))).toUInt32.toUInt16.toUInt32.toInt32
theorem lo8_and (x : Int32) : (lo8 x &&& 255).toBitVec.toNat = x.toBitVec.toNat % 256 := by
  have h : (lo8 x).toBitVec = (x.toBitVec.signExtend 8).signExtend 32 := by rw [lo8, Int8.toBitVec_toInt32, Int32.toBitVec_toInt8]
  rw [Int32.toBitVec_and, BitVec.toNat_and, h]
  have e : ((x.toBitVec.signExtend 8).signExtend 32).toNat % 256 = x.toBitVec.toNat % 256 := by
    rw [BitVec.toNat_signExtend]
    have hlt := x.toBitVec.isLt
    simp only [BitVec.toNat_setWidth, BitVec.toNat_signExtend]
    split <;> split <;> omega
  rw [← e]
  exact Nat.and_two_pow_sub_one_eq_mod _ 8
theorem pair_says {c : Int32} (h0 : ¬ c < 0) (h1 : ¬ 65535 < c) : pairCh (lo8 c) (hi8 c) = c := by
  rw [Int32.lt_iff_toInt_lt] at h0 h1
  have e0 : (0 : Int32).toInt = 0 := rfl
  have e1 : (65535 : Int32).toInt = 65535 := rfl
  have hc : c.toInt = c.toBitVec.toNat := by
    have := c.toBitVec.isLt
    have e : c.toInt = c.toBitVec.toInt := rfl
    rw [e] at h0 h1
    rw [e]
    rw [BitVec.toInt_eq_toNat_cond] at h0 h1 ⊢
    split at h0 <;> split <;> omega
  have hn : c.toBitVec.toNat < 65536 := by omega
  have a1 := lo8_and c
  have a2 : (hi8 c &&& 255).toBitVec.toNat = c.toBitVec.toNat / 256 := by
    rw [hi8, lo8_and]
    have e : ((8 : Int32) &&& 31) = 8 := by decide
    rw [e, Int32.toBitVec_shiftRight]
    have e2 : ((8 : Int32).toBitVec.smod 32) = 8#32 := by decide
    rw [e2, BitVec.sshiftRight_eq', BitVec.toNat_sshiftRight_of_msb_false (by rw [BitVec.msb_eq_false_iff_two_mul_lt]; omega)]
    show c.toBitVec.toNat >>> 8 % 256 = _
    rw [Nat.shiftRight_eq_div_pow]
    omega
  unfold pairCh
  apply Int32.toBitVec_inj.mp
  apply BitVec.eq_of_toNat_eq
  have f0 : ((0 : Int32) &&& 31) = 0 := by decide
  have f8 : ((8 : Int32) &&& 31) = 8 := by decide
  rw [f0, f8]
  have g : (((lo8 c &&& 255) <<< (0 : Int32)) ||| ((hi8 c &&& 255) <<< (8 : Int32))).toBitVec.toNat = c.toBitVec.toNat := by
    rw [Int32.toBitVec_or, Int32.toBitVec_shiftLeft, Int32.toBitVec_shiftLeft]
    have s0 : ((0 : Int32).toBitVec.smod 32) = 0#32 := by decide
    have s8 : ((8 : Int32).toBitVec.smod 32) = 8#32 := by decide
    rw [s0, s8, BitVec.toNat_or]
    simp only [BitVec.shiftLeft_eq', BitVec.toNat_shiftLeft, a1, a2]
    show (c.toBitVec.toNat % 256) <<< 0 % 2 ^ 32 ||| (c.toBitVec.toNat / 256) <<< 8 % 2 ^ 32 = _
    rw [Nat.shiftLeft_zero, Nat.mod_eq_of_lt (show c.toBitVec.toNat % 256 < 2 ^ 32 by omega), Nat.mod_eq_of_lt (show (c.toBitVec.toNat / 256) <<< 8 < 2 ^ 32 by rw [Nat.shiftLeft_eq]; omega), Nat.or_comm, ← Nat.shiftLeft_add_eq_or_of_lt (by omega), Nat.shiftLeft_eq]
    omega
  show BitVec.toNat (((((lo8 c &&& 255) <<< (0 : Int32)) ||| ((hi8 c &&& 255) <<< (8 : Int32))).toBitVec.setWidth 16).setWidth 32) = _
  rw [BitVec.toNat_setWidth, BitVec.toNat_setWidth, g]
  omega
end StrChars
namespace StrChars
open Jvm Sem ClassFile Op Lib Jvm.Stand Jvm.Free.XT Jvm.Free.ALB Jvm.Free.JM Jvm.Free
open Jvm.Lib.Cold (StaticIs)
/-- the array's cell V codes the n chars f 0 .. f (n - 1) by the coder cd, as the JDK does: coder 1 just where some char is above 255 -/
def Cod (cd : Int32) (n : Nat) (f : Nat → Int32) (V : Cell) : Prop := (cd = 0 ∧ V.slots.size = n ∧ ∀ j, j < n → V.slots[j]? = some (.int (lo8 (f j))) ∧ ¬ 255 < f j) ∨ (cd = 1 ∧ V.slots.size = 2 * n ∧ (∀ j, j < n → V.slots[2 * j]? = some (.int (lo8 (f j))) ∧ V.slots[2 * j + 1]? = some (.int (hi8 (f j)))) ∧ ∃ j, j < n ∧ 255 < f j)
/-- **x is a String of the n chars f 0 .. f (n - 1)**, Latin-1 or UTF-16; its array at t has the cell V -/
def Txt (x t : Addr) (V : Cell) (cd : Int32) (n : Nat) (f : Nat → Int32) (U : State) : Prop := Exact "java/lang/String" x U ∧ Has x "java/lang/String" "value" "[B" (.ref t) U ∧ Has x "java/lang/String" "coder" "B" (.int cd) U ∧ XT.Arr .byte t V U ∧ Cod cd n f V ∧ ∀ j, j < n → ¬ f j < 0 ∧ ¬ 65535 < f j
theorem Txt.mv {x t : Addr} {V : Cell} {cd : Int32} {n : Nat} {f : Nat → Int32} {U U' : State} (h : Txt x t V cd n f U) (hal : U.vm.Alike U'.vm) (hh : U'.heap = U.heap) : Txt x t V cd n f U' := ⟨h.1.mv hal hh, h.2.1.mv hal hh, h.2.2.1.mv hal hh, h.2.2.2.1.mv hal hh, h.2.2.2.2⟩
end StrChars
namespace StrChars.Road
open Jvm Sem ClassFile Op Lib Jvm.Stand Jvm.Free Jvm.Free.XT
open Jvm.Lib.Cold (StaticIs)
theorem consq {a : Array Value} {s : State} {c : Jvm.Cond} {L : List Jvm.Cond} (h0 : c.before a s = true) (h : ∀ w ∈ L, w.before a s = true) : ∀ w ∈ c :: L, w.before a s = true := fun w hw => (List.mem_cons.mp hw).elim (fun e => e ▸ h0) (h w)
/-- the bytes of the chars cs, low before high -/
def wideBytes : List Int32 → List Value
  | [] => []
  | c :: cs => .int (lo8 c) :: .int (hi8 c) :: wideBytes cs
theorem wide_lo (d : Value) : ∀ (cs : List Int32) (j : Nat), j < cs.length → (wideBytes cs).getD (2 * j) d = .int (lo8 (cs.getD j 0))
  | [], j, h => absurd h (Nat.not_lt_zero j)
  | c :: cs, 0, _ => rfl
  | c :: cs, j + 1, h => by
    have q := wide_lo d cs j (by simpa using h)
    rw [show 2 * (j + 1) = 2 * j + 1 + 1 from by omega]
    simpa [wideBytes] using q
theorem wide_hi (d : Value) : ∀ (cs : List Int32) (j : Nat), j < cs.length → (wideBytes cs).getD (2 * j + 1) d = .int (hi8 (cs.getD j 0))
  | [], j, h => absurd h (Nat.not_lt_zero j)
  | c :: cs, 0, _ => rfl
  | c :: cs, j + 1, h => by
    have q := wide_hi d cs j (by simpa using h)
    rw [show 2 * (j + 1) + 1 = 2 * j + 1 + 1 + 1 from by omega]
    simpa [wideBytes] using q
theorem low_at (d : Value) (cs : List Int32) (j : Nat) (h : j < cs.length) : (cs.map fun c => Value.int (lo8 c)).getD j d = .int (lo8 (cs.getD j 0)) := by
  simp [List.getD_eq_getElem?_getD, h]
/-- an array of N2 bytes vs codes the chars cs by the coder cd -/
def CodA (cs : List Int32) (cd N2 : Int32) (vs : List Value) : Prop := (cd = 0 ∧ N2 = Int32.ofNat cs.length ∧ vs = (cs.map fun c => Value.int (lo8 c)) ∧ ∀ c ∈ cs, ¬ 255 < c) ∨ (cd = 1 ∧ N2 = Int32.ofNat (2 * cs.length) ∧ vs = wideBytes cs ∧ ∃ c ∈ cs, 255 < c)
theorem CodA.cod {cs : List Int32} {cd N2 : Int32} {vs : List Value} {V : Cell} (h : CodA cs cd N2 vs) (hn : 2 * cs.length < 2 ^ 31) (hs : V.slots.size = N2.toNatClampNeg) (hv : RoadKit.Has V vs (.int 0)) : Cod cd cs.length (fun j => cs.getD j 0) V := by
  rcases h with ⟨rfl, rfl, rfl, h⟩ | ⟨rfl, rfl, rfl, c, hc, hw⟩
  · rw [n32 (by omega)] at hs
    exact Or.inl ⟨rfl, hs, fun j hj => ⟨by rw [hv j (by omega), low_at _ _ _ hj], by
      have e : cs.getD j 0 = cs[j] := by simp [List.getD_eq_getElem?_getD, hj]
      show ¬ 255 < cs.getD j 0
      rw [e]; exact h _ (List.getElem_mem _)⟩⟩
  · rw [n32 (by omega)] at hs
    obtain ⟨j, hj, rfl⟩ := List.getElem_of_mem hc
    exact Or.inr ⟨rfl, hs, fun j hj => ⟨by rw [hv _ (by omega), wide_lo _ _ _ hj], by rw [hv _ (by omega), wide_hi _ _ _ hj]⟩, j, hj, by
      have e : cs.getD j 0 = cs[j] := by simp [List.getD_eq_getElem?_getD, hj]
      show 255 < cs.getD j 0
      rw [e]; exact hw⟩
/-- an object of exactly java/lang/String, its two fields found: as the laws ask it -/
theorem strObj {Z U : State} {a0 : Array Value} {kI : Nat} (wi : (Jvm.Cond.instantiable ST kI).before a0 Z = true) (al : Z.vm.Alike U.vm) {x : Addr} {v0 c0 : Value} (E : RoadKit.Exa Z U.heap x ST) (V : RoadKit.Fld Z U.heap x ST "value" "[B" v0) (C : RoadKit.Fld Z U.heap x ST "coder" "B" c0) :
    ∃ (D : Cell) (fV fC : Field), Blank ST x D U ∧ Found ST "value" "[B" fV U ∧ Found ST "coder" "B" fC U ∧ D.slots[fV.slot]? = some v0 ∧ D.slots[fC.slot]? = some c0 ∧ RoadKit.slotOf Z ST "value" "[B" = fV.slot ∧ RoadKit.slotOf Z ST "coder" "B" = fC.slot := by
  obtain ⟨D, cfV, kV, iV, fV, hD, gV, stV, knV, obV, asV, slV⟩ := V
  obtain ⟨D', cfC, kC, iC, fC, hD', gC, stC, -, -, asC, slC⟩ := C
  cases hD.symm.trans hD'
  obtain ⟨D2, kD, e1, e2, e3, e4, e5⟩ := E
  cases hD.symm.trans e1
  obtain ⟨c2, k2, i1, i2, i3, -⟩ := Cond.instantiable_spec wi
  cases e2.symm.trans i1
  cases e3.symm.trans i2
  obtain ⟨kU, u1, u2⟩ := al.2.2 _ _ e3
  exact ⟨D, fV, fC, ⟨hD, ⟨knV, fun q hq => by rw [hq] at obV; cases obV⟩, by rw [al.findClass]; exact e2, kU, u1, by rw [u2]; exact i3, by rw [u2]; exact e5 i3⟩, ⟨SBG.found_only al ⟨cfV, kV, iV, gV⟩, stV⟩, ⟨SBG.found_only al ⟨cfC, kC, iC, gC⟩, stC⟩, slV, slC, by simp [RoadKit.slotOf, gV], by simp [RoadKit.slotOf, gC]⟩
theorem sta_is {Z U : State} (al : Z.vm.Alike U.vm) {C n d : String} {v : Value} (S : RoadKit.Sta Z U.heap C n d v) : StaticIs U C n d v := by
  obtain ⟨cfS, iS, kS, fS, st, cS, t1, t2, t3, t4, t5, t6, t7⟩ := S
  exact StaticIs.there (s := { Z with heap := U.heap }) ⟨cfS, iS, kS, fS, st, cS, t1, t2, t3, t4, t5, (fun q => by rw [q] at t6; cases t6), t7⟩ al rfl
end StrChars.Road
namespace StrChars
open Jvm Sem ClassFile Op Lib Jvm.Stand Jvm.Free.XT Jvm.Free.ALB Jvm.Free.JM Jvm.Free
open Jvm.Lib.Cold (StaticIs)
/-- what place i of a byte[]'s cell holds -/
def yv (A : Cell) (i : Nat) : Int32 := match A.slots[i]? with | some (.int x) => x | _ => 0
theorem yv_get {a : Addr} {A : Cell} {U : State} (h : XT.Arr .byte a A U) (ht : Typed .byte A) {i : Nat} (hi : i < A.slots.size) : A.slots[i]? = some (.int (yv A i)) := by
  have e := Array.getElem?_eq_getElem hi
  have f := ht i _ e
  unfold yv; rw [e]
  generalize A.slots[i] = v at f
  cases v <;> simp [fits] at f ⊢
/-- the two arrays are equal, place for place -/
def EqC (A B : Cell) : Prop := A.slots.size = B.slots.size ∧ ∀ i, i < A.slots.size → yv A i = yv B i
/-- a boolean that says whether p -/
def Says01 (q : Prop) (r : Option Value) (s u : State) : Prop := ∃ v : Int32, r = some (.int v) ∧ u.heap = s.heap ∧ ((v = 1 ∧ q) ∨ (v = 0 ∧ ¬ q))
theorem Says01.mv {q : Prop} : ∀ r (U U' V V' : State), U'.heap = U.heap → V.vm.Alike V'.vm → V'.heap = V.heap → Says01 q r U V → Says01 q r U' V' :=
  fun r U U' V V' h1 _ h2 ⟨v, a, b, c⟩ => ⟨v, a, by rw [h1, h2]; exact b, c⟩
namespace LEq
def yN : MethodName := ⟨"java/lang/StringLatin1", "equals", "([B[B)Z"⟩
abbrev yB : ByteArray := jdk_43_method_13_code
theorem d0 : decode yB 0 = .ok (.aload_n 0, 1) := by decide +kernel
theorem d1 : decode yB 1 = .ok (.arraylength, 1) := by decide +kernel
theorem d2 : decode yB 2 = .ok (.aload_n 1, 1) := by decide +kernel
theorem d3 : decode yB 3 = .ok (.arraylength, 1) := by decide +kernel
theorem d4 : decode yB 4 = .ok (.if_icmp (.ne) 30, 3) := by decide +kernel
theorem d7 : decode yB 7 = .ok (.iconst 0, 1) := by decide +kernel
theorem d8 : decode yB 8 = .ok (.istore_n 2, 1) := by decide +kernel
theorem d9 : decode yB 9 = .ok (.iload_n 2, 1) := by decide +kernel
theorem d10 : decode yB 10 = .ok (.aload_n 0, 1) := by decide +kernel
theorem d11 : decode yB 11 = .ok (.arraylength, 1) := by decide +kernel
theorem d12 : decode yB 12 = .ok (.if_icmp (.ge) 20, 3) := by decide +kernel
theorem d15 : decode yB 15 = .ok (.aload_n 0, 1) := by decide +kernel
theorem d16 : decode yB 16 = .ok (.iload_n 2, 1) := by decide +kernel
theorem d17 : decode yB 17 = .ok (.baload, 1) := by decide +kernel
theorem d18 : decode yB 18 = .ok (.aload_n 1, 1) := by decide +kernel
theorem d19 : decode yB 19 = .ok (.iload_n 2, 1) := by decide +kernel
theorem d20 : decode yB 20 = .ok (.baload, 1) := by decide +kernel
theorem d21 : decode yB 21 = .ok (.if_icmp (.eq) 5, 3) := by decide +kernel
theorem d24 : decode yB 24 = .ok (.iconst 0, 1) := by decide +kernel
theorem d25 : decode yB 25 = .ok (.ireturn, 1) := by decide +kernel
theorem d26 : decode yB 26 = .ok (.iinc 2 1, 3) := by decide +kernel
theorem d29 : decode yB 29 = .ok (.goto (-20), 3) := by decide +kernel
theorem d32 : decode yB 32 = .ok (.iconst 1, 1) := by decide +kernel
theorem d33 : decode yB 33 = .ok (.ireturn, 1) := by decide +kernel
theorem d34 : decode yB 34 = .ok (.iconst 0, 1) := by decide +kernel
theorem d35 : decode yB 35 = .ok (.ireturn, 1) := by decide +kernel
def site : List Cond := []
def tab : Cond := tabOf yN yB 3 (some .boolean) site
def P (a : Addr) (A : Cell) (b : Addr) (B : Cell) (args : Array Value) (s : State) : Prop := args = #[.ref a, .ref b] ∧ XT.Arr .byte a A s ∧ Typed .byte A ∧ XT.Arr .byte b B s ∧ Typed .byte B
/-- whether two byte[] are equal, place for place -/
theorem law (l : Launch) (a : Addr) (A : Cell) (b : Addr) (B : Cell) : Law l yN 2 2 0 0 yB 3 (some .boolean) site (P a A b B) (Says01 (EqC A B)) [] 0 0 := by
  refine Law.of_walk (plainFor_of_name (by decide +kernel)) (by decide +kernel) (by decide +kernel) (by decide) (fun _ _ h => by rw [h.1]; rfl) (fun _ U U' hal hh h => ⟨h.1, h.2.1.mv hal hh, h.2.2.1, h.2.2.2.1.mv hal hh, h.2.2.2.2⟩) (fun r U U' V V' h1 hal h2 h => Says01.mv r U U' V V' h1 hal h2 h) ?_
  intro p e s m args below meth c s₁ X0 hexec hbytes hml hret hlk hnm hown hh0 W hP
  obtain ⟨rfl, hA, tA, hB, tB⟩ := hP
  have a31 := hA.2.2.2
  have b31 := hB.2.2.2
  have hA0 := hA.mv X0.warmed.alike hh0
  have hB0 := hB.mv X0.warmed.alike hh0
  have c1 : Steps p.tables e below (s₁.setTop (entryFrame m #[.ref a, .ref b] 3)) (s₁.setTop (mkF m 0 #[.val (.ref a), .val (.ref b), .unset] [])) := entry rfl
  have c2 : Steps p.tables e below (s₁.setTop (entryFrame m #[.ref a, .ref b] 3)) (s₁.setTop (mkF m 4 #[.val (.ref a), .val (.ref b), .unset] [.int (Int32.ofNat B.slots.size), .int (Int32.ofNat A.slots.size)])) := c1.trans (by
    refine XS.aloadN X0.here hexec rfl (hb hbytes d0) rfl rfl ?_
    refine X0.alen hexec hA0 rfl rfl (hb hbytes d1) ?_
    refine XS.aloadN X0.here hexec rfl (hb hbytes d2) rfl rfl ?_
    refine X0.alen hexec hB0 rfl rfl (hb hbytes d3) ?_
    exact Steps.refl _)
  by_cases hs : A.slots.size = B.slots.size
  · have c3 : Steps p.tables e below (s₁.setTop (entryFrame m #[.ref a, .ref b] 3)) (s₁.setTop (mkF m 9 #[.val (.ref a), .val (.ref b), .val (.int 0)] [])) := c2.trans (by
      refine XS.icmpNo X0.here hexec rfl (hb hbytes d4) rfl (ii_ne_f (by rw [hs])) ?_
      refine iconstV X0.here hexec rfl 0 (hb hbytes d7) (by decide) ?_
      refine XS.istoreN X0.here hexec rfl (hb hbytes d8) rfl rfl ?_
      exact Steps.refl _)
    have loop : ∀ (r i : Nat), i + r = A.slots.size → (∀ j, j < i → yv A j = yv B j) → Steps p.tables e below (s₁.setTop (entryFrame m #[.ref a, .ref b] 3)) (s₁.setTop (mkF m 9 #[.val (.ref a), .val (.ref b), .val (.int (Int32.ofNat i))] [])) → ∃ (pc : Nat) (Ls : Array Slot) (v : Int32), (pc = 25 ∨ pc = 33) ∧ ((v = 1 ∧ EqC A B) ∨ (v = 0 ∧ ¬ EqC A B)) ∧ Steps p.tables e below (s₁.setTop (entryFrame m #[.ref a, .ref b] 3)) (s₁.setTop (mkF m pc Ls [.int v])) := by
      intro r
      induction r with
      | zero =>
        intro i hi he cl
        exact ⟨33, _, 1, Or.inr rfl, Or.inl ⟨rfl, hs, fun j hj => he j (by omega)⟩, cl.trans (by
          refine XS.iloadN X0.here hexec rfl (hb hbytes d9) rfl ?_
          refine XS.aloadN X0.here hexec rfl (hb hbytes d10) rfl rfl ?_
          refine X0.alen hexec hA0 rfl rfl (hb hbytes d11) ?_
          refine XS.icmpYes X0.here hexec rfl (pc0 := 12) rfl (hb hbytes d12) rfl (ii_ge_t (nlt32 (by omega) (by omega))) (by decide) rfl ?_
          refine iconstV X0.here hexec rfl 1 (hb hbytes d32) (by decide) ?_
          exact Steps.refl _)⟩
      | succ r ih =>
        intro i hi he cl
        have c4 : Steps p.tables e below (s₁.setTop (entryFrame m #[.ref a, .ref b] 3)) (s₁.setTop (mkF m 21 #[.val (.ref a), .val (.ref b), .val (.int (Int32.ofNat i))] [.int (yv B i), .int (yv A i)])) := cl.trans (by
          refine XS.iloadN X0.here hexec rfl (hb hbytes d9) rfl ?_
          refine XS.aloadN X0.here hexec rfl (hb hbytes d10) rfl rfl ?_
          refine X0.alen hexec hA0 rfl rfl (hb hbytes d11) ?_
          refine XS.icmpNo X0.here hexec rfl (hb hbytes d12) rfl (ii_ge_f (lt32 (by omega) (by omega))) ?_
          refine XS.aloadN X0.here hexec rfl (hb hbytes d15) rfl rfl ?_
          refine XS.iloadN X0.here hexec rfl (hb hbytes d16) rfl ?_
          refine X0.aget hexec hA0 rfl (yv_get hA tA (i := i) (by omega)) rfl rfl (hb hbytes d17) ?_
          refine XS.aloadN X0.here hexec rfl (hb hbytes d18) rfl rfl ?_
          refine XS.iloadN X0.here hexec rfl (hb hbytes d19) rfl ?_
          refine X0.aget hexec hB0 rfl (yv_get hB tB (i := i) (by omega)) rfl rfl (hb hbytes d20) ?_
          exact Steps.refl _)
        by_cases hv : yv A i = yv B i
        · have c5 : Steps p.tables e below (s₁.setTop (entryFrame m #[.ref a, .ref b] 3)) (s₁.setTop (mkF m 9 #[.val (.ref a), .val (.ref b), .val (.int (Int32.ofNat i + 1))] [])) := c4.trans (by
            refine XS.icmpYes X0.here hexec rfl (pc0 := 21) rfl (hb hbytes d21) rfl (ii_eq_t hv) (by decide) rfl ?_
            refine iincV X0.here hexec rfl 1 (hb hbytes d26) (by decide) rfl rfl ?_
            refine XS.goto X0.here hexec rfl (pc0 := 29) rfl (hb hbytes d29) (by decide) rfl ?_
            exact Steps.refl _)
          rw [succ32] at c5
          exact ih (i + 1) (by omega) (fun j hj => by
            by_cases e : j = i
            · rw [e]; exact hv
            · exact he j (by omega)) c5
        · exact ⟨25, _, 0, Or.inl rfl, Or.inr ⟨rfl, fun q => hv (q.2 i (by omega))⟩, c4.trans (by
            refine XS.icmpNo X0.here hexec rfl (hb hbytes d21) rfl (ii_eq_f hv) ?_
            refine iconstV X0.here hexec rfl 0 (hb hbytes d24) (by decide) ?_
            exact Steps.refl _)⟩
    obtain ⟨pc, Ls, v, hpc, hv, cz⟩ := loop A.slots.size 0 (by omega) (fun j hj => absurd hj (Nat.not_lt_zero j)) c3
    have nv : narrow .boolean (.int v) = .int v := by rcases hv with ⟨rfl, -⟩ | ⟨rfl, -⟩ <;> rfl
    rcases hpc with rfl | rfl
    · exact ⟨s₁, some (.int v), _, _, _, X0, rfl, rfl, rfl, (fun h => by cases h), ⟨v, rfl, hh0, hv⟩, fun fs hl => cz.trans (X0.ireturnOut hexec hret nv (Or.inr (Or.inl rfl)) (hb hbytes d25) hl)⟩
    · exact ⟨s₁, some (.int v), _, _, _, X0, rfl, rfl, rfl, (fun h => by cases h), ⟨v, rfl, hh0, hv⟩, fun fs hl => cz.trans (X0.ireturnOut hexec hret nv (Or.inr (Or.inl rfl)) (hb hbytes d33) hl)⟩
  · have c3 : Steps p.tables e below (s₁.setTop (entryFrame m #[.ref a, .ref b] 3)) (s₁.setTop (mkF m 35 #[.val (.ref a), .val (.ref b), .unset] [.int 0])) := c2.trans (by
      refine XS.icmpYes X0.here hexec rfl (pc0 := 4) rfl (hb hbytes d4) rfl (ii_ne_t (ne32 a31 b31 hs)) (by decide) rfl ?_
      refine iconstV X0.here hexec rfl 0 (hb hbytes d34) (by decide) ?_
      exact Steps.refl _)
    exact ⟨s₁, some (.int 0), _, _, _, X0, rfl, rfl, rfl, (fun h => by cases h), ⟨0, rfl, hh0, Or.inr ⟨rfl, fun q => hs q.1⟩⟩, fun fs hl => c3.trans (X0.ireturnOut hexec hret rfl (Or.inr (Or.inl rfl)) (hb hbytes d35) hl)⟩
end LEq
theorem Cod.ty {cd : Int32} {n : Nat} {f : Nat → Int32} {V : Cell} (h : Cod cd n f V) : Typed .byte V := fun i v hv => by
  have hi : i < V.slots.size := (Array.getElem?_eq_some_iff.mp hv).1
  rcases h with ⟨-, k1, k2⟩ | ⟨-, k1, k2, -⟩
  · rw [(k2 i (by omega)).1] at hv; cases hv; exact fits_lo8 _
  · rcases Nat.mod_two_eq_zero_or_one i with e | e
    · obtain ⟨j, rfl⟩ : ∃ j, i = 2 * j := ⟨i / 2, by omega⟩
      rw [(k2 j (by omega)).1] at hv; cases hv; exact fits_lo8 _
    · obtain ⟨j, rfl⟩ : ∃ j, i = 2 * j + 1 := ⟨i / 2, by omega⟩
      rw [(k2 j (by omega)).2] at hv; cases hv; exact fits_lo8 _
/-- the same text -/
def SameT (n : Nat) (f : Nat → Int32) (k : Nat) (g : Nat → Int32) : Prop := n = k ∧ ∀ j, j < n → f j = g j
theorem lo8_inj {x y : Int32} (h0 : ¬ x < 0) (h1 : ¬ 255 < x) (k0 : ¬ y < 0) (k1 : ¬ 255 < y) (h : lo8 x = lo8 y) : x = y := by
  rw [← lo8_mask h0 h1, ← lo8_mask k0 k1, h]
/-- arrays coded by one coder are equal just where the texts are -/
theorem Cod.eqv {cd : Int32} {n k : Nat} {f g : Nat → Int32} {V V' : Cell} (h : Cod cd n f V) (h' : Cod cd k g V') (hf : ∀ j, j < n → ¬ f j < 0 ∧ ¬ 65535 < f j) (hg : ∀ j, j < k → ¬ g j < 0 ∧ ¬ 65535 < g j) : EqC V V' ↔ SameT n f k g := by
  have yvv : ∀ {W : Cell} {i : Nat} {x : Int32}, W.slots[i]? = some (.int x) → yv W i = x := fun q => by unfold yv; rw [q]
  rcases h with ⟨rfl, k1, k2⟩ | ⟨rfl, k1, k2, -⟩
  · rcases h' with ⟨-, m1, m2⟩ | ⟨e, -⟩
    · constructor
      · rintro ⟨e1, e2⟩
        refine ⟨by omega, fun j hj => ?_⟩
        have q := e2 j (by omega)
        rw [yvv (k2 j hj).1, yvv (m2 j (by omega)).1] at q
        exact lo8_inj (hf j hj).1 (k2 j hj).2 (hg j (by omega)).1 (m2 j (by omega)).2 q
      · rintro ⟨rfl, e2⟩
        refine ⟨by omega, fun j hj => ?_⟩
        rw [yvv (k2 j (by omega)).1, yvv (m2 j (by omega)).1, e2 j (by omega)]
    · exact absurd e (by decide)
  · rcases h' with ⟨e, -⟩ | ⟨-, m1, m2, -⟩
    · exact absurd e (by decide)
    · constructor
      · rintro ⟨e1, e2⟩
        refine ⟨by omega, fun j hj => ?_⟩
        have q1 := e2 (2 * j) (by omega)
        have q2 := e2 (2 * j + 1) (by omega)
        rw [yvv (k2 j hj).1, yvv (m2 j (by omega)).1] at q1
        rw [yvv (k2 j hj).2, yvv (m2 j (by omega)).2] at q2
        rw [← pair_says (hf j hj).1 (hf j hj).2, ← pair_says (hg j (by omega)).1 (hg j (by omega)).2, q1, q2]
      · rintro ⟨rfl, e2⟩
        refine ⟨by omega, fun i hi => ?_⟩
        rcases Nat.mod_two_eq_zero_or_one i with e | e
        · obtain ⟨j, rfl⟩ : ∃ j, i = 2 * j := ⟨i / 2, by omega⟩
          rw [yvv (k2 j (by omega)).1, yvv (m2 j (by omega)).1, e2 j (by omega)]
        · obtain ⟨j, rfl⟩ : ∃ j, i = 2 * j + 1 := ⟨i / 2, by omega⟩
          rw [yvv (k2 j (by omega)).2, yvv (m2 j (by omega)).2, e2 j (by omega)]
/-- two codings differ: so do the texts -/
theorem Cod.dif {cd cd' : Int32} {n k : Nat} {f g : Nat → Int32} {V V' : Cell} (h : Cod cd n f V) (h' : Cod cd' k g V') (hne : ¬ cd = cd') : ¬ SameT n f k g := by
  rintro ⟨rfl, e⟩
  rcases h with ⟨rfl, -, k2⟩ | ⟨rfl, -, -, j, hj, hw⟩
  · rcases h' with ⟨rfl, -⟩ | ⟨-, -, -, j, hj, hw⟩
    · exact hne rfl
    · exact (k2 j hj).2 (by rw [e j hj]; exact hw)
  · rcases h' with ⟨-, -, m2⟩ | ⟨rfl, -⟩
    · exact (m2 j hj).2 (by rw [← e j hj]; exact hw)
    · exact hne rfl
/-- an object of exactly C is an instance of C -/
theorem cinst {p : Program} {l : Launch} {e : Env} {R : Room} {s : State} {m : MethodId} {args : Array Value} {below : List Frame} {meth : Method} {c : Code} {T : State} {locs : List Loc} {cells slots : Nat} (X : Stand p l e R s m args below meth c T locs cells slots) (hexec : p.tables.exec = Jvm.exec) {own C : String} {index : Nat} (hown : s.vm.findClass own = some m.cls) (hlink : (Cond.classLink own index C).before args s = true) {a : Addr} (hE : Exact C a T)
    {g : JFrame} (hg : g.method = m) {rest : List Value} (hstack : g.stack = .ref a :: rest) (hdg : decode c.code g.pc = .ok (.instanceof index, 3)) :
    ∃ T', Stand p l e R s m args below meth c T' locs cells slots ∧ T'.heap = T.heap ∧ ∀ target, Steps p.tables e below (T'.setTop { g with pc := g.pc + 3, stack := .int 1 :: rest }) target → Steps p.tables e below (T.setTop g) target := by
  obtain ⟨cB, h1, D, h2, h3, h4⟩ := hE
  have h1' : s.vm.findClass C = some cB := by rw [← X.warmed.alike.findClass]; exact h1
  obtain ⟨vm', X', st⟩ := X.instanceofYes hexec hown hlink h2 h4 h1' (by rw [h3]; exact Jvm.Free.SB.assignable_self _ _) hg hstack hdg
  exact ⟨_, X', rfl, st⟩
theorem cself {p : Program} {l : Launch} {e : Env} {R : Room} {s : State} {m : MethodId} {args : Array Value} {below : List Frame} {meth : Method} {c : Code} {T : State} {locs : List Loc} {cells slots : Nat} (X : Stand p l e R s m args below meth c T locs cells slots) (hexec : p.tables.exec = Jvm.exec) {own C : String} {index : Nat} (hown : s.vm.findClass own = some m.cls) (hlink : (Cond.classLink own index C).before args s = true) {a : Addr} (hE : Exact C a T)
    {g : JFrame} (hg : g.method = m) {rest : List Value} (hstack : g.stack = .ref a :: rest) (hdg : decode c.code g.pc = .ok (.checkcast index, 3)) :
    ∃ T', Stand p l e R s m args below meth c T' locs cells slots ∧ T'.heap = T.heap ∧ ∀ target, Steps p.tables e below (T'.setTop { g with pc := g.pc + 3, stack := .ref a :: rest }) target → Steps p.tables e below (T.setTop g) target := by
  obtain ⟨cB, h1, D, h2, h3, h4⟩ := hE
  have h1' : s.vm.findClass C = some cB := by rw [← X.warmed.alike.findClass]; exact h1
  obtain ⟨vm', X', st⟩ := X.checkcastYes hexec hown hlink h2 h4 h1' (by rw [h3]; exact Jvm.Free.SB.assignable_self _ _) hg hstack hdg
  exact ⟨_, X', rfl, fun t h => st t (by rw [← hstack] at h; exact h)⟩
namespace SEq
def yN : MethodName := ⟨"java/lang/String", "equals", "(Ljava/lang/Object;)Z"⟩
abbrev yB : ByteArray := jdk_42_method_66_code
theorem d0 : decode yB 0 = .ok (.aload_n 0, 1) := by decide +kernel
theorem d1 : decode yB 1 = .ok (.aload_n 1, 1) := by decide +kernel
theorem d2 : decode yB 2 = .ok (.if_acmp (.ne) 5, 3) := by decide +kernel
theorem d5 : decode yB 5 = .ok (.iconst 1, 1) := by decide +kernel
theorem d6 : decode yB 6 = .ok (.ireturn, 1) := by decide +kernel
theorem d7 : decode yB 7 = .ok (.aload_n 1, 1) := by decide +kernel
theorem d8 : decode yB 8 = .ok (.instanceof 10, 3) := by decide +kernel
theorem d11 : decode yB 11 = .ok (.ifCond (.eq) 43, 3) := by decide +kernel
theorem d14 : decode yB 14 = .ok (.aload_n 1, 1) := by decide +kernel
theorem d15 : decode yB 15 = .ok (.checkcast 10, 3) := by decide +kernel
theorem d18 : decode yB 18 = .ok (.astore_n 2, 1) := by decide +kernel
theorem d19 : decode yB 19 = .ok (.getstatic 38, 3) := by decide +kernel
theorem d22 : decode yB 22 = .ok (.ifCond (.eq) 14, 3) := by decide +kernel
theorem d25 : decode yB 25 = .ok (.aload_n 0, 1) := by decide +kernel
theorem d26 : decode yB 26 = .ok (.getfield 15, 3) := by decide +kernel
theorem d29 : decode yB 29 = .ok (.aload_n 2, 1) := by decide +kernel
theorem d30 : decode yB 30 = .ok (.getfield 15, 3) := by decide +kernel
theorem d33 : decode yB 33 = .ok (.if_icmp (.ne) 21, 3) := by decide +kernel
theorem d36 : decode yB 36 = .ok (.aload_n 0, 1) := by decide +kernel
theorem d37 : decode yB 37 = .ok (.getfield 9, 3) := by decide +kernel
theorem d40 : decode yB 40 = .ok (.aload_n 2, 1) := by decide +kernel
theorem d41 : decode yB 41 = .ok (.getfield 9, 3) := by decide +kernel
theorem d44 : decode yB 44 = .ok (.invokestatic 541, 3) := by decide +kernel
theorem d47 : decode yB 47 = .ok (.ifCond (.eq) 7, 3) := by decide +kernel
theorem d50 : decode yB 50 = .ok (.iconst 1, 1) := by decide +kernel
theorem d51 : decode yB 51 = .ok (.goto 4, 3) := by decide +kernel
theorem d54 : decode yB 54 = .ok (.iconst 0, 1) := by decide +kernel
theorem d55 : decode yB 55 = .ok (.ireturn, 1) := by decide +kernel
def site : List Cond := [.classLink "java/lang/String" 10 "java/lang/String", .fieldLink "java/lang/String" 38 "java/lang/String" "COMPACT_STRINGS" "Z", .fieldLink "java/lang/String" 15 "java/lang/String" "coder" "B", .fieldLink "java/lang/String" 9 "java/lang/String" "value" "[B", LEq.tab] ++ staticW "java/lang/String" 541 LEq.yN
def tab : Cond := tabOf yN yB 3 (some .boolean) site
def P (x t : Addr) (V : Cell) (cd : Int32) (n : Nat) (f : Nat → Int32) (y t' : Addr) (V' : Cell) (cd' : Int32) (k : Nat) (g : Nat → Int32) (z : Int32) (args : Array Value) (s : State) : Prop := args = #[.ref x, .ref y] ∧ Txt x t V cd n f s ∧ Txt y t' V' cd' k g s ∧ StaticIs s "java/lang/String" "COMPACT_STRINGS" "Z" (.int z) ∧ ¬ z = 0
/-- equals(Object) of two Strings: whether the texts are the same -/
theorem law (l : Launch) (x t : Addr) (V : Cell) (cd : Int32) (n : Nat) (f : Nat → Int32) (y t' : Addr) (V' : Cell) (cd' : Int32) (k : Nat) (g : Nat → Int32) (z : Int32) : Law l yN 2 1 1 14 yB 3 (some .boolean) site (P x t V cd n f y t' V' cd' k g z) (Says01 (SameT n f k g)) [] 0 0 := by
  refine Law.of_walk (plainFor_of_name (by decide +kernel)) (by decide +kernel) (by decide +kernel) (by decide) (fun _ _ h => by rw [h.1]; rfl) (fun _ U U' hal hh h => ⟨h.1, h.2.1.mv hal hh, h.2.2.1.mv hal hh, h.2.2.2.1.there hal hh, h.2.2.2.2⟩) (fun r U U' V V' h1 hal h2 h => Says01.mv r U U' V V' h1 hal h2 h) ?_
  intro p e s m args below meth c s₁ X0 hexec hbytes hml hret hlk hnm hown hh0 W hP
  obtain ⟨rfl, hx, hy, s1, hz⟩ := hP
  have c1 : Steps p.tables e below (s₁.setTop (entryFrame m #[.ref x, .ref y] 3)) (s₁.setTop (mkF m 2 #[.val (.ref x), .val (.ref y), .unset] [.ref y, .ref x])) := Steps.trans (entry rfl) (by
    show Steps p.tables e below (s₁.setTop (mkF m 0 #[.val (.ref x), .val (.ref y), .unset] [])) _
    refine XS.aloadN X0.here hexec rfl (hb hbytes d0) rfl rfl ?_
    refine XS.aloadN X0.here hexec rfl (hb hbytes d1) rfl rfl ?_
    exact Steps.refl _)
  by_cases hxy : x = y
  · have c2 : Steps p.tables e below (s₁.setTop (entryFrame m #[.ref x, .ref y] 3)) (s₁.setTop (mkF m 6 #[.val (.ref x), .val (.ref y), .unset] [.int 1])) := c1.trans (by
      refine acmpNo X0.here hexec rfl (hb hbytes d2) rfl rfl rfl (by simp [acmp, hxy]) ?_
      refine iconstV X0.here hexec rfl 1 (hb hbytes d5) (by decide) ?_
      exact Steps.refl _)
    subst hxy
    have ec : cd = cd' := by
      obtain ⟨D, fd, a1, a2, a3⟩ := hx.2.2.1
      obtain ⟨D', fd', b1, b2, b3⟩ := hy.2.2.1
      cases a1.symm.trans b1
      obtain ⟨q1, q2, q3, q4⟩ := a2.1
      obtain ⟨r1, r2, r3, r4⟩ := b2.1
      cases q4.symm.trans r4
      cases a3.symm.trans b3; rfl
    have et : t = t' := by
      obtain ⟨D, fd, a1, a2, a3⟩ := hx.2.1
      obtain ⟨D', fd', b1, b2, b3⟩ := hy.2.1
      cases a1.symm.trans b1
      obtain ⟨q1, q2, q3, q4⟩ := a2.1
      obtain ⟨r1, r2, r3, r4⟩ := b2.1
      cases q4.symm.trans r4
      cases a3.symm.trans b3; rfl
    subst ec et
    have ev : V = V' := by cases hx.2.2.2.1.1.symm.trans hy.2.2.2.1.1; rfl
    subst ev
    have hs : SameT n f k g := (Cod.eqv hx.2.2.2.2.1 hy.2.2.2.2.1 hx.2.2.2.2.2 hy.2.2.2.2.2).mp ⟨rfl, fun _ _ => rfl⟩
    exact ⟨s₁, some (.int 1), _, _, _, X0, rfl, rfl, rfl, (fun h => by cases h), ⟨1, rfl, hh0, Or.inl ⟨rfl, hs⟩⟩, fun fs hl => c2.trans (X0.ireturnOut hexec hret rfl (Or.inr (Or.inl rfl)) (hb hbytes d6) hl)⟩
  · have c2 : Steps p.tables e below (s₁.setTop (entryFrame m #[.ref x, .ref y] 3)) (s₁.setTop (mkF m 8 #[.val (.ref x), .val (.ref y), .unset] [.ref y])) := c1.trans (by
      refine acmpYes X0.here hexec rfl (pc0 := 2) rfl (hb hbytes d2) rfl rfl rfl (by simp [acmp, hxy]) (by decide) rfl ?_
      refine XS.aloadN X0.here hexec rfl (hb hbytes d7) rfl rfl ?_
      exact Steps.refl _)
    obtain ⟨T3, X3, q3, st3⟩ := cinst X0 hexec hown (wk W (.classLink "java/lang/String" 10 "java/lang/String")) (hy.mv X0.warmed.alike hh0).1 (g := (mkF m 8 #[.val (.ref x), .val (.ref y), .unset] [.ref y])) rfl (rest := []) rfl (hb hbytes d8)
    have hh3 := q3.trans hh0
    have c4 : Steps p.tables e below (s₁.setTop (entryFrame m #[.ref x, .ref y] 3)) (T3.setTop (mkF m 15 #[.val (.ref x), .val (.ref y), .unset] [.ref y])) := (c2.trans (st3 _ (Steps.refl _))).trans (by
      refine XS.ifNo X3.here hexec rfl (hb hbytes d11) rfl (i0_eq_f (by decide)) ?_
      refine XS.aloadN X3.here hexec rfl (hb hbytes d14) rfl rfl ?_
      exact Steps.refl _)
    obtain ⟨T5, X5, q5, st5⟩ := cself X3 hexec hown (wk W (.classLink "java/lang/String" 10 "java/lang/String")) (hy.mv X3.warmed.alike hh3).1 (g := (mkF m 15 #[.val (.ref x), .val (.ref y), .unset] [.ref y])) rfl (rest := []) rfl (hb hbytes d15)
    have hh5 := q5.trans hh3
    have c6 : Steps p.tables e below (s₁.setTop (entryFrame m #[.ref x, .ref y] 3)) (T5.setTop (mkF m 19 #[.val (.ref x), .val (.ref y), .val (.ref y)] [])) := (c4.trans (st5 _ (Steps.refl _))).trans (by
      refine XS.astoreN X5.here hexec rfl (hb hbytes d18) rfl rfl rfl ?_
      exact Steps.refl _)
    obtain ⟨T7, X7, q7, st7⟩ := X5.sget hexec hown (wk W (.fieldLink "java/lang/String" 38 "java/lang/String" "COMPACT_STRINGS" "Z")) s1 (fun _ _ h => by rw [hh5]; exact h) (g := (mkF m 19 #[.val (.ref x), .val (.ref y), .val (.ref y)] [])) rfl (hb hbytes d19)
    have hh7 := q7.trans hh5
    have c8 : Steps p.tables e below (s₁.setTop (entryFrame m #[.ref x, .ref y] 3)) (T7.setTop (mkF m 26 #[.val (.ref x), .val (.ref y), .val (.ref y)] [.ref x])) := (c6.trans (st7 _ (Steps.refl _))).trans (by
      refine XS.ifNo X7.here hexec rfl (hb hbytes d22) rfl (i0_eq_f hz) ?_
      refine XS.aloadN X7.here hexec rfl (hb hbytes d25) rfl rfl ?_
      exact Steps.refl _)
    obtain ⟨T9, X9, q9, st9⟩ := X7.hget hexec hown (wk W (.fieldLink "java/lang/String" 15 "java/lang/String" "coder" "B")) (hx.mv X7.warmed.alike hh7).2.2.1 (g := (mkF m 26 #[.val (.ref x), .val (.ref y), .val (.ref y)] [.ref x])) rfl (rest := []) rfl (hb hbytes d26)
    have hh9 := q9.trans hh7
    have c10 : Steps p.tables e below (s₁.setTop (entryFrame m #[.ref x, .ref y] 3)) (T9.setTop (mkF m 30 #[.val (.ref x), .val (.ref y), .val (.ref y)] [.ref y, .int cd])) := (c8.trans (st9 _ (Steps.refl _))).trans (by
      refine XS.aloadN X9.here hexec rfl (hb hbytes d29) rfl rfl ?_
      exact Steps.refl _)
    obtain ⟨T11, X11, q11, st11⟩ := X9.hget hexec hown (wk W (.fieldLink "java/lang/String" 15 "java/lang/String" "coder" "B")) (hy.mv X9.warmed.alike hh9).2.2.1 (g := (mkF m 30 #[.val (.ref x), .val (.ref y), .val (.ref y)] [.ref y, .int cd])) rfl (rest := [.int cd]) rfl (hb hbytes d30)
    have hh11 := q11.trans hh9
    have c12 : Steps p.tables e below (s₁.setTop (entryFrame m #[.ref x, .ref y] 3)) (T11.setTop (mkF m 33 #[.val (.ref x), .val (.ref y), .val (.ref y)] [.int cd', .int cd])) := c10.trans (st11 _ (Steps.refl _))
    by_cases hcd : cd = cd'
    · subst hcd
      have c13 : Steps p.tables e below (s₁.setTop (entryFrame m #[.ref x, .ref y] 3)) (T11.setTop (mkF m 37 #[.val (.ref x), .val (.ref y), .val (.ref y)] [.ref x])) := c12.trans (by
        refine XS.icmpNo X11.here hexec rfl (hb hbytes d33) rfl (ii_ne_f rfl) ?_
        refine XS.aloadN X11.here hexec rfl (hb hbytes d36) rfl rfl ?_
        exact Steps.refl _)
      obtain ⟨T14, X14, q14, st14⟩ := X11.hget hexec hown (wk W (.fieldLink "java/lang/String" 9 "java/lang/String" "value" "[B")) (hx.mv X11.warmed.alike hh11).2.1 (g := (mkF m 37 #[.val (.ref x), .val (.ref y), .val (.ref y)] [.ref x])) rfl (rest := []) rfl (hb hbytes d37)
      have hh14 := q14.trans hh11
      have c15 : Steps p.tables e below (s₁.setTop (entryFrame m #[.ref x, .ref y] 3)) (T14.setTop (mkF m 41 #[.val (.ref x), .val (.ref y), .val (.ref y)] [.ref y, .ref t])) := (c13.trans (st14 _ (Steps.refl _))).trans (by
        refine XS.aloadN X14.here hexec rfl (hb hbytes d40) rfl rfl ?_
        exact Steps.refl _)
      obtain ⟨T16, X16, q16, st16⟩ := X14.hget hexec hown (wk W (.fieldLink "java/lang/String" 9 "java/lang/String" "value" "[B")) (hy.mv X14.warmed.alike hh14).2.1 (g := (mkF m 41 #[.val (.ref x), .val (.ref y), .val (.ref y)] [.ref y, .ref t])) rfl (rest := [.ref t]) rfl (hb hbytes d41)
      have hh16 := q16.trans hh14
      have c17 : Steps p.tables e below (s₁.setTop (entryFrame m #[.ref x, .ref y] 3)) (T16.setTop (mkF m 44 #[.val (.ref x), .val (.ref y), .val (.ref y)] [.ref t', .ref t])) := c15.trans (st16 _ (Steps.refl _))
      obtain ⟨v18, T18, X18, E18, g18⟩ := X16.callS hexec (LEq.law l t V t' V') hown (wks W (staticW "java/lang/String" 541 LEq.yN)) (wk W LEq.tab) (W := 0) (Nat.le_of_ble_eq_true rfl) (Nat.le_of_ble_eq_true rfl) (Nat.le_refl _) (Nat.le_refl _) (g := (mkF m 44 #[.val (.ref x), .val (.ref y), .val (.ref y)] [.ref t', .ref t])) rfl (by rw [hml]; rfl) c17 (argsL := [.ref t, .ref t']) (rest := []) rfl rfl (by show 2 * 0 + 0 ≤ _; decide) (hb hbytes d44) (⟨rfl, hx.2.2.2.1.mv X16.warmed.alike hh16, hx.2.2.2.2.1.ty, hy.2.2.2.1.mv X16.warmed.alike hh16, hy.2.2.2.2.1.ty⟩)
      obtain ⟨v, rfl, q18, hv⟩ := E18
      have iff := Cod.eqv hx.2.2.2.2.1 hy.2.2.2.2.1 hx.2.2.2.2.2 hy.2.2.2.2.2
      rcases hv with ⟨rfl, he⟩ | ⟨rfl, he⟩
      · have c19 : Steps p.tables e below (s₁.setTop (entryFrame m #[.ref x, .ref y] 3)) (T18.setTop (mkF m 55 #[.val (.ref x), .val (.ref y), .val (.ref y)] [.int 1])) := Steps.trans g18 (by
          refine XS.ifNo X18.here hexec rfl (hb hbytes d47) rfl (i0_eq_f (by decide)) ?_
          refine iconstV X18.here hexec rfl 1 (hb hbytes d50) (by decide) ?_
          refine XS.goto X18.here hexec rfl (pc0 := 51) rfl (hb hbytes d51) (by decide) rfl ?_
          exact Steps.refl _)
        exact ⟨T18, some (.int 1), _, _, _, X18, rfl, rfl, rfl, (fun h => by cases h), ⟨1, rfl, q18.trans hh16, Or.inl ⟨rfl, iff.mp he⟩⟩, fun fs hl => c19.trans (X18.ireturnOut hexec hret rfl (Or.inr (Or.inl rfl)) (hb hbytes d55) hl)⟩
      · have c19 : Steps p.tables e below (s₁.setTop (entryFrame m #[.ref x, .ref y] 3)) (T18.setTop (mkF m 55 #[.val (.ref x), .val (.ref y), .val (.ref y)] [.int 0])) := Steps.trans g18 (by
          refine XS.ifYes X18.here hexec rfl (pc0 := 47) rfl (hb hbytes d47) rfl (i0_eq_t rfl) (by decide) rfl ?_
          refine iconstV X18.here hexec rfl 0 (hb hbytes d54) (by decide) ?_
          exact Steps.refl _)
        exact ⟨T18, some (.int 0), _, _, _, X18, rfl, rfl, rfl, (fun h => by cases h), ⟨0, rfl, q18.trans hh16, Or.inr ⟨rfl, fun q => he (iff.mpr q)⟩⟩, fun fs hl => c19.trans (X18.ireturnOut hexec hret rfl (Or.inr (Or.inl rfl)) (hb hbytes d55) hl)⟩
    · have c13 : Steps p.tables e below (s₁.setTop (entryFrame m #[.ref x, .ref y] 3)) (T11.setTop (mkF m 55 #[.val (.ref x), .val (.ref y), .val (.ref y)] [.int 0])) := c12.trans (by
        refine XS.icmpYes X11.here hexec rfl (pc0 := 33) rfl (hb hbytes d33) rfl (ii_ne_t hcd) (by decide) rfl ?_
        refine iconstV X11.here hexec rfl 0 (hb hbytes d54) (by decide) ?_
        exact Steps.refl _)
      exact ⟨T11, some (.int 0), _, _, _, X11, rfl, rfl, rfl, (fun h => by cases h), ⟨0, rfl, hh11, Or.inr ⟨rfl, Cod.dif hx.2.2.2.2.1 hy.2.2.2.2.1 hcd⟩⟩, fun fs hl => c13.trans (X11.ireturnOut hexec hret rfl (Or.inr (Or.inl rfl)) (hb hbytes d55) hl)⟩
theorem pays {l : Launch} {R : Room} {p : Program} {e : Env} {below : List Frame} {s : State} {sargs : Array Value} {len W : Nat} (x t : Addr) (V : Cell) (cd : Int32) (n : Nat) (f : Nat → Int32) (y t' : Addr) (V' : Cell) (cd' : Int32) (k : Nat) (g : Nat → Int32) (z : Int32) (htab : tab.before sargs s = true) (hfr : 2 ≤ R.frames) (hlo : W + 28 ≤ R.locals) :
    Back l R p e below s sargs yN len W (fun A₁ a₁ => A₁.cells + 0 ≤ R.cells ∧ A₁.slots + 0 ≤ R.slots ∧ P x t V cd n f y t' V' cd' k g z a₁ A₁.U) (fun A₁ _ v₁ B₁ => Says01 (SameT n f k g) v₁ A₁.U B₁.U ∧ B₁.locs = A₁.locs ++ [] ∧ B₁.cells = A₁.cells + 0 ∧ B₁.slots = A₁.slots + 0) :=
  (law l x t V cd n f y t' V' cd' k g z).pays htab hfr (by omega)
end SEq
end StrChars
namespace StrChars.Road
open Jvm Sem ClassFile Op Lib Jvm.Stand Jvm.Free Jvm.Free.XT
open Jvm.Lib.Cold (StaticIs)
/-- the words of String.equals(Object) -/
abbrev wordsEq : List Jvm.Cond := [.code SEq.yN SEq.yB 3 (some .boolean), .initialized ST, .classLink ST 10 ST, .fieldLink ST 38 ST "COMPACT_STRINGS" "Z", .fieldLink ST 15 ST "coder" "B", .fieldLink ST 9 ST "value" "[B", .methodLink ST 541 LEq.yN, .static LEq.yN, .code LEq.yN LEq.yB 3 (some .boolean), .initialized "java/lang/StringLatin1"]
theorem tabEq_of {a : Array Value} {s : State} (h : ∀ w ∈ wordsEq, w.before a s = true) : SEq.tab.before a s = true := by
  have hl : LEq.tab.before a s = true := unparts (wk h (.code LEq.yN LEq.yB 3 (some .boolean))) (wks h (.initialized LEq.yN.cls :: LEq.site))
  have q := consq hl h
  exact unparts (wk q (.code SEq.yN SEq.yB 3 (some .boolean))) (wks q (.initialized SEq.yN.cls :: SEq.site))
theorem movedEq {Z s : State} {a0 args : Array Value} (hZ : Z.Warmed39 s.vm) (hw : ∀ d ∈ wordsEq, d.before a0 Z = true) : ∀ d ∈ wordsEq, d.before args s = true := fun d hd => by
  have t : ∀ d ∈ wordsEq, (d.onTables && d.keepsFace) = true := by decide +kernel
  exact RoadKit.mv hZ (hw d hd) (t d hd)
/-- the road's facts of a String, as the laws ask it -/
theorem txt_of {Z U : State} {a0 : Array Value} {kI : Nat} (wi : (Jvm.Cond.instantiable ST kI).before a0 Z = true) (al : Z.vm.Alike U.vm) {x t : Addr} {kb : ClassId} {cs : List Int32} {cd N2 : Int32} {vs : List Value} (E : RoadKit.Exa Z U.heap x ST) (V : RoadKit.Fld Z U.heap x ST "value" "[B" (.ref t)) (C : RoadKit.Fld Z U.heap x ST "coder" "B" (.int cd)) (K : RoadKit.Arv Z U.heap t kb .byte N2 vs (.int 0)) (hc : CodA cs cd N2 vs) (hb : ∀ c ∈ cs, ¬ c < 0 ∧ ¬ (65535 : Int32) < c) (l2 : cs.length ≤ 4000) :
    ∃ A, Txt x t A cd cs.length (fun j => cs.getD j 0) U := by
  obtain ⟨A, K1, K2, K3, K4, K5, K6⟩ := K
  have hcod := hc.cod (by omega) K3 K5
  obtain ⟨D, fV, fC, hB, F1, F2, g1, g2, -, -⟩ := strObj wi al E V C
  exact ⟨A, ⟨_, hB.2.2.1, D, hB.1, rfl, by cases q : D.vm <;> first | rfl | exact absurd q (hB.2.1.2 _)⟩, Has.of hB F1 g1, Has.of hB F2 g2, ⟨K1.1, State.isArrayOf_alike al K1.2.1, K1.2.2, by rcases hcod with ⟨-, q, -⟩ | ⟨-, q, -⟩ <;> omega⟩, hcod, fun j hj => by
    have e : cs.getD j 0 = cs[j] := by simp [List.getD_eq_getElem?_getD, hj]
    show ¬ cs.getD j 0 < 0 ∧ ¬ 65535 < cs.getD j 0
    rw [e]; exact hb _ (List.getElem_mem _)⟩
theorem same_list (cs ds : List Int32) : SameT cs.length (fun j => cs.getD j 0) ds.length (fun j => ds.getD j 0) ↔ cs = ds := by
  constructor
  · rintro ⟨e, q⟩
    refine List.ext_getElem e fun j h1 h2 => ?_
    have := q j h1
    simpa [List.getD_eq_getElem?_getD, h1, h2] using this
  · rintro rfl
    exact ⟨rfl, fun _ _ => rfl⟩
/-- **equals(Object) OF TWO SUCH STRINGS**: 1 just where the chars are the same -/
theorem eqW {p : Program} {l : Launch} {e : Env} {R : Room} {s : State} {args : Array Value} {below : List Frame} {len W : Nat} {Z : State} {a0 : Array Value} {h : Heap} (hZ : Z.Warmed39 s.vm) (hw : ∀ d ∈ wordsEq, d.before a0 Z = true) {kI : Nat} (wi : (Jvm.Cond.instantiable ST kI).before a0 Z = true)
    {x t : Addr} {kb : ClassId} {cs : List Int32} {cd N2 : Int32} {vs : List Value} (E : RoadKit.Exa Z h x ST) (V : RoadKit.Fld Z h x ST "value" "[B" (.ref t)) (C : RoadKit.Fld Z h x ST "coder" "B" (.int cd)) (K : RoadKit.Arv Z h t kb .byte N2 vs (.int 0)) (hc : CodA cs cd N2 vs) (hb : ∀ c ∈ cs, ¬ c < 0 ∧ ¬ (65535 : Int32) < c) (l2 : cs.length ≤ 4000)
    {y t' : Addr} {kb' : ClassId} {ds : List Int32} {cd' N2' : Int32} {vs' : List Value} (E' : RoadKit.Exa Z h y ST) (V' : RoadKit.Fld Z h y ST "value" "[B" (.ref t')) (C' : RoadKit.Fld Z h y ST "coder" "B" (.int cd')) (K' : RoadKit.Arv Z h t' kb' .byte N2' vs' (.int 0)) (hc' : CodA ds cd' N2' vs') (hb' : ∀ c ∈ ds, ¬ c < 0 ∧ ¬ (65535 : Int32) < c) (l2' : ds.length ≤ 4000)
    {z : Int32} (S : RoadKit.Sta Z h ST "COMPACT_STRINGS" "Z" (.int z)) (hz : ¬ z = 0) (hfr : 2 ≤ R.frames) (hlo : W + 28 ≤ R.locals) :
    Back l R p e below s args (⟨"java/lang/String", "equals", "(Ljava/lang/Object;)Z"⟩ : MethodName) len W (fun P a => a = #[.ref x, .ref y] ∧ P.U.heap = h ∧ P.cells + 0 ≤ R.cells ∧ P.slots + 0 ≤ R.slots)
      (fun P _ v B => ∃ L, (((v = some (.int 1) ∧ cs = ds) ∨ (v = some (.int 0) ∧ ¬ cs = ds)) ∧ L = [] ∧ B.U.heap = h) ∧ B.locs = P.locs ++ L ∧ B.cells = P.cells + 0 ∧ B.slots = P.slots + 0) := by
  intro m meth c P g ig mk a X hg hsize hdg hW hn hp'
  obtain ⟨rfl, rfl, r1, r2⟩ := hp'
  have al : Z.vm.Alike P.U.vm := hZ.alike.trans X.warmed.alike
  obtain ⟨A, hx⟩ := txt_of wi al E V C K hc hb l2
  obtain ⟨A', hy⟩ := txt_of wi al E' V' C' K' hc' hb' l2'
  obtain ⟨v, B, X', ⟨⟨w, hv, hh, hq⟩, hl, hk, hs⟩, st⟩ := SEq.pays x t A cd cs.length (fun j => cs.getD j 0) y t' A' cd' ds.length (fun j => ds.getD j 0) z (tabEq_of (movedEq hZ hw)) hfr hlo m meth c P g ig mk _ X hg hsize hdg hW hn ⟨r1, r2, rfl, hx, hy, sta_is al S, hz⟩
  refine ⟨v, B, X', ⟨[], ⟨?_, rfl, hh⟩, hl, hk, hs⟩, st⟩
  rcases hq with ⟨rfl, q⟩ | ⟨rfl, q⟩
  · exact Or.inl ⟨hv, (same_list cs ds).mp q⟩
  · exact Or.inr ⟨hv, fun e => q ((same_list cs ds).mpr e)⟩
end StrChars.Road
namespace StrChars.Road
open Jvm Sem ClassFile Op Lib Jvm.Stand Jvm.Free Jvm.Free.XT
open Jvm.Lib.Cold (StaticIs)
/-- what backV says of its String, as the contracts of this text ask it: cs's low bytes, coder 0 -/
theorem codOf {cs : List Int32} {n : Nat} (hn : cs.length = n) (hb : ∀ c ∈ cs, ¬ 255 < c) : CodA cs 0 (Int32.ofNat n) ((cs.map lo8).map Value.int) := Or.inl ⟨rfl, by rw [hn], by simp [List.map_map, Function.comp_def], hb⟩
end StrChars.Road
end Jvm.Pilot.@@N@@

namespace Jvm.Pilot.@@N@@
open Jvm Jvm.ClassFile Sem Op Lib Jvm.Free Jvm.Stand Jvm.LawKit Jvm.RoadKit Bundle Jvm.Pilot.@@N@@.Jvm.D
section OwnKit
variable {p : Program} {l : Launch} {e : Env} {R : Room} {s : State} {m : MethodId} {args : Array Value} {below : List Frame} {meth : Method} {c : Code} {T : State} {locs : List Loc} {cells slots : Nat} {Z : State} {h : Heap}
def own_Post (Q : Option Value → Heap → List Loc → Prop) (k n : Nat) (below : List Frame) (U : State) (t : State) (o : Outcome) : Prop :=
  t.status = .running ∧ Ended t below o ∧ ∃ v L, o = .returned v ∧ Q v t.heap L ∧ FrameEnd U o t L k n
def own_Fin (tb : Tables) (e : Env) (below : List Frame) (P : State → Outcome → Prop) (t0 : State) : Prop := ∃ t o, Steps tb e below t0 t ∧ P t o
theorem own_go {tb : Tables} {P : State → Outcome → Prop} {t0 t1 : State} (st : ∀ t, Steps tb e below t1 t → Steps tb e below t0 t) (q : own_Fin tb e below P t1) : own_Fin tb e below P t0 := by
  obtain ⟨t, o, h1, h2⟩ := q
  exact ⟨t, o, st _ h1, h2⟩
theorem own_retI {x : MethodName} {S : Spec} {code : ByteArray} {mx : Nat} {rt : Option FieldType} {s₁ : State} {Q : Option Value → Heap → List Loc → Prop} {kc kn : Nat} (X : Stand p l e R s m args below meth c T locs cells slots) (hx : p.tables.exec = Jvm.exec) (Bd : BodyLoose p l x S code mx rt e s m args below meth c s₁) {pc : Nat} {Ls : Array Slot} {z : Int32} {t : FieldType} {rest : List Value} (hret : meth.sig.returnType = some t) (hn : narrow t (.int z) = .int z)
    (ht : t = .int ∨ t = .boolean ∨ t = .byte ∨ t = .char ∨ t = .short) (hd : decode c.code pc = .ok (.ireturn, 1)) (hQ : Q (some (.int z)) T.heap locs) (hc : cells ≤ kc) (hs : slots ≤ kn) : own_Fin p.tables e below (own_Post Q kc kn below s) (T.setTop (mkF m pc Ls (.int z :: rest))) := by
  obtain ⟨fs, hr, hrun, hended, hW, hsame⟩ := X.leave (v := some (.int z)) (fun h => by rw [hret] at h; cases h) Bd.notSynchronized
  exact ⟨_, _, retOut X hx hret hn (Or.inl ⟨rfl, ht, z, rfl⟩) hd hr, hrun, hended, _, _, rfl, hQ, ⟨_, rfl⟩, hW, hsame.mono hc hs⟩
theorem own_retJ {x : MethodName} {S : Spec} {code : ByteArray} {mx : Nat} {rt : Option FieldType} {s₁ : State} {Q : Option Value → Heap → List Loc → Prop} {kc kn : Nat} (X : Stand p l e R s m args below meth c T locs cells slots) (hx : p.tables.exec = Jvm.exec) (Bd : BodyLoose p l x S code mx rt e s m args below meth c s₁) {pc : Nat} {Ls : Array Slot} {z : Int64} {rest : List Value} (hret : meth.sig.returnType = some .long)
    (hd : decode c.code pc = .ok (.lreturn, 1)) (hQ : Q (some (.long z)) T.heap locs) (hc : cells ≤ kc) (hs : slots ≤ kn) : own_Fin p.tables e below (own_Post Q kc kn below s) (T.setTop (mkF m pc Ls (.long z :: rest))) := by
  obtain ⟨fs, hr, hrun, hended, hW, hsame⟩ := X.leave (v := some (.long z)) (fun h => by rw [hret] at h; cases h) Bd.notSynchronized
  exact ⟨_, _, retOut X hx hret rfl (Or.inr (Or.inl ⟨rfl, rfl, z, rfl⟩)) hd hr, hrun, hended, _, _, rfl, hQ, ⟨_, rfl⟩, hW, hsame.mono hc hs⟩
theorem own_retA {x : MethodName} {S : Spec} {code : ByteArray} {mx : Nat} {rt : Option FieldType} {s₁ : State} {Q : Option Value → Heap → List Loc → Prop} {kc kn : Nat} (X : Stand p l e R s m args below meth c T locs cells slots) (hx : p.tables.exec = Jvm.exec) (Bd : BodyLoose p l x S code mx rt e s m args below meth c s₁) {pc : Nat} {Ls : Array Slot} {w : Value} {t : FieldType} {rest : List Value} (hret : meth.sig.returnType = some t) (ht : t.isReference = true) (hw : w.isRef = true) (hn : narrow t w = w)
    (hd : decode c.code pc = .ok (.areturn, 1)) (hQ : Q (some w) T.heap locs) (hc : cells ≤ kc) (hs : slots ≤ kn) : own_Fin p.tables e below (own_Post Q kc kn below s) (T.setTop (mkF m pc Ls (w :: rest))) := by
  obtain ⟨fs, hr, hrun, hended, hW, hsame⟩ := X.leave (v := some w) (fun h => by rw [hret] at h; cases h) Bd.notSynchronized
  exact ⟨_, _, retOut X hx hret hn (Or.inr (Or.inr (Or.inr (Or.inr ⟨rfl, ht, hw⟩)))) hd hr, hrun, hended, _, _, rfl, hQ, ⟨_, rfl⟩, hW, hsame.mono hc hs⟩
theorem own_ret0 {x : MethodName} {S : Spec} {code : ByteArray} {mx : Nat} {s₁ : State} {Q : Option Value → Heap → List Loc → Prop} {kc kn : Nat} (X : Stand p l e R s m args below meth c T locs cells slots) (hx : p.tables.exec = Jvm.exec) (Bd : BodyLoose p l x S code mx none e s m args below meth c s₁) {pc : Nat} {Ls : Array Slot}
    (hd : decode c.code pc = .ok (.return_, 1)) (hQ : Q none T.heap locs) (hc : cells ≤ kc) (hs : slots ≤ kn) : own_Fin p.tables e below (own_Post Q kc kn below s) (T.setTop (mkF m pc Ls [])) := by
  obtain ⟨fs, hr, hrun, hended, hW, hsame⟩ := X.leave (v := none) (fun _ => rfl) Bd.notSynchronized
  exact ⟨_, _, X.returnOut hx Bd.returns hd hr, hrun, hended, _, _, rfl, hQ, ⟨_, rfl⟩, hW, hsame.mono hc hs⟩
theorem own_alen {a : Addr} {k : ClassId} {ty : FieldType} {n : Int32} {vs : List Value} {d : Value} (X : Stand p l e R s m args below meth c T locs cells slots) (hx : p.tables.exec = Jvm.exec) (hZ : Z.Warmed39 s.vm) (eT : T.heap = h) (V : Arv Z h a k ty n vs d) {g : JFrame} (hg : g.method = m) {rest : List Value} (hs : g.stack = .ref a :: rest) (hd : decode c.code g.pc = .ok (.arraylength, 1)) (target : State)
    (q : Steps p.tables e below (T.setTop { g with pc := g.pc + 1, stack := .int n :: rest }) target) : Steps p.tables e below (T.setTop g) target := by
  obtain ⟨cl, A, -, S, M, -, -⟩ := V
  refine X.arraylength hx (by rw [eT]; exact A.1) (State.isArrayOf_alike hZ.alike A.2.1) hg hs hd _ ?_
  rw [len_of S M]; exact q
theorem own_laload {a : Addr} {k : ClassId} {n : Int32} {vs : List Value} {d : Value} (X : Stand p l e R s m args below meth c T locs cells slots) (hx : p.tables.exec = Jvm.exec) (hZ : Z.Warmed39 s.vm) (eT : T.heap = h) (V : Arv Z h a k .long n vs d) {j : Int32} (hj : ¬ j < 0 ∧ j < n) {v : Value} (hv : vs.getD j.toNatClampNeg d = v) {g : JFrame} (hg : g.method = m) {rest : List Value} (hs : g.stack = .int j :: .ref a :: rest) (hd : decode c.code g.pc = .ok (.laload, 1)) (target : State)
    (q : Steps p.tables e below (T.setTop { g with pc := g.pc + 1, stack := v :: rest }) target) : Steps p.tables e below (T.setTop g) target := by
  obtain ⟨cl, A, -, S, M, H, -⟩ := V
  exact X.laload hx (by rw [eT]; exact A.1) (State.isArrayOf_alike hZ.alike A.2.1) A.2.2 (inb_of S hj) (Has.at H (inb_of S hj) hv) hg hs hd _ q
theorem own_iaload {a : Addr} {k : ClassId} {n : Int32} {vs : List Value} {d : Value} (X : Stand p l e R s m args below meth c T locs cells slots) (hx : p.tables.exec = Jvm.exec) (hZ : Z.Warmed39 s.vm) (eT : T.heap = h) (V : Arv Z h a k .int n vs d) {j : Int32} (hj : ¬ j < 0 ∧ j < n) {v : Value} (hv : vs.getD j.toNatClampNeg d = v) {g : JFrame} (hg : g.method = m) {rest : List Value} (hs : g.stack = .int j :: .ref a :: rest) (hd : decode c.code g.pc = .ok (.iaload, 1)) (target : State)
    (q : Steps p.tables e below (T.setTop { g with pc := g.pc + 1, stack := v :: rest }) target) : Steps p.tables e below (T.setTop g) target := by
  obtain ⟨cl, A, -, S, M, H, -⟩ := V
  exact X.iaload hx (by rw [eT]; exact A.1) (State.isArrayOf_alike hZ.alike A.2.1) A.2.2 (inb_of S hj) (Has.at H (inb_of S hj) hv) hg hs hd _ q
theorem own_caload {a : Addr} {k : ClassId} {n : Int32} {vs : List Value} {d : Value} (X : Stand p l e R s m args below meth c T locs cells slots) (hx : p.tables.exec = Jvm.exec) (hZ : Z.Warmed39 s.vm) (eT : T.heap = h) (V : Arv Z h a k .char n vs d) {j : Int32} (hj : ¬ j < 0 ∧ j < n) {v : Value} (hv : vs.getD j.toNatClampNeg d = v) {g : JFrame} (hg : g.method = m) {rest : List Value} (hs : g.stack = .int j :: .ref a :: rest) (hd : decode c.code g.pc = .ok (.caload, 1)) (target : State)
    (q : Steps p.tables e below (T.setTop { g with pc := g.pc + 1, stack := v :: rest }) target) : Steps p.tables e below (T.setTop g) target := by
  obtain ⟨cl, A, -, S, M, H, -⟩ := V
  exact X.caload hx (by rw [eT]; exact A.1) (State.isArrayOf_alike hZ.alike A.2.1) A.2.2 (inb_of S hj) (Has.at H (inb_of S hj) hv) hg hs hd _ q
theorem own_baload {a : Addr} {k : ClassId} {n : Int32} {vs : List Value} {d : Value} (X : Stand p l e R s m args below meth c T locs cells slots) (hx : p.tables.exec = Jvm.exec) (hZ : Z.Warmed39 s.vm) (eT : T.heap = h) (V : Arv Z h a k .byte n vs d) {j : Int32} (hj : ¬ j < 0 ∧ j < n) {v : Value} (hv : vs.getD j.toNatClampNeg d = v) {g : JFrame} (hg : g.method = m) {rest : List Value} (hs : g.stack = .int j :: .ref a :: rest) (hd : decode c.code g.pc = .ok (.baload, 1)) (target : State)
    (q : Steps p.tables e below (T.setTop { g with pc := g.pc + 1, stack := v :: rest }) target) : Steps p.tables e below (T.setTop g) target := by
  obtain ⟨cl, A, -, S, M, H, -⟩ := V
  exact X.baloadBytes hx (by rw [eT]; exact A.1) (State.isArrayOf_alike hZ.alike A.2.1) A.2.2 (inb_of S hj) (Has.at H (inb_of S hj) hv) hg hs hd _ q
theorem own_aaload {a : Addr} {k : ClassId} {ty : FieldType} {n : Int32} {vs : List Value} {d : Value} (X : Stand p l e R s m args below meth c T locs cells slots) (hx : p.tables.exec = Jvm.exec) (hZ : Z.Warmed39 s.vm) (eT : T.heap = h) (V : Arv Z h a k ty n vs d) {j : Int32} (hj : ¬ j < 0 ∧ j < n) {v : Value} (hr : ty.isReference = true) (hv : vs.getD j.toNatClampNeg d = v) {g : JFrame} (hg : g.method = m) {rest : List Value} (hs : g.stack = .int j :: .ref a :: rest) (hd : decode c.code g.pc = .ok (.aaload, 1)) (target : State)
    (q : Steps p.tables e below (T.setTop { g with pc := g.pc + 1, stack := v :: rest }) target) : Steps p.tables e below (T.setTop g) target := by
  obtain ⟨cl, A, -, S, M, H, -⟩ := V
  exact X.aaload hx (by rw [eT]; exact A.1) (State.isArrayOf_alike hZ.alike A.2.1) hr A.2.2 (inb_of S hj) (Has.at H (inb_of S hj) hv) hg hs hd _ q
theorem own_stJ {a : Addr} {k : ClassId} {n : Int32} {vs : List Value} {d : Value} (X : Stand p l e R s m args below meth c T locs cells slots) (hx : p.tables.exec = Jvm.exec) (hZ : Z.Warmed39 s.vm) (eT : T.heap = h) (V : Arv Z h a k .long n vs d) {j : Int32} (hj : ¬ j < 0 ∧ j < n) {i : Nat} (hji : j.toNatClampNeg = i) (hi : i < vs.length) {x : Int64} {g : JFrame} (hg : g.method = m) {rest : List Value} (hs : g.stack = .long x :: .int j :: .ref a :: rest) (hd : decode c.code g.pc = .ok (.lastore, 1)) :
    ∃ T' h', Stand p l e R s m args below meth c T' (locs ++ [⟨a, j.toNatClampNeg⟩]) cells slots ∧ T'.heap = h' ∧ Wr h h' a j.toNatClampNeg (.long x) ∧ Arv Z h' a k .long n (vs.set i (.long x)) d ∧ ∀ target, Steps p.tables e below (T'.setTop { g with pc := g.pc + 1, stack := rest }) target → Steps p.tables e below (T.setTop g) target := by
  obtain ⟨cl, A, q1, S, M, H, G⟩ := V
  obtain ⟨T', h', X', e', W, st⟩ := stJ X hx hZ eT A (j := j) (inb_of S hj) hg hs hd
  exact ⟨T', h', X', e', W, Arv.set A q1 S M H G rfl W i hji hi, st⟩
theorem own_stC {a : Addr} {k : ClassId} {n : Int32} {vs : List Value} {d : Value} (X : Stand p l e R s m args below meth c T locs cells slots) (hx : p.tables.exec = Jvm.exec) (hZ : Z.Warmed39 s.vm) (eT : T.heap = h) (V : Arv Z h a k .char n vs d) {j : Int32} (hj : ¬ j < 0 ∧ j < n) {i : Nat} (hji : j.toNatClampNeg = i) (hi : i < vs.length) {x : Int32} {g : JFrame} (hg : g.method = m) {rest : List Value} (hs : g.stack = .int x :: .int j :: .ref a :: rest) (hd : decode c.code g.pc = .ok (.castore, 1)) :
    ∃ T' h', Stand p l e R s m args below meth c T' (locs ++ [⟨a, j.toNatClampNeg⟩]) cells slots ∧ T'.heap = h' ∧ Wr h h' a j.toNatClampNeg (.int (nar .char x)) ∧ Arv Z h' a k .char n (vs.set i (.int (nar .char x))) d ∧ ∀ target, Steps p.tables e below (T'.setTop { g with pc := g.pc + 1, stack := rest }) target → Steps p.tables e below (T.setTop g) target := by
  obtain ⟨cl, A, q1, S, M, H, G⟩ := V
  obtain ⟨T', h', X', e', W, st⟩ := stC X hx hZ eT A (j := j) (inb_of S hj) hg hs hd
  exact ⟨T', h', X', e', W, Arv.set A q1 S M H G (fits_nar_char _) W i hji hi, st⟩
theorem own_notface {C : String} {y z y' : MethodName} (hsel : (Jvm.Cond.selects C y z).before args s = true) (hc : y'.cls = z.cls) : NotFace s y' := fun r0 h0 => by
  obtain ⟨c2, r2, m2, q1, q2, q3, q4, kP, hkP, hkPi⟩ := Cond.selects_spec hsel
  have f1 := findClass_of_methodNamed h0
  have f2 := findClass_of_methodNamed q3
  rw [hc, f2] at f1
  rw [← Option.some.inj f1]
  exact ⟨kP, hkP, hkPi⟩
end OwnKit
section OwnKitS
variable {p : Program} {l : Launch} {e : Env} {R : Room} {s : State} {m : MethodId} {args : Array Value} {below : List Frame} {meth : Method} {c : Code} {T : State} {locs : List Loc} {cells slots : Nat} {Z : State} {h : Heap} {vm0 : Vm} {EL : List (String × Nat)} {a0 : Array Value}
def own_PostW (Z : State) (EL : List (String × Nat)) (Q : Option Value → Heap → List Loc → Prop) (k n : Nat) (below : List Frame) (U : State) (t : State) (o : Outcome) : Prop :=
  t.status = .running ∧ Ended t below o ∧ ∃ v L, o = .returned v ∧ Q v t.heap L ∧ CHr Z EL U.vm U.heap t.vm t.heap ∧ ReturnedEndW U o t L k n
theorem own_retW {x : MethodName} {S : Spec} {code : ByteArray} {mx : Nat} {rt : Option FieldType} {s₁ : State} {Q : Option Value → Heap → List Loc → Prop} {kc kn k0 : Nat} (X : Stand p l e R (s.setVm vm0) m args below meth c T locs cells slots) (hx : p.tables.exec = Jvm.exec) (Bd : BodyLoose p l x S code mx rt e s m args below meth c s₁) (hS : s.Since vm0 k0) (hk : k0 ≤ T.heap.size) {pc : Nat} {Ls : Array Slot} {w : Value} {t : FieldType} {i : Instr} {rest : List Value} (hret : meth.sig.returnType = some t) (hn : narrow t w = w)
    (hi : (i = .ireturn ∧ (t = .int ∨ t = .boolean ∨ t = .byte ∨ t = .char ∨ t = .short) ∧ ∃ z, w = .int z) ∨ (i = .lreturn ∧ t = .long ∧ ∃ z, w = .long z) ∨ (i = .dreturn ∧ t = .double ∧ ∃ z, w = .double z) ∨ (i = .freturn ∧ t = .float ∧ ∃ z, w = .float z) ∨ (i = .areturn ∧ t.isReference = true ∧ w.isRef = true))
    (hd : decode c.code pc = .ok (i, 1)) (hCR : CHr Z EL s.vm s.heap T.vm T.heap) (hQ : Q (some w) T.heap locs) (hc : cells ≤ kc) (hs : slots ≤ kn) : own_Fin p.tables e below (own_PostW Z EL Q kc kn below s) (T.setTop (mkF m pc Ls (w :: rest))) := by
  obtain ⟨fs, hr, hrun, hended, hW⟩ := X.leaveW hS hk (v := some w) (fun h => by rw [hret] at h; cases h) Bd.notSynchronized
  exact ⟨_, _, retOut X hx hret hn hi hd hr, hrun, hended, _, _, rfl, hQ, hCR, hW.1, hW.2.1, hW.2.2.1, hW.2.2.2.mono hc hs⟩
theorem own_retW0 {x : MethodName} {S : Spec} {code : ByteArray} {mx : Nat} {s₁ : State} {Q : Option Value → Heap → List Loc → Prop} {kc kn k0 : Nat} (X : Stand p l e R (s.setVm vm0) m args below meth c T locs cells slots) (hx : p.tables.exec = Jvm.exec) (Bd : BodyLoose p l x S code mx none e s m args below meth c s₁) (hS : s.Since vm0 k0) (hk : k0 ≤ T.heap.size) {pc : Nat} {Ls : Array Slot}
    (hd : decode c.code pc = .ok (.return_, 1)) (hCR : CHr Z EL s.vm s.heap T.vm T.heap) (hQ : Q none T.heap locs) (hc : cells ≤ kc) (hs : slots ≤ kn) : own_Fin p.tables e below (own_PostW Z EL Q kc kn below s) (T.setTop (mkF m pc Ls [])) := by
  obtain ⟨fs, hr, hrun, hended, hW⟩ := X.leaveW hS hk (v := none) (fun _ => rfl) Bd.notSynchronized
  exact ⟨_, _, X.returnOut hx Bd.returns hd hr, hrun, hended, _, _, rfl, hQ, hCR, hW.1, hW.2.1, hW.2.2.1, hW.2.2.2.mono hc hs⟩
end OwnKitS
theorem own_up (cs : List Int32) (h : ∀ c ∈ cs, ¬ c < 0 ∧ ¬ (255 : Int32) < c) : ∀ c ∈ cs, ¬ c < 0 ∧ ¬ (65535 : Int32) < c := fun c hc => ⟨(h c hc).1, fun q => (h c hc).2 (by rw [Int32.lt_iff_toInt_lt] at q ⊢; have e1 : (65535 : Int32).toInt = 65535 := rfl; have e2 : (255 : Int32).toInt = 255 := rfl; omega)⟩
theorem own_eqv {v : Option Value} {P : Prop} (h : (v = some (.int 1) ∧ P) ∨ (v = some (.int 0) ∧ ¬ P)) : ∃ z : Int32, v = some (.int z) ∧ ((z = 1 ∧ P) ∨ (z = 0 ∧ ¬ P)) := by
  rcases h with ⟨h1, h2⟩ | ⟨h1, h2⟩
  · exact ⟨1, h1, Or.inl ⟨rfl, h2⟩⟩
  · exact ⟨0, h1, Or.inr ⟨rfl, h2⟩⟩
def own_Str (Z : State) (h : Heap) (x t : Addr) (cs : List Int32) : Prop := ∃ (k : ClassId) (N cd : Int32) (vs : List Value), Exa Z h x "java/lang/String" ∧ Fld Z h x "java/lang/String" "value" "[B" (.ref t) ∧ Fld Z h x "java/lang/String" "coder" "B" (.int cd) ∧ Arv Z h t k .byte N vs (.int 0) ∧ StrChars.Road.CodA cs cd N vs ∧ (∀ c ∈ cs, ¬ c < 0 ∧ ¬ (65535 : Int32) < c) ∧ cs.length ≤ 4000
section OwnStr
variable {Z : State} {h h' : Heap} {x t a : Addr} {cs ds : List Int32} {sl : Nat} {v : Value} {ws : List Addr}
theorem own_Str.lt (F : own_Str Z h x t cs) : x < h.size := by obtain ⟨_, _, _, _, E, -⟩ := F; exact E.lt
theorem own_Str.ltt (F : own_Str Z h x t cs) : t < h.size := by obtain ⟨_, _, _, _, -, -, -, K, -⟩ := F; exact K.lt
theorem own_Str.exa (F : own_Str Z h x t cs) : Exa Z h x "java/lang/String" := by obtain ⟨_, _, _, _, E, -⟩ := F; exact E
theorem own_Str.ext (F : own_Str Z h x t cs) (E : Ext h h') : own_Str Z h' x t cs := by obtain ⟨k, N, cd, vs, f1, f2, f3, f4, r⟩ := F; exact ⟨k, N, cd, vs, f1.ext E, f2.ext E, f3.ext E, f4.ext E, r⟩
theorem own_Str.other (F : own_Str Z h x t cs) (W : Wr h h' a sl v) (n1 : x ≠ a) (n2 : t ≠ a) : own_Str Z h' x t cs := by obtain ⟨k, N, cd, vs, f1, f2, f3, f4, r⟩ := F; exact ⟨k, N, cd, vs, f1.wr W, f2.other W (Or.inl n1), f3.other W (Or.inl n1), f4.other W n2, r⟩
theorem own_Str.keep (F : own_Str Z h x t cs) (K : Keep h h' ws) (n1 : x ∉ ws) (n2 : t ∉ ws) : own_Str Z h' x t cs := by obtain ⟨k, N, cd, vs, f1, f2, f3, f4, r⟩ := F; exact ⟨k, N, cd, vs, f1.keep K, f2.keep K n1, f3.keep K n1, f4.keep K n2, r⟩
end OwnStr
theorem own_eqB {p : Program} {l : Launch} {e : Env} {R : Room} {s : State} {args : Array Value} {below : List Frame} {len W : Nat} {Z : State} {a0 : Array Value} {h : Heap} (hZ : Z.Warmed39 s.vm) (hw : ∀ d ∈ StrChars.Road.wordsEq, d.before a0 Z = true) (wi : (Jvm.Cond.instantiable "java/lang/String" 4).before a0 Z = true) {x t y t' : Addr} {cs ds : List Int32} {z : Int32} (A : own_Str Z h x t cs) (B : own_Str Z h y t' ds) (S : Sta Z h "java/lang/String" "COMPACT_STRINGS" "Z" (.int z)) (hz : ¬ z = 0) (hfr : 2 ≤ R.frames) (hlo : W + 28 ≤ R.locals) :
    Back l R p e below s args (⟨"java/lang/String", "equals", "(Ljava/lang/Object;)Z"⟩ : MethodName) len W (fun P a => a = #[.ref x, .ref y] ∧ P.U.heap = h ∧ P.cells + 0 ≤ R.cells ∧ P.slots + 0 ≤ R.slots)
      (fun P _ v B => ∃ L, (((v = some (.int 1) ∧ cs = ds) ∨ (v = some (.int 0) ∧ ¬ cs = ds)) ∧ L = [] ∧ B.U.heap = h) ∧ B.locs = P.locs ++ L ∧ B.cells = P.cells + 0 ∧ B.slots = P.slots + 0) := by
  obtain ⟨_, _, _, _, f1, f2, f3, f4, f5, f6, f7⟩ := A
  obtain ⟨_, _, _, _, g1, g2, g3, g4, g5, g6, g7⟩ := B
  exact StrChars.Road.eqW hZ hw wi f1 f2 f3 f4 f5 f6 f7 g1 g2 g3 g4 g5 g6 g7 S hz hfr hlo
theorem own_and255 (x : Int32) : ¬ (x &&& 255) < 0 ∧ ¬ (255 : Int32) < (x &&& 255) := by
  have t : ∀ k : Fin 256, ¬ (Int32.ofNat k.val) < 0 ∧ ¬ (255 : Int32) < Int32.ofNat k.val := by decide +kernel
  have h : (x &&& 255).toBitVec.toNat < 256 := by
    simp only [Int32.toBitVec_and, BitVec.toNat_and]
    exact Nat.lt_succ_of_le Nat.and_le_right
  have e : (x &&& 255) = Int32.ofNat (x &&& 255).toBitVec.toNat := by
    apply Int32.toBitVec_inj.mp
    show _ = BitVec.ofNat 32 _
    rw [BitVec.ofNat_toNat]; simp
  rw [e]
  exact t ⟨_, h⟩
theorem own_nar255 {x : Int32} : nar .char (x &&& 255) = x &&& 255 := i2c_mask x
theorem own_and_max (x : Int32) : 0 ≤ (x &&& 2147483647).toInt := by
  have e : (2147483647 : Int32).toBitVec.msb = false := by decide
  have h : (x &&& 2147483647).toBitVec.msb = false := by rw [Int32.toBitVec_and, BitVec.msb_and, e, Bool.and_false]
  have := BitVec.toInt_eq_toNat_of_msb h
  show 0 ≤ (x &&& 2147483647).toBitVec.toInt
  omega
theorem own_mod9 (x : Int32) : (x &&& 2147483647) % 9 = 0 ∨ (x &&& 2147483647) % 9 = 1 ∨ (x &&& 2147483647) % 9 = 2 ∨ (x &&& 2147483647) % 9 = 3 ∨ (x &&& 2147483647) % 9 = 4 ∨ (x &&& 2147483647) % 9 = 5 ∨ (x &&& 2147483647) % 9 = 6 ∨ (x &&& 2147483647) % 9 = 7 ∨ (x &&& 2147483647) % 9 = 8 := by
  have e : ((x &&& 2147483647) % 9).toInt = (x &&& 2147483647).toInt.tmod 9 := by rw [Int32.toInt_mod]; rfl
  have h0 := own_and_max x
  rw [Int.tmod_eq_emod_of_nonneg h0] at e
  simp only [← Int32.toInt_inj]
  have : (0 : Int32).toInt = 0 ∧ (1 : Int32).toInt = 1 ∧ (2 : Int32).toInt = 2 ∧ (3 : Int32).toInt = 3 ∧ (4 : Int32).toInt = 4 ∧ (5 : Int32).toInt = 5 ∧ (6 : Int32).toInt = 6 ∧ (7 : Int32).toInt = 7 ∧ (8 : Int32).toInt = 8 := by decide
  omega
theorem pn_0 : plainName "com/example/laminate/laminate/core/DefaultRegistry" = true := by first | (simp [plainName, overriddenIn]; done) | decide +kernel
theorem d7_0 : decode prog_8_method_4_code 0 = .ok (.aload_n 0, 1) := by decide +kernel
theorem d7_1 : decode prog_8_method_4_code 1 = .ok (.ldc 17, 2) := by decide +kernel
theorem d7_3 : decode prog_8_method_4_code 3 = .ok (.invokevirtual 11, 3) := by decide +kernel
theorem pd_1 : parseMethodDescriptor "(Ljava/lang/Object;)Z" = some ⟨[(.object "java/lang/Object")], some .boolean⟩ := by decide +kernel
theorem d7_6 : decode prog_8_method_4_code 6 = .ok (.ifCond .eq 8, 3) := by decide +kernel
theorem d7_14 : decode prog_8_method_4_code 14 = .ok (.aload_n 0, 1) := by decide +kernel
theorem d7_15 : decode prog_8_method_4_code 15 = .ok (.areturn, 1) := by decide +kernel
theorem d7_9 : decode prog_8_method_4_code 9 = .ok (.ldc 21, 2) := by decide +kernel
theorem d7_11 : decode prog_8_method_4_code 11 = .ok (.goto 4, 3) := by decide +kernel
theorem pn_2 : plainName "com/example/laminate/laminate/core/DefaultRegistryCredentialsKeyPinLaw" = true := by first | (simp [plainName, overriddenIn]; done) | decide +kernel
theorem pd_3 : parseMethodDescriptor "([C)V" = some ⟨[(.array .char)], none⟩ := by decide +kernel
theorem pd_4 : parseMethodDescriptor "(Ljava/lang/String;)Ljava/lang/String;" = some ⟨[(.object "java/lang/String")], some (.object "java/lang/String")⟩ := by decide +kernel
def Q_rm_ck (Z : State) (x : Addr) (t : Addr) (cs : List Int32) (gc : Int32) (h0 : Heap) (n0 : Nat) (v : Option Value) (h : Heap) (L : List Loc) : Prop := Fr n0 L ∧ Keep h0 h [] ∧ (cs = ([(100 : Int32), (111 : Int32), (99 : Int32), (107 : Int32), (101 : Int32), (114 : Int32), (46 : Int32), (105 : Int32), (111 : Int32)] : List Int32) → ∃ a b, v = some (.ref a) ∧ own_Str Z h a b ([(104 : Int32), (116 : Int32), (116 : Int32), (112 : Int32), (115 : Int32), (58 : Int32), (47 : Int32), (47 : Int32), (105 : Int32), (110 : Int32), (100 : Int32), (101 : Int32), (120 : Int32), (46 : Int32), (100 : Int32), (111 : Int32), (99 : Int32), (107 : Int32), (101 : Int32), (114 : Int32), (46 : Int32), (105 : Int32), (111 : Int32), (47 : Int32), (118 : Int32), (49 : Int32), (47 : Int32)] : List Int32)) ∧ (¬ cs = ([(100 : Int32), (111 : Int32), (99 : Int32), (107 : Int32), (101 : Int32), (114 : Int32), (46 : Int32), (105 : Int32), (111 : Int32)] : List Int32) → v = some (.ref x))
theorem ef_rm_ck (m : MethodId) (x : Addr) (t : Addr) (gc : Int32) : entryFrame m #[(.ref x)] 1 = mkF m 0 #[.val (.ref x)] [] := by first | (simp [entryFrame, mkF, argsToLocals, Value.category]; done) | rfl
set_option maxRecDepth 65536 in
set_option maxHeartbeats 40000000 in
theorem rm_ck (l : Launch) (Z : State) (a0 : Array Value) (hw : ∀ d ∈ tables_1, d.before a0 Z = true) (ws : List Jvm.Cond) (hEL : EW Z a0 consts_1) (x : Addr) (t : Addr) (cs : List Int32) (gc : Int32) (h0 : Heap) (n0 : Nat) (Z0 : n0 ≤ h0.size) (F_x : own_Str Z h0 x t cs) (S_C : Sta Z Z.heap "java/lang/String" "COMPACT_STRINGS" "Z" (.int gc)) (hcs : ¬ gc = 0) (O0 : Old Z n0 h0) :
    MetFree l (⟨"com/example/laminate/laminate/core/DefaultRegistry", "credentialsKey", "(Ljava/lang/String;)Ljava/lang/String;"⟩ : MethodName) (head1 (Jvm.Cond.code (⟨"com/example/laminate/laminate/core/DefaultRegistry", "credentialsKey", "(Ljava/lang/String;)Ljava/lang/String;"⟩ : MethodName) prog_8_method_4_code 1 (some (.object "java/lang/String")) :: ws) ({ frames := 2, cells := 4, slots := 152, locals := 28 } : Room)) (fun a_ U_ => a_ = #[(.ref x)] ∧ Z.Warmed39 U_.vm ∧ U_.heap = h0 ∧ CHv Z consts_1 U_.vm h0) (fun _ _ _ _ _ => True) (fun _ U_ o_ V_ => ∃ v_ L_, o_ = .returned v_ ∧ (Q_rm_ck Z x t cs gc h0 n0) v_ V_.heap L_ ∧ CHr Z consts_1 U_.vm U_.heap V_.vm V_.heap ∧ ReturnedEndW U_ o_ V_ L_ ({ frames := 2, cells := 4, slots := 152, locals := 28 } : Room).cells ({ frames := 2, cells := 4, slots := 152, locals := 28 } : Room).slots) := by
  refine MetFree.of_bodySF (plainFor_of_name pn_0) hisR ?_
  intro p e s m args below meth c s₁ Bd hml0 hP hK
  obtain ⟨rfl, hZ, hh, CH⟩ := hP
  have hx := Bd.exec
  have hby := Bd.bytes
  have hml : c.maxLocals = 1 := hml0
  have hown : s.vm.findClass "com/example/laminate/laminate/core/DefaultRegistry" = some m.cls := findClass_of_methodNamed Bd.named
  have hnm := (name_of_methodNamed Bd.named Bd.method).1
  have wS : ∀ a ∈ Bundle.stringAtoms, a.before a0 Z = true := fun d hd => hw d ((by decide +kernel : ∀ d ∈ Bundle.stringAtoms, d ∈ tables_1) d hd)
  have X0 : Stand p l e ({ frames := 2, cells := 4, slots := 152, locals := 28 } : Room) (s.setVm s.vm) m #[(.ref x)] below meth c s₁ [] 0 0 := Stand.of_body Bd
  have e0 : s₁.heap = h0 := by rw [← hh, Bd.state]; rfl
  have N0 := Fr.nil n0
  have K0 : Keep h0 h0 [] := Keep.refl _ _
  replace hZ : Z.Warmed39 (s.setVm s.vm).vm := hZ
  replace hown : (s.setVm s.vm).vm.findClass "com/example/laminate/laminate/core/DefaultRegistry" = some m.cls := hown
  have hS : s.Since s.vm h0.size := (State.WarmedH.refl s).since _
  have hk : h0.size ≤ h0.size := Nat.le_refl _
  have CR : CHr Z consts_1 s.vm h0 s.vm h0 := CHr.refl CH
  show own_Fin p.tables e below (own_PostW Z consts_1 (Q_rm_ck Z x t cs gc h0 n0) ({ frames := 2, cells := 4, slots := 152, locals := 28 } : Room).cells ({ frames := 2, cells := 4, slots := 152, locals := 28 } : Room).slots below s) _
  refine own_go (fun _ kk_ => castTop (ef_rm_ck m x t gc) kk_) ?_
  have heq : ∀ d ∈ StrChars.Road.wordsEq, d.before a0 Z = true := fun d hd => hw d ((by decide +kernel : ∀ d ∈ StrChars.Road.wordsEq, d ∈ tables_1) d hd)
  refine own_go (fun _ kk_ => XS.aloadN X0.here hx rfl (hb hby d7_0) rfl rfl kk_) ?_
  show own_Fin p.tables e below _ (s₁.setTop (mkF m 1 #[.val (.ref x)] [(.ref x)]))
  obtain ⟨a1, T1, h1, k1, tb1, kb1, X1, e1, E1, hS, hk, hZ, hown, EA1, FC1, FV1, VB1, -, -, CR1, -, NE1, st1⟩ := ldcCH X0 hx hZ hown (hw _ (List.mem_of_getElem? (i := 37) rfl)) wS e0 hS hk hEL (by decide) CH (vs := ((([(100 : Int32), (111 : Int32), (99 : Int32), (107 : Int32), (101 : Int32), (114 : Int32), (46 : Int32), (105 : Int32), (111 : Int32)] : List Int32).map (fun c => c.toInt8.toInt32)).map Value.int)) (z := (9 : Int32)) (by exact ⟨by decide, by decide⟩) (by decide) rfl (g := (mkF m 1 #[.val (.ref x)] [(.ref x)])) rfl (hb hby d7_1) (n := 36) (by decide) (by decide) (by decide) (by decide)
  replace CR := CR.trans CR1
  replace CH := CR1.1
  replace O0 := O0.ext E1
  replace F_x := F_x.ext E1
  have K2 := K0.ext E1
  have SS1 : own_Str Z h1 a1 tb1 ([(100 : Int32), (111 : Int32), (99 : Int32), (107 : Int32), (101 : Int32), (114 : Int32), (46 : Int32), (105 : Int32), (111 : Int32)] : List Int32) := ⟨_, _, _, _, EA1, FV1, FC1, VB1, StrChars.Road.codOf (n := 9) rfl (by decide), by decide, Nat.le_of_ble_eq_true rfl⟩
  refine own_go st1 ?_
  show own_Fin p.tables e below _ (T1.setTop (mkF m 3 #[.val (.ref x)] [(.ref a1), (.ref x)]))
  obtain ⟨cq3, kq3, qa3, qb3, qc3⟩ := isOf hZ e1 F_x.exa
  obtain ⟨_, _, ⟨T3, L3, k3, n3⟩, -, X3, ⟨Lc3, hQ3, l3, y3, z3⟩, st3⟩ := X1.virtualBack hx (y := (⟨"java/lang/String", "equals", "(Ljava/lang/Object;)Z"⟩ : MethodName)) (z := (⟨"java/lang/String", "equals", "(Ljava/lang/Object;)Z"⟩ : MethodName)) hown (mvT hZ (hw _ (List.mem_of_getElem? (i := 38) rfl))) (mvT hZ (hw _ (List.mem_of_getElem? (i := 39) rfl))) (own_notface (args := #[]) (mvT hZ (hw _ (List.mem_of_getElem? (i := 41) rfl))) rfl) (mvT hZ (hw _ (List.mem_of_getElem? (i := 41) rfl))) (mvT hZ (hw _ (List.mem_of_getElem? (i := 40) rfl))) (by decide) (own_eqB (W := 0) hZ heq (hw _ (List.mem_of_getElem? (i := 2) rfl)) F_x SS1 (S_C.ext O0.2) hcs (by decide) (by decide)) qa3 qc3 (g := (mkF m 3 #[.val (.ref x)] [(.ref a1), (.ref x)])) rfl (by rw [hml]; rfl) (Steps.refl _) (argsL := [(.ref a1)]) (rest := []) (lenOf pd_1 rfl) rfl (by show 2 * 0 + _ ≤ _; exact Nat.le_of_eq rfl) (hb hby d7_3) (fun _ _ => ⟨rfl, e1, (by decide : 2 + 0 ≤ _), (by decide : 40 + 0 ≤ _)⟩)
  dsimp only [Pt.U, Pt.locs, Pt.cells, Pt.slots] at X3 l3 y3 z3 st3 hQ3
  subst l3 y3 z3
  obtain ⟨hq3, rfl, e3⟩ := hQ3
  obtain ⟨z3, rfl, hz3⟩ := own_eqv hq3
  have N3 := Fr.app N0 (Fr.nil n0)
  refine own_go (fun _ kk_ => st3.trans kk_) ?_
  show own_Fin p.tables e below _ (T3.setTop (mkF m 6 #[.val (.ref x)] [(.int z3)]))
  by_cases hc4 : z3 = (0 : Int32)
  · skip
    refine own_go (fun _ kk_ => XS.ifYes X3.here hx rfl (pc0 := 6) (pc' := 14) rfl (hb hby d7_6) rfl ((if0 _ _).trans (teq hc4).1) (by decide) (by decide) kk_) ?_
    refine own_go (fun _ kk_ => XS.aloadN X3.here hx rfl (hb hby d7_14) rfl rfl kk_) ?_
    show own_Fin p.tables e below _ (T3.setTop (mkF m 15 #[.val (.ref x)] [(.ref x)]))
    have CRz : CHr Z consts_1 s.vm s.heap T3.vm T3.heap := by
      rw [hh, e3]
      exact CR.trans (CHv.at X3 hZ hEL CH)
    refine own_retW X3 hx Bd hS (show _ ≤ T3.heap.size by rw [e3]; exact hk) (t := (.object "java/lang/String")) Bd.returns rfl (Or.inr (Or.inr (Or.inr (Or.inr ⟨rfl, rfl, rfl⟩)))) (hb hby d7_15) CRz ?_ (by decide) (by decide)
    show (Q_rm_ck Z x t cs gc h0 n0) (some (.ref x)) T3.heap _
    rw [e3]
    refine ⟨N3, K2, fun q => ?_, fun q => ?_⟩
    · rcases hz3 with ⟨q1, q2⟩ | ⟨q1, q2⟩
      · rw [q1] at hc4; exact absurd hc4 (by decide)
      · exact absurd q q2
    · rfl
  · skip
    refine own_go (fun _ kk_ => XS.ifNo X3.here hx rfl (hb hby d7_6) rfl ((if0 _ _).trans (feq hc4).1) kk_) ?_
    show own_Fin p.tables e below _ (T3.setTop (mkF m 9 #[.val (.ref x)] []))
    obtain ⟨a5, T5, h5, k5, tb5, kb5, X5, e5, E5, hS, hk, hZ, hown, EA5, FC5, FV5, VB5, -, -, CR5, -, NE5, st5⟩ := ldcCH X3 hx hZ hown (hw _ (List.mem_of_getElem? (i := 48) rfl)) wS e3 hS hk hEL (by decide) CH (vs := ((([(104 : Int32), (116 : Int32), (116 : Int32), (112 : Int32), (115 : Int32), (58 : Int32), (47 : Int32), (47 : Int32), (105 : Int32), (110 : Int32), (100 : Int32), (101 : Int32), (120 : Int32), (46 : Int32), (100 : Int32), (111 : Int32), (99 : Int32), (107 : Int32), (101 : Int32), (114 : Int32), (46 : Int32), (105 : Int32), (111 : Int32), (47 : Int32), (118 : Int32), (49 : Int32), (47 : Int32)] : List Int32).map (fun c => c.toInt8.toInt32)).map Value.int)) (z := (27 : Int32)) (by exact ⟨by decide, by decide⟩) (by decide) rfl (g := (mkF m 9 #[.val (.ref x)] [])) rfl (hb hby d7_9) (n := 108) (by decide) (by decide) (by decide) (by decide)
    replace CR := CR.trans CR5
    replace CH := CR5.1
    replace O0 := O0.ext E5
    replace F_x := F_x.ext E5
    replace SS1 := SS1.ext E5
    have K6 := K2.ext E5
    have SS5 : own_Str Z h5 a5 tb5 ([(104 : Int32), (116 : Int32), (116 : Int32), (112 : Int32), (115 : Int32), (58 : Int32), (47 : Int32), (47 : Int32), (105 : Int32), (110 : Int32), (100 : Int32), (101 : Int32), (120 : Int32), (46 : Int32), (100 : Int32), (111 : Int32), (99 : Int32), (107 : Int32), (101 : Int32), (114 : Int32), (46 : Int32), (105 : Int32), (111 : Int32), (47 : Int32), (118 : Int32), (49 : Int32), (47 : Int32)] : List Int32) := ⟨_, _, _, _, EA5, FV5, FC5, VB5, StrChars.Road.codOf (n := 27) rfl (by decide), by decide, Nat.le_of_ble_eq_true rfl⟩
    refine own_go st5 ?_
    refine own_go (fun _ kk_ => XS.goto X5.here hx rfl (pc0 := 11) (pc' := 15) rfl (hb hby d7_11) (by decide) (by decide) kk_) ?_
    show own_Fin p.tables e below _ (T5.setTop (mkF m 15 #[.val (.ref x)] [(.ref a5)]))
    have CRz : CHr Z consts_1 s.vm s.heap T5.vm T5.heap := by
      rw [hh, e5]
      exact CR.trans (CHv.at X5 hZ hEL CH)
    refine own_retW X5 hx Bd hS (show _ ≤ T5.heap.size by rw [e5]; exact hk) (t := (.object "java/lang/String")) Bd.returns rfl (Or.inr (Or.inr (Or.inr (Or.inr ⟨rfl, rfl, rfl⟩)))) (hb hby d7_15) CRz ?_ (by decide) (by decide)
    show (Q_rm_ck Z x t cs gc h0 n0) (some (.ref a5)) T5.heap _
    rw [e5]
    refine ⟨N3, K6, fun q => ⟨_, _, rfl, SS5⟩, fun q => ?_⟩
    rcases hz3 with ⟨q1, q2⟩ | ⟨q1, q2⟩
    · exact absurd q2 q
    · exact absurd q1 hc4
def Q_rm_law (Z : State) (mode : Int32) (pos : Int32) (c0 : Int32) (c1 : Int32) (c2 : Int32) (gc : Int32) (h0 : Heap) (n0 : Nat) (v : Option Value) (h : Heap) (L : List Loc) : Prop := v = some (.int 1) ∧ Fr n0 L
theorem ef_rm_law (m : MethodId) (mode : Int32) (pos : Int32) (c0 : Int32) (c1 : Int32) (c2 : Int32) (gc : Int32) : entryFrame m #[(.int mode), (.int pos), (.int c0), (.int c1), (.int c2)] maxLocals = mkF m 0 #[.val (.int mode), .val (.int pos), .val (.int c0), .val (.int c1), .val (.int c2), .unset, .unset, .unset, .unset, .unset, .unset, .unset, .unset, .unset] [] := by first | (simp [entryFrame, mkF, argsToLocals, Value.category, maxLocals]; done) | rfl
set_option maxRecDepth 65536 in
set_option maxHeartbeats 40000000 in
theorem rm_law (l : Launch) (Z : State) (a0 : Array Value) (hw : ∀ d ∈ tables_1, d.before a0 Z = true) (ws : List Jvm.Cond) (hEL : EW Z a0 consts_1) (mode : Int32) (pos : Int32) (c0 : Int32) (c1 : Int32) (c2 : Int32) (gc : Int32) (h0 : Heap) (n0 : Nat) (Z0 : n0 ≤ h0.size) (S_C : Sta Z Z.heap "java/lang/String" "COMPACT_STRINGS" "Z" (.int gc)) (hcs : ¬ gc = 0) (O0 : Old Z n0 h0) :
    MetFree l x (head1 (Jvm.Cond.code x code maxLocals ret :: ws) room_1) (fun a_ U_ => a_ = #[(.int mode), (.int pos), (.int c0), (.int c1), (.int c2)] ∧ Z.Warmed39 U_.vm ∧ U_.heap = h0 ∧ CHv Z consts_1 U_.vm h0) (fun _ _ _ _ _ => True) (fun _ U_ o_ V_ => ∃ v_ L_, o_ = .returned v_ ∧ (Q_rm_law Z mode pos c0 c1 c2 gc h0 n0) v_ V_.heap L_ ∧ CHr Z consts_1 U_.vm U_.heap V_.vm V_.heap ∧ ReturnedEndW U_ o_ V_ L_ room_1.cells room_1.slots) := by
  refine MetFree.of_bodySF (plainFor_of_name pn_2) hisR ?_
  intro p e s m args below meth c s₁ Bd hml0 hP hK
  obtain ⟨rfl, hZ, hh, CH⟩ := hP
  have hx := Bd.exec
  have hby := Bd.bytes
  have hml : c.maxLocals = 14 := hml0
  have hown : s.vm.findClass "com/example/laminate/laminate/core/DefaultRegistryCredentialsKeyPinLaw" = some m.cls := findClass_of_methodNamed Bd.named
  have hnm := (name_of_methodNamed Bd.named Bd.method).1
  have wS : ∀ a ∈ Bundle.stringAtoms, a.before a0 Z = true := fun d hd => hw d ((by decide +kernel : ∀ d ∈ Bundle.stringAtoms, d ∈ tables_1) d hd)
  have X0 : Stand p l e room_1 (s.setVm s.vm) m #[(.int mode), (.int pos), (.int c0), (.int c1), (.int c2)] below meth c s₁ [] 0 0 := Stand.of_body Bd
  have e0 : s₁.heap = h0 := by rw [← hh, Bd.state]; rfl
  have N0 := Fr.nil n0
  have K0 : Keep h0 h0 [] := Keep.refl _ _
  replace hZ : Z.Warmed39 (s.setVm s.vm).vm := hZ
  replace hown : (s.setVm s.vm).vm.findClass "com/example/laminate/laminate/core/DefaultRegistryCredentialsKeyPinLaw" = some m.cls := hown
  have hS : s.Since s.vm h0.size := (State.WarmedH.refl s).since _
  have hk : h0.size ≤ h0.size := Nat.le_refl _
  have CR : CHr Z consts_1 s.vm h0 s.vm h0 := CHr.refl CH
  show own_Fin p.tables e below (own_PostW Z consts_1 (Q_rm_law Z mode pos c0 c1 c2 gc h0 n0) room_1.cells room_1.slots below s) _
  refine own_go (fun _ kk_ => castTop (ef_rm_law m mode pos c0 c1 c2 gc) kk_) ?_
  have hws : ∀ d ∈ StrChars.Road.words, d.before a0 Z = true := fun d hd => hw d ((by decide +kernel : ∀ d ∈ StrChars.Road.words, d ∈ tables_1) d hd)
  have heq : ∀ d ∈ StrChars.Road.wordsEq, d.before a0 Z = true := fun d hd => hw d ((by decide +kernel : ∀ d ∈ StrChars.Road.wordsEq, d ∈ tables_1) d hd)
  refine own_go (fun _ kk_ => XS.iloadN X0.here hx rfl (hb hby at_0) rfl kk_) ?_
  refine own_go (fun _ kk_ => XS.bipush X0.here hx rfl (hb hby at_1) kk_) ?_
  show own_Fin p.tables e below _ (s₁.setTop (mkF m 3 #[.val (.int mode), .val (.int pos), .val (.int c0), .val (.int c1), .val (.int c2), .unset, .unset, .unset, .unset, .unset, .unset, .unset, .unset, .unset] [(.int (7 : Int32)), (.int mode)]))
  refine own_go (fun _ kk_ => XS.iand X0.here hx rfl (hb hby at_3) rfl kk_) ?_
  refine own_go (fun _ kk_ => XS.istore X0.here hx rfl (hb hby at_4) rfl (l' := #[.val (.int mode), .val (.int pos), .val (.int c0), .val (.int c1), .val (.int c2), .val (.int (mode &&& (7 : Int32))), .unset, .unset, .unset, .unset, .unset, .unset, .unset, .unset]) rfl kk_) ?_
  refine own_go (fun _ kk_ => XS.iloadN X0.here hx rfl (hb hby at_6) rfl kk_) ?_
  refine own_go (fun _ kk_ => XS.sipush X0.here hx rfl (hb hby at_7) kk_) ?_
  show own_Fin p.tables e below _ (s₁.setTop (mkF m 10 #[.val (.int mode), .val (.int pos), .val (.int c0), .val (.int c1), .val (.int c2), .val (.int (mode &&& (7 : Int32))), .unset, .unset, .unset, .unset, .unset, .unset, .unset, .unset] [(.int (255 : Int32)), (.int c0)]))
  refine own_go (fun _ kk_ => XS.iand X0.here hx rfl (hb hby at_10) rfl kk_) ?_
  show own_Fin p.tables e below _ (s₁.setTop (mkF m 11 #[.val (.int mode), .val (.int pos), .val (.int c0), .val (.int c1), .val (.int c2), .val (.int (mode &&& (7 : Int32))), .unset, .unset, .unset, .unset, .unset, .unset, .unset, .unset] [(.int (c0 &&& (255 : Int32)))]))
  refine own_go (fun _ kk_ => XS.i2c X0.here hx rfl (hb hby at_11) rfl kk_) ?_
  rw [i2c_mask]
  refine own_go (fun _ kk_ => XS.istore X0.here hx rfl (hb hby at_12) rfl (l' := #[.val (.int mode), .val (.int pos), .val (.int c0), .val (.int c1), .val (.int c2), .val (.int (mode &&& (7 : Int32))), .val (.int (c0 &&& (255 : Int32))), .unset, .unset, .unset, .unset, .unset, .unset, .unset]) rfl kk_) ?_
  refine own_go (fun _ kk_ => XS.iloadN X0.here hx rfl (hb hby at_14) rfl kk_) ?_
  refine own_go (fun _ kk_ => XS.sipush X0.here hx rfl (hb hby at_15) kk_) ?_
  show own_Fin p.tables e below _ (s₁.setTop (mkF m 18 #[.val (.int mode), .val (.int pos), .val (.int c0), .val (.int c1), .val (.int c2), .val (.int (mode &&& (7 : Int32))), .val (.int (c0 &&& (255 : Int32))), .unset, .unset, .unset, .unset, .unset, .unset, .unset] [(.int (255 : Int32)), (.int c1)]))
  refine own_go (fun _ kk_ => XS.iand X0.here hx rfl (hb hby at_18) rfl kk_) ?_
  show own_Fin p.tables e below _ (s₁.setTop (mkF m 19 #[.val (.int mode), .val (.int pos), .val (.int c0), .val (.int c1), .val (.int c2), .val (.int (mode &&& (7 : Int32))), .val (.int (c0 &&& (255 : Int32))), .unset, .unset, .unset, .unset, .unset, .unset, .unset] [(.int (c1 &&& (255 : Int32)))]))
  refine own_go (fun _ kk_ => XS.i2c X0.here hx rfl (hb hby at_19) rfl kk_) ?_
  rw [i2c_mask]
  refine own_go (fun _ kk_ => XS.istore X0.here hx rfl (hb hby at_20) rfl (l' := #[.val (.int mode), .val (.int pos), .val (.int c0), .val (.int c1), .val (.int c2), .val (.int (mode &&& (7 : Int32))), .val (.int (c0 &&& (255 : Int32))), .val (.int (c1 &&& (255 : Int32))), .unset, .unset, .unset, .unset, .unset, .unset]) rfl kk_) ?_
  refine own_go (fun _ kk_ => XS.iload X0.here hx rfl (hb hby at_22) rfl kk_) ?_
  refine own_go (fun _ kk_ => XS.sipush X0.here hx rfl (hb hby at_24) kk_) ?_
  show own_Fin p.tables e below _ (s₁.setTop (mkF m 27 #[.val (.int mode), .val (.int pos), .val (.int c0), .val (.int c1), .val (.int c2), .val (.int (mode &&& (7 : Int32))), .val (.int (c0 &&& (255 : Int32))), .val (.int (c1 &&& (255 : Int32))), .unset, .unset, .unset, .unset, .unset, .unset] [(.int (255 : Int32)), (.int c2)]))
  refine own_go (fun _ kk_ => XS.iand X0.here hx rfl (hb hby at_27) rfl kk_) ?_
  show own_Fin p.tables e below _ (s₁.setTop (mkF m 28 #[.val (.int mode), .val (.int pos), .val (.int c0), .val (.int c1), .val (.int c2), .val (.int (mode &&& (7 : Int32))), .val (.int (c0 &&& (255 : Int32))), .val (.int (c1 &&& (255 : Int32))), .unset, .unset, .unset, .unset, .unset, .unset] [(.int (c2 &&& (255 : Int32)))]))
  refine own_go (fun _ kk_ => XS.i2c X0.here hx rfl (hb hby at_28) rfl kk_) ?_
  rw [i2c_mask]
  refine own_go (fun _ kk_ => XS.istore X0.here hx rfl (hb hby at_29) rfl (l' := #[.val (.int mode), .val (.int pos), .val (.int c0), .val (.int c1), .val (.int c2), .val (.int (mode &&& (7 : Int32))), .val (.int (c0 &&& (255 : Int32))), .val (.int (c1 &&& (255 : Int32))), .val (.int (c2 &&& (255 : Int32))), .unset, .unset, .unset, .unset, .unset]) rfl kk_) ?_
  refine own_go (fun _ kk_ => XS.bipush X0.here hx rfl (hb hby at_31) kk_) ?_
  show own_Fin p.tables e below _ (s₁.setTop (mkF m 33 #[.val (.int mode), .val (.int pos), .val (.int c0), .val (.int c1), .val (.int c2), .val (.int (mode &&& (7 : Int32))), .val (.int (c0 &&& (255 : Int32))), .val (.int (c1 &&& (255 : Int32))), .val (.int (c2 &&& (255 : Int32))), .unset, .unset, .unset, .unset, .unset] [(.int (9 : Int32))]))
  obtain ⟨T7, h7, k7, X7, e7, E7, A7, st7⟩ := newP X0 hx hZ (hw _ (List.mem_of_getElem? (i := 0) rfl)) e0 (g := (mkF m 33 #[.val (.int mode), .val (.int pos), .val (.int c0), .val (.int c1), .val (.int c2), .val (.int (mode &&& (7 : Int32))), .val (.int (c0 &&& (255 : Int32))), .val (.int (c1 &&& (255 : Int32))), .val (.int (c2 &&& (255 : Int32))), .unset, .unset, .unset, .unset, .unset] [(.int (9 : Int32))])) rfl (hb hby at_33) rfl (by decide) (cap := 9) (by decide) (by decide) (by decide) (by decide)
  obtain ⟨b7, g7⟩ : ∃ z, z = h0.size := ⟨_, rfl⟩
  rw [← g7] at A7 st7
  have sz_b7 : h0.size ≤ b7 := Nat.le_trans K0.1 (Nat.le_of_eq g7.symm)
  have g_b7 : n0 ≤ b7 := Nat.le_trans Z0 sz_b7
  have S_b7 := Safe.new (Z := Z) (EL := consts_1) (vm := s.vm) (Nat.le_of_eq g7.symm)
  replace S_b7 := Safe.ext E7 CH S_b7
  replace CR := CR.trans (CHr.ext E7 CH)
  replace CH := CH.ext E7
  replace hk := Nat.le_trans hk E7.1
  replace O0 := O0.ext E7
  have K8 := K0.ext E7
  have V7 : Arv Z h7 b7 k7 .char (9 : Int32) [(.int (0 : Int32)), (.int (0 : Int32)), (.int (0 : Int32)), (.int (0 : Int32)), (.int (0 : Int32)), (.int (0 : Int32)), (.int (0 : Int32)), (.int (0 : Int32)), (.int (0 : Int32))] (.int (0 : Int32)) := (Arv.new A7 (by decide)).pad (pad_rep [] (.int (0 : Int32)) 9)
  refine own_go st7 ?_
  refine own_go (fun _ kk_ => XS.dup X7.here hx rfl (hb hby at_35) rfl rfl kk_) ?_
  refine own_go (fun _ kk_ => XS.iconst X7.here hx rfl (hb hby at_36) kk_) ?_
  refine own_go (fun _ kk_ => XS.bipush X7.here hx rfl (hb hby at_37) kk_) ?_
  show own_Fin p.tables e below _ (T7.setTop (mkF m 39 #[.val (.int mode), .val (.int pos), .val (.int c0), .val (.int c1), .val (.int c2), .val (.int (mode &&& (7 : Int32))), .val (.int (c0 &&& (255 : Int32))), .val (.int (c1 &&& (255 : Int32))), .val (.int (c2 &&& (255 : Int32))), .unset, .unset, .unset, .unset, .unset] [(.int (100 : Int32)), (.int (0 : Int32)), (.ref b7), (.ref b7)]))
  obtain ⟨T9, h9, X9, e9, W9, V9, st9⟩ := own_stC X7 hx hZ e7 V7 (by decide) (i := 0) rfl (Nat.le_of_ble_eq_true rfl) (g := (mkF m 39 #[.val (.int mode), .val (.int pos), .val (.int c0), .val (.int c1), .val (.int c2), .val (.int (mode &&& (7 : Int32))), .val (.int (c0 &&& (255 : Int32))), .val (.int (c1 &&& (255 : Int32))), .val (.int (c2 &&& (255 : Int32))), .unset, .unset, .unset, .unset, .unset] [(.int (100 : Int32)), (.int (0 : Int32)), (.ref b7), (.ref b7)])) rfl rfl (hb hby at_39)
  replace V7 : Arv Z h9 b7 k7 .char (9 : Int32) [(.int (100 : Int32)), (.int (0 : Int32)), (.int (0 : Int32)), (.int (0 : Int32)), (.int (0 : Int32)), (.int (0 : Int32)), (.int (0 : Int32)), (.int (0 : Int32)), (.int (0 : Int32))] (.int (0 : Int32)) := V9
  have N9 := Fr.snoc X9 N0 g_b7
  refine own_go st9 ?_
  have sa10 := S_b7
  replace S_b7 := Safe.wr W9 sa10 CH S_b7
  replace CR := CR.trans (CHr.wr W9 sa10 CH)
  replace CH := CHv.wr W9 sa10 CH
  replace hk := Nat.le_trans hk (Keep.of_wr W9).1
  replace O0 := O0.wr W9 g_b7
  have K11 := K8.wr W9 (Or.inr sz_b7)
  refine own_go (fun _ kk_ => XS.dup X9.here hx rfl (hb hby at_40) rfl rfl kk_) ?_
  refine own_go (fun _ kk_ => XS.iconst X9.here hx rfl (hb hby at_41) kk_) ?_
  refine own_go (fun _ kk_ => XS.bipush X9.here hx rfl (hb hby at_42) kk_) ?_
  show own_Fin p.tables e below _ (T9.setTop (mkF m 44 #[.val (.int mode), .val (.int pos), .val (.int c0), .val (.int c1), .val (.int c2), .val (.int (mode &&& (7 : Int32))), .val (.int (c0 &&& (255 : Int32))), .val (.int (c1 &&& (255 : Int32))), .val (.int (c2 &&& (255 : Int32))), .unset, .unset, .unset, .unset, .unset] [(.int (111 : Int32)), (.int (1 : Int32)), (.ref b7), (.ref b7)]))
  obtain ⟨T12, h12, X12, e12, W12, V12, st12⟩ := own_stC X9 hx hZ e9 V7 (by decide) (i := 1) rfl (Nat.le_of_ble_eq_true rfl) (g := (mkF m 44 #[.val (.int mode), .val (.int pos), .val (.int c0), .val (.int c1), .val (.int c2), .val (.int (mode &&& (7 : Int32))), .val (.int (c0 &&& (255 : Int32))), .val (.int (c1 &&& (255 : Int32))), .val (.int (c2 &&& (255 : Int32))), .unset, .unset, .unset, .unset, .unset] [(.int (111 : Int32)), (.int (1 : Int32)), (.ref b7), (.ref b7)])) rfl rfl (hb hby at_44)
  replace V7 : Arv Z h12 b7 k7 .char (9 : Int32) [(.int (100 : Int32)), (.int (111 : Int32)), (.int (0 : Int32)), (.int (0 : Int32)), (.int (0 : Int32)), (.int (0 : Int32)), (.int (0 : Int32)), (.int (0 : Int32)), (.int (0 : Int32))] (.int (0 : Int32)) := V12
  have N12 := Fr.snoc X12 N9 g_b7
  refine own_go st12 ?_
  have sa13 := S_b7
  replace S_b7 := Safe.wr W12 sa13 CH S_b7
  replace CR := CR.trans (CHr.wr W12 sa13 CH)
  replace CH := CHv.wr W12 sa13 CH
  replace hk := Nat.le_trans hk (Keep.of_wr W12).1
  replace O0 := O0.wr W12 g_b7
  have K14 := K11.wr W12 (Or.inr sz_b7)
  refine own_go (fun _ kk_ => XS.dup X12.here hx rfl (hb hby at_45) rfl rfl kk_) ?_
  refine own_go (fun _ kk_ => XS.iconst X12.here hx rfl (hb hby at_46) kk_) ?_
  refine own_go (fun _ kk_ => XS.bipush X12.here hx rfl (hb hby at_47) kk_) ?_
  show own_Fin p.tables e below _ (T12.setTop (mkF m 49 #[.val (.int mode), .val (.int pos), .val (.int c0), .val (.int c1), .val (.int c2), .val (.int (mode &&& (7 : Int32))), .val (.int (c0 &&& (255 : Int32))), .val (.int (c1 &&& (255 : Int32))), .val (.int (c2 &&& (255 : Int32))), .unset, .unset, .unset, .unset, .unset] [(.int (99 : Int32)), (.int (2 : Int32)), (.ref b7), (.ref b7)]))
  obtain ⟨T15, h15, X15, e15, W15, V15, st15⟩ := own_stC X12 hx hZ e12 V7 (by decide) (i := 2) rfl (Nat.le_of_ble_eq_true rfl) (g := (mkF m 49 #[.val (.int mode), .val (.int pos), .val (.int c0), .val (.int c1), .val (.int c2), .val (.int (mode &&& (7 : Int32))), .val (.int (c0 &&& (255 : Int32))), .val (.int (c1 &&& (255 : Int32))), .val (.int (c2 &&& (255 : Int32))), .unset, .unset, .unset, .unset, .unset] [(.int (99 : Int32)), (.int (2 : Int32)), (.ref b7), (.ref b7)])) rfl rfl (hb hby at_49)
  replace V7 : Arv Z h15 b7 k7 .char (9 : Int32) [(.int (100 : Int32)), (.int (111 : Int32)), (.int (99 : Int32)), (.int (0 : Int32)), (.int (0 : Int32)), (.int (0 : Int32)), (.int (0 : Int32)), (.int (0 : Int32)), (.int (0 : Int32))] (.int (0 : Int32)) := V15
  have N15 := Fr.snoc X15 N12 g_b7
  refine own_go st15 ?_
  have sa16 := S_b7
  replace S_b7 := Safe.wr W15 sa16 CH S_b7
  replace CR := CR.trans (CHr.wr W15 sa16 CH)
  replace CH := CHv.wr W15 sa16 CH
  replace hk := Nat.le_trans hk (Keep.of_wr W15).1
  replace O0 := O0.wr W15 g_b7
  have K17 := K14.wr W15 (Or.inr sz_b7)
  refine own_go (fun _ kk_ => XS.dup X15.here hx rfl (hb hby at_50) rfl rfl kk_) ?_
  refine own_go (fun _ kk_ => XS.iconst X15.here hx rfl (hb hby at_51) kk_) ?_
  refine own_go (fun _ kk_ => XS.bipush X15.here hx rfl (hb hby at_52) kk_) ?_
  show own_Fin p.tables e below _ (T15.setTop (mkF m 54 #[.val (.int mode), .val (.int pos), .val (.int c0), .val (.int c1), .val (.int c2), .val (.int (mode &&& (7 : Int32))), .val (.int (c0 &&& (255 : Int32))), .val (.int (c1 &&& (255 : Int32))), .val (.int (c2 &&& (255 : Int32))), .unset, .unset, .unset, .unset, .unset] [(.int (107 : Int32)), (.int (3 : Int32)), (.ref b7), (.ref b7)]))
  obtain ⟨T18, h18, X18, e18, W18, V18, st18⟩ := own_stC X15 hx hZ e15 V7 (by decide) (i := 3) rfl (Nat.le_of_ble_eq_true rfl) (g := (mkF m 54 #[.val (.int mode), .val (.int pos), .val (.int c0), .val (.int c1), .val (.int c2), .val (.int (mode &&& (7 : Int32))), .val (.int (c0 &&& (255 : Int32))), .val (.int (c1 &&& (255 : Int32))), .val (.int (c2 &&& (255 : Int32))), .unset, .unset, .unset, .unset, .unset] [(.int (107 : Int32)), (.int (3 : Int32)), (.ref b7), (.ref b7)])) rfl rfl (hb hby at_54)
  replace V7 : Arv Z h18 b7 k7 .char (9 : Int32) [(.int (100 : Int32)), (.int (111 : Int32)), (.int (99 : Int32)), (.int (107 : Int32)), (.int (0 : Int32)), (.int (0 : Int32)), (.int (0 : Int32)), (.int (0 : Int32)), (.int (0 : Int32))] (.int (0 : Int32)) := V18
  have N18 := Fr.snoc X18 N15 g_b7
  refine own_go st18 ?_
  have sa19 := S_b7
  replace S_b7 := Safe.wr W18 sa19 CH S_b7
  replace CR := CR.trans (CHr.wr W18 sa19 CH)
  replace CH := CHv.wr W18 sa19 CH
  replace hk := Nat.le_trans hk (Keep.of_wr W18).1
  replace O0 := O0.wr W18 g_b7
  have K20 := K17.wr W18 (Or.inr sz_b7)
  refine own_go (fun _ kk_ => XS.dup X18.here hx rfl (hb hby at_55) rfl rfl kk_) ?_
  refine own_go (fun _ kk_ => XS.iconst X18.here hx rfl (hb hby at_56) kk_) ?_
  refine own_go (fun _ kk_ => XS.bipush X18.here hx rfl (hb hby at_57) kk_) ?_
  show own_Fin p.tables e below _ (T18.setTop (mkF m 59 #[.val (.int mode), .val (.int pos), .val (.int c0), .val (.int c1), .val (.int c2), .val (.int (mode &&& (7 : Int32))), .val (.int (c0 &&& (255 : Int32))), .val (.int (c1 &&& (255 : Int32))), .val (.int (c2 &&& (255 : Int32))), .unset, .unset, .unset, .unset, .unset] [(.int (101 : Int32)), (.int (4 : Int32)), (.ref b7), (.ref b7)]))
  obtain ⟨T21, h21, X21, e21, W21, V21, st21⟩ := own_stC X18 hx hZ e18 V7 (by decide) (i := 4) rfl (Nat.le_of_ble_eq_true rfl) (g := (mkF m 59 #[.val (.int mode), .val (.int pos), .val (.int c0), .val (.int c1), .val (.int c2), .val (.int (mode &&& (7 : Int32))), .val (.int (c0 &&& (255 : Int32))), .val (.int (c1 &&& (255 : Int32))), .val (.int (c2 &&& (255 : Int32))), .unset, .unset, .unset, .unset, .unset] [(.int (101 : Int32)), (.int (4 : Int32)), (.ref b7), (.ref b7)])) rfl rfl (hb hby at_59)
  replace V7 : Arv Z h21 b7 k7 .char (9 : Int32) [(.int (100 : Int32)), (.int (111 : Int32)), (.int (99 : Int32)), (.int (107 : Int32)), (.int (101 : Int32)), (.int (0 : Int32)), (.int (0 : Int32)), (.int (0 : Int32)), (.int (0 : Int32))] (.int (0 : Int32)) := V21
  have N21 := Fr.snoc X21 N18 g_b7
  refine own_go st21 ?_
  have sa22 := S_b7
  replace S_b7 := Safe.wr W21 sa22 CH S_b7
  replace CR := CR.trans (CHr.wr W21 sa22 CH)
  replace CH := CHv.wr W21 sa22 CH
  replace hk := Nat.le_trans hk (Keep.of_wr W21).1
  replace O0 := O0.wr W21 g_b7
  have K23 := K20.wr W21 (Or.inr sz_b7)
  refine own_go (fun _ kk_ => XS.dup X21.here hx rfl (hb hby at_60) rfl rfl kk_) ?_
  refine own_go (fun _ kk_ => XS.iconst X21.here hx rfl (hb hby at_61) kk_) ?_
  refine own_go (fun _ kk_ => XS.bipush X21.here hx rfl (hb hby at_62) kk_) ?_
  show own_Fin p.tables e below _ (T21.setTop (mkF m 64 #[.val (.int mode), .val (.int pos), .val (.int c0), .val (.int c1), .val (.int c2), .val (.int (mode &&& (7 : Int32))), .val (.int (c0 &&& (255 : Int32))), .val (.int (c1 &&& (255 : Int32))), .val (.int (c2 &&& (255 : Int32))), .unset, .unset, .unset, .unset, .unset] [(.int (114 : Int32)), (.int (5 : Int32)), (.ref b7), (.ref b7)]))
  obtain ⟨T24, h24, X24, e24, W24, V24, st24⟩ := own_stC X21 hx hZ e21 V7 (by decide) (i := 5) rfl (Nat.le_of_ble_eq_true rfl) (g := (mkF m 64 #[.val (.int mode), .val (.int pos), .val (.int c0), .val (.int c1), .val (.int c2), .val (.int (mode &&& (7 : Int32))), .val (.int (c0 &&& (255 : Int32))), .val (.int (c1 &&& (255 : Int32))), .val (.int (c2 &&& (255 : Int32))), .unset, .unset, .unset, .unset, .unset] [(.int (114 : Int32)), (.int (5 : Int32)), (.ref b7), (.ref b7)])) rfl rfl (hb hby at_64)
  replace V7 : Arv Z h24 b7 k7 .char (9 : Int32) [(.int (100 : Int32)), (.int (111 : Int32)), (.int (99 : Int32)), (.int (107 : Int32)), (.int (101 : Int32)), (.int (114 : Int32)), (.int (0 : Int32)), (.int (0 : Int32)), (.int (0 : Int32))] (.int (0 : Int32)) := V24
  have N24 := Fr.snoc X24 N21 g_b7
  refine own_go st24 ?_
  have sa25 := S_b7
  replace S_b7 := Safe.wr W24 sa25 CH S_b7
  replace CR := CR.trans (CHr.wr W24 sa25 CH)
  replace CH := CHv.wr W24 sa25 CH
  replace hk := Nat.le_trans hk (Keep.of_wr W24).1
  replace O0 := O0.wr W24 g_b7
  have K26 := K23.wr W24 (Or.inr sz_b7)
  refine own_go (fun _ kk_ => XS.dup X24.here hx rfl (hb hby at_65) rfl rfl kk_) ?_
  refine own_go (fun _ kk_ => XS.bipush X24.here hx rfl (hb hby at_66) kk_) ?_
  refine own_go (fun _ kk_ => XS.bipush X24.here hx rfl (hb hby at_68) kk_) ?_
  show own_Fin p.tables e below _ (T24.setTop (mkF m 70 #[.val (.int mode), .val (.int pos), .val (.int c0), .val (.int c1), .val (.int c2), .val (.int (mode &&& (7 : Int32))), .val (.int (c0 &&& (255 : Int32))), .val (.int (c1 &&& (255 : Int32))), .val (.int (c2 &&& (255 : Int32))), .unset, .unset, .unset, .unset, .unset] [(.int (46 : Int32)), (.int (6 : Int32)), (.ref b7), (.ref b7)]))
  obtain ⟨T27, h27, X27, e27, W27, V27, st27⟩ := own_stC X24 hx hZ e24 V7 (by decide) (i := 6) rfl (Nat.le_of_ble_eq_true rfl) (g := (mkF m 70 #[.val (.int mode), .val (.int pos), .val (.int c0), .val (.int c1), .val (.int c2), .val (.int (mode &&& (7 : Int32))), .val (.int (c0 &&& (255 : Int32))), .val (.int (c1 &&& (255 : Int32))), .val (.int (c2 &&& (255 : Int32))), .unset, .unset, .unset, .unset, .unset] [(.int (46 : Int32)), (.int (6 : Int32)), (.ref b7), (.ref b7)])) rfl rfl (hb hby at_70)
  replace V7 : Arv Z h27 b7 k7 .char (9 : Int32) [(.int (100 : Int32)), (.int (111 : Int32)), (.int (99 : Int32)), (.int (107 : Int32)), (.int (101 : Int32)), (.int (114 : Int32)), (.int (46 : Int32)), (.int (0 : Int32)), (.int (0 : Int32))] (.int (0 : Int32)) := V27
  have N27 := Fr.snoc X27 N24 g_b7
  refine own_go st27 ?_
  have sa28 := S_b7
  replace S_b7 := Safe.wr W27 sa28 CH S_b7
  replace CR := CR.trans (CHr.wr W27 sa28 CH)
  replace CH := CHv.wr W27 sa28 CH
  replace hk := Nat.le_trans hk (Keep.of_wr W27).1
  replace O0 := O0.wr W27 g_b7
  have K29 := K26.wr W27 (Or.inr sz_b7)
  refine own_go (fun _ kk_ => XS.dup X27.here hx rfl (hb hby at_71) rfl rfl kk_) ?_
  refine own_go (fun _ kk_ => XS.bipush X27.here hx rfl (hb hby at_72) kk_) ?_
  refine own_go (fun _ kk_ => XS.bipush X27.here hx rfl (hb hby at_74) kk_) ?_
  show own_Fin p.tables e below _ (T27.setTop (mkF m 76 #[.val (.int mode), .val (.int pos), .val (.int c0), .val (.int c1), .val (.int c2), .val (.int (mode &&& (7 : Int32))), .val (.int (c0 &&& (255 : Int32))), .val (.int (c1 &&& (255 : Int32))), .val (.int (c2 &&& (255 : Int32))), .unset, .unset, .unset, .unset, .unset] [(.int (105 : Int32)), (.int (7 : Int32)), (.ref b7), (.ref b7)]))
  obtain ⟨T30, h30, X30, e30, W30, V30, st30⟩ := own_stC X27 hx hZ e27 V7 (by decide) (i := 7) rfl (Nat.le_of_ble_eq_true rfl) (g := (mkF m 76 #[.val (.int mode), .val (.int pos), .val (.int c0), .val (.int c1), .val (.int c2), .val (.int (mode &&& (7 : Int32))), .val (.int (c0 &&& (255 : Int32))), .val (.int (c1 &&& (255 : Int32))), .val (.int (c2 &&& (255 : Int32))), .unset, .unset, .unset, .unset, .unset] [(.int (105 : Int32)), (.int (7 : Int32)), (.ref b7), (.ref b7)])) rfl rfl (hb hby at_76)
  replace V7 : Arv Z h30 b7 k7 .char (9 : Int32) [(.int (100 : Int32)), (.int (111 : Int32)), (.int (99 : Int32)), (.int (107 : Int32)), (.int (101 : Int32)), (.int (114 : Int32)), (.int (46 : Int32)), (.int (105 : Int32)), (.int (0 : Int32))] (.int (0 : Int32)) := V30
  have N30 := Fr.snoc X30 N27 g_b7
  refine own_go st30 ?_
  have sa31 := S_b7
  replace S_b7 := Safe.wr W30 sa31 CH S_b7
  replace CR := CR.trans (CHr.wr W30 sa31 CH)
  replace CH := CHv.wr W30 sa31 CH
  replace hk := Nat.le_trans hk (Keep.of_wr W30).1
  replace O0 := O0.wr W30 g_b7
  have K32 := K29.wr W30 (Or.inr sz_b7)
  refine own_go (fun _ kk_ => XS.dup X30.here hx rfl (hb hby at_77) rfl rfl kk_) ?_
  refine own_go (fun _ kk_ => XS.bipush X30.here hx rfl (hb hby at_78) kk_) ?_
  refine own_go (fun _ kk_ => XS.bipush X30.here hx rfl (hb hby at_80) kk_) ?_
  show own_Fin p.tables e below _ (T30.setTop (mkF m 82 #[.val (.int mode), .val (.int pos), .val (.int c0), .val (.int c1), .val (.int c2), .val (.int (mode &&& (7 : Int32))), .val (.int (c0 &&& (255 : Int32))), .val (.int (c1 &&& (255 : Int32))), .val (.int (c2 &&& (255 : Int32))), .unset, .unset, .unset, .unset, .unset] [(.int (111 : Int32)), (.int (8 : Int32)), (.ref b7), (.ref b7)]))
  obtain ⟨T33, h33, X33, e33, W33, V33, st33⟩ := own_stC X30 hx hZ e30 V7 (by decide) (i := 8) rfl (Nat.le_of_ble_eq_true rfl) (g := (mkF m 82 #[.val (.int mode), .val (.int pos), .val (.int c0), .val (.int c1), .val (.int c2), .val (.int (mode &&& (7 : Int32))), .val (.int (c0 &&& (255 : Int32))), .val (.int (c1 &&& (255 : Int32))), .val (.int (c2 &&& (255 : Int32))), .unset, .unset, .unset, .unset, .unset] [(.int (111 : Int32)), (.int (8 : Int32)), (.ref b7), (.ref b7)])) rfl rfl (hb hby at_82)
  replace V7 : Arv Z h33 b7 k7 .char (9 : Int32) [(.int (100 : Int32)), (.int (111 : Int32)), (.int (99 : Int32)), (.int (107 : Int32)), (.int (101 : Int32)), (.int (114 : Int32)), (.int (46 : Int32)), (.int (105 : Int32)), (.int (111 : Int32))] (.int (0 : Int32)) := V33
  have N33 := Fr.snoc X33 N30 g_b7
  refine own_go st33 ?_
  have sa34 := S_b7
  replace S_b7 := Safe.wr W33 sa34 CH S_b7
  replace CR := CR.trans (CHr.wr W33 sa34 CH)
  replace CH := CHv.wr W33 sa34 CH
  replace hk := Nat.le_trans hk (Keep.of_wr W33).1
  replace O0 := O0.wr W33 g_b7
  have K35 := K32.wr W33 (Or.inr sz_b7)
  refine own_go (fun _ kk_ => XS.astore X33.here hx rfl (hb hby at_83) rfl rfl (l' := #[.val (.int mode), .val (.int pos), .val (.int c0), .val (.int c1), .val (.int c2), .val (.int (mode &&& (7 : Int32))), .val (.int (c0 &&& (255 : Int32))), .val (.int (c1 &&& (255 : Int32))), .val (.int (c2 &&& (255 : Int32))), .val (.ref b7), .unset, .unset, .unset, .unset]) rfl kk_) ?_
  refine own_go (fun _ kk_ => XS.iload X33.here hx rfl (hb hby at_85) rfl kk_) ?_
  show own_Fin p.tables e below _ (T33.setTop (mkF m 87 #[.val (.int mode), .val (.int pos), .val (.int c0), .val (.int c1), .val (.int c2), .val (.int (mode &&& (7 : Int32))), .val (.int (c0 &&& (255 : Int32))), .val (.int (c1 &&& (255 : Int32))), .val (.int (c2 &&& (255 : Int32))), .val (.ref b7), .unset, .unset, .unset, .unset] [(.int (mode &&& (7 : Int32)))]))
  by_cases hc36 : (mode &&& (7 : Int32)) = (0 : Int32)
  · skip
    refine own_go (fun _ kk_ => XS.ifNo X33.here hx rfl (hb hby at_87) rfl ((if0 _ _).trans (teq hc36).2) kk_) ?_
    show own_Fin p.tables e below _ (T33.setTop (mkF m 90 #[.val (.int mode), .val (.int pos), .val (.int c0), .val (.int c1), .val (.int c2), .val (.int (mode &&& (7 : Int32))), .val (.int (c0 &&& (255 : Int32))), .val (.int (c1 &&& (255 : Int32))), .val (.int (c2 &&& (255 : Int32))), .val (.ref b7), .unset, .unset, .unset, .unset] []))
    obtain ⟨T37, h37, X37, e37, E37, A37, D37, -, st37⟩ := newO X33 hx hZ hown (hw _ (List.mem_of_getElem? (i := 1) rfl)) (hw _ (List.mem_of_getElem? (i := 2) rfl)) (hw _ (List.mem_of_getElem? (i := 3) rfl)) e33 (g := (mkF m 90 #[.val (.int mode), .val (.int pos), .val (.int c0), .val (.int c1), .val (.int c2), .val (.int (mode &&& (7 : Int32))), .val (.int (c0 &&& (255 : Int32))), .val (.int (c1 &&& (255 : Int32))), .val (.int (c2 &&& (255 : Int32))), .val (.ref b7), .unset, .unset, .unset, .unset] [])) rfl (hb hby at_90) (by decide) (by decide)
    obtain ⟨b37, g37⟩ : ∃ z, z = h33.size := ⟨_, rfl⟩
    rw [← g37] at A37 D37 st37
    have sz_b37 : h0.size ≤ b37 := Nat.le_trans K35.1 (Nat.le_of_eq g37.symm)
    have g_b37 : n0 ≤ b37 := Nat.le_trans Z0 sz_b37
    have ne38 : b7 ≠ b37 := Nat.ne_of_lt (Nat.lt_of_lt_of_le V7.lt (Nat.le_of_eq g37.symm))
    have S_b37 := Safe.new (Z := Z) (EL := consts_1) (vm := s.vm) (Nat.le_of_eq g37.symm)
    replace S_b7 := Safe.ext E37 CH S_b7
    replace S_b37 := Safe.ext E37 CH S_b37
    replace CR := CR.trans (CHr.ext E37 CH)
    replace CH := CH.ext E37
    replace hk := Nat.le_trans hk E37.1
    replace O0 := O0.ext E37
    replace V7 := V7.ext E37
    have K39 := K35.ext E37
    have F37_coder : Fld Z h37 b37 "java/lang/String" "coder" "B" (.int (0 : Int32)) := D37 (Or.inr (hw _ (List.mem_of_getElem? (i := 27) rfl))) (ty := .byte) (by decide)
    have F37_value : Fld Z h37 b37 "java/lang/String" "value" "[B" .null := D37 (Or.inr (hw _ (List.mem_of_getElem? (i := 29) rfl))) (ty := (.array .byte)) (by decide)
    refine own_go st37 ?_
    refine own_go (fun _ kk_ => XS.dup X37.here hx rfl (hb hby at_93) rfl rfl kk_) ?_
    refine own_go (fun _ kk_ => XS.aload X37.here hx rfl (hb hby at_94) rfl rfl kk_) ?_
    show own_Fin p.tables e below _ (T37.setTop (mkF m 96 #[.val (.int mode), .val (.int pos), .val (.int c0), .val (.int c1), .val (.int c2), .val (.int (mode &&& (7 : Int32))), .val (.int (c0 &&& (255 : Int32))), .val (.int (c1 &&& (255 : Int32))), .val (.int (c2 &&& (255 : Int32))), .val (.ref b7), .unset, .unset, .unset, .unset] [(.ref b7), (.ref b37), (.ref b37)]))
    have hp41 : ∀ c ∈ ([(100 : Int32), (111 : Int32), (99 : Int32), (107 : Int32), (101 : Int32), (114 : Int32), (46 : Int32), (105 : Int32), (111 : Int32)] : List Int32), ¬ c < 0 ∧ ¬ (255 : Int32) < c := by
      intro c hc
      simp only [List.mem_cons, List.not_mem_nil, or_false] at hc
      rcases hc with rfl | rfl | rfl | rfl | rfl | rfl | rfl | rfl | rfl
      · exact by decide
      · exact by decide
      · exact by decide
      · exact by decide
      · exact by decide
      · exact by decide
      · exact by decide
      · exact by decide
      · exact by decide
    obtain ⟨_, _, ⟨T40, L40, k40, n40⟩, -, X40, ⟨Lc40, hQ40, l40, y40, z40⟩, st40⟩ := X37.specialBack hx (y := (⟨"java/lang/String", "<init>", "([C)V"⟩ : MethodName)) rfl hown (mvT hZ (hw _ (List.mem_of_getElem? (i := 4) rfl))) (mvT hZ (hw _ (List.mem_of_getElem? (i := 5) rfl))) (mvT hZ (hw _ (List.mem_of_getElem? (i := 6) rfl))) (by decide) (StrChars.Road.backV (W := 1) hZ hws (kI := 4) (hw _ (List.mem_of_getElem? (i := 2) rfl)) (cs := ([(100 : Int32), (111 : Int32), (99 : Int32), (107 : Int32), (101 : Int32), (114 : Int32), (46 : Int32), (105 : Int32), (111 : Int32)] : List Int32)) (bs := (([(100 : Int32), (111 : Int32), (99 : Int32), (107 : Int32), (101 : Int32), (114 : Int32), (46 : Int32), (105 : Int32), (111 : Int32)] : List Int32)).map (fun c => c.toInt8.toInt32)) (n := 9) g_b37 (Nat.le_trans Z0 K39.1) A37 F37_value F37_coder V7 (S_C.ext O0.2) hcs rfl rfl (by decide) (by decide) hp41 rfl (by decide) (by decide)) (g := (mkF m 96 #[.val (.int mode), .val (.int pos), .val (.int c0), .val (.int c1), .val (.int c2), .val (.int (mode &&& (7 : Int32))), .val (.int (c0 &&& (255 : Int32))), .val (.int (c1 &&& (255 : Int32))), .val (.int (c2 &&& (255 : Int32))), .val (.ref b7), .unset, .unset, .unset, .unset] [(.ref b7), (.ref b37), (.ref b37)])) rfl (by rw [hml]; rfl) (Steps.refl _) (a := b37) (argsL := [(.ref b7)]) (rest := [(.ref b37)]) (lenOf pd_3 rfl) rfl (by show 2 * 0 + _ ≤ _; exact Nat.le_of_eq rfl) (hb hby at_96) (fun _ _ => ⟨rfl, e37, (by decide : 2 + 1 ≤ _), (by decide : 13 + 9 ≤ _)⟩)
    dsimp only [Pt.U, Pt.locs, Pt.cells, Pt.slots] at X40 l40 y40 z40 st40 hQ40
    subst l40 y40 z40
    obtain ⟨rfl, N40q, KK40, EE40, FC40, t40, kb40, gt40, szt40, netx40, FV40, VV40⟩ := hQ40
    have N40 := Fr.app N33 N40q
    have SS40 : own_Str Z T40.heap b37 t40 ([(100 : Int32), (111 : Int32), (99 : Int32), (107 : Int32), (101 : Int32), (114 : Int32), (46 : Int32), (105 : Int32), (111 : Int32)] : List Int32) := ⟨_, _, _, _, EE40, FV40, FC40, VV40, StrChars.Road.codOf (n := 9) rfl (fun c hc => (hp41 c hc).2), own_up _ hp41, Nat.le_of_ble_eq_true rfl⟩
    have sz_t40 : h0.size ≤ t40 := Nat.le_trans K39.1 szt40
    have ne42 : b7 ≠ t40 := Nat.ne_of_lt (Nat.lt_of_lt_of_le V7.lt szt40)
    have ne43 : b37 ≠ t40 := Nat.ne_of_lt (Nat.lt_of_lt_of_le A37.lt szt40)
    have S_t40 := Safe.new (Z := Z) (EL := consts_1) (vm := s.vm) szt40
    have hs44 : ∀ x ∈ [b37], Safe Z consts_1 s.vm h37 x := (sfS S_b37 sf0)
    replace S_b7 := Safe.keep KK40 hs44 CH S_b7
    replace S_b37 := Safe.keep KK40 hs44 CH S_b37
    replace S_t40 := Safe.keep KK40 hs44 CH S_t40
    replace CR := CR.trans (CHr.keep KK40 hs44 CH)
    replace CH := CHv.keep KK40 hs44 CH
    replace hk := Nat.le_trans hk KK40.1
    replace O0 := O0.keep KK40 (allS g_b37 (all0))
    replace V7 := V7.keep KK40 (ninS ne38 nin0)
    replace A37 := A37.keep KK40
    have K45 := K39.trans KK40 (allS (Or.inr sz_b37) all0)
    refine own_go (fun _ kk_ => st40.trans kk_) ?_
    refine own_go (fun _ kk_ => XS.astore X40.here hx rfl (hb hby at_99) rfl rfl (l' := #[.val (.int mode), .val (.int pos), .val (.int c0), .val (.int c1), .val (.int c2), .val (.int (mode &&& (7 : Int32))), .val (.int (c0 &&& (255 : Int32))), .val (.int (c1 &&& (255 : Int32))), .val (.int (c2 &&& (255 : Int32))), .val (.ref b7), .val (.ref b37), .unset, .unset, .unset]) rfl kk_) ?_
    refine own_go (fun _ kk_ => XS.iconst X40.here hx rfl (hb hby at_101) kk_) ?_
    refine own_go (fun _ kk_ => XS.istore X40.here hx rfl (hb hby at_102) rfl (l' := #[.val (.int mode), .val (.int pos), .val (.int c0), .val (.int c1), .val (.int c2), .val (.int (mode &&& (7 : Int32))), .val (.int (c0 &&& (255 : Int32))), .val (.int (c1 &&& (255 : Int32))), .val (.int (c2 &&& (255 : Int32))), .val (.ref b7), .val (.ref b37), .val (.int (1 : Int32)), .unset, .unset]) rfl kk_) ?_
    refine own_go (fun _ kk_ => XS.goto X40.here hx rfl (pc0 := 104) (pc' := 397) rfl (hb hby at_104) (by decide) (by decide) kk_) ?_
    refine own_go (fun _ kk_ => XS.iload X40.here hx rfl (hb hby at_397) rfl kk_) ?_
    show own_Fin p.tables e below _ (T40.setTop (mkF m 399 #[.val (.int mode), .val (.int pos), .val (.int c0), .val (.int c1), .val (.int c2), .val (.int (mode &&& (7 : Int32))), .val (.int (c0 &&& (255 : Int32))), .val (.int (c1 &&& (255 : Int32))), .val (.int (c2 &&& (255 : Int32))), .val (.ref b7), .val (.ref b37), .val (.int (1 : Int32)), .unset, .unset] [(.int (1 : Int32))]))
    refine own_go (fun _ kk_ => XS.ifNo X40.here hx rfl (hb hby at_399) rfl ((if0 _ _).trans (feq (by decide : ¬ (1 : Int32) = (0 : Int32))).1) kk_) ?_
    show own_Fin p.tables e below _ (T40.setTop (mkF m 402 #[.val (.int mode), .val (.int pos), .val (.int c0), .val (.int c1), .val (.int c2), .val (.int (mode &&& (7 : Int32))), .val (.int (c0 &&& (255 : Int32))), .val (.int (c1 &&& (255 : Int32))), .val (.int (c2 &&& (255 : Int32))), .val (.ref b7), .val (.ref b37), .val (.int (1 : Int32)), .unset, .unset] []))
    obtain ⟨a46, T46, h46, k46, tb46, kb46, X46, e46, E46, hS, hk, hZ, hown, EA46, FC46, FV46, VB46, -, -, CR46, -, NE46, st46⟩ := ldcCH X40 hx hZ hown (hw _ (List.mem_of_getElem? (i := 30) rfl)) wS rfl hS hk hEL (by decide) CH (vs := ((([(104 : Int32), (116 : Int32), (116 : Int32), (112 : Int32), (115 : Int32), (58 : Int32), (47 : Int32), (47 : Int32), (105 : Int32), (110 : Int32), (100 : Int32), (101 : Int32), (120 : Int32), (46 : Int32), (100 : Int32), (111 : Int32), (99 : Int32), (107 : Int32), (101 : Int32), (114 : Int32), (46 : Int32), (105 : Int32), (111 : Int32), (47 : Int32), (118 : Int32), (49 : Int32), (47 : Int32)] : List Int32).map (fun c => c.toInt8.toInt32)).map Value.int)) (z := (27 : Int32)) (by exact ⟨by decide, by decide⟩) (by decide) rfl (g := (mkF m 402 #[.val (.int mode), .val (.int pos), .val (.int c0), .val (.int c1), .val (.int c2), .val (.int (mode &&& (7 : Int32))), .val (.int (c0 &&& (255 : Int32))), .val (.int (c1 &&& (255 : Int32))), .val (.int (c2 &&& (255 : Int32))), .val (.ref b7), .val (.ref b37), .val (.int (1 : Int32)), .unset, .unset] [])) rfl (hb hby at_402) (n := 108) (by decide) (by decide) (by decide) (by decide)
    replace S_b7 := CR46.safe V7.lt S_b7
    replace S_b37 := CR46.safe SS40.lt S_b37
    replace S_t40 := CR46.safe SS40.ltt S_t40
    replace CR := CR.trans CR46
    replace CH := CR46.1
    replace O0 := O0.ext E46
    replace V7 := V7.ext E46
    replace SS40 := SS40.ext E46
    have K47 := K45.ext E46
    have ne48 : b7 ≠ a46 := (NE46 _ S_b7).1
    have ne49 : b7 ≠ tb46 := (NE46 _ S_b7).2
    have ne50 : b37 ≠ a46 := (NE46 _ S_b37).1
    have ne51 : b37 ≠ tb46 := (NE46 _ S_b37).2
    have ne52 : t40 ≠ a46 := (NE46 _ S_t40).1
    have ne53 : t40 ≠ tb46 := (NE46 _ S_t40).2
    have SS46 : own_Str Z h46 a46 tb46 ([(104 : Int32), (116 : Int32), (116 : Int32), (112 : Int32), (115 : Int32), (58 : Int32), (47 : Int32), (47 : Int32), (105 : Int32), (110 : Int32), (100 : Int32), (101 : Int32), (120 : Int32), (46 : Int32), (100 : Int32), (111 : Int32), (99 : Int32), (107 : Int32), (101 : Int32), (114 : Int32), (46 : Int32), (105 : Int32), (111 : Int32), (47 : Int32), (118 : Int32), (49 : Int32), (47 : Int32)] : List Int32) := ⟨_, _, _, _, EA46, FV46, FC46, VB46, StrChars.Road.codOf (n := 27) rfl (by decide), by decide, Nat.le_of_ble_eq_true rfl⟩
    refine own_go st46 ?_
    refine own_go (fun _ kk_ => XS.goto X46.here hx rfl (pc0 := 404) (pc' := 409) rfl (hb hby at_404) (by decide) (by decide) kk_) ?_
    refine own_go (fun _ kk_ => XS.astore X46.here hx rfl (hb hby at_409) rfl rfl (l' := #[.val (.int mode), .val (.int pos), .val (.int c0), .val (.int c1), .val (.int c2), .val (.int (mode &&& (7 : Int32))), .val (.int (c0 &&& (255 : Int32))), .val (.int (c1 &&& (255 : Int32))), .val (.int (c2 &&& (255 : Int32))), .val (.ref b7), .val (.ref b37), .val (.int (1 : Int32)), .val (.ref a46), .unset]) rfl kk_) ?_
    refine own_go (fun _ kk_ => XS.aload X46.here hx rfl (hb hby at_411) rfl rfl kk_) ?_
    show own_Fin p.tables e below _ (T46.setTop (mkF m 413 #[.val (.int mode), .val (.int pos), .val (.int c0), .val (.int c1), .val (.int c2), .val (.int (mode &&& (7 : Int32))), .val (.int (c0 &&& (255 : Int32))), .val (.int (c1 &&& (255 : Int32))), .val (.int (c2 &&& (255 : Int32))), .val (.ref b7), .val (.ref b37), .val (.int (1 : Int32)), .val (.ref a46), .unset] [(.ref b37)]))
    obtain ⟨_, _, ⟨T54, L54, k54, n54⟩, -, X54, hSn54, hgr54, ⟨Lc54, hQ54, l54, y54, z54, CR54⟩, st54⟩ := callSS X46 hx (y := (⟨"com/example/laminate/laminate/core/DefaultRegistry", "credentialsKey", "(Ljava/lang/String;)Ljava/lang/String;"⟩ : MethodName)) hown (mvT hZ (hw _ (List.mem_of_getElem? (i := 33) rfl))) (mvT hZ (hw _ (List.mem_of_getElem? (i := 34) rfl))) (mvT hZ (hw _ (List.mem_of_getElem? (i := 35) rfl))) (mvT hZ (hw _ (List.mem_of_getElem? (i := 36) rfl))) (by decide) (backOfSH (s := s) (W := 0) (rm_ck l Z a0 hw [] hEL b37 t40 ([(100 : Int32), (111 : Int32), (99 : Int32), (107 : Int32), (101 : Int32), (114 : Int32), (46 : Int32), (105 : Int32), (111 : Int32)] : List Int32) gc h46 n0 (Nat.le_trans Z0 K47.1) SS40 S_C hcs O0) hZ (hw _ (List.mem_of_getElem? (i := 36) rfl)) (hw _ (List.mem_of_getElem? (i := 35) rfl)) (by decide) (by decide) hEL CH) (g := (mkF m 413 #[.val (.int mode), .val (.int pos), .val (.int c0), .val (.int c1), .val (.int c2), .val (.int (mode &&& (7 : Int32))), .val (.int (c0 &&& (255 : Int32))), .val (.int (c1 &&& (255 : Int32))), .val (.int (c2 &&& (255 : Int32))), .val (.ref b7), .val (.ref b37), .val (.int (1 : Int32)), .val (.ref a46), .unset] [(.ref b37)])) rfl (by rw [hml]; rfl) (argsL := [(.ref b37)]) (rest := []) (lenOf pd_4 rfl) rfl (by show 2 * 0 + _ ≤ _; exact Nat.le_of_eq rfl) (hb hby at_413) (fun _ _ => ⟨rfl, e46, (by decide : 5 + 4 ≤ _), (by decide : 134 + 152 ≤ _)⟩)
    dsimp only [Pt.U, Pt.locs, Pt.cells, Pt.slots] at X54 l54 y54 z54 st54 hQ54 hSn54 hgr54 CR54
    subst l54 y54 z54
    replace hS := foldS hS (show _ ≤ T46.heap.size by rw [e46]; exact hk) hSn54 hgr54
    replace hk : T54.heap.size ≤ T54.heap.size := Nat.le_refl _
    replace hZ : Z.Warmed39 (s.setVm T54.vm).vm := State.Warmed39.trans (t := s.setVm T46.vm) hZ hSn54.1
    replace hown : (s.setVm T54.vm).vm.findClass "com/example/laminate/laminate/core/DefaultRegistryCredentialsKeyPinLaw" = some m.cls := by rw [show (s.setVm T54.vm).vm = T54.vm from rfl, hSn54.1.alike.findClass]; exact hown
    replace X54 : Stand p l e room_1 (s.setVm T54.vm) m #[(.int mode), (.int pos), (.int c0), (.int c1), (.int c2)] below meth c T54 _ _ _ := X54
    replace S_b7 := CR54.safe V7.lt S_b7
    replace S_b37 := CR54.safe SS40.lt S_b37
    replace S_t40 := CR54.safe SS40.ltt S_t40
    replace CR := CR.trans CR54
    replace CH := CR54.1
    obtain ⟨N54q, KK54, hy54, hn54⟩ := hQ54
    have N54 := Fr.app N40 N54q
    obtain ⟨ra54, rb54, rfl, SR54⟩ := hy54 rfl
    replace O0 := O0.keep KK54 all0
    replace V7 := V7.keep KK54 nin0
    replace SS40 := SS40.keep KK54 nin0 nin0
    replace SS46 := SS46.keep KK54 nin0 nin0
    have K55 := K47.trans KK54 all0
    refine own_go (fun _ kk_ => st54.trans kk_) ?_
    refine own_go (fun _ kk_ => XS.astore X54.here hx rfl (hb hby at_416) rfl rfl (l' := #[.val (.int mode), .val (.int pos), .val (.int c0), .val (.int c1), .val (.int c2), .val (.int (mode &&& (7 : Int32))), .val (.int (c0 &&& (255 : Int32))), .val (.int (c1 &&& (255 : Int32))), .val (.int (c2 &&& (255 : Int32))), .val (.ref b7), .val (.ref b37), .val (.int (1 : Int32)), .val (.ref a46), .val (.ref ra54)]) rfl kk_) ?_
    refine own_go (fun _ kk_ => XS.aload X54.here hx rfl (hb hby at_418) rfl rfl kk_) ?_
    refine own_go (fun _ kk_ => XS.aload X54.here hx rfl (hb hby at_420) rfl rfl kk_) ?_
    show own_Fin p.tables e below _ (T54.setTop (mkF m 422 #[.val (.int mode), .val (.int pos), .val (.int c0), .val (.int c1), .val (.int c2), .val (.int (mode &&& (7 : Int32))), .val (.int (c0 &&& (255 : Int32))), .val (.int (c1 &&& (255 : Int32))), .val (.int (c2 &&& (255 : Int32))), .val (.ref b7), .val (.ref b37), .val (.int (1 : Int32)), .val (.ref a46), .val (.ref ra54)] [(.ref ra54), (.ref a46)]))
    obtain ⟨cq56, kq56, qa56, qb56, qc56⟩ := isOf hZ rfl SS46.exa
    obtain ⟨_, _, ⟨T56, L56, k56, n56⟩, -, X56, ⟨Lc56, hQ56, l56, y56, z56⟩, st56⟩ := X54.virtualBack hx (y := (⟨"java/lang/String", "equals", "(Ljava/lang/Object;)Z"⟩ : MethodName)) (z := (⟨"java/lang/String", "equals", "(Ljava/lang/Object;)Z"⟩ : MethodName)) hown (mvT hZ (hw _ (List.mem_of_getElem? (i := 49) rfl))) (mvT hZ (hw _ (List.mem_of_getElem? (i := 39) rfl))) (own_notface (args := #[]) (mvT hZ (hw _ (List.mem_of_getElem? (i := 41) rfl))) rfl) (mvT hZ (hw _ (List.mem_of_getElem? (i := 41) rfl))) (mvT hZ (hw _ (List.mem_of_getElem? (i := 40) rfl))) (by decide) (own_eqB (W := 0) hZ heq (hw _ (List.mem_of_getElem? (i := 2) rfl)) SS46 SR54 (S_C.ext O0.2) hcs (by decide) (by decide)) qa56 qc56 (g := (mkF m 422 #[.val (.int mode), .val (.int pos), .val (.int c0), .val (.int c1), .val (.int c2), .val (.int (mode &&& (7 : Int32))), .val (.int (c0 &&& (255 : Int32))), .val (.int (c1 &&& (255 : Int32))), .val (.int (c2 &&& (255 : Int32))), .val (.ref b7), .val (.ref b37), .val (.int (1 : Int32)), .val (.ref a46), .val (.ref ra54)] [(.ref ra54), (.ref a46)])) rfl (by rw [hml]; rfl) (Steps.refl _) (argsL := [(.ref ra54)]) (rest := []) (lenOf pd_1 rfl) rfl (by show 2 * 0 + _ ≤ _; exact Nat.le_of_eq rfl) (hb hby at_422) (fun _ _ => ⟨rfl, rfl, (by decide : 9 + 0 ≤ _), (by decide : 286 + 0 ≤ _)⟩)
    dsimp only [Pt.U, Pt.locs, Pt.cells, Pt.slots] at X56 l56 y56 z56 st56 hQ56
    subst l56 y56 z56
    obtain ⟨hq56, rfl, e56⟩ := hQ56
    obtain ⟨z56, rfl, hz56⟩ := own_eqv hq56
    have N56 := Fr.app N54 (Fr.nil n0)
    obtain rfl : z56 = 1 := hz56.elim (fun q => q.1) (fun q => absurd rfl q.2)
    refine own_go (fun _ kk_ => st56.trans kk_) ?_
    show own_Fin p.tables e below _ (T56.setTop (mkF m 425 #[.val (.int mode), .val (.int pos), .val (.int c0), .val (.int c1), .val (.int c2), .val (.int (mode &&& (7 : Int32))), .val (.int (c0 &&& (255 : Int32))), .val (.int (c1 &&& (255 : Int32))), .val (.int (c2 &&& (255 : Int32))), .val (.ref b7), .val (.ref b37), .val (.int (1 : Int32)), .val (.ref a46), .val (.ref ra54)] [(.int (1 : Int32))]))
    have CRz : CHr Z consts_1 s.vm s.heap T56.vm T56.heap := by
      rw [hh, e56]
      exact CR.trans (CHv.at X56 hZ hEL CH)
    refine own_retW X56 hx Bd hS (show _ ≤ T56.heap.size by rw [e56]; exact hk) (t := .boolean) Bd.returns rfl (Or.inl ⟨rfl, by simp, _, rfl⟩) (hb hby at_425) CRz ?_ (by decide) (by decide)
    show (Q_rm_law Z mode pos c0 c1 c2 gc h0 n0) (some (.int (1 : Int32))) T56.heap _
    rw [e56]
    exact ⟨rfl, N56⟩
  · skip
    refine own_go (fun _ kk_ => XS.ifYes X33.here hx rfl (pc0 := 87) (pc' := 107) rfl (hb hby at_87) rfl ((if0 _ _).trans (feq hc36).2) (by decide) (by decide) kk_) ?_
    refine own_go (fun _ kk_ => XS.iload X33.here hx rfl (hb hby at_107) rfl kk_) ?_
    refine own_go (fun _ kk_ => XS.iconst X33.here hx rfl (hb hby at_109) kk_) ?_
    show own_Fin p.tables e below _ (T33.setTop (mkF m 110 #[.val (.int mode), .val (.int pos), .val (.int c0), .val (.int c1), .val (.int c2), .val (.int (mode &&& (7 : Int32))), .val (.int (c0 &&& (255 : Int32))), .val (.int (c1 &&& (255 : Int32))), .val (.int (c2 &&& (255 : Int32))), .val (.ref b7), .unset, .unset, .unset, .unset] [(.int (1 : Int32)), (.int (mode &&& (7 : Int32)))]))
    by_cases hc57 : (mode &&& (7 : Int32)) = (1 : Int32)
    · skip
      refine own_go (fun _ kk_ => XS.icmpNo X33.here hx rfl (hb hby at_110) rfl (teq hc57).2 kk_) ?_
      refine own_go (fun _ kk_ => XS.iloadN X33.here hx rfl (hb hby at_113) rfl kk_) ?_
      show own_Fin p.tables e below _ (T33.setTop (mkF m 114 #[.val (.int mode), .val (.int pos), .val (.int c0), .val (.int c1), .val (.int c2), .val (.int (mode &&& (7 : Int32))), .val (.int (c0 &&& (255 : Int32))), .val (.int (c1 &&& (255 : Int32))), .val (.int (c2 &&& (255 : Int32))), .val (.ref b7), .unset, .unset, .unset, .unset] [(.int pos)]))
      refine own_go (fun _ kk_ => Jvm.Stand.ldcI X33 hx hown (mvT hZ (hw _ (List.mem_of_getElem? (i := 53) rfl))) (g := (mkF m 114 #[.val (.int mode), .val (.int pos), .val (.int c0), .val (.int c1), .val (.int c2), .val (.int (mode &&& (7 : Int32))), .val (.int (c0 &&& (255 : Int32))), .val (.int (c1 &&& (255 : Int32))), .val (.int (c2 &&& (255 : Int32))), .val (.ref b7), .unset, .unset, .unset, .unset] [(.int pos)])) rfl (hb hby at_114) kk_) ?_
      show own_Fin p.tables e below _ (T33.setTop (mkF m 116 #[.val (.int mode), .val (.int pos), .val (.int c0), .val (.int c1), .val (.int c2), .val (.int (mode &&& (7 : Int32))), .val (.int (c0 &&& (255 : Int32))), .val (.int (c1 &&& (255 : Int32))), .val (.int (c2 &&& (255 : Int32))), .val (.ref b7), .unset, .unset, .unset, .unset] [(.int (2147483647 : Int32)), (.int pos)]))
      refine own_go (fun _ kk_ => XS.iand X33.here hx rfl (hb hby at_116) rfl kk_) ?_
      refine own_go (fun _ kk_ => XS.bipush X33.here hx rfl (hb hby at_117) kk_) ?_
      show own_Fin p.tables e below _ (T33.setTop (mkF m 119 #[.val (.int mode), .val (.int pos), .val (.int c0), .val (.int c1), .val (.int c2), .val (.int (mode &&& (7 : Int32))), .val (.int (c0 &&& (255 : Int32))), .val (.int (c1 &&& (255 : Int32))), .val (.int (c2 &&& (255 : Int32))), .val (.ref b7), .unset, .unset, .unset, .unset] [(.int (9 : Int32)), (.int (pos &&& (2147483647 : Int32)))]))
      refine own_go (fun _ kk_ => iremM X33 hx rfl  (hb hby at_119) rfl (by decide) kk_) ?_
      refine own_go (fun _ kk_ => XS.istore X33.here hx rfl (hb hby at_120) rfl (l' := #[.val (.int mode), .val (.int pos), .val (.int c0), .val (.int c1), .val (.int c2), .val (.int (mode &&& (7 : Int32))), .val (.int (c0 &&& (255 : Int32))), .val (.int (c1 &&& (255 : Int32))), .val (.int (c2 &&& (255 : Int32))), .val (.ref b7), .unset, .unset, .val (.int ((pos &&& (2147483647 : Int32)) % (9 : Int32))), .unset]) rfl kk_) ?_
      show own_Fin p.tables e below _ (T33.setTop (mkF m 122 #[.val (.int mode), .val (.int pos), .val (.int c0), .val (.int c1), .val (.int c2), .val (.int (mode &&& (7 : Int32))), .val (.int (c0 &&& (255 : Int32))), .val (.int (c1 &&& (255 : Int32))), .val (.int (c2 &&& (255 : Int32))), .val (.ref b7), .unset, .unset, .val (.int ((pos &&& (2147483647 : Int32)) % (9 : Int32))), .unset] []))
      rcases own_mod9 pos with hs9 | hs9 | hs9 | hs9 | hs9 | hs9 | hs9 | hs9 | hs9
      · skip
        show own_Fin p.tables e below _ (T33.setTop (mkF m 122 #[.val (.int mode), .val (.int pos), .val (.int c0), .val (.int c1), .val (.int c2), .val (.int (mode &&& (7 : Int32))), .val (.int (c0 &&& (255 : Int32))), .val (.int (c1 &&& (255 : Int32))), .val (.int (c2 &&& (255 : Int32))), .val (.ref b7), .unset, .unset, .val (.int ((pos &&& (2147483647 : Int32)) % (9 : Int32))), .unset] []))
        rw [hs9]
        refine own_go (fun _ kk_ => XS.aload X33.here hx rfl (hb hby at_122) rfl rfl kk_) ?_
        refine own_go (fun _ kk_ => XS.iload X33.here hx rfl (hb hby at_124) rfl kk_) ?_
        show own_Fin p.tables e below _ (T33.setTop (mkF m 126 #[.val (.int mode), .val (.int pos), .val (.int c0), .val (.int c1), .val (.int c2), .val (.int (mode &&& (7 : Int32))), .val (.int (c0 &&& (255 : Int32))), .val (.int (c1 &&& (255 : Int32))), .val (.int (c2 &&& (255 : Int32))), .val (.ref b7), .unset, .unset, .val (.int (0 : Int32)), .unset] [(.int (0 : Int32)), (.ref b7)]))
        refine own_go (fun _ kk_ => own_caload X33 hx hZ e33 V7 (by decide) (v := (.int (100 : Int32))) (rfl) (g := (mkF m 126 #[.val (.int mode), .val (.int pos), .val (.int c0), .val (.int c1), .val (.int c2), .val (.int (mode &&& (7 : Int32))), .val (.int (c0 &&& (255 : Int32))), .val (.int (c1 &&& (255 : Int32))), .val (.int (c2 &&& (255 : Int32))), .val (.ref b7), .unset, .unset, .val (.int (0 : Int32)), .unset] [(.int (0 : Int32)), (.ref b7)])) rfl rfl (hb hby at_126) _ kk_) ?_
        refine own_go (fun _ kk_ => XS.iload X33.here hx rfl (hb hby at_127) rfl kk_) ?_
        show own_Fin p.tables e below _ (T33.setTop (mkF m 129 #[.val (.int mode), .val (.int pos), .val (.int c0), .val (.int c1), .val (.int c2), .val (.int (mode &&& (7 : Int32))), .val (.int (c0 &&& (255 : Int32))), .val (.int (c1 &&& (255 : Int32))), .val (.int (c2 &&& (255 : Int32))), .val (.ref b7), .unset, .unset, .val (.int (0 : Int32)), .unset] [(.int (c0 &&& (255 : Int32))), (.int (100 : Int32))]))
        by_cases hc58 : (100 : Int32) = (c0 &&& (255 : Int32))
        · skip
          refine own_go (fun _ kk_ => XS.icmpNo X33.here hx rfl (hb hby at_129) rfl (teq hc58).2 kk_) ?_
          refine own_go (fun _ kk_ => XS.iconst X33.here hx rfl (hb hby at_132) kk_) ?_
          refine own_go (fun _ kk_ => XS.goto X33.here hx rfl (pc0 := 133) (pc' := 137) rfl (hb hby at_133) (by decide) (by decide) kk_) ?_
          refine own_go (fun _ kk_ => XS.istore X33.here hx rfl (hb hby at_137) rfl (l' := #[.val (.int mode), .val (.int pos), .val (.int c0), .val (.int c1), .val (.int c2), .val (.int (mode &&& (7 : Int32))), .val (.int (c0 &&& (255 : Int32))), .val (.int (c1 &&& (255 : Int32))), .val (.int (c2 &&& (255 : Int32))), .val (.ref b7), .unset, .val (.int (1 : Int32)), .val (.int (0 : Int32)), .unset]) rfl kk_) ?_
          refine own_go (fun _ kk_ => XS.aload X33.here hx rfl (hb hby at_139) rfl rfl kk_) ?_
          refine own_go (fun _ kk_ => XS.iload X33.here hx rfl (hb hby at_141) rfl kk_) ?_
          refine own_go (fun _ kk_ => XS.iload X33.here hx rfl (hb hby at_143) rfl kk_) ?_
          show own_Fin p.tables e below _ (T33.setTop (mkF m 145 #[.val (.int mode), .val (.int pos), .val (.int c0), .val (.int c1), .val (.int c2), .val (.int (mode &&& (7 : Int32))), .val (.int (c0 &&& (255 : Int32))), .val (.int (c1 &&& (255 : Int32))), .val (.int (c2 &&& (255 : Int32))), .val (.ref b7), .unset, .val (.int (1 : Int32)), .val (.int (0 : Int32)), .unset] [(.int (c0 &&& (255 : Int32))), (.int (0 : Int32)), (.ref b7)]))
          obtain ⟨T59, h59, X59, e59, W59, V59, st59⟩ := own_stC X33 hx hZ e33 V7 (by decide) (i := 0) rfl (Nat.le_of_ble_eq_true rfl) (g := (mkF m 145 #[.val (.int mode), .val (.int pos), .val (.int c0), .val (.int c1), .val (.int c2), .val (.int (mode &&& (7 : Int32))), .val (.int (c0 &&& (255 : Int32))), .val (.int (c1 &&& (255 : Int32))), .val (.int (c2 &&& (255 : Int32))), .val (.ref b7), .unset, .val (.int (1 : Int32)), .val (.int (0 : Int32)), .unset] [(.int (c0 &&& (255 : Int32))), (.int (0 : Int32)), (.ref b7)])) rfl rfl (hb hby at_145)
          rw [own_nar255] at V59
          replace V7 : Arv Z h59 b7 k7 .char (9 : Int32) [(.int (c0 &&& (255 : Int32))), (.int (111 : Int32)), (.int (99 : Int32)), (.int (107 : Int32)), (.int (101 : Int32)), (.int (114 : Int32)), (.int (46 : Int32)), (.int (105 : Int32)), (.int (111 : Int32))] (.int (0 : Int32)) := V59
          have N59 := Fr.snoc X59 N33 g_b7
          refine own_go st59 ?_
          have sa60 := S_b7
          replace S_b7 := Safe.wr W59 sa60 CH S_b7
          replace CR := CR.trans (CHr.wr W59 sa60 CH)
          replace CH := CHv.wr W59 sa60 CH
          replace hk := Nat.le_trans hk (Keep.of_wr W59).1
          replace O0 := O0.wr W59 g_b7
          have K61 := K35.wr W59 (Or.inr sz_b7)
          show own_Fin p.tables e below _ (T59.setTop (mkF m 146 #[.val (.int mode), .val (.int pos), .val (.int c0), .val (.int c1), .val (.int c2), .val (.int (mode &&& (7 : Int32))), .val (.int (c0 &&& (255 : Int32))), .val (.int (c1 &&& (255 : Int32))), .val (.int (c2 &&& (255 : Int32))), .val (.ref b7), .unset, .val (.int (1 : Int32)), .val (.int (0 : Int32)), .unset] []))
          obtain ⟨T62, h62, X62, e62, E62, A62, D62, -, st62⟩ := newO X59 hx hZ hown (hw _ (List.mem_of_getElem? (i := 1) rfl)) (hw _ (List.mem_of_getElem? (i := 2) rfl)) (hw _ (List.mem_of_getElem? (i := 3) rfl)) e59 (g := (mkF m 146 #[.val (.int mode), .val (.int pos), .val (.int c0), .val (.int c1), .val (.int c2), .val (.int (mode &&& (7 : Int32))), .val (.int (c0 &&& (255 : Int32))), .val (.int (c1 &&& (255 : Int32))), .val (.int (c2 &&& (255 : Int32))), .val (.ref b7), .unset, .val (.int (1 : Int32)), .val (.int (0 : Int32)), .unset] [])) rfl (hb hby at_146) (by decide) (by decide)
          obtain ⟨b62, g62⟩ : ∃ z, z = h59.size := ⟨_, rfl⟩
          rw [← g62] at A62 D62 st62
          have sz_b62 : h0.size ≤ b62 := Nat.le_trans K61.1 (Nat.le_of_eq g62.symm)
          have g_b62 : n0 ≤ b62 := Nat.le_trans Z0 sz_b62
          have ne63 : b7 ≠ b62 := Nat.ne_of_lt (Nat.lt_of_lt_of_le V7.lt (Nat.le_of_eq g62.symm))
          have S_b62 := Safe.new (Z := Z) (EL := consts_1) (vm := s.vm) (Nat.le_of_eq g62.symm)
          replace S_b7 := Safe.ext E62 CH S_b7
          replace S_b62 := Safe.ext E62 CH S_b62
          replace CR := CR.trans (CHr.ext E62 CH)
          replace CH := CH.ext E62
          replace hk := Nat.le_trans hk E62.1
          replace O0 := O0.ext E62
          replace V7 := V7.ext E62
          have K64 := K61.ext E62
          have F62_coder : Fld Z h62 b62 "java/lang/String" "coder" "B" (.int (0 : Int32)) := D62 (Or.inr (hw _ (List.mem_of_getElem? (i := 27) rfl))) (ty := .byte) (by decide)
          have F62_value : Fld Z h62 b62 "java/lang/String" "value" "[B" .null := D62 (Or.inr (hw _ (List.mem_of_getElem? (i := 29) rfl))) (ty := (.array .byte)) (by decide)
          refine own_go st62 ?_
          refine own_go (fun _ kk_ => XS.dup X62.here hx rfl (hb hby at_149) rfl rfl kk_) ?_
          refine own_go (fun _ kk_ => XS.aload X62.here hx rfl (hb hby at_150) rfl rfl kk_) ?_
          show own_Fin p.tables e below _ (T62.setTop (mkF m 152 #[.val (.int mode), .val (.int pos), .val (.int c0), .val (.int c1), .val (.int c2), .val (.int (mode &&& (7 : Int32))), .val (.int (c0 &&& (255 : Int32))), .val (.int (c1 &&& (255 : Int32))), .val (.int (c2 &&& (255 : Int32))), .val (.ref b7), .unset, .val (.int (1 : Int32)), .val (.int (0 : Int32)), .unset] [(.ref b7), (.ref b62), (.ref b62)]))
          have hp66 : ∀ c ∈ ([(c0 &&& (255 : Int32)), (111 : Int32), (99 : Int32), (107 : Int32), (101 : Int32), (114 : Int32), (46 : Int32), (105 : Int32), (111 : Int32)] : List Int32), ¬ c < 0 ∧ ¬ (255 : Int32) < c := by
            intro c hc
            simp only [List.mem_cons, List.not_mem_nil, or_false] at hc
            rcases hc with rfl | rfl | rfl | rfl | rfl | rfl | rfl | rfl | rfl
            · exact own_and255 _
            · exact by decide
            · exact by decide
            · exact by decide
            · exact by decide
            · exact by decide
            · exact by decide
            · exact by decide
            · exact by decide
          obtain ⟨_, _, ⟨T65, L65, k65, n65⟩, -, X65, ⟨Lc65, hQ65, l65, y65, z65⟩, st65⟩ := X62.specialBack hx (y := (⟨"java/lang/String", "<init>", "([C)V"⟩ : MethodName)) rfl hown (mvT hZ (hw _ (List.mem_of_getElem? (i := 4) rfl))) (mvT hZ (hw _ (List.mem_of_getElem? (i := 5) rfl))) (mvT hZ (hw _ (List.mem_of_getElem? (i := 6) rfl))) (by decide) (StrChars.Road.backV (W := 1) hZ hws (kI := 4) (hw _ (List.mem_of_getElem? (i := 2) rfl)) (cs := ([(c0 &&& (255 : Int32)), (111 : Int32), (99 : Int32), (107 : Int32), (101 : Int32), (114 : Int32), (46 : Int32), (105 : Int32), (111 : Int32)] : List Int32)) (bs := (([(c0 &&& (255 : Int32)), (111 : Int32), (99 : Int32), (107 : Int32), (101 : Int32), (114 : Int32), (46 : Int32), (105 : Int32), (111 : Int32)] : List Int32)).map (fun c => c.toInt8.toInt32)) (n := 9) g_b62 (Nat.le_trans Z0 K64.1) A62 F62_value F62_coder V7 (S_C.ext O0.2) hcs rfl rfl (by decide) (by decide) hp66 rfl (by decide) (by decide)) (g := (mkF m 152 #[.val (.int mode), .val (.int pos), .val (.int c0), .val (.int c1), .val (.int c2), .val (.int (mode &&& (7 : Int32))), .val (.int (c0 &&& (255 : Int32))), .val (.int (c1 &&& (255 : Int32))), .val (.int (c2 &&& (255 : Int32))), .val (.ref b7), .unset, .val (.int (1 : Int32)), .val (.int (0 : Int32)), .unset] [(.ref b7), (.ref b62), (.ref b62)])) rfl (by rw [hml]; rfl) (Steps.refl _) (a := b62) (argsL := [(.ref b7)]) (rest := [(.ref b62)]) (lenOf pd_3 rfl) rfl (by show 2 * 0 + _ ≤ _; exact Nat.le_of_eq rfl) (hb hby at_152) (fun _ _ => ⟨rfl, e62, (by decide : 2 + 1 ≤ _), (by decide : 13 + 9 ≤ _)⟩)
          dsimp only [Pt.U, Pt.locs, Pt.cells, Pt.slots] at X65 l65 y65 z65 st65 hQ65
          subst l65 y65 z65
          obtain ⟨rfl, N65q, KK65, EE65, FC65, t65, kb65, gt65, szt65, netx65, FV65, VV65⟩ := hQ65
          have N65 := Fr.app N59 N65q
          have SS65 : own_Str Z T65.heap b62 t65 ([(c0 &&& (255 : Int32)), (111 : Int32), (99 : Int32), (107 : Int32), (101 : Int32), (114 : Int32), (46 : Int32), (105 : Int32), (111 : Int32)] : List Int32) := ⟨_, _, _, _, EE65, FV65, FC65, VV65, StrChars.Road.codOf (n := 9) rfl (fun c hc => (hp66 c hc).2), own_up _ hp66, Nat.le_of_ble_eq_true rfl⟩
          have sz_t65 : h0.size ≤ t65 := Nat.le_trans K64.1 szt65
          have ne67 : b7 ≠ t65 := Nat.ne_of_lt (Nat.lt_of_lt_of_le V7.lt szt65)
          have ne68 : b62 ≠ t65 := Nat.ne_of_lt (Nat.lt_of_lt_of_le A62.lt szt65)
          have S_t65 := Safe.new (Z := Z) (EL := consts_1) (vm := s.vm) szt65
          have hs69 : ∀ x ∈ [b62], Safe Z consts_1 s.vm h62 x := (sfS S_b62 sf0)
          replace S_b7 := Safe.keep KK65 hs69 CH S_b7
          replace S_b62 := Safe.keep KK65 hs69 CH S_b62
          replace S_t65 := Safe.keep KK65 hs69 CH S_t65
          replace CR := CR.trans (CHr.keep KK65 hs69 CH)
          replace CH := CHv.keep KK65 hs69 CH
          replace hk := Nat.le_trans hk KK65.1
          replace O0 := O0.keep KK65 (allS g_b62 (all0))
          replace V7 := V7.keep KK65 (ninS ne63 nin0)
          replace A62 := A62.keep KK65
          have K70 := K64.trans KK65 (allS (Or.inr sz_b62) all0)
          refine own_go (fun _ kk_ => st65.trans kk_) ?_
          refine own_go (fun _ kk_ => XS.astore X65.here hx rfl (hb hby at_155) rfl rfl (l' := #[.val (.int mode), .val (.int pos), .val (.int c0), .val (.int c1), .val (.int c2), .val (.int (mode &&& (7 : Int32))), .val (.int (c0 &&& (255 : Int32))), .val (.int (c1 &&& (255 : Int32))), .val (.int (c2 &&& (255 : Int32))), .val (.ref b7), .val (.ref b62), .val (.int (1 : Int32)), .val (.int (0 : Int32)), .unset]) rfl kk_) ?_
          refine own_go (fun _ kk_ => XS.goto X65.here hx rfl (pc0 := 157) (pc' := 397) rfl (hb hby at_157) (by decide) (by decide) kk_) ?_
          refine own_go (fun _ kk_ => XS.iload X65.here hx rfl (hb hby at_397) rfl kk_) ?_
          show own_Fin p.tables e below _ (T65.setTop (mkF m 399 #[.val (.int mode), .val (.int pos), .val (.int c0), .val (.int c1), .val (.int c2), .val (.int (mode &&& (7 : Int32))), .val (.int (c0 &&& (255 : Int32))), .val (.int (c1 &&& (255 : Int32))), .val (.int (c2 &&& (255 : Int32))), .val (.ref b7), .val (.ref b62), .val (.int (1 : Int32)), .val (.int (0 : Int32)), .unset] [(.int (1 : Int32))]))
          refine own_go (fun _ kk_ => XS.ifNo X65.here hx rfl (hb hby at_399) rfl ((if0 _ _).trans (feq (by decide : ¬ (1 : Int32) = (0 : Int32))).1) kk_) ?_
          show own_Fin p.tables e below _ (T65.setTop (mkF m 402 #[.val (.int mode), .val (.int pos), .val (.int c0), .val (.int c1), .val (.int c2), .val (.int (mode &&& (7 : Int32))), .val (.int (c0 &&& (255 : Int32))), .val (.int (c1 &&& (255 : Int32))), .val (.int (c2 &&& (255 : Int32))), .val (.ref b7), .val (.ref b62), .val (.int (1 : Int32)), .val (.int (0 : Int32)), .unset] []))
          obtain ⟨a71, T71, h71, k71, tb71, kb71, X71, e71, E71, hS, hk, hZ, hown, EA71, FC71, FV71, VB71, -, -, CR71, -, NE71, st71⟩ := ldcCH X65 hx hZ hown (hw _ (List.mem_of_getElem? (i := 30) rfl)) wS rfl hS hk hEL (by decide) CH (vs := ((([(104 : Int32), (116 : Int32), (116 : Int32), (112 : Int32), (115 : Int32), (58 : Int32), (47 : Int32), (47 : Int32), (105 : Int32), (110 : Int32), (100 : Int32), (101 : Int32), (120 : Int32), (46 : Int32), (100 : Int32), (111 : Int32), (99 : Int32), (107 : Int32), (101 : Int32), (114 : Int32), (46 : Int32), (105 : Int32), (111 : Int32), (47 : Int32), (118 : Int32), (49 : Int32), (47 : Int32)] : List Int32).map (fun c => c.toInt8.toInt32)).map Value.int)) (z := (27 : Int32)) (by exact ⟨by decide, by decide⟩) (by decide) rfl (g := (mkF m 402 #[.val (.int mode), .val (.int pos), .val (.int c0), .val (.int c1), .val (.int c2), .val (.int (mode &&& (7 : Int32))), .val (.int (c0 &&& (255 : Int32))), .val (.int (c1 &&& (255 : Int32))), .val (.int (c2 &&& (255 : Int32))), .val (.ref b7), .val (.ref b62), .val (.int (1 : Int32)), .val (.int (0 : Int32)), .unset] [])) rfl (hb hby at_402) (n := 108) (by decide) (by decide) (by decide) (by decide)
          replace S_b7 := CR71.safe V7.lt S_b7
          replace S_b62 := CR71.safe SS65.lt S_b62
          replace S_t65 := CR71.safe SS65.ltt S_t65
          replace CR := CR.trans CR71
          replace CH := CR71.1
          replace O0 := O0.ext E71
          replace V7 := V7.ext E71
          replace SS65 := SS65.ext E71
          have K72 := K70.ext E71
          have ne73 : b7 ≠ a71 := (NE71 _ S_b7).1
          have ne74 : b7 ≠ tb71 := (NE71 _ S_b7).2
          have ne75 : b62 ≠ a71 := (NE71 _ S_b62).1
          have ne76 : b62 ≠ tb71 := (NE71 _ S_b62).2
          have ne77 : t65 ≠ a71 := (NE71 _ S_t65).1
          have ne78 : t65 ≠ tb71 := (NE71 _ S_t65).2
          have SS71 : own_Str Z h71 a71 tb71 ([(104 : Int32), (116 : Int32), (116 : Int32), (112 : Int32), (115 : Int32), (58 : Int32), (47 : Int32), (47 : Int32), (105 : Int32), (110 : Int32), (100 : Int32), (101 : Int32), (120 : Int32), (46 : Int32), (100 : Int32), (111 : Int32), (99 : Int32), (107 : Int32), (101 : Int32), (114 : Int32), (46 : Int32), (105 : Int32), (111 : Int32), (47 : Int32), (118 : Int32), (49 : Int32), (47 : Int32)] : List Int32) := ⟨_, _, _, _, EA71, FV71, FC71, VB71, StrChars.Road.codOf (n := 27) rfl (by decide), by decide, Nat.le_of_ble_eq_true rfl⟩
          refine own_go st71 ?_
          refine own_go (fun _ kk_ => XS.goto X71.here hx rfl (pc0 := 404) (pc' := 409) rfl (hb hby at_404) (by decide) (by decide) kk_) ?_
          refine own_go (fun _ kk_ => XS.astore X71.here hx rfl (hb hby at_409) rfl rfl (l' := #[.val (.int mode), .val (.int pos), .val (.int c0), .val (.int c1), .val (.int c2), .val (.int (mode &&& (7 : Int32))), .val (.int (c0 &&& (255 : Int32))), .val (.int (c1 &&& (255 : Int32))), .val (.int (c2 &&& (255 : Int32))), .val (.ref b7), .val (.ref b62), .val (.int (1 : Int32)), .val (.ref a71), .unset]) rfl kk_) ?_
          refine own_go (fun _ kk_ => XS.aload X71.here hx rfl (hb hby at_411) rfl rfl kk_) ?_
          show own_Fin p.tables e below _ (T71.setTop (mkF m 413 #[.val (.int mode), .val (.int pos), .val (.int c0), .val (.int c1), .val (.int c2), .val (.int (mode &&& (7 : Int32))), .val (.int (c0 &&& (255 : Int32))), .val (.int (c1 &&& (255 : Int32))), .val (.int (c2 &&& (255 : Int32))), .val (.ref b7), .val (.ref b62), .val (.int (1 : Int32)), .val (.ref a71), .unset] [(.ref b62)]))
          obtain ⟨_, _, ⟨T79, L79, k79, n79⟩, -, X79, hSn79, hgr79, ⟨Lc79, hQ79, l79, y79, z79, CR79⟩, st79⟩ := callSS X71 hx (y := (⟨"com/example/laminate/laminate/core/DefaultRegistry", "credentialsKey", "(Ljava/lang/String;)Ljava/lang/String;"⟩ : MethodName)) hown (mvT hZ (hw _ (List.mem_of_getElem? (i := 33) rfl))) (mvT hZ (hw _ (List.mem_of_getElem? (i := 34) rfl))) (mvT hZ (hw _ (List.mem_of_getElem? (i := 35) rfl))) (mvT hZ (hw _ (List.mem_of_getElem? (i := 36) rfl))) (by decide) (backOfSH (s := s) (W := 0) (rm_ck l Z a0 hw [] hEL b62 t65 ([(c0 &&& (255 : Int32)), (111 : Int32), (99 : Int32), (107 : Int32), (101 : Int32), (114 : Int32), (46 : Int32), (105 : Int32), (111 : Int32)] : List Int32) gc h71 n0 (Nat.le_trans Z0 K72.1) SS65 S_C hcs O0) hZ (hw _ (List.mem_of_getElem? (i := 36) rfl)) (hw _ (List.mem_of_getElem? (i := 35) rfl)) (by decide) (by decide) hEL CH) (g := (mkF m 413 #[.val (.int mode), .val (.int pos), .val (.int c0), .val (.int c1), .val (.int c2), .val (.int (mode &&& (7 : Int32))), .val (.int (c0 &&& (255 : Int32))), .val (.int (c1 &&& (255 : Int32))), .val (.int (c2 &&& (255 : Int32))), .val (.ref b7), .val (.ref b62), .val (.int (1 : Int32)), .val (.ref a71), .unset] [(.ref b62)])) rfl (by rw [hml]; rfl) (argsL := [(.ref b62)]) (rest := []) (lenOf pd_4 rfl) rfl (by show 2 * 0 + _ ≤ _; exact Nat.le_of_eq rfl) (hb hby at_413) (fun _ _ => ⟨rfl, e71, (by decide : 5 + 4 ≤ _), (by decide : 134 + 152 ≤ _)⟩)
          dsimp only [Pt.U, Pt.locs, Pt.cells, Pt.slots] at X79 l79 y79 z79 st79 hQ79 hSn79 hgr79 CR79
          subst l79 y79 z79
          replace hS := foldS hS (show _ ≤ T71.heap.size by rw [e71]; exact hk) hSn79 hgr79
          replace hk : T79.heap.size ≤ T79.heap.size := Nat.le_refl _
          replace hZ : Z.Warmed39 (s.setVm T79.vm).vm := State.Warmed39.trans (t := s.setVm T71.vm) hZ hSn79.1
          replace hown : (s.setVm T79.vm).vm.findClass "com/example/laminate/laminate/core/DefaultRegistryCredentialsKeyPinLaw" = some m.cls := by rw [show (s.setVm T79.vm).vm = T79.vm from rfl, hSn79.1.alike.findClass]; exact hown
          replace X79 : Stand p l e room_1 (s.setVm T79.vm) m #[(.int mode), (.int pos), (.int c0), (.int c1), (.int c2)] below meth c T79 _ _ _ := X79
          replace S_b7 := CR79.safe V7.lt S_b7
          replace S_b62 := CR79.safe SS65.lt S_b62
          replace S_t65 := CR79.safe SS65.ltt S_t65
          replace CR := CR.trans CR79
          replace CH := CR79.1
          obtain ⟨N79q, KK79, hy79, hn79⟩ := hQ79
          have N79 := Fr.app N65 N79q
          obtain ⟨ra79, rb79, rfl, SR79⟩ := hy79 (by rw [← hc58])
          replace O0 := O0.keep KK79 all0
          replace V7 := V7.keep KK79 nin0
          replace SS65 := SS65.keep KK79 nin0 nin0
          replace SS71 := SS71.keep KK79 nin0 nin0
          have K80 := K72.trans KK79 all0
          refine own_go (fun _ kk_ => st79.trans kk_) ?_
          refine own_go (fun _ kk_ => XS.astore X79.here hx rfl (hb hby at_416) rfl rfl (l' := #[.val (.int mode), .val (.int pos), .val (.int c0), .val (.int c1), .val (.int c2), .val (.int (mode &&& (7 : Int32))), .val (.int (c0 &&& (255 : Int32))), .val (.int (c1 &&& (255 : Int32))), .val (.int (c2 &&& (255 : Int32))), .val (.ref b7), .val (.ref b62), .val (.int (1 : Int32)), .val (.ref a71), .val (.ref ra79)]) rfl kk_) ?_
          refine own_go (fun _ kk_ => XS.aload X79.here hx rfl (hb hby at_418) rfl rfl kk_) ?_
          refine own_go (fun _ kk_ => XS.aload X79.here hx rfl (hb hby at_420) rfl rfl kk_) ?_
          show own_Fin p.tables e below _ (T79.setTop (mkF m 422 #[.val (.int mode), .val (.int pos), .val (.int c0), .val (.int c1), .val (.int c2), .val (.int (mode &&& (7 : Int32))), .val (.int (c0 &&& (255 : Int32))), .val (.int (c1 &&& (255 : Int32))), .val (.int (c2 &&& (255 : Int32))), .val (.ref b7), .val (.ref b62), .val (.int (1 : Int32)), .val (.ref a71), .val (.ref ra79)] [(.ref ra79), (.ref a71)]))
          obtain ⟨cq81, kq81, qa81, qb81, qc81⟩ := isOf hZ rfl SS71.exa
          obtain ⟨_, _, ⟨T81, L81, k81, n81⟩, -, X81, ⟨Lc81, hQ81, l81, y81, z81⟩, st81⟩ := X79.virtualBack hx (y := (⟨"java/lang/String", "equals", "(Ljava/lang/Object;)Z"⟩ : MethodName)) (z := (⟨"java/lang/String", "equals", "(Ljava/lang/Object;)Z"⟩ : MethodName)) hown (mvT hZ (hw _ (List.mem_of_getElem? (i := 49) rfl))) (mvT hZ (hw _ (List.mem_of_getElem? (i := 39) rfl))) (own_notface (args := #[]) (mvT hZ (hw _ (List.mem_of_getElem? (i := 41) rfl))) rfl) (mvT hZ (hw _ (List.mem_of_getElem? (i := 41) rfl))) (mvT hZ (hw _ (List.mem_of_getElem? (i := 40) rfl))) (by decide) (own_eqB (W := 0) hZ heq (hw _ (List.mem_of_getElem? (i := 2) rfl)) SS71 SR79 (S_C.ext O0.2) hcs (by decide) (by decide)) qa81 qc81 (g := (mkF m 422 #[.val (.int mode), .val (.int pos), .val (.int c0), .val (.int c1), .val (.int c2), .val (.int (mode &&& (7 : Int32))), .val (.int (c0 &&& (255 : Int32))), .val (.int (c1 &&& (255 : Int32))), .val (.int (c2 &&& (255 : Int32))), .val (.ref b7), .val (.ref b62), .val (.int (1 : Int32)), .val (.ref a71), .val (.ref ra79)] [(.ref ra79), (.ref a71)])) rfl (by rw [hml]; rfl) (Steps.refl _) (argsL := [(.ref ra79)]) (rest := []) (lenOf pd_1 rfl) rfl (by show 2 * 0 + _ ≤ _; exact Nat.le_of_eq rfl) (hb hby at_422) (fun _ _ => ⟨rfl, rfl, (by decide : 9 + 0 ≤ _), (by decide : 286 + 0 ≤ _)⟩)
          dsimp only [Pt.U, Pt.locs, Pt.cells, Pt.slots] at X81 l81 y81 z81 st81 hQ81
          subst l81 y81 z81
          obtain ⟨hq81, rfl, e81⟩ := hQ81
          obtain ⟨z81, rfl, hz81⟩ := own_eqv hq81
          have N81 := Fr.app N79 (Fr.nil n0)
          obtain rfl : z81 = 1 := hz81.elim (fun q => q.1) (fun q => absurd rfl q.2)
          refine own_go (fun _ kk_ => st81.trans kk_) ?_
          show own_Fin p.tables e below _ (T81.setTop (mkF m 425 #[.val (.int mode), .val (.int pos), .val (.int c0), .val (.int c1), .val (.int c2), .val (.int (mode &&& (7 : Int32))), .val (.int (c0 &&& (255 : Int32))), .val (.int (c1 &&& (255 : Int32))), .val (.int (c2 &&& (255 : Int32))), .val (.ref b7), .val (.ref b62), .val (.int (1 : Int32)), .val (.ref a71), .val (.ref ra79)] [(.int (1 : Int32))]))
          have CRz : CHr Z consts_1 s.vm s.heap T81.vm T81.heap := by
            rw [hh, e81]
            exact CR.trans (CHv.at X81 hZ hEL CH)
          refine own_retW X81 hx Bd hS (show _ ≤ T81.heap.size by rw [e81]; exact hk) (t := .boolean) Bd.returns rfl (Or.inl ⟨rfl, by simp, _, rfl⟩) (hb hby at_425) CRz ?_ (by decide) (by decide)
          show (Q_rm_law Z mode pos c0 c1 c2 gc h0 n0) (some (.int (1 : Int32))) T81.heap _
          rw [e81]
          exact ⟨rfl, N81⟩
        · skip
          refine own_go (fun _ kk_ => XS.icmpYes X33.here hx rfl (pc0 := 129) (pc' := 136) rfl (hb hby at_129) rfl (feq hc58).2 (by decide) (by decide) kk_) ?_
          refine own_go (fun _ kk_ => XS.iconst X33.here hx rfl (hb hby at_136) kk_) ?_
          refine own_go (fun _ kk_ => XS.istore X33.here hx rfl (hb hby at_137) rfl (l' := #[.val (.int mode), .val (.int pos), .val (.int c0), .val (.int c1), .val (.int c2), .val (.int (mode &&& (7 : Int32))), .val (.int (c0 &&& (255 : Int32))), .val (.int (c1 &&& (255 : Int32))), .val (.int (c2 &&& (255 : Int32))), .val (.ref b7), .unset, .val (.int (0 : Int32)), .val (.int (0 : Int32)), .unset]) rfl kk_) ?_
          refine own_go (fun _ kk_ => XS.aload X33.here hx rfl (hb hby at_139) rfl rfl kk_) ?_
          refine own_go (fun _ kk_ => XS.iload X33.here hx rfl (hb hby at_141) rfl kk_) ?_
          refine own_go (fun _ kk_ => XS.iload X33.here hx rfl (hb hby at_143) rfl kk_) ?_
          show own_Fin p.tables e below _ (T33.setTop (mkF m 145 #[.val (.int mode), .val (.int pos), .val (.int c0), .val (.int c1), .val (.int c2), .val (.int (mode &&& (7 : Int32))), .val (.int (c0 &&& (255 : Int32))), .val (.int (c1 &&& (255 : Int32))), .val (.int (c2 &&& (255 : Int32))), .val (.ref b7), .unset, .val (.int (0 : Int32)), .val (.int (0 : Int32)), .unset] [(.int (c0 &&& (255 : Int32))), (.int (0 : Int32)), (.ref b7)]))
          obtain ⟨T82, h82, X82, e82, W82, V82, st82⟩ := own_stC X33 hx hZ e33 V7 (by decide) (i := 0) rfl (Nat.le_of_ble_eq_true rfl) (g := (mkF m 145 #[.val (.int mode), .val (.int pos), .val (.int c0), .val (.int c1), .val (.int c2), .val (.int (mode &&& (7 : Int32))), .val (.int (c0 &&& (255 : Int32))), .val (.int (c1 &&& (255 : Int32))), .val (.int (c2 &&& (255 : Int32))), .val (.ref b7), .unset, .val (.int (0 : Int32)), .val (.int (0 : Int32)), .unset] [(.int (c0 &&& (255 : Int32))), (.int (0 : Int32)), (.ref b7)])) rfl rfl (hb hby at_145)
          rw [own_nar255] at V82
          replace V7 : Arv Z h82 b7 k7 .char (9 : Int32) [(.int (c0 &&& (255 : Int32))), (.int (111 : Int32)), (.int (99 : Int32)), (.int (107 : Int32)), (.int (101 : Int32)), (.int (114 : Int32)), (.int (46 : Int32)), (.int (105 : Int32)), (.int (111 : Int32))] (.int (0 : Int32)) := V82
          have N82 := Fr.snoc X82 N33 g_b7
          refine own_go st82 ?_
          have sa83 := S_b7
          replace S_b7 := Safe.wr W82 sa83 CH S_b7
          replace CR := CR.trans (CHr.wr W82 sa83 CH)
          replace CH := CHv.wr W82 sa83 CH
          replace hk := Nat.le_trans hk (Keep.of_wr W82).1
          replace O0 := O0.wr W82 g_b7
          have K84 := K35.wr W82 (Or.inr sz_b7)
          show own_Fin p.tables e below _ (T82.setTop (mkF m 146 #[.val (.int mode), .val (.int pos), .val (.int c0), .val (.int c1), .val (.int c2), .val (.int (mode &&& (7 : Int32))), .val (.int (c0 &&& (255 : Int32))), .val (.int (c1 &&& (255 : Int32))), .val (.int (c2 &&& (255 : Int32))), .val (.ref b7), .unset, .val (.int (0 : Int32)), .val (.int (0 : Int32)), .unset] []))
          obtain ⟨T85, h85, X85, e85, E85, A85, D85, -, st85⟩ := newO X82 hx hZ hown (hw _ (List.mem_of_getElem? (i := 1) rfl)) (hw _ (List.mem_of_getElem? (i := 2) rfl)) (hw _ (List.mem_of_getElem? (i := 3) rfl)) e82 (g := (mkF m 146 #[.val (.int mode), .val (.int pos), .val (.int c0), .val (.int c1), .val (.int c2), .val (.int (mode &&& (7 : Int32))), .val (.int (c0 &&& (255 : Int32))), .val (.int (c1 &&& (255 : Int32))), .val (.int (c2 &&& (255 : Int32))), .val (.ref b7), .unset, .val (.int (0 : Int32)), .val (.int (0 : Int32)), .unset] [])) rfl (hb hby at_146) (by decide) (by decide)
          obtain ⟨b85, g85⟩ : ∃ z, z = h82.size := ⟨_, rfl⟩
          rw [← g85] at A85 D85 st85
          have sz_b85 : h0.size ≤ b85 := Nat.le_trans K84.1 (Nat.le_of_eq g85.symm)
          have g_b85 : n0 ≤ b85 := Nat.le_trans Z0 sz_b85
          have ne86 : b7 ≠ b85 := Nat.ne_of_lt (Nat.lt_of_lt_of_le V7.lt (Nat.le_of_eq g85.symm))
          have S_b85 := Safe.new (Z := Z) (EL := consts_1) (vm := s.vm) (Nat.le_of_eq g85.symm)
          replace S_b7 := Safe.ext E85 CH S_b7
          replace S_b85 := Safe.ext E85 CH S_b85
          replace CR := CR.trans (CHr.ext E85 CH)
          replace CH := CH.ext E85
          replace hk := Nat.le_trans hk E85.1
          replace O0 := O0.ext E85
          replace V7 := V7.ext E85
          have K87 := K84.ext E85
          have F85_coder : Fld Z h85 b85 "java/lang/String" "coder" "B" (.int (0 : Int32)) := D85 (Or.inr (hw _ (List.mem_of_getElem? (i := 27) rfl))) (ty := .byte) (by decide)
          have F85_value : Fld Z h85 b85 "java/lang/String" "value" "[B" .null := D85 (Or.inr (hw _ (List.mem_of_getElem? (i := 29) rfl))) (ty := (.array .byte)) (by decide)
          refine own_go st85 ?_
          refine own_go (fun _ kk_ => XS.dup X85.here hx rfl (hb hby at_149) rfl rfl kk_) ?_
          refine own_go (fun _ kk_ => XS.aload X85.here hx rfl (hb hby at_150) rfl rfl kk_) ?_
          show own_Fin p.tables e below _ (T85.setTop (mkF m 152 #[.val (.int mode), .val (.int pos), .val (.int c0), .val (.int c1), .val (.int c2), .val (.int (mode &&& (7 : Int32))), .val (.int (c0 &&& (255 : Int32))), .val (.int (c1 &&& (255 : Int32))), .val (.int (c2 &&& (255 : Int32))), .val (.ref b7), .unset, .val (.int (0 : Int32)), .val (.int (0 : Int32)), .unset] [(.ref b7), (.ref b85), (.ref b85)]))
          have hp89 : ∀ c ∈ ([(c0 &&& (255 : Int32)), (111 : Int32), (99 : Int32), (107 : Int32), (101 : Int32), (114 : Int32), (46 : Int32), (105 : Int32), (111 : Int32)] : List Int32), ¬ c < 0 ∧ ¬ (255 : Int32) < c := by
            intro c hc
            simp only [List.mem_cons, List.not_mem_nil, or_false] at hc
            rcases hc with rfl | rfl | rfl | rfl | rfl | rfl | rfl | rfl | rfl
            · exact own_and255 _
            · exact by decide
            · exact by decide
            · exact by decide
            · exact by decide
            · exact by decide
            · exact by decide
            · exact by decide
            · exact by decide
          obtain ⟨_, _, ⟨T88, L88, k88, n88⟩, -, X88, ⟨Lc88, hQ88, l88, y88, z88⟩, st88⟩ := X85.specialBack hx (y := (⟨"java/lang/String", "<init>", "([C)V"⟩ : MethodName)) rfl hown (mvT hZ (hw _ (List.mem_of_getElem? (i := 4) rfl))) (mvT hZ (hw _ (List.mem_of_getElem? (i := 5) rfl))) (mvT hZ (hw _ (List.mem_of_getElem? (i := 6) rfl))) (by decide) (StrChars.Road.backV (W := 1) hZ hws (kI := 4) (hw _ (List.mem_of_getElem? (i := 2) rfl)) (cs := ([(c0 &&& (255 : Int32)), (111 : Int32), (99 : Int32), (107 : Int32), (101 : Int32), (114 : Int32), (46 : Int32), (105 : Int32), (111 : Int32)] : List Int32)) (bs := (([(c0 &&& (255 : Int32)), (111 : Int32), (99 : Int32), (107 : Int32), (101 : Int32), (114 : Int32), (46 : Int32), (105 : Int32), (111 : Int32)] : List Int32)).map (fun c => c.toInt8.toInt32)) (n := 9) g_b85 (Nat.le_trans Z0 K87.1) A85 F85_value F85_coder V7 (S_C.ext O0.2) hcs rfl rfl (by decide) (by decide) hp89 rfl (by decide) (by decide)) (g := (mkF m 152 #[.val (.int mode), .val (.int pos), .val (.int c0), .val (.int c1), .val (.int c2), .val (.int (mode &&& (7 : Int32))), .val (.int (c0 &&& (255 : Int32))), .val (.int (c1 &&& (255 : Int32))), .val (.int (c2 &&& (255 : Int32))), .val (.ref b7), .unset, .val (.int (0 : Int32)), .val (.int (0 : Int32)), .unset] [(.ref b7), (.ref b85), (.ref b85)])) rfl (by rw [hml]; rfl) (Steps.refl _) (a := b85) (argsL := [(.ref b7)]) (rest := [(.ref b85)]) (lenOf pd_3 rfl) rfl (by show 2 * 0 + _ ≤ _; exact Nat.le_of_eq rfl) (hb hby at_152) (fun _ _ => ⟨rfl, e85, (by decide : 2 + 1 ≤ _), (by decide : 13 + 9 ≤ _)⟩)
          dsimp only [Pt.U, Pt.locs, Pt.cells, Pt.slots] at X88 l88 y88 z88 st88 hQ88
          subst l88 y88 z88
          obtain ⟨rfl, N88q, KK88, EE88, FC88, t88, kb88, gt88, szt88, netx88, FV88, VV88⟩ := hQ88
          have N88 := Fr.app N82 N88q
          have SS88 : own_Str Z T88.heap b85 t88 ([(c0 &&& (255 : Int32)), (111 : Int32), (99 : Int32), (107 : Int32), (101 : Int32), (114 : Int32), (46 : Int32), (105 : Int32), (111 : Int32)] : List Int32) := ⟨_, _, _, _, EE88, FV88, FC88, VV88, StrChars.Road.codOf (n := 9) rfl (fun c hc => (hp89 c hc).2), own_up _ hp89, Nat.le_of_ble_eq_true rfl⟩
          have sz_t88 : h0.size ≤ t88 := Nat.le_trans K87.1 szt88
          have ne90 : b7 ≠ t88 := Nat.ne_of_lt (Nat.lt_of_lt_of_le V7.lt szt88)
          have ne91 : b85 ≠ t88 := Nat.ne_of_lt (Nat.lt_of_lt_of_le A85.lt szt88)
          have S_t88 := Safe.new (Z := Z) (EL := consts_1) (vm := s.vm) szt88
          have hs92 : ∀ x ∈ [b85], Safe Z consts_1 s.vm h85 x := (sfS S_b85 sf0)
          replace S_b7 := Safe.keep KK88 hs92 CH S_b7
          replace S_b85 := Safe.keep KK88 hs92 CH S_b85
          replace S_t88 := Safe.keep KK88 hs92 CH S_t88
          replace CR := CR.trans (CHr.keep KK88 hs92 CH)
          replace CH := CHv.keep KK88 hs92 CH
          replace hk := Nat.le_trans hk KK88.1
          replace O0 := O0.keep KK88 (allS g_b85 (all0))
          replace V7 := V7.keep KK88 (ninS ne86 nin0)
          replace A85 := A85.keep KK88
          have K93 := K87.trans KK88 (allS (Or.inr sz_b85) all0)
          refine own_go (fun _ kk_ => st88.trans kk_) ?_
          refine own_go (fun _ kk_ => XS.astore X88.here hx rfl (hb hby at_155) rfl rfl (l' := #[.val (.int mode), .val (.int pos), .val (.int c0), .val (.int c1), .val (.int c2), .val (.int (mode &&& (7 : Int32))), .val (.int (c0 &&& (255 : Int32))), .val (.int (c1 &&& (255 : Int32))), .val (.int (c2 &&& (255 : Int32))), .val (.ref b7), .val (.ref b85), .val (.int (0 : Int32)), .val (.int (0 : Int32)), .unset]) rfl kk_) ?_
          refine own_go (fun _ kk_ => XS.goto X88.here hx rfl (pc0 := 157) (pc' := 397) rfl (hb hby at_157) (by decide) (by decide) kk_) ?_
          refine own_go (fun _ kk_ => XS.iload X88.here hx rfl (hb hby at_397) rfl kk_) ?_
          show own_Fin p.tables e below _ (T88.setTop (mkF m 399 #[.val (.int mode), .val (.int pos), .val (.int c0), .val (.int c1), .val (.int c2), .val (.int (mode &&& (7 : Int32))), .val (.int (c0 &&& (255 : Int32))), .val (.int (c1 &&& (255 : Int32))), .val (.int (c2 &&& (255 : Int32))), .val (.ref b7), .val (.ref b85), .val (.int (0 : Int32)), .val (.int (0 : Int32)), .unset] [(.int (0 : Int32))]))
          refine own_go (fun _ kk_ => XS.ifYes X88.here hx rfl (pc0 := 399) (pc' := 407) rfl (hb hby at_399) rfl ((if0 _ _).trans (teq (by decide : (0 : Int32) = (0 : Int32))).1) (by decide) (by decide) kk_) ?_
          refine own_go (fun _ kk_ => XS.aload X88.here hx rfl (hb hby at_407) rfl rfl kk_) ?_
          refine own_go (fun _ kk_ => XS.astore X88.here hx rfl (hb hby at_409) rfl rfl (l' := #[.val (.int mode), .val (.int pos), .val (.int c0), .val (.int c1), .val (.int c2), .val (.int (mode &&& (7 : Int32))), .val (.int (c0 &&& (255 : Int32))), .val (.int (c1 &&& (255 : Int32))), .val (.int (c2 &&& (255 : Int32))), .val (.ref b7), .val (.ref b85), .val (.int (0 : Int32)), .val (.ref b85), .unset]) rfl kk_) ?_
          refine own_go (fun _ kk_ => XS.aload X88.here hx rfl (hb hby at_411) rfl rfl kk_) ?_
          show own_Fin p.tables e below _ (T88.setTop (mkF m 413 #[.val (.int mode), .val (.int pos), .val (.int c0), .val (.int c1), .val (.int c2), .val (.int (mode &&& (7 : Int32))), .val (.int (c0 &&& (255 : Int32))), .val (.int (c1 &&& (255 : Int32))), .val (.int (c2 &&& (255 : Int32))), .val (.ref b7), .val (.ref b85), .val (.int (0 : Int32)), .val (.ref b85), .unset] [(.ref b85)]))
          obtain ⟨_, _, ⟨T94, L94, k94, n94⟩, -, X94, hSn94, hgr94, ⟨Lc94, hQ94, l94, y94, z94, CR94⟩, st94⟩ := callSS X88 hx (y := (⟨"com/example/laminate/laminate/core/DefaultRegistry", "credentialsKey", "(Ljava/lang/String;)Ljava/lang/String;"⟩ : MethodName)) hown (mvT hZ (hw _ (List.mem_of_getElem? (i := 33) rfl))) (mvT hZ (hw _ (List.mem_of_getElem? (i := 34) rfl))) (mvT hZ (hw _ (List.mem_of_getElem? (i := 35) rfl))) (mvT hZ (hw _ (List.mem_of_getElem? (i := 36) rfl))) (by decide) (backOfSH (s := s) (W := 0) (rm_ck l Z a0 hw [] hEL b85 t88 ([(c0 &&& (255 : Int32)), (111 : Int32), (99 : Int32), (107 : Int32), (101 : Int32), (114 : Int32), (46 : Int32), (105 : Int32), (111 : Int32)] : List Int32) gc T88.heap n0 (Nat.le_trans Z0 K93.1) SS88 S_C hcs O0) hZ (hw _ (List.mem_of_getElem? (i := 36) rfl)) (hw _ (List.mem_of_getElem? (i := 35) rfl)) (by decide) (by decide) hEL CH) (g := (mkF m 413 #[.val (.int mode), .val (.int pos), .val (.int c0), .val (.int c1), .val (.int c2), .val (.int (mode &&& (7 : Int32))), .val (.int (c0 &&& (255 : Int32))), .val (.int (c1 &&& (255 : Int32))), .val (.int (c2 &&& (255 : Int32))), .val (.ref b7), .val (.ref b85), .val (.int (0 : Int32)), .val (.ref b85), .unset] [(.ref b85)])) rfl (by rw [hml]; rfl) (argsL := [(.ref b85)]) (rest := []) (lenOf pd_4 rfl) rfl (by show 2 * 0 + _ ≤ _; exact Nat.le_of_eq rfl) (hb hby at_413) (fun _ _ => ⟨rfl, rfl, (by decide : 3 + 4 ≤ _), (by decide : 22 + 152 ≤ _)⟩)
          dsimp only [Pt.U, Pt.locs, Pt.cells, Pt.slots] at X94 l94 y94 z94 st94 hQ94 hSn94 hgr94 CR94
          subst l94 y94 z94
          replace hS := foldS hS hk hSn94 hgr94
          replace hk : T94.heap.size ≤ T94.heap.size := Nat.le_refl _
          replace hZ : Z.Warmed39 (s.setVm T94.vm).vm := State.Warmed39.trans (t := s.setVm s.vm) hZ hSn94.1
          replace hown : (s.setVm T94.vm).vm.findClass "com/example/laminate/laminate/core/DefaultRegistryCredentialsKeyPinLaw" = some m.cls := by rw [show (s.setVm T94.vm).vm = T94.vm from rfl, hSn94.1.alike.findClass]; exact hown
          replace X94 : Stand p l e room_1 (s.setVm T94.vm) m #[(.int mode), (.int pos), (.int c0), (.int c1), (.int c2)] below meth c T94 _ _ _ := X94
          replace S_b7 := CR94.safe V7.lt S_b7
          replace S_b85 := CR94.safe SS88.lt S_b85
          replace S_t88 := CR94.safe SS88.ltt S_t88
          replace CR := CR.trans CR94
          replace CH := CR94.1
          obtain ⟨N94q, KK94, hy94, hn94⟩ := hQ94
          have N94 := Fr.app N88 N94q
          obtain rfl := hn94 (by simp; exact fun q => hc58 q.symm)
          replace O0 := O0.keep KK94 all0
          replace V7 := V7.keep KK94 nin0
          replace SS88 := SS88.keep KK94 nin0 nin0
          have K95 := K93.trans KK94 all0
          refine own_go (fun _ kk_ => st94.trans kk_) ?_
          refine own_go (fun _ kk_ => XS.astore X94.here hx rfl (hb hby at_416) rfl rfl (l' := #[.val (.int mode), .val (.int pos), .val (.int c0), .val (.int c1), .val (.int c2), .val (.int (mode &&& (7 : Int32))), .val (.int (c0 &&& (255 : Int32))), .val (.int (c1 &&& (255 : Int32))), .val (.int (c2 &&& (255 : Int32))), .val (.ref b7), .val (.ref b85), .val (.int (0 : Int32)), .val (.ref b85), .val (.ref b85)]) rfl kk_) ?_
          refine own_go (fun _ kk_ => XS.aload X94.here hx rfl (hb hby at_418) rfl rfl kk_) ?_
          refine own_go (fun _ kk_ => XS.aload X94.here hx rfl (hb hby at_420) rfl rfl kk_) ?_
          show own_Fin p.tables e below _ (T94.setTop (mkF m 422 #[.val (.int mode), .val (.int pos), .val (.int c0), .val (.int c1), .val (.int c2), .val (.int (mode &&& (7 : Int32))), .val (.int (c0 &&& (255 : Int32))), .val (.int (c1 &&& (255 : Int32))), .val (.int (c2 &&& (255 : Int32))), .val (.ref b7), .val (.ref b85), .val (.int (0 : Int32)), .val (.ref b85), .val (.ref b85)] [(.ref b85), (.ref b85)]))
          obtain ⟨cq96, kq96, qa96, qb96, qc96⟩ := isOf hZ rfl SS88.exa
          obtain ⟨_, _, ⟨T96, L96, k96, n96⟩, -, X96, ⟨Lc96, hQ96, l96, y96, z96⟩, st96⟩ := X94.virtualBack hx (y := (⟨"java/lang/String", "equals", "(Ljava/lang/Object;)Z"⟩ : MethodName)) (z := (⟨"java/lang/String", "equals", "(Ljava/lang/Object;)Z"⟩ : MethodName)) hown (mvT hZ (hw _ (List.mem_of_getElem? (i := 49) rfl))) (mvT hZ (hw _ (List.mem_of_getElem? (i := 39) rfl))) (own_notface (args := #[]) (mvT hZ (hw _ (List.mem_of_getElem? (i := 41) rfl))) rfl) (mvT hZ (hw _ (List.mem_of_getElem? (i := 41) rfl))) (mvT hZ (hw _ (List.mem_of_getElem? (i := 40) rfl))) (by decide) (own_eqB (W := 0) hZ heq (hw _ (List.mem_of_getElem? (i := 2) rfl)) SS88 SS88 (S_C.ext O0.2) hcs (by decide) (by decide)) qa96 qc96 (g := (mkF m 422 #[.val (.int mode), .val (.int pos), .val (.int c0), .val (.int c1), .val (.int c2), .val (.int (mode &&& (7 : Int32))), .val (.int (c0 &&& (255 : Int32))), .val (.int (c1 &&& (255 : Int32))), .val (.int (c2 &&& (255 : Int32))), .val (.ref b7), .val (.ref b85), .val (.int (0 : Int32)), .val (.ref b85), .val (.ref b85)] [(.ref b85), (.ref b85)])) rfl (by rw [hml]; rfl) (Steps.refl _) (argsL := [(.ref b85)]) (rest := []) (lenOf pd_1 rfl) rfl (by show 2 * 0 + _ ≤ _; exact Nat.le_of_eq rfl) (hb hby at_422) (fun _ _ => ⟨rfl, rfl, (by decide : 7 + 0 ≤ _), (by decide : 174 + 0 ≤ _)⟩)
          dsimp only [Pt.U, Pt.locs, Pt.cells, Pt.slots] at X96 l96 y96 z96 st96 hQ96
          subst l96 y96 z96
          obtain ⟨hq96, rfl, e96⟩ := hQ96
          obtain ⟨z96, rfl, hz96⟩ := own_eqv hq96
          have N96 := Fr.app N94 (Fr.nil n0)
          obtain rfl : z96 = 1 := hz96.elim (fun q => q.1) (fun q => absurd rfl q.2)
          refine own_go (fun _ kk_ => st96.trans kk_) ?_
          show own_Fin p.tables e below _ (T96.setTop (mkF m 425 #[.val (.int mode), .val (.int pos), .val (.int c0), .val (.int c1), .val (.int c2), .val (.int (mode &&& (7 : Int32))), .val (.int (c0 &&& (255 : Int32))), .val (.int (c1 &&& (255 : Int32))), .val (.int (c2 &&& (255 : Int32))), .val (.ref b7), .val (.ref b85), .val (.int (0 : Int32)), .val (.ref b85), .val (.ref b85)] [(.int (1 : Int32))]))
          have CRz : CHr Z consts_1 s.vm s.heap T96.vm T96.heap := by
            rw [hh, e96]
            exact CR.trans (CHv.at X96 hZ hEL CH)
          refine own_retW X96 hx Bd hS (show _ ≤ T96.heap.size by rw [e96]; exact hk) (t := .boolean) Bd.returns rfl (Or.inl ⟨rfl, by simp, _, rfl⟩) (hb hby at_425) CRz ?_ (by decide) (by decide)
          show (Q_rm_law Z mode pos c0 c1 c2 gc h0 n0) (some (.int (1 : Int32))) T96.heap _
          rw [e96]
          exact ⟨rfl, N96⟩
      · skip
        show own_Fin p.tables e below _ (T33.setTop (mkF m 122 #[.val (.int mode), .val (.int pos), .val (.int c0), .val (.int c1), .val (.int c2), .val (.int (mode &&& (7 : Int32))), .val (.int (c0 &&& (255 : Int32))), .val (.int (c1 &&& (255 : Int32))), .val (.int (c2 &&& (255 : Int32))), .val (.ref b7), .unset, .unset, .val (.int ((pos &&& (2147483647 : Int32)) % (9 : Int32))), .unset] []))
        rw [hs9]
        refine own_go (fun _ kk_ => XS.aload X33.here hx rfl (hb hby at_122) rfl rfl kk_) ?_
        refine own_go (fun _ kk_ => XS.iload X33.here hx rfl (hb hby at_124) rfl kk_) ?_
        show own_Fin p.tables e below _ (T33.setTop (mkF m 126 #[.val (.int mode), .val (.int pos), .val (.int c0), .val (.int c1), .val (.int c2), .val (.int (mode &&& (7 : Int32))), .val (.int (c0 &&& (255 : Int32))), .val (.int (c1 &&& (255 : Int32))), .val (.int (c2 &&& (255 : Int32))), .val (.ref b7), .unset, .unset, .val (.int (1 : Int32)), .unset] [(.int (1 : Int32)), (.ref b7)]))
        refine own_go (fun _ kk_ => own_caload X33 hx hZ e33 V7 (by decide) (v := (.int (111 : Int32))) (rfl) (g := (mkF m 126 #[.val (.int mode), .val (.int pos), .val (.int c0), .val (.int c1), .val (.int c2), .val (.int (mode &&& (7 : Int32))), .val (.int (c0 &&& (255 : Int32))), .val (.int (c1 &&& (255 : Int32))), .val (.int (c2 &&& (255 : Int32))), .val (.ref b7), .unset, .unset, .val (.int (1 : Int32)), .unset] [(.int (1 : Int32)), (.ref b7)])) rfl rfl (hb hby at_126) _ kk_) ?_
        refine own_go (fun _ kk_ => XS.iload X33.here hx rfl (hb hby at_127) rfl kk_) ?_
        show own_Fin p.tables e below _ (T33.setTop (mkF m 129 #[.val (.int mode), .val (.int pos), .val (.int c0), .val (.int c1), .val (.int c2), .val (.int (mode &&& (7 : Int32))), .val (.int (c0 &&& (255 : Int32))), .val (.int (c1 &&& (255 : Int32))), .val (.int (c2 &&& (255 : Int32))), .val (.ref b7), .unset, .unset, .val (.int (1 : Int32)), .unset] [(.int (c0 &&& (255 : Int32))), (.int (111 : Int32))]))
        by_cases hc97 : (111 : Int32) = (c0 &&& (255 : Int32))
        · skip
          refine own_go (fun _ kk_ => XS.icmpNo X33.here hx rfl (hb hby at_129) rfl (teq hc97).2 kk_) ?_
          refine own_go (fun _ kk_ => XS.iconst X33.here hx rfl (hb hby at_132) kk_) ?_
          refine own_go (fun _ kk_ => XS.goto X33.here hx rfl (pc0 := 133) (pc' := 137) rfl (hb hby at_133) (by decide) (by decide) kk_) ?_
          refine own_go (fun _ kk_ => XS.istore X33.here hx rfl (hb hby at_137) rfl (l' := #[.val (.int mode), .val (.int pos), .val (.int c0), .val (.int c1), .val (.int c2), .val (.int (mode &&& (7 : Int32))), .val (.int (c0 &&& (255 : Int32))), .val (.int (c1 &&& (255 : Int32))), .val (.int (c2 &&& (255 : Int32))), .val (.ref b7), .unset, .val (.int (1 : Int32)), .val (.int (1 : Int32)), .unset]) rfl kk_) ?_
          refine own_go (fun _ kk_ => XS.aload X33.here hx rfl (hb hby at_139) rfl rfl kk_) ?_
          refine own_go (fun _ kk_ => XS.iload X33.here hx rfl (hb hby at_141) rfl kk_) ?_
          refine own_go (fun _ kk_ => XS.iload X33.here hx rfl (hb hby at_143) rfl kk_) ?_
          show own_Fin p.tables e below _ (T33.setTop (mkF m 145 #[.val (.int mode), .val (.int pos), .val (.int c0), .val (.int c1), .val (.int c2), .val (.int (mode &&& (7 : Int32))), .val (.int (c0 &&& (255 : Int32))), .val (.int (c1 &&& (255 : Int32))), .val (.int (c2 &&& (255 : Int32))), .val (.ref b7), .unset, .val (.int (1 : Int32)), .val (.int (1 : Int32)), .unset] [(.int (c0 &&& (255 : Int32))), (.int (1 : Int32)), (.ref b7)]))
          obtain ⟨T98, h98, X98, e98, W98, V98, st98⟩ := own_stC X33 hx hZ e33 V7 (by decide) (i := 1) rfl (Nat.le_of_ble_eq_true rfl) (g := (mkF m 145 #[.val (.int mode), .val (.int pos), .val (.int c0), .val (.int c1), .val (.int c2), .val (.int (mode &&& (7 : Int32))), .val (.int (c0 &&& (255 : Int32))), .val (.int (c1 &&& (255 : Int32))), .val (.int (c2 &&& (255 : Int32))), .val (.ref b7), .unset, .val (.int (1 : Int32)), .val (.int (1 : Int32)), .unset] [(.int (c0 &&& (255 : Int32))), (.int (1 : Int32)), (.ref b7)])) rfl rfl (hb hby at_145)
          rw [own_nar255] at V98
          replace V7 : Arv Z h98 b7 k7 .char (9 : Int32) [(.int (100 : Int32)), (.int (c0 &&& (255 : Int32))), (.int (99 : Int32)), (.int (107 : Int32)), (.int (101 : Int32)), (.int (114 : Int32)), (.int (46 : Int32)), (.int (105 : Int32)), (.int (111 : Int32))] (.int (0 : Int32)) := V98
          have N98 := Fr.snoc X98 N33 g_b7
          refine own_go st98 ?_
          have sa99 := S_b7
          replace S_b7 := Safe.wr W98 sa99 CH S_b7
          replace CR := CR.trans (CHr.wr W98 sa99 CH)
          replace CH := CHv.wr W98 sa99 CH
          replace hk := Nat.le_trans hk (Keep.of_wr W98).1
          replace O0 := O0.wr W98 g_b7
          have K100 := K35.wr W98 (Or.inr sz_b7)
          show own_Fin p.tables e below _ (T98.setTop (mkF m 146 #[.val (.int mode), .val (.int pos), .val (.int c0), .val (.int c1), .val (.int c2), .val (.int (mode &&& (7 : Int32))), .val (.int (c0 &&& (255 : Int32))), .val (.int (c1 &&& (255 : Int32))), .val (.int (c2 &&& (255 : Int32))), .val (.ref b7), .unset, .val (.int (1 : Int32)), .val (.int (1 : Int32)), .unset] []))
          obtain ⟨T101, h101, X101, e101, E101, A101, D101, -, st101⟩ := newO X98 hx hZ hown (hw _ (List.mem_of_getElem? (i := 1) rfl)) (hw _ (List.mem_of_getElem? (i := 2) rfl)) (hw _ (List.mem_of_getElem? (i := 3) rfl)) e98 (g := (mkF m 146 #[.val (.int mode), .val (.int pos), .val (.int c0), .val (.int c1), .val (.int c2), .val (.int (mode &&& (7 : Int32))), .val (.int (c0 &&& (255 : Int32))), .val (.int (c1 &&& (255 : Int32))), .val (.int (c2 &&& (255 : Int32))), .val (.ref b7), .unset, .val (.int (1 : Int32)), .val (.int (1 : Int32)), .unset] [])) rfl (hb hby at_146) (by decide) (by decide)
          obtain ⟨b101, g101⟩ : ∃ z, z = h98.size := ⟨_, rfl⟩
          rw [← g101] at A101 D101 st101
          have sz_b101 : h0.size ≤ b101 := Nat.le_trans K100.1 (Nat.le_of_eq g101.symm)
          have g_b101 : n0 ≤ b101 := Nat.le_trans Z0 sz_b101
          have ne102 : b7 ≠ b101 := Nat.ne_of_lt (Nat.lt_of_lt_of_le V7.lt (Nat.le_of_eq g101.symm))
          have S_b101 := Safe.new (Z := Z) (EL := consts_1) (vm := s.vm) (Nat.le_of_eq g101.symm)
          replace S_b7 := Safe.ext E101 CH S_b7
          replace S_b101 := Safe.ext E101 CH S_b101
          replace CR := CR.trans (CHr.ext E101 CH)
          replace CH := CH.ext E101
          replace hk := Nat.le_trans hk E101.1
          replace O0 := O0.ext E101
          replace V7 := V7.ext E101
          have K103 := K100.ext E101
          have F101_coder : Fld Z h101 b101 "java/lang/String" "coder" "B" (.int (0 : Int32)) := D101 (Or.inr (hw _ (List.mem_of_getElem? (i := 27) rfl))) (ty := .byte) (by decide)
          have F101_value : Fld Z h101 b101 "java/lang/String" "value" "[B" .null := D101 (Or.inr (hw _ (List.mem_of_getElem? (i := 29) rfl))) (ty := (.array .byte)) (by decide)
          refine own_go st101 ?_
          refine own_go (fun _ kk_ => XS.dup X101.here hx rfl (hb hby at_149) rfl rfl kk_) ?_
          refine own_go (fun _ kk_ => XS.aload X101.here hx rfl (hb hby at_150) rfl rfl kk_) ?_
          show own_Fin p.tables e below _ (T101.setTop (mkF m 152 #[.val (.int mode), .val (.int pos), .val (.int c0), .val (.int c1), .val (.int c2), .val (.int (mode &&& (7 : Int32))), .val (.int (c0 &&& (255 : Int32))), .val (.int (c1 &&& (255 : Int32))), .val (.int (c2 &&& (255 : Int32))), .val (.ref b7), .unset, .val (.int (1 : Int32)), .val (.int (1 : Int32)), .unset] [(.ref b7), (.ref b101), (.ref b101)]))
          have hp105 : ∀ c ∈ ([(100 : Int32), (c0 &&& (255 : Int32)), (99 : Int32), (107 : Int32), (101 : Int32), (114 : Int32), (46 : Int32), (105 : Int32), (111 : Int32)] : List Int32), ¬ c < 0 ∧ ¬ (255 : Int32) < c := by
            intro c hc
            simp only [List.mem_cons, List.not_mem_nil, or_false] at hc
            rcases hc with rfl | rfl | rfl | rfl | rfl | rfl | rfl | rfl | rfl
            · exact by decide
            · exact own_and255 _
            · exact by decide
            · exact by decide
            · exact by decide
            · exact by decide
            · exact by decide
            · exact by decide
            · exact by decide
          obtain ⟨_, _, ⟨T104, L104, k104, n104⟩, -, X104, ⟨Lc104, hQ104, l104, y104, z104⟩, st104⟩ := X101.specialBack hx (y := (⟨"java/lang/String", "<init>", "([C)V"⟩ : MethodName)) rfl hown (mvT hZ (hw _ (List.mem_of_getElem? (i := 4) rfl))) (mvT hZ (hw _ (List.mem_of_getElem? (i := 5) rfl))) (mvT hZ (hw _ (List.mem_of_getElem? (i := 6) rfl))) (by decide) (StrChars.Road.backV (W := 1) hZ hws (kI := 4) (hw _ (List.mem_of_getElem? (i := 2) rfl)) (cs := ([(100 : Int32), (c0 &&& (255 : Int32)), (99 : Int32), (107 : Int32), (101 : Int32), (114 : Int32), (46 : Int32), (105 : Int32), (111 : Int32)] : List Int32)) (bs := (([(100 : Int32), (c0 &&& (255 : Int32)), (99 : Int32), (107 : Int32), (101 : Int32), (114 : Int32), (46 : Int32), (105 : Int32), (111 : Int32)] : List Int32)).map (fun c => c.toInt8.toInt32)) (n := 9) g_b101 (Nat.le_trans Z0 K103.1) A101 F101_value F101_coder V7 (S_C.ext O0.2) hcs rfl rfl (by decide) (by decide) hp105 rfl (by decide) (by decide)) (g := (mkF m 152 #[.val (.int mode), .val (.int pos), .val (.int c0), .val (.int c1), .val (.int c2), .val (.int (mode &&& (7 : Int32))), .val (.int (c0 &&& (255 : Int32))), .val (.int (c1 &&& (255 : Int32))), .val (.int (c2 &&& (255 : Int32))), .val (.ref b7), .unset, .val (.int (1 : Int32)), .val (.int (1 : Int32)), .unset] [(.ref b7), (.ref b101), (.ref b101)])) rfl (by rw [hml]; rfl) (Steps.refl _) (a := b101) (argsL := [(.ref b7)]) (rest := [(.ref b101)]) (lenOf pd_3 rfl) rfl (by show 2 * 0 + _ ≤ _; exact Nat.le_of_eq rfl) (hb hby at_152) (fun _ _ => ⟨rfl, e101, (by decide : 2 + 1 ≤ _), (by decide : 13 + 9 ≤ _)⟩)
          dsimp only [Pt.U, Pt.locs, Pt.cells, Pt.slots] at X104 l104 y104 z104 st104 hQ104
          subst l104 y104 z104
          obtain ⟨rfl, N104q, KK104, EE104, FC104, t104, kb104, gt104, szt104, netx104, FV104, VV104⟩ := hQ104
          have N104 := Fr.app N98 N104q
          have SS104 : own_Str Z T104.heap b101 t104 ([(100 : Int32), (c0 &&& (255 : Int32)), (99 : Int32), (107 : Int32), (101 : Int32), (114 : Int32), (46 : Int32), (105 : Int32), (111 : Int32)] : List Int32) := ⟨_, _, _, _, EE104, FV104, FC104, VV104, StrChars.Road.codOf (n := 9) rfl (fun c hc => (hp105 c hc).2), own_up _ hp105, Nat.le_of_ble_eq_true rfl⟩
          have sz_t104 : h0.size ≤ t104 := Nat.le_trans K103.1 szt104
          have ne106 : b7 ≠ t104 := Nat.ne_of_lt (Nat.lt_of_lt_of_le V7.lt szt104)
          have ne107 : b101 ≠ t104 := Nat.ne_of_lt (Nat.lt_of_lt_of_le A101.lt szt104)
          have S_t104 := Safe.new (Z := Z) (EL := consts_1) (vm := s.vm) szt104
          have hs108 : ∀ x ∈ [b101], Safe Z consts_1 s.vm h101 x := (sfS S_b101 sf0)
          replace S_b7 := Safe.keep KK104 hs108 CH S_b7
          replace S_b101 := Safe.keep KK104 hs108 CH S_b101
          replace S_t104 := Safe.keep KK104 hs108 CH S_t104
          replace CR := CR.trans (CHr.keep KK104 hs108 CH)
          replace CH := CHv.keep KK104 hs108 CH
          replace hk := Nat.le_trans hk KK104.1
          replace O0 := O0.keep KK104 (allS g_b101 (all0))
          replace V7 := V7.keep KK104 (ninS ne102 nin0)
          replace A101 := A101.keep KK104
          have K109 := K103.trans KK104 (allS (Or.inr sz_b101) all0)
          refine own_go (fun _ kk_ => st104.trans kk_) ?_
          refine own_go (fun _ kk_ => XS.astore X104.here hx rfl (hb hby at_155) rfl rfl (l' := #[.val (.int mode), .val (.int pos), .val (.int c0), .val (.int c1), .val (.int c2), .val (.int (mode &&& (7 : Int32))), .val (.int (c0 &&& (255 : Int32))), .val (.int (c1 &&& (255 : Int32))), .val (.int (c2 &&& (255 : Int32))), .val (.ref b7), .val (.ref b101), .val (.int (1 : Int32)), .val (.int (1 : Int32)), .unset]) rfl kk_) ?_
          refine own_go (fun _ kk_ => XS.goto X104.here hx rfl (pc0 := 157) (pc' := 397) rfl (hb hby at_157) (by decide) (by decide) kk_) ?_
          refine own_go (fun _ kk_ => XS.iload X104.here hx rfl (hb hby at_397) rfl kk_) ?_
          show own_Fin p.tables e below _ (T104.setTop (mkF m 399 #[.val (.int mode), .val (.int pos), .val (.int c0), .val (.int c1), .val (.int c2), .val (.int (mode &&& (7 : Int32))), .val (.int (c0 &&& (255 : Int32))), .val (.int (c1 &&& (255 : Int32))), .val (.int (c2 &&& (255 : Int32))), .val (.ref b7), .val (.ref b101), .val (.int (1 : Int32)), .val (.int (1 : Int32)), .unset] [(.int (1 : Int32))]))
          refine own_go (fun _ kk_ => XS.ifNo X104.here hx rfl (hb hby at_399) rfl ((if0 _ _).trans (feq (by decide : ¬ (1 : Int32) = (0 : Int32))).1) kk_) ?_
          show own_Fin p.tables e below _ (T104.setTop (mkF m 402 #[.val (.int mode), .val (.int pos), .val (.int c0), .val (.int c1), .val (.int c2), .val (.int (mode &&& (7 : Int32))), .val (.int (c0 &&& (255 : Int32))), .val (.int (c1 &&& (255 : Int32))), .val (.int (c2 &&& (255 : Int32))), .val (.ref b7), .val (.ref b101), .val (.int (1 : Int32)), .val (.int (1 : Int32)), .unset] []))
          obtain ⟨a110, T110, h110, k110, tb110, kb110, X110, e110, E110, hS, hk, hZ, hown, EA110, FC110, FV110, VB110, -, -, CR110, -, NE110, st110⟩ := ldcCH X104 hx hZ hown (hw _ (List.mem_of_getElem? (i := 30) rfl)) wS rfl hS hk hEL (by decide) CH (vs := ((([(104 : Int32), (116 : Int32), (116 : Int32), (112 : Int32), (115 : Int32), (58 : Int32), (47 : Int32), (47 : Int32), (105 : Int32), (110 : Int32), (100 : Int32), (101 : Int32), (120 : Int32), (46 : Int32), (100 : Int32), (111 : Int32), (99 : Int32), (107 : Int32), (101 : Int32), (114 : Int32), (46 : Int32), (105 : Int32), (111 : Int32), (47 : Int32), (118 : Int32), (49 : Int32), (47 : Int32)] : List Int32).map (fun c => c.toInt8.toInt32)).map Value.int)) (z := (27 : Int32)) (by exact ⟨by decide, by decide⟩) (by decide) rfl (g := (mkF m 402 #[.val (.int mode), .val (.int pos), .val (.int c0), .val (.int c1), .val (.int c2), .val (.int (mode &&& (7 : Int32))), .val (.int (c0 &&& (255 : Int32))), .val (.int (c1 &&& (255 : Int32))), .val (.int (c2 &&& (255 : Int32))), .val (.ref b7), .val (.ref b101), .val (.int (1 : Int32)), .val (.int (1 : Int32)), .unset] [])) rfl (hb hby at_402) (n := 108) (by decide) (by decide) (by decide) (by decide)
          replace S_b7 := CR110.safe V7.lt S_b7
          replace S_b101 := CR110.safe SS104.lt S_b101
          replace S_t104 := CR110.safe SS104.ltt S_t104
          replace CR := CR.trans CR110
          replace CH := CR110.1
          replace O0 := O0.ext E110
          replace V7 := V7.ext E110
          replace SS104 := SS104.ext E110
          have K111 := K109.ext E110
          have ne112 : b7 ≠ a110 := (NE110 _ S_b7).1
          have ne113 : b7 ≠ tb110 := (NE110 _ S_b7).2
          have ne114 : b101 ≠ a110 := (NE110 _ S_b101).1
          have ne115 : b101 ≠ tb110 := (NE110 _ S_b101).2
          have ne116 : t104 ≠ a110 := (NE110 _ S_t104).1
          have ne117 : t104 ≠ tb110 := (NE110 _ S_t104).2
          have SS110 : own_Str Z h110 a110 tb110 ([(104 : Int32), (116 : Int32), (116 : Int32), (112 : Int32), (115 : Int32), (58 : Int32), (47 : Int32), (47 : Int32), (105 : Int32), (110 : Int32), (100 : Int32), (101 : Int32), (120 : Int32), (46 : Int32), (100 : Int32), (111 : Int32), (99 : Int32), (107 : Int32), (101 : Int32), (114 : Int32), (46 : Int32), (105 : Int32), (111 : Int32), (47 : Int32), (118 : Int32), (49 : Int32), (47 : Int32)] : List Int32) := ⟨_, _, _, _, EA110, FV110, FC110, VB110, StrChars.Road.codOf (n := 27) rfl (by decide), by decide, Nat.le_of_ble_eq_true rfl⟩
          refine own_go st110 ?_
          refine own_go (fun _ kk_ => XS.goto X110.here hx rfl (pc0 := 404) (pc' := 409) rfl (hb hby at_404) (by decide) (by decide) kk_) ?_
          refine own_go (fun _ kk_ => XS.astore X110.here hx rfl (hb hby at_409) rfl rfl (l' := #[.val (.int mode), .val (.int pos), .val (.int c0), .val (.int c1), .val (.int c2), .val (.int (mode &&& (7 : Int32))), .val (.int (c0 &&& (255 : Int32))), .val (.int (c1 &&& (255 : Int32))), .val (.int (c2 &&& (255 : Int32))), .val (.ref b7), .val (.ref b101), .val (.int (1 : Int32)), .val (.ref a110), .unset]) rfl kk_) ?_
          refine own_go (fun _ kk_ => XS.aload X110.here hx rfl (hb hby at_411) rfl rfl kk_) ?_
          show own_Fin p.tables e below _ (T110.setTop (mkF m 413 #[.val (.int mode), .val (.int pos), .val (.int c0), .val (.int c1), .val (.int c2), .val (.int (mode &&& (7 : Int32))), .val (.int (c0 &&& (255 : Int32))), .val (.int (c1 &&& (255 : Int32))), .val (.int (c2 &&& (255 : Int32))), .val (.ref b7), .val (.ref b101), .val (.int (1 : Int32)), .val (.ref a110), .unset] [(.ref b101)]))
          obtain ⟨_, _, ⟨T118, L118, k118, n118⟩, -, X118, hSn118, hgr118, ⟨Lc118, hQ118, l118, y118, z118, CR118⟩, st118⟩ := callSS X110 hx (y := (⟨"com/example/laminate/laminate/core/DefaultRegistry", "credentialsKey", "(Ljava/lang/String;)Ljava/lang/String;"⟩ : MethodName)) hown (mvT hZ (hw _ (List.mem_of_getElem? (i := 33) rfl))) (mvT hZ (hw _ (List.mem_of_getElem? (i := 34) rfl))) (mvT hZ (hw _ (List.mem_of_getElem? (i := 35) rfl))) (mvT hZ (hw _ (List.mem_of_getElem? (i := 36) rfl))) (by decide) (backOfSH (s := s) (W := 0) (rm_ck l Z a0 hw [] hEL b101 t104 ([(100 : Int32), (c0 &&& (255 : Int32)), (99 : Int32), (107 : Int32), (101 : Int32), (114 : Int32), (46 : Int32), (105 : Int32), (111 : Int32)] : List Int32) gc h110 n0 (Nat.le_trans Z0 K111.1) SS104 S_C hcs O0) hZ (hw _ (List.mem_of_getElem? (i := 36) rfl)) (hw _ (List.mem_of_getElem? (i := 35) rfl)) (by decide) (by decide) hEL CH) (g := (mkF m 413 #[.val (.int mode), .val (.int pos), .val (.int c0), .val (.int c1), .val (.int c2), .val (.int (mode &&& (7 : Int32))), .val (.int (c0 &&& (255 : Int32))), .val (.int (c1 &&& (255 : Int32))), .val (.int (c2 &&& (255 : Int32))), .val (.ref b7), .val (.ref b101), .val (.int (1 : Int32)), .val (.ref a110), .unset] [(.ref b101)])) rfl (by rw [hml]; rfl) (argsL := [(.ref b101)]) (rest := []) (lenOf pd_4 rfl) rfl (by show 2 * 0 + _ ≤ _; exact Nat.le_of_eq rfl) (hb hby at_413) (fun _ _ => ⟨rfl, e110, (by decide : 5 + 4 ≤ _), (by decide : 134 + 152 ≤ _)⟩)
          dsimp only [Pt.U, Pt.locs, Pt.cells, Pt.slots] at X118 l118 y118 z118 st118 hQ118 hSn118 hgr118 CR118
          subst l118 y118 z118
          replace hS := foldS hS (show _ ≤ T110.heap.size by rw [e110]; exact hk) hSn118 hgr118
          replace hk : T118.heap.size ≤ T118.heap.size := Nat.le_refl _
          replace hZ : Z.Warmed39 (s.setVm T118.vm).vm := State.Warmed39.trans (t := s.setVm T110.vm) hZ hSn118.1
          replace hown : (s.setVm T118.vm).vm.findClass "com/example/laminate/laminate/core/DefaultRegistryCredentialsKeyPinLaw" = some m.cls := by rw [show (s.setVm T118.vm).vm = T118.vm from rfl, hSn118.1.alike.findClass]; exact hown
          replace X118 : Stand p l e room_1 (s.setVm T118.vm) m #[(.int mode), (.int pos), (.int c0), (.int c1), (.int c2)] below meth c T118 _ _ _ := X118
          replace S_b7 := CR118.safe V7.lt S_b7
          replace S_b101 := CR118.safe SS104.lt S_b101
          replace S_t104 := CR118.safe SS104.ltt S_t104
          replace CR := CR.trans CR118
          replace CH := CR118.1
          obtain ⟨N118q, KK118, hy118, hn118⟩ := hQ118
          have N118 := Fr.app N104 N118q
          obtain ⟨ra118, rb118, rfl, SR118⟩ := hy118 (by rw [← hc97])
          replace O0 := O0.keep KK118 all0
          replace V7 := V7.keep KK118 nin0
          replace SS104 := SS104.keep KK118 nin0 nin0
          replace SS110 := SS110.keep KK118 nin0 nin0
          have K119 := K111.trans KK118 all0
          refine own_go (fun _ kk_ => st118.trans kk_) ?_
          refine own_go (fun _ kk_ => XS.astore X118.here hx rfl (hb hby at_416) rfl rfl (l' := #[.val (.int mode), .val (.int pos), .val (.int c0), .val (.int c1), .val (.int c2), .val (.int (mode &&& (7 : Int32))), .val (.int (c0 &&& (255 : Int32))), .val (.int (c1 &&& (255 : Int32))), .val (.int (c2 &&& (255 : Int32))), .val (.ref b7), .val (.ref b101), .val (.int (1 : Int32)), .val (.ref a110), .val (.ref ra118)]) rfl kk_) ?_
          refine own_go (fun _ kk_ => XS.aload X118.here hx rfl (hb hby at_418) rfl rfl kk_) ?_
          refine own_go (fun _ kk_ => XS.aload X118.here hx rfl (hb hby at_420) rfl rfl kk_) ?_
          show own_Fin p.tables e below _ (T118.setTop (mkF m 422 #[.val (.int mode), .val (.int pos), .val (.int c0), .val (.int c1), .val (.int c2), .val (.int (mode &&& (7 : Int32))), .val (.int (c0 &&& (255 : Int32))), .val (.int (c1 &&& (255 : Int32))), .val (.int (c2 &&& (255 : Int32))), .val (.ref b7), .val (.ref b101), .val (.int (1 : Int32)), .val (.ref a110), .val (.ref ra118)] [(.ref ra118), (.ref a110)]))
          obtain ⟨cq120, kq120, qa120, qb120, qc120⟩ := isOf hZ rfl SS110.exa
          obtain ⟨_, _, ⟨T120, L120, k120, n120⟩, -, X120, ⟨Lc120, hQ120, l120, y120, z120⟩, st120⟩ := X118.virtualBack hx (y := (⟨"java/lang/String", "equals", "(Ljava/lang/Object;)Z"⟩ : MethodName)) (z := (⟨"java/lang/String", "equals", "(Ljava/lang/Object;)Z"⟩ : MethodName)) hown (mvT hZ (hw _ (List.mem_of_getElem? (i := 49) rfl))) (mvT hZ (hw _ (List.mem_of_getElem? (i := 39) rfl))) (own_notface (args := #[]) (mvT hZ (hw _ (List.mem_of_getElem? (i := 41) rfl))) rfl) (mvT hZ (hw _ (List.mem_of_getElem? (i := 41) rfl))) (mvT hZ (hw _ (List.mem_of_getElem? (i := 40) rfl))) (by decide) (own_eqB (W := 0) hZ heq (hw _ (List.mem_of_getElem? (i := 2) rfl)) SS110 SR118 (S_C.ext O0.2) hcs (by decide) (by decide)) qa120 qc120 (g := (mkF m 422 #[.val (.int mode), .val (.int pos), .val (.int c0), .val (.int c1), .val (.int c2), .val (.int (mode &&& (7 : Int32))), .val (.int (c0 &&& (255 : Int32))), .val (.int (c1 &&& (255 : Int32))), .val (.int (c2 &&& (255 : Int32))), .val (.ref b7), .val (.ref b101), .val (.int (1 : Int32)), .val (.ref a110), .val (.ref ra118)] [(.ref ra118), (.ref a110)])) rfl (by rw [hml]; rfl) (Steps.refl _) (argsL := [(.ref ra118)]) (rest := []) (lenOf pd_1 rfl) rfl (by show 2 * 0 + _ ≤ _; exact Nat.le_of_eq rfl) (hb hby at_422) (fun _ _ => ⟨rfl, rfl, (by decide : 9 + 0 ≤ _), (by decide : 286 + 0 ≤ _)⟩)
          dsimp only [Pt.U, Pt.locs, Pt.cells, Pt.slots] at X120 l120 y120 z120 st120 hQ120
          subst l120 y120 z120
          obtain ⟨hq120, rfl, e120⟩ := hQ120
          obtain ⟨z120, rfl, hz120⟩ := own_eqv hq120
          have N120 := Fr.app N118 (Fr.nil n0)
          obtain rfl : z120 = 1 := hz120.elim (fun q => q.1) (fun q => absurd rfl q.2)
          refine own_go (fun _ kk_ => st120.trans kk_) ?_
          show own_Fin p.tables e below _ (T120.setTop (mkF m 425 #[.val (.int mode), .val (.int pos), .val (.int c0), .val (.int c1), .val (.int c2), .val (.int (mode &&& (7 : Int32))), .val (.int (c0 &&& (255 : Int32))), .val (.int (c1 &&& (255 : Int32))), .val (.int (c2 &&& (255 : Int32))), .val (.ref b7), .val (.ref b101), .val (.int (1 : Int32)), .val (.ref a110), .val (.ref ra118)] [(.int (1 : Int32))]))
          have CRz : CHr Z consts_1 s.vm s.heap T120.vm T120.heap := by
            rw [hh, e120]
            exact CR.trans (CHv.at X120 hZ hEL CH)
          refine own_retW X120 hx Bd hS (show _ ≤ T120.heap.size by rw [e120]; exact hk) (t := .boolean) Bd.returns rfl (Or.inl ⟨rfl, by simp, _, rfl⟩) (hb hby at_425) CRz ?_ (by decide) (by decide)
          show (Q_rm_law Z mode pos c0 c1 c2 gc h0 n0) (some (.int (1 : Int32))) T120.heap _
          rw [e120]
          exact ⟨rfl, N120⟩
        · skip
          refine own_go (fun _ kk_ => XS.icmpYes X33.here hx rfl (pc0 := 129) (pc' := 136) rfl (hb hby at_129) rfl (feq hc97).2 (by decide) (by decide) kk_) ?_
          refine own_go (fun _ kk_ => XS.iconst X33.here hx rfl (hb hby at_136) kk_) ?_
          refine own_go (fun _ kk_ => XS.istore X33.here hx rfl (hb hby at_137) rfl (l' := #[.val (.int mode), .val (.int pos), .val (.int c0), .val (.int c1), .val (.int c2), .val (.int (mode &&& (7 : Int32))), .val (.int (c0 &&& (255 : Int32))), .val (.int (c1 &&& (255 : Int32))), .val (.int (c2 &&& (255 : Int32))), .val (.ref b7), .unset, .val (.int (0 : Int32)), .val (.int (1 : Int32)), .unset]) rfl kk_) ?_
          refine own_go (fun _ kk_ => XS.aload X33.here hx rfl (hb hby at_139) rfl rfl kk_) ?_
          refine own_go (fun _ kk_ => XS.iload X33.here hx rfl (hb hby at_141) rfl kk_) ?_
          refine own_go (fun _ kk_ => XS.iload X33.here hx rfl (hb hby at_143) rfl kk_) ?_
          show own_Fin p.tables e below _ (T33.setTop (mkF m 145 #[.val (.int mode), .val (.int pos), .val (.int c0), .val (.int c1), .val (.int c2), .val (.int (mode &&& (7 : Int32))), .val (.int (c0 &&& (255 : Int32))), .val (.int (c1 &&& (255 : Int32))), .val (.int (c2 &&& (255 : Int32))), .val (.ref b7), .unset, .val (.int (0 : Int32)), .val (.int (1 : Int32)), .unset] [(.int (c0 &&& (255 : Int32))), (.int (1 : Int32)), (.ref b7)]))
          obtain ⟨T121, h121, X121, e121, W121, V121, st121⟩ := own_stC X33 hx hZ e33 V7 (by decide) (i := 1) rfl (Nat.le_of_ble_eq_true rfl) (g := (mkF m 145 #[.val (.int mode), .val (.int pos), .val (.int c0), .val (.int c1), .val (.int c2), .val (.int (mode &&& (7 : Int32))), .val (.int (c0 &&& (255 : Int32))), .val (.int (c1 &&& (255 : Int32))), .val (.int (c2 &&& (255 : Int32))), .val (.ref b7), .unset, .val (.int (0 : Int32)), .val (.int (1 : Int32)), .unset] [(.int (c0 &&& (255 : Int32))), (.int (1 : Int32)), (.ref b7)])) rfl rfl (hb hby at_145)
          rw [own_nar255] at V121
          replace V7 : Arv Z h121 b7 k7 .char (9 : Int32) [(.int (100 : Int32)), (.int (c0 &&& (255 : Int32))), (.int (99 : Int32)), (.int (107 : Int32)), (.int (101 : Int32)), (.int (114 : Int32)), (.int (46 : Int32)), (.int (105 : Int32)), (.int (111 : Int32))] (.int (0 : Int32)) := V121
          have N121 := Fr.snoc X121 N33 g_b7
          refine own_go st121 ?_
          have sa122 := S_b7
          replace S_b7 := Safe.wr W121 sa122 CH S_b7
          replace CR := CR.trans (CHr.wr W121 sa122 CH)
          replace CH := CHv.wr W121 sa122 CH
          replace hk := Nat.le_trans hk (Keep.of_wr W121).1
          replace O0 := O0.wr W121 g_b7
          have K123 := K35.wr W121 (Or.inr sz_b7)
          show own_Fin p.tables e below _ (T121.setTop (mkF m 146 #[.val (.int mode), .val (.int pos), .val (.int c0), .val (.int c1), .val (.int c2), .val (.int (mode &&& (7 : Int32))), .val (.int (c0 &&& (255 : Int32))), .val (.int (c1 &&& (255 : Int32))), .val (.int (c2 &&& (255 : Int32))), .val (.ref b7), .unset, .val (.int (0 : Int32)), .val (.int (1 : Int32)), .unset] []))
          obtain ⟨T124, h124, X124, e124, E124, A124, D124, -, st124⟩ := newO X121 hx hZ hown (hw _ (List.mem_of_getElem? (i := 1) rfl)) (hw _ (List.mem_of_getElem? (i := 2) rfl)) (hw _ (List.mem_of_getElem? (i := 3) rfl)) e121 (g := (mkF m 146 #[.val (.int mode), .val (.int pos), .val (.int c0), .val (.int c1), .val (.int c2), .val (.int (mode &&& (7 : Int32))), .val (.int (c0 &&& (255 : Int32))), .val (.int (c1 &&& (255 : Int32))), .val (.int (c2 &&& (255 : Int32))), .val (.ref b7), .unset, .val (.int (0 : Int32)), .val (.int (1 : Int32)), .unset] [])) rfl (hb hby at_146) (by decide) (by decide)
          obtain ⟨b124, g124⟩ : ∃ z, z = h121.size := ⟨_, rfl⟩
          rw [← g124] at A124 D124 st124
          have sz_b124 : h0.size ≤ b124 := Nat.le_trans K123.1 (Nat.le_of_eq g124.symm)
          have g_b124 : n0 ≤ b124 := Nat.le_trans Z0 sz_b124
          have ne125 : b7 ≠ b124 := Nat.ne_of_lt (Nat.lt_of_lt_of_le V7.lt (Nat.le_of_eq g124.symm))
          have S_b124 := Safe.new (Z := Z) (EL := consts_1) (vm := s.vm) (Nat.le_of_eq g124.symm)
          replace S_b7 := Safe.ext E124 CH S_b7
          replace S_b124 := Safe.ext E124 CH S_b124
          replace CR := CR.trans (CHr.ext E124 CH)
          replace CH := CH.ext E124
          replace hk := Nat.le_trans hk E124.1
          replace O0 := O0.ext E124
          replace V7 := V7.ext E124
          have K126 := K123.ext E124
          have F124_coder : Fld Z h124 b124 "java/lang/String" "coder" "B" (.int (0 : Int32)) := D124 (Or.inr (hw _ (List.mem_of_getElem? (i := 27) rfl))) (ty := .byte) (by decide)
          have F124_value : Fld Z h124 b124 "java/lang/String" "value" "[B" .null := D124 (Or.inr (hw _ (List.mem_of_getElem? (i := 29) rfl))) (ty := (.array .byte)) (by decide)
          refine own_go st124 ?_
          refine own_go (fun _ kk_ => XS.dup X124.here hx rfl (hb hby at_149) rfl rfl kk_) ?_
          refine own_go (fun _ kk_ => XS.aload X124.here hx rfl (hb hby at_150) rfl rfl kk_) ?_
          show own_Fin p.tables e below _ (T124.setTop (mkF m 152 #[.val (.int mode), .val (.int pos), .val (.int c0), .val (.int c1), .val (.int c2), .val (.int (mode &&& (7 : Int32))), .val (.int (c0 &&& (255 : Int32))), .val (.int (c1 &&& (255 : Int32))), .val (.int (c2 &&& (255 : Int32))), .val (.ref b7), .unset, .val (.int (0 : Int32)), .val (.int (1 : Int32)), .unset] [(.ref b7), (.ref b124), (.ref b124)]))
          have hp128 : ∀ c ∈ ([(100 : Int32), (c0 &&& (255 : Int32)), (99 : Int32), (107 : Int32), (101 : Int32), (114 : Int32), (46 : Int32), (105 : Int32), (111 : Int32)] : List Int32), ¬ c < 0 ∧ ¬ (255 : Int32) < c := by
            intro c hc
            simp only [List.mem_cons, List.not_mem_nil, or_false] at hc
            rcases hc with rfl | rfl | rfl | rfl | rfl | rfl | rfl | rfl | rfl
            · exact by decide
            · exact own_and255 _
            · exact by decide
            · exact by decide
            · exact by decide
            · exact by decide
            · exact by decide
            · exact by decide
            · exact by decide
          obtain ⟨_, _, ⟨T127, L127, k127, n127⟩, -, X127, ⟨Lc127, hQ127, l127, y127, z127⟩, st127⟩ := X124.specialBack hx (y := (⟨"java/lang/String", "<init>", "([C)V"⟩ : MethodName)) rfl hown (mvT hZ (hw _ (List.mem_of_getElem? (i := 4) rfl))) (mvT hZ (hw _ (List.mem_of_getElem? (i := 5) rfl))) (mvT hZ (hw _ (List.mem_of_getElem? (i := 6) rfl))) (by decide) (StrChars.Road.backV (W := 1) hZ hws (kI := 4) (hw _ (List.mem_of_getElem? (i := 2) rfl)) (cs := ([(100 : Int32), (c0 &&& (255 : Int32)), (99 : Int32), (107 : Int32), (101 : Int32), (114 : Int32), (46 : Int32), (105 : Int32), (111 : Int32)] : List Int32)) (bs := (([(100 : Int32), (c0 &&& (255 : Int32)), (99 : Int32), (107 : Int32), (101 : Int32), (114 : Int32), (46 : Int32), (105 : Int32), (111 : Int32)] : List Int32)).map (fun c => c.toInt8.toInt32)) (n := 9) g_b124 (Nat.le_trans Z0 K126.1) A124 F124_value F124_coder V7 (S_C.ext O0.2) hcs rfl rfl (by decide) (by decide) hp128 rfl (by decide) (by decide)) (g := (mkF m 152 #[.val (.int mode), .val (.int pos), .val (.int c0), .val (.int c1), .val (.int c2), .val (.int (mode &&& (7 : Int32))), .val (.int (c0 &&& (255 : Int32))), .val (.int (c1 &&& (255 : Int32))), .val (.int (c2 &&& (255 : Int32))), .val (.ref b7), .unset, .val (.int (0 : Int32)), .val (.int (1 : Int32)), .unset] [(.ref b7), (.ref b124), (.ref b124)])) rfl (by rw [hml]; rfl) (Steps.refl _) (a := b124) (argsL := [(.ref b7)]) (rest := [(.ref b124)]) (lenOf pd_3 rfl) rfl (by show 2 * 0 + _ ≤ _; exact Nat.le_of_eq rfl) (hb hby at_152) (fun _ _ => ⟨rfl, e124, (by decide : 2 + 1 ≤ _), (by decide : 13 + 9 ≤ _)⟩)
          dsimp only [Pt.U, Pt.locs, Pt.cells, Pt.slots] at X127 l127 y127 z127 st127 hQ127
          subst l127 y127 z127
          obtain ⟨rfl, N127q, KK127, EE127, FC127, t127, kb127, gt127, szt127, netx127, FV127, VV127⟩ := hQ127
          have N127 := Fr.app N121 N127q
          have SS127 : own_Str Z T127.heap b124 t127 ([(100 : Int32), (c0 &&& (255 : Int32)), (99 : Int32), (107 : Int32), (101 : Int32), (114 : Int32), (46 : Int32), (105 : Int32), (111 : Int32)] : List Int32) := ⟨_, _, _, _, EE127, FV127, FC127, VV127, StrChars.Road.codOf (n := 9) rfl (fun c hc => (hp128 c hc).2), own_up _ hp128, Nat.le_of_ble_eq_true rfl⟩
          have sz_t127 : h0.size ≤ t127 := Nat.le_trans K126.1 szt127
          have ne129 : b7 ≠ t127 := Nat.ne_of_lt (Nat.lt_of_lt_of_le V7.lt szt127)
          have ne130 : b124 ≠ t127 := Nat.ne_of_lt (Nat.lt_of_lt_of_le A124.lt szt127)
          have S_t127 := Safe.new (Z := Z) (EL := consts_1) (vm := s.vm) szt127
          have hs131 : ∀ x ∈ [b124], Safe Z consts_1 s.vm h124 x := (sfS S_b124 sf0)
          replace S_b7 := Safe.keep KK127 hs131 CH S_b7
          replace S_b124 := Safe.keep KK127 hs131 CH S_b124
          replace S_t127 := Safe.keep KK127 hs131 CH S_t127
          replace CR := CR.trans (CHr.keep KK127 hs131 CH)
          replace CH := CHv.keep KK127 hs131 CH
          replace hk := Nat.le_trans hk KK127.1
          replace O0 := O0.keep KK127 (allS g_b124 (all0))
          replace V7 := V7.keep KK127 (ninS ne125 nin0)
          replace A124 := A124.keep KK127
          have K132 := K126.trans KK127 (allS (Or.inr sz_b124) all0)
          refine own_go (fun _ kk_ => st127.trans kk_) ?_
          refine own_go (fun _ kk_ => XS.astore X127.here hx rfl (hb hby at_155) rfl rfl (l' := #[.val (.int mode), .val (.int pos), .val (.int c0), .val (.int c1), .val (.int c2), .val (.int (mode &&& (7 : Int32))), .val (.int (c0 &&& (255 : Int32))), .val (.int (c1 &&& (255 : Int32))), .val (.int (c2 &&& (255 : Int32))), .val (.ref b7), .val (.ref b124), .val (.int (0 : Int32)), .val (.int (1 : Int32)), .unset]) rfl kk_) ?_
          refine own_go (fun _ kk_ => XS.goto X127.here hx rfl (pc0 := 157) (pc' := 397) rfl (hb hby at_157) (by decide) (by decide) kk_) ?_
          refine own_go (fun _ kk_ => XS.iload X127.here hx rfl (hb hby at_397) rfl kk_) ?_
          show own_Fin p.tables e below _ (T127.setTop (mkF m 399 #[.val (.int mode), .val (.int pos), .val (.int c0), .val (.int c1), .val (.int c2), .val (.int (mode &&& (7 : Int32))), .val (.int (c0 &&& (255 : Int32))), .val (.int (c1 &&& (255 : Int32))), .val (.int (c2 &&& (255 : Int32))), .val (.ref b7), .val (.ref b124), .val (.int (0 : Int32)), .val (.int (1 : Int32)), .unset] [(.int (0 : Int32))]))
          refine own_go (fun _ kk_ => XS.ifYes X127.here hx rfl (pc0 := 399) (pc' := 407) rfl (hb hby at_399) rfl ((if0 _ _).trans (teq (by decide : (0 : Int32) = (0 : Int32))).1) (by decide) (by decide) kk_) ?_
          refine own_go (fun _ kk_ => XS.aload X127.here hx rfl (hb hby at_407) rfl rfl kk_) ?_
          refine own_go (fun _ kk_ => XS.astore X127.here hx rfl (hb hby at_409) rfl rfl (l' := #[.val (.int mode), .val (.int pos), .val (.int c0), .val (.int c1), .val (.int c2), .val (.int (mode &&& (7 : Int32))), .val (.int (c0 &&& (255 : Int32))), .val (.int (c1 &&& (255 : Int32))), .val (.int (c2 &&& (255 : Int32))), .val (.ref b7), .val (.ref b124), .val (.int (0 : Int32)), .val (.ref b124), .unset]) rfl kk_) ?_
          refine own_go (fun _ kk_ => XS.aload X127.here hx rfl (hb hby at_411) rfl rfl kk_) ?_
          show own_Fin p.tables e below _ (T127.setTop (mkF m 413 #[.val (.int mode), .val (.int pos), .val (.int c0), .val (.int c1), .val (.int c2), .val (.int (mode &&& (7 : Int32))), .val (.int (c0 &&& (255 : Int32))), .val (.int (c1 &&& (255 : Int32))), .val (.int (c2 &&& (255 : Int32))), .val (.ref b7), .val (.ref b124), .val (.int (0 : Int32)), .val (.ref b124), .unset] [(.ref b124)]))
          obtain ⟨_, _, ⟨T133, L133, k133, n133⟩, -, X133, hSn133, hgr133, ⟨Lc133, hQ133, l133, y133, z133, CR133⟩, st133⟩ := callSS X127 hx (y := (⟨"com/example/laminate/laminate/core/DefaultRegistry", "credentialsKey", "(Ljava/lang/String;)Ljava/lang/String;"⟩ : MethodName)) hown (mvT hZ (hw _ (List.mem_of_getElem? (i := 33) rfl))) (mvT hZ (hw _ (List.mem_of_getElem? (i := 34) rfl))) (mvT hZ (hw _ (List.mem_of_getElem? (i := 35) rfl))) (mvT hZ (hw _ (List.mem_of_getElem? (i := 36) rfl))) (by decide) (backOfSH (s := s) (W := 0) (rm_ck l Z a0 hw [] hEL b124 t127 ([(100 : Int32), (c0 &&& (255 : Int32)), (99 : Int32), (107 : Int32), (101 : Int32), (114 : Int32), (46 : Int32), (105 : Int32), (111 : Int32)] : List Int32) gc T127.heap n0 (Nat.le_trans Z0 K132.1) SS127 S_C hcs O0) hZ (hw _ (List.mem_of_getElem? (i := 36) rfl)) (hw _ (List.mem_of_getElem? (i := 35) rfl)) (by decide) (by decide) hEL CH) (g := (mkF m 413 #[.val (.int mode), .val (.int pos), .val (.int c0), .val (.int c1), .val (.int c2), .val (.int (mode &&& (7 : Int32))), .val (.int (c0 &&& (255 : Int32))), .val (.int (c1 &&& (255 : Int32))), .val (.int (c2 &&& (255 : Int32))), .val (.ref b7), .val (.ref b124), .val (.int (0 : Int32)), .val (.ref b124), .unset] [(.ref b124)])) rfl (by rw [hml]; rfl) (argsL := [(.ref b124)]) (rest := []) (lenOf pd_4 rfl) rfl (by show 2 * 0 + _ ≤ _; exact Nat.le_of_eq rfl) (hb hby at_413) (fun _ _ => ⟨rfl, rfl, (by decide : 3 + 4 ≤ _), (by decide : 22 + 152 ≤ _)⟩)
          dsimp only [Pt.U, Pt.locs, Pt.cells, Pt.slots] at X133 l133 y133 z133 st133 hQ133 hSn133 hgr133 CR133
          subst l133 y133 z133
          replace hS := foldS hS hk hSn133 hgr133
          replace hk : T133.heap.size ≤ T133.heap.size := Nat.le_refl _
          replace hZ : Z.Warmed39 (s.setVm T133.vm).vm := State.Warmed39.trans (t := s.setVm s.vm) hZ hSn133.1
          replace hown : (s.setVm T133.vm).vm.findClass "com/example/laminate/laminate/core/DefaultRegistryCredentialsKeyPinLaw" = some m.cls := by rw [show (s.setVm T133.vm).vm = T133.vm from rfl, hSn133.1.alike.findClass]; exact hown
          replace X133 : Stand p l e room_1 (s.setVm T133.vm) m #[(.int mode), (.int pos), (.int c0), (.int c1), (.int c2)] below meth c T133 _ _ _ := X133
          replace S_b7 := CR133.safe V7.lt S_b7
          replace S_b124 := CR133.safe SS127.lt S_b124
          replace S_t127 := CR133.safe SS127.ltt S_t127
          replace CR := CR.trans CR133
          replace CH := CR133.1
          obtain ⟨N133q, KK133, hy133, hn133⟩ := hQ133
          have N133 := Fr.app N127 N133q
          obtain rfl := hn133 (by simp; exact fun q => hc97 q.symm)
          replace O0 := O0.keep KK133 all0
          replace V7 := V7.keep KK133 nin0
          replace SS127 := SS127.keep KK133 nin0 nin0
          have K134 := K132.trans KK133 all0
          refine own_go (fun _ kk_ => st133.trans kk_) ?_
          refine own_go (fun _ kk_ => XS.astore X133.here hx rfl (hb hby at_416) rfl rfl (l' := #[.val (.int mode), .val (.int pos), .val (.int c0), .val (.int c1), .val (.int c2), .val (.int (mode &&& (7 : Int32))), .val (.int (c0 &&& (255 : Int32))), .val (.int (c1 &&& (255 : Int32))), .val (.int (c2 &&& (255 : Int32))), .val (.ref b7), .val (.ref b124), .val (.int (0 : Int32)), .val (.ref b124), .val (.ref b124)]) rfl kk_) ?_
          refine own_go (fun _ kk_ => XS.aload X133.here hx rfl (hb hby at_418) rfl rfl kk_) ?_
          refine own_go (fun _ kk_ => XS.aload X133.here hx rfl (hb hby at_420) rfl rfl kk_) ?_
          show own_Fin p.tables e below _ (T133.setTop (mkF m 422 #[.val (.int mode), .val (.int pos), .val (.int c0), .val (.int c1), .val (.int c2), .val (.int (mode &&& (7 : Int32))), .val (.int (c0 &&& (255 : Int32))), .val (.int (c1 &&& (255 : Int32))), .val (.int (c2 &&& (255 : Int32))), .val (.ref b7), .val (.ref b124), .val (.int (0 : Int32)), .val (.ref b124), .val (.ref b124)] [(.ref b124), (.ref b124)]))
          obtain ⟨cq135, kq135, qa135, qb135, qc135⟩ := isOf hZ rfl SS127.exa
          obtain ⟨_, _, ⟨T135, L135, k135, n135⟩, -, X135, ⟨Lc135, hQ135, l135, y135, z135⟩, st135⟩ := X133.virtualBack hx (y := (⟨"java/lang/String", "equals", "(Ljava/lang/Object;)Z"⟩ : MethodName)) (z := (⟨"java/lang/String", "equals", "(Ljava/lang/Object;)Z"⟩ : MethodName)) hown (mvT hZ (hw _ (List.mem_of_getElem? (i := 49) rfl))) (mvT hZ (hw _ (List.mem_of_getElem? (i := 39) rfl))) (own_notface (args := #[]) (mvT hZ (hw _ (List.mem_of_getElem? (i := 41) rfl))) rfl) (mvT hZ (hw _ (List.mem_of_getElem? (i := 41) rfl))) (mvT hZ (hw _ (List.mem_of_getElem? (i := 40) rfl))) (by decide) (own_eqB (W := 0) hZ heq (hw _ (List.mem_of_getElem? (i := 2) rfl)) SS127 SS127 (S_C.ext O0.2) hcs (by decide) (by decide)) qa135 qc135 (g := (mkF m 422 #[.val (.int mode), .val (.int pos), .val (.int c0), .val (.int c1), .val (.int c2), .val (.int (mode &&& (7 : Int32))), .val (.int (c0 &&& (255 : Int32))), .val (.int (c1 &&& (255 : Int32))), .val (.int (c2 &&& (255 : Int32))), .val (.ref b7), .val (.ref b124), .val (.int (0 : Int32)), .val (.ref b124), .val (.ref b124)] [(.ref b124), (.ref b124)])) rfl (by rw [hml]; rfl) (Steps.refl _) (argsL := [(.ref b124)]) (rest := []) (lenOf pd_1 rfl) rfl (by show 2 * 0 + _ ≤ _; exact Nat.le_of_eq rfl) (hb hby at_422) (fun _ _ => ⟨rfl, rfl, (by decide : 7 + 0 ≤ _), (by decide : 174 + 0 ≤ _)⟩)
          dsimp only [Pt.U, Pt.locs, Pt.cells, Pt.slots] at X135 l135 y135 z135 st135 hQ135
          subst l135 y135 z135
          obtain ⟨hq135, rfl, e135⟩ := hQ135
          obtain ⟨z135, rfl, hz135⟩ := own_eqv hq135
          have N135 := Fr.app N133 (Fr.nil n0)
          obtain rfl : z135 = 1 := hz135.elim (fun q => q.1) (fun q => absurd rfl q.2)
          refine own_go (fun _ kk_ => st135.trans kk_) ?_
          show own_Fin p.tables e below _ (T135.setTop (mkF m 425 #[.val (.int mode), .val (.int pos), .val (.int c0), .val (.int c1), .val (.int c2), .val (.int (mode &&& (7 : Int32))), .val (.int (c0 &&& (255 : Int32))), .val (.int (c1 &&& (255 : Int32))), .val (.int (c2 &&& (255 : Int32))), .val (.ref b7), .val (.ref b124), .val (.int (0 : Int32)), .val (.ref b124), .val (.ref b124)] [(.int (1 : Int32))]))
          have CRz : CHr Z consts_1 s.vm s.heap T135.vm T135.heap := by
            rw [hh, e135]
            exact CR.trans (CHv.at X135 hZ hEL CH)
          refine own_retW X135 hx Bd hS (show _ ≤ T135.heap.size by rw [e135]; exact hk) (t := .boolean) Bd.returns rfl (Or.inl ⟨rfl, by simp, _, rfl⟩) (hb hby at_425) CRz ?_ (by decide) (by decide)
          show (Q_rm_law Z mode pos c0 c1 c2 gc h0 n0) (some (.int (1 : Int32))) T135.heap _
          rw [e135]
          exact ⟨rfl, N135⟩
      · skip
        show own_Fin p.tables e below _ (T33.setTop (mkF m 122 #[.val (.int mode), .val (.int pos), .val (.int c0), .val (.int c1), .val (.int c2), .val (.int (mode &&& (7 : Int32))), .val (.int (c0 &&& (255 : Int32))), .val (.int (c1 &&& (255 : Int32))), .val (.int (c2 &&& (255 : Int32))), .val (.ref b7), .unset, .unset, .val (.int ((pos &&& (2147483647 : Int32)) % (9 : Int32))), .unset] []))
        rw [hs9]
        refine own_go (fun _ kk_ => XS.aload X33.here hx rfl (hb hby at_122) rfl rfl kk_) ?_
        refine own_go (fun _ kk_ => XS.iload X33.here hx rfl (hb hby at_124) rfl kk_) ?_
        show own_Fin p.tables e below _ (T33.setTop (mkF m 126 #[.val (.int mode), .val (.int pos), .val (.int c0), .val (.int c1), .val (.int c2), .val (.int (mode &&& (7 : Int32))), .val (.int (c0 &&& (255 : Int32))), .val (.int (c1 &&& (255 : Int32))), .val (.int (c2 &&& (255 : Int32))), .val (.ref b7), .unset, .unset, .val (.int (2 : Int32)), .unset] [(.int (2 : Int32)), (.ref b7)]))
        refine own_go (fun _ kk_ => own_caload X33 hx hZ e33 V7 (by decide) (v := (.int (99 : Int32))) (rfl) (g := (mkF m 126 #[.val (.int mode), .val (.int pos), .val (.int c0), .val (.int c1), .val (.int c2), .val (.int (mode &&& (7 : Int32))), .val (.int (c0 &&& (255 : Int32))), .val (.int (c1 &&& (255 : Int32))), .val (.int (c2 &&& (255 : Int32))), .val (.ref b7), .unset, .unset, .val (.int (2 : Int32)), .unset] [(.int (2 : Int32)), (.ref b7)])) rfl rfl (hb hby at_126) _ kk_) ?_
        refine own_go (fun _ kk_ => XS.iload X33.here hx rfl (hb hby at_127) rfl kk_) ?_
        show own_Fin p.tables e below _ (T33.setTop (mkF m 129 #[.val (.int mode), .val (.int pos), .val (.int c0), .val (.int c1), .val (.int c2), .val (.int (mode &&& (7 : Int32))), .val (.int (c0 &&& (255 : Int32))), .val (.int (c1 &&& (255 : Int32))), .val (.int (c2 &&& (255 : Int32))), .val (.ref b7), .unset, .unset, .val (.int (2 : Int32)), .unset] [(.int (c0 &&& (255 : Int32))), (.int (99 : Int32))]))
        by_cases hc136 : (99 : Int32) = (c0 &&& (255 : Int32))
        · skip
          refine own_go (fun _ kk_ => XS.icmpNo X33.here hx rfl (hb hby at_129) rfl (teq hc136).2 kk_) ?_
          refine own_go (fun _ kk_ => XS.iconst X33.here hx rfl (hb hby at_132) kk_) ?_
          refine own_go (fun _ kk_ => XS.goto X33.here hx rfl (pc0 := 133) (pc' := 137) rfl (hb hby at_133) (by decide) (by decide) kk_) ?_
          refine own_go (fun _ kk_ => XS.istore X33.here hx rfl (hb hby at_137) rfl (l' := #[.val (.int mode), .val (.int pos), .val (.int c0), .val (.int c1), .val (.int c2), .val (.int (mode &&& (7 : Int32))), .val (.int (c0 &&& (255 : Int32))), .val (.int (c1 &&& (255 : Int32))), .val (.int (c2 &&& (255 : Int32))), .val (.ref b7), .unset, .val (.int (1 : Int32)), .val (.int (2 : Int32)), .unset]) rfl kk_) ?_
          refine own_go (fun _ kk_ => XS.aload X33.here hx rfl (hb hby at_139) rfl rfl kk_) ?_
          refine own_go (fun _ kk_ => XS.iload X33.here hx rfl (hb hby at_141) rfl kk_) ?_
          refine own_go (fun _ kk_ => XS.iload X33.here hx rfl (hb hby at_143) rfl kk_) ?_
          show own_Fin p.tables e below _ (T33.setTop (mkF m 145 #[.val (.int mode), .val (.int pos), .val (.int c0), .val (.int c1), .val (.int c2), .val (.int (mode &&& (7 : Int32))), .val (.int (c0 &&& (255 : Int32))), .val (.int (c1 &&& (255 : Int32))), .val (.int (c2 &&& (255 : Int32))), .val (.ref b7), .unset, .val (.int (1 : Int32)), .val (.int (2 : Int32)), .unset] [(.int (c0 &&& (255 : Int32))), (.int (2 : Int32)), (.ref b7)]))
          obtain ⟨T137, h137, X137, e137, W137, V137, st137⟩ := own_stC X33 hx hZ e33 V7 (by decide) (i := 2) rfl (Nat.le_of_ble_eq_true rfl) (g := (mkF m 145 #[.val (.int mode), .val (.int pos), .val (.int c0), .val (.int c1), .val (.int c2), .val (.int (mode &&& (7 : Int32))), .val (.int (c0 &&& (255 : Int32))), .val (.int (c1 &&& (255 : Int32))), .val (.int (c2 &&& (255 : Int32))), .val (.ref b7), .unset, .val (.int (1 : Int32)), .val (.int (2 : Int32)), .unset] [(.int (c0 &&& (255 : Int32))), (.int (2 : Int32)), (.ref b7)])) rfl rfl (hb hby at_145)
          rw [own_nar255] at V137
          replace V7 : Arv Z h137 b7 k7 .char (9 : Int32) [(.int (100 : Int32)), (.int (111 : Int32)), (.int (c0 &&& (255 : Int32))), (.int (107 : Int32)), (.int (101 : Int32)), (.int (114 : Int32)), (.int (46 : Int32)), (.int (105 : Int32)), (.int (111 : Int32))] (.int (0 : Int32)) := V137
          have N137 := Fr.snoc X137 N33 g_b7
          refine own_go st137 ?_
          have sa138 := S_b7
          replace S_b7 := Safe.wr W137 sa138 CH S_b7
          replace CR := CR.trans (CHr.wr W137 sa138 CH)
          replace CH := CHv.wr W137 sa138 CH
          replace hk := Nat.le_trans hk (Keep.of_wr W137).1
          replace O0 := O0.wr W137 g_b7
          have K139 := K35.wr W137 (Or.inr sz_b7)
          show own_Fin p.tables e below _ (T137.setTop (mkF m 146 #[.val (.int mode), .val (.int pos), .val (.int c0), .val (.int c1), .val (.int c2), .val (.int (mode &&& (7 : Int32))), .val (.int (c0 &&& (255 : Int32))), .val (.int (c1 &&& (255 : Int32))), .val (.int (c2 &&& (255 : Int32))), .val (.ref b7), .unset, .val (.int (1 : Int32)), .val (.int (2 : Int32)), .unset] []))
          obtain ⟨T140, h140, X140, e140, E140, A140, D140, -, st140⟩ := newO X137 hx hZ hown (hw _ (List.mem_of_getElem? (i := 1) rfl)) (hw _ (List.mem_of_getElem? (i := 2) rfl)) (hw _ (List.mem_of_getElem? (i := 3) rfl)) e137 (g := (mkF m 146 #[.val (.int mode), .val (.int pos), .val (.int c0), .val (.int c1), .val (.int c2), .val (.int (mode &&& (7 : Int32))), .val (.int (c0 &&& (255 : Int32))), .val (.int (c1 &&& (255 : Int32))), .val (.int (c2 &&& (255 : Int32))), .val (.ref b7), .unset, .val (.int (1 : Int32)), .val (.int (2 : Int32)), .unset] [])) rfl (hb hby at_146) (by decide) (by decide)
          obtain ⟨b140, g140⟩ : ∃ z, z = h137.size := ⟨_, rfl⟩
          rw [← g140] at A140 D140 st140
          have sz_b140 : h0.size ≤ b140 := Nat.le_trans K139.1 (Nat.le_of_eq g140.symm)
          have g_b140 : n0 ≤ b140 := Nat.le_trans Z0 sz_b140
          have ne141 : b7 ≠ b140 := Nat.ne_of_lt (Nat.lt_of_lt_of_le V7.lt (Nat.le_of_eq g140.symm))
          have S_b140 := Safe.new (Z := Z) (EL := consts_1) (vm := s.vm) (Nat.le_of_eq g140.symm)
          replace S_b7 := Safe.ext E140 CH S_b7
          replace S_b140 := Safe.ext E140 CH S_b140
          replace CR := CR.trans (CHr.ext E140 CH)
          replace CH := CH.ext E140
          replace hk := Nat.le_trans hk E140.1
          replace O0 := O0.ext E140
          replace V7 := V7.ext E140
          have K142 := K139.ext E140
          have F140_coder : Fld Z h140 b140 "java/lang/String" "coder" "B" (.int (0 : Int32)) := D140 (Or.inr (hw _ (List.mem_of_getElem? (i := 27) rfl))) (ty := .byte) (by decide)
          have F140_value : Fld Z h140 b140 "java/lang/String" "value" "[B" .null := D140 (Or.inr (hw _ (List.mem_of_getElem? (i := 29) rfl))) (ty := (.array .byte)) (by decide)
          refine own_go st140 ?_
          refine own_go (fun _ kk_ => XS.dup X140.here hx rfl (hb hby at_149) rfl rfl kk_) ?_
          refine own_go (fun _ kk_ => XS.aload X140.here hx rfl (hb hby at_150) rfl rfl kk_) ?_
          show own_Fin p.tables e below _ (T140.setTop (mkF m 152 #[.val (.int mode), .val (.int pos), .val (.int c0), .val (.int c1), .val (.int c2), .val (.int (mode &&& (7 : Int32))), .val (.int (c0 &&& (255 : Int32))), .val (.int (c1 &&& (255 : Int32))), .val (.int (c2 &&& (255 : Int32))), .val (.ref b7), .unset, .val (.int (1 : Int32)), .val (.int (2 : Int32)), .unset] [(.ref b7), (.ref b140), (.ref b140)]))
          have hp144 : ∀ c ∈ ([(100 : Int32), (111 : Int32), (c0 &&& (255 : Int32)), (107 : Int32), (101 : Int32), (114 : Int32), (46 : Int32), (105 : Int32), (111 : Int32)] : List Int32), ¬ c < 0 ∧ ¬ (255 : Int32) < c := by
            intro c hc
            simp only [List.mem_cons, List.not_mem_nil, or_false] at hc
            rcases hc with rfl | rfl | rfl | rfl | rfl | rfl | rfl | rfl | rfl
            · exact by decide
            · exact by decide
            · exact own_and255 _
            · exact by decide
            · exact by decide
            · exact by decide
            · exact by decide
            · exact by decide
            · exact by decide
          obtain ⟨_, _, ⟨T143, L143, k143, n143⟩, -, X143, ⟨Lc143, hQ143, l143, y143, z143⟩, st143⟩ := X140.specialBack hx (y := (⟨"java/lang/String", "<init>", "([C)V"⟩ : MethodName)) rfl hown (mvT hZ (hw _ (List.mem_of_getElem? (i := 4) rfl))) (mvT hZ (hw _ (List.mem_of_getElem? (i := 5) rfl))) (mvT hZ (hw _ (List.mem_of_getElem? (i := 6) rfl))) (by decide) (StrChars.Road.backV (W := 1) hZ hws (kI := 4) (hw _ (List.mem_of_getElem? (i := 2) rfl)) (cs := ([(100 : Int32), (111 : Int32), (c0 &&& (255 : Int32)), (107 : Int32), (101 : Int32), (114 : Int32), (46 : Int32), (105 : Int32), (111 : Int32)] : List Int32)) (bs := (([(100 : Int32), (111 : Int32), (c0 &&& (255 : Int32)), (107 : Int32), (101 : Int32), (114 : Int32), (46 : Int32), (105 : Int32), (111 : Int32)] : List Int32)).map (fun c => c.toInt8.toInt32)) (n := 9) g_b140 (Nat.le_trans Z0 K142.1) A140 F140_value F140_coder V7 (S_C.ext O0.2) hcs rfl rfl (by decide) (by decide) hp144 rfl (by decide) (by decide)) (g := (mkF m 152 #[.val (.int mode), .val (.int pos), .val (.int c0), .val (.int c1), .val (.int c2), .val (.int (mode &&& (7 : Int32))), .val (.int (c0 &&& (255 : Int32))), .val (.int (c1 &&& (255 : Int32))), .val (.int (c2 &&& (255 : Int32))), .val (.ref b7), .unset, .val (.int (1 : Int32)), .val (.int (2 : Int32)), .unset] [(.ref b7), (.ref b140), (.ref b140)])) rfl (by rw [hml]; rfl) (Steps.refl _) (a := b140) (argsL := [(.ref b7)]) (rest := [(.ref b140)]) (lenOf pd_3 rfl) rfl (by show 2 * 0 + _ ≤ _; exact Nat.le_of_eq rfl) (hb hby at_152) (fun _ _ => ⟨rfl, e140, (by decide : 2 + 1 ≤ _), (by decide : 13 + 9 ≤ _)⟩)
          dsimp only [Pt.U, Pt.locs, Pt.cells, Pt.slots] at X143 l143 y143 z143 st143 hQ143
          subst l143 y143 z143
          obtain ⟨rfl, N143q, KK143, EE143, FC143, t143, kb143, gt143, szt143, netx143, FV143, VV143⟩ := hQ143
          have N143 := Fr.app N137 N143q
          have SS143 : own_Str Z T143.heap b140 t143 ([(100 : Int32), (111 : Int32), (c0 &&& (255 : Int32)), (107 : Int32), (101 : Int32), (114 : Int32), (46 : Int32), (105 : Int32), (111 : Int32)] : List Int32) := ⟨_, _, _, _, EE143, FV143, FC143, VV143, StrChars.Road.codOf (n := 9) rfl (fun c hc => (hp144 c hc).2), own_up _ hp144, Nat.le_of_ble_eq_true rfl⟩
          have sz_t143 : h0.size ≤ t143 := Nat.le_trans K142.1 szt143
          have ne145 : b7 ≠ t143 := Nat.ne_of_lt (Nat.lt_of_lt_of_le V7.lt szt143)
          have ne146 : b140 ≠ t143 := Nat.ne_of_lt (Nat.lt_of_lt_of_le A140.lt szt143)
          have S_t143 := Safe.new (Z := Z) (EL := consts_1) (vm := s.vm) szt143
          have hs147 : ∀ x ∈ [b140], Safe Z consts_1 s.vm h140 x := (sfS S_b140 sf0)
          replace S_b7 := Safe.keep KK143 hs147 CH S_b7
          replace S_b140 := Safe.keep KK143 hs147 CH S_b140
          replace S_t143 := Safe.keep KK143 hs147 CH S_t143
          replace CR := CR.trans (CHr.keep KK143 hs147 CH)
          replace CH := CHv.keep KK143 hs147 CH
          replace hk := Nat.le_trans hk KK143.1
          replace O0 := O0.keep KK143 (allS g_b140 (all0))
          replace V7 := V7.keep KK143 (ninS ne141 nin0)
          replace A140 := A140.keep KK143
          have K148 := K142.trans KK143 (allS (Or.inr sz_b140) all0)
          refine own_go (fun _ kk_ => st143.trans kk_) ?_
          refine own_go (fun _ kk_ => XS.astore X143.here hx rfl (hb hby at_155) rfl rfl (l' := #[.val (.int mode), .val (.int pos), .val (.int c0), .val (.int c1), .val (.int c2), .val (.int (mode &&& (7 : Int32))), .val (.int (c0 &&& (255 : Int32))), .val (.int (c1 &&& (255 : Int32))), .val (.int (c2 &&& (255 : Int32))), .val (.ref b7), .val (.ref b140), .val (.int (1 : Int32)), .val (.int (2 : Int32)), .unset]) rfl kk_) ?_
          refine own_go (fun _ kk_ => XS.goto X143.here hx rfl (pc0 := 157) (pc' := 397) rfl (hb hby at_157) (by decide) (by decide) kk_) ?_
          refine own_go (fun _ kk_ => XS.iload X143.here hx rfl (hb hby at_397) rfl kk_) ?_
          show own_Fin p.tables e below _ (T143.setTop (mkF m 399 #[.val (.int mode), .val (.int pos), .val (.int c0), .val (.int c1), .val (.int c2), .val (.int (mode &&& (7 : Int32))), .val (.int (c0 &&& (255 : Int32))), .val (.int (c1 &&& (255 : Int32))), .val (.int (c2 &&& (255 : Int32))), .val (.ref b7), .val (.ref b140), .val (.int (1 : Int32)), .val (.int (2 : Int32)), .unset] [(.int (1 : Int32))]))
          refine own_go (fun _ kk_ => XS.ifNo X143.here hx rfl (hb hby at_399) rfl ((if0 _ _).trans (feq (by decide : ¬ (1 : Int32) = (0 : Int32))).1) kk_) ?_
          show own_Fin p.tables e below _ (T143.setTop (mkF m 402 #[.val (.int mode), .val (.int pos), .val (.int c0), .val (.int c1), .val (.int c2), .val (.int (mode &&& (7 : Int32))), .val (.int (c0 &&& (255 : Int32))), .val (.int (c1 &&& (255 : Int32))), .val (.int (c2 &&& (255 : Int32))), .val (.ref b7), .val (.ref b140), .val (.int (1 : Int32)), .val (.int (2 : Int32)), .unset] []))
          obtain ⟨a149, T149, h149, k149, tb149, kb149, X149, e149, E149, hS, hk, hZ, hown, EA149, FC149, FV149, VB149, -, -, CR149, -, NE149, st149⟩ := ldcCH X143 hx hZ hown (hw _ (List.mem_of_getElem? (i := 30) rfl)) wS rfl hS hk hEL (by decide) CH (vs := ((([(104 : Int32), (116 : Int32), (116 : Int32), (112 : Int32), (115 : Int32), (58 : Int32), (47 : Int32), (47 : Int32), (105 : Int32), (110 : Int32), (100 : Int32), (101 : Int32), (120 : Int32), (46 : Int32), (100 : Int32), (111 : Int32), (99 : Int32), (107 : Int32), (101 : Int32), (114 : Int32), (46 : Int32), (105 : Int32), (111 : Int32), (47 : Int32), (118 : Int32), (49 : Int32), (47 : Int32)] : List Int32).map (fun c => c.toInt8.toInt32)).map Value.int)) (z := (27 : Int32)) (by exact ⟨by decide, by decide⟩) (by decide) rfl (g := (mkF m 402 #[.val (.int mode), .val (.int pos), .val (.int c0), .val (.int c1), .val (.int c2), .val (.int (mode &&& (7 : Int32))), .val (.int (c0 &&& (255 : Int32))), .val (.int (c1 &&& (255 : Int32))), .val (.int (c2 &&& (255 : Int32))), .val (.ref b7), .val (.ref b140), .val (.int (1 : Int32)), .val (.int (2 : Int32)), .unset] [])) rfl (hb hby at_402) (n := 108) (by decide) (by decide) (by decide) (by decide)
          replace S_b7 := CR149.safe V7.lt S_b7
          replace S_b140 := CR149.safe SS143.lt S_b140
          replace S_t143 := CR149.safe SS143.ltt S_t143
          replace CR := CR.trans CR149
          replace CH := CR149.1
          replace O0 := O0.ext E149
          replace V7 := V7.ext E149
          replace SS143 := SS143.ext E149
          have K150 := K148.ext E149
          have ne151 : b7 ≠ a149 := (NE149 _ S_b7).1
          have ne152 : b7 ≠ tb149 := (NE149 _ S_b7).2
          have ne153 : b140 ≠ a149 := (NE149 _ S_b140).1
          have ne154 : b140 ≠ tb149 := (NE149 _ S_b140).2
          have ne155 : t143 ≠ a149 := (NE149 _ S_t143).1
          have ne156 : t143 ≠ tb149 := (NE149 _ S_t143).2
          have SS149 : own_Str Z h149 a149 tb149 ([(104 : Int32), (116 : Int32), (116 : Int32), (112 : Int32), (115 : Int32), (58 : Int32), (47 : Int32), (47 : Int32), (105 : Int32), (110 : Int32), (100 : Int32), (101 : Int32), (120 : Int32), (46 : Int32), (100 : Int32), (111 : Int32), (99 : Int32), (107 : Int32), (101 : Int32), (114 : Int32), (46 : Int32), (105 : Int32), (111 : Int32), (47 : Int32), (118 : Int32), (49 : Int32), (47 : Int32)] : List Int32) := ⟨_, _, _, _, EA149, FV149, FC149, VB149, StrChars.Road.codOf (n := 27) rfl (by decide), by decide, Nat.le_of_ble_eq_true rfl⟩
          refine own_go st149 ?_
          refine own_go (fun _ kk_ => XS.goto X149.here hx rfl (pc0 := 404) (pc' := 409) rfl (hb hby at_404) (by decide) (by decide) kk_) ?_
          refine own_go (fun _ kk_ => XS.astore X149.here hx rfl (hb hby at_409) rfl rfl (l' := #[.val (.int mode), .val (.int pos), .val (.int c0), .val (.int c1), .val (.int c2), .val (.int (mode &&& (7 : Int32))), .val (.int (c0 &&& (255 : Int32))), .val (.int (c1 &&& (255 : Int32))), .val (.int (c2 &&& (255 : Int32))), .val (.ref b7), .val (.ref b140), .val (.int (1 : Int32)), .val (.ref a149), .unset]) rfl kk_) ?_
          refine own_go (fun _ kk_ => XS.aload X149.here hx rfl (hb hby at_411) rfl rfl kk_) ?_
          show own_Fin p.tables e below _ (T149.setTop (mkF m 413 #[.val (.int mode), .val (.int pos), .val (.int c0), .val (.int c1), .val (.int c2), .val (.int (mode &&& (7 : Int32))), .val (.int (c0 &&& (255 : Int32))), .val (.int (c1 &&& (255 : Int32))), .val (.int (c2 &&& (255 : Int32))), .val (.ref b7), .val (.ref b140), .val (.int (1 : Int32)), .val (.ref a149), .unset] [(.ref b140)]))
          obtain ⟨_, _, ⟨T157, L157, k157, n157⟩, -, X157, hSn157, hgr157, ⟨Lc157, hQ157, l157, y157, z157, CR157⟩, st157⟩ := callSS X149 hx (y := (⟨"com/example/laminate/laminate/core/DefaultRegistry", "credentialsKey", "(Ljava/lang/String;)Ljava/lang/String;"⟩ : MethodName)) hown (mvT hZ (hw _ (List.mem_of_getElem? (i := 33) rfl))) (mvT hZ (hw _ (List.mem_of_getElem? (i := 34) rfl))) (mvT hZ (hw _ (List.mem_of_getElem? (i := 35) rfl))) (mvT hZ (hw _ (List.mem_of_getElem? (i := 36) rfl))) (by decide) (backOfSH (s := s) (W := 0) (rm_ck l Z a0 hw [] hEL b140 t143 ([(100 : Int32), (111 : Int32), (c0 &&& (255 : Int32)), (107 : Int32), (101 : Int32), (114 : Int32), (46 : Int32), (105 : Int32), (111 : Int32)] : List Int32) gc h149 n0 (Nat.le_trans Z0 K150.1) SS143 S_C hcs O0) hZ (hw _ (List.mem_of_getElem? (i := 36) rfl)) (hw _ (List.mem_of_getElem? (i := 35) rfl)) (by decide) (by decide) hEL CH) (g := (mkF m 413 #[.val (.int mode), .val (.int pos), .val (.int c0), .val (.int c1), .val (.int c2), .val (.int (mode &&& (7 : Int32))), .val (.int (c0 &&& (255 : Int32))), .val (.int (c1 &&& (255 : Int32))), .val (.int (c2 &&& (255 : Int32))), .val (.ref b7), .val (.ref b140), .val (.int (1 : Int32)), .val (.ref a149), .unset] [(.ref b140)])) rfl (by rw [hml]; rfl) (argsL := [(.ref b140)]) (rest := []) (lenOf pd_4 rfl) rfl (by show 2 * 0 + _ ≤ _; exact Nat.le_of_eq rfl) (hb hby at_413) (fun _ _ => ⟨rfl, e149, (by decide : 5 + 4 ≤ _), (by decide : 134 + 152 ≤ _)⟩)
          dsimp only [Pt.U, Pt.locs, Pt.cells, Pt.slots] at X157 l157 y157 z157 st157 hQ157 hSn157 hgr157 CR157
          subst l157 y157 z157
          replace hS := foldS hS (show _ ≤ T149.heap.size by rw [e149]; exact hk) hSn157 hgr157
          replace hk : T157.heap.size ≤ T157.heap.size := Nat.le_refl _
          replace hZ : Z.Warmed39 (s.setVm T157.vm).vm := State.Warmed39.trans (t := s.setVm T149.vm) hZ hSn157.1
          replace hown : (s.setVm T157.vm).vm.findClass "com/example/laminate/laminate/core/DefaultRegistryCredentialsKeyPinLaw" = some m.cls := by rw [show (s.setVm T157.vm).vm = T157.vm from rfl, hSn157.1.alike.findClass]; exact hown
          replace X157 : Stand p l e room_1 (s.setVm T157.vm) m #[(.int mode), (.int pos), (.int c0), (.int c1), (.int c2)] below meth c T157 _ _ _ := X157
          replace S_b7 := CR157.safe V7.lt S_b7
          replace S_b140 := CR157.safe SS143.lt S_b140
          replace S_t143 := CR157.safe SS143.ltt S_t143
          replace CR := CR.trans CR157
          replace CH := CR157.1
          obtain ⟨N157q, KK157, hy157, hn157⟩ := hQ157
          have N157 := Fr.app N143 N157q
          obtain ⟨ra157, rb157, rfl, SR157⟩ := hy157 (by rw [← hc136])
          replace O0 := O0.keep KK157 all0
          replace V7 := V7.keep KK157 nin0
          replace SS143 := SS143.keep KK157 nin0 nin0
          replace SS149 := SS149.keep KK157 nin0 nin0
          have K158 := K150.trans KK157 all0
          refine own_go (fun _ kk_ => st157.trans kk_) ?_
          refine own_go (fun _ kk_ => XS.astore X157.here hx rfl (hb hby at_416) rfl rfl (l' := #[.val (.int mode), .val (.int pos), .val (.int c0), .val (.int c1), .val (.int c2), .val (.int (mode &&& (7 : Int32))), .val (.int (c0 &&& (255 : Int32))), .val (.int (c1 &&& (255 : Int32))), .val (.int (c2 &&& (255 : Int32))), .val (.ref b7), .val (.ref b140), .val (.int (1 : Int32)), .val (.ref a149), .val (.ref ra157)]) rfl kk_) ?_
          refine own_go (fun _ kk_ => XS.aload X157.here hx rfl (hb hby at_418) rfl rfl kk_) ?_
          refine own_go (fun _ kk_ => XS.aload X157.here hx rfl (hb hby at_420) rfl rfl kk_) ?_
          show own_Fin p.tables e below _ (T157.setTop (mkF m 422 #[.val (.int mode), .val (.int pos), .val (.int c0), .val (.int c1), .val (.int c2), .val (.int (mode &&& (7 : Int32))), .val (.int (c0 &&& (255 : Int32))), .val (.int (c1 &&& (255 : Int32))), .val (.int (c2 &&& (255 : Int32))), .val (.ref b7), .val (.ref b140), .val (.int (1 : Int32)), .val (.ref a149), .val (.ref ra157)] [(.ref ra157), (.ref a149)]))
          obtain ⟨cq159, kq159, qa159, qb159, qc159⟩ := isOf hZ rfl SS149.exa
          obtain ⟨_, _, ⟨T159, L159, k159, n159⟩, -, X159, ⟨Lc159, hQ159, l159, y159, z159⟩, st159⟩ := X157.virtualBack hx (y := (⟨"java/lang/String", "equals", "(Ljava/lang/Object;)Z"⟩ : MethodName)) (z := (⟨"java/lang/String", "equals", "(Ljava/lang/Object;)Z"⟩ : MethodName)) hown (mvT hZ (hw _ (List.mem_of_getElem? (i := 49) rfl))) (mvT hZ (hw _ (List.mem_of_getElem? (i := 39) rfl))) (own_notface (args := #[]) (mvT hZ (hw _ (List.mem_of_getElem? (i := 41) rfl))) rfl) (mvT hZ (hw _ (List.mem_of_getElem? (i := 41) rfl))) (mvT hZ (hw _ (List.mem_of_getElem? (i := 40) rfl))) (by decide) (own_eqB (W := 0) hZ heq (hw _ (List.mem_of_getElem? (i := 2) rfl)) SS149 SR157 (S_C.ext O0.2) hcs (by decide) (by decide)) qa159 qc159 (g := (mkF m 422 #[.val (.int mode), .val (.int pos), .val (.int c0), .val (.int c1), .val (.int c2), .val (.int (mode &&& (7 : Int32))), .val (.int (c0 &&& (255 : Int32))), .val (.int (c1 &&& (255 : Int32))), .val (.int (c2 &&& (255 : Int32))), .val (.ref b7), .val (.ref b140), .val (.int (1 : Int32)), .val (.ref a149), .val (.ref ra157)] [(.ref ra157), (.ref a149)])) rfl (by rw [hml]; rfl) (Steps.refl _) (argsL := [(.ref ra157)]) (rest := []) (lenOf pd_1 rfl) rfl (by show 2 * 0 + _ ≤ _; exact Nat.le_of_eq rfl) (hb hby at_422) (fun _ _ => ⟨rfl, rfl, (by decide : 9 + 0 ≤ _), (by decide : 286 + 0 ≤ _)⟩)
          dsimp only [Pt.U, Pt.locs, Pt.cells, Pt.slots] at X159 l159 y159 z159 st159 hQ159
          subst l159 y159 z159
          obtain ⟨hq159, rfl, e159⟩ := hQ159
          obtain ⟨z159, rfl, hz159⟩ := own_eqv hq159
          have N159 := Fr.app N157 (Fr.nil n0)
          obtain rfl : z159 = 1 := hz159.elim (fun q => q.1) (fun q => absurd rfl q.2)
          refine own_go (fun _ kk_ => st159.trans kk_) ?_
          show own_Fin p.tables e below _ (T159.setTop (mkF m 425 #[.val (.int mode), .val (.int pos), .val (.int c0), .val (.int c1), .val (.int c2), .val (.int (mode &&& (7 : Int32))), .val (.int (c0 &&& (255 : Int32))), .val (.int (c1 &&& (255 : Int32))), .val (.int (c2 &&& (255 : Int32))), .val (.ref b7), .val (.ref b140), .val (.int (1 : Int32)), .val (.ref a149), .val (.ref ra157)] [(.int (1 : Int32))]))
          have CRz : CHr Z consts_1 s.vm s.heap T159.vm T159.heap := by
            rw [hh, e159]
            exact CR.trans (CHv.at X159 hZ hEL CH)
          refine own_retW X159 hx Bd hS (show _ ≤ T159.heap.size by rw [e159]; exact hk) (t := .boolean) Bd.returns rfl (Or.inl ⟨rfl, by simp, _, rfl⟩) (hb hby at_425) CRz ?_ (by decide) (by decide)
          show (Q_rm_law Z mode pos c0 c1 c2 gc h0 n0) (some (.int (1 : Int32))) T159.heap _
          rw [e159]
          exact ⟨rfl, N159⟩
        · skip
          refine own_go (fun _ kk_ => XS.icmpYes X33.here hx rfl (pc0 := 129) (pc' := 136) rfl (hb hby at_129) rfl (feq hc136).2 (by decide) (by decide) kk_) ?_
          refine own_go (fun _ kk_ => XS.iconst X33.here hx rfl (hb hby at_136) kk_) ?_
          refine own_go (fun _ kk_ => XS.istore X33.here hx rfl (hb hby at_137) rfl (l' := #[.val (.int mode), .val (.int pos), .val (.int c0), .val (.int c1), .val (.int c2), .val (.int (mode &&& (7 : Int32))), .val (.int (c0 &&& (255 : Int32))), .val (.int (c1 &&& (255 : Int32))), .val (.int (c2 &&& (255 : Int32))), .val (.ref b7), .unset, .val (.int (0 : Int32)), .val (.int (2 : Int32)), .unset]) rfl kk_) ?_
          refine own_go (fun _ kk_ => XS.aload X33.here hx rfl (hb hby at_139) rfl rfl kk_) ?_
          refine own_go (fun _ kk_ => XS.iload X33.here hx rfl (hb hby at_141) rfl kk_) ?_
          refine own_go (fun _ kk_ => XS.iload X33.here hx rfl (hb hby at_143) rfl kk_) ?_
          show own_Fin p.tables e below _ (T33.setTop (mkF m 145 #[.val (.int mode), .val (.int pos), .val (.int c0), .val (.int c1), .val (.int c2), .val (.int (mode &&& (7 : Int32))), .val (.int (c0 &&& (255 : Int32))), .val (.int (c1 &&& (255 : Int32))), .val (.int (c2 &&& (255 : Int32))), .val (.ref b7), .unset, .val (.int (0 : Int32)), .val (.int (2 : Int32)), .unset] [(.int (c0 &&& (255 : Int32))), (.int (2 : Int32)), (.ref b7)]))
          obtain ⟨T160, h160, X160, e160, W160, V160, st160⟩ := own_stC X33 hx hZ e33 V7 (by decide) (i := 2) rfl (Nat.le_of_ble_eq_true rfl) (g := (mkF m 145 #[.val (.int mode), .val (.int pos), .val (.int c0), .val (.int c1), .val (.int c2), .val (.int (mode &&& (7 : Int32))), .val (.int (c0 &&& (255 : Int32))), .val (.int (c1 &&& (255 : Int32))), .val (.int (c2 &&& (255 : Int32))), .val (.ref b7), .unset, .val (.int (0 : Int32)), .val (.int (2 : Int32)), .unset] [(.int (c0 &&& (255 : Int32))), (.int (2 : Int32)), (.ref b7)])) rfl rfl (hb hby at_145)
          rw [own_nar255] at V160
          replace V7 : Arv Z h160 b7 k7 .char (9 : Int32) [(.int (100 : Int32)), (.int (111 : Int32)), (.int (c0 &&& (255 : Int32))), (.int (107 : Int32)), (.int (101 : Int32)), (.int (114 : Int32)), (.int (46 : Int32)), (.int (105 : Int32)), (.int (111 : Int32))] (.int (0 : Int32)) := V160
          have N160 := Fr.snoc X160 N33 g_b7
          refine own_go st160 ?_
          have sa161 := S_b7
          replace S_b7 := Safe.wr W160 sa161 CH S_b7
          replace CR := CR.trans (CHr.wr W160 sa161 CH)
          replace CH := CHv.wr W160 sa161 CH
          replace hk := Nat.le_trans hk (Keep.of_wr W160).1
          replace O0 := O0.wr W160 g_b7
          have K162 := K35.wr W160 (Or.inr sz_b7)
          show own_Fin p.tables e below _ (T160.setTop (mkF m 146 #[.val (.int mode), .val (.int pos), .val (.int c0), .val (.int c1), .val (.int c2), .val (.int (mode &&& (7 : Int32))), .val (.int (c0 &&& (255 : Int32))), .val (.int (c1 &&& (255 : Int32))), .val (.int (c2 &&& (255 : Int32))), .val (.ref b7), .unset, .val (.int (0 : Int32)), .val (.int (2 : Int32)), .unset] []))
          obtain ⟨T163, h163, X163, e163, E163, A163, D163, -, st163⟩ := newO X160 hx hZ hown (hw _ (List.mem_of_getElem? (i := 1) rfl)) (hw _ (List.mem_of_getElem? (i := 2) rfl)) (hw _ (List.mem_of_getElem? (i := 3) rfl)) e160 (g := (mkF m 146 #[.val (.int mode), .val (.int pos), .val (.int c0), .val (.int c1), .val (.int c2), .val (.int (mode &&& (7 : Int32))), .val (.int (c0 &&& (255 : Int32))), .val (.int (c1 &&& (255 : Int32))), .val (.int (c2 &&& (255 : Int32))), .val (.ref b7), .unset, .val (.int (0 : Int32)), .val (.int (2 : Int32)), .unset] [])) rfl (hb hby at_146) (by decide) (by decide)
          obtain ⟨b163, g163⟩ : ∃ z, z = h160.size := ⟨_, rfl⟩
          rw [← g163] at A163 D163 st163
          have sz_b163 : h0.size ≤ b163 := Nat.le_trans K162.1 (Nat.le_of_eq g163.symm)
          have g_b163 : n0 ≤ b163 := Nat.le_trans Z0 sz_b163
          have ne164 : b7 ≠ b163 := Nat.ne_of_lt (Nat.lt_of_lt_of_le V7.lt (Nat.le_of_eq g163.symm))
          have S_b163 := Safe.new (Z := Z) (EL := consts_1) (vm := s.vm) (Nat.le_of_eq g163.symm)
          replace S_b7 := Safe.ext E163 CH S_b7
          replace S_b163 := Safe.ext E163 CH S_b163
          replace CR := CR.trans (CHr.ext E163 CH)
          replace CH := CH.ext E163
          replace hk := Nat.le_trans hk E163.1
          replace O0 := O0.ext E163
          replace V7 := V7.ext E163
          have K165 := K162.ext E163
          have F163_coder : Fld Z h163 b163 "java/lang/String" "coder" "B" (.int (0 : Int32)) := D163 (Or.inr (hw _ (List.mem_of_getElem? (i := 27) rfl))) (ty := .byte) (by decide)
          have F163_value : Fld Z h163 b163 "java/lang/String" "value" "[B" .null := D163 (Or.inr (hw _ (List.mem_of_getElem? (i := 29) rfl))) (ty := (.array .byte)) (by decide)
          refine own_go st163 ?_
          refine own_go (fun _ kk_ => XS.dup X163.here hx rfl (hb hby at_149) rfl rfl kk_) ?_
          refine own_go (fun _ kk_ => XS.aload X163.here hx rfl (hb hby at_150) rfl rfl kk_) ?_
          show own_Fin p.tables e below _ (T163.setTop (mkF m 152 #[.val (.int mode), .val (.int pos), .val (.int c0), .val (.int c1), .val (.int c2), .val (.int (mode &&& (7 : Int32))), .val (.int (c0 &&& (255 : Int32))), .val (.int (c1 &&& (255 : Int32))), .val (.int (c2 &&& (255 : Int32))), .val (.ref b7), .unset, .val (.int (0 : Int32)), .val (.int (2 : Int32)), .unset] [(.ref b7), (.ref b163), (.ref b163)]))
          have hp167 : ∀ c ∈ ([(100 : Int32), (111 : Int32), (c0 &&& (255 : Int32)), (107 : Int32), (101 : Int32), (114 : Int32), (46 : Int32), (105 : Int32), (111 : Int32)] : List Int32), ¬ c < 0 ∧ ¬ (255 : Int32) < c := by
            intro c hc
            simp only [List.mem_cons, List.not_mem_nil, or_false] at hc
            rcases hc with rfl | rfl | rfl | rfl | rfl | rfl | rfl | rfl | rfl
            · exact by decide
            · exact by decide
            · exact own_and255 _
            · exact by decide
            · exact by decide
            · exact by decide
            · exact by decide
            · exact by decide
            · exact by decide
          obtain ⟨_, _, ⟨T166, L166, k166, n166⟩, -, X166, ⟨Lc166, hQ166, l166, y166, z166⟩, st166⟩ := X163.specialBack hx (y := (⟨"java/lang/String", "<init>", "([C)V"⟩ : MethodName)) rfl hown (mvT hZ (hw _ (List.mem_of_getElem? (i := 4) rfl))) (mvT hZ (hw _ (List.mem_of_getElem? (i := 5) rfl))) (mvT hZ (hw _ (List.mem_of_getElem? (i := 6) rfl))) (by decide) (StrChars.Road.backV (W := 1) hZ hws (kI := 4) (hw _ (List.mem_of_getElem? (i := 2) rfl)) (cs := ([(100 : Int32), (111 : Int32), (c0 &&& (255 : Int32)), (107 : Int32), (101 : Int32), (114 : Int32), (46 : Int32), (105 : Int32), (111 : Int32)] : List Int32)) (bs := (([(100 : Int32), (111 : Int32), (c0 &&& (255 : Int32)), (107 : Int32), (101 : Int32), (114 : Int32), (46 : Int32), (105 : Int32), (111 : Int32)] : List Int32)).map (fun c => c.toInt8.toInt32)) (n := 9) g_b163 (Nat.le_trans Z0 K165.1) A163 F163_value F163_coder V7 (S_C.ext O0.2) hcs rfl rfl (by decide) (by decide) hp167 rfl (by decide) (by decide)) (g := (mkF m 152 #[.val (.int mode), .val (.int pos), .val (.int c0), .val (.int c1), .val (.int c2), .val (.int (mode &&& (7 : Int32))), .val (.int (c0 &&& (255 : Int32))), .val (.int (c1 &&& (255 : Int32))), .val (.int (c2 &&& (255 : Int32))), .val (.ref b7), .unset, .val (.int (0 : Int32)), .val (.int (2 : Int32)), .unset] [(.ref b7), (.ref b163), (.ref b163)])) rfl (by rw [hml]; rfl) (Steps.refl _) (a := b163) (argsL := [(.ref b7)]) (rest := [(.ref b163)]) (lenOf pd_3 rfl) rfl (by show 2 * 0 + _ ≤ _; exact Nat.le_of_eq rfl) (hb hby at_152) (fun _ _ => ⟨rfl, e163, (by decide : 2 + 1 ≤ _), (by decide : 13 + 9 ≤ _)⟩)
          dsimp only [Pt.U, Pt.locs, Pt.cells, Pt.slots] at X166 l166 y166 z166 st166 hQ166
          subst l166 y166 z166
          obtain ⟨rfl, N166q, KK166, EE166, FC166, t166, kb166, gt166, szt166, netx166, FV166, VV166⟩ := hQ166
          have N166 := Fr.app N160 N166q
          have SS166 : own_Str Z T166.heap b163 t166 ([(100 : Int32), (111 : Int32), (c0 &&& (255 : Int32)), (107 : Int32), (101 : Int32), (114 : Int32), (46 : Int32), (105 : Int32), (111 : Int32)] : List Int32) := ⟨_, _, _, _, EE166, FV166, FC166, VV166, StrChars.Road.codOf (n := 9) rfl (fun c hc => (hp167 c hc).2), own_up _ hp167, Nat.le_of_ble_eq_true rfl⟩
          have sz_t166 : h0.size ≤ t166 := Nat.le_trans K165.1 szt166
          have ne168 : b7 ≠ t166 := Nat.ne_of_lt (Nat.lt_of_lt_of_le V7.lt szt166)
          have ne169 : b163 ≠ t166 := Nat.ne_of_lt (Nat.lt_of_lt_of_le A163.lt szt166)
          have S_t166 := Safe.new (Z := Z) (EL := consts_1) (vm := s.vm) szt166
          have hs170 : ∀ x ∈ [b163], Safe Z consts_1 s.vm h163 x := (sfS S_b163 sf0)
          replace S_b7 := Safe.keep KK166 hs170 CH S_b7
          replace S_b163 := Safe.keep KK166 hs170 CH S_b163
          replace S_t166 := Safe.keep KK166 hs170 CH S_t166
          replace CR := CR.trans (CHr.keep KK166 hs170 CH)
          replace CH := CHv.keep KK166 hs170 CH
          replace hk := Nat.le_trans hk KK166.1
          replace O0 := O0.keep KK166 (allS g_b163 (all0))
          replace V7 := V7.keep KK166 (ninS ne164 nin0)
          replace A163 := A163.keep KK166
          have K171 := K165.trans KK166 (allS (Or.inr sz_b163) all0)
          refine own_go (fun _ kk_ => st166.trans kk_) ?_
          refine own_go (fun _ kk_ => XS.astore X166.here hx rfl (hb hby at_155) rfl rfl (l' := #[.val (.int mode), .val (.int pos), .val (.int c0), .val (.int c1), .val (.int c2), .val (.int (mode &&& (7 : Int32))), .val (.int (c0 &&& (255 : Int32))), .val (.int (c1 &&& (255 : Int32))), .val (.int (c2 &&& (255 : Int32))), .val (.ref b7), .val (.ref b163), .val (.int (0 : Int32)), .val (.int (2 : Int32)), .unset]) rfl kk_) ?_
          refine own_go (fun _ kk_ => XS.goto X166.here hx rfl (pc0 := 157) (pc' := 397) rfl (hb hby at_157) (by decide) (by decide) kk_) ?_
          refine own_go (fun _ kk_ => XS.iload X166.here hx rfl (hb hby at_397) rfl kk_) ?_
          show own_Fin p.tables e below _ (T166.setTop (mkF m 399 #[.val (.int mode), .val (.int pos), .val (.int c0), .val (.int c1), .val (.int c2), .val (.int (mode &&& (7 : Int32))), .val (.int (c0 &&& (255 : Int32))), .val (.int (c1 &&& (255 : Int32))), .val (.int (c2 &&& (255 : Int32))), .val (.ref b7), .val (.ref b163), .val (.int (0 : Int32)), .val (.int (2 : Int32)), .unset] [(.int (0 : Int32))]))
          refine own_go (fun _ kk_ => XS.ifYes X166.here hx rfl (pc0 := 399) (pc' := 407) rfl (hb hby at_399) rfl ((if0 _ _).trans (teq (by decide : (0 : Int32) = (0 : Int32))).1) (by decide) (by decide) kk_) ?_
          refine own_go (fun _ kk_ => XS.aload X166.here hx rfl (hb hby at_407) rfl rfl kk_) ?_
          refine own_go (fun _ kk_ => XS.astore X166.here hx rfl (hb hby at_409) rfl rfl (l' := #[.val (.int mode), .val (.int pos), .val (.int c0), .val (.int c1), .val (.int c2), .val (.int (mode &&& (7 : Int32))), .val (.int (c0 &&& (255 : Int32))), .val (.int (c1 &&& (255 : Int32))), .val (.int (c2 &&& (255 : Int32))), .val (.ref b7), .val (.ref b163), .val (.int (0 : Int32)), .val (.ref b163), .unset]) rfl kk_) ?_
          refine own_go (fun _ kk_ => XS.aload X166.here hx rfl (hb hby at_411) rfl rfl kk_) ?_
          show own_Fin p.tables e below _ (T166.setTop (mkF m 413 #[.val (.int mode), .val (.int pos), .val (.int c0), .val (.int c1), .val (.int c2), .val (.int (mode &&& (7 : Int32))), .val (.int (c0 &&& (255 : Int32))), .val (.int (c1 &&& (255 : Int32))), .val (.int (c2 &&& (255 : Int32))), .val (.ref b7), .val (.ref b163), .val (.int (0 : Int32)), .val (.ref b163), .unset] [(.ref b163)]))
          obtain ⟨_, _, ⟨T172, L172, k172, n172⟩, -, X172, hSn172, hgr172, ⟨Lc172, hQ172, l172, y172, z172, CR172⟩, st172⟩ := callSS X166 hx (y := (⟨"com/example/laminate/laminate/core/DefaultRegistry", "credentialsKey", "(Ljava/lang/String;)Ljava/lang/String;"⟩ : MethodName)) hown (mvT hZ (hw _ (List.mem_of_getElem? (i := 33) rfl))) (mvT hZ (hw _ (List.mem_of_getElem? (i := 34) rfl))) (mvT hZ (hw _ (List.mem_of_getElem? (i := 35) rfl))) (mvT hZ (hw _ (List.mem_of_getElem? (i := 36) rfl))) (by decide) (backOfSH (s := s) (W := 0) (rm_ck l Z a0 hw [] hEL b163 t166 ([(100 : Int32), (111 : Int32), (c0 &&& (255 : Int32)), (107 : Int32), (101 : Int32), (114 : Int32), (46 : Int32), (105 : Int32), (111 : Int32)] : List Int32) gc T166.heap n0 (Nat.le_trans Z0 K171.1) SS166 S_C hcs O0) hZ (hw _ (List.mem_of_getElem? (i := 36) rfl)) (hw _ (List.mem_of_getElem? (i := 35) rfl)) (by decide) (by decide) hEL CH) (g := (mkF m 413 #[.val (.int mode), .val (.int pos), .val (.int c0), .val (.int c1), .val (.int c2), .val (.int (mode &&& (7 : Int32))), .val (.int (c0 &&& (255 : Int32))), .val (.int (c1 &&& (255 : Int32))), .val (.int (c2 &&& (255 : Int32))), .val (.ref b7), .val (.ref b163), .val (.int (0 : Int32)), .val (.ref b163), .unset] [(.ref b163)])) rfl (by rw [hml]; rfl) (argsL := [(.ref b163)]) (rest := []) (lenOf pd_4 rfl) rfl (by show 2 * 0 + _ ≤ _; exact Nat.le_of_eq rfl) (hb hby at_413) (fun _ _ => ⟨rfl, rfl, (by decide : 3 + 4 ≤ _), (by decide : 22 + 152 ≤ _)⟩)
          dsimp only [Pt.U, Pt.locs, Pt.cells, Pt.slots] at X172 l172 y172 z172 st172 hQ172 hSn172 hgr172 CR172
          subst l172 y172 z172
          replace hS := foldS hS hk hSn172 hgr172
          replace hk : T172.heap.size ≤ T172.heap.size := Nat.le_refl _
          replace hZ : Z.Warmed39 (s.setVm T172.vm).vm := State.Warmed39.trans (t := s.setVm s.vm) hZ hSn172.1
          replace hown : (s.setVm T172.vm).vm.findClass "com/example/laminate/laminate/core/DefaultRegistryCredentialsKeyPinLaw" = some m.cls := by rw [show (s.setVm T172.vm).vm = T172.vm from rfl, hSn172.1.alike.findClass]; exact hown
          replace X172 : Stand p l e room_1 (s.setVm T172.vm) m #[(.int mode), (.int pos), (.int c0), (.int c1), (.int c2)] below meth c T172 _ _ _ := X172
          replace S_b7 := CR172.safe V7.lt S_b7
          replace S_b163 := CR172.safe SS166.lt S_b163
          replace S_t166 := CR172.safe SS166.ltt S_t166
          replace CR := CR.trans CR172
          replace CH := CR172.1
          obtain ⟨N172q, KK172, hy172, hn172⟩ := hQ172
          have N172 := Fr.app N166 N172q
          obtain rfl := hn172 (by simp; exact fun q => hc136 q.symm)
          replace O0 := O0.keep KK172 all0
          replace V7 := V7.keep KK172 nin0
          replace SS166 := SS166.keep KK172 nin0 nin0
          have K173 := K171.trans KK172 all0
          refine own_go (fun _ kk_ => st172.trans kk_) ?_
          refine own_go (fun _ kk_ => XS.astore X172.here hx rfl (hb hby at_416) rfl rfl (l' := #[.val (.int mode), .val (.int pos), .val (.int c0), .val (.int c1), .val (.int c2), .val (.int (mode &&& (7 : Int32))), .val (.int (c0 &&& (255 : Int32))), .val (.int (c1 &&& (255 : Int32))), .val (.int (c2 &&& (255 : Int32))), .val (.ref b7), .val (.ref b163), .val (.int (0 : Int32)), .val (.ref b163), .val (.ref b163)]) rfl kk_) ?_
          refine own_go (fun _ kk_ => XS.aload X172.here hx rfl (hb hby at_418) rfl rfl kk_) ?_
          refine own_go (fun _ kk_ => XS.aload X172.here hx rfl (hb hby at_420) rfl rfl kk_) ?_
          show own_Fin p.tables e below _ (T172.setTop (mkF m 422 #[.val (.int mode), .val (.int pos), .val (.int c0), .val (.int c1), .val (.int c2), .val (.int (mode &&& (7 : Int32))), .val (.int (c0 &&& (255 : Int32))), .val (.int (c1 &&& (255 : Int32))), .val (.int (c2 &&& (255 : Int32))), .val (.ref b7), .val (.ref b163), .val (.int (0 : Int32)), .val (.ref b163), .val (.ref b163)] [(.ref b163), (.ref b163)]))
          obtain ⟨cq174, kq174, qa174, qb174, qc174⟩ := isOf hZ rfl SS166.exa
          obtain ⟨_, _, ⟨T174, L174, k174, n174⟩, -, X174, ⟨Lc174, hQ174, l174, y174, z174⟩, st174⟩ := X172.virtualBack hx (y := (⟨"java/lang/String", "equals", "(Ljava/lang/Object;)Z"⟩ : MethodName)) (z := (⟨"java/lang/String", "equals", "(Ljava/lang/Object;)Z"⟩ : MethodName)) hown (mvT hZ (hw _ (List.mem_of_getElem? (i := 49) rfl))) (mvT hZ (hw _ (List.mem_of_getElem? (i := 39) rfl))) (own_notface (args := #[]) (mvT hZ (hw _ (List.mem_of_getElem? (i := 41) rfl))) rfl) (mvT hZ (hw _ (List.mem_of_getElem? (i := 41) rfl))) (mvT hZ (hw _ (List.mem_of_getElem? (i := 40) rfl))) (by decide) (own_eqB (W := 0) hZ heq (hw _ (List.mem_of_getElem? (i := 2) rfl)) SS166 SS166 (S_C.ext O0.2) hcs (by decide) (by decide)) qa174 qc174 (g := (mkF m 422 #[.val (.int mode), .val (.int pos), .val (.int c0), .val (.int c1), .val (.int c2), .val (.int (mode &&& (7 : Int32))), .val (.int (c0 &&& (255 : Int32))), .val (.int (c1 &&& (255 : Int32))), .val (.int (c2 &&& (255 : Int32))), .val (.ref b7), .val (.ref b163), .val (.int (0 : Int32)), .val (.ref b163), .val (.ref b163)] [(.ref b163), (.ref b163)])) rfl (by rw [hml]; rfl) (Steps.refl _) (argsL := [(.ref b163)]) (rest := []) (lenOf pd_1 rfl) rfl (by show 2 * 0 + _ ≤ _; exact Nat.le_of_eq rfl) (hb hby at_422) (fun _ _ => ⟨rfl, rfl, (by decide : 7 + 0 ≤ _), (by decide : 174 + 0 ≤ _)⟩)
          dsimp only [Pt.U, Pt.locs, Pt.cells, Pt.slots] at X174 l174 y174 z174 st174 hQ174
          subst l174 y174 z174
          obtain ⟨hq174, rfl, e174⟩ := hQ174
          obtain ⟨z174, rfl, hz174⟩ := own_eqv hq174
          have N174 := Fr.app N172 (Fr.nil n0)
          obtain rfl : z174 = 1 := hz174.elim (fun q => q.1) (fun q => absurd rfl q.2)
          refine own_go (fun _ kk_ => st174.trans kk_) ?_
          show own_Fin p.tables e below _ (T174.setTop (mkF m 425 #[.val (.int mode), .val (.int pos), .val (.int c0), .val (.int c1), .val (.int c2), .val (.int (mode &&& (7 : Int32))), .val (.int (c0 &&& (255 : Int32))), .val (.int (c1 &&& (255 : Int32))), .val (.int (c2 &&& (255 : Int32))), .val (.ref b7), .val (.ref b163), .val (.int (0 : Int32)), .val (.ref b163), .val (.ref b163)] [(.int (1 : Int32))]))
          have CRz : CHr Z consts_1 s.vm s.heap T174.vm T174.heap := by
            rw [hh, e174]
            exact CR.trans (CHv.at X174 hZ hEL CH)
          refine own_retW X174 hx Bd hS (show _ ≤ T174.heap.size by rw [e174]; exact hk) (t := .boolean) Bd.returns rfl (Or.inl ⟨rfl, by simp, _, rfl⟩) (hb hby at_425) CRz ?_ (by decide) (by decide)
          show (Q_rm_law Z mode pos c0 c1 c2 gc h0 n0) (some (.int (1 : Int32))) T174.heap _
          rw [e174]
          exact ⟨rfl, N174⟩
      · skip
        show own_Fin p.tables e below _ (T33.setTop (mkF m 122 #[.val (.int mode), .val (.int pos), .val (.int c0), .val (.int c1), .val (.int c2), .val (.int (mode &&& (7 : Int32))), .val (.int (c0 &&& (255 : Int32))), .val (.int (c1 &&& (255 : Int32))), .val (.int (c2 &&& (255 : Int32))), .val (.ref b7), .unset, .unset, .val (.int ((pos &&& (2147483647 : Int32)) % (9 : Int32))), .unset] []))
        rw [hs9]
        refine own_go (fun _ kk_ => XS.aload X33.here hx rfl (hb hby at_122) rfl rfl kk_) ?_
        refine own_go (fun _ kk_ => XS.iload X33.here hx rfl (hb hby at_124) rfl kk_) ?_
        show own_Fin p.tables e below _ (T33.setTop (mkF m 126 #[.val (.int mode), .val (.int pos), .val (.int c0), .val (.int c1), .val (.int c2), .val (.int (mode &&& (7 : Int32))), .val (.int (c0 &&& (255 : Int32))), .val (.int (c1 &&& (255 : Int32))), .val (.int (c2 &&& (255 : Int32))), .val (.ref b7), .unset, .unset, .val (.int (3 : Int32)), .unset] [(.int (3 : Int32)), (.ref b7)]))
        refine own_go (fun _ kk_ => own_caload X33 hx hZ e33 V7 (by decide) (v := (.int (107 : Int32))) (rfl) (g := (mkF m 126 #[.val (.int mode), .val (.int pos), .val (.int c0), .val (.int c1), .val (.int c2), .val (.int (mode &&& (7 : Int32))), .val (.int (c0 &&& (255 : Int32))), .val (.int (c1 &&& (255 : Int32))), .val (.int (c2 &&& (255 : Int32))), .val (.ref b7), .unset, .unset, .val (.int (3 : Int32)), .unset] [(.int (3 : Int32)), (.ref b7)])) rfl rfl (hb hby at_126) _ kk_) ?_
        refine own_go (fun _ kk_ => XS.iload X33.here hx rfl (hb hby at_127) rfl kk_) ?_
        show own_Fin p.tables e below _ (T33.setTop (mkF m 129 #[.val (.int mode), .val (.int pos), .val (.int c0), .val (.int c1), .val (.int c2), .val (.int (mode &&& (7 : Int32))), .val (.int (c0 &&& (255 : Int32))), .val (.int (c1 &&& (255 : Int32))), .val (.int (c2 &&& (255 : Int32))), .val (.ref b7), .unset, .unset, .val (.int (3 : Int32)), .unset] [(.int (c0 &&& (255 : Int32))), (.int (107 : Int32))]))
        by_cases hc175 : (107 : Int32) = (c0 &&& (255 : Int32))
        · skip
          refine own_go (fun _ kk_ => XS.icmpNo X33.here hx rfl (hb hby at_129) rfl (teq hc175).2 kk_) ?_
          refine own_go (fun _ kk_ => XS.iconst X33.here hx rfl (hb hby at_132) kk_) ?_
          refine own_go (fun _ kk_ => XS.goto X33.here hx rfl (pc0 := 133) (pc' := 137) rfl (hb hby at_133) (by decide) (by decide) kk_) ?_
          refine own_go (fun _ kk_ => XS.istore X33.here hx rfl (hb hby at_137) rfl (l' := #[.val (.int mode), .val (.int pos), .val (.int c0), .val (.int c1), .val (.int c2), .val (.int (mode &&& (7 : Int32))), .val (.int (c0 &&& (255 : Int32))), .val (.int (c1 &&& (255 : Int32))), .val (.int (c2 &&& (255 : Int32))), .val (.ref b7), .unset, .val (.int (1 : Int32)), .val (.int (3 : Int32)), .unset]) rfl kk_) ?_
          refine own_go (fun _ kk_ => XS.aload X33.here hx rfl (hb hby at_139) rfl rfl kk_) ?_
          refine own_go (fun _ kk_ => XS.iload X33.here hx rfl (hb hby at_141) rfl kk_) ?_
          refine own_go (fun _ kk_ => XS.iload X33.here hx rfl (hb hby at_143) rfl kk_) ?_
          show own_Fin p.tables e below _ (T33.setTop (mkF m 145 #[.val (.int mode), .val (.int pos), .val (.int c0), .val (.int c1), .val (.int c2), .val (.int (mode &&& (7 : Int32))), .val (.int (c0 &&& (255 : Int32))), .val (.int (c1 &&& (255 : Int32))), .val (.int (c2 &&& (255 : Int32))), .val (.ref b7), .unset, .val (.int (1 : Int32)), .val (.int (3 : Int32)), .unset] [(.int (c0 &&& (255 : Int32))), (.int (3 : Int32)), (.ref b7)]))
          obtain ⟨T176, h176, X176, e176, W176, V176, st176⟩ := own_stC X33 hx hZ e33 V7 (by decide) (i := 3) rfl (Nat.le_of_ble_eq_true rfl) (g := (mkF m 145 #[.val (.int mode), .val (.int pos), .val (.int c0), .val (.int c1), .val (.int c2), .val (.int (mode &&& (7 : Int32))), .val (.int (c0 &&& (255 : Int32))), .val (.int (c1 &&& (255 : Int32))), .val (.int (c2 &&& (255 : Int32))), .val (.ref b7), .unset, .val (.int (1 : Int32)), .val (.int (3 : Int32)), .unset] [(.int (c0 &&& (255 : Int32))), (.int (3 : Int32)), (.ref b7)])) rfl rfl (hb hby at_145)
          rw [own_nar255] at V176
          replace V7 : Arv Z h176 b7 k7 .char (9 : Int32) [(.int (100 : Int32)), (.int (111 : Int32)), (.int (99 : Int32)), (.int (c0 &&& (255 : Int32))), (.int (101 : Int32)), (.int (114 : Int32)), (.int (46 : Int32)), (.int (105 : Int32)), (.int (111 : Int32))] (.int (0 : Int32)) := V176
          have N176 := Fr.snoc X176 N33 g_b7
          refine own_go st176 ?_
          have sa177 := S_b7
          replace S_b7 := Safe.wr W176 sa177 CH S_b7
          replace CR := CR.trans (CHr.wr W176 sa177 CH)
          replace CH := CHv.wr W176 sa177 CH
          replace hk := Nat.le_trans hk (Keep.of_wr W176).1
          replace O0 := O0.wr W176 g_b7
          have K178 := K35.wr W176 (Or.inr sz_b7)
          show own_Fin p.tables e below _ (T176.setTop (mkF m 146 #[.val (.int mode), .val (.int pos), .val (.int c0), .val (.int c1), .val (.int c2), .val (.int (mode &&& (7 : Int32))), .val (.int (c0 &&& (255 : Int32))), .val (.int (c1 &&& (255 : Int32))), .val (.int (c2 &&& (255 : Int32))), .val (.ref b7), .unset, .val (.int (1 : Int32)), .val (.int (3 : Int32)), .unset] []))
          obtain ⟨T179, h179, X179, e179, E179, A179, D179, -, st179⟩ := newO X176 hx hZ hown (hw _ (List.mem_of_getElem? (i := 1) rfl)) (hw _ (List.mem_of_getElem? (i := 2) rfl)) (hw _ (List.mem_of_getElem? (i := 3) rfl)) e176 (g := (mkF m 146 #[.val (.int mode), .val (.int pos), .val (.int c0), .val (.int c1), .val (.int c2), .val (.int (mode &&& (7 : Int32))), .val (.int (c0 &&& (255 : Int32))), .val (.int (c1 &&& (255 : Int32))), .val (.int (c2 &&& (255 : Int32))), .val (.ref b7), .unset, .val (.int (1 : Int32)), .val (.int (3 : Int32)), .unset] [])) rfl (hb hby at_146) (by decide) (by decide)
          obtain ⟨b179, g179⟩ : ∃ z, z = h176.size := ⟨_, rfl⟩
          rw [← g179] at A179 D179 st179
          have sz_b179 : h0.size ≤ b179 := Nat.le_trans K178.1 (Nat.le_of_eq g179.symm)
          have g_b179 : n0 ≤ b179 := Nat.le_trans Z0 sz_b179
          have ne180 : b7 ≠ b179 := Nat.ne_of_lt (Nat.lt_of_lt_of_le V7.lt (Nat.le_of_eq g179.symm))
          have S_b179 := Safe.new (Z := Z) (EL := consts_1) (vm := s.vm) (Nat.le_of_eq g179.symm)
          replace S_b7 := Safe.ext E179 CH S_b7
          replace S_b179 := Safe.ext E179 CH S_b179
          replace CR := CR.trans (CHr.ext E179 CH)
          replace CH := CH.ext E179
          replace hk := Nat.le_trans hk E179.1
          replace O0 := O0.ext E179
          replace V7 := V7.ext E179
          have K181 := K178.ext E179
          have F179_coder : Fld Z h179 b179 "java/lang/String" "coder" "B" (.int (0 : Int32)) := D179 (Or.inr (hw _ (List.mem_of_getElem? (i := 27) rfl))) (ty := .byte) (by decide)
          have F179_value : Fld Z h179 b179 "java/lang/String" "value" "[B" .null := D179 (Or.inr (hw _ (List.mem_of_getElem? (i := 29) rfl))) (ty := (.array .byte)) (by decide)
          refine own_go st179 ?_
          refine own_go (fun _ kk_ => XS.dup X179.here hx rfl (hb hby at_149) rfl rfl kk_) ?_
          refine own_go (fun _ kk_ => XS.aload X179.here hx rfl (hb hby at_150) rfl rfl kk_) ?_
          show own_Fin p.tables e below _ (T179.setTop (mkF m 152 #[.val (.int mode), .val (.int pos), .val (.int c0), .val (.int c1), .val (.int c2), .val (.int (mode &&& (7 : Int32))), .val (.int (c0 &&& (255 : Int32))), .val (.int (c1 &&& (255 : Int32))), .val (.int (c2 &&& (255 : Int32))), .val (.ref b7), .unset, .val (.int (1 : Int32)), .val (.int (3 : Int32)), .unset] [(.ref b7), (.ref b179), (.ref b179)]))
          have hp183 : ∀ c ∈ ([(100 : Int32), (111 : Int32), (99 : Int32), (c0 &&& (255 : Int32)), (101 : Int32), (114 : Int32), (46 : Int32), (105 : Int32), (111 : Int32)] : List Int32), ¬ c < 0 ∧ ¬ (255 : Int32) < c := by
            intro c hc
            simp only [List.mem_cons, List.not_mem_nil, or_false] at hc
            rcases hc with rfl | rfl | rfl | rfl | rfl | rfl | rfl | rfl | rfl
            · exact by decide
            · exact by decide
            · exact by decide
            · exact own_and255 _
            · exact by decide
            · exact by decide
            · exact by decide
            · exact by decide
            · exact by decide
          obtain ⟨_, _, ⟨T182, L182, k182, n182⟩, -, X182, ⟨Lc182, hQ182, l182, y182, z182⟩, st182⟩ := X179.specialBack hx (y := (⟨"java/lang/String", "<init>", "([C)V"⟩ : MethodName)) rfl hown (mvT hZ (hw _ (List.mem_of_getElem? (i := 4) rfl))) (mvT hZ (hw _ (List.mem_of_getElem? (i := 5) rfl))) (mvT hZ (hw _ (List.mem_of_getElem? (i := 6) rfl))) (by decide) (StrChars.Road.backV (W := 1) hZ hws (kI := 4) (hw _ (List.mem_of_getElem? (i := 2) rfl)) (cs := ([(100 : Int32), (111 : Int32), (99 : Int32), (c0 &&& (255 : Int32)), (101 : Int32), (114 : Int32), (46 : Int32), (105 : Int32), (111 : Int32)] : List Int32)) (bs := (([(100 : Int32), (111 : Int32), (99 : Int32), (c0 &&& (255 : Int32)), (101 : Int32), (114 : Int32), (46 : Int32), (105 : Int32), (111 : Int32)] : List Int32)).map (fun c => c.toInt8.toInt32)) (n := 9) g_b179 (Nat.le_trans Z0 K181.1) A179 F179_value F179_coder V7 (S_C.ext O0.2) hcs rfl rfl (by decide) (by decide) hp183 rfl (by decide) (by decide)) (g := (mkF m 152 #[.val (.int mode), .val (.int pos), .val (.int c0), .val (.int c1), .val (.int c2), .val (.int (mode &&& (7 : Int32))), .val (.int (c0 &&& (255 : Int32))), .val (.int (c1 &&& (255 : Int32))), .val (.int (c2 &&& (255 : Int32))), .val (.ref b7), .unset, .val (.int (1 : Int32)), .val (.int (3 : Int32)), .unset] [(.ref b7), (.ref b179), (.ref b179)])) rfl (by rw [hml]; rfl) (Steps.refl _) (a := b179) (argsL := [(.ref b7)]) (rest := [(.ref b179)]) (lenOf pd_3 rfl) rfl (by show 2 * 0 + _ ≤ _; exact Nat.le_of_eq rfl) (hb hby at_152) (fun _ _ => ⟨rfl, e179, (by decide : 2 + 1 ≤ _), (by decide : 13 + 9 ≤ _)⟩)
          dsimp only [Pt.U, Pt.locs, Pt.cells, Pt.slots] at X182 l182 y182 z182 st182 hQ182
          subst l182 y182 z182
          obtain ⟨rfl, N182q, KK182, EE182, FC182, t182, kb182, gt182, szt182, netx182, FV182, VV182⟩ := hQ182
          have N182 := Fr.app N176 N182q
          have SS182 : own_Str Z T182.heap b179 t182 ([(100 : Int32), (111 : Int32), (99 : Int32), (c0 &&& (255 : Int32)), (101 : Int32), (114 : Int32), (46 : Int32), (105 : Int32), (111 : Int32)] : List Int32) := ⟨_, _, _, _, EE182, FV182, FC182, VV182, StrChars.Road.codOf (n := 9) rfl (fun c hc => (hp183 c hc).2), own_up _ hp183, Nat.le_of_ble_eq_true rfl⟩
          have sz_t182 : h0.size ≤ t182 := Nat.le_trans K181.1 szt182
          have ne184 : b7 ≠ t182 := Nat.ne_of_lt (Nat.lt_of_lt_of_le V7.lt szt182)
          have ne185 : b179 ≠ t182 := Nat.ne_of_lt (Nat.lt_of_lt_of_le A179.lt szt182)
          have S_t182 := Safe.new (Z := Z) (EL := consts_1) (vm := s.vm) szt182
          have hs186 : ∀ x ∈ [b179], Safe Z consts_1 s.vm h179 x := (sfS S_b179 sf0)
          replace S_b7 := Safe.keep KK182 hs186 CH S_b7
          replace S_b179 := Safe.keep KK182 hs186 CH S_b179
          replace S_t182 := Safe.keep KK182 hs186 CH S_t182
          replace CR := CR.trans (CHr.keep KK182 hs186 CH)
          replace CH := CHv.keep KK182 hs186 CH
          replace hk := Nat.le_trans hk KK182.1
          replace O0 := O0.keep KK182 (allS g_b179 (all0))
          replace V7 := V7.keep KK182 (ninS ne180 nin0)
          replace A179 := A179.keep KK182
          have K187 := K181.trans KK182 (allS (Or.inr sz_b179) all0)
          refine own_go (fun _ kk_ => st182.trans kk_) ?_
          refine own_go (fun _ kk_ => XS.astore X182.here hx rfl (hb hby at_155) rfl rfl (l' := #[.val (.int mode), .val (.int pos), .val (.int c0), .val (.int c1), .val (.int c2), .val (.int (mode &&& (7 : Int32))), .val (.int (c0 &&& (255 : Int32))), .val (.int (c1 &&& (255 : Int32))), .val (.int (c2 &&& (255 : Int32))), .val (.ref b7), .val (.ref b179), .val (.int (1 : Int32)), .val (.int (3 : Int32)), .unset]) rfl kk_) ?_
          refine own_go (fun _ kk_ => XS.goto X182.here hx rfl (pc0 := 157) (pc' := 397) rfl (hb hby at_157) (by decide) (by decide) kk_) ?_
          refine own_go (fun _ kk_ => XS.iload X182.here hx rfl (hb hby at_397) rfl kk_) ?_
          show own_Fin p.tables e below _ (T182.setTop (mkF m 399 #[.val (.int mode), .val (.int pos), .val (.int c0), .val (.int c1), .val (.int c2), .val (.int (mode &&& (7 : Int32))), .val (.int (c0 &&& (255 : Int32))), .val (.int (c1 &&& (255 : Int32))), .val (.int (c2 &&& (255 : Int32))), .val (.ref b7), .val (.ref b179), .val (.int (1 : Int32)), .val (.int (3 : Int32)), .unset] [(.int (1 : Int32))]))
          refine own_go (fun _ kk_ => XS.ifNo X182.here hx rfl (hb hby at_399) rfl ((if0 _ _).trans (feq (by decide : ¬ (1 : Int32) = (0 : Int32))).1) kk_) ?_
          show own_Fin p.tables e below _ (T182.setTop (mkF m 402 #[.val (.int mode), .val (.int pos), .val (.int c0), .val (.int c1), .val (.int c2), .val (.int (mode &&& (7 : Int32))), .val (.int (c0 &&& (255 : Int32))), .val (.int (c1 &&& (255 : Int32))), .val (.int (c2 &&& (255 : Int32))), .val (.ref b7), .val (.ref b179), .val (.int (1 : Int32)), .val (.int (3 : Int32)), .unset] []))
          obtain ⟨a188, T188, h188, k188, tb188, kb188, X188, e188, E188, hS, hk, hZ, hown, EA188, FC188, FV188, VB188, -, -, CR188, -, NE188, st188⟩ := ldcCH X182 hx hZ hown (hw _ (List.mem_of_getElem? (i := 30) rfl)) wS rfl hS hk hEL (by decide) CH (vs := ((([(104 : Int32), (116 : Int32), (116 : Int32), (112 : Int32), (115 : Int32), (58 : Int32), (47 : Int32), (47 : Int32), (105 : Int32), (110 : Int32), (100 : Int32), (101 : Int32), (120 : Int32), (46 : Int32), (100 : Int32), (111 : Int32), (99 : Int32), (107 : Int32), (101 : Int32), (114 : Int32), (46 : Int32), (105 : Int32), (111 : Int32), (47 : Int32), (118 : Int32), (49 : Int32), (47 : Int32)] : List Int32).map (fun c => c.toInt8.toInt32)).map Value.int)) (z := (27 : Int32)) (by exact ⟨by decide, by decide⟩) (by decide) rfl (g := (mkF m 402 #[.val (.int mode), .val (.int pos), .val (.int c0), .val (.int c1), .val (.int c2), .val (.int (mode &&& (7 : Int32))), .val (.int (c0 &&& (255 : Int32))), .val (.int (c1 &&& (255 : Int32))), .val (.int (c2 &&& (255 : Int32))), .val (.ref b7), .val (.ref b179), .val (.int (1 : Int32)), .val (.int (3 : Int32)), .unset] [])) rfl (hb hby at_402) (n := 108) (by decide) (by decide) (by decide) (by decide)
          replace S_b7 := CR188.safe V7.lt S_b7
          replace S_b179 := CR188.safe SS182.lt S_b179
          replace S_t182 := CR188.safe SS182.ltt S_t182
          replace CR := CR.trans CR188
          replace CH := CR188.1
          replace O0 := O0.ext E188
          replace V7 := V7.ext E188
          replace SS182 := SS182.ext E188
          have K189 := K187.ext E188
          have ne190 : b7 ≠ a188 := (NE188 _ S_b7).1
          have ne191 : b7 ≠ tb188 := (NE188 _ S_b7).2
          have ne192 : b179 ≠ a188 := (NE188 _ S_b179).1
          have ne193 : b179 ≠ tb188 := (NE188 _ S_b179).2
          have ne194 : t182 ≠ a188 := (NE188 _ S_t182).1
          have ne195 : t182 ≠ tb188 := (NE188 _ S_t182).2
          have SS188 : own_Str Z h188 a188 tb188 ([(104 : Int32), (116 : Int32), (116 : Int32), (112 : Int32), (115 : Int32), (58 : Int32), (47 : Int32), (47 : Int32), (105 : Int32), (110 : Int32), (100 : Int32), (101 : Int32), (120 : Int32), (46 : Int32), (100 : Int32), (111 : Int32), (99 : Int32), (107 : Int32), (101 : Int32), (114 : Int32), (46 : Int32), (105 : Int32), (111 : Int32), (47 : Int32), (118 : Int32), (49 : Int32), (47 : Int32)] : List Int32) := ⟨_, _, _, _, EA188, FV188, FC188, VB188, StrChars.Road.codOf (n := 27) rfl (by decide), by decide, Nat.le_of_ble_eq_true rfl⟩
          refine own_go st188 ?_
          refine own_go (fun _ kk_ => XS.goto X188.here hx rfl (pc0 := 404) (pc' := 409) rfl (hb hby at_404) (by decide) (by decide) kk_) ?_
          refine own_go (fun _ kk_ => XS.astore X188.here hx rfl (hb hby at_409) rfl rfl (l' := #[.val (.int mode), .val (.int pos), .val (.int c0), .val (.int c1), .val (.int c2), .val (.int (mode &&& (7 : Int32))), .val (.int (c0 &&& (255 : Int32))), .val (.int (c1 &&& (255 : Int32))), .val (.int (c2 &&& (255 : Int32))), .val (.ref b7), .val (.ref b179), .val (.int (1 : Int32)), .val (.ref a188), .unset]) rfl kk_) ?_
          refine own_go (fun _ kk_ => XS.aload X188.here hx rfl (hb hby at_411) rfl rfl kk_) ?_
          show own_Fin p.tables e below _ (T188.setTop (mkF m 413 #[.val (.int mode), .val (.int pos), .val (.int c0), .val (.int c1), .val (.int c2), .val (.int (mode &&& (7 : Int32))), .val (.int (c0 &&& (255 : Int32))), .val (.int (c1 &&& (255 : Int32))), .val (.int (c2 &&& (255 : Int32))), .val (.ref b7), .val (.ref b179), .val (.int (1 : Int32)), .val (.ref a188), .unset] [(.ref b179)]))
          obtain ⟨_, _, ⟨T196, L196, k196, n196⟩, -, X196, hSn196, hgr196, ⟨Lc196, hQ196, l196, y196, z196, CR196⟩, st196⟩ := callSS X188 hx (y := (⟨"com/example/laminate/laminate/core/DefaultRegistry", "credentialsKey", "(Ljava/lang/String;)Ljava/lang/String;"⟩ : MethodName)) hown (mvT hZ (hw _ (List.mem_of_getElem? (i := 33) rfl))) (mvT hZ (hw _ (List.mem_of_getElem? (i := 34) rfl))) (mvT hZ (hw _ (List.mem_of_getElem? (i := 35) rfl))) (mvT hZ (hw _ (List.mem_of_getElem? (i := 36) rfl))) (by decide) (backOfSH (s := s) (W := 0) (rm_ck l Z a0 hw [] hEL b179 t182 ([(100 : Int32), (111 : Int32), (99 : Int32), (c0 &&& (255 : Int32)), (101 : Int32), (114 : Int32), (46 : Int32), (105 : Int32), (111 : Int32)] : List Int32) gc h188 n0 (Nat.le_trans Z0 K189.1) SS182 S_C hcs O0) hZ (hw _ (List.mem_of_getElem? (i := 36) rfl)) (hw _ (List.mem_of_getElem? (i := 35) rfl)) (by decide) (by decide) hEL CH) (g := (mkF m 413 #[.val (.int mode), .val (.int pos), .val (.int c0), .val (.int c1), .val (.int c2), .val (.int (mode &&& (7 : Int32))), .val (.int (c0 &&& (255 : Int32))), .val (.int (c1 &&& (255 : Int32))), .val (.int (c2 &&& (255 : Int32))), .val (.ref b7), .val (.ref b179), .val (.int (1 : Int32)), .val (.ref a188), .unset] [(.ref b179)])) rfl (by rw [hml]; rfl) (argsL := [(.ref b179)]) (rest := []) (lenOf pd_4 rfl) rfl (by show 2 * 0 + _ ≤ _; exact Nat.le_of_eq rfl) (hb hby at_413) (fun _ _ => ⟨rfl, e188, (by decide : 5 + 4 ≤ _), (by decide : 134 + 152 ≤ _)⟩)
          dsimp only [Pt.U, Pt.locs, Pt.cells, Pt.slots] at X196 l196 y196 z196 st196 hQ196 hSn196 hgr196 CR196
          subst l196 y196 z196
          replace hS := foldS hS (show _ ≤ T188.heap.size by rw [e188]; exact hk) hSn196 hgr196
          replace hk : T196.heap.size ≤ T196.heap.size := Nat.le_refl _
          replace hZ : Z.Warmed39 (s.setVm T196.vm).vm := State.Warmed39.trans (t := s.setVm T188.vm) hZ hSn196.1
          replace hown : (s.setVm T196.vm).vm.findClass "com/example/laminate/laminate/core/DefaultRegistryCredentialsKeyPinLaw" = some m.cls := by rw [show (s.setVm T196.vm).vm = T196.vm from rfl, hSn196.1.alike.findClass]; exact hown
          replace X196 : Stand p l e room_1 (s.setVm T196.vm) m #[(.int mode), (.int pos), (.int c0), (.int c1), (.int c2)] below meth c T196 _ _ _ := X196
          replace S_b7 := CR196.safe V7.lt S_b7
          replace S_b179 := CR196.safe SS182.lt S_b179
          replace S_t182 := CR196.safe SS182.ltt S_t182
          replace CR := CR.trans CR196
          replace CH := CR196.1
          obtain ⟨N196q, KK196, hy196, hn196⟩ := hQ196
          have N196 := Fr.app N182 N196q
          obtain ⟨ra196, rb196, rfl, SR196⟩ := hy196 (by rw [← hc175])
          replace O0 := O0.keep KK196 all0
          replace V7 := V7.keep KK196 nin0
          replace SS182 := SS182.keep KK196 nin0 nin0
          replace SS188 := SS188.keep KK196 nin0 nin0
          have K197 := K189.trans KK196 all0
          refine own_go (fun _ kk_ => st196.trans kk_) ?_
          refine own_go (fun _ kk_ => XS.astore X196.here hx rfl (hb hby at_416) rfl rfl (l' := #[.val (.int mode), .val (.int pos), .val (.int c0), .val (.int c1), .val (.int c2), .val (.int (mode &&& (7 : Int32))), .val (.int (c0 &&& (255 : Int32))), .val (.int (c1 &&& (255 : Int32))), .val (.int (c2 &&& (255 : Int32))), .val (.ref b7), .val (.ref b179), .val (.int (1 : Int32)), .val (.ref a188), .val (.ref ra196)]) rfl kk_) ?_
          refine own_go (fun _ kk_ => XS.aload X196.here hx rfl (hb hby at_418) rfl rfl kk_) ?_
          refine own_go (fun _ kk_ => XS.aload X196.here hx rfl (hb hby at_420) rfl rfl kk_) ?_
          show own_Fin p.tables e below _ (T196.setTop (mkF m 422 #[.val (.int mode), .val (.int pos), .val (.int c0), .val (.int c1), .val (.int c2), .val (.int (mode &&& (7 : Int32))), .val (.int (c0 &&& (255 : Int32))), .val (.int (c1 &&& (255 : Int32))), .val (.int (c2 &&& (255 : Int32))), .val (.ref b7), .val (.ref b179), .val (.int (1 : Int32)), .val (.ref a188), .val (.ref ra196)] [(.ref ra196), (.ref a188)]))
          obtain ⟨cq198, kq198, qa198, qb198, qc198⟩ := isOf hZ rfl SS188.exa
          obtain ⟨_, _, ⟨T198, L198, k198, n198⟩, -, X198, ⟨Lc198, hQ198, l198, y198, z198⟩, st198⟩ := X196.virtualBack hx (y := (⟨"java/lang/String", "equals", "(Ljava/lang/Object;)Z"⟩ : MethodName)) (z := (⟨"java/lang/String", "equals", "(Ljava/lang/Object;)Z"⟩ : MethodName)) hown (mvT hZ (hw _ (List.mem_of_getElem? (i := 49) rfl))) (mvT hZ (hw _ (List.mem_of_getElem? (i := 39) rfl))) (own_notface (args := #[]) (mvT hZ (hw _ (List.mem_of_getElem? (i := 41) rfl))) rfl) (mvT hZ (hw _ (List.mem_of_getElem? (i := 41) rfl))) (mvT hZ (hw _ (List.mem_of_getElem? (i := 40) rfl))) (by decide) (own_eqB (W := 0) hZ heq (hw _ (List.mem_of_getElem? (i := 2) rfl)) SS188 SR196 (S_C.ext O0.2) hcs (by decide) (by decide)) qa198 qc198 (g := (mkF m 422 #[.val (.int mode), .val (.int pos), .val (.int c0), .val (.int c1), .val (.int c2), .val (.int (mode &&& (7 : Int32))), .val (.int (c0 &&& (255 : Int32))), .val (.int (c1 &&& (255 : Int32))), .val (.int (c2 &&& (255 : Int32))), .val (.ref b7), .val (.ref b179), .val (.int (1 : Int32)), .val (.ref a188), .val (.ref ra196)] [(.ref ra196), (.ref a188)])) rfl (by rw [hml]; rfl) (Steps.refl _) (argsL := [(.ref ra196)]) (rest := []) (lenOf pd_1 rfl) rfl (by show 2 * 0 + _ ≤ _; exact Nat.le_of_eq rfl) (hb hby at_422) (fun _ _ => ⟨rfl, rfl, (by decide : 9 + 0 ≤ _), (by decide : 286 + 0 ≤ _)⟩)
          dsimp only [Pt.U, Pt.locs, Pt.cells, Pt.slots] at X198 l198 y198 z198 st198 hQ198
          subst l198 y198 z198
          obtain ⟨hq198, rfl, e198⟩ := hQ198
          obtain ⟨z198, rfl, hz198⟩ := own_eqv hq198
          have N198 := Fr.app N196 (Fr.nil n0)
          obtain rfl : z198 = 1 := hz198.elim (fun q => q.1) (fun q => absurd rfl q.2)
          refine own_go (fun _ kk_ => st198.trans kk_) ?_
          show own_Fin p.tables e below _ (T198.setTop (mkF m 425 #[.val (.int mode), .val (.int pos), .val (.int c0), .val (.int c1), .val (.int c2), .val (.int (mode &&& (7 : Int32))), .val (.int (c0 &&& (255 : Int32))), .val (.int (c1 &&& (255 : Int32))), .val (.int (c2 &&& (255 : Int32))), .val (.ref b7), .val (.ref b179), .val (.int (1 : Int32)), .val (.ref a188), .val (.ref ra196)] [(.int (1 : Int32))]))
          have CRz : CHr Z consts_1 s.vm s.heap T198.vm T198.heap := by
            rw [hh, e198]
            exact CR.trans (CHv.at X198 hZ hEL CH)
          refine own_retW X198 hx Bd hS (show _ ≤ T198.heap.size by rw [e198]; exact hk) (t := .boolean) Bd.returns rfl (Or.inl ⟨rfl, by simp, _, rfl⟩) (hb hby at_425) CRz ?_ (by decide) (by decide)
          show (Q_rm_law Z mode pos c0 c1 c2 gc h0 n0) (some (.int (1 : Int32))) T198.heap _
          rw [e198]
          exact ⟨rfl, N198⟩
        · skip
          refine own_go (fun _ kk_ => XS.icmpYes X33.here hx rfl (pc0 := 129) (pc' := 136) rfl (hb hby at_129) rfl (feq hc175).2 (by decide) (by decide) kk_) ?_
          refine own_go (fun _ kk_ => XS.iconst X33.here hx rfl (hb hby at_136) kk_) ?_
          refine own_go (fun _ kk_ => XS.istore X33.here hx rfl (hb hby at_137) rfl (l' := #[.val (.int mode), .val (.int pos), .val (.int c0), .val (.int c1), .val (.int c2), .val (.int (mode &&& (7 : Int32))), .val (.int (c0 &&& (255 : Int32))), .val (.int (c1 &&& (255 : Int32))), .val (.int (c2 &&& (255 : Int32))), .val (.ref b7), .unset, .val (.int (0 : Int32)), .val (.int (3 : Int32)), .unset]) rfl kk_) ?_
          refine own_go (fun _ kk_ => XS.aload X33.here hx rfl (hb hby at_139) rfl rfl kk_) ?_
          refine own_go (fun _ kk_ => XS.iload X33.here hx rfl (hb hby at_141) rfl kk_) ?_
          refine own_go (fun _ kk_ => XS.iload X33.here hx rfl (hb hby at_143) rfl kk_) ?_
          show own_Fin p.tables e below _ (T33.setTop (mkF m 145 #[.val (.int mode), .val (.int pos), .val (.int c0), .val (.int c1), .val (.int c2), .val (.int (mode &&& (7 : Int32))), .val (.int (c0 &&& (255 : Int32))), .val (.int (c1 &&& (255 : Int32))), .val (.int (c2 &&& (255 : Int32))), .val (.ref b7), .unset, .val (.int (0 : Int32)), .val (.int (3 : Int32)), .unset] [(.int (c0 &&& (255 : Int32))), (.int (3 : Int32)), (.ref b7)]))
          obtain ⟨T199, h199, X199, e199, W199, V199, st199⟩ := own_stC X33 hx hZ e33 V7 (by decide) (i := 3) rfl (Nat.le_of_ble_eq_true rfl) (g := (mkF m 145 #[.val (.int mode), .val (.int pos), .val (.int c0), .val (.int c1), .val (.int c2), .val (.int (mode &&& (7 : Int32))), .val (.int (c0 &&& (255 : Int32))), .val (.int (c1 &&& (255 : Int32))), .val (.int (c2 &&& (255 : Int32))), .val (.ref b7), .unset, .val (.int (0 : Int32)), .val (.int (3 : Int32)), .unset] [(.int (c0 &&& (255 : Int32))), (.int (3 : Int32)), (.ref b7)])) rfl rfl (hb hby at_145)
          rw [own_nar255] at V199
          replace V7 : Arv Z h199 b7 k7 .char (9 : Int32) [(.int (100 : Int32)), (.int (111 : Int32)), (.int (99 : Int32)), (.int (c0 &&& (255 : Int32))), (.int (101 : Int32)), (.int (114 : Int32)), (.int (46 : Int32)), (.int (105 : Int32)), (.int (111 : Int32))] (.int (0 : Int32)) := V199
          have N199 := Fr.snoc X199 N33 g_b7
          refine own_go st199 ?_
          have sa200 := S_b7
          replace S_b7 := Safe.wr W199 sa200 CH S_b7
          replace CR := CR.trans (CHr.wr W199 sa200 CH)
          replace CH := CHv.wr W199 sa200 CH
          replace hk := Nat.le_trans hk (Keep.of_wr W199).1
          replace O0 := O0.wr W199 g_b7
          have K201 := K35.wr W199 (Or.inr sz_b7)
          show own_Fin p.tables e below _ (T199.setTop (mkF m 146 #[.val (.int mode), .val (.int pos), .val (.int c0), .val (.int c1), .val (.int c2), .val (.int (mode &&& (7 : Int32))), .val (.int (c0 &&& (255 : Int32))), .val (.int (c1 &&& (255 : Int32))), .val (.int (c2 &&& (255 : Int32))), .val (.ref b7), .unset, .val (.int (0 : Int32)), .val (.int (3 : Int32)), .unset] []))
          obtain ⟨T202, h202, X202, e202, E202, A202, D202, -, st202⟩ := newO X199 hx hZ hown (hw _ (List.mem_of_getElem? (i := 1) rfl)) (hw _ (List.mem_of_getElem? (i := 2) rfl)) (hw _ (List.mem_of_getElem? (i := 3) rfl)) e199 (g := (mkF m 146 #[.val (.int mode), .val (.int pos), .val (.int c0), .val (.int c1), .val (.int c2), .val (.int (mode &&& (7 : Int32))), .val (.int (c0 &&& (255 : Int32))), .val (.int (c1 &&& (255 : Int32))), .val (.int (c2 &&& (255 : Int32))), .val (.ref b7), .unset, .val (.int (0 : Int32)), .val (.int (3 : Int32)), .unset] [])) rfl (hb hby at_146) (by decide) (by decide)
          obtain ⟨b202, g202⟩ : ∃ z, z = h199.size := ⟨_, rfl⟩
          rw [← g202] at A202 D202 st202
          have sz_b202 : h0.size ≤ b202 := Nat.le_trans K201.1 (Nat.le_of_eq g202.symm)
          have g_b202 : n0 ≤ b202 := Nat.le_trans Z0 sz_b202
          have ne203 : b7 ≠ b202 := Nat.ne_of_lt (Nat.lt_of_lt_of_le V7.lt (Nat.le_of_eq g202.symm))
          have S_b202 := Safe.new (Z := Z) (EL := consts_1) (vm := s.vm) (Nat.le_of_eq g202.symm)
          replace S_b7 := Safe.ext E202 CH S_b7
          replace S_b202 := Safe.ext E202 CH S_b202
          replace CR := CR.trans (CHr.ext E202 CH)
          replace CH := CH.ext E202
          replace hk := Nat.le_trans hk E202.1
          replace O0 := O0.ext E202
          replace V7 := V7.ext E202
          have K204 := K201.ext E202
          have F202_coder : Fld Z h202 b202 "java/lang/String" "coder" "B" (.int (0 : Int32)) := D202 (Or.inr (hw _ (List.mem_of_getElem? (i := 27) rfl))) (ty := .byte) (by decide)
          have F202_value : Fld Z h202 b202 "java/lang/String" "value" "[B" .null := D202 (Or.inr (hw _ (List.mem_of_getElem? (i := 29) rfl))) (ty := (.array .byte)) (by decide)
          refine own_go st202 ?_
          refine own_go (fun _ kk_ => XS.dup X202.here hx rfl (hb hby at_149) rfl rfl kk_) ?_
          refine own_go (fun _ kk_ => XS.aload X202.here hx rfl (hb hby at_150) rfl rfl kk_) ?_
          show own_Fin p.tables e below _ (T202.setTop (mkF m 152 #[.val (.int mode), .val (.int pos), .val (.int c0), .val (.int c1), .val (.int c2), .val (.int (mode &&& (7 : Int32))), .val (.int (c0 &&& (255 : Int32))), .val (.int (c1 &&& (255 : Int32))), .val (.int (c2 &&& (255 : Int32))), .val (.ref b7), .unset, .val (.int (0 : Int32)), .val (.int (3 : Int32)), .unset] [(.ref b7), (.ref b202), (.ref b202)]))
          have hp206 : ∀ c ∈ ([(100 : Int32), (111 : Int32), (99 : Int32), (c0 &&& (255 : Int32)), (101 : Int32), (114 : Int32), (46 : Int32), (105 : Int32), (111 : Int32)] : List Int32), ¬ c < 0 ∧ ¬ (255 : Int32) < c := by
            intro c hc
            simp only [List.mem_cons, List.not_mem_nil, or_false] at hc
            rcases hc with rfl | rfl | rfl | rfl | rfl | rfl | rfl | rfl | rfl
            · exact by decide
            · exact by decide
            · exact by decide
            · exact own_and255 _
            · exact by decide
            · exact by decide
            · exact by decide
            · exact by decide
            · exact by decide
          obtain ⟨_, _, ⟨T205, L205, k205, n205⟩, -, X205, ⟨Lc205, hQ205, l205, y205, z205⟩, st205⟩ := X202.specialBack hx (y := (⟨"java/lang/String", "<init>", "([C)V"⟩ : MethodName)) rfl hown (mvT hZ (hw _ (List.mem_of_getElem? (i := 4) rfl))) (mvT hZ (hw _ (List.mem_of_getElem? (i := 5) rfl))) (mvT hZ (hw _ (List.mem_of_getElem? (i := 6) rfl))) (by decide) (StrChars.Road.backV (W := 1) hZ hws (kI := 4) (hw _ (List.mem_of_getElem? (i := 2) rfl)) (cs := ([(100 : Int32), (111 : Int32), (99 : Int32), (c0 &&& (255 : Int32)), (101 : Int32), (114 : Int32), (46 : Int32), (105 : Int32), (111 : Int32)] : List Int32)) (bs := (([(100 : Int32), (111 : Int32), (99 : Int32), (c0 &&& (255 : Int32)), (101 : Int32), (114 : Int32), (46 : Int32), (105 : Int32), (111 : Int32)] : List Int32)).map (fun c => c.toInt8.toInt32)) (n := 9) g_b202 (Nat.le_trans Z0 K204.1) A202 F202_value F202_coder V7 (S_C.ext O0.2) hcs rfl rfl (by decide) (by decide) hp206 rfl (by decide) (by decide)) (g := (mkF m 152 #[.val (.int mode), .val (.int pos), .val (.int c0), .val (.int c1), .val (.int c2), .val (.int (mode &&& (7 : Int32))), .val (.int (c0 &&& (255 : Int32))), .val (.int (c1 &&& (255 : Int32))), .val (.int (c2 &&& (255 : Int32))), .val (.ref b7), .unset, .val (.int (0 : Int32)), .val (.int (3 : Int32)), .unset] [(.ref b7), (.ref b202), (.ref b202)])) rfl (by rw [hml]; rfl) (Steps.refl _) (a := b202) (argsL := [(.ref b7)]) (rest := [(.ref b202)]) (lenOf pd_3 rfl) rfl (by show 2 * 0 + _ ≤ _; exact Nat.le_of_eq rfl) (hb hby at_152) (fun _ _ => ⟨rfl, e202, (by decide : 2 + 1 ≤ _), (by decide : 13 + 9 ≤ _)⟩)
          dsimp only [Pt.U, Pt.locs, Pt.cells, Pt.slots] at X205 l205 y205 z205 st205 hQ205
          subst l205 y205 z205
          obtain ⟨rfl, N205q, KK205, EE205, FC205, t205, kb205, gt205, szt205, netx205, FV205, VV205⟩ := hQ205
          have N205 := Fr.app N199 N205q
          have SS205 : own_Str Z T205.heap b202 t205 ([(100 : Int32), (111 : Int32), (99 : Int32), (c0 &&& (255 : Int32)), (101 : Int32), (114 : Int32), (46 : Int32), (105 : Int32), (111 : Int32)] : List Int32) := ⟨_, _, _, _, EE205, FV205, FC205, VV205, StrChars.Road.codOf (n := 9) rfl (fun c hc => (hp206 c hc).2), own_up _ hp206, Nat.le_of_ble_eq_true rfl⟩
          have sz_t205 : h0.size ≤ t205 := Nat.le_trans K204.1 szt205
          have ne207 : b7 ≠ t205 := Nat.ne_of_lt (Nat.lt_of_lt_of_le V7.lt szt205)
          have ne208 : b202 ≠ t205 := Nat.ne_of_lt (Nat.lt_of_lt_of_le A202.lt szt205)
          have S_t205 := Safe.new (Z := Z) (EL := consts_1) (vm := s.vm) szt205
          have hs209 : ∀ x ∈ [b202], Safe Z consts_1 s.vm h202 x := (sfS S_b202 sf0)
          replace S_b7 := Safe.keep KK205 hs209 CH S_b7
          replace S_b202 := Safe.keep KK205 hs209 CH S_b202
          replace S_t205 := Safe.keep KK205 hs209 CH S_t205
          replace CR := CR.trans (CHr.keep KK205 hs209 CH)
          replace CH := CHv.keep KK205 hs209 CH
          replace hk := Nat.le_trans hk KK205.1
          replace O0 := O0.keep KK205 (allS g_b202 (all0))
          replace V7 := V7.keep KK205 (ninS ne203 nin0)
          replace A202 := A202.keep KK205
          have K210 := K204.trans KK205 (allS (Or.inr sz_b202) all0)
          refine own_go (fun _ kk_ => st205.trans kk_) ?_
          refine own_go (fun _ kk_ => XS.astore X205.here hx rfl (hb hby at_155) rfl rfl (l' := #[.val (.int mode), .val (.int pos), .val (.int c0), .val (.int c1), .val (.int c2), .val (.int (mode &&& (7 : Int32))), .val (.int (c0 &&& (255 : Int32))), .val (.int (c1 &&& (255 : Int32))), .val (.int (c2 &&& (255 : Int32))), .val (.ref b7), .val (.ref b202), .val (.int (0 : Int32)), .val (.int (3 : Int32)), .unset]) rfl kk_) ?_
          refine own_go (fun _ kk_ => XS.goto X205.here hx rfl (pc0 := 157) (pc' := 397) rfl (hb hby at_157) (by decide) (by decide) kk_) ?_
          refine own_go (fun _ kk_ => XS.iload X205.here hx rfl (hb hby at_397) rfl kk_) ?_
          show own_Fin p.tables e below _ (T205.setTop (mkF m 399 #[.val (.int mode), .val (.int pos), .val (.int c0), .val (.int c1), .val (.int c2), .val (.int (mode &&& (7 : Int32))), .val (.int (c0 &&& (255 : Int32))), .val (.int (c1 &&& (255 : Int32))), .val (.int (c2 &&& (255 : Int32))), .val (.ref b7), .val (.ref b202), .val (.int (0 : Int32)), .val (.int (3 : Int32)), .unset] [(.int (0 : Int32))]))
          refine own_go (fun _ kk_ => XS.ifYes X205.here hx rfl (pc0 := 399) (pc' := 407) rfl (hb hby at_399) rfl ((if0 _ _).trans (teq (by decide : (0 : Int32) = (0 : Int32))).1) (by decide) (by decide) kk_) ?_
          refine own_go (fun _ kk_ => XS.aload X205.here hx rfl (hb hby at_407) rfl rfl kk_) ?_
          refine own_go (fun _ kk_ => XS.astore X205.here hx rfl (hb hby at_409) rfl rfl (l' := #[.val (.int mode), .val (.int pos), .val (.int c0), .val (.int c1), .val (.int c2), .val (.int (mode &&& (7 : Int32))), .val (.int (c0 &&& (255 : Int32))), .val (.int (c1 &&& (255 : Int32))), .val (.int (c2 &&& (255 : Int32))), .val (.ref b7), .val (.ref b202), .val (.int (0 : Int32)), .val (.ref b202), .unset]) rfl kk_) ?_
          refine own_go (fun _ kk_ => XS.aload X205.here hx rfl (hb hby at_411) rfl rfl kk_) ?_
          show own_Fin p.tables e below _ (T205.setTop (mkF m 413 #[.val (.int mode), .val (.int pos), .val (.int c0), .val (.int c1), .val (.int c2), .val (.int (mode &&& (7 : Int32))), .val (.int (c0 &&& (255 : Int32))), .val (.int (c1 &&& (255 : Int32))), .val (.int (c2 &&& (255 : Int32))), .val (.ref b7), .val (.ref b202), .val (.int (0 : Int32)), .val (.ref b202), .unset] [(.ref b202)]))
          obtain ⟨_, _, ⟨T211, L211, k211, n211⟩, -, X211, hSn211, hgr211, ⟨Lc211, hQ211, l211, y211, z211, CR211⟩, st211⟩ := callSS X205 hx (y := (⟨"com/example/laminate/laminate/core/DefaultRegistry", "credentialsKey", "(Ljava/lang/String;)Ljava/lang/String;"⟩ : MethodName)) hown (mvT hZ (hw _ (List.mem_of_getElem? (i := 33) rfl))) (mvT hZ (hw _ (List.mem_of_getElem? (i := 34) rfl))) (mvT hZ (hw _ (List.mem_of_getElem? (i := 35) rfl))) (mvT hZ (hw _ (List.mem_of_getElem? (i := 36) rfl))) (by decide) (backOfSH (s := s) (W := 0) (rm_ck l Z a0 hw [] hEL b202 t205 ([(100 : Int32), (111 : Int32), (99 : Int32), (c0 &&& (255 : Int32)), (101 : Int32), (114 : Int32), (46 : Int32), (105 : Int32), (111 : Int32)] : List Int32) gc T205.heap n0 (Nat.le_trans Z0 K210.1) SS205 S_C hcs O0) hZ (hw _ (List.mem_of_getElem? (i := 36) rfl)) (hw _ (List.mem_of_getElem? (i := 35) rfl)) (by decide) (by decide) hEL CH) (g := (mkF m 413 #[.val (.int mode), .val (.int pos), .val (.int c0), .val (.int c1), .val (.int c2), .val (.int (mode &&& (7 : Int32))), .val (.int (c0 &&& (255 : Int32))), .val (.int (c1 &&& (255 : Int32))), .val (.int (c2 &&& (255 : Int32))), .val (.ref b7), .val (.ref b202), .val (.int (0 : Int32)), .val (.ref b202), .unset] [(.ref b202)])) rfl (by rw [hml]; rfl) (argsL := [(.ref b202)]) (rest := []) (lenOf pd_4 rfl) rfl (by show 2 * 0 + _ ≤ _; exact Nat.le_of_eq rfl) (hb hby at_413) (fun _ _ => ⟨rfl, rfl, (by decide : 3 + 4 ≤ _), (by decide : 22 + 152 ≤ _)⟩)
          dsimp only [Pt.U, Pt.locs, Pt.cells, Pt.slots] at X211 l211 y211 z211 st211 hQ211 hSn211 hgr211 CR211
          subst l211 y211 z211
          replace hS := foldS hS hk hSn211 hgr211
          replace hk : T211.heap.size ≤ T211.heap.size := Nat.le_refl _
          replace hZ : Z.Warmed39 (s.setVm T211.vm).vm := State.Warmed39.trans (t := s.setVm s.vm) hZ hSn211.1
          replace hown : (s.setVm T211.vm).vm.findClass "com/example/laminate/laminate/core/DefaultRegistryCredentialsKeyPinLaw" = some m.cls := by rw [show (s.setVm T211.vm).vm = T211.vm from rfl, hSn211.1.alike.findClass]; exact hown
          replace X211 : Stand p l e room_1 (s.setVm T211.vm) m #[(.int mode), (.int pos), (.int c0), (.int c1), (.int c2)] below meth c T211 _ _ _ := X211
          replace S_b7 := CR211.safe V7.lt S_b7
          replace S_b202 := CR211.safe SS205.lt S_b202
          replace S_t205 := CR211.safe SS205.ltt S_t205
          replace CR := CR.trans CR211
          replace CH := CR211.1
          obtain ⟨N211q, KK211, hy211, hn211⟩ := hQ211
          have N211 := Fr.app N205 N211q
          obtain rfl := hn211 (by simp; exact fun q => hc175 q.symm)
          replace O0 := O0.keep KK211 all0
          replace V7 := V7.keep KK211 nin0
          replace SS205 := SS205.keep KK211 nin0 nin0
          have K212 := K210.trans KK211 all0
          refine own_go (fun _ kk_ => st211.trans kk_) ?_
          refine own_go (fun _ kk_ => XS.astore X211.here hx rfl (hb hby at_416) rfl rfl (l' := #[.val (.int mode), .val (.int pos), .val (.int c0), .val (.int c1), .val (.int c2), .val (.int (mode &&& (7 : Int32))), .val (.int (c0 &&& (255 : Int32))), .val (.int (c1 &&& (255 : Int32))), .val (.int (c2 &&& (255 : Int32))), .val (.ref b7), .val (.ref b202), .val (.int (0 : Int32)), .val (.ref b202), .val (.ref b202)]) rfl kk_) ?_
          refine own_go (fun _ kk_ => XS.aload X211.here hx rfl (hb hby at_418) rfl rfl kk_) ?_
          refine own_go (fun _ kk_ => XS.aload X211.here hx rfl (hb hby at_420) rfl rfl kk_) ?_
          show own_Fin p.tables e below _ (T211.setTop (mkF m 422 #[.val (.int mode), .val (.int pos), .val (.int c0), .val (.int c1), .val (.int c2), .val (.int (mode &&& (7 : Int32))), .val (.int (c0 &&& (255 : Int32))), .val (.int (c1 &&& (255 : Int32))), .val (.int (c2 &&& (255 : Int32))), .val (.ref b7), .val (.ref b202), .val (.int (0 : Int32)), .val (.ref b202), .val (.ref b202)] [(.ref b202), (.ref b202)]))
          obtain ⟨cq213, kq213, qa213, qb213, qc213⟩ := isOf hZ rfl SS205.exa
          obtain ⟨_, _, ⟨T213, L213, k213, n213⟩, -, X213, ⟨Lc213, hQ213, l213, y213, z213⟩, st213⟩ := X211.virtualBack hx (y := (⟨"java/lang/String", "equals", "(Ljava/lang/Object;)Z"⟩ : MethodName)) (z := (⟨"java/lang/String", "equals", "(Ljava/lang/Object;)Z"⟩ : MethodName)) hown (mvT hZ (hw _ (List.mem_of_getElem? (i := 49) rfl))) (mvT hZ (hw _ (List.mem_of_getElem? (i := 39) rfl))) (own_notface (args := #[]) (mvT hZ (hw _ (List.mem_of_getElem? (i := 41) rfl))) rfl) (mvT hZ (hw _ (List.mem_of_getElem? (i := 41) rfl))) (mvT hZ (hw _ (List.mem_of_getElem? (i := 40) rfl))) (by decide) (own_eqB (W := 0) hZ heq (hw _ (List.mem_of_getElem? (i := 2) rfl)) SS205 SS205 (S_C.ext O0.2) hcs (by decide) (by decide)) qa213 qc213 (g := (mkF m 422 #[.val (.int mode), .val (.int pos), .val (.int c0), .val (.int c1), .val (.int c2), .val (.int (mode &&& (7 : Int32))), .val (.int (c0 &&& (255 : Int32))), .val (.int (c1 &&& (255 : Int32))), .val (.int (c2 &&& (255 : Int32))), .val (.ref b7), .val (.ref b202), .val (.int (0 : Int32)), .val (.ref b202), .val (.ref b202)] [(.ref b202), (.ref b202)])) rfl (by rw [hml]; rfl) (Steps.refl _) (argsL := [(.ref b202)]) (rest := []) (lenOf pd_1 rfl) rfl (by show 2 * 0 + _ ≤ _; exact Nat.le_of_eq rfl) (hb hby at_422) (fun _ _ => ⟨rfl, rfl, (by decide : 7 + 0 ≤ _), (by decide : 174 + 0 ≤ _)⟩)
          dsimp only [Pt.U, Pt.locs, Pt.cells, Pt.slots] at X213 l213 y213 z213 st213 hQ213
          subst l213 y213 z213
          obtain ⟨hq213, rfl, e213⟩ := hQ213
          obtain ⟨z213, rfl, hz213⟩ := own_eqv hq213
          have N213 := Fr.app N211 (Fr.nil n0)
          obtain rfl : z213 = 1 := hz213.elim (fun q => q.1) (fun q => absurd rfl q.2)
          refine own_go (fun _ kk_ => st213.trans kk_) ?_
          show own_Fin p.tables e below _ (T213.setTop (mkF m 425 #[.val (.int mode), .val (.int pos), .val (.int c0), .val (.int c1), .val (.int c2), .val (.int (mode &&& (7 : Int32))), .val (.int (c0 &&& (255 : Int32))), .val (.int (c1 &&& (255 : Int32))), .val (.int (c2 &&& (255 : Int32))), .val (.ref b7), .val (.ref b202), .val (.int (0 : Int32)), .val (.ref b202), .val (.ref b202)] [(.int (1 : Int32))]))
          have CRz : CHr Z consts_1 s.vm s.heap T213.vm T213.heap := by
            rw [hh, e213]
            exact CR.trans (CHv.at X213 hZ hEL CH)
          refine own_retW X213 hx Bd hS (show _ ≤ T213.heap.size by rw [e213]; exact hk) (t := .boolean) Bd.returns rfl (Or.inl ⟨rfl, by simp, _, rfl⟩) (hb hby at_425) CRz ?_ (by decide) (by decide)
          show (Q_rm_law Z mode pos c0 c1 c2 gc h0 n0) (some (.int (1 : Int32))) T213.heap _
          rw [e213]
          exact ⟨rfl, N213⟩
      · skip
        show own_Fin p.tables e below _ (T33.setTop (mkF m 122 #[.val (.int mode), .val (.int pos), .val (.int c0), .val (.int c1), .val (.int c2), .val (.int (mode &&& (7 : Int32))), .val (.int (c0 &&& (255 : Int32))), .val (.int (c1 &&& (255 : Int32))), .val (.int (c2 &&& (255 : Int32))), .val (.ref b7), .unset, .unset, .val (.int ((pos &&& (2147483647 : Int32)) % (9 : Int32))), .unset] []))
        rw [hs9]
        refine own_go (fun _ kk_ => XS.aload X33.here hx rfl (hb hby at_122) rfl rfl kk_) ?_
        refine own_go (fun _ kk_ => XS.iload X33.here hx rfl (hb hby at_124) rfl kk_) ?_
        show own_Fin p.tables e below _ (T33.setTop (mkF m 126 #[.val (.int mode), .val (.int pos), .val (.int c0), .val (.int c1), .val (.int c2), .val (.int (mode &&& (7 : Int32))), .val (.int (c0 &&& (255 : Int32))), .val (.int (c1 &&& (255 : Int32))), .val (.int (c2 &&& (255 : Int32))), .val (.ref b7), .unset, .unset, .val (.int (4 : Int32)), .unset] [(.int (4 : Int32)), (.ref b7)]))
        refine own_go (fun _ kk_ => own_caload X33 hx hZ e33 V7 (by decide) (v := (.int (101 : Int32))) (rfl) (g := (mkF m 126 #[.val (.int mode), .val (.int pos), .val (.int c0), .val (.int c1), .val (.int c2), .val (.int (mode &&& (7 : Int32))), .val (.int (c0 &&& (255 : Int32))), .val (.int (c1 &&& (255 : Int32))), .val (.int (c2 &&& (255 : Int32))), .val (.ref b7), .unset, .unset, .val (.int (4 : Int32)), .unset] [(.int (4 : Int32)), (.ref b7)])) rfl rfl (hb hby at_126) _ kk_) ?_
        refine own_go (fun _ kk_ => XS.iload X33.here hx rfl (hb hby at_127) rfl kk_) ?_
        show own_Fin p.tables e below _ (T33.setTop (mkF m 129 #[.val (.int mode), .val (.int pos), .val (.int c0), .val (.int c1), .val (.int c2), .val (.int (mode &&& (7 : Int32))), .val (.int (c0 &&& (255 : Int32))), .val (.int (c1 &&& (255 : Int32))), .val (.int (c2 &&& (255 : Int32))), .val (.ref b7), .unset, .unset, .val (.int (4 : Int32)), .unset] [(.int (c0 &&& (255 : Int32))), (.int (101 : Int32))]))
        by_cases hc214 : (101 : Int32) = (c0 &&& (255 : Int32))
        · skip
          refine own_go (fun _ kk_ => XS.icmpNo X33.here hx rfl (hb hby at_129) rfl (teq hc214).2 kk_) ?_
          refine own_go (fun _ kk_ => XS.iconst X33.here hx rfl (hb hby at_132) kk_) ?_
          refine own_go (fun _ kk_ => XS.goto X33.here hx rfl (pc0 := 133) (pc' := 137) rfl (hb hby at_133) (by decide) (by decide) kk_) ?_
          refine own_go (fun _ kk_ => XS.istore X33.here hx rfl (hb hby at_137) rfl (l' := #[.val (.int mode), .val (.int pos), .val (.int c0), .val (.int c1), .val (.int c2), .val (.int (mode &&& (7 : Int32))), .val (.int (c0 &&& (255 : Int32))), .val (.int (c1 &&& (255 : Int32))), .val (.int (c2 &&& (255 : Int32))), .val (.ref b7), .unset, .val (.int (1 : Int32)), .val (.int (4 : Int32)), .unset]) rfl kk_) ?_
          refine own_go (fun _ kk_ => XS.aload X33.here hx rfl (hb hby at_139) rfl rfl kk_) ?_
          refine own_go (fun _ kk_ => XS.iload X33.here hx rfl (hb hby at_141) rfl kk_) ?_
          refine own_go (fun _ kk_ => XS.iload X33.here hx rfl (hb hby at_143) rfl kk_) ?_
          show own_Fin p.tables e below _ (T33.setTop (mkF m 145 #[.val (.int mode), .val (.int pos), .val (.int c0), .val (.int c1), .val (.int c2), .val (.int (mode &&& (7 : Int32))), .val (.int (c0 &&& (255 : Int32))), .val (.int (c1 &&& (255 : Int32))), .val (.int (c2 &&& (255 : Int32))), .val (.ref b7), .unset, .val (.int (1 : Int32)), .val (.int (4 : Int32)), .unset] [(.int (c0 &&& (255 : Int32))), (.int (4 : Int32)), (.ref b7)]))
          obtain ⟨T215, h215, X215, e215, W215, V215, st215⟩ := own_stC X33 hx hZ e33 V7 (by decide) (i := 4) rfl (Nat.le_of_ble_eq_true rfl) (g := (mkF m 145 #[.val (.int mode), .val (.int pos), .val (.int c0), .val (.int c1), .val (.int c2), .val (.int (mode &&& (7 : Int32))), .val (.int (c0 &&& (255 : Int32))), .val (.int (c1 &&& (255 : Int32))), .val (.int (c2 &&& (255 : Int32))), .val (.ref b7), .unset, .val (.int (1 : Int32)), .val (.int (4 : Int32)), .unset] [(.int (c0 &&& (255 : Int32))), (.int (4 : Int32)), (.ref b7)])) rfl rfl (hb hby at_145)
          rw [own_nar255] at V215
          replace V7 : Arv Z h215 b7 k7 .char (9 : Int32) [(.int (100 : Int32)), (.int (111 : Int32)), (.int (99 : Int32)), (.int (107 : Int32)), (.int (c0 &&& (255 : Int32))), (.int (114 : Int32)), (.int (46 : Int32)), (.int (105 : Int32)), (.int (111 : Int32))] (.int (0 : Int32)) := V215
          have N215 := Fr.snoc X215 N33 g_b7
          refine own_go st215 ?_
          have sa216 := S_b7
          replace S_b7 := Safe.wr W215 sa216 CH S_b7
          replace CR := CR.trans (CHr.wr W215 sa216 CH)
          replace CH := CHv.wr W215 sa216 CH
          replace hk := Nat.le_trans hk (Keep.of_wr W215).1
          replace O0 := O0.wr W215 g_b7
          have K217 := K35.wr W215 (Or.inr sz_b7)
          show own_Fin p.tables e below _ (T215.setTop (mkF m 146 #[.val (.int mode), .val (.int pos), .val (.int c0), .val (.int c1), .val (.int c2), .val (.int (mode &&& (7 : Int32))), .val (.int (c0 &&& (255 : Int32))), .val (.int (c1 &&& (255 : Int32))), .val (.int (c2 &&& (255 : Int32))), .val (.ref b7), .unset, .val (.int (1 : Int32)), .val (.int (4 : Int32)), .unset] []))
          obtain ⟨T218, h218, X218, e218, E218, A218, D218, -, st218⟩ := newO X215 hx hZ hown (hw _ (List.mem_of_getElem? (i := 1) rfl)) (hw _ (List.mem_of_getElem? (i := 2) rfl)) (hw _ (List.mem_of_getElem? (i := 3) rfl)) e215 (g := (mkF m 146 #[.val (.int mode), .val (.int pos), .val (.int c0), .val (.int c1), .val (.int c2), .val (.int (mode &&& (7 : Int32))), .val (.int (c0 &&& (255 : Int32))), .val (.int (c1 &&& (255 : Int32))), .val (.int (c2 &&& (255 : Int32))), .val (.ref b7), .unset, .val (.int (1 : Int32)), .val (.int (4 : Int32)), .unset] [])) rfl (hb hby at_146) (by decide) (by decide)
          obtain ⟨b218, g218⟩ : ∃ z, z = h215.size := ⟨_, rfl⟩
          rw [← g218] at A218 D218 st218
          have sz_b218 : h0.size ≤ b218 := Nat.le_trans K217.1 (Nat.le_of_eq g218.symm)
          have g_b218 : n0 ≤ b218 := Nat.le_trans Z0 sz_b218
          have ne219 : b7 ≠ b218 := Nat.ne_of_lt (Nat.lt_of_lt_of_le V7.lt (Nat.le_of_eq g218.symm))
          have S_b218 := Safe.new (Z := Z) (EL := consts_1) (vm := s.vm) (Nat.le_of_eq g218.symm)
          replace S_b7 := Safe.ext E218 CH S_b7
          replace S_b218 := Safe.ext E218 CH S_b218
          replace CR := CR.trans (CHr.ext E218 CH)
          replace CH := CH.ext E218
          replace hk := Nat.le_trans hk E218.1
          replace O0 := O0.ext E218
          replace V7 := V7.ext E218
          have K220 := K217.ext E218
          have F218_coder : Fld Z h218 b218 "java/lang/String" "coder" "B" (.int (0 : Int32)) := D218 (Or.inr (hw _ (List.mem_of_getElem? (i := 27) rfl))) (ty := .byte) (by decide)
          have F218_value : Fld Z h218 b218 "java/lang/String" "value" "[B" .null := D218 (Or.inr (hw _ (List.mem_of_getElem? (i := 29) rfl))) (ty := (.array .byte)) (by decide)
          refine own_go st218 ?_
          refine own_go (fun _ kk_ => XS.dup X218.here hx rfl (hb hby at_149) rfl rfl kk_) ?_
          refine own_go (fun _ kk_ => XS.aload X218.here hx rfl (hb hby at_150) rfl rfl kk_) ?_
          show own_Fin p.tables e below _ (T218.setTop (mkF m 152 #[.val (.int mode), .val (.int pos), .val (.int c0), .val (.int c1), .val (.int c2), .val (.int (mode &&& (7 : Int32))), .val (.int (c0 &&& (255 : Int32))), .val (.int (c1 &&& (255 : Int32))), .val (.int (c2 &&& (255 : Int32))), .val (.ref b7), .unset, .val (.int (1 : Int32)), .val (.int (4 : Int32)), .unset] [(.ref b7), (.ref b218), (.ref b218)]))
          have hp222 : ∀ c ∈ ([(100 : Int32), (111 : Int32), (99 : Int32), (107 : Int32), (c0 &&& (255 : Int32)), (114 : Int32), (46 : Int32), (105 : Int32), (111 : Int32)] : List Int32), ¬ c < 0 ∧ ¬ (255 : Int32) < c := by
            intro c hc
            simp only [List.mem_cons, List.not_mem_nil, or_false] at hc
            rcases hc with rfl | rfl | rfl | rfl | rfl | rfl | rfl | rfl | rfl
            · exact by decide
            · exact by decide
            · exact by decide
            · exact by decide
            · exact own_and255 _
            · exact by decide
            · exact by decide
            · exact by decide
            · exact by decide
          obtain ⟨_, _, ⟨T221, L221, k221, n221⟩, -, X221, ⟨Lc221, hQ221, l221, y221, z221⟩, st221⟩ := X218.specialBack hx (y := (⟨"java/lang/String", "<init>", "([C)V"⟩ : MethodName)) rfl hown (mvT hZ (hw _ (List.mem_of_getElem? (i := 4) rfl))) (mvT hZ (hw _ (List.mem_of_getElem? (i := 5) rfl))) (mvT hZ (hw _ (List.mem_of_getElem? (i := 6) rfl))) (by decide) (StrChars.Road.backV (W := 1) hZ hws (kI := 4) (hw _ (List.mem_of_getElem? (i := 2) rfl)) (cs := ([(100 : Int32), (111 : Int32), (99 : Int32), (107 : Int32), (c0 &&& (255 : Int32)), (114 : Int32), (46 : Int32), (105 : Int32), (111 : Int32)] : List Int32)) (bs := (([(100 : Int32), (111 : Int32), (99 : Int32), (107 : Int32), (c0 &&& (255 : Int32)), (114 : Int32), (46 : Int32), (105 : Int32), (111 : Int32)] : List Int32)).map (fun c => c.toInt8.toInt32)) (n := 9) g_b218 (Nat.le_trans Z0 K220.1) A218 F218_value F218_coder V7 (S_C.ext O0.2) hcs rfl rfl (by decide) (by decide) hp222 rfl (by decide) (by decide)) (g := (mkF m 152 #[.val (.int mode), .val (.int pos), .val (.int c0), .val (.int c1), .val (.int c2), .val (.int (mode &&& (7 : Int32))), .val (.int (c0 &&& (255 : Int32))), .val (.int (c1 &&& (255 : Int32))), .val (.int (c2 &&& (255 : Int32))), .val (.ref b7), .unset, .val (.int (1 : Int32)), .val (.int (4 : Int32)), .unset] [(.ref b7), (.ref b218), (.ref b218)])) rfl (by rw [hml]; rfl) (Steps.refl _) (a := b218) (argsL := [(.ref b7)]) (rest := [(.ref b218)]) (lenOf pd_3 rfl) rfl (by show 2 * 0 + _ ≤ _; exact Nat.le_of_eq rfl) (hb hby at_152) (fun _ _ => ⟨rfl, e218, (by decide : 2 + 1 ≤ _), (by decide : 13 + 9 ≤ _)⟩)
          dsimp only [Pt.U, Pt.locs, Pt.cells, Pt.slots] at X221 l221 y221 z221 st221 hQ221
          subst l221 y221 z221
          obtain ⟨rfl, N221q, KK221, EE221, FC221, t221, kb221, gt221, szt221, netx221, FV221, VV221⟩ := hQ221
          have N221 := Fr.app N215 N221q
          have SS221 : own_Str Z T221.heap b218 t221 ([(100 : Int32), (111 : Int32), (99 : Int32), (107 : Int32), (c0 &&& (255 : Int32)), (114 : Int32), (46 : Int32), (105 : Int32), (111 : Int32)] : List Int32) := ⟨_, _, _, _, EE221, FV221, FC221, VV221, StrChars.Road.codOf (n := 9) rfl (fun c hc => (hp222 c hc).2), own_up _ hp222, Nat.le_of_ble_eq_true rfl⟩
          have sz_t221 : h0.size ≤ t221 := Nat.le_trans K220.1 szt221
          have ne223 : b7 ≠ t221 := Nat.ne_of_lt (Nat.lt_of_lt_of_le V7.lt szt221)
          have ne224 : b218 ≠ t221 := Nat.ne_of_lt (Nat.lt_of_lt_of_le A218.lt szt221)
          have S_t221 := Safe.new (Z := Z) (EL := consts_1) (vm := s.vm) szt221
          have hs225 : ∀ x ∈ [b218], Safe Z consts_1 s.vm h218 x := (sfS S_b218 sf0)
          replace S_b7 := Safe.keep KK221 hs225 CH S_b7
          replace S_b218 := Safe.keep KK221 hs225 CH S_b218
          replace S_t221 := Safe.keep KK221 hs225 CH S_t221
          replace CR := CR.trans (CHr.keep KK221 hs225 CH)
          replace CH := CHv.keep KK221 hs225 CH
          replace hk := Nat.le_trans hk KK221.1
          replace O0 := O0.keep KK221 (allS g_b218 (all0))
          replace V7 := V7.keep KK221 (ninS ne219 nin0)
          replace A218 := A218.keep KK221
          have K226 := K220.trans KK221 (allS (Or.inr sz_b218) all0)
          refine own_go (fun _ kk_ => st221.trans kk_) ?_
          refine own_go (fun _ kk_ => XS.astore X221.here hx rfl (hb hby at_155) rfl rfl (l' := #[.val (.int mode), .val (.int pos), .val (.int c0), .val (.int c1), .val (.int c2), .val (.int (mode &&& (7 : Int32))), .val (.int (c0 &&& (255 : Int32))), .val (.int (c1 &&& (255 : Int32))), .val (.int (c2 &&& (255 : Int32))), .val (.ref b7), .val (.ref b218), .val (.int (1 : Int32)), .val (.int (4 : Int32)), .unset]) rfl kk_) ?_
          refine own_go (fun _ kk_ => XS.goto X221.here hx rfl (pc0 := 157) (pc' := 397) rfl (hb hby at_157) (by decide) (by decide) kk_) ?_
          refine own_go (fun _ kk_ => XS.iload X221.here hx rfl (hb hby at_397) rfl kk_) ?_
          show own_Fin p.tables e below _ (T221.setTop (mkF m 399 #[.val (.int mode), .val (.int pos), .val (.int c0), .val (.int c1), .val (.int c2), .val (.int (mode &&& (7 : Int32))), .val (.int (c0 &&& (255 : Int32))), .val (.int (c1 &&& (255 : Int32))), .val (.int (c2 &&& (255 : Int32))), .val (.ref b7), .val (.ref b218), .val (.int (1 : Int32)), .val (.int (4 : Int32)), .unset] [(.int (1 : Int32))]))
          refine own_go (fun _ kk_ => XS.ifNo X221.here hx rfl (hb hby at_399) rfl ((if0 _ _).trans (feq (by decide : ¬ (1 : Int32) = (0 : Int32))).1) kk_) ?_
          show own_Fin p.tables e below _ (T221.setTop (mkF m 402 #[.val (.int mode), .val (.int pos), .val (.int c0), .val (.int c1), .val (.int c2), .val (.int (mode &&& (7 : Int32))), .val (.int (c0 &&& (255 : Int32))), .val (.int (c1 &&& (255 : Int32))), .val (.int (c2 &&& (255 : Int32))), .val (.ref b7), .val (.ref b218), .val (.int (1 : Int32)), .val (.int (4 : Int32)), .unset] []))
          obtain ⟨a227, T227, h227, k227, tb227, kb227, X227, e227, E227, hS, hk, hZ, hown, EA227, FC227, FV227, VB227, -, -, CR227, -, NE227, st227⟩ := ldcCH X221 hx hZ hown (hw _ (List.mem_of_getElem? (i := 30) rfl)) wS rfl hS hk hEL (by decide) CH (vs := ((([(104 : Int32), (116 : Int32), (116 : Int32), (112 : Int32), (115 : Int32), (58 : Int32), (47 : Int32), (47 : Int32), (105 : Int32), (110 : Int32), (100 : Int32), (101 : Int32), (120 : Int32), (46 : Int32), (100 : Int32), (111 : Int32), (99 : Int32), (107 : Int32), (101 : Int32), (114 : Int32), (46 : Int32), (105 : Int32), (111 : Int32), (47 : Int32), (118 : Int32), (49 : Int32), (47 : Int32)] : List Int32).map (fun c => c.toInt8.toInt32)).map Value.int)) (z := (27 : Int32)) (by exact ⟨by decide, by decide⟩) (by decide) rfl (g := (mkF m 402 #[.val (.int mode), .val (.int pos), .val (.int c0), .val (.int c1), .val (.int c2), .val (.int (mode &&& (7 : Int32))), .val (.int (c0 &&& (255 : Int32))), .val (.int (c1 &&& (255 : Int32))), .val (.int (c2 &&& (255 : Int32))), .val (.ref b7), .val (.ref b218), .val (.int (1 : Int32)), .val (.int (4 : Int32)), .unset] [])) rfl (hb hby at_402) (n := 108) (by decide) (by decide) (by decide) (by decide)
          replace S_b7 := CR227.safe V7.lt S_b7
          replace S_b218 := CR227.safe SS221.lt S_b218
          replace S_t221 := CR227.safe SS221.ltt S_t221
          replace CR := CR.trans CR227
          replace CH := CR227.1
          replace O0 := O0.ext E227
          replace V7 := V7.ext E227
          replace SS221 := SS221.ext E227
          have K228 := K226.ext E227
          have ne229 : b7 ≠ a227 := (NE227 _ S_b7).1
          have ne230 : b7 ≠ tb227 := (NE227 _ S_b7).2
          have ne231 : b218 ≠ a227 := (NE227 _ S_b218).1
          have ne232 : b218 ≠ tb227 := (NE227 _ S_b218).2
          have ne233 : t221 ≠ a227 := (NE227 _ S_t221).1
          have ne234 : t221 ≠ tb227 := (NE227 _ S_t221).2
          have SS227 : own_Str Z h227 a227 tb227 ([(104 : Int32), (116 : Int32), (116 : Int32), (112 : Int32), (115 : Int32), (58 : Int32), (47 : Int32), (47 : Int32), (105 : Int32), (110 : Int32), (100 : Int32), (101 : Int32), (120 : Int32), (46 : Int32), (100 : Int32), (111 : Int32), (99 : Int32), (107 : Int32), (101 : Int32), (114 : Int32), (46 : Int32), (105 : Int32), (111 : Int32), (47 : Int32), (118 : Int32), (49 : Int32), (47 : Int32)] : List Int32) := ⟨_, _, _, _, EA227, FV227, FC227, VB227, StrChars.Road.codOf (n := 27) rfl (by decide), by decide, Nat.le_of_ble_eq_true rfl⟩
          refine own_go st227 ?_
          refine own_go (fun _ kk_ => XS.goto X227.here hx rfl (pc0 := 404) (pc' := 409) rfl (hb hby at_404) (by decide) (by decide) kk_) ?_
          refine own_go (fun _ kk_ => XS.astore X227.here hx rfl (hb hby at_409) rfl rfl (l' := #[.val (.int mode), .val (.int pos), .val (.int c0), .val (.int c1), .val (.int c2), .val (.int (mode &&& (7 : Int32))), .val (.int (c0 &&& (255 : Int32))), .val (.int (c1 &&& (255 : Int32))), .val (.int (c2 &&& (255 : Int32))), .val (.ref b7), .val (.ref b218), .val (.int (1 : Int32)), .val (.ref a227), .unset]) rfl kk_) ?_
          refine own_go (fun _ kk_ => XS.aload X227.here hx rfl (hb hby at_411) rfl rfl kk_) ?_
          show own_Fin p.tables e below _ (T227.setTop (mkF m 413 #[.val (.int mode), .val (.int pos), .val (.int c0), .val (.int c1), .val (.int c2), .val (.int (mode &&& (7 : Int32))), .val (.int (c0 &&& (255 : Int32))), .val (.int (c1 &&& (255 : Int32))), .val (.int (c2 &&& (255 : Int32))), .val (.ref b7), .val (.ref b218), .val (.int (1 : Int32)), .val (.ref a227), .unset] [(.ref b218)]))
          obtain ⟨_, _, ⟨T235, L235, k235, n235⟩, -, X235, hSn235, hgr235, ⟨Lc235, hQ235, l235, y235, z235, CR235⟩, st235⟩ := callSS X227 hx (y := (⟨"com/example/laminate/laminate/core/DefaultRegistry", "credentialsKey", "(Ljava/lang/String;)Ljava/lang/String;"⟩ : MethodName)) hown (mvT hZ (hw _ (List.mem_of_getElem? (i := 33) rfl))) (mvT hZ (hw _ (List.mem_of_getElem? (i := 34) rfl))) (mvT hZ (hw _ (List.mem_of_getElem? (i := 35) rfl))) (mvT hZ (hw _ (List.mem_of_getElem? (i := 36) rfl))) (by decide) (backOfSH (s := s) (W := 0) (rm_ck l Z a0 hw [] hEL b218 t221 ([(100 : Int32), (111 : Int32), (99 : Int32), (107 : Int32), (c0 &&& (255 : Int32)), (114 : Int32), (46 : Int32), (105 : Int32), (111 : Int32)] : List Int32) gc h227 n0 (Nat.le_trans Z0 K228.1) SS221 S_C hcs O0) hZ (hw _ (List.mem_of_getElem? (i := 36) rfl)) (hw _ (List.mem_of_getElem? (i := 35) rfl)) (by decide) (by decide) hEL CH) (g := (mkF m 413 #[.val (.int mode), .val (.int pos), .val (.int c0), .val (.int c1), .val (.int c2), .val (.int (mode &&& (7 : Int32))), .val (.int (c0 &&& (255 : Int32))), .val (.int (c1 &&& (255 : Int32))), .val (.int (c2 &&& (255 : Int32))), .val (.ref b7), .val (.ref b218), .val (.int (1 : Int32)), .val (.ref a227), .unset] [(.ref b218)])) rfl (by rw [hml]; rfl) (argsL := [(.ref b218)]) (rest := []) (lenOf pd_4 rfl) rfl (by show 2 * 0 + _ ≤ _; exact Nat.le_of_eq rfl) (hb hby at_413) (fun _ _ => ⟨rfl, e227, (by decide : 5 + 4 ≤ _), (by decide : 134 + 152 ≤ _)⟩)
          dsimp only [Pt.U, Pt.locs, Pt.cells, Pt.slots] at X235 l235 y235 z235 st235 hQ235 hSn235 hgr235 CR235
          subst l235 y235 z235
          replace hS := foldS hS (show _ ≤ T227.heap.size by rw [e227]; exact hk) hSn235 hgr235
          replace hk : T235.heap.size ≤ T235.heap.size := Nat.le_refl _
          replace hZ : Z.Warmed39 (s.setVm T235.vm).vm := State.Warmed39.trans (t := s.setVm T227.vm) hZ hSn235.1
          replace hown : (s.setVm T235.vm).vm.findClass "com/example/laminate/laminate/core/DefaultRegistryCredentialsKeyPinLaw" = some m.cls := by rw [show (s.setVm T235.vm).vm = T235.vm from rfl, hSn235.1.alike.findClass]; exact hown
          replace X235 : Stand p l e room_1 (s.setVm T235.vm) m #[(.int mode), (.int pos), (.int c0), (.int c1), (.int c2)] below meth c T235 _ _ _ := X235
          replace S_b7 := CR235.safe V7.lt S_b7
          replace S_b218 := CR235.safe SS221.lt S_b218
          replace S_t221 := CR235.safe SS221.ltt S_t221
          replace CR := CR.trans CR235
          replace CH := CR235.1
          obtain ⟨N235q, KK235, hy235, hn235⟩ := hQ235
          have N235 := Fr.app N221 N235q
          obtain ⟨ra235, rb235, rfl, SR235⟩ := hy235 (by rw [← hc214])
          replace O0 := O0.keep KK235 all0
          replace V7 := V7.keep KK235 nin0
          replace SS221 := SS221.keep KK235 nin0 nin0
          replace SS227 := SS227.keep KK235 nin0 nin0
          have K236 := K228.trans KK235 all0
          refine own_go (fun _ kk_ => st235.trans kk_) ?_
          refine own_go (fun _ kk_ => XS.astore X235.here hx rfl (hb hby at_416) rfl rfl (l' := #[.val (.int mode), .val (.int pos), .val (.int c0), .val (.int c1), .val (.int c2), .val (.int (mode &&& (7 : Int32))), .val (.int (c0 &&& (255 : Int32))), .val (.int (c1 &&& (255 : Int32))), .val (.int (c2 &&& (255 : Int32))), .val (.ref b7), .val (.ref b218), .val (.int (1 : Int32)), .val (.ref a227), .val (.ref ra235)]) rfl kk_) ?_
          refine own_go (fun _ kk_ => XS.aload X235.here hx rfl (hb hby at_418) rfl rfl kk_) ?_
          refine own_go (fun _ kk_ => XS.aload X235.here hx rfl (hb hby at_420) rfl rfl kk_) ?_
          show own_Fin p.tables e below _ (T235.setTop (mkF m 422 #[.val (.int mode), .val (.int pos), .val (.int c0), .val (.int c1), .val (.int c2), .val (.int (mode &&& (7 : Int32))), .val (.int (c0 &&& (255 : Int32))), .val (.int (c1 &&& (255 : Int32))), .val (.int (c2 &&& (255 : Int32))), .val (.ref b7), .val (.ref b218), .val (.int (1 : Int32)), .val (.ref a227), .val (.ref ra235)] [(.ref ra235), (.ref a227)]))
          obtain ⟨cq237, kq237, qa237, qb237, qc237⟩ := isOf hZ rfl SS227.exa
          obtain ⟨_, _, ⟨T237, L237, k237, n237⟩, -, X237, ⟨Lc237, hQ237, l237, y237, z237⟩, st237⟩ := X235.virtualBack hx (y := (⟨"java/lang/String", "equals", "(Ljava/lang/Object;)Z"⟩ : MethodName)) (z := (⟨"java/lang/String", "equals", "(Ljava/lang/Object;)Z"⟩ : MethodName)) hown (mvT hZ (hw _ (List.mem_of_getElem? (i := 49) rfl))) (mvT hZ (hw _ (List.mem_of_getElem? (i := 39) rfl))) (own_notface (args := #[]) (mvT hZ (hw _ (List.mem_of_getElem? (i := 41) rfl))) rfl) (mvT hZ (hw _ (List.mem_of_getElem? (i := 41) rfl))) (mvT hZ (hw _ (List.mem_of_getElem? (i := 40) rfl))) (by decide) (own_eqB (W := 0) hZ heq (hw _ (List.mem_of_getElem? (i := 2) rfl)) SS227 SR235 (S_C.ext O0.2) hcs (by decide) (by decide)) qa237 qc237 (g := (mkF m 422 #[.val (.int mode), .val (.int pos), .val (.int c0), .val (.int c1), .val (.int c2), .val (.int (mode &&& (7 : Int32))), .val (.int (c0 &&& (255 : Int32))), .val (.int (c1 &&& (255 : Int32))), .val (.int (c2 &&& (255 : Int32))), .val (.ref b7), .val (.ref b218), .val (.int (1 : Int32)), .val (.ref a227), .val (.ref ra235)] [(.ref ra235), (.ref a227)])) rfl (by rw [hml]; rfl) (Steps.refl _) (argsL := [(.ref ra235)]) (rest := []) (lenOf pd_1 rfl) rfl (by show 2 * 0 + _ ≤ _; exact Nat.le_of_eq rfl) (hb hby at_422) (fun _ _ => ⟨rfl, rfl, (by decide : 9 + 0 ≤ _), (by decide : 286 + 0 ≤ _)⟩)
          dsimp only [Pt.U, Pt.locs, Pt.cells, Pt.slots] at X237 l237 y237 z237 st237 hQ237
          subst l237 y237 z237
          obtain ⟨hq237, rfl, e237⟩ := hQ237
          obtain ⟨z237, rfl, hz237⟩ := own_eqv hq237
          have N237 := Fr.app N235 (Fr.nil n0)
          obtain rfl : z237 = 1 := hz237.elim (fun q => q.1) (fun q => absurd rfl q.2)
          refine own_go (fun _ kk_ => st237.trans kk_) ?_
          show own_Fin p.tables e below _ (T237.setTop (mkF m 425 #[.val (.int mode), .val (.int pos), .val (.int c0), .val (.int c1), .val (.int c2), .val (.int (mode &&& (7 : Int32))), .val (.int (c0 &&& (255 : Int32))), .val (.int (c1 &&& (255 : Int32))), .val (.int (c2 &&& (255 : Int32))), .val (.ref b7), .val (.ref b218), .val (.int (1 : Int32)), .val (.ref a227), .val (.ref ra235)] [(.int (1 : Int32))]))
          have CRz : CHr Z consts_1 s.vm s.heap T237.vm T237.heap := by
            rw [hh, e237]
            exact CR.trans (CHv.at X237 hZ hEL CH)
          refine own_retW X237 hx Bd hS (show _ ≤ T237.heap.size by rw [e237]; exact hk) (t := .boolean) Bd.returns rfl (Or.inl ⟨rfl, by simp, _, rfl⟩) (hb hby at_425) CRz ?_ (by decide) (by decide)
          show (Q_rm_law Z mode pos c0 c1 c2 gc h0 n0) (some (.int (1 : Int32))) T237.heap _
          rw [e237]
          exact ⟨rfl, N237⟩
        · skip
          refine own_go (fun _ kk_ => XS.icmpYes X33.here hx rfl (pc0 := 129) (pc' := 136) rfl (hb hby at_129) rfl (feq hc214).2 (by decide) (by decide) kk_) ?_
          refine own_go (fun _ kk_ => XS.iconst X33.here hx rfl (hb hby at_136) kk_) ?_
          refine own_go (fun _ kk_ => XS.istore X33.here hx rfl (hb hby at_137) rfl (l' := #[.val (.int mode), .val (.int pos), .val (.int c0), .val (.int c1), .val (.int c2), .val (.int (mode &&& (7 : Int32))), .val (.int (c0 &&& (255 : Int32))), .val (.int (c1 &&& (255 : Int32))), .val (.int (c2 &&& (255 : Int32))), .val (.ref b7), .unset, .val (.int (0 : Int32)), .val (.int (4 : Int32)), .unset]) rfl kk_) ?_
          refine own_go (fun _ kk_ => XS.aload X33.here hx rfl (hb hby at_139) rfl rfl kk_) ?_
          refine own_go (fun _ kk_ => XS.iload X33.here hx rfl (hb hby at_141) rfl kk_) ?_
          refine own_go (fun _ kk_ => XS.iload X33.here hx rfl (hb hby at_143) rfl kk_) ?_
          show own_Fin p.tables e below _ (T33.setTop (mkF m 145 #[.val (.int mode), .val (.int pos), .val (.int c0), .val (.int c1), .val (.int c2), .val (.int (mode &&& (7 : Int32))), .val (.int (c0 &&& (255 : Int32))), .val (.int (c1 &&& (255 : Int32))), .val (.int (c2 &&& (255 : Int32))), .val (.ref b7), .unset, .val (.int (0 : Int32)), .val (.int (4 : Int32)), .unset] [(.int (c0 &&& (255 : Int32))), (.int (4 : Int32)), (.ref b7)]))
          obtain ⟨T238, h238, X238, e238, W238, V238, st238⟩ := own_stC X33 hx hZ e33 V7 (by decide) (i := 4) rfl (Nat.le_of_ble_eq_true rfl) (g := (mkF m 145 #[.val (.int mode), .val (.int pos), .val (.int c0), .val (.int c1), .val (.int c2), .val (.int (mode &&& (7 : Int32))), .val (.int (c0 &&& (255 : Int32))), .val (.int (c1 &&& (255 : Int32))), .val (.int (c2 &&& (255 : Int32))), .val (.ref b7), .unset, .val (.int (0 : Int32)), .val (.int (4 : Int32)), .unset] [(.int (c0 &&& (255 : Int32))), (.int (4 : Int32)), (.ref b7)])) rfl rfl (hb hby at_145)
          rw [own_nar255] at V238
          replace V7 : Arv Z h238 b7 k7 .char (9 : Int32) [(.int (100 : Int32)), (.int (111 : Int32)), (.int (99 : Int32)), (.int (107 : Int32)), (.int (c0 &&& (255 : Int32))), (.int (114 : Int32)), (.int (46 : Int32)), (.int (105 : Int32)), (.int (111 : Int32))] (.int (0 : Int32)) := V238
          have N238 := Fr.snoc X238 N33 g_b7
          refine own_go st238 ?_
          have sa239 := S_b7
          replace S_b7 := Safe.wr W238 sa239 CH S_b7
          replace CR := CR.trans (CHr.wr W238 sa239 CH)
          replace CH := CHv.wr W238 sa239 CH
          replace hk := Nat.le_trans hk (Keep.of_wr W238).1
          replace O0 := O0.wr W238 g_b7
          have K240 := K35.wr W238 (Or.inr sz_b7)
          show own_Fin p.tables e below _ (T238.setTop (mkF m 146 #[.val (.int mode), .val (.int pos), .val (.int c0), .val (.int c1), .val (.int c2), .val (.int (mode &&& (7 : Int32))), .val (.int (c0 &&& (255 : Int32))), .val (.int (c1 &&& (255 : Int32))), .val (.int (c2 &&& (255 : Int32))), .val (.ref b7), .unset, .val (.int (0 : Int32)), .val (.int (4 : Int32)), .unset] []))
          obtain ⟨T241, h241, X241, e241, E241, A241, D241, -, st241⟩ := newO X238 hx hZ hown (hw _ (List.mem_of_getElem? (i := 1) rfl)) (hw _ (List.mem_of_getElem? (i := 2) rfl)) (hw _ (List.mem_of_getElem? (i := 3) rfl)) e238 (g := (mkF m 146 #[.val (.int mode), .val (.int pos), .val (.int c0), .val (.int c1), .val (.int c2), .val (.int (mode &&& (7 : Int32))), .val (.int (c0 &&& (255 : Int32))), .val (.int (c1 &&& (255 : Int32))), .val (.int (c2 &&& (255 : Int32))), .val (.ref b7), .unset, .val (.int (0 : Int32)), .val (.int (4 : Int32)), .unset] [])) rfl (hb hby at_146) (by decide) (by decide)
          obtain ⟨b241, g241⟩ : ∃ z, z = h238.size := ⟨_, rfl⟩
          rw [← g241] at A241 D241 st241
          have sz_b241 : h0.size ≤ b241 := Nat.le_trans K240.1 (Nat.le_of_eq g241.symm)
          have g_b241 : n0 ≤ b241 := Nat.le_trans Z0 sz_b241
          have ne242 : b7 ≠ b241 := Nat.ne_of_lt (Nat.lt_of_lt_of_le V7.lt (Nat.le_of_eq g241.symm))
          have S_b241 := Safe.new (Z := Z) (EL := consts_1) (vm := s.vm) (Nat.le_of_eq g241.symm)
          replace S_b7 := Safe.ext E241 CH S_b7
          replace S_b241 := Safe.ext E241 CH S_b241
          replace CR := CR.trans (CHr.ext E241 CH)
          replace CH := CH.ext E241
          replace hk := Nat.le_trans hk E241.1
          replace O0 := O0.ext E241
          replace V7 := V7.ext E241
          have K243 := K240.ext E241
          have F241_coder : Fld Z h241 b241 "java/lang/String" "coder" "B" (.int (0 : Int32)) := D241 (Or.inr (hw _ (List.mem_of_getElem? (i := 27) rfl))) (ty := .byte) (by decide)
          have F241_value : Fld Z h241 b241 "java/lang/String" "value" "[B" .null := D241 (Or.inr (hw _ (List.mem_of_getElem? (i := 29) rfl))) (ty := (.array .byte)) (by decide)
          refine own_go st241 ?_
          refine own_go (fun _ kk_ => XS.dup X241.here hx rfl (hb hby at_149) rfl rfl kk_) ?_
          refine own_go (fun _ kk_ => XS.aload X241.here hx rfl (hb hby at_150) rfl rfl kk_) ?_
          show own_Fin p.tables e below _ (T241.setTop (mkF m 152 #[.val (.int mode), .val (.int pos), .val (.int c0), .val (.int c1), .val (.int c2), .val (.int (mode &&& (7 : Int32))), .val (.int (c0 &&& (255 : Int32))), .val (.int (c1 &&& (255 : Int32))), .val (.int (c2 &&& (255 : Int32))), .val (.ref b7), .unset, .val (.int (0 : Int32)), .val (.int (4 : Int32)), .unset] [(.ref b7), (.ref b241), (.ref b241)]))
          have hp245 : ∀ c ∈ ([(100 : Int32), (111 : Int32), (99 : Int32), (107 : Int32), (c0 &&& (255 : Int32)), (114 : Int32), (46 : Int32), (105 : Int32), (111 : Int32)] : List Int32), ¬ c < 0 ∧ ¬ (255 : Int32) < c := by
            intro c hc
            simp only [List.mem_cons, List.not_mem_nil, or_false] at hc
            rcases hc with rfl | rfl | rfl | rfl | rfl | rfl | rfl | rfl | rfl
            · exact by decide
            · exact by decide
            · exact by decide
            · exact by decide
            · exact own_and255 _
            · exact by decide
            · exact by decide
            · exact by decide
            · exact by decide
          obtain ⟨_, _, ⟨T244, L244, k244, n244⟩, -, X244, ⟨Lc244, hQ244, l244, y244, z244⟩, st244⟩ := X241.specialBack hx (y := (⟨"java/lang/String", "<init>", "([C)V"⟩ : MethodName)) rfl hown (mvT hZ (hw _ (List.mem_of_getElem? (i := 4) rfl))) (mvT hZ (hw _ (List.mem_of_getElem? (i := 5) rfl))) (mvT hZ (hw _ (List.mem_of_getElem? (i := 6) rfl))) (by decide) (StrChars.Road.backV (W := 1) hZ hws (kI := 4) (hw _ (List.mem_of_getElem? (i := 2) rfl)) (cs := ([(100 : Int32), (111 : Int32), (99 : Int32), (107 : Int32), (c0 &&& (255 : Int32)), (114 : Int32), (46 : Int32), (105 : Int32), (111 : Int32)] : List Int32)) (bs := (([(100 : Int32), (111 : Int32), (99 : Int32), (107 : Int32), (c0 &&& (255 : Int32)), (114 : Int32), (46 : Int32), (105 : Int32), (111 : Int32)] : List Int32)).map (fun c => c.toInt8.toInt32)) (n := 9) g_b241 (Nat.le_trans Z0 K243.1) A241 F241_value F241_coder V7 (S_C.ext O0.2) hcs rfl rfl (by decide) (by decide) hp245 rfl (by decide) (by decide)) (g := (mkF m 152 #[.val (.int mode), .val (.int pos), .val (.int c0), .val (.int c1), .val (.int c2), .val (.int (mode &&& (7 : Int32))), .val (.int (c0 &&& (255 : Int32))), .val (.int (c1 &&& (255 : Int32))), .val (.int (c2 &&& (255 : Int32))), .val (.ref b7), .unset, .val (.int (0 : Int32)), .val (.int (4 : Int32)), .unset] [(.ref b7), (.ref b241), (.ref b241)])) rfl (by rw [hml]; rfl) (Steps.refl _) (a := b241) (argsL := [(.ref b7)]) (rest := [(.ref b241)]) (lenOf pd_3 rfl) rfl (by show 2 * 0 + _ ≤ _; exact Nat.le_of_eq rfl) (hb hby at_152) (fun _ _ => ⟨rfl, e241, (by decide : 2 + 1 ≤ _), (by decide : 13 + 9 ≤ _)⟩)
          dsimp only [Pt.U, Pt.locs, Pt.cells, Pt.slots] at X244 l244 y244 z244 st244 hQ244
          subst l244 y244 z244
          obtain ⟨rfl, N244q, KK244, EE244, FC244, t244, kb244, gt244, szt244, netx244, FV244, VV244⟩ := hQ244
          have N244 := Fr.app N238 N244q
          have SS244 : own_Str Z T244.heap b241 t244 ([(100 : Int32), (111 : Int32), (99 : Int32), (107 : Int32), (c0 &&& (255 : Int32)), (114 : Int32), (46 : Int32), (105 : Int32), (111 : Int32)] : List Int32) := ⟨_, _, _, _, EE244, FV244, FC244, VV244, StrChars.Road.codOf (n := 9) rfl (fun c hc => (hp245 c hc).2), own_up _ hp245, Nat.le_of_ble_eq_true rfl⟩
          have sz_t244 : h0.size ≤ t244 := Nat.le_trans K243.1 szt244
          have ne246 : b7 ≠ t244 := Nat.ne_of_lt (Nat.lt_of_lt_of_le V7.lt szt244)
          have ne247 : b241 ≠ t244 := Nat.ne_of_lt (Nat.lt_of_lt_of_le A241.lt szt244)
          have S_t244 := Safe.new (Z := Z) (EL := consts_1) (vm := s.vm) szt244
          have hs248 : ∀ x ∈ [b241], Safe Z consts_1 s.vm h241 x := (sfS S_b241 sf0)
          replace S_b7 := Safe.keep KK244 hs248 CH S_b7
          replace S_b241 := Safe.keep KK244 hs248 CH S_b241
          replace S_t244 := Safe.keep KK244 hs248 CH S_t244
          replace CR := CR.trans (CHr.keep KK244 hs248 CH)
          replace CH := CHv.keep KK244 hs248 CH
          replace hk := Nat.le_trans hk KK244.1
          replace O0 := O0.keep KK244 (allS g_b241 (all0))
          replace V7 := V7.keep KK244 (ninS ne242 nin0)
          replace A241 := A241.keep KK244
          have K249 := K243.trans KK244 (allS (Or.inr sz_b241) all0)
          refine own_go (fun _ kk_ => st244.trans kk_) ?_
          refine own_go (fun _ kk_ => XS.astore X244.here hx rfl (hb hby at_155) rfl rfl (l' := #[.val (.int mode), .val (.int pos), .val (.int c0), .val (.int c1), .val (.int c2), .val (.int (mode &&& (7 : Int32))), .val (.int (c0 &&& (255 : Int32))), .val (.int (c1 &&& (255 : Int32))), .val (.int (c2 &&& (255 : Int32))), .val (.ref b7), .val (.ref b241), .val (.int (0 : Int32)), .val (.int (4 : Int32)), .unset]) rfl kk_) ?_
          refine own_go (fun _ kk_ => XS.goto X244.here hx rfl (pc0 := 157) (pc' := 397) rfl (hb hby at_157) (by decide) (by decide) kk_) ?_
          refine own_go (fun _ kk_ => XS.iload X244.here hx rfl (hb hby at_397) rfl kk_) ?_
          show own_Fin p.tables e below _ (T244.setTop (mkF m 399 #[.val (.int mode), .val (.int pos), .val (.int c0), .val (.int c1), .val (.int c2), .val (.int (mode &&& (7 : Int32))), .val (.int (c0 &&& (255 : Int32))), .val (.int (c1 &&& (255 : Int32))), .val (.int (c2 &&& (255 : Int32))), .val (.ref b7), .val (.ref b241), .val (.int (0 : Int32)), .val (.int (4 : Int32)), .unset] [(.int (0 : Int32))]))
          refine own_go (fun _ kk_ => XS.ifYes X244.here hx rfl (pc0 := 399) (pc' := 407) rfl (hb hby at_399) rfl ((if0 _ _).trans (teq (by decide : (0 : Int32) = (0 : Int32))).1) (by decide) (by decide) kk_) ?_
          refine own_go (fun _ kk_ => XS.aload X244.here hx rfl (hb hby at_407) rfl rfl kk_) ?_
          refine own_go (fun _ kk_ => XS.astore X244.here hx rfl (hb hby at_409) rfl rfl (l' := #[.val (.int mode), .val (.int pos), .val (.int c0), .val (.int c1), .val (.int c2), .val (.int (mode &&& (7 : Int32))), .val (.int (c0 &&& (255 : Int32))), .val (.int (c1 &&& (255 : Int32))), .val (.int (c2 &&& (255 : Int32))), .val (.ref b7), .val (.ref b241), .val (.int (0 : Int32)), .val (.ref b241), .unset]) rfl kk_) ?_
          refine own_go (fun _ kk_ => XS.aload X244.here hx rfl (hb hby at_411) rfl rfl kk_) ?_
          show own_Fin p.tables e below _ (T244.setTop (mkF m 413 #[.val (.int mode), .val (.int pos), .val (.int c0), .val (.int c1), .val (.int c2), .val (.int (mode &&& (7 : Int32))), .val (.int (c0 &&& (255 : Int32))), .val (.int (c1 &&& (255 : Int32))), .val (.int (c2 &&& (255 : Int32))), .val (.ref b7), .val (.ref b241), .val (.int (0 : Int32)), .val (.ref b241), .unset] [(.ref b241)]))
          obtain ⟨_, _, ⟨T250, L250, k250, n250⟩, -, X250, hSn250, hgr250, ⟨Lc250, hQ250, l250, y250, z250, CR250⟩, st250⟩ := callSS X244 hx (y := (⟨"com/example/laminate/laminate/core/DefaultRegistry", "credentialsKey", "(Ljava/lang/String;)Ljava/lang/String;"⟩ : MethodName)) hown (mvT hZ (hw _ (List.mem_of_getElem? (i := 33) rfl))) (mvT hZ (hw _ (List.mem_of_getElem? (i := 34) rfl))) (mvT hZ (hw _ (List.mem_of_getElem? (i := 35) rfl))) (mvT hZ (hw _ (List.mem_of_getElem? (i := 36) rfl))) (by decide) (backOfSH (s := s) (W := 0) (rm_ck l Z a0 hw [] hEL b241 t244 ([(100 : Int32), (111 : Int32), (99 : Int32), (107 : Int32), (c0 &&& (255 : Int32)), (114 : Int32), (46 : Int32), (105 : Int32), (111 : Int32)] : List Int32) gc T244.heap n0 (Nat.le_trans Z0 K249.1) SS244 S_C hcs O0) hZ (hw _ (List.mem_of_getElem? (i := 36) rfl)) (hw _ (List.mem_of_getElem? (i := 35) rfl)) (by decide) (by decide) hEL CH) (g := (mkF m 413 #[.val (.int mode), .val (.int pos), .val (.int c0), .val (.int c1), .val (.int c2), .val (.int (mode &&& (7 : Int32))), .val (.int (c0 &&& (255 : Int32))), .val (.int (c1 &&& (255 : Int32))), .val (.int (c2 &&& (255 : Int32))), .val (.ref b7), .val (.ref b241), .val (.int (0 : Int32)), .val (.ref b241), .unset] [(.ref b241)])) rfl (by rw [hml]; rfl) (argsL := [(.ref b241)]) (rest := []) (lenOf pd_4 rfl) rfl (by show 2 * 0 + _ ≤ _; exact Nat.le_of_eq rfl) (hb hby at_413) (fun _ _ => ⟨rfl, rfl, (by decide : 3 + 4 ≤ _), (by decide : 22 + 152 ≤ _)⟩)
          dsimp only [Pt.U, Pt.locs, Pt.cells, Pt.slots] at X250 l250 y250 z250 st250 hQ250 hSn250 hgr250 CR250
          subst l250 y250 z250
          replace hS := foldS hS hk hSn250 hgr250
          replace hk : T250.heap.size ≤ T250.heap.size := Nat.le_refl _
          replace hZ : Z.Warmed39 (s.setVm T250.vm).vm := State.Warmed39.trans (t := s.setVm s.vm) hZ hSn250.1
          replace hown : (s.setVm T250.vm).vm.findClass "com/example/laminate/laminate/core/DefaultRegistryCredentialsKeyPinLaw" = some m.cls := by rw [show (s.setVm T250.vm).vm = T250.vm from rfl, hSn250.1.alike.findClass]; exact hown
          replace X250 : Stand p l e room_1 (s.setVm T250.vm) m #[(.int mode), (.int pos), (.int c0), (.int c1), (.int c2)] below meth c T250 _ _ _ := X250
          replace S_b7 := CR250.safe V7.lt S_b7
          replace S_b241 := CR250.safe SS244.lt S_b241
          replace S_t244 := CR250.safe SS244.ltt S_t244
          replace CR := CR.trans CR250
          replace CH := CR250.1
          obtain ⟨N250q, KK250, hy250, hn250⟩ := hQ250
          have N250 := Fr.app N244 N250q
          obtain rfl := hn250 (by simp; exact fun q => hc214 q.symm)
          replace O0 := O0.keep KK250 all0
          replace V7 := V7.keep KK250 nin0
          replace SS244 := SS244.keep KK250 nin0 nin0
          have K251 := K249.trans KK250 all0
          refine own_go (fun _ kk_ => st250.trans kk_) ?_
          refine own_go (fun _ kk_ => XS.astore X250.here hx rfl (hb hby at_416) rfl rfl (l' := #[.val (.int mode), .val (.int pos), .val (.int c0), .val (.int c1), .val (.int c2), .val (.int (mode &&& (7 : Int32))), .val (.int (c0 &&& (255 : Int32))), .val (.int (c1 &&& (255 : Int32))), .val (.int (c2 &&& (255 : Int32))), .val (.ref b7), .val (.ref b241), .val (.int (0 : Int32)), .val (.ref b241), .val (.ref b241)]) rfl kk_) ?_
          refine own_go (fun _ kk_ => XS.aload X250.here hx rfl (hb hby at_418) rfl rfl kk_) ?_
          refine own_go (fun _ kk_ => XS.aload X250.here hx rfl (hb hby at_420) rfl rfl kk_) ?_
          show own_Fin p.tables e below _ (T250.setTop (mkF m 422 #[.val (.int mode), .val (.int pos), .val (.int c0), .val (.int c1), .val (.int c2), .val (.int (mode &&& (7 : Int32))), .val (.int (c0 &&& (255 : Int32))), .val (.int (c1 &&& (255 : Int32))), .val (.int (c2 &&& (255 : Int32))), .val (.ref b7), .val (.ref b241), .val (.int (0 : Int32)), .val (.ref b241), .val (.ref b241)] [(.ref b241), (.ref b241)]))
          obtain ⟨cq252, kq252, qa252, qb252, qc252⟩ := isOf hZ rfl SS244.exa
          obtain ⟨_, _, ⟨T252, L252, k252, n252⟩, -, X252, ⟨Lc252, hQ252, l252, y252, z252⟩, st252⟩ := X250.virtualBack hx (y := (⟨"java/lang/String", "equals", "(Ljava/lang/Object;)Z"⟩ : MethodName)) (z := (⟨"java/lang/String", "equals", "(Ljava/lang/Object;)Z"⟩ : MethodName)) hown (mvT hZ (hw _ (List.mem_of_getElem? (i := 49) rfl))) (mvT hZ (hw _ (List.mem_of_getElem? (i := 39) rfl))) (own_notface (args := #[]) (mvT hZ (hw _ (List.mem_of_getElem? (i := 41) rfl))) rfl) (mvT hZ (hw _ (List.mem_of_getElem? (i := 41) rfl))) (mvT hZ (hw _ (List.mem_of_getElem? (i := 40) rfl))) (by decide) (own_eqB (W := 0) hZ heq (hw _ (List.mem_of_getElem? (i := 2) rfl)) SS244 SS244 (S_C.ext O0.2) hcs (by decide) (by decide)) qa252 qc252 (g := (mkF m 422 #[.val (.int mode), .val (.int pos), .val (.int c0), .val (.int c1), .val (.int c2), .val (.int (mode &&& (7 : Int32))), .val (.int (c0 &&& (255 : Int32))), .val (.int (c1 &&& (255 : Int32))), .val (.int (c2 &&& (255 : Int32))), .val (.ref b7), .val (.ref b241), .val (.int (0 : Int32)), .val (.ref b241), .val (.ref b241)] [(.ref b241), (.ref b241)])) rfl (by rw [hml]; rfl) (Steps.refl _) (argsL := [(.ref b241)]) (rest := []) (lenOf pd_1 rfl) rfl (by show 2 * 0 + _ ≤ _; exact Nat.le_of_eq rfl) (hb hby at_422) (fun _ _ => ⟨rfl, rfl, (by decide : 7 + 0 ≤ _), (by decide : 174 + 0 ≤ _)⟩)
          dsimp only [Pt.U, Pt.locs, Pt.cells, Pt.slots] at X252 l252 y252 z252 st252 hQ252
          subst l252 y252 z252
          obtain ⟨hq252, rfl, e252⟩ := hQ252
          obtain ⟨z252, rfl, hz252⟩ := own_eqv hq252
          have N252 := Fr.app N250 (Fr.nil n0)
          obtain rfl : z252 = 1 := hz252.elim (fun q => q.1) (fun q => absurd rfl q.2)
          refine own_go (fun _ kk_ => st252.trans kk_) ?_
          show own_Fin p.tables e below _ (T252.setTop (mkF m 425 #[.val (.int mode), .val (.int pos), .val (.int c0), .val (.int c1), .val (.int c2), .val (.int (mode &&& (7 : Int32))), .val (.int (c0 &&& (255 : Int32))), .val (.int (c1 &&& (255 : Int32))), .val (.int (c2 &&& (255 : Int32))), .val (.ref b7), .val (.ref b241), .val (.int (0 : Int32)), .val (.ref b241), .val (.ref b241)] [(.int (1 : Int32))]))
          have CRz : CHr Z consts_1 s.vm s.heap T252.vm T252.heap := by
            rw [hh, e252]
            exact CR.trans (CHv.at X252 hZ hEL CH)
          refine own_retW X252 hx Bd hS (show _ ≤ T252.heap.size by rw [e252]; exact hk) (t := .boolean) Bd.returns rfl (Or.inl ⟨rfl, by simp, _, rfl⟩) (hb hby at_425) CRz ?_ (by decide) (by decide)
          show (Q_rm_law Z mode pos c0 c1 c2 gc h0 n0) (some (.int (1 : Int32))) T252.heap _
          rw [e252]
          exact ⟨rfl, N252⟩
      · skip
        show own_Fin p.tables e below _ (T33.setTop (mkF m 122 #[.val (.int mode), .val (.int pos), .val (.int c0), .val (.int c1), .val (.int c2), .val (.int (mode &&& (7 : Int32))), .val (.int (c0 &&& (255 : Int32))), .val (.int (c1 &&& (255 : Int32))), .val (.int (c2 &&& (255 : Int32))), .val (.ref b7), .unset, .unset, .val (.int ((pos &&& (2147483647 : Int32)) % (9 : Int32))), .unset] []))
        rw [hs9]
        refine own_go (fun _ kk_ => XS.aload X33.here hx rfl (hb hby at_122) rfl rfl kk_) ?_
        refine own_go (fun _ kk_ => XS.iload X33.here hx rfl (hb hby at_124) rfl kk_) ?_
        show own_Fin p.tables e below _ (T33.setTop (mkF m 126 #[.val (.int mode), .val (.int pos), .val (.int c0), .val (.int c1), .val (.int c2), .val (.int (mode &&& (7 : Int32))), .val (.int (c0 &&& (255 : Int32))), .val (.int (c1 &&& (255 : Int32))), .val (.int (c2 &&& (255 : Int32))), .val (.ref b7), .unset, .unset, .val (.int (5 : Int32)), .unset] [(.int (5 : Int32)), (.ref b7)]))
        refine own_go (fun _ kk_ => own_caload X33 hx hZ e33 V7 (by decide) (v := (.int (114 : Int32))) (rfl) (g := (mkF m 126 #[.val (.int mode), .val (.int pos), .val (.int c0), .val (.int c1), .val (.int c2), .val (.int (mode &&& (7 : Int32))), .val (.int (c0 &&& (255 : Int32))), .val (.int (c1 &&& (255 : Int32))), .val (.int (c2 &&& (255 : Int32))), .val (.ref b7), .unset, .unset, .val (.int (5 : Int32)), .unset] [(.int (5 : Int32)), (.ref b7)])) rfl rfl (hb hby at_126) _ kk_) ?_
        refine own_go (fun _ kk_ => XS.iload X33.here hx rfl (hb hby at_127) rfl kk_) ?_
        show own_Fin p.tables e below _ (T33.setTop (mkF m 129 #[.val (.int mode), .val (.int pos), .val (.int c0), .val (.int c1), .val (.int c2), .val (.int (mode &&& (7 : Int32))), .val (.int (c0 &&& (255 : Int32))), .val (.int (c1 &&& (255 : Int32))), .val (.int (c2 &&& (255 : Int32))), .val (.ref b7), .unset, .unset, .val (.int (5 : Int32)), .unset] [(.int (c0 &&& (255 : Int32))), (.int (114 : Int32))]))
        by_cases hc253 : (114 : Int32) = (c0 &&& (255 : Int32))
        · skip
          refine own_go (fun _ kk_ => XS.icmpNo X33.here hx rfl (hb hby at_129) rfl (teq hc253).2 kk_) ?_
          refine own_go (fun _ kk_ => XS.iconst X33.here hx rfl (hb hby at_132) kk_) ?_
          refine own_go (fun _ kk_ => XS.goto X33.here hx rfl (pc0 := 133) (pc' := 137) rfl (hb hby at_133) (by decide) (by decide) kk_) ?_
          refine own_go (fun _ kk_ => XS.istore X33.here hx rfl (hb hby at_137) rfl (l' := #[.val (.int mode), .val (.int pos), .val (.int c0), .val (.int c1), .val (.int c2), .val (.int (mode &&& (7 : Int32))), .val (.int (c0 &&& (255 : Int32))), .val (.int (c1 &&& (255 : Int32))), .val (.int (c2 &&& (255 : Int32))), .val (.ref b7), .unset, .val (.int (1 : Int32)), .val (.int (5 : Int32)), .unset]) rfl kk_) ?_
          refine own_go (fun _ kk_ => XS.aload X33.here hx rfl (hb hby at_139) rfl rfl kk_) ?_
          refine own_go (fun _ kk_ => XS.iload X33.here hx rfl (hb hby at_141) rfl kk_) ?_
          refine own_go (fun _ kk_ => XS.iload X33.here hx rfl (hb hby at_143) rfl kk_) ?_
          show own_Fin p.tables e below _ (T33.setTop (mkF m 145 #[.val (.int mode), .val (.int pos), .val (.int c0), .val (.int c1), .val (.int c2), .val (.int (mode &&& (7 : Int32))), .val (.int (c0 &&& (255 : Int32))), .val (.int (c1 &&& (255 : Int32))), .val (.int (c2 &&& (255 : Int32))), .val (.ref b7), .unset, .val (.int (1 : Int32)), .val (.int (5 : Int32)), .unset] [(.int (c0 &&& (255 : Int32))), (.int (5 : Int32)), (.ref b7)]))
          obtain ⟨T254, h254, X254, e254, W254, V254, st254⟩ := own_stC X33 hx hZ e33 V7 (by decide) (i := 5) rfl (Nat.le_of_ble_eq_true rfl) (g := (mkF m 145 #[.val (.int mode), .val (.int pos), .val (.int c0), .val (.int c1), .val (.int c2), .val (.int (mode &&& (7 : Int32))), .val (.int (c0 &&& (255 : Int32))), .val (.int (c1 &&& (255 : Int32))), .val (.int (c2 &&& (255 : Int32))), .val (.ref b7), .unset, .val (.int (1 : Int32)), .val (.int (5 : Int32)), .unset] [(.int (c0 &&& (255 : Int32))), (.int (5 : Int32)), (.ref b7)])) rfl rfl (hb hby at_145)
          rw [own_nar255] at V254
          replace V7 : Arv Z h254 b7 k7 .char (9 : Int32) [(.int (100 : Int32)), (.int (111 : Int32)), (.int (99 : Int32)), (.int (107 : Int32)), (.int (101 : Int32)), (.int (c0 &&& (255 : Int32))), (.int (46 : Int32)), (.int (105 : Int32)), (.int (111 : Int32))] (.int (0 : Int32)) := V254
          have N254 := Fr.snoc X254 N33 g_b7
          refine own_go st254 ?_
          have sa255 := S_b7
          replace S_b7 := Safe.wr W254 sa255 CH S_b7
          replace CR := CR.trans (CHr.wr W254 sa255 CH)
          replace CH := CHv.wr W254 sa255 CH
          replace hk := Nat.le_trans hk (Keep.of_wr W254).1
          replace O0 := O0.wr W254 g_b7
          have K256 := K35.wr W254 (Or.inr sz_b7)
          show own_Fin p.tables e below _ (T254.setTop (mkF m 146 #[.val (.int mode), .val (.int pos), .val (.int c0), .val (.int c1), .val (.int c2), .val (.int (mode &&& (7 : Int32))), .val (.int (c0 &&& (255 : Int32))), .val (.int (c1 &&& (255 : Int32))), .val (.int (c2 &&& (255 : Int32))), .val (.ref b7), .unset, .val (.int (1 : Int32)), .val (.int (5 : Int32)), .unset] []))
          obtain ⟨T257, h257, X257, e257, E257, A257, D257, -, st257⟩ := newO X254 hx hZ hown (hw _ (List.mem_of_getElem? (i := 1) rfl)) (hw _ (List.mem_of_getElem? (i := 2) rfl)) (hw _ (List.mem_of_getElem? (i := 3) rfl)) e254 (g := (mkF m 146 #[.val (.int mode), .val (.int pos), .val (.int c0), .val (.int c1), .val (.int c2), .val (.int (mode &&& (7 : Int32))), .val (.int (c0 &&& (255 : Int32))), .val (.int (c1 &&& (255 : Int32))), .val (.int (c2 &&& (255 : Int32))), .val (.ref b7), .unset, .val (.int (1 : Int32)), .val (.int (5 : Int32)), .unset] [])) rfl (hb hby at_146) (by decide) (by decide)
          obtain ⟨b257, g257⟩ : ∃ z, z = h254.size := ⟨_, rfl⟩
          rw [← g257] at A257 D257 st257
          have sz_b257 : h0.size ≤ b257 := Nat.le_trans K256.1 (Nat.le_of_eq g257.symm)
          have g_b257 : n0 ≤ b257 := Nat.le_trans Z0 sz_b257
          have ne258 : b7 ≠ b257 := Nat.ne_of_lt (Nat.lt_of_lt_of_le V7.lt (Nat.le_of_eq g257.symm))
          have S_b257 := Safe.new (Z := Z) (EL := consts_1) (vm := s.vm) (Nat.le_of_eq g257.symm)
          replace S_b7 := Safe.ext E257 CH S_b7
          replace S_b257 := Safe.ext E257 CH S_b257
          replace CR := CR.trans (CHr.ext E257 CH)
          replace CH := CH.ext E257
          replace hk := Nat.le_trans hk E257.1
          replace O0 := O0.ext E257
          replace V7 := V7.ext E257
          have K259 := K256.ext E257
          have F257_coder : Fld Z h257 b257 "java/lang/String" "coder" "B" (.int (0 : Int32)) := D257 (Or.inr (hw _ (List.mem_of_getElem? (i := 27) rfl))) (ty := .byte) (by decide)
          have F257_value : Fld Z h257 b257 "java/lang/String" "value" "[B" .null := D257 (Or.inr (hw _ (List.mem_of_getElem? (i := 29) rfl))) (ty := (.array .byte)) (by decide)
          refine own_go st257 ?_
          refine own_go (fun _ kk_ => XS.dup X257.here hx rfl (hb hby at_149) rfl rfl kk_) ?_
          refine own_go (fun _ kk_ => XS.aload X257.here hx rfl (hb hby at_150) rfl rfl kk_) ?_
          show own_Fin p.tables e below _ (T257.setTop (mkF m 152 #[.val (.int mode), .val (.int pos), .val (.int c0), .val (.int c1), .val (.int c2), .val (.int (mode &&& (7 : Int32))), .val (.int (c0 &&& (255 : Int32))), .val (.int (c1 &&& (255 : Int32))), .val (.int (c2 &&& (255 : Int32))), .val (.ref b7), .unset, .val (.int (1 : Int32)), .val (.int (5 : Int32)), .unset] [(.ref b7), (.ref b257), (.ref b257)]))
          have hp261 : ∀ c ∈ ([(100 : Int32), (111 : Int32), (99 : Int32), (107 : Int32), (101 : Int32), (c0 &&& (255 : Int32)), (46 : Int32), (105 : Int32), (111 : Int32)] : List Int32), ¬ c < 0 ∧ ¬ (255 : Int32) < c := by
            intro c hc
            simp only [List.mem_cons, List.not_mem_nil, or_false] at hc
            rcases hc with rfl | rfl | rfl | rfl | rfl | rfl | rfl | rfl | rfl
            · exact by decide
            · exact by decide
            · exact by decide
            · exact by decide
            · exact by decide
            · exact own_and255 _
            · exact by decide
            · exact by decide
            · exact by decide
          obtain ⟨_, _, ⟨T260, L260, k260, n260⟩, -, X260, ⟨Lc260, hQ260, l260, y260, z260⟩, st260⟩ := X257.specialBack hx (y := (⟨"java/lang/String", "<init>", "([C)V"⟩ : MethodName)) rfl hown (mvT hZ (hw _ (List.mem_of_getElem? (i := 4) rfl))) (mvT hZ (hw _ (List.mem_of_getElem? (i := 5) rfl))) (mvT hZ (hw _ (List.mem_of_getElem? (i := 6) rfl))) (by decide) (StrChars.Road.backV (W := 1) hZ hws (kI := 4) (hw _ (List.mem_of_getElem? (i := 2) rfl)) (cs := ([(100 : Int32), (111 : Int32), (99 : Int32), (107 : Int32), (101 : Int32), (c0 &&& (255 : Int32)), (46 : Int32), (105 : Int32), (111 : Int32)] : List Int32)) (bs := (([(100 : Int32), (111 : Int32), (99 : Int32), (107 : Int32), (101 : Int32), (c0 &&& (255 : Int32)), (46 : Int32), (105 : Int32), (111 : Int32)] : List Int32)).map (fun c => c.toInt8.toInt32)) (n := 9) g_b257 (Nat.le_trans Z0 K259.1) A257 F257_value F257_coder V7 (S_C.ext O0.2) hcs rfl rfl (by decide) (by decide) hp261 rfl (by decide) (by decide)) (g := (mkF m 152 #[.val (.int mode), .val (.int pos), .val (.int c0), .val (.int c1), .val (.int c2), .val (.int (mode &&& (7 : Int32))), .val (.int (c0 &&& (255 : Int32))), .val (.int (c1 &&& (255 : Int32))), .val (.int (c2 &&& (255 : Int32))), .val (.ref b7), .unset, .val (.int (1 : Int32)), .val (.int (5 : Int32)), .unset] [(.ref b7), (.ref b257), (.ref b257)])) rfl (by rw [hml]; rfl) (Steps.refl _) (a := b257) (argsL := [(.ref b7)]) (rest := [(.ref b257)]) (lenOf pd_3 rfl) rfl (by show 2 * 0 + _ ≤ _; exact Nat.le_of_eq rfl) (hb hby at_152) (fun _ _ => ⟨rfl, e257, (by decide : 2 + 1 ≤ _), (by decide : 13 + 9 ≤ _)⟩)
          dsimp only [Pt.U, Pt.locs, Pt.cells, Pt.slots] at X260 l260 y260 z260 st260 hQ260
          subst l260 y260 z260
          obtain ⟨rfl, N260q, KK260, EE260, FC260, t260, kb260, gt260, szt260, netx260, FV260, VV260⟩ := hQ260
          have N260 := Fr.app N254 N260q
          have SS260 : own_Str Z T260.heap b257 t260 ([(100 : Int32), (111 : Int32), (99 : Int32), (107 : Int32), (101 : Int32), (c0 &&& (255 : Int32)), (46 : Int32), (105 : Int32), (111 : Int32)] : List Int32) := ⟨_, _, _, _, EE260, FV260, FC260, VV260, StrChars.Road.codOf (n := 9) rfl (fun c hc => (hp261 c hc).2), own_up _ hp261, Nat.le_of_ble_eq_true rfl⟩
          have sz_t260 : h0.size ≤ t260 := Nat.le_trans K259.1 szt260
          have ne262 : b7 ≠ t260 := Nat.ne_of_lt (Nat.lt_of_lt_of_le V7.lt szt260)
          have ne263 : b257 ≠ t260 := Nat.ne_of_lt (Nat.lt_of_lt_of_le A257.lt szt260)
          have S_t260 := Safe.new (Z := Z) (EL := consts_1) (vm := s.vm) szt260
          have hs264 : ∀ x ∈ [b257], Safe Z consts_1 s.vm h257 x := (sfS S_b257 sf0)
          replace S_b7 := Safe.keep KK260 hs264 CH S_b7
          replace S_b257 := Safe.keep KK260 hs264 CH S_b257
          replace S_t260 := Safe.keep KK260 hs264 CH S_t260
          replace CR := CR.trans (CHr.keep KK260 hs264 CH)
          replace CH := CHv.keep KK260 hs264 CH
          replace hk := Nat.le_trans hk KK260.1
          replace O0 := O0.keep KK260 (allS g_b257 (all0))
          replace V7 := V7.keep KK260 (ninS ne258 nin0)
          replace A257 := A257.keep KK260
          have K265 := K259.trans KK260 (allS (Or.inr sz_b257) all0)
          refine own_go (fun _ kk_ => st260.trans kk_) ?_
          refine own_go (fun _ kk_ => XS.astore X260.here hx rfl (hb hby at_155) rfl rfl (l' := #[.val (.int mode), .val (.int pos), .val (.int c0), .val (.int c1), .val (.int c2), .val (.int (mode &&& (7 : Int32))), .val (.int (c0 &&& (255 : Int32))), .val (.int (c1 &&& (255 : Int32))), .val (.int (c2 &&& (255 : Int32))), .val (.ref b7), .val (.ref b257), .val (.int (1 : Int32)), .val (.int (5 : Int32)), .unset]) rfl kk_) ?_
          refine own_go (fun _ kk_ => XS.goto X260.here hx rfl (pc0 := 157) (pc' := 397) rfl (hb hby at_157) (by decide) (by decide) kk_) ?_
          refine own_go (fun _ kk_ => XS.iload X260.here hx rfl (hb hby at_397) rfl kk_) ?_
          show own_Fin p.tables e below _ (T260.setTop (mkF m 399 #[.val (.int mode), .val (.int pos), .val (.int c0), .val (.int c1), .val (.int c2), .val (.int (mode &&& (7 : Int32))), .val (.int (c0 &&& (255 : Int32))), .val (.int (c1 &&& (255 : Int32))), .val (.int (c2 &&& (255 : Int32))), .val (.ref b7), .val (.ref b257), .val (.int (1 : Int32)), .val (.int (5 : Int32)), .unset] [(.int (1 : Int32))]))
          refine own_go (fun _ kk_ => XS.ifNo X260.here hx rfl (hb hby at_399) rfl ((if0 _ _).trans (feq (by decide : ¬ (1 : Int32) = (0 : Int32))).1) kk_) ?_
          show own_Fin p.tables e below _ (T260.setTop (mkF m 402 #[.val (.int mode), .val (.int pos), .val (.int c0), .val (.int c1), .val (.int c2), .val (.int (mode &&& (7 : Int32))), .val (.int (c0 &&& (255 : Int32))), .val (.int (c1 &&& (255 : Int32))), .val (.int (c2 &&& (255 : Int32))), .val (.ref b7), .val (.ref b257), .val (.int (1 : Int32)), .val (.int (5 : Int32)), .unset] []))
          obtain ⟨a266, T266, h266, k266, tb266, kb266, X266, e266, E266, hS, hk, hZ, hown, EA266, FC266, FV266, VB266, -, -, CR266, -, NE266, st266⟩ := ldcCH X260 hx hZ hown (hw _ (List.mem_of_getElem? (i := 30) rfl)) wS rfl hS hk hEL (by decide) CH (vs := ((([(104 : Int32), (116 : Int32), (116 : Int32), (112 : Int32), (115 : Int32), (58 : Int32), (47 : Int32), (47 : Int32), (105 : Int32), (110 : Int32), (100 : Int32), (101 : Int32), (120 : Int32), (46 : Int32), (100 : Int32), (111 : Int32), (99 : Int32), (107 : Int32), (101 : Int32), (114 : Int32), (46 : Int32), (105 : Int32), (111 : Int32), (47 : Int32), (118 : Int32), (49 : Int32), (47 : Int32)] : List Int32).map (fun c => c.toInt8.toInt32)).map Value.int)) (z := (27 : Int32)) (by exact ⟨by decide, by decide⟩) (by decide) rfl (g := (mkF m 402 #[.val (.int mode), .val (.int pos), .val (.int c0), .val (.int c1), .val (.int c2), .val (.int (mode &&& (7 : Int32))), .val (.int (c0 &&& (255 : Int32))), .val (.int (c1 &&& (255 : Int32))), .val (.int (c2 &&& (255 : Int32))), .val (.ref b7), .val (.ref b257), .val (.int (1 : Int32)), .val (.int (5 : Int32)), .unset] [])) rfl (hb hby at_402) (n := 108) (by decide) (by decide) (by decide) (by decide)
          replace S_b7 := CR266.safe V7.lt S_b7
          replace S_b257 := CR266.safe SS260.lt S_b257
          replace S_t260 := CR266.safe SS260.ltt S_t260
          replace CR := CR.trans CR266
          replace CH := CR266.1
          replace O0 := O0.ext E266
          replace V7 := V7.ext E266
          replace SS260 := SS260.ext E266
          have K267 := K265.ext E266
          have ne268 : b7 ≠ a266 := (NE266 _ S_b7).1
          have ne269 : b7 ≠ tb266 := (NE266 _ S_b7).2
          have ne270 : b257 ≠ a266 := (NE266 _ S_b257).1
          have ne271 : b257 ≠ tb266 := (NE266 _ S_b257).2
          have ne272 : t260 ≠ a266 := (NE266 _ S_t260).1
          have ne273 : t260 ≠ tb266 := (NE266 _ S_t260).2
          have SS266 : own_Str Z h266 a266 tb266 ([(104 : Int32), (116 : Int32), (116 : Int32), (112 : Int32), (115 : Int32), (58 : Int32), (47 : Int32), (47 : Int32), (105 : Int32), (110 : Int32), (100 : Int32), (101 : Int32), (120 : Int32), (46 : Int32), (100 : Int32), (111 : Int32), (99 : Int32), (107 : Int32), (101 : Int32), (114 : Int32), (46 : Int32), (105 : Int32), (111 : Int32), (47 : Int32), (118 : Int32), (49 : Int32), (47 : Int32)] : List Int32) := ⟨_, _, _, _, EA266, FV266, FC266, VB266, StrChars.Road.codOf (n := 27) rfl (by decide), by decide, Nat.le_of_ble_eq_true rfl⟩
          refine own_go st266 ?_
          refine own_go (fun _ kk_ => XS.goto X266.here hx rfl (pc0 := 404) (pc' := 409) rfl (hb hby at_404) (by decide) (by decide) kk_) ?_
          refine own_go (fun _ kk_ => XS.astore X266.here hx rfl (hb hby at_409) rfl rfl (l' := #[.val (.int mode), .val (.int pos), .val (.int c0), .val (.int c1), .val (.int c2), .val (.int (mode &&& (7 : Int32))), .val (.int (c0 &&& (255 : Int32))), .val (.int (c1 &&& (255 : Int32))), .val (.int (c2 &&& (255 : Int32))), .val (.ref b7), .val (.ref b257), .val (.int (1 : Int32)), .val (.ref a266), .unset]) rfl kk_) ?_
          refine own_go (fun _ kk_ => XS.aload X266.here hx rfl (hb hby at_411) rfl rfl kk_) ?_
          show own_Fin p.tables e below _ (T266.setTop (mkF m 413 #[.val (.int mode), .val (.int pos), .val (.int c0), .val (.int c1), .val (.int c2), .val (.int (mode &&& (7 : Int32))), .val (.int (c0 &&& (255 : Int32))), .val (.int (c1 &&& (255 : Int32))), .val (.int (c2 &&& (255 : Int32))), .val (.ref b7), .val (.ref b257), .val (.int (1 : Int32)), .val (.ref a266), .unset] [(.ref b257)]))
          obtain ⟨_, _, ⟨T274, L274, k274, n274⟩, -, X274, hSn274, hgr274, ⟨Lc274, hQ274, l274, y274, z274, CR274⟩, st274⟩ := callSS X266 hx (y := (⟨"com/example/laminate/laminate/core/DefaultRegistry", "credentialsKey", "(Ljava/lang/String;)Ljava/lang/String;"⟩ : MethodName)) hown (mvT hZ (hw _ (List.mem_of_getElem? (i := 33) rfl))) (mvT hZ (hw _ (List.mem_of_getElem? (i := 34) rfl))) (mvT hZ (hw _ (List.mem_of_getElem? (i := 35) rfl))) (mvT hZ (hw _ (List.mem_of_getElem? (i := 36) rfl))) (by decide) (backOfSH (s := s) (W := 0) (rm_ck l Z a0 hw [] hEL b257 t260 ([(100 : Int32), (111 : Int32), (99 : Int32), (107 : Int32), (101 : Int32), (c0 &&& (255 : Int32)), (46 : Int32), (105 : Int32), (111 : Int32)] : List Int32) gc h266 n0 (Nat.le_trans Z0 K267.1) SS260 S_C hcs O0) hZ (hw _ (List.mem_of_getElem? (i := 36) rfl)) (hw _ (List.mem_of_getElem? (i := 35) rfl)) (by decide) (by decide) hEL CH) (g := (mkF m 413 #[.val (.int mode), .val (.int pos), .val (.int c0), .val (.int c1), .val (.int c2), .val (.int (mode &&& (7 : Int32))), .val (.int (c0 &&& (255 : Int32))), .val (.int (c1 &&& (255 : Int32))), .val (.int (c2 &&& (255 : Int32))), .val (.ref b7), .val (.ref b257), .val (.int (1 : Int32)), .val (.ref a266), .unset] [(.ref b257)])) rfl (by rw [hml]; rfl) (argsL := [(.ref b257)]) (rest := []) (lenOf pd_4 rfl) rfl (by show 2 * 0 + _ ≤ _; exact Nat.le_of_eq rfl) (hb hby at_413) (fun _ _ => ⟨rfl, e266, (by decide : 5 + 4 ≤ _), (by decide : 134 + 152 ≤ _)⟩)
          dsimp only [Pt.U, Pt.locs, Pt.cells, Pt.slots] at X274 l274 y274 z274 st274 hQ274 hSn274 hgr274 CR274
          subst l274 y274 z274
          replace hS := foldS hS (show _ ≤ T266.heap.size by rw [e266]; exact hk) hSn274 hgr274
          replace hk : T274.heap.size ≤ T274.heap.size := Nat.le_refl _
          replace hZ : Z.Warmed39 (s.setVm T274.vm).vm := State.Warmed39.trans (t := s.setVm T266.vm) hZ hSn274.1
          replace hown : (s.setVm T274.vm).vm.findClass "com/example/laminate/laminate/core/DefaultRegistryCredentialsKeyPinLaw" = some m.cls := by rw [show (s.setVm T274.vm).vm = T274.vm from rfl, hSn274.1.alike.findClass]; exact hown
          replace X274 : Stand p l e room_1 (s.setVm T274.vm) m #[(.int mode), (.int pos), (.int c0), (.int c1), (.int c2)] below meth c T274 _ _ _ := X274
          replace S_b7 := CR274.safe V7.lt S_b7
          replace S_b257 := CR274.safe SS260.lt S_b257
          replace S_t260 := CR274.safe SS260.ltt S_t260
          replace CR := CR.trans CR274
          replace CH := CR274.1
          obtain ⟨N274q, KK274, hy274, hn274⟩ := hQ274
          have N274 := Fr.app N260 N274q
          obtain ⟨ra274, rb274, rfl, SR274⟩ := hy274 (by rw [← hc253])
          replace O0 := O0.keep KK274 all0
          replace V7 := V7.keep KK274 nin0
          replace SS260 := SS260.keep KK274 nin0 nin0
          replace SS266 := SS266.keep KK274 nin0 nin0
          have K275 := K267.trans KK274 all0
          refine own_go (fun _ kk_ => st274.trans kk_) ?_
          refine own_go (fun _ kk_ => XS.astore X274.here hx rfl (hb hby at_416) rfl rfl (l' := #[.val (.int mode), .val (.int pos), .val (.int c0), .val (.int c1), .val (.int c2), .val (.int (mode &&& (7 : Int32))), .val (.int (c0 &&& (255 : Int32))), .val (.int (c1 &&& (255 : Int32))), .val (.int (c2 &&& (255 : Int32))), .val (.ref b7), .val (.ref b257), .val (.int (1 : Int32)), .val (.ref a266), .val (.ref ra274)]) rfl kk_) ?_
          refine own_go (fun _ kk_ => XS.aload X274.here hx rfl (hb hby at_418) rfl rfl kk_) ?_
          refine own_go (fun _ kk_ => XS.aload X274.here hx rfl (hb hby at_420) rfl rfl kk_) ?_
          show own_Fin p.tables e below _ (T274.setTop (mkF m 422 #[.val (.int mode), .val (.int pos), .val (.int c0), .val (.int c1), .val (.int c2), .val (.int (mode &&& (7 : Int32))), .val (.int (c0 &&& (255 : Int32))), .val (.int (c1 &&& (255 : Int32))), .val (.int (c2 &&& (255 : Int32))), .val (.ref b7), .val (.ref b257), .val (.int (1 : Int32)), .val (.ref a266), .val (.ref ra274)] [(.ref ra274), (.ref a266)]))
          obtain ⟨cq276, kq276, qa276, qb276, qc276⟩ := isOf hZ rfl SS266.exa
          obtain ⟨_, _, ⟨T276, L276, k276, n276⟩, -, X276, ⟨Lc276, hQ276, l276, y276, z276⟩, st276⟩ := X274.virtualBack hx (y := (⟨"java/lang/String", "equals", "(Ljava/lang/Object;)Z"⟩ : MethodName)) (z := (⟨"java/lang/String", "equals", "(Ljava/lang/Object;)Z"⟩ : MethodName)) hown (mvT hZ (hw _ (List.mem_of_getElem? (i := 49) rfl))) (mvT hZ (hw _ (List.mem_of_getElem? (i := 39) rfl))) (own_notface (args := #[]) (mvT hZ (hw _ (List.mem_of_getElem? (i := 41) rfl))) rfl) (mvT hZ (hw _ (List.mem_of_getElem? (i := 41) rfl))) (mvT hZ (hw _ (List.mem_of_getElem? (i := 40) rfl))) (by decide) (own_eqB (W := 0) hZ heq (hw _ (List.mem_of_getElem? (i := 2) rfl)) SS266 SR274 (S_C.ext O0.2) hcs (by decide) (by decide)) qa276 qc276 (g := (mkF m 422 #[.val (.int mode), .val (.int pos), .val (.int c0), .val (.int c1), .val (.int c2), .val (.int (mode &&& (7 : Int32))), .val (.int (c0 &&& (255 : Int32))), .val (.int (c1 &&& (255 : Int32))), .val (.int (c2 &&& (255 : Int32))), .val (.ref b7), .val (.ref b257), .val (.int (1 : Int32)), .val (.ref a266), .val (.ref ra274)] [(.ref ra274), (.ref a266)])) rfl (by rw [hml]; rfl) (Steps.refl _) (argsL := [(.ref ra274)]) (rest := []) (lenOf pd_1 rfl) rfl (by show 2 * 0 + _ ≤ _; exact Nat.le_of_eq rfl) (hb hby at_422) (fun _ _ => ⟨rfl, rfl, (by decide : 9 + 0 ≤ _), (by decide : 286 + 0 ≤ _)⟩)
          dsimp only [Pt.U, Pt.locs, Pt.cells, Pt.slots] at X276 l276 y276 z276 st276 hQ276
          subst l276 y276 z276
          obtain ⟨hq276, rfl, e276⟩ := hQ276
          obtain ⟨z276, rfl, hz276⟩ := own_eqv hq276
          have N276 := Fr.app N274 (Fr.nil n0)
          obtain rfl : z276 = 1 := hz276.elim (fun q => q.1) (fun q => absurd rfl q.2)
          refine own_go (fun _ kk_ => st276.trans kk_) ?_
          show own_Fin p.tables e below _ (T276.setTop (mkF m 425 #[.val (.int mode), .val (.int pos), .val (.int c0), .val (.int c1), .val (.int c2), .val (.int (mode &&& (7 : Int32))), .val (.int (c0 &&& (255 : Int32))), .val (.int (c1 &&& (255 : Int32))), .val (.int (c2 &&& (255 : Int32))), .val (.ref b7), .val (.ref b257), .val (.int (1 : Int32)), .val (.ref a266), .val (.ref ra274)] [(.int (1 : Int32))]))
          have CRz : CHr Z consts_1 s.vm s.heap T276.vm T276.heap := by
            rw [hh, e276]
            exact CR.trans (CHv.at X276 hZ hEL CH)
          refine own_retW X276 hx Bd hS (show _ ≤ T276.heap.size by rw [e276]; exact hk) (t := .boolean) Bd.returns rfl (Or.inl ⟨rfl, by simp, _, rfl⟩) (hb hby at_425) CRz ?_ (by decide) (by decide)
          show (Q_rm_law Z mode pos c0 c1 c2 gc h0 n0) (some (.int (1 : Int32))) T276.heap _
          rw [e276]
          exact ⟨rfl, N276⟩
        · skip
          refine own_go (fun _ kk_ => XS.icmpYes X33.here hx rfl (pc0 := 129) (pc' := 136) rfl (hb hby at_129) rfl (feq hc253).2 (by decide) (by decide) kk_) ?_
          refine own_go (fun _ kk_ => XS.iconst X33.here hx rfl (hb hby at_136) kk_) ?_
          refine own_go (fun _ kk_ => XS.istore X33.here hx rfl (hb hby at_137) rfl (l' := #[.val (.int mode), .val (.int pos), .val (.int c0), .val (.int c1), .val (.int c2), .val (.int (mode &&& (7 : Int32))), .val (.int (c0 &&& (255 : Int32))), .val (.int (c1 &&& (255 : Int32))), .val (.int (c2 &&& (255 : Int32))), .val (.ref b7), .unset, .val (.int (0 : Int32)), .val (.int (5 : Int32)), .unset]) rfl kk_) ?_
          refine own_go (fun _ kk_ => XS.aload X33.here hx rfl (hb hby at_139) rfl rfl kk_) ?_
          refine own_go (fun _ kk_ => XS.iload X33.here hx rfl (hb hby at_141) rfl kk_) ?_
          refine own_go (fun _ kk_ => XS.iload X33.here hx rfl (hb hby at_143) rfl kk_) ?_
          show own_Fin p.tables e below _ (T33.setTop (mkF m 145 #[.val (.int mode), .val (.int pos), .val (.int c0), .val (.int c1), .val (.int c2), .val (.int (mode &&& (7 : Int32))), .val (.int (c0 &&& (255 : Int32))), .val (.int (c1 &&& (255 : Int32))), .val (.int (c2 &&& (255 : Int32))), .val (.ref b7), .unset, .val (.int (0 : Int32)), .val (.int (5 : Int32)), .unset] [(.int (c0 &&& (255 : Int32))), (.int (5 : Int32)), (.ref b7)]))
          obtain ⟨T277, h277, X277, e277, W277, V277, st277⟩ := own_stC X33 hx hZ e33 V7 (by decide) (i := 5) rfl (Nat.le_of_ble_eq_true rfl) (g := (mkF m 145 #[.val (.int mode), .val (.int pos), .val (.int c0), .val (.int c1), .val (.int c2), .val (.int (mode &&& (7 : Int32))), .val (.int (c0 &&& (255 : Int32))), .val (.int (c1 &&& (255 : Int32))), .val (.int (c2 &&& (255 : Int32))), .val (.ref b7), .unset, .val (.int (0 : Int32)), .val (.int (5 : Int32)), .unset] [(.int (c0 &&& (255 : Int32))), (.int (5 : Int32)), (.ref b7)])) rfl rfl (hb hby at_145)
          rw [own_nar255] at V277
          replace V7 : Arv Z h277 b7 k7 .char (9 : Int32) [(.int (100 : Int32)), (.int (111 : Int32)), (.int (99 : Int32)), (.int (107 : Int32)), (.int (101 : Int32)), (.int (c0 &&& (255 : Int32))), (.int (46 : Int32)), (.int (105 : Int32)), (.int (111 : Int32))] (.int (0 : Int32)) := V277
          have N277 := Fr.snoc X277 N33 g_b7
          refine own_go st277 ?_
          have sa278 := S_b7
          replace S_b7 := Safe.wr W277 sa278 CH S_b7
          replace CR := CR.trans (CHr.wr W277 sa278 CH)
          replace CH := CHv.wr W277 sa278 CH
          replace hk := Nat.le_trans hk (Keep.of_wr W277).1
          replace O0 := O0.wr W277 g_b7
          have K279 := K35.wr W277 (Or.inr sz_b7)
          show own_Fin p.tables e below _ (T277.setTop (mkF m 146 #[.val (.int mode), .val (.int pos), .val (.int c0), .val (.int c1), .val (.int c2), .val (.int (mode &&& (7 : Int32))), .val (.int (c0 &&& (255 : Int32))), .val (.int (c1 &&& (255 : Int32))), .val (.int (c2 &&& (255 : Int32))), .val (.ref b7), .unset, .val (.int (0 : Int32)), .val (.int (5 : Int32)), .unset] []))
          obtain ⟨T280, h280, X280, e280, E280, A280, D280, -, st280⟩ := newO X277 hx hZ hown (hw _ (List.mem_of_getElem? (i := 1) rfl)) (hw _ (List.mem_of_getElem? (i := 2) rfl)) (hw _ (List.mem_of_getElem? (i := 3) rfl)) e277 (g := (mkF m 146 #[.val (.int mode), .val (.int pos), .val (.int c0), .val (.int c1), .val (.int c2), .val (.int (mode &&& (7 : Int32))), .val (.int (c0 &&& (255 : Int32))), .val (.int (c1 &&& (255 : Int32))), .val (.int (c2 &&& (255 : Int32))), .val (.ref b7), .unset, .val (.int (0 : Int32)), .val (.int (5 : Int32)), .unset] [])) rfl (hb hby at_146) (by decide) (by decide)
          obtain ⟨b280, g280⟩ : ∃ z, z = h277.size := ⟨_, rfl⟩
          rw [← g280] at A280 D280 st280
          have sz_b280 : h0.size ≤ b280 := Nat.le_trans K279.1 (Nat.le_of_eq g280.symm)
          have g_b280 : n0 ≤ b280 := Nat.le_trans Z0 sz_b280
          have ne281 : b7 ≠ b280 := Nat.ne_of_lt (Nat.lt_of_lt_of_le V7.lt (Nat.le_of_eq g280.symm))
          have S_b280 := Safe.new (Z := Z) (EL := consts_1) (vm := s.vm) (Nat.le_of_eq g280.symm)
          replace S_b7 := Safe.ext E280 CH S_b7
          replace S_b280 := Safe.ext E280 CH S_b280
          replace CR := CR.trans (CHr.ext E280 CH)
          replace CH := CH.ext E280
          replace hk := Nat.le_trans hk E280.1
          replace O0 := O0.ext E280
          replace V7 := V7.ext E280
          have K282 := K279.ext E280
          have F280_coder : Fld Z h280 b280 "java/lang/String" "coder" "B" (.int (0 : Int32)) := D280 (Or.inr (hw _ (List.mem_of_getElem? (i := 27) rfl))) (ty := .byte) (by decide)
          have F280_value : Fld Z h280 b280 "java/lang/String" "value" "[B" .null := D280 (Or.inr (hw _ (List.mem_of_getElem? (i := 29) rfl))) (ty := (.array .byte)) (by decide)
          refine own_go st280 ?_
          refine own_go (fun _ kk_ => XS.dup X280.here hx rfl (hb hby at_149) rfl rfl kk_) ?_
          refine own_go (fun _ kk_ => XS.aload X280.here hx rfl (hb hby at_150) rfl rfl kk_) ?_
          show own_Fin p.tables e below _ (T280.setTop (mkF m 152 #[.val (.int mode), .val (.int pos), .val (.int c0), .val (.int c1), .val (.int c2), .val (.int (mode &&& (7 : Int32))), .val (.int (c0 &&& (255 : Int32))), .val (.int (c1 &&& (255 : Int32))), .val (.int (c2 &&& (255 : Int32))), .val (.ref b7), .unset, .val (.int (0 : Int32)), .val (.int (5 : Int32)), .unset] [(.ref b7), (.ref b280), (.ref b280)]))
          have hp284 : ∀ c ∈ ([(100 : Int32), (111 : Int32), (99 : Int32), (107 : Int32), (101 : Int32), (c0 &&& (255 : Int32)), (46 : Int32), (105 : Int32), (111 : Int32)] : List Int32), ¬ c < 0 ∧ ¬ (255 : Int32) < c := by
            intro c hc
            simp only [List.mem_cons, List.not_mem_nil, or_false] at hc
            rcases hc with rfl | rfl | rfl | rfl | rfl | rfl | rfl | rfl | rfl
            · exact by decide
            · exact by decide
            · exact by decide
            · exact by decide
            · exact by decide
            · exact own_and255 _
            · exact by decide
            · exact by decide
            · exact by decide
          obtain ⟨_, _, ⟨T283, L283, k283, n283⟩, -, X283, ⟨Lc283, hQ283, l283, y283, z283⟩, st283⟩ := X280.specialBack hx (y := (⟨"java/lang/String", "<init>", "([C)V"⟩ : MethodName)) rfl hown (mvT hZ (hw _ (List.mem_of_getElem? (i := 4) rfl))) (mvT hZ (hw _ (List.mem_of_getElem? (i := 5) rfl))) (mvT hZ (hw _ (List.mem_of_getElem? (i := 6) rfl))) (by decide) (StrChars.Road.backV (W := 1) hZ hws (kI := 4) (hw _ (List.mem_of_getElem? (i := 2) rfl)) (cs := ([(100 : Int32), (111 : Int32), (99 : Int32), (107 : Int32), (101 : Int32), (c0 &&& (255 : Int32)), (46 : Int32), (105 : Int32), (111 : Int32)] : List Int32)) (bs := (([(100 : Int32), (111 : Int32), (99 : Int32), (107 : Int32), (101 : Int32), (c0 &&& (255 : Int32)), (46 : Int32), (105 : Int32), (111 : Int32)] : List Int32)).map (fun c => c.toInt8.toInt32)) (n := 9) g_b280 (Nat.le_trans Z0 K282.1) A280 F280_value F280_coder V7 (S_C.ext O0.2) hcs rfl rfl (by decide) (by decide) hp284 rfl (by decide) (by decide)) (g := (mkF m 152 #[.val (.int mode), .val (.int pos), .val (.int c0), .val (.int c1), .val (.int c2), .val (.int (mode &&& (7 : Int32))), .val (.int (c0 &&& (255 : Int32))), .val (.int (c1 &&& (255 : Int32))), .val (.int (c2 &&& (255 : Int32))), .val (.ref b7), .unset, .val (.int (0 : Int32)), .val (.int (5 : Int32)), .unset] [(.ref b7), (.ref b280), (.ref b280)])) rfl (by rw [hml]; rfl) (Steps.refl _) (a := b280) (argsL := [(.ref b7)]) (rest := [(.ref b280)]) (lenOf pd_3 rfl) rfl (by show 2 * 0 + _ ≤ _; exact Nat.le_of_eq rfl) (hb hby at_152) (fun _ _ => ⟨rfl, e280, (by decide : 2 + 1 ≤ _), (by decide : 13 + 9 ≤ _)⟩)
          dsimp only [Pt.U, Pt.locs, Pt.cells, Pt.slots] at X283 l283 y283 z283 st283 hQ283
          subst l283 y283 z283
          obtain ⟨rfl, N283q, KK283, EE283, FC283, t283, kb283, gt283, szt283, netx283, FV283, VV283⟩ := hQ283
          have N283 := Fr.app N277 N283q
          have SS283 : own_Str Z T283.heap b280 t283 ([(100 : Int32), (111 : Int32), (99 : Int32), (107 : Int32), (101 : Int32), (c0 &&& (255 : Int32)), (46 : Int32), (105 : Int32), (111 : Int32)] : List Int32) := ⟨_, _, _, _, EE283, FV283, FC283, VV283, StrChars.Road.codOf (n := 9) rfl (fun c hc => (hp284 c hc).2), own_up _ hp284, Nat.le_of_ble_eq_true rfl⟩
          have sz_t283 : h0.size ≤ t283 := Nat.le_trans K282.1 szt283
          have ne285 : b7 ≠ t283 := Nat.ne_of_lt (Nat.lt_of_lt_of_le V7.lt szt283)
          have ne286 : b280 ≠ t283 := Nat.ne_of_lt (Nat.lt_of_lt_of_le A280.lt szt283)
          have S_t283 := Safe.new (Z := Z) (EL := consts_1) (vm := s.vm) szt283
          have hs287 : ∀ x ∈ [b280], Safe Z consts_1 s.vm h280 x := (sfS S_b280 sf0)
          replace S_b7 := Safe.keep KK283 hs287 CH S_b7
          replace S_b280 := Safe.keep KK283 hs287 CH S_b280
          replace S_t283 := Safe.keep KK283 hs287 CH S_t283
          replace CR := CR.trans (CHr.keep KK283 hs287 CH)
          replace CH := CHv.keep KK283 hs287 CH
          replace hk := Nat.le_trans hk KK283.1
          replace O0 := O0.keep KK283 (allS g_b280 (all0))
          replace V7 := V7.keep KK283 (ninS ne281 nin0)
          replace A280 := A280.keep KK283
          have K288 := K282.trans KK283 (allS (Or.inr sz_b280) all0)
          refine own_go (fun _ kk_ => st283.trans kk_) ?_
          refine own_go (fun _ kk_ => XS.astore X283.here hx rfl (hb hby at_155) rfl rfl (l' := #[.val (.int mode), .val (.int pos), .val (.int c0), .val (.int c1), .val (.int c2), .val (.int (mode &&& (7 : Int32))), .val (.int (c0 &&& (255 : Int32))), .val (.int (c1 &&& (255 : Int32))), .val (.int (c2 &&& (255 : Int32))), .val (.ref b7), .val (.ref b280), .val (.int (0 : Int32)), .val (.int (5 : Int32)), .unset]) rfl kk_) ?_
          refine own_go (fun _ kk_ => XS.goto X283.here hx rfl (pc0 := 157) (pc' := 397) rfl (hb hby at_157) (by decide) (by decide) kk_) ?_
          refine own_go (fun _ kk_ => XS.iload X283.here hx rfl (hb hby at_397) rfl kk_) ?_
          show own_Fin p.tables e below _ (T283.setTop (mkF m 399 #[.val (.int mode), .val (.int pos), .val (.int c0), .val (.int c1), .val (.int c2), .val (.int (mode &&& (7 : Int32))), .val (.int (c0 &&& (255 : Int32))), .val (.int (c1 &&& (255 : Int32))), .val (.int (c2 &&& (255 : Int32))), .val (.ref b7), .val (.ref b280), .val (.int (0 : Int32)), .val (.int (5 : Int32)), .unset] [(.int (0 : Int32))]))
          refine own_go (fun _ kk_ => XS.ifYes X283.here hx rfl (pc0 := 399) (pc' := 407) rfl (hb hby at_399) rfl ((if0 _ _).trans (teq (by decide : (0 : Int32) = (0 : Int32))).1) (by decide) (by decide) kk_) ?_
          refine own_go (fun _ kk_ => XS.aload X283.here hx rfl (hb hby at_407) rfl rfl kk_) ?_
          refine own_go (fun _ kk_ => XS.astore X283.here hx rfl (hb hby at_409) rfl rfl (l' := #[.val (.int mode), .val (.int pos), .val (.int c0), .val (.int c1), .val (.int c2), .val (.int (mode &&& (7 : Int32))), .val (.int (c0 &&& (255 : Int32))), .val (.int (c1 &&& (255 : Int32))), .val (.int (c2 &&& (255 : Int32))), .val (.ref b7), .val (.ref b280), .val (.int (0 : Int32)), .val (.ref b280), .unset]) rfl kk_) ?_
          refine own_go (fun _ kk_ => XS.aload X283.here hx rfl (hb hby at_411) rfl rfl kk_) ?_
          show own_Fin p.tables e below _ (T283.setTop (mkF m 413 #[.val (.int mode), .val (.int pos), .val (.int c0), .val (.int c1), .val (.int c2), .val (.int (mode &&& (7 : Int32))), .val (.int (c0 &&& (255 : Int32))), .val (.int (c1 &&& (255 : Int32))), .val (.int (c2 &&& (255 : Int32))), .val (.ref b7), .val (.ref b280), .val (.int (0 : Int32)), .val (.ref b280), .unset] [(.ref b280)]))
          obtain ⟨_, _, ⟨T289, L289, k289, n289⟩, -, X289, hSn289, hgr289, ⟨Lc289, hQ289, l289, y289, z289, CR289⟩, st289⟩ := callSS X283 hx (y := (⟨"com/example/laminate/laminate/core/DefaultRegistry", "credentialsKey", "(Ljava/lang/String;)Ljava/lang/String;"⟩ : MethodName)) hown (mvT hZ (hw _ (List.mem_of_getElem? (i := 33) rfl))) (mvT hZ (hw _ (List.mem_of_getElem? (i := 34) rfl))) (mvT hZ (hw _ (List.mem_of_getElem? (i := 35) rfl))) (mvT hZ (hw _ (List.mem_of_getElem? (i := 36) rfl))) (by decide) (backOfSH (s := s) (W := 0) (rm_ck l Z a0 hw [] hEL b280 t283 ([(100 : Int32), (111 : Int32), (99 : Int32), (107 : Int32), (101 : Int32), (c0 &&& (255 : Int32)), (46 : Int32), (105 : Int32), (111 : Int32)] : List Int32) gc T283.heap n0 (Nat.le_trans Z0 K288.1) SS283 S_C hcs O0) hZ (hw _ (List.mem_of_getElem? (i := 36) rfl)) (hw _ (List.mem_of_getElem? (i := 35) rfl)) (by decide) (by decide) hEL CH) (g := (mkF m 413 #[.val (.int mode), .val (.int pos), .val (.int c0), .val (.int c1), .val (.int c2), .val (.int (mode &&& (7 : Int32))), .val (.int (c0 &&& (255 : Int32))), .val (.int (c1 &&& (255 : Int32))), .val (.int (c2 &&& (255 : Int32))), .val (.ref b7), .val (.ref b280), .val (.int (0 : Int32)), .val (.ref b280), .unset] [(.ref b280)])) rfl (by rw [hml]; rfl) (argsL := [(.ref b280)]) (rest := []) (lenOf pd_4 rfl) rfl (by show 2 * 0 + _ ≤ _; exact Nat.le_of_eq rfl) (hb hby at_413) (fun _ _ => ⟨rfl, rfl, (by decide : 3 + 4 ≤ _), (by decide : 22 + 152 ≤ _)⟩)
          dsimp only [Pt.U, Pt.locs, Pt.cells, Pt.slots] at X289 l289 y289 z289 st289 hQ289 hSn289 hgr289 CR289
          subst l289 y289 z289
          replace hS := foldS hS hk hSn289 hgr289
          replace hk : T289.heap.size ≤ T289.heap.size := Nat.le_refl _
          replace hZ : Z.Warmed39 (s.setVm T289.vm).vm := State.Warmed39.trans (t := s.setVm s.vm) hZ hSn289.1
          replace hown : (s.setVm T289.vm).vm.findClass "com/example/laminate/laminate/core/DefaultRegistryCredentialsKeyPinLaw" = some m.cls := by rw [show (s.setVm T289.vm).vm = T289.vm from rfl, hSn289.1.alike.findClass]; exact hown
          replace X289 : Stand p l e room_1 (s.setVm T289.vm) m #[(.int mode), (.int pos), (.int c0), (.int c1), (.int c2)] below meth c T289 _ _ _ := X289
          replace S_b7 := CR289.safe V7.lt S_b7
          replace S_b280 := CR289.safe SS283.lt S_b280
          replace S_t283 := CR289.safe SS283.ltt S_t283
          replace CR := CR.trans CR289
          replace CH := CR289.1
          obtain ⟨N289q, KK289, hy289, hn289⟩ := hQ289
          have N289 := Fr.app N283 N289q
          obtain rfl := hn289 (by simp; exact fun q => hc253 q.symm)
          replace O0 := O0.keep KK289 all0
          replace V7 := V7.keep KK289 nin0
          replace SS283 := SS283.keep KK289 nin0 nin0
          have K290 := K288.trans KK289 all0
          refine own_go (fun _ kk_ => st289.trans kk_) ?_
          refine own_go (fun _ kk_ => XS.astore X289.here hx rfl (hb hby at_416) rfl rfl (l' := #[.val (.int mode), .val (.int pos), .val (.int c0), .val (.int c1), .val (.int c2), .val (.int (mode &&& (7 : Int32))), .val (.int (c0 &&& (255 : Int32))), .val (.int (c1 &&& (255 : Int32))), .val (.int (c2 &&& (255 : Int32))), .val (.ref b7), .val (.ref b280), .val (.int (0 : Int32)), .val (.ref b280), .val (.ref b280)]) rfl kk_) ?_
          refine own_go (fun _ kk_ => XS.aload X289.here hx rfl (hb hby at_418) rfl rfl kk_) ?_
          refine own_go (fun _ kk_ => XS.aload X289.here hx rfl (hb hby at_420) rfl rfl kk_) ?_
          show own_Fin p.tables e below _ (T289.setTop (mkF m 422 #[.val (.int mode), .val (.int pos), .val (.int c0), .val (.int c1), .val (.int c2), .val (.int (mode &&& (7 : Int32))), .val (.int (c0 &&& (255 : Int32))), .val (.int (c1 &&& (255 : Int32))), .val (.int (c2 &&& (255 : Int32))), .val (.ref b7), .val (.ref b280), .val (.int (0 : Int32)), .val (.ref b280), .val (.ref b280)] [(.ref b280), (.ref b280)]))
          obtain ⟨cq291, kq291, qa291, qb291, qc291⟩ := isOf hZ rfl SS283.exa
          obtain ⟨_, _, ⟨T291, L291, k291, n291⟩, -, X291, ⟨Lc291, hQ291, l291, y291, z291⟩, st291⟩ := X289.virtualBack hx (y := (⟨"java/lang/String", "equals", "(Ljava/lang/Object;)Z"⟩ : MethodName)) (z := (⟨"java/lang/String", "equals", "(Ljava/lang/Object;)Z"⟩ : MethodName)) hown (mvT hZ (hw _ (List.mem_of_getElem? (i := 49) rfl))) (mvT hZ (hw _ (List.mem_of_getElem? (i := 39) rfl))) (own_notface (args := #[]) (mvT hZ (hw _ (List.mem_of_getElem? (i := 41) rfl))) rfl) (mvT hZ (hw _ (List.mem_of_getElem? (i := 41) rfl))) (mvT hZ (hw _ (List.mem_of_getElem? (i := 40) rfl))) (by decide) (own_eqB (W := 0) hZ heq (hw _ (List.mem_of_getElem? (i := 2) rfl)) SS283 SS283 (S_C.ext O0.2) hcs (by decide) (by decide)) qa291 qc291 (g := (mkF m 422 #[.val (.int mode), .val (.int pos), .val (.int c0), .val (.int c1), .val (.int c2), .val (.int (mode &&& (7 : Int32))), .val (.int (c0 &&& (255 : Int32))), .val (.int (c1 &&& (255 : Int32))), .val (.int (c2 &&& (255 : Int32))), .val (.ref b7), .val (.ref b280), .val (.int (0 : Int32)), .val (.ref b280), .val (.ref b280)] [(.ref b280), (.ref b280)])) rfl (by rw [hml]; rfl) (Steps.refl _) (argsL := [(.ref b280)]) (rest := []) (lenOf pd_1 rfl) rfl (by show 2 * 0 + _ ≤ _; exact Nat.le_of_eq rfl) (hb hby at_422) (fun _ _ => ⟨rfl, rfl, (by decide : 7 + 0 ≤ _), (by decide : 174 + 0 ≤ _)⟩)
          dsimp only [Pt.U, Pt.locs, Pt.cells, Pt.slots] at X291 l291 y291 z291 st291 hQ291
          subst l291 y291 z291
          obtain ⟨hq291, rfl, e291⟩ := hQ291
          obtain ⟨z291, rfl, hz291⟩ := own_eqv hq291
          have N291 := Fr.app N289 (Fr.nil n0)
          obtain rfl : z291 = 1 := hz291.elim (fun q => q.1) (fun q => absurd rfl q.2)
          refine own_go (fun _ kk_ => st291.trans kk_) ?_
          show own_Fin p.tables e below _ (T291.setTop (mkF m 425 #[.val (.int mode), .val (.int pos), .val (.int c0), .val (.int c1), .val (.int c2), .val (.int (mode &&& (7 : Int32))), .val (.int (c0 &&& (255 : Int32))), .val (.int (c1 &&& (255 : Int32))), .val (.int (c2 &&& (255 : Int32))), .val (.ref b7), .val (.ref b280), .val (.int (0 : Int32)), .val (.ref b280), .val (.ref b280)] [(.int (1 : Int32))]))
          have CRz : CHr Z consts_1 s.vm s.heap T291.vm T291.heap := by
            rw [hh, e291]
            exact CR.trans (CHv.at X291 hZ hEL CH)
          refine own_retW X291 hx Bd hS (show _ ≤ T291.heap.size by rw [e291]; exact hk) (t := .boolean) Bd.returns rfl (Or.inl ⟨rfl, by simp, _, rfl⟩) (hb hby at_425) CRz ?_ (by decide) (by decide)
          show (Q_rm_law Z mode pos c0 c1 c2 gc h0 n0) (some (.int (1 : Int32))) T291.heap _
          rw [e291]
          exact ⟨rfl, N291⟩
      · skip
        show own_Fin p.tables e below _ (T33.setTop (mkF m 122 #[.val (.int mode), .val (.int pos), .val (.int c0), .val (.int c1), .val (.int c2), .val (.int (mode &&& (7 : Int32))), .val (.int (c0 &&& (255 : Int32))), .val (.int (c1 &&& (255 : Int32))), .val (.int (c2 &&& (255 : Int32))), .val (.ref b7), .unset, .unset, .val (.int ((pos &&& (2147483647 : Int32)) % (9 : Int32))), .unset] []))
        rw [hs9]
        refine own_go (fun _ kk_ => XS.aload X33.here hx rfl (hb hby at_122) rfl rfl kk_) ?_
        refine own_go (fun _ kk_ => XS.iload X33.here hx rfl (hb hby at_124) rfl kk_) ?_
        show own_Fin p.tables e below _ (T33.setTop (mkF m 126 #[.val (.int mode), .val (.int pos), .val (.int c0), .val (.int c1), .val (.int c2), .val (.int (mode &&& (7 : Int32))), .val (.int (c0 &&& (255 : Int32))), .val (.int (c1 &&& (255 : Int32))), .val (.int (c2 &&& (255 : Int32))), .val (.ref b7), .unset, .unset, .val (.int (6 : Int32)), .unset] [(.int (6 : Int32)), (.ref b7)]))
        refine own_go (fun _ kk_ => own_caload X33 hx hZ e33 V7 (by decide) (v := (.int (46 : Int32))) (rfl) (g := (mkF m 126 #[.val (.int mode), .val (.int pos), .val (.int c0), .val (.int c1), .val (.int c2), .val (.int (mode &&& (7 : Int32))), .val (.int (c0 &&& (255 : Int32))), .val (.int (c1 &&& (255 : Int32))), .val (.int (c2 &&& (255 : Int32))), .val (.ref b7), .unset, .unset, .val (.int (6 : Int32)), .unset] [(.int (6 : Int32)), (.ref b7)])) rfl rfl (hb hby at_126) _ kk_) ?_
        refine own_go (fun _ kk_ => XS.iload X33.here hx rfl (hb hby at_127) rfl kk_) ?_
        show own_Fin p.tables e below _ (T33.setTop (mkF m 129 #[.val (.int mode), .val (.int pos), .val (.int c0), .val (.int c1), .val (.int c2), .val (.int (mode &&& (7 : Int32))), .val (.int (c0 &&& (255 : Int32))), .val (.int (c1 &&& (255 : Int32))), .val (.int (c2 &&& (255 : Int32))), .val (.ref b7), .unset, .unset, .val (.int (6 : Int32)), .unset] [(.int (c0 &&& (255 : Int32))), (.int (46 : Int32))]))
        by_cases hc292 : (46 : Int32) = (c0 &&& (255 : Int32))
        · skip
          refine own_go (fun _ kk_ => XS.icmpNo X33.here hx rfl (hb hby at_129) rfl (teq hc292).2 kk_) ?_
          refine own_go (fun _ kk_ => XS.iconst X33.here hx rfl (hb hby at_132) kk_) ?_
          refine own_go (fun _ kk_ => XS.goto X33.here hx rfl (pc0 := 133) (pc' := 137) rfl (hb hby at_133) (by decide) (by decide) kk_) ?_
          refine own_go (fun _ kk_ => XS.istore X33.here hx rfl (hb hby at_137) rfl (l' := #[.val (.int mode), .val (.int pos), .val (.int c0), .val (.int c1), .val (.int c2), .val (.int (mode &&& (7 : Int32))), .val (.int (c0 &&& (255 : Int32))), .val (.int (c1 &&& (255 : Int32))), .val (.int (c2 &&& (255 : Int32))), .val (.ref b7), .unset, .val (.int (1 : Int32)), .val (.int (6 : Int32)), .unset]) rfl kk_) ?_
          refine own_go (fun _ kk_ => XS.aload X33.here hx rfl (hb hby at_139) rfl rfl kk_) ?_
          refine own_go (fun _ kk_ => XS.iload X33.here hx rfl (hb hby at_141) rfl kk_) ?_
          refine own_go (fun _ kk_ => XS.iload X33.here hx rfl (hb hby at_143) rfl kk_) ?_
          show own_Fin p.tables e below _ (T33.setTop (mkF m 145 #[.val (.int mode), .val (.int pos), .val (.int c0), .val (.int c1), .val (.int c2), .val (.int (mode &&& (7 : Int32))), .val (.int (c0 &&& (255 : Int32))), .val (.int (c1 &&& (255 : Int32))), .val (.int (c2 &&& (255 : Int32))), .val (.ref b7), .unset, .val (.int (1 : Int32)), .val (.int (6 : Int32)), .unset] [(.int (c0 &&& (255 : Int32))), (.int (6 : Int32)), (.ref b7)]))
          obtain ⟨T293, h293, X293, e293, W293, V293, st293⟩ := own_stC X33 hx hZ e33 V7 (by decide) (i := 6) rfl (Nat.le_of_ble_eq_true rfl) (g := (mkF m 145 #[.val (.int mode), .val (.int pos), .val (.int c0), .val (.int c1), .val (.int c2), .val (.int (mode &&& (7 : Int32))), .val (.int (c0 &&& (255 : Int32))), .val (.int (c1 &&& (255 : Int32))), .val (.int (c2 &&& (255 : Int32))), .val (.ref b7), .unset, .val (.int (1 : Int32)), .val (.int (6 : Int32)), .unset] [(.int (c0 &&& (255 : Int32))), (.int (6 : Int32)), (.ref b7)])) rfl rfl (hb hby at_145)
          rw [own_nar255] at V293
          replace V7 : Arv Z h293 b7 k7 .char (9 : Int32) [(.int (100 : Int32)), (.int (111 : Int32)), (.int (99 : Int32)), (.int (107 : Int32)), (.int (101 : Int32)), (.int (114 : Int32)), (.int (c0 &&& (255 : Int32))), (.int (105 : Int32)), (.int (111 : Int32))] (.int (0 : Int32)) := V293
          have N293 := Fr.snoc X293 N33 g_b7
          refine own_go st293 ?_
          have sa294 := S_b7
          replace S_b7 := Safe.wr W293 sa294 CH S_b7
          replace CR := CR.trans (CHr.wr W293 sa294 CH)
          replace CH := CHv.wr W293 sa294 CH
          replace hk := Nat.le_trans hk (Keep.of_wr W293).1
          replace O0 := O0.wr W293 g_b7
          have K295 := K35.wr W293 (Or.inr sz_b7)
          show own_Fin p.tables e below _ (T293.setTop (mkF m 146 #[.val (.int mode), .val (.int pos), .val (.int c0), .val (.int c1), .val (.int c2), .val (.int (mode &&& (7 : Int32))), .val (.int (c0 &&& (255 : Int32))), .val (.int (c1 &&& (255 : Int32))), .val (.int (c2 &&& (255 : Int32))), .val (.ref b7), .unset, .val (.int (1 : Int32)), .val (.int (6 : Int32)), .unset] []))
          obtain ⟨T296, h296, X296, e296, E296, A296, D296, -, st296⟩ := newO X293 hx hZ hown (hw _ (List.mem_of_getElem? (i := 1) rfl)) (hw _ (List.mem_of_getElem? (i := 2) rfl)) (hw _ (List.mem_of_getElem? (i := 3) rfl)) e293 (g := (mkF m 146 #[.val (.int mode), .val (.int pos), .val (.int c0), .val (.int c1), .val (.int c2), .val (.int (mode &&& (7 : Int32))), .val (.int (c0 &&& (255 : Int32))), .val (.int (c1 &&& (255 : Int32))), .val (.int (c2 &&& (255 : Int32))), .val (.ref b7), .unset, .val (.int (1 : Int32)), .val (.int (6 : Int32)), .unset] [])) rfl (hb hby at_146) (by decide) (by decide)
          obtain ⟨b296, g296⟩ : ∃ z, z = h293.size := ⟨_, rfl⟩
          rw [← g296] at A296 D296 st296
          have sz_b296 : h0.size ≤ b296 := Nat.le_trans K295.1 (Nat.le_of_eq g296.symm)
          have g_b296 : n0 ≤ b296 := Nat.le_trans Z0 sz_b296
          have ne297 : b7 ≠ b296 := Nat.ne_of_lt (Nat.lt_of_lt_of_le V7.lt (Nat.le_of_eq g296.symm))
          have S_b296 := Safe.new (Z := Z) (EL := consts_1) (vm := s.vm) (Nat.le_of_eq g296.symm)
          replace S_b7 := Safe.ext E296 CH S_b7
          replace S_b296 := Safe.ext E296 CH S_b296
          replace CR := CR.trans (CHr.ext E296 CH)
          replace CH := CH.ext E296
          replace hk := Nat.le_trans hk E296.1
          replace O0 := O0.ext E296
          replace V7 := V7.ext E296
          have K298 := K295.ext E296
          have F296_coder : Fld Z h296 b296 "java/lang/String" "coder" "B" (.int (0 : Int32)) := D296 (Or.inr (hw _ (List.mem_of_getElem? (i := 27) rfl))) (ty := .byte) (by decide)
          have F296_value : Fld Z h296 b296 "java/lang/String" "value" "[B" .null := D296 (Or.inr (hw _ (List.mem_of_getElem? (i := 29) rfl))) (ty := (.array .byte)) (by decide)
          refine own_go st296 ?_
          refine own_go (fun _ kk_ => XS.dup X296.here hx rfl (hb hby at_149) rfl rfl kk_) ?_
          refine own_go (fun _ kk_ => XS.aload X296.here hx rfl (hb hby at_150) rfl rfl kk_) ?_
          show own_Fin p.tables e below _ (T296.setTop (mkF m 152 #[.val (.int mode), .val (.int pos), .val (.int c0), .val (.int c1), .val (.int c2), .val (.int (mode &&& (7 : Int32))), .val (.int (c0 &&& (255 : Int32))), .val (.int (c1 &&& (255 : Int32))), .val (.int (c2 &&& (255 : Int32))), .val (.ref b7), .unset, .val (.int (1 : Int32)), .val (.int (6 : Int32)), .unset] [(.ref b7), (.ref b296), (.ref b296)]))
          have hp300 : ∀ c ∈ ([(100 : Int32), (111 : Int32), (99 : Int32), (107 : Int32), (101 : Int32), (114 : Int32), (c0 &&& (255 : Int32)), (105 : Int32), (111 : Int32)] : List Int32), ¬ c < 0 ∧ ¬ (255 : Int32) < c := by
            intro c hc
            simp only [List.mem_cons, List.not_mem_nil, or_false] at hc
            rcases hc with rfl | rfl | rfl | rfl | rfl | rfl | rfl | rfl | rfl
            · exact by decide
            · exact by decide
            · exact by decide
            · exact by decide
            · exact by decide
            · exact by decide
            · exact own_and255 _
            · exact by decide
            · exact by decide
          obtain ⟨_, _, ⟨T299, L299, k299, n299⟩, -, X299, ⟨Lc299, hQ299, l299, y299, z299⟩, st299⟩ := X296.specialBack hx (y := (⟨"java/lang/String", "<init>", "([C)V"⟩ : MethodName)) rfl hown (mvT hZ (hw _ (List.mem_of_getElem? (i := 4) rfl))) (mvT hZ (hw _ (List.mem_of_getElem? (i := 5) rfl))) (mvT hZ (hw _ (List.mem_of_getElem? (i := 6) rfl))) (by decide) (StrChars.Road.backV (W := 1) hZ hws (kI := 4) (hw _ (List.mem_of_getElem? (i := 2) rfl)) (cs := ([(100 : Int32), (111 : Int32), (99 : Int32), (107 : Int32), (101 : Int32), (114 : Int32), (c0 &&& (255 : Int32)), (105 : Int32), (111 : Int32)] : List Int32)) (bs := (([(100 : Int32), (111 : Int32), (99 : Int32), (107 : Int32), (101 : Int32), (114 : Int32), (c0 &&& (255 : Int32)), (105 : Int32), (111 : Int32)] : List Int32)).map (fun c => c.toInt8.toInt32)) (n := 9) g_b296 (Nat.le_trans Z0 K298.1) A296 F296_value F296_coder V7 (S_C.ext O0.2) hcs rfl rfl (by decide) (by decide) hp300 rfl (by decide) (by decide)) (g := (mkF m 152 #[.val (.int mode), .val (.int pos), .val (.int c0), .val (.int c1), .val (.int c2), .val (.int (mode &&& (7 : Int32))), .val (.int (c0 &&& (255 : Int32))), .val (.int (c1 &&& (255 : Int32))), .val (.int (c2 &&& (255 : Int32))), .val (.ref b7), .unset, .val (.int (1 : Int32)), .val (.int (6 : Int32)), .unset] [(.ref b7), (.ref b296), (.ref b296)])) rfl (by rw [hml]; rfl) (Steps.refl _) (a := b296) (argsL := [(.ref b7)]) (rest := [(.ref b296)]) (lenOf pd_3 rfl) rfl (by show 2 * 0 + _ ≤ _; exact Nat.le_of_eq rfl) (hb hby at_152) (fun _ _ => ⟨rfl, e296, (by decide : 2 + 1 ≤ _), (by decide : 13 + 9 ≤ _)⟩)
          dsimp only [Pt.U, Pt.locs, Pt.cells, Pt.slots] at X299 l299 y299 z299 st299 hQ299
          subst l299 y299 z299
          obtain ⟨rfl, N299q, KK299, EE299, FC299, t299, kb299, gt299, szt299, netx299, FV299, VV299⟩ := hQ299
          have N299 := Fr.app N293 N299q
          have SS299 : own_Str Z T299.heap b296 t299 ([(100 : Int32), (111 : Int32), (99 : Int32), (107 : Int32), (101 : Int32), (114 : Int32), (c0 &&& (255 : Int32)), (105 : Int32), (111 : Int32)] : List Int32) := ⟨_, _, _, _, EE299, FV299, FC299, VV299, StrChars.Road.codOf (n := 9) rfl (fun c hc => (hp300 c hc).2), own_up _ hp300, Nat.le_of_ble_eq_true rfl⟩
          have sz_t299 : h0.size ≤ t299 := Nat.le_trans K298.1 szt299
          have ne301 : b7 ≠ t299 := Nat.ne_of_lt (Nat.lt_of_lt_of_le V7.lt szt299)
          have ne302 : b296 ≠ t299 := Nat.ne_of_lt (Nat.lt_of_lt_of_le A296.lt szt299)
          have S_t299 := Safe.new (Z := Z) (EL := consts_1) (vm := s.vm) szt299
          have hs303 : ∀ x ∈ [b296], Safe Z consts_1 s.vm h296 x := (sfS S_b296 sf0)
          replace S_b7 := Safe.keep KK299 hs303 CH S_b7
          replace S_b296 := Safe.keep KK299 hs303 CH S_b296
          replace S_t299 := Safe.keep KK299 hs303 CH S_t299
          replace CR := CR.trans (CHr.keep KK299 hs303 CH)
          replace CH := CHv.keep KK299 hs303 CH
          replace hk := Nat.le_trans hk KK299.1
          replace O0 := O0.keep KK299 (allS g_b296 (all0))
          replace V7 := V7.keep KK299 (ninS ne297 nin0)
          replace A296 := A296.keep KK299
          have K304 := K298.trans KK299 (allS (Or.inr sz_b296) all0)
          refine own_go (fun _ kk_ => st299.trans kk_) ?_
          refine own_go (fun _ kk_ => XS.astore X299.here hx rfl (hb hby at_155) rfl rfl (l' := #[.val (.int mode), .val (.int pos), .val (.int c0), .val (.int c1), .val (.int c2), .val (.int (mode &&& (7 : Int32))), .val (.int (c0 &&& (255 : Int32))), .val (.int (c1 &&& (255 : Int32))), .val (.int (c2 &&& (255 : Int32))), .val (.ref b7), .val (.ref b296), .val (.int (1 : Int32)), .val (.int (6 : Int32)), .unset]) rfl kk_) ?_
          refine own_go (fun _ kk_ => XS.goto X299.here hx rfl (pc0 := 157) (pc' := 397) rfl (hb hby at_157) (by decide) (by decide) kk_) ?_
          refine own_go (fun _ kk_ => XS.iload X299.here hx rfl (hb hby at_397) rfl kk_) ?_
          show own_Fin p.tables e below _ (T299.setTop (mkF m 399 #[.val (.int mode), .val (.int pos), .val (.int c0), .val (.int c1), .val (.int c2), .val (.int (mode &&& (7 : Int32))), .val (.int (c0 &&& (255 : Int32))), .val (.int (c1 &&& (255 : Int32))), .val (.int (c2 &&& (255 : Int32))), .val (.ref b7), .val (.ref b296), .val (.int (1 : Int32)), .val (.int (6 : Int32)), .unset] [(.int (1 : Int32))]))
          refine own_go (fun _ kk_ => XS.ifNo X299.here hx rfl (hb hby at_399) rfl ((if0 _ _).trans (feq (by decide : ¬ (1 : Int32) = (0 : Int32))).1) kk_) ?_
          show own_Fin p.tables e below _ (T299.setTop (mkF m 402 #[.val (.int mode), .val (.int pos), .val (.int c0), .val (.int c1), .val (.int c2), .val (.int (mode &&& (7 : Int32))), .val (.int (c0 &&& (255 : Int32))), .val (.int (c1 &&& (255 : Int32))), .val (.int (c2 &&& (255 : Int32))), .val (.ref b7), .val (.ref b296), .val (.int (1 : Int32)), .val (.int (6 : Int32)), .unset] []))
          obtain ⟨a305, T305, h305, k305, tb305, kb305, X305, e305, E305, hS, hk, hZ, hown, EA305, FC305, FV305, VB305, -, -, CR305, -, NE305, st305⟩ := ldcCH X299 hx hZ hown (hw _ (List.mem_of_getElem? (i := 30) rfl)) wS rfl hS hk hEL (by decide) CH (vs := ((([(104 : Int32), (116 : Int32), (116 : Int32), (112 : Int32), (115 : Int32), (58 : Int32), (47 : Int32), (47 : Int32), (105 : Int32), (110 : Int32), (100 : Int32), (101 : Int32), (120 : Int32), (46 : Int32), (100 : Int32), (111 : Int32), (99 : Int32), (107 : Int32), (101 : Int32), (114 : Int32), (46 : Int32), (105 : Int32), (111 : Int32), (47 : Int32), (118 : Int32), (49 : Int32), (47 : Int32)] : List Int32).map (fun c => c.toInt8.toInt32)).map Value.int)) (z := (27 : Int32)) (by exact ⟨by decide, by decide⟩) (by decide) rfl (g := (mkF m 402 #[.val (.int mode), .val (.int pos), .val (.int c0), .val (.int c1), .val (.int c2), .val (.int (mode &&& (7 : Int32))), .val (.int (c0 &&& (255 : Int32))), .val (.int (c1 &&& (255 : Int32))), .val (.int (c2 &&& (255 : Int32))), .val (.ref b7), .val (.ref b296), .val (.int (1 : Int32)), .val (.int (6 : Int32)), .unset] [])) rfl (hb hby at_402) (n := 108) (by decide) (by decide) (by decide) (by decide)
          replace S_b7 := CR305.safe V7.lt S_b7
          replace S_b296 := CR305.safe SS299.lt S_b296
          replace S_t299 := CR305.safe SS299.ltt S_t299
          replace CR := CR.trans CR305
          replace CH := CR305.1
          replace O0 := O0.ext E305
          replace V7 := V7.ext E305
          replace SS299 := SS299.ext E305
          have K306 := K304.ext E305
          have ne307 : b7 ≠ a305 := (NE305 _ S_b7).1
          have ne308 : b7 ≠ tb305 := (NE305 _ S_b7).2
          have ne309 : b296 ≠ a305 := (NE305 _ S_b296).1
          have ne310 : b296 ≠ tb305 := (NE305 _ S_b296).2
          have ne311 : t299 ≠ a305 := (NE305 _ S_t299).1
          have ne312 : t299 ≠ tb305 := (NE305 _ S_t299).2
          have SS305 : own_Str Z h305 a305 tb305 ([(104 : Int32), (116 : Int32), (116 : Int32), (112 : Int32), (115 : Int32), (58 : Int32), (47 : Int32), (47 : Int32), (105 : Int32), (110 : Int32), (100 : Int32), (101 : Int32), (120 : Int32), (46 : Int32), (100 : Int32), (111 : Int32), (99 : Int32), (107 : Int32), (101 : Int32), (114 : Int32), (46 : Int32), (105 : Int32), (111 : Int32), (47 : Int32), (118 : Int32), (49 : Int32), (47 : Int32)] : List Int32) := ⟨_, _, _, _, EA305, FV305, FC305, VB305, StrChars.Road.codOf (n := 27) rfl (by decide), by decide, Nat.le_of_ble_eq_true rfl⟩
          refine own_go st305 ?_
          refine own_go (fun _ kk_ => XS.goto X305.here hx rfl (pc0 := 404) (pc' := 409) rfl (hb hby at_404) (by decide) (by decide) kk_) ?_
          refine own_go (fun _ kk_ => XS.astore X305.here hx rfl (hb hby at_409) rfl rfl (l' := #[.val (.int mode), .val (.int pos), .val (.int c0), .val (.int c1), .val (.int c2), .val (.int (mode &&& (7 : Int32))), .val (.int (c0 &&& (255 : Int32))), .val (.int (c1 &&& (255 : Int32))), .val (.int (c2 &&& (255 : Int32))), .val (.ref b7), .val (.ref b296), .val (.int (1 : Int32)), .val (.ref a305), .unset]) rfl kk_) ?_
          refine own_go (fun _ kk_ => XS.aload X305.here hx rfl (hb hby at_411) rfl rfl kk_) ?_
          show own_Fin p.tables e below _ (T305.setTop (mkF m 413 #[.val (.int mode), .val (.int pos), .val (.int c0), .val (.int c1), .val (.int c2), .val (.int (mode &&& (7 : Int32))), .val (.int (c0 &&& (255 : Int32))), .val (.int (c1 &&& (255 : Int32))), .val (.int (c2 &&& (255 : Int32))), .val (.ref b7), .val (.ref b296), .val (.int (1 : Int32)), .val (.ref a305), .unset] [(.ref b296)]))
          obtain ⟨_, _, ⟨T313, L313, k313, n313⟩, -, X313, hSn313, hgr313, ⟨Lc313, hQ313, l313, y313, z313, CR313⟩, st313⟩ := callSS X305 hx (y := (⟨"com/example/laminate/laminate/core/DefaultRegistry", "credentialsKey", "(Ljava/lang/String;)Ljava/lang/String;"⟩ : MethodName)) hown (mvT hZ (hw _ (List.mem_of_getElem? (i := 33) rfl))) (mvT hZ (hw _ (List.mem_of_getElem? (i := 34) rfl))) (mvT hZ (hw _ (List.mem_of_getElem? (i := 35) rfl))) (mvT hZ (hw _ (List.mem_of_getElem? (i := 36) rfl))) (by decide) (backOfSH (s := s) (W := 0) (rm_ck l Z a0 hw [] hEL b296 t299 ([(100 : Int32), (111 : Int32), (99 : Int32), (107 : Int32), (101 : Int32), (114 : Int32), (c0 &&& (255 : Int32)), (105 : Int32), (111 : Int32)] : List Int32) gc h305 n0 (Nat.le_trans Z0 K306.1) SS299 S_C hcs O0) hZ (hw _ (List.mem_of_getElem? (i := 36) rfl)) (hw _ (List.mem_of_getElem? (i := 35) rfl)) (by decide) (by decide) hEL CH) (g := (mkF m 413 #[.val (.int mode), .val (.int pos), .val (.int c0), .val (.int c1), .val (.int c2), .val (.int (mode &&& (7 : Int32))), .val (.int (c0 &&& (255 : Int32))), .val (.int (c1 &&& (255 : Int32))), .val (.int (c2 &&& (255 : Int32))), .val (.ref b7), .val (.ref b296), .val (.int (1 : Int32)), .val (.ref a305), .unset] [(.ref b296)])) rfl (by rw [hml]; rfl) (argsL := [(.ref b296)]) (rest := []) (lenOf pd_4 rfl) rfl (by show 2 * 0 + _ ≤ _; exact Nat.le_of_eq rfl) (hb hby at_413) (fun _ _ => ⟨rfl, e305, (by decide : 5 + 4 ≤ _), (by decide : 134 + 152 ≤ _)⟩)
          dsimp only [Pt.U, Pt.locs, Pt.cells, Pt.slots] at X313 l313 y313 z313 st313 hQ313 hSn313 hgr313 CR313
          subst l313 y313 z313
          replace hS := foldS hS (show _ ≤ T305.heap.size by rw [e305]; exact hk) hSn313 hgr313
          replace hk : T313.heap.size ≤ T313.heap.size := Nat.le_refl _
          replace hZ : Z.Warmed39 (s.setVm T313.vm).vm := State.Warmed39.trans (t := s.setVm T305.vm) hZ hSn313.1
          replace hown : (s.setVm T313.vm).vm.findClass "com/example/laminate/laminate/core/DefaultRegistryCredentialsKeyPinLaw" = some m.cls := by rw [show (s.setVm T313.vm).vm = T313.vm from rfl, hSn313.1.alike.findClass]; exact hown
          replace X313 : Stand p l e room_1 (s.setVm T313.vm) m #[(.int mode), (.int pos), (.int c0), (.int c1), (.int c2)] below meth c T313 _ _ _ := X313
          replace S_b7 := CR313.safe V7.lt S_b7
          replace S_b296 := CR313.safe SS299.lt S_b296
          replace S_t299 := CR313.safe SS299.ltt S_t299
          replace CR := CR.trans CR313
          replace CH := CR313.1
          obtain ⟨N313q, KK313, hy313, hn313⟩ := hQ313
          have N313 := Fr.app N299 N313q
          obtain ⟨ra313, rb313, rfl, SR313⟩ := hy313 (by rw [← hc292])
          replace O0 := O0.keep KK313 all0
          replace V7 := V7.keep KK313 nin0
          replace SS299 := SS299.keep KK313 nin0 nin0
          replace SS305 := SS305.keep KK313 nin0 nin0
          have K314 := K306.trans KK313 all0
          refine own_go (fun _ kk_ => st313.trans kk_) ?_
          refine own_go (fun _ kk_ => XS.astore X313.here hx rfl (hb hby at_416) rfl rfl (l' := #[.val (.int mode), .val (.int pos), .val (.int c0), .val (.int c1), .val (.int c2), .val (.int (mode &&& (7 : Int32))), .val (.int (c0 &&& (255 : Int32))), .val (.int (c1 &&& (255 : Int32))), .val (.int (c2 &&& (255 : Int32))), .val (.ref b7), .val (.ref b296), .val (.int (1 : Int32)), .val (.ref a305), .val (.ref ra313)]) rfl kk_) ?_
          refine own_go (fun _ kk_ => XS.aload X313.here hx rfl (hb hby at_418) rfl rfl kk_) ?_
          refine own_go (fun _ kk_ => XS.aload X313.here hx rfl (hb hby at_420) rfl rfl kk_) ?_
          show own_Fin p.tables e below _ (T313.setTop (mkF m 422 #[.val (.int mode), .val (.int pos), .val (.int c0), .val (.int c1), .val (.int c2), .val (.int (mode &&& (7 : Int32))), .val (.int (c0 &&& (255 : Int32))), .val (.int (c1 &&& (255 : Int32))), .val (.int (c2 &&& (255 : Int32))), .val (.ref b7), .val (.ref b296), .val (.int (1 : Int32)), .val (.ref a305), .val (.ref ra313)] [(.ref ra313), (.ref a305)]))
          obtain ⟨cq315, kq315, qa315, qb315, qc315⟩ := isOf hZ rfl SS305.exa
          obtain ⟨_, _, ⟨T315, L315, k315, n315⟩, -, X315, ⟨Lc315, hQ315, l315, y315, z315⟩, st315⟩ := X313.virtualBack hx (y := (⟨"java/lang/String", "equals", "(Ljava/lang/Object;)Z"⟩ : MethodName)) (z := (⟨"java/lang/String", "equals", "(Ljava/lang/Object;)Z"⟩ : MethodName)) hown (mvT hZ (hw _ (List.mem_of_getElem? (i := 49) rfl))) (mvT hZ (hw _ (List.mem_of_getElem? (i := 39) rfl))) (own_notface (args := #[]) (mvT hZ (hw _ (List.mem_of_getElem? (i := 41) rfl))) rfl) (mvT hZ (hw _ (List.mem_of_getElem? (i := 41) rfl))) (mvT hZ (hw _ (List.mem_of_getElem? (i := 40) rfl))) (by decide) (own_eqB (W := 0) hZ heq (hw _ (List.mem_of_getElem? (i := 2) rfl)) SS305 SR313 (S_C.ext O0.2) hcs (by decide) (by decide)) qa315 qc315 (g := (mkF m 422 #[.val (.int mode), .val (.int pos), .val (.int c0), .val (.int c1), .val (.int c2), .val (.int (mode &&& (7 : Int32))), .val (.int (c0 &&& (255 : Int32))), .val (.int (c1 &&& (255 : Int32))), .val (.int (c2 &&& (255 : Int32))), .val (.ref b7), .val (.ref b296), .val (.int (1 : Int32)), .val (.ref a305), .val (.ref ra313)] [(.ref ra313), (.ref a305)])) rfl (by rw [hml]; rfl) (Steps.refl _) (argsL := [(.ref ra313)]) (rest := []) (lenOf pd_1 rfl) rfl (by show 2 * 0 + _ ≤ _; exact Nat.le_of_eq rfl) (hb hby at_422) (fun _ _ => ⟨rfl, rfl, (by decide : 9 + 0 ≤ _), (by decide : 286 + 0 ≤ _)⟩)
          dsimp only [Pt.U, Pt.locs, Pt.cells, Pt.slots] at X315 l315 y315 z315 st315 hQ315
          subst l315 y315 z315
          obtain ⟨hq315, rfl, e315⟩ := hQ315
          obtain ⟨z315, rfl, hz315⟩ := own_eqv hq315
          have N315 := Fr.app N313 (Fr.nil n0)
          obtain rfl : z315 = 1 := hz315.elim (fun q => q.1) (fun q => absurd rfl q.2)
          refine own_go (fun _ kk_ => st315.trans kk_) ?_
          show own_Fin p.tables e below _ (T315.setTop (mkF m 425 #[.val (.int mode), .val (.int pos), .val (.int c0), .val (.int c1), .val (.int c2), .val (.int (mode &&& (7 : Int32))), .val (.int (c0 &&& (255 : Int32))), .val (.int (c1 &&& (255 : Int32))), .val (.int (c2 &&& (255 : Int32))), .val (.ref b7), .val (.ref b296), .val (.int (1 : Int32)), .val (.ref a305), .val (.ref ra313)] [(.int (1 : Int32))]))
          have CRz : CHr Z consts_1 s.vm s.heap T315.vm T315.heap := by
            rw [hh, e315]
            exact CR.trans (CHv.at X315 hZ hEL CH)
          refine own_retW X315 hx Bd hS (show _ ≤ T315.heap.size by rw [e315]; exact hk) (t := .boolean) Bd.returns rfl (Or.inl ⟨rfl, by simp, _, rfl⟩) (hb hby at_425) CRz ?_ (by decide) (by decide)
          show (Q_rm_law Z mode pos c0 c1 c2 gc h0 n0) (some (.int (1 : Int32))) T315.heap _
          rw [e315]
          exact ⟨rfl, N315⟩
        · skip
          refine own_go (fun _ kk_ => XS.icmpYes X33.here hx rfl (pc0 := 129) (pc' := 136) rfl (hb hby at_129) rfl (feq hc292).2 (by decide) (by decide) kk_) ?_
          refine own_go (fun _ kk_ => XS.iconst X33.here hx rfl (hb hby at_136) kk_) ?_
          refine own_go (fun _ kk_ => XS.istore X33.here hx rfl (hb hby at_137) rfl (l' := #[.val (.int mode), .val (.int pos), .val (.int c0), .val (.int c1), .val (.int c2), .val (.int (mode &&& (7 : Int32))), .val (.int (c0 &&& (255 : Int32))), .val (.int (c1 &&& (255 : Int32))), .val (.int (c2 &&& (255 : Int32))), .val (.ref b7), .unset, .val (.int (0 : Int32)), .val (.int (6 : Int32)), .unset]) rfl kk_) ?_
          refine own_go (fun _ kk_ => XS.aload X33.here hx rfl (hb hby at_139) rfl rfl kk_) ?_
          refine own_go (fun _ kk_ => XS.iload X33.here hx rfl (hb hby at_141) rfl kk_) ?_
          refine own_go (fun _ kk_ => XS.iload X33.here hx rfl (hb hby at_143) rfl kk_) ?_
          show own_Fin p.tables e below _ (T33.setTop (mkF m 145 #[.val (.int mode), .val (.int pos), .val (.int c0), .val (.int c1), .val (.int c2), .val (.int (mode &&& (7 : Int32))), .val (.int (c0 &&& (255 : Int32))), .val (.int (c1 &&& (255 : Int32))), .val (.int (c2 &&& (255 : Int32))), .val (.ref b7), .unset, .val (.int (0 : Int32)), .val (.int (6 : Int32)), .unset] [(.int (c0 &&& (255 : Int32))), (.int (6 : Int32)), (.ref b7)]))
          obtain ⟨T316, h316, X316, e316, W316, V316, st316⟩ := own_stC X33 hx hZ e33 V7 (by decide) (i := 6) rfl (Nat.le_of_ble_eq_true rfl) (g := (mkF m 145 #[.val (.int mode), .val (.int pos), .val (.int c0), .val (.int c1), .val (.int c2), .val (.int (mode &&& (7 : Int32))), .val (.int (c0 &&& (255 : Int32))), .val (.int (c1 &&& (255 : Int32))), .val (.int (c2 &&& (255 : Int32))), .val (.ref b7), .unset, .val (.int (0 : Int32)), .val (.int (6 : Int32)), .unset] [(.int (c0 &&& (255 : Int32))), (.int (6 : Int32)), (.ref b7)])) rfl rfl (hb hby at_145)
          rw [own_nar255] at V316
          replace V7 : Arv Z h316 b7 k7 .char (9 : Int32) [(.int (100 : Int32)), (.int (111 : Int32)), (.int (99 : Int32)), (.int (107 : Int32)), (.int (101 : Int32)), (.int (114 : Int32)), (.int (c0 &&& (255 : Int32))), (.int (105 : Int32)), (.int (111 : Int32))] (.int (0 : Int32)) := V316
          have N316 := Fr.snoc X316 N33 g_b7
          refine own_go st316 ?_
          have sa317 := S_b7
          replace S_b7 := Safe.wr W316 sa317 CH S_b7
          replace CR := CR.trans (CHr.wr W316 sa317 CH)
          replace CH := CHv.wr W316 sa317 CH
          replace hk := Nat.le_trans hk (Keep.of_wr W316).1
          replace O0 := O0.wr W316 g_b7
          have K318 := K35.wr W316 (Or.inr sz_b7)
          show own_Fin p.tables e below _ (T316.setTop (mkF m 146 #[.val (.int mode), .val (.int pos), .val (.int c0), .val (.int c1), .val (.int c2), .val (.int (mode &&& (7 : Int32))), .val (.int (c0 &&& (255 : Int32))), .val (.int (c1 &&& (255 : Int32))), .val (.int (c2 &&& (255 : Int32))), .val (.ref b7), .unset, .val (.int (0 : Int32)), .val (.int (6 : Int32)), .unset] []))
          obtain ⟨T319, h319, X319, e319, E319, A319, D319, -, st319⟩ := newO X316 hx hZ hown (hw _ (List.mem_of_getElem? (i := 1) rfl)) (hw _ (List.mem_of_getElem? (i := 2) rfl)) (hw _ (List.mem_of_getElem? (i := 3) rfl)) e316 (g := (mkF m 146 #[.val (.int mode), .val (.int pos), .val (.int c0), .val (.int c1), .val (.int c2), .val (.int (mode &&& (7 : Int32))), .val (.int (c0 &&& (255 : Int32))), .val (.int (c1 &&& (255 : Int32))), .val (.int (c2 &&& (255 : Int32))), .val (.ref b7), .unset, .val (.int (0 : Int32)), .val (.int (6 : Int32)), .unset] [])) rfl (hb hby at_146) (by decide) (by decide)
          obtain ⟨b319, g319⟩ : ∃ z, z = h316.size := ⟨_, rfl⟩
          rw [← g319] at A319 D319 st319
          have sz_b319 : h0.size ≤ b319 := Nat.le_trans K318.1 (Nat.le_of_eq g319.symm)
          have g_b319 : n0 ≤ b319 := Nat.le_trans Z0 sz_b319
          have ne320 : b7 ≠ b319 := Nat.ne_of_lt (Nat.lt_of_lt_of_le V7.lt (Nat.le_of_eq g319.symm))
          have S_b319 := Safe.new (Z := Z) (EL := consts_1) (vm := s.vm) (Nat.le_of_eq g319.symm)
          replace S_b7 := Safe.ext E319 CH S_b7
          replace S_b319 := Safe.ext E319 CH S_b319
          replace CR := CR.trans (CHr.ext E319 CH)
          replace CH := CH.ext E319
          replace hk := Nat.le_trans hk E319.1
          replace O0 := O0.ext E319
          replace V7 := V7.ext E319
          have K321 := K318.ext E319
          have F319_coder : Fld Z h319 b319 "java/lang/String" "coder" "B" (.int (0 : Int32)) := D319 (Or.inr (hw _ (List.mem_of_getElem? (i := 27) rfl))) (ty := .byte) (by decide)
          have F319_value : Fld Z h319 b319 "java/lang/String" "value" "[B" .null := D319 (Or.inr (hw _ (List.mem_of_getElem? (i := 29) rfl))) (ty := (.array .byte)) (by decide)
          refine own_go st319 ?_
          refine own_go (fun _ kk_ => XS.dup X319.here hx rfl (hb hby at_149) rfl rfl kk_) ?_
          refine own_go (fun _ kk_ => XS.aload X319.here hx rfl (hb hby at_150) rfl rfl kk_) ?_
          show own_Fin p.tables e below _ (T319.setTop (mkF m 152 #[.val (.int mode), .val (.int pos), .val (.int c0), .val (.int c1), .val (.int c2), .val (.int (mode &&& (7 : Int32))), .val (.int (c0 &&& (255 : Int32))), .val (.int (c1 &&& (255 : Int32))), .val (.int (c2 &&& (255 : Int32))), .val (.ref b7), .unset, .val (.int (0 : Int32)), .val (.int (6 : Int32)), .unset] [(.ref b7), (.ref b319), (.ref b319)]))
          have hp323 : ∀ c ∈ ([(100 : Int32), (111 : Int32), (99 : Int32), (107 : Int32), (101 : Int32), (114 : Int32), (c0 &&& (255 : Int32)), (105 : Int32), (111 : Int32)] : List Int32), ¬ c < 0 ∧ ¬ (255 : Int32) < c := by
            intro c hc
            simp only [List.mem_cons, List.not_mem_nil, or_false] at hc
            rcases hc with rfl | rfl | rfl | rfl | rfl | rfl | rfl | rfl | rfl
            · exact by decide
            · exact by decide
            · exact by decide
            · exact by decide
            · exact by decide
            · exact by decide
            · exact own_and255 _
            · exact by decide
            · exact by decide
          obtain ⟨_, _, ⟨T322, L322, k322, n322⟩, -, X322, ⟨Lc322, hQ322, l322, y322, z322⟩, st322⟩ := X319.specialBack hx (y := (⟨"java/lang/String", "<init>", "([C)V"⟩ : MethodName)) rfl hown (mvT hZ (hw _ (List.mem_of_getElem? (i := 4) rfl))) (mvT hZ (hw _ (List.mem_of_getElem? (i := 5) rfl))) (mvT hZ (hw _ (List.mem_of_getElem? (i := 6) rfl))) (by decide) (StrChars.Road.backV (W := 1) hZ hws (kI := 4) (hw _ (List.mem_of_getElem? (i := 2) rfl)) (cs := ([(100 : Int32), (111 : Int32), (99 : Int32), (107 : Int32), (101 : Int32), (114 : Int32), (c0 &&& (255 : Int32)), (105 : Int32), (111 : Int32)] : List Int32)) (bs := (([(100 : Int32), (111 : Int32), (99 : Int32), (107 : Int32), (101 : Int32), (114 : Int32), (c0 &&& (255 : Int32)), (105 : Int32), (111 : Int32)] : List Int32)).map (fun c => c.toInt8.toInt32)) (n := 9) g_b319 (Nat.le_trans Z0 K321.1) A319 F319_value F319_coder V7 (S_C.ext O0.2) hcs rfl rfl (by decide) (by decide) hp323 rfl (by decide) (by decide)) (g := (mkF m 152 #[.val (.int mode), .val (.int pos), .val (.int c0), .val (.int c1), .val (.int c2), .val (.int (mode &&& (7 : Int32))), .val (.int (c0 &&& (255 : Int32))), .val (.int (c1 &&& (255 : Int32))), .val (.int (c2 &&& (255 : Int32))), .val (.ref b7), .unset, .val (.int (0 : Int32)), .val (.int (6 : Int32)), .unset] [(.ref b7), (.ref b319), (.ref b319)])) rfl (by rw [hml]; rfl) (Steps.refl _) (a := b319) (argsL := [(.ref b7)]) (rest := [(.ref b319)]) (lenOf pd_3 rfl) rfl (by show 2 * 0 + _ ≤ _; exact Nat.le_of_eq rfl) (hb hby at_152) (fun _ _ => ⟨rfl, e319, (by decide : 2 + 1 ≤ _), (by decide : 13 + 9 ≤ _)⟩)
          dsimp only [Pt.U, Pt.locs, Pt.cells, Pt.slots] at X322 l322 y322 z322 st322 hQ322
          subst l322 y322 z322
          obtain ⟨rfl, N322q, KK322, EE322, FC322, t322, kb322, gt322, szt322, netx322, FV322, VV322⟩ := hQ322
          have N322 := Fr.app N316 N322q
          have SS322 : own_Str Z T322.heap b319 t322 ([(100 : Int32), (111 : Int32), (99 : Int32), (107 : Int32), (101 : Int32), (114 : Int32), (c0 &&& (255 : Int32)), (105 : Int32), (111 : Int32)] : List Int32) := ⟨_, _, _, _, EE322, FV322, FC322, VV322, StrChars.Road.codOf (n := 9) rfl (fun c hc => (hp323 c hc).2), own_up _ hp323, Nat.le_of_ble_eq_true rfl⟩
          have sz_t322 : h0.size ≤ t322 := Nat.le_trans K321.1 szt322
          have ne324 : b7 ≠ t322 := Nat.ne_of_lt (Nat.lt_of_lt_of_le V7.lt szt322)
          have ne325 : b319 ≠ t322 := Nat.ne_of_lt (Nat.lt_of_lt_of_le A319.lt szt322)
          have S_t322 := Safe.new (Z := Z) (EL := consts_1) (vm := s.vm) szt322
          have hs326 : ∀ x ∈ [b319], Safe Z consts_1 s.vm h319 x := (sfS S_b319 sf0)
          replace S_b7 := Safe.keep KK322 hs326 CH S_b7
          replace S_b319 := Safe.keep KK322 hs326 CH S_b319
          replace S_t322 := Safe.keep KK322 hs326 CH S_t322
          replace CR := CR.trans (CHr.keep KK322 hs326 CH)
          replace CH := CHv.keep KK322 hs326 CH
          replace hk := Nat.le_trans hk KK322.1
          replace O0 := O0.keep KK322 (allS g_b319 (all0))
          replace V7 := V7.keep KK322 (ninS ne320 nin0)
          replace A319 := A319.keep KK322
          have K327 := K321.trans KK322 (allS (Or.inr sz_b319) all0)
          refine own_go (fun _ kk_ => st322.trans kk_) ?_
          refine own_go (fun _ kk_ => XS.astore X322.here hx rfl (hb hby at_155) rfl rfl (l' := #[.val (.int mode), .val (.int pos), .val (.int c0), .val (.int c1), .val (.int c2), .val (.int (mode &&& (7 : Int32))), .val (.int (c0 &&& (255 : Int32))), .val (.int (c1 &&& (255 : Int32))), .val (.int (c2 &&& (255 : Int32))), .val (.ref b7), .val (.ref b319), .val (.int (0 : Int32)), .val (.int (6 : Int32)), .unset]) rfl kk_) ?_
          refine own_go (fun _ kk_ => XS.goto X322.here hx rfl (pc0 := 157) (pc' := 397) rfl (hb hby at_157) (by decide) (by decide) kk_) ?_
          refine own_go (fun _ kk_ => XS.iload X322.here hx rfl (hb hby at_397) rfl kk_) ?_
          show own_Fin p.tables e below _ (T322.setTop (mkF m 399 #[.val (.int mode), .val (.int pos), .val (.int c0), .val (.int c1), .val (.int c2), .val (.int (mode &&& (7 : Int32))), .val (.int (c0 &&& (255 : Int32))), .val (.int (c1 &&& (255 : Int32))), .val (.int (c2 &&& (255 : Int32))), .val (.ref b7), .val (.ref b319), .val (.int (0 : Int32)), .val (.int (6 : Int32)), .unset] [(.int (0 : Int32))]))
          refine own_go (fun _ kk_ => XS.ifYes X322.here hx rfl (pc0 := 399) (pc' := 407) rfl (hb hby at_399) rfl ((if0 _ _).trans (teq (by decide : (0 : Int32) = (0 : Int32))).1) (by decide) (by decide) kk_) ?_
          refine own_go (fun _ kk_ => XS.aload X322.here hx rfl (hb hby at_407) rfl rfl kk_) ?_
          refine own_go (fun _ kk_ => XS.astore X322.here hx rfl (hb hby at_409) rfl rfl (l' := #[.val (.int mode), .val (.int pos), .val (.int c0), .val (.int c1), .val (.int c2), .val (.int (mode &&& (7 : Int32))), .val (.int (c0 &&& (255 : Int32))), .val (.int (c1 &&& (255 : Int32))), .val (.int (c2 &&& (255 : Int32))), .val (.ref b7), .val (.ref b319), .val (.int (0 : Int32)), .val (.ref b319), .unset]) rfl kk_) ?_
          refine own_go (fun _ kk_ => XS.aload X322.here hx rfl (hb hby at_411) rfl rfl kk_) ?_
          show own_Fin p.tables e below _ (T322.setTop (mkF m 413 #[.val (.int mode), .val (.int pos), .val (.int c0), .val (.int c1), .val (.int c2), .val (.int (mode &&& (7 : Int32))), .val (.int (c0 &&& (255 : Int32))), .val (.int (c1 &&& (255 : Int32))), .val (.int (c2 &&& (255 : Int32))), .val (.ref b7), .val (.ref b319), .val (.int (0 : Int32)), .val (.ref b319), .unset] [(.ref b319)]))
          obtain ⟨_, _, ⟨T328, L328, k328, n328⟩, -, X328, hSn328, hgr328, ⟨Lc328, hQ328, l328, y328, z328, CR328⟩, st328⟩ := callSS X322 hx (y := (⟨"com/example/laminate/laminate/core/DefaultRegistry", "credentialsKey", "(Ljava/lang/String;)Ljava/lang/String;"⟩ : MethodName)) hown (mvT hZ (hw _ (List.mem_of_getElem? (i := 33) rfl))) (mvT hZ (hw _ (List.mem_of_getElem? (i := 34) rfl))) (mvT hZ (hw _ (List.mem_of_getElem? (i := 35) rfl))) (mvT hZ (hw _ (List.mem_of_getElem? (i := 36) rfl))) (by decide) (backOfSH (s := s) (W := 0) (rm_ck l Z a0 hw [] hEL b319 t322 ([(100 : Int32), (111 : Int32), (99 : Int32), (107 : Int32), (101 : Int32), (114 : Int32), (c0 &&& (255 : Int32)), (105 : Int32), (111 : Int32)] : List Int32) gc T322.heap n0 (Nat.le_trans Z0 K327.1) SS322 S_C hcs O0) hZ (hw _ (List.mem_of_getElem? (i := 36) rfl)) (hw _ (List.mem_of_getElem? (i := 35) rfl)) (by decide) (by decide) hEL CH) (g := (mkF m 413 #[.val (.int mode), .val (.int pos), .val (.int c0), .val (.int c1), .val (.int c2), .val (.int (mode &&& (7 : Int32))), .val (.int (c0 &&& (255 : Int32))), .val (.int (c1 &&& (255 : Int32))), .val (.int (c2 &&& (255 : Int32))), .val (.ref b7), .val (.ref b319), .val (.int (0 : Int32)), .val (.ref b319), .unset] [(.ref b319)])) rfl (by rw [hml]; rfl) (argsL := [(.ref b319)]) (rest := []) (lenOf pd_4 rfl) rfl (by show 2 * 0 + _ ≤ _; exact Nat.le_of_eq rfl) (hb hby at_413) (fun _ _ => ⟨rfl, rfl, (by decide : 3 + 4 ≤ _), (by decide : 22 + 152 ≤ _)⟩)
          dsimp only [Pt.U, Pt.locs, Pt.cells, Pt.slots] at X328 l328 y328 z328 st328 hQ328 hSn328 hgr328 CR328
          subst l328 y328 z328
          replace hS := foldS hS hk hSn328 hgr328
          replace hk : T328.heap.size ≤ T328.heap.size := Nat.le_refl _
          replace hZ : Z.Warmed39 (s.setVm T328.vm).vm := State.Warmed39.trans (t := s.setVm s.vm) hZ hSn328.1
          replace hown : (s.setVm T328.vm).vm.findClass "com/example/laminate/laminate/core/DefaultRegistryCredentialsKeyPinLaw" = some m.cls := by rw [show (s.setVm T328.vm).vm = T328.vm from rfl, hSn328.1.alike.findClass]; exact hown
          replace X328 : Stand p l e room_1 (s.setVm T328.vm) m #[(.int mode), (.int pos), (.int c0), (.int c1), (.int c2)] below meth c T328 _ _ _ := X328
          replace S_b7 := CR328.safe V7.lt S_b7
          replace S_b319 := CR328.safe SS322.lt S_b319
          replace S_t322 := CR328.safe SS322.ltt S_t322
          replace CR := CR.trans CR328
          replace CH := CR328.1
          obtain ⟨N328q, KK328, hy328, hn328⟩ := hQ328
          have N328 := Fr.app N322 N328q
          obtain rfl := hn328 (by simp; exact fun q => hc292 q.symm)
          replace O0 := O0.keep KK328 all0
          replace V7 := V7.keep KK328 nin0
          replace SS322 := SS322.keep KK328 nin0 nin0
          have K329 := K327.trans KK328 all0
          refine own_go (fun _ kk_ => st328.trans kk_) ?_
          refine own_go (fun _ kk_ => XS.astore X328.here hx rfl (hb hby at_416) rfl rfl (l' := #[.val (.int mode), .val (.int pos), .val (.int c0), .val (.int c1), .val (.int c2), .val (.int (mode &&& (7 : Int32))), .val (.int (c0 &&& (255 : Int32))), .val (.int (c1 &&& (255 : Int32))), .val (.int (c2 &&& (255 : Int32))), .val (.ref b7), .val (.ref b319), .val (.int (0 : Int32)), .val (.ref b319), .val (.ref b319)]) rfl kk_) ?_
          refine own_go (fun _ kk_ => XS.aload X328.here hx rfl (hb hby at_418) rfl rfl kk_) ?_
          refine own_go (fun _ kk_ => XS.aload X328.here hx rfl (hb hby at_420) rfl rfl kk_) ?_
          show own_Fin p.tables e below _ (T328.setTop (mkF m 422 #[.val (.int mode), .val (.int pos), .val (.int c0), .val (.int c1), .val (.int c2), .val (.int (mode &&& (7 : Int32))), .val (.int (c0 &&& (255 : Int32))), .val (.int (c1 &&& (255 : Int32))), .val (.int (c2 &&& (255 : Int32))), .val (.ref b7), .val (.ref b319), .val (.int (0 : Int32)), .val (.ref b319), .val (.ref b319)] [(.ref b319), (.ref b319)]))
          obtain ⟨cq330, kq330, qa330, qb330, qc330⟩ := isOf hZ rfl SS322.exa
          obtain ⟨_, _, ⟨T330, L330, k330, n330⟩, -, X330, ⟨Lc330, hQ330, l330, y330, z330⟩, st330⟩ := X328.virtualBack hx (y := (⟨"java/lang/String", "equals", "(Ljava/lang/Object;)Z"⟩ : MethodName)) (z := (⟨"java/lang/String", "equals", "(Ljava/lang/Object;)Z"⟩ : MethodName)) hown (mvT hZ (hw _ (List.mem_of_getElem? (i := 49) rfl))) (mvT hZ (hw _ (List.mem_of_getElem? (i := 39) rfl))) (own_notface (args := #[]) (mvT hZ (hw _ (List.mem_of_getElem? (i := 41) rfl))) rfl) (mvT hZ (hw _ (List.mem_of_getElem? (i := 41) rfl))) (mvT hZ (hw _ (List.mem_of_getElem? (i := 40) rfl))) (by decide) (own_eqB (W := 0) hZ heq (hw _ (List.mem_of_getElem? (i := 2) rfl)) SS322 SS322 (S_C.ext O0.2) hcs (by decide) (by decide)) qa330 qc330 (g := (mkF m 422 #[.val (.int mode), .val (.int pos), .val (.int c0), .val (.int c1), .val (.int c2), .val (.int (mode &&& (7 : Int32))), .val (.int (c0 &&& (255 : Int32))), .val (.int (c1 &&& (255 : Int32))), .val (.int (c2 &&& (255 : Int32))), .val (.ref b7), .val (.ref b319), .val (.int (0 : Int32)), .val (.ref b319), .val (.ref b319)] [(.ref b319), (.ref b319)])) rfl (by rw [hml]; rfl) (Steps.refl _) (argsL := [(.ref b319)]) (rest := []) (lenOf pd_1 rfl) rfl (by show 2 * 0 + _ ≤ _; exact Nat.le_of_eq rfl) (hb hby at_422) (fun _ _ => ⟨rfl, rfl, (by decide : 7 + 0 ≤ _), (by decide : 174 + 0 ≤ _)⟩)
          dsimp only [Pt.U, Pt.locs, Pt.cells, Pt.slots] at X330 l330 y330 z330 st330 hQ330
          subst l330 y330 z330
          obtain ⟨hq330, rfl, e330⟩ := hQ330
          obtain ⟨z330, rfl, hz330⟩ := own_eqv hq330
          have N330 := Fr.app N328 (Fr.nil n0)
          obtain rfl : z330 = 1 := hz330.elim (fun q => q.1) (fun q => absurd rfl q.2)
          refine own_go (fun _ kk_ => st330.trans kk_) ?_
          show own_Fin p.tables e below _ (T330.setTop (mkF m 425 #[.val (.int mode), .val (.int pos), .val (.int c0), .val (.int c1), .val (.int c2), .val (.int (mode &&& (7 : Int32))), .val (.int (c0 &&& (255 : Int32))), .val (.int (c1 &&& (255 : Int32))), .val (.int (c2 &&& (255 : Int32))), .val (.ref b7), .val (.ref b319), .val (.int (0 : Int32)), .val (.ref b319), .val (.ref b319)] [(.int (1 : Int32))]))
          have CRz : CHr Z consts_1 s.vm s.heap T330.vm T330.heap := by
            rw [hh, e330]
            exact CR.trans (CHv.at X330 hZ hEL CH)
          refine own_retW X330 hx Bd hS (show _ ≤ T330.heap.size by rw [e330]; exact hk) (t := .boolean) Bd.returns rfl (Or.inl ⟨rfl, by simp, _, rfl⟩) (hb hby at_425) CRz ?_ (by decide) (by decide)
          show (Q_rm_law Z mode pos c0 c1 c2 gc h0 n0) (some (.int (1 : Int32))) T330.heap _
          rw [e330]
          exact ⟨rfl, N330⟩
      · skip
        show own_Fin p.tables e below _ (T33.setTop (mkF m 122 #[.val (.int mode), .val (.int pos), .val (.int c0), .val (.int c1), .val (.int c2), .val (.int (mode &&& (7 : Int32))), .val (.int (c0 &&& (255 : Int32))), .val (.int (c1 &&& (255 : Int32))), .val (.int (c2 &&& (255 : Int32))), .val (.ref b7), .unset, .unset, .val (.int ((pos &&& (2147483647 : Int32)) % (9 : Int32))), .unset] []))
        rw [hs9]
        refine own_go (fun _ kk_ => XS.aload X33.here hx rfl (hb hby at_122) rfl rfl kk_) ?_
        refine own_go (fun _ kk_ => XS.iload X33.here hx rfl (hb hby at_124) rfl kk_) ?_
        show own_Fin p.tables e below _ (T33.setTop (mkF m 126 #[.val (.int mode), .val (.int pos), .val (.int c0), .val (.int c1), .val (.int c2), .val (.int (mode &&& (7 : Int32))), .val (.int (c0 &&& (255 : Int32))), .val (.int (c1 &&& (255 : Int32))), .val (.int (c2 &&& (255 : Int32))), .val (.ref b7), .unset, .unset, .val (.int (7 : Int32)), .unset] [(.int (7 : Int32)), (.ref b7)]))
        refine own_go (fun _ kk_ => own_caload X33 hx hZ e33 V7 (by decide) (v := (.int (105 : Int32))) (rfl) (g := (mkF m 126 #[.val (.int mode), .val (.int pos), .val (.int c0), .val (.int c1), .val (.int c2), .val (.int (mode &&& (7 : Int32))), .val (.int (c0 &&& (255 : Int32))), .val (.int (c1 &&& (255 : Int32))), .val (.int (c2 &&& (255 : Int32))), .val (.ref b7), .unset, .unset, .val (.int (7 : Int32)), .unset] [(.int (7 : Int32)), (.ref b7)])) rfl rfl (hb hby at_126) _ kk_) ?_
        refine own_go (fun _ kk_ => XS.iload X33.here hx rfl (hb hby at_127) rfl kk_) ?_
        show own_Fin p.tables e below _ (T33.setTop (mkF m 129 #[.val (.int mode), .val (.int pos), .val (.int c0), .val (.int c1), .val (.int c2), .val (.int (mode &&& (7 : Int32))), .val (.int (c0 &&& (255 : Int32))), .val (.int (c1 &&& (255 : Int32))), .val (.int (c2 &&& (255 : Int32))), .val (.ref b7), .unset, .unset, .val (.int (7 : Int32)), .unset] [(.int (c0 &&& (255 : Int32))), (.int (105 : Int32))]))
        by_cases hc331 : (105 : Int32) = (c0 &&& (255 : Int32))
        · skip
          refine own_go (fun _ kk_ => XS.icmpNo X33.here hx rfl (hb hby at_129) rfl (teq hc331).2 kk_) ?_
          refine own_go (fun _ kk_ => XS.iconst X33.here hx rfl (hb hby at_132) kk_) ?_
          refine own_go (fun _ kk_ => XS.goto X33.here hx rfl (pc0 := 133) (pc' := 137) rfl (hb hby at_133) (by decide) (by decide) kk_) ?_
          refine own_go (fun _ kk_ => XS.istore X33.here hx rfl (hb hby at_137) rfl (l' := #[.val (.int mode), .val (.int pos), .val (.int c0), .val (.int c1), .val (.int c2), .val (.int (mode &&& (7 : Int32))), .val (.int (c0 &&& (255 : Int32))), .val (.int (c1 &&& (255 : Int32))), .val (.int (c2 &&& (255 : Int32))), .val (.ref b7), .unset, .val (.int (1 : Int32)), .val (.int (7 : Int32)), .unset]) rfl kk_) ?_
          refine own_go (fun _ kk_ => XS.aload X33.here hx rfl (hb hby at_139) rfl rfl kk_) ?_
          refine own_go (fun _ kk_ => XS.iload X33.here hx rfl (hb hby at_141) rfl kk_) ?_
          refine own_go (fun _ kk_ => XS.iload X33.here hx rfl (hb hby at_143) rfl kk_) ?_
          show own_Fin p.tables e below _ (T33.setTop (mkF m 145 #[.val (.int mode), .val (.int pos), .val (.int c0), .val (.int c1), .val (.int c2), .val (.int (mode &&& (7 : Int32))), .val (.int (c0 &&& (255 : Int32))), .val (.int (c1 &&& (255 : Int32))), .val (.int (c2 &&& (255 : Int32))), .val (.ref b7), .unset, .val (.int (1 : Int32)), .val (.int (7 : Int32)), .unset] [(.int (c0 &&& (255 : Int32))), (.int (7 : Int32)), (.ref b7)]))
          obtain ⟨T332, h332, X332, e332, W332, V332, st332⟩ := own_stC X33 hx hZ e33 V7 (by decide) (i := 7) rfl (Nat.le_of_ble_eq_true rfl) (g := (mkF m 145 #[.val (.int mode), .val (.int pos), .val (.int c0), .val (.int c1), .val (.int c2), .val (.int (mode &&& (7 : Int32))), .val (.int (c0 &&& (255 : Int32))), .val (.int (c1 &&& (255 : Int32))), .val (.int (c2 &&& (255 : Int32))), .val (.ref b7), .unset, .val (.int (1 : Int32)), .val (.int (7 : Int32)), .unset] [(.int (c0 &&& (255 : Int32))), (.int (7 : Int32)), (.ref b7)])) rfl rfl (hb hby at_145)
          rw [own_nar255] at V332
          replace V7 : Arv Z h332 b7 k7 .char (9 : Int32) [(.int (100 : Int32)), (.int (111 : Int32)), (.int (99 : Int32)), (.int (107 : Int32)), (.int (101 : Int32)), (.int (114 : Int32)), (.int (46 : Int32)), (.int (c0 &&& (255 : Int32))), (.int (111 : Int32))] (.int (0 : Int32)) := V332
          have N332 := Fr.snoc X332 N33 g_b7
          refine own_go st332 ?_
          have sa333 := S_b7
          replace S_b7 := Safe.wr W332 sa333 CH S_b7
          replace CR := CR.trans (CHr.wr W332 sa333 CH)
          replace CH := CHv.wr W332 sa333 CH
          replace hk := Nat.le_trans hk (Keep.of_wr W332).1
          replace O0 := O0.wr W332 g_b7
          have K334 := K35.wr W332 (Or.inr sz_b7)
          show own_Fin p.tables e below _ (T332.setTop (mkF m 146 #[.val (.int mode), .val (.int pos), .val (.int c0), .val (.int c1), .val (.int c2), .val (.int (mode &&& (7 : Int32))), .val (.int (c0 &&& (255 : Int32))), .val (.int (c1 &&& (255 : Int32))), .val (.int (c2 &&& (255 : Int32))), .val (.ref b7), .unset, .val (.int (1 : Int32)), .val (.int (7 : Int32)), .unset] []))
          obtain ⟨T335, h335, X335, e335, E335, A335, D335, -, st335⟩ := newO X332 hx hZ hown (hw _ (List.mem_of_getElem? (i := 1) rfl)) (hw _ (List.mem_of_getElem? (i := 2) rfl)) (hw _ (List.mem_of_getElem? (i := 3) rfl)) e332 (g := (mkF m 146 #[.val (.int mode), .val (.int pos), .val (.int c0), .val (.int c1), .val (.int c2), .val (.int (mode &&& (7 : Int32))), .val (.int (c0 &&& (255 : Int32))), .val (.int (c1 &&& (255 : Int32))), .val (.int (c2 &&& (255 : Int32))), .val (.ref b7), .unset, .val (.int (1 : Int32)), .val (.int (7 : Int32)), .unset] [])) rfl (hb hby at_146) (by decide) (by decide)
          obtain ⟨b335, g335⟩ : ∃ z, z = h332.size := ⟨_, rfl⟩
          rw [← g335] at A335 D335 st335
          have sz_b335 : h0.size ≤ b335 := Nat.le_trans K334.1 (Nat.le_of_eq g335.symm)
          have g_b335 : n0 ≤ b335 := Nat.le_trans Z0 sz_b335
          have ne336 : b7 ≠ b335 := Nat.ne_of_lt (Nat.lt_of_lt_of_le V7.lt (Nat.le_of_eq g335.symm))
          have S_b335 := Safe.new (Z := Z) (EL := consts_1) (vm := s.vm) (Nat.le_of_eq g335.symm)
          replace S_b7 := Safe.ext E335 CH S_b7
          replace S_b335 := Safe.ext E335 CH S_b335
          replace CR := CR.trans (CHr.ext E335 CH)
          replace CH := CH.ext E335
          replace hk := Nat.le_trans hk E335.1
          replace O0 := O0.ext E335
          replace V7 := V7.ext E335
          have K337 := K334.ext E335
          have F335_coder : Fld Z h335 b335 "java/lang/String" "coder" "B" (.int (0 : Int32)) := D335 (Or.inr (hw _ (List.mem_of_getElem? (i := 27) rfl))) (ty := .byte) (by decide)
          have F335_value : Fld Z h335 b335 "java/lang/String" "value" "[B" .null := D335 (Or.inr (hw _ (List.mem_of_getElem? (i := 29) rfl))) (ty := (.array .byte)) (by decide)
          refine own_go st335 ?_
          refine own_go (fun _ kk_ => XS.dup X335.here hx rfl (hb hby at_149) rfl rfl kk_) ?_
          refine own_go (fun _ kk_ => XS.aload X335.here hx rfl (hb hby at_150) rfl rfl kk_) ?_
          show own_Fin p.tables e below _ (T335.setTop (mkF m 152 #[.val (.int mode), .val (.int pos), .val (.int c0), .val (.int c1), .val (.int c2), .val (.int (mode &&& (7 : Int32))), .val (.int (c0 &&& (255 : Int32))), .val (.int (c1 &&& (255 : Int32))), .val (.int (c2 &&& (255 : Int32))), .val (.ref b7), .unset, .val (.int (1 : Int32)), .val (.int (7 : Int32)), .unset] [(.ref b7), (.ref b335), (.ref b335)]))
          have hp339 : ∀ c ∈ ([(100 : Int32), (111 : Int32), (99 : Int32), (107 : Int32), (101 : Int32), (114 : Int32), (46 : Int32), (c0 &&& (255 : Int32)), (111 : Int32)] : List Int32), ¬ c < 0 ∧ ¬ (255 : Int32) < c := by
            intro c hc
            simp only [List.mem_cons, List.not_mem_nil, or_false] at hc
            rcases hc with rfl | rfl | rfl | rfl | rfl | rfl | rfl | rfl | rfl
            · exact by decide
            · exact by decide
            · exact by decide
            · exact by decide
            · exact by decide
            · exact by decide
            · exact by decide
            · exact own_and255 _
            · exact by decide
          obtain ⟨_, _, ⟨T338, L338, k338, n338⟩, -, X338, ⟨Lc338, hQ338, l338, y338, z338⟩, st338⟩ := X335.specialBack hx (y := (⟨"java/lang/String", "<init>", "([C)V"⟩ : MethodName)) rfl hown (mvT hZ (hw _ (List.mem_of_getElem? (i := 4) rfl))) (mvT hZ (hw _ (List.mem_of_getElem? (i := 5) rfl))) (mvT hZ (hw _ (List.mem_of_getElem? (i := 6) rfl))) (by decide) (StrChars.Road.backV (W := 1) hZ hws (kI := 4) (hw _ (List.mem_of_getElem? (i := 2) rfl)) (cs := ([(100 : Int32), (111 : Int32), (99 : Int32), (107 : Int32), (101 : Int32), (114 : Int32), (46 : Int32), (c0 &&& (255 : Int32)), (111 : Int32)] : List Int32)) (bs := (([(100 : Int32), (111 : Int32), (99 : Int32), (107 : Int32), (101 : Int32), (114 : Int32), (46 : Int32), (c0 &&& (255 : Int32)), (111 : Int32)] : List Int32)).map (fun c => c.toInt8.toInt32)) (n := 9) g_b335 (Nat.le_trans Z0 K337.1) A335 F335_value F335_coder V7 (S_C.ext O0.2) hcs rfl rfl (by decide) (by decide) hp339 rfl (by decide) (by decide)) (g := (mkF m 152 #[.val (.int mode), .val (.int pos), .val (.int c0), .val (.int c1), .val (.int c2), .val (.int (mode &&& (7 : Int32))), .val (.int (c0 &&& (255 : Int32))), .val (.int (c1 &&& (255 : Int32))), .val (.int (c2 &&& (255 : Int32))), .val (.ref b7), .unset, .val (.int (1 : Int32)), .val (.int (7 : Int32)), .unset] [(.ref b7), (.ref b335), (.ref b335)])) rfl (by rw [hml]; rfl) (Steps.refl _) (a := b335) (argsL := [(.ref b7)]) (rest := [(.ref b335)]) (lenOf pd_3 rfl) rfl (by show 2 * 0 + _ ≤ _; exact Nat.le_of_eq rfl) (hb hby at_152) (fun _ _ => ⟨rfl, e335, (by decide : 2 + 1 ≤ _), (by decide : 13 + 9 ≤ _)⟩)
          dsimp only [Pt.U, Pt.locs, Pt.cells, Pt.slots] at X338 l338 y338 z338 st338 hQ338
          subst l338 y338 z338
          obtain ⟨rfl, N338q, KK338, EE338, FC338, t338, kb338, gt338, szt338, netx338, FV338, VV338⟩ := hQ338
          have N338 := Fr.app N332 N338q
          have SS338 : own_Str Z T338.heap b335 t338 ([(100 : Int32), (111 : Int32), (99 : Int32), (107 : Int32), (101 : Int32), (114 : Int32), (46 : Int32), (c0 &&& (255 : Int32)), (111 : Int32)] : List Int32) := ⟨_, _, _, _, EE338, FV338, FC338, VV338, StrChars.Road.codOf (n := 9) rfl (fun c hc => (hp339 c hc).2), own_up _ hp339, Nat.le_of_ble_eq_true rfl⟩
          have sz_t338 : h0.size ≤ t338 := Nat.le_trans K337.1 szt338
          have ne340 : b7 ≠ t338 := Nat.ne_of_lt (Nat.lt_of_lt_of_le V7.lt szt338)
          have ne341 : b335 ≠ t338 := Nat.ne_of_lt (Nat.lt_of_lt_of_le A335.lt szt338)
          have S_t338 := Safe.new (Z := Z) (EL := consts_1) (vm := s.vm) szt338
          have hs342 : ∀ x ∈ [b335], Safe Z consts_1 s.vm h335 x := (sfS S_b335 sf0)
          replace S_b7 := Safe.keep KK338 hs342 CH S_b7
          replace S_b335 := Safe.keep KK338 hs342 CH S_b335
          replace S_t338 := Safe.keep KK338 hs342 CH S_t338
          replace CR := CR.trans (CHr.keep KK338 hs342 CH)
          replace CH := CHv.keep KK338 hs342 CH
          replace hk := Nat.le_trans hk KK338.1
          replace O0 := O0.keep KK338 (allS g_b335 (all0))
          replace V7 := V7.keep KK338 (ninS ne336 nin0)
          replace A335 := A335.keep KK338
          have K343 := K337.trans KK338 (allS (Or.inr sz_b335) all0)
          refine own_go (fun _ kk_ => st338.trans kk_) ?_
          refine own_go (fun _ kk_ => XS.astore X338.here hx rfl (hb hby at_155) rfl rfl (l' := #[.val (.int mode), .val (.int pos), .val (.int c0), .val (.int c1), .val (.int c2), .val (.int (mode &&& (7 : Int32))), .val (.int (c0 &&& (255 : Int32))), .val (.int (c1 &&& (255 : Int32))), .val (.int (c2 &&& (255 : Int32))), .val (.ref b7), .val (.ref b335), .val (.int (1 : Int32)), .val (.int (7 : Int32)), .unset]) rfl kk_) ?_
          refine own_go (fun _ kk_ => XS.goto X338.here hx rfl (pc0 := 157) (pc' := 397) rfl (hb hby at_157) (by decide) (by decide) kk_) ?_
          refine own_go (fun _ kk_ => XS.iload X338.here hx rfl (hb hby at_397) rfl kk_) ?_
          show own_Fin p.tables e below _ (T338.setTop (mkF m 399 #[.val (.int mode), .val (.int pos), .val (.int c0), .val (.int c1), .val (.int c2), .val (.int (mode &&& (7 : Int32))), .val (.int (c0 &&& (255 : Int32))), .val (.int (c1 &&& (255 : Int32))), .val (.int (c2 &&& (255 : Int32))), .val (.ref b7), .val (.ref b335), .val (.int (1 : Int32)), .val (.int (7 : Int32)), .unset] [(.int (1 : Int32))]))
          refine own_go (fun _ kk_ => XS.ifNo X338.here hx rfl (hb hby at_399) rfl ((if0 _ _).trans (feq (by decide : ¬ (1 : Int32) = (0 : Int32))).1) kk_) ?_
          show own_Fin p.tables e below _ (T338.setTop (mkF m 402 #[.val (.int mode), .val (.int pos), .val (.int c0), .val (.int c1), .val (.int c2), .val (.int (mode &&& (7 : Int32))), .val (.int (c0 &&& (255 : Int32))), .val (.int (c1 &&& (255 : Int32))), .val (.int (c2 &&& (255 : Int32))), .val (.ref b7), .val (.ref b335), .val (.int (1 : Int32)), .val (.int (7 : Int32)), .unset] []))
          obtain ⟨a344, T344, h344, k344, tb344, kb344, X344, e344, E344, hS, hk, hZ, hown, EA344, FC344, FV344, VB344, -, -, CR344, -, NE344, st344⟩ := ldcCH X338 hx hZ hown (hw _ (List.mem_of_getElem? (i := 30) rfl)) wS rfl hS hk hEL (by decide) CH (vs := ((([(104 : Int32), (116 : Int32), (116 : Int32), (112 : Int32), (115 : Int32), (58 : Int32), (47 : Int32), (47 : Int32), (105 : Int32), (110 : Int32), (100 : Int32), (101 : Int32), (120 : Int32), (46 : Int32), (100 : Int32), (111 : Int32), (99 : Int32), (107 : Int32), (101 : Int32), (114 : Int32), (46 : Int32), (105 : Int32), (111 : Int32), (47 : Int32), (118 : Int32), (49 : Int32), (47 : Int32)] : List Int32).map (fun c => c.toInt8.toInt32)).map Value.int)) (z := (27 : Int32)) (by exact ⟨by decide, by decide⟩) (by decide) rfl (g := (mkF m 402 #[.val (.int mode), .val (.int pos), .val (.int c0), .val (.int c1), .val (.int c2), .val (.int (mode &&& (7 : Int32))), .val (.int (c0 &&& (255 : Int32))), .val (.int (c1 &&& (255 : Int32))), .val (.int (c2 &&& (255 : Int32))), .val (.ref b7), .val (.ref b335), .val (.int (1 : Int32)), .val (.int (7 : Int32)), .unset] [])) rfl (hb hby at_402) (n := 108) (by decide) (by decide) (by decide) (by decide)
          replace S_b7 := CR344.safe V7.lt S_b7
          replace S_b335 := CR344.safe SS338.lt S_b335
          replace S_t338 := CR344.safe SS338.ltt S_t338
          replace CR := CR.trans CR344
          replace CH := CR344.1
          replace O0 := O0.ext E344
          replace V7 := V7.ext E344
          replace SS338 := SS338.ext E344
          have K345 := K343.ext E344
          have ne346 : b7 ≠ a344 := (NE344 _ S_b7).1
          have ne347 : b7 ≠ tb344 := (NE344 _ S_b7).2
          have ne348 : b335 ≠ a344 := (NE344 _ S_b335).1
          have ne349 : b335 ≠ tb344 := (NE344 _ S_b335).2
          have ne350 : t338 ≠ a344 := (NE344 _ S_t338).1
          have ne351 : t338 ≠ tb344 := (NE344 _ S_t338).2
          have SS344 : own_Str Z h344 a344 tb344 ([(104 : Int32), (116 : Int32), (116 : Int32), (112 : Int32), (115 : Int32), (58 : Int32), (47 : Int32), (47 : Int32), (105 : Int32), (110 : Int32), (100 : Int32), (101 : Int32), (120 : Int32), (46 : Int32), (100 : Int32), (111 : Int32), (99 : Int32), (107 : Int32), (101 : Int32), (114 : Int32), (46 : Int32), (105 : Int32), (111 : Int32), (47 : Int32), (118 : Int32), (49 : Int32), (47 : Int32)] : List Int32) := ⟨_, _, _, _, EA344, FV344, FC344, VB344, StrChars.Road.codOf (n := 27) rfl (by decide), by decide, Nat.le_of_ble_eq_true rfl⟩
          refine own_go st344 ?_
          refine own_go (fun _ kk_ => XS.goto X344.here hx rfl (pc0 := 404) (pc' := 409) rfl (hb hby at_404) (by decide) (by decide) kk_) ?_
          refine own_go (fun _ kk_ => XS.astore X344.here hx rfl (hb hby at_409) rfl rfl (l' := #[.val (.int mode), .val (.int pos), .val (.int c0), .val (.int c1), .val (.int c2), .val (.int (mode &&& (7 : Int32))), .val (.int (c0 &&& (255 : Int32))), .val (.int (c1 &&& (255 : Int32))), .val (.int (c2 &&& (255 : Int32))), .val (.ref b7), .val (.ref b335), .val (.int (1 : Int32)), .val (.ref a344), .unset]) rfl kk_) ?_
          refine own_go (fun _ kk_ => XS.aload X344.here hx rfl (hb hby at_411) rfl rfl kk_) ?_
          show own_Fin p.tables e below _ (T344.setTop (mkF m 413 #[.val (.int mode), .val (.int pos), .val (.int c0), .val (.int c1), .val (.int c2), .val (.int (mode &&& (7 : Int32))), .val (.int (c0 &&& (255 : Int32))), .val (.int (c1 &&& (255 : Int32))), .val (.int (c2 &&& (255 : Int32))), .val (.ref b7), .val (.ref b335), .val (.int (1 : Int32)), .val (.ref a344), .unset] [(.ref b335)]))
          obtain ⟨_, _, ⟨T352, L352, k352, n352⟩, -, X352, hSn352, hgr352, ⟨Lc352, hQ352, l352, y352, z352, CR352⟩, st352⟩ := callSS X344 hx (y := (⟨"com/example/laminate/laminate/core/DefaultRegistry", "credentialsKey", "(Ljava/lang/String;)Ljava/lang/String;"⟩ : MethodName)) hown (mvT hZ (hw _ (List.mem_of_getElem? (i := 33) rfl))) (mvT hZ (hw _ (List.mem_of_getElem? (i := 34) rfl))) (mvT hZ (hw _ (List.mem_of_getElem? (i := 35) rfl))) (mvT hZ (hw _ (List.mem_of_getElem? (i := 36) rfl))) (by decide) (backOfSH (s := s) (W := 0) (rm_ck l Z a0 hw [] hEL b335 t338 ([(100 : Int32), (111 : Int32), (99 : Int32), (107 : Int32), (101 : Int32), (114 : Int32), (46 : Int32), (c0 &&& (255 : Int32)), (111 : Int32)] : List Int32) gc h344 n0 (Nat.le_trans Z0 K345.1) SS338 S_C hcs O0) hZ (hw _ (List.mem_of_getElem? (i := 36) rfl)) (hw _ (List.mem_of_getElem? (i := 35) rfl)) (by decide) (by decide) hEL CH) (g := (mkF m 413 #[.val (.int mode), .val (.int pos), .val (.int c0), .val (.int c1), .val (.int c2), .val (.int (mode &&& (7 : Int32))), .val (.int (c0 &&& (255 : Int32))), .val (.int (c1 &&& (255 : Int32))), .val (.int (c2 &&& (255 : Int32))), .val (.ref b7), .val (.ref b335), .val (.int (1 : Int32)), .val (.ref a344), .unset] [(.ref b335)])) rfl (by rw [hml]; rfl) (argsL := [(.ref b335)]) (rest := []) (lenOf pd_4 rfl) rfl (by show 2 * 0 + _ ≤ _; exact Nat.le_of_eq rfl) (hb hby at_413) (fun _ _ => ⟨rfl, e344, (by decide : 5 + 4 ≤ _), (by decide : 134 + 152 ≤ _)⟩)
          dsimp only [Pt.U, Pt.locs, Pt.cells, Pt.slots] at X352 l352 y352 z352 st352 hQ352 hSn352 hgr352 CR352
          subst l352 y352 z352
          replace hS := foldS hS (show _ ≤ T344.heap.size by rw [e344]; exact hk) hSn352 hgr352
          replace hk : T352.heap.size ≤ T352.heap.size := Nat.le_refl _
          replace hZ : Z.Warmed39 (s.setVm T352.vm).vm := State.Warmed39.trans (t := s.setVm T344.vm) hZ hSn352.1
          replace hown : (s.setVm T352.vm).vm.findClass "com/example/laminate/laminate/core/DefaultRegistryCredentialsKeyPinLaw" = some m.cls := by rw [show (s.setVm T352.vm).vm = T352.vm from rfl, hSn352.1.alike.findClass]; exact hown
          replace X352 : Stand p l e room_1 (s.setVm T352.vm) m #[(.int mode), (.int pos), (.int c0), (.int c1), (.int c2)] below meth c T352 _ _ _ := X352
          replace S_b7 := CR352.safe V7.lt S_b7
          replace S_b335 := CR352.safe SS338.lt S_b335
          replace S_t338 := CR352.safe SS338.ltt S_t338
          replace CR := CR.trans CR352
          replace CH := CR352.1
          obtain ⟨N352q, KK352, hy352, hn352⟩ := hQ352
          have N352 := Fr.app N338 N352q
          obtain ⟨ra352, rb352, rfl, SR352⟩ := hy352 (by rw [← hc331])
          replace O0 := O0.keep KK352 all0
          replace V7 := V7.keep KK352 nin0
          replace SS338 := SS338.keep KK352 nin0 nin0
          replace SS344 := SS344.keep KK352 nin0 nin0
          have K353 := K345.trans KK352 all0
          refine own_go (fun _ kk_ => st352.trans kk_) ?_
          refine own_go (fun _ kk_ => XS.astore X352.here hx rfl (hb hby at_416) rfl rfl (l' := #[.val (.int mode), .val (.int pos), .val (.int c0), .val (.int c1), .val (.int c2), .val (.int (mode &&& (7 : Int32))), .val (.int (c0 &&& (255 : Int32))), .val (.int (c1 &&& (255 : Int32))), .val (.int (c2 &&& (255 : Int32))), .val (.ref b7), .val (.ref b335), .val (.int (1 : Int32)), .val (.ref a344), .val (.ref ra352)]) rfl kk_) ?_
          refine own_go (fun _ kk_ => XS.aload X352.here hx rfl (hb hby at_418) rfl rfl kk_) ?_
          refine own_go (fun _ kk_ => XS.aload X352.here hx rfl (hb hby at_420) rfl rfl kk_) ?_
          show own_Fin p.tables e below _ (T352.setTop (mkF m 422 #[.val (.int mode), .val (.int pos), .val (.int c0), .val (.int c1), .val (.int c2), .val (.int (mode &&& (7 : Int32))), .val (.int (c0 &&& (255 : Int32))), .val (.int (c1 &&& (255 : Int32))), .val (.int (c2 &&& (255 : Int32))), .val (.ref b7), .val (.ref b335), .val (.int (1 : Int32)), .val (.ref a344), .val (.ref ra352)] [(.ref ra352), (.ref a344)]))
          obtain ⟨cq354, kq354, qa354, qb354, qc354⟩ := isOf hZ rfl SS344.exa
          obtain ⟨_, _, ⟨T354, L354, k354, n354⟩, -, X354, ⟨Lc354, hQ354, l354, y354, z354⟩, st354⟩ := X352.virtualBack hx (y := (⟨"java/lang/String", "equals", "(Ljava/lang/Object;)Z"⟩ : MethodName)) (z := (⟨"java/lang/String", "equals", "(Ljava/lang/Object;)Z"⟩ : MethodName)) hown (mvT hZ (hw _ (List.mem_of_getElem? (i := 49) rfl))) (mvT hZ (hw _ (List.mem_of_getElem? (i := 39) rfl))) (own_notface (args := #[]) (mvT hZ (hw _ (List.mem_of_getElem? (i := 41) rfl))) rfl) (mvT hZ (hw _ (List.mem_of_getElem? (i := 41) rfl))) (mvT hZ (hw _ (List.mem_of_getElem? (i := 40) rfl))) (by decide) (own_eqB (W := 0) hZ heq (hw _ (List.mem_of_getElem? (i := 2) rfl)) SS344 SR352 (S_C.ext O0.2) hcs (by decide) (by decide)) qa354 qc354 (g := (mkF m 422 #[.val (.int mode), .val (.int pos), .val (.int c0), .val (.int c1), .val (.int c2), .val (.int (mode &&& (7 : Int32))), .val (.int (c0 &&& (255 : Int32))), .val (.int (c1 &&& (255 : Int32))), .val (.int (c2 &&& (255 : Int32))), .val (.ref b7), .val (.ref b335), .val (.int (1 : Int32)), .val (.ref a344), .val (.ref ra352)] [(.ref ra352), (.ref a344)])) rfl (by rw [hml]; rfl) (Steps.refl _) (argsL := [(.ref ra352)]) (rest := []) (lenOf pd_1 rfl) rfl (by show 2 * 0 + _ ≤ _; exact Nat.le_of_eq rfl) (hb hby at_422) (fun _ _ => ⟨rfl, rfl, (by decide : 9 + 0 ≤ _), (by decide : 286 + 0 ≤ _)⟩)
          dsimp only [Pt.U, Pt.locs, Pt.cells, Pt.slots] at X354 l354 y354 z354 st354 hQ354
          subst l354 y354 z354
          obtain ⟨hq354, rfl, e354⟩ := hQ354
          obtain ⟨z354, rfl, hz354⟩ := own_eqv hq354
          have N354 := Fr.app N352 (Fr.nil n0)
          obtain rfl : z354 = 1 := hz354.elim (fun q => q.1) (fun q => absurd rfl q.2)
          refine own_go (fun _ kk_ => st354.trans kk_) ?_
          show own_Fin p.tables e below _ (T354.setTop (mkF m 425 #[.val (.int mode), .val (.int pos), .val (.int c0), .val (.int c1), .val (.int c2), .val (.int (mode &&& (7 : Int32))), .val (.int (c0 &&& (255 : Int32))), .val (.int (c1 &&& (255 : Int32))), .val (.int (c2 &&& (255 : Int32))), .val (.ref b7), .val (.ref b335), .val (.int (1 : Int32)), .val (.ref a344), .val (.ref ra352)] [(.int (1 : Int32))]))
          have CRz : CHr Z consts_1 s.vm s.heap T354.vm T354.heap := by
            rw [hh, e354]
            exact CR.trans (CHv.at X354 hZ hEL CH)
          refine own_retW X354 hx Bd hS (show _ ≤ T354.heap.size by rw [e354]; exact hk) (t := .boolean) Bd.returns rfl (Or.inl ⟨rfl, by simp, _, rfl⟩) (hb hby at_425) CRz ?_ (by decide) (by decide)
          show (Q_rm_law Z mode pos c0 c1 c2 gc h0 n0) (some (.int (1 : Int32))) T354.heap _
          rw [e354]
          exact ⟨rfl, N354⟩
        · skip
          refine own_go (fun _ kk_ => XS.icmpYes X33.here hx rfl (pc0 := 129) (pc' := 136) rfl (hb hby at_129) rfl (feq hc331).2 (by decide) (by decide) kk_) ?_
          refine own_go (fun _ kk_ => XS.iconst X33.here hx rfl (hb hby at_136) kk_) ?_
          refine own_go (fun _ kk_ => XS.istore X33.here hx rfl (hb hby at_137) rfl (l' := #[.val (.int mode), .val (.int pos), .val (.int c0), .val (.int c1), .val (.int c2), .val (.int (mode &&& (7 : Int32))), .val (.int (c0 &&& (255 : Int32))), .val (.int (c1 &&& (255 : Int32))), .val (.int (c2 &&& (255 : Int32))), .val (.ref b7), .unset, .val (.int (0 : Int32)), .val (.int (7 : Int32)), .unset]) rfl kk_) ?_
          refine own_go (fun _ kk_ => XS.aload X33.here hx rfl (hb hby at_139) rfl rfl kk_) ?_
          refine own_go (fun _ kk_ => XS.iload X33.here hx rfl (hb hby at_141) rfl kk_) ?_
          refine own_go (fun _ kk_ => XS.iload X33.here hx rfl (hb hby at_143) rfl kk_) ?_
          show own_Fin p.tables e below _ (T33.setTop (mkF m 145 #[.val (.int mode), .val (.int pos), .val (.int c0), .val (.int c1), .val (.int c2), .val (.int (mode &&& (7 : Int32))), .val (.int (c0 &&& (255 : Int32))), .val (.int (c1 &&& (255 : Int32))), .val (.int (c2 &&& (255 : Int32))), .val (.ref b7), .unset, .val (.int (0 : Int32)), .val (.int (7 : Int32)), .unset] [(.int (c0 &&& (255 : Int32))), (.int (7 : Int32)), (.ref b7)]))
          obtain ⟨T355, h355, X355, e355, W355, V355, st355⟩ := own_stC X33 hx hZ e33 V7 (by decide) (i := 7) rfl (Nat.le_of_ble_eq_true rfl) (g := (mkF m 145 #[.val (.int mode), .val (.int pos), .val (.int c0), .val (.int c1), .val (.int c2), .val (.int (mode &&& (7 : Int32))), .val (.int (c0 &&& (255 : Int32))), .val (.int (c1 &&& (255 : Int32))), .val (.int (c2 &&& (255 : Int32))), .val (.ref b7), .unset, .val (.int (0 : Int32)), .val (.int (7 : Int32)), .unset] [(.int (c0 &&& (255 : Int32))), (.int (7 : Int32)), (.ref b7)])) rfl rfl (hb hby at_145)
          rw [own_nar255] at V355
          replace V7 : Arv Z h355 b7 k7 .char (9 : Int32) [(.int (100 : Int32)), (.int (111 : Int32)), (.int (99 : Int32)), (.int (107 : Int32)), (.int (101 : Int32)), (.int (114 : Int32)), (.int (46 : Int32)), (.int (c0 &&& (255 : Int32))), (.int (111 : Int32))] (.int (0 : Int32)) := V355
          have N355 := Fr.snoc X355 N33 g_b7
          refine own_go st355 ?_
          have sa356 := S_b7
          replace S_b7 := Safe.wr W355 sa356 CH S_b7
          replace CR := CR.trans (CHr.wr W355 sa356 CH)
          replace CH := CHv.wr W355 sa356 CH
          replace hk := Nat.le_trans hk (Keep.of_wr W355).1
          replace O0 := O0.wr W355 g_b7
          have K357 := K35.wr W355 (Or.inr sz_b7)
          show own_Fin p.tables e below _ (T355.setTop (mkF m 146 #[.val (.int mode), .val (.int pos), .val (.int c0), .val (.int c1), .val (.int c2), .val (.int (mode &&& (7 : Int32))), .val (.int (c0 &&& (255 : Int32))), .val (.int (c1 &&& (255 : Int32))), .val (.int (c2 &&& (255 : Int32))), .val (.ref b7), .unset, .val (.int (0 : Int32)), .val (.int (7 : Int32)), .unset] []))
          obtain ⟨T358, h358, X358, e358, E358, A358, D358, -, st358⟩ := newO X355 hx hZ hown (hw _ (List.mem_of_getElem? (i := 1) rfl)) (hw _ (List.mem_of_getElem? (i := 2) rfl)) (hw _ (List.mem_of_getElem? (i := 3) rfl)) e355 (g := (mkF m 146 #[.val (.int mode), .val (.int pos), .val (.int c0), .val (.int c1), .val (.int c2), .val (.int (mode &&& (7 : Int32))), .val (.int (c0 &&& (255 : Int32))), .val (.int (c1 &&& (255 : Int32))), .val (.int (c2 &&& (255 : Int32))), .val (.ref b7), .unset, .val (.int (0 : Int32)), .val (.int (7 : Int32)), .unset] [])) rfl (hb hby at_146) (by decide) (by decide)
          obtain ⟨b358, g358⟩ : ∃ z, z = h355.size := ⟨_, rfl⟩
          rw [← g358] at A358 D358 st358
          have sz_b358 : h0.size ≤ b358 := Nat.le_trans K357.1 (Nat.le_of_eq g358.symm)
          have g_b358 : n0 ≤ b358 := Nat.le_trans Z0 sz_b358
          have ne359 : b7 ≠ b358 := Nat.ne_of_lt (Nat.lt_of_lt_of_le V7.lt (Nat.le_of_eq g358.symm))
          have S_b358 := Safe.new (Z := Z) (EL := consts_1) (vm := s.vm) (Nat.le_of_eq g358.symm)
          replace S_b7 := Safe.ext E358 CH S_b7
          replace S_b358 := Safe.ext E358 CH S_b358
          replace CR := CR.trans (CHr.ext E358 CH)
          replace CH := CH.ext E358
          replace hk := Nat.le_trans hk E358.1
          replace O0 := O0.ext E358
          replace V7 := V7.ext E358
          have K360 := K357.ext E358
          have F358_coder : Fld Z h358 b358 "java/lang/String" "coder" "B" (.int (0 : Int32)) := D358 (Or.inr (hw _ (List.mem_of_getElem? (i := 27) rfl))) (ty := .byte) (by decide)
          have F358_value : Fld Z h358 b358 "java/lang/String" "value" "[B" .null := D358 (Or.inr (hw _ (List.mem_of_getElem? (i := 29) rfl))) (ty := (.array .byte)) (by decide)
          refine own_go st358 ?_
          refine own_go (fun _ kk_ => XS.dup X358.here hx rfl (hb hby at_149) rfl rfl kk_) ?_
          refine own_go (fun _ kk_ => XS.aload X358.here hx rfl (hb hby at_150) rfl rfl kk_) ?_
          show own_Fin p.tables e below _ (T358.setTop (mkF m 152 #[.val (.int mode), .val (.int pos), .val (.int c0), .val (.int c1), .val (.int c2), .val (.int (mode &&& (7 : Int32))), .val (.int (c0 &&& (255 : Int32))), .val (.int (c1 &&& (255 : Int32))), .val (.int (c2 &&& (255 : Int32))), .val (.ref b7), .unset, .val (.int (0 : Int32)), .val (.int (7 : Int32)), .unset] [(.ref b7), (.ref b358), (.ref b358)]))
          have hp362 : ∀ c ∈ ([(100 : Int32), (111 : Int32), (99 : Int32), (107 : Int32), (101 : Int32), (114 : Int32), (46 : Int32), (c0 &&& (255 : Int32)), (111 : Int32)] : List Int32), ¬ c < 0 ∧ ¬ (255 : Int32) < c := by
            intro c hc
            simp only [List.mem_cons, List.not_mem_nil, or_false] at hc
            rcases hc with rfl | rfl | rfl | rfl | rfl | rfl | rfl | rfl | rfl
            · exact by decide
            · exact by decide
            · exact by decide
            · exact by decide
            · exact by decide
            · exact by decide
            · exact by decide
            · exact own_and255 _
            · exact by decide
          obtain ⟨_, _, ⟨T361, L361, k361, n361⟩, -, X361, ⟨Lc361, hQ361, l361, y361, z361⟩, st361⟩ := X358.specialBack hx (y := (⟨"java/lang/String", "<init>", "([C)V"⟩ : MethodName)) rfl hown (mvT hZ (hw _ (List.mem_of_getElem? (i := 4) rfl))) (mvT hZ (hw _ (List.mem_of_getElem? (i := 5) rfl))) (mvT hZ (hw _ (List.mem_of_getElem? (i := 6) rfl))) (by decide) (StrChars.Road.backV (W := 1) hZ hws (kI := 4) (hw _ (List.mem_of_getElem? (i := 2) rfl)) (cs := ([(100 : Int32), (111 : Int32), (99 : Int32), (107 : Int32), (101 : Int32), (114 : Int32), (46 : Int32), (c0 &&& (255 : Int32)), (111 : Int32)] : List Int32)) (bs := (([(100 : Int32), (111 : Int32), (99 : Int32), (107 : Int32), (101 : Int32), (114 : Int32), (46 : Int32), (c0 &&& (255 : Int32)), (111 : Int32)] : List Int32)).map (fun c => c.toInt8.toInt32)) (n := 9) g_b358 (Nat.le_trans Z0 K360.1) A358 F358_value F358_coder V7 (S_C.ext O0.2) hcs rfl rfl (by decide) (by decide) hp362 rfl (by decide) (by decide)) (g := (mkF m 152 #[.val (.int mode), .val (.int pos), .val (.int c0), .val (.int c1), .val (.int c2), .val (.int (mode &&& (7 : Int32))), .val (.int (c0 &&& (255 : Int32))), .val (.int (c1 &&& (255 : Int32))), .val (.int (c2 &&& (255 : Int32))), .val (.ref b7), .unset, .val (.int (0 : Int32)), .val (.int (7 : Int32)), .unset] [(.ref b7), (.ref b358), (.ref b358)])) rfl (by rw [hml]; rfl) (Steps.refl _) (a := b358) (argsL := [(.ref b7)]) (rest := [(.ref b358)]) (lenOf pd_3 rfl) rfl (by show 2 * 0 + _ ≤ _; exact Nat.le_of_eq rfl) (hb hby at_152) (fun _ _ => ⟨rfl, e358, (by decide : 2 + 1 ≤ _), (by decide : 13 + 9 ≤ _)⟩)
          dsimp only [Pt.U, Pt.locs, Pt.cells, Pt.slots] at X361 l361 y361 z361 st361 hQ361
          subst l361 y361 z361
          obtain ⟨rfl, N361q, KK361, EE361, FC361, t361, kb361, gt361, szt361, netx361, FV361, VV361⟩ := hQ361
          have N361 := Fr.app N355 N361q
          have SS361 : own_Str Z T361.heap b358 t361 ([(100 : Int32), (111 : Int32), (99 : Int32), (107 : Int32), (101 : Int32), (114 : Int32), (46 : Int32), (c0 &&& (255 : Int32)), (111 : Int32)] : List Int32) := ⟨_, _, _, _, EE361, FV361, FC361, VV361, StrChars.Road.codOf (n := 9) rfl (fun c hc => (hp362 c hc).2), own_up _ hp362, Nat.le_of_ble_eq_true rfl⟩
          have sz_t361 : h0.size ≤ t361 := Nat.le_trans K360.1 szt361
          have ne363 : b7 ≠ t361 := Nat.ne_of_lt (Nat.lt_of_lt_of_le V7.lt szt361)
          have ne364 : b358 ≠ t361 := Nat.ne_of_lt (Nat.lt_of_lt_of_le A358.lt szt361)
          have S_t361 := Safe.new (Z := Z) (EL := consts_1) (vm := s.vm) szt361
          have hs365 : ∀ x ∈ [b358], Safe Z consts_1 s.vm h358 x := (sfS S_b358 sf0)
          replace S_b7 := Safe.keep KK361 hs365 CH S_b7
          replace S_b358 := Safe.keep KK361 hs365 CH S_b358
          replace S_t361 := Safe.keep KK361 hs365 CH S_t361
          replace CR := CR.trans (CHr.keep KK361 hs365 CH)
          replace CH := CHv.keep KK361 hs365 CH
          replace hk := Nat.le_trans hk KK361.1
          replace O0 := O0.keep KK361 (allS g_b358 (all0))
          replace V7 := V7.keep KK361 (ninS ne359 nin0)
          replace A358 := A358.keep KK361
          have K366 := K360.trans KK361 (allS (Or.inr sz_b358) all0)
          refine own_go (fun _ kk_ => st361.trans kk_) ?_
          refine own_go (fun _ kk_ => XS.astore X361.here hx rfl (hb hby at_155) rfl rfl (l' := #[.val (.int mode), .val (.int pos), .val (.int c0), .val (.int c1), .val (.int c2), .val (.int (mode &&& (7 : Int32))), .val (.int (c0 &&& (255 : Int32))), .val (.int (c1 &&& (255 : Int32))), .val (.int (c2 &&& (255 : Int32))), .val (.ref b7), .val (.ref b358), .val (.int (0 : Int32)), .val (.int (7 : Int32)), .unset]) rfl kk_) ?_
          refine own_go (fun _ kk_ => XS.goto X361.here hx rfl (pc0 := 157) (pc' := 397) rfl (hb hby at_157) (by decide) (by decide) kk_) ?_
          refine own_go (fun _ kk_ => XS.iload X361.here hx rfl (hb hby at_397) rfl kk_) ?_
          show own_Fin p.tables e below _ (T361.setTop (mkF m 399 #[.val (.int mode), .val (.int pos), .val (.int c0), .val (.int c1), .val (.int c2), .val (.int (mode &&& (7 : Int32))), .val (.int (c0 &&& (255 : Int32))), .val (.int (c1 &&& (255 : Int32))), .val (.int (c2 &&& (255 : Int32))), .val (.ref b7), .val (.ref b358), .val (.int (0 : Int32)), .val (.int (7 : Int32)), .unset] [(.int (0 : Int32))]))
          refine own_go (fun _ kk_ => XS.ifYes X361.here hx rfl (pc0 := 399) (pc' := 407) rfl (hb hby at_399) rfl ((if0 _ _).trans (teq (by decide : (0 : Int32) = (0 : Int32))).1) (by decide) (by decide) kk_) ?_
          refine own_go (fun _ kk_ => XS.aload X361.here hx rfl (hb hby at_407) rfl rfl kk_) ?_
          refine own_go (fun _ kk_ => XS.astore X361.here hx rfl (hb hby at_409) rfl rfl (l' := #[.val (.int mode), .val (.int pos), .val (.int c0), .val (.int c1), .val (.int c2), .val (.int (mode &&& (7 : Int32))), .val (.int (c0 &&& (255 : Int32))), .val (.int (c1 &&& (255 : Int32))), .val (.int (c2 &&& (255 : Int32))), .val (.ref b7), .val (.ref b358), .val (.int (0 : Int32)), .val (.ref b358), .unset]) rfl kk_) ?_
          refine own_go (fun _ kk_ => XS.aload X361.here hx rfl (hb hby at_411) rfl rfl kk_) ?_
          show own_Fin p.tables e below _ (T361.setTop (mkF m 413 #[.val (.int mode), .val (.int pos), .val (.int c0), .val (.int c1), .val (.int c2), .val (.int (mode &&& (7 : Int32))), .val (.int (c0 &&& (255 : Int32))), .val (.int (c1 &&& (255 : Int32))), .val (.int (c2 &&& (255 : Int32))), .val (.ref b7), .val (.ref b358), .val (.int (0 : Int32)), .val (.ref b358), .unset] [(.ref b358)]))
          obtain ⟨_, _, ⟨T367, L367, k367, n367⟩, -, X367, hSn367, hgr367, ⟨Lc367, hQ367, l367, y367, z367, CR367⟩, st367⟩ := callSS X361 hx (y := (⟨"com/example/laminate/laminate/core/DefaultRegistry", "credentialsKey", "(Ljava/lang/String;)Ljava/lang/String;"⟩ : MethodName)) hown (mvT hZ (hw _ (List.mem_of_getElem? (i := 33) rfl))) (mvT hZ (hw _ (List.mem_of_getElem? (i := 34) rfl))) (mvT hZ (hw _ (List.mem_of_getElem? (i := 35) rfl))) (mvT hZ (hw _ (List.mem_of_getElem? (i := 36) rfl))) (by decide) (backOfSH (s := s) (W := 0) (rm_ck l Z a0 hw [] hEL b358 t361 ([(100 : Int32), (111 : Int32), (99 : Int32), (107 : Int32), (101 : Int32), (114 : Int32), (46 : Int32), (c0 &&& (255 : Int32)), (111 : Int32)] : List Int32) gc T361.heap n0 (Nat.le_trans Z0 K366.1) SS361 S_C hcs O0) hZ (hw _ (List.mem_of_getElem? (i := 36) rfl)) (hw _ (List.mem_of_getElem? (i := 35) rfl)) (by decide) (by decide) hEL CH) (g := (mkF m 413 #[.val (.int mode), .val (.int pos), .val (.int c0), .val (.int c1), .val (.int c2), .val (.int (mode &&& (7 : Int32))), .val (.int (c0 &&& (255 : Int32))), .val (.int (c1 &&& (255 : Int32))), .val (.int (c2 &&& (255 : Int32))), .val (.ref b7), .val (.ref b358), .val (.int (0 : Int32)), .val (.ref b358), .unset] [(.ref b358)])) rfl (by rw [hml]; rfl) (argsL := [(.ref b358)]) (rest := []) (lenOf pd_4 rfl) rfl (by show 2 * 0 + _ ≤ _; exact Nat.le_of_eq rfl) (hb hby at_413) (fun _ _ => ⟨rfl, rfl, (by decide : 3 + 4 ≤ _), (by decide : 22 + 152 ≤ _)⟩)
          dsimp only [Pt.U, Pt.locs, Pt.cells, Pt.slots] at X367 l367 y367 z367 st367 hQ367 hSn367 hgr367 CR367
          subst l367 y367 z367
          replace hS := foldS hS hk hSn367 hgr367
          replace hk : T367.heap.size ≤ T367.heap.size := Nat.le_refl _
          replace hZ : Z.Warmed39 (s.setVm T367.vm).vm := State.Warmed39.trans (t := s.setVm s.vm) hZ hSn367.1
          replace hown : (s.setVm T367.vm).vm.findClass "com/example/laminate/laminate/core/DefaultRegistryCredentialsKeyPinLaw" = some m.cls := by rw [show (s.setVm T367.vm).vm = T367.vm from rfl, hSn367.1.alike.findClass]; exact hown
          replace X367 : Stand p l e room_1 (s.setVm T367.vm) m #[(.int mode), (.int pos), (.int c0), (.int c1), (.int c2)] below meth c T367 _ _ _ := X367
          replace S_b7 := CR367.safe V7.lt S_b7
          replace S_b358 := CR367.safe SS361.lt S_b358
          replace S_t361 := CR367.safe SS361.ltt S_t361
          replace CR := CR.trans CR367
          replace CH := CR367.1
          obtain ⟨N367q, KK367, hy367, hn367⟩ := hQ367
          have N367 := Fr.app N361 N367q
          obtain rfl := hn367 (by simp; exact fun q => hc331 q.symm)
          replace O0 := O0.keep KK367 all0
          replace V7 := V7.keep KK367 nin0
          replace SS361 := SS361.keep KK367 nin0 nin0
          have K368 := K366.trans KK367 all0
          refine own_go (fun _ kk_ => st367.trans kk_) ?_
          refine own_go (fun _ kk_ => XS.astore X367.here hx rfl (hb hby at_416) rfl rfl (l' := #[.val (.int mode), .val (.int pos), .val (.int c0), .val (.int c1), .val (.int c2), .val (.int (mode &&& (7 : Int32))), .val (.int (c0 &&& (255 : Int32))), .val (.int (c1 &&& (255 : Int32))), .val (.int (c2 &&& (255 : Int32))), .val (.ref b7), .val (.ref b358), .val (.int (0 : Int32)), .val (.ref b358), .val (.ref b358)]) rfl kk_) ?_
          refine own_go (fun _ kk_ => XS.aload X367.here hx rfl (hb hby at_418) rfl rfl kk_) ?_
          refine own_go (fun _ kk_ => XS.aload X367.here hx rfl (hb hby at_420) rfl rfl kk_) ?_
          show own_Fin p.tables e below _ (T367.setTop (mkF m 422 #[.val (.int mode), .val (.int pos), .val (.int c0), .val (.int c1), .val (.int c2), .val (.int (mode &&& (7 : Int32))), .val (.int (c0 &&& (255 : Int32))), .val (.int (c1 &&& (255 : Int32))), .val (.int (c2 &&& (255 : Int32))), .val (.ref b7), .val (.ref b358), .val (.int (0 : Int32)), .val (.ref b358), .val (.ref b358)] [(.ref b358), (.ref b358)]))
          obtain ⟨cq369, kq369, qa369, qb369, qc369⟩ := isOf hZ rfl SS361.exa
          obtain ⟨_, _, ⟨T369, L369, k369, n369⟩, -, X369, ⟨Lc369, hQ369, l369, y369, z369⟩, st369⟩ := X367.virtualBack hx (y := (⟨"java/lang/String", "equals", "(Ljava/lang/Object;)Z"⟩ : MethodName)) (z := (⟨"java/lang/String", "equals", "(Ljava/lang/Object;)Z"⟩ : MethodName)) hown (mvT hZ (hw _ (List.mem_of_getElem? (i := 49) rfl))) (mvT hZ (hw _ (List.mem_of_getElem? (i := 39) rfl))) (own_notface (args := #[]) (mvT hZ (hw _ (List.mem_of_getElem? (i := 41) rfl))) rfl) (mvT hZ (hw _ (List.mem_of_getElem? (i := 41) rfl))) (mvT hZ (hw _ (List.mem_of_getElem? (i := 40) rfl))) (by decide) (own_eqB (W := 0) hZ heq (hw _ (List.mem_of_getElem? (i := 2) rfl)) SS361 SS361 (S_C.ext O0.2) hcs (by decide) (by decide)) qa369 qc369 (g := (mkF m 422 #[.val (.int mode), .val (.int pos), .val (.int c0), .val (.int c1), .val (.int c2), .val (.int (mode &&& (7 : Int32))), .val (.int (c0 &&& (255 : Int32))), .val (.int (c1 &&& (255 : Int32))), .val (.int (c2 &&& (255 : Int32))), .val (.ref b7), .val (.ref b358), .val (.int (0 : Int32)), .val (.ref b358), .val (.ref b358)] [(.ref b358), (.ref b358)])) rfl (by rw [hml]; rfl) (Steps.refl _) (argsL := [(.ref b358)]) (rest := []) (lenOf pd_1 rfl) rfl (by show 2 * 0 + _ ≤ _; exact Nat.le_of_eq rfl) (hb hby at_422) (fun _ _ => ⟨rfl, rfl, (by decide : 7 + 0 ≤ _), (by decide : 174 + 0 ≤ _)⟩)
          dsimp only [Pt.U, Pt.locs, Pt.cells, Pt.slots] at X369 l369 y369 z369 st369 hQ369
          subst l369 y369 z369
          obtain ⟨hq369, rfl, e369⟩ := hQ369
          obtain ⟨z369, rfl, hz369⟩ := own_eqv hq369
          have N369 := Fr.app N367 (Fr.nil n0)
          obtain rfl : z369 = 1 := hz369.elim (fun q => q.1) (fun q => absurd rfl q.2)
          refine own_go (fun _ kk_ => st369.trans kk_) ?_
          show own_Fin p.tables e below _ (T369.setTop (mkF m 425 #[.val (.int mode), .val (.int pos), .val (.int c0), .val (.int c1), .val (.int c2), .val (.int (mode &&& (7 : Int32))), .val (.int (c0 &&& (255 : Int32))), .val (.int (c1 &&& (255 : Int32))), .val (.int (c2 &&& (255 : Int32))), .val (.ref b7), .val (.ref b358), .val (.int (0 : Int32)), .val (.ref b358), .val (.ref b358)] [(.int (1 : Int32))]))
          have CRz : CHr Z consts_1 s.vm s.heap T369.vm T369.heap := by
            rw [hh, e369]
            exact CR.trans (CHv.at X369 hZ hEL CH)
          refine own_retW X369 hx Bd hS (show _ ≤ T369.heap.size by rw [e369]; exact hk) (t := .boolean) Bd.returns rfl (Or.inl ⟨rfl, by simp, _, rfl⟩) (hb hby at_425) CRz ?_ (by decide) (by decide)
          show (Q_rm_law Z mode pos c0 c1 c2 gc h0 n0) (some (.int (1 : Int32))) T369.heap _
          rw [e369]
          exact ⟨rfl, N369⟩
      · skip
        show own_Fin p.tables e below _ (T33.setTop (mkF m 122 #[.val (.int mode), .val (.int pos), .val (.int c0), .val (.int c1), .val (.int c2), .val (.int (mode &&& (7 : Int32))), .val (.int (c0 &&& (255 : Int32))), .val (.int (c1 &&& (255 : Int32))), .val (.int (c2 &&& (255 : Int32))), .val (.ref b7), .unset, .unset, .val (.int ((pos &&& (2147483647 : Int32)) % (9 : Int32))), .unset] []))
        rw [hs9]
        refine own_go (fun _ kk_ => XS.aload X33.here hx rfl (hb hby at_122) rfl rfl kk_) ?_
        refine own_go (fun _ kk_ => XS.iload X33.here hx rfl (hb hby at_124) rfl kk_) ?_
        show own_Fin p.tables e below _ (T33.setTop (mkF m 126 #[.val (.int mode), .val (.int pos), .val (.int c0), .val (.int c1), .val (.int c2), .val (.int (mode &&& (7 : Int32))), .val (.int (c0 &&& (255 : Int32))), .val (.int (c1 &&& (255 : Int32))), .val (.int (c2 &&& (255 : Int32))), .val (.ref b7), .unset, .unset, .val (.int (8 : Int32)), .unset] [(.int (8 : Int32)), (.ref b7)]))
        refine own_go (fun _ kk_ => own_caload X33 hx hZ e33 V7 (by decide) (v := (.int (111 : Int32))) (rfl) (g := (mkF m 126 #[.val (.int mode), .val (.int pos), .val (.int c0), .val (.int c1), .val (.int c2), .val (.int (mode &&& (7 : Int32))), .val (.int (c0 &&& (255 : Int32))), .val (.int (c1 &&& (255 : Int32))), .val (.int (c2 &&& (255 : Int32))), .val (.ref b7), .unset, .unset, .val (.int (8 : Int32)), .unset] [(.int (8 : Int32)), (.ref b7)])) rfl rfl (hb hby at_126) _ kk_) ?_
        refine own_go (fun _ kk_ => XS.iload X33.here hx rfl (hb hby at_127) rfl kk_) ?_
        show own_Fin p.tables e below _ (T33.setTop (mkF m 129 #[.val (.int mode), .val (.int pos), .val (.int c0), .val (.int c1), .val (.int c2), .val (.int (mode &&& (7 : Int32))), .val (.int (c0 &&& (255 : Int32))), .val (.int (c1 &&& (255 : Int32))), .val (.int (c2 &&& (255 : Int32))), .val (.ref b7), .unset, .unset, .val (.int (8 : Int32)), .unset] [(.int (c0 &&& (255 : Int32))), (.int (111 : Int32))]))
        by_cases hc370 : (111 : Int32) = (c0 &&& (255 : Int32))
        · skip
          refine own_go (fun _ kk_ => XS.icmpNo X33.here hx rfl (hb hby at_129) rfl (teq hc370).2 kk_) ?_
          refine own_go (fun _ kk_ => XS.iconst X33.here hx rfl (hb hby at_132) kk_) ?_
          refine own_go (fun _ kk_ => XS.goto X33.here hx rfl (pc0 := 133) (pc' := 137) rfl (hb hby at_133) (by decide) (by decide) kk_) ?_
          refine own_go (fun _ kk_ => XS.istore X33.here hx rfl (hb hby at_137) rfl (l' := #[.val (.int mode), .val (.int pos), .val (.int c0), .val (.int c1), .val (.int c2), .val (.int (mode &&& (7 : Int32))), .val (.int (c0 &&& (255 : Int32))), .val (.int (c1 &&& (255 : Int32))), .val (.int (c2 &&& (255 : Int32))), .val (.ref b7), .unset, .val (.int (1 : Int32)), .val (.int (8 : Int32)), .unset]) rfl kk_) ?_
          refine own_go (fun _ kk_ => XS.aload X33.here hx rfl (hb hby at_139) rfl rfl kk_) ?_
          refine own_go (fun _ kk_ => XS.iload X33.here hx rfl (hb hby at_141) rfl kk_) ?_
          refine own_go (fun _ kk_ => XS.iload X33.here hx rfl (hb hby at_143) rfl kk_) ?_
          show own_Fin p.tables e below _ (T33.setTop (mkF m 145 #[.val (.int mode), .val (.int pos), .val (.int c0), .val (.int c1), .val (.int c2), .val (.int (mode &&& (7 : Int32))), .val (.int (c0 &&& (255 : Int32))), .val (.int (c1 &&& (255 : Int32))), .val (.int (c2 &&& (255 : Int32))), .val (.ref b7), .unset, .val (.int (1 : Int32)), .val (.int (8 : Int32)), .unset] [(.int (c0 &&& (255 : Int32))), (.int (8 : Int32)), (.ref b7)]))
          obtain ⟨T371, h371, X371, e371, W371, V371, st371⟩ := own_stC X33 hx hZ e33 V7 (by decide) (i := 8) rfl (Nat.le_of_ble_eq_true rfl) (g := (mkF m 145 #[.val (.int mode), .val (.int pos), .val (.int c0), .val (.int c1), .val (.int c2), .val (.int (mode &&& (7 : Int32))), .val (.int (c0 &&& (255 : Int32))), .val (.int (c1 &&& (255 : Int32))), .val (.int (c2 &&& (255 : Int32))), .val (.ref b7), .unset, .val (.int (1 : Int32)), .val (.int (8 : Int32)), .unset] [(.int (c0 &&& (255 : Int32))), (.int (8 : Int32)), (.ref b7)])) rfl rfl (hb hby at_145)
          rw [own_nar255] at V371
          replace V7 : Arv Z h371 b7 k7 .char (9 : Int32) [(.int (100 : Int32)), (.int (111 : Int32)), (.int (99 : Int32)), (.int (107 : Int32)), (.int (101 : Int32)), (.int (114 : Int32)), (.int (46 : Int32)), (.int (105 : Int32)), (.int (c0 &&& (255 : Int32)))] (.int (0 : Int32)) := V371
          have N371 := Fr.snoc X371 N33 g_b7
          refine own_go st371 ?_
          have sa372 := S_b7
          replace S_b7 := Safe.wr W371 sa372 CH S_b7
          replace CR := CR.trans (CHr.wr W371 sa372 CH)
          replace CH := CHv.wr W371 sa372 CH
          replace hk := Nat.le_trans hk (Keep.of_wr W371).1
          replace O0 := O0.wr W371 g_b7
          have K373 := K35.wr W371 (Or.inr sz_b7)
          show own_Fin p.tables e below _ (T371.setTop (mkF m 146 #[.val (.int mode), .val (.int pos), .val (.int c0), .val (.int c1), .val (.int c2), .val (.int (mode &&& (7 : Int32))), .val (.int (c0 &&& (255 : Int32))), .val (.int (c1 &&& (255 : Int32))), .val (.int (c2 &&& (255 : Int32))), .val (.ref b7), .unset, .val (.int (1 : Int32)), .val (.int (8 : Int32)), .unset] []))
          obtain ⟨T374, h374, X374, e374, E374, A374, D374, -, st374⟩ := newO X371 hx hZ hown (hw _ (List.mem_of_getElem? (i := 1) rfl)) (hw _ (List.mem_of_getElem? (i := 2) rfl)) (hw _ (List.mem_of_getElem? (i := 3) rfl)) e371 (g := (mkF m 146 #[.val (.int mode), .val (.int pos), .val (.int c0), .val (.int c1), .val (.int c2), .val (.int (mode &&& (7 : Int32))), .val (.int (c0 &&& (255 : Int32))), .val (.int (c1 &&& (255 : Int32))), .val (.int (c2 &&& (255 : Int32))), .val (.ref b7), .unset, .val (.int (1 : Int32)), .val (.int (8 : Int32)), .unset] [])) rfl (hb hby at_146) (by decide) (by decide)
          obtain ⟨b374, g374⟩ : ∃ z, z = h371.size := ⟨_, rfl⟩
          rw [← g374] at A374 D374 st374
          have sz_b374 : h0.size ≤ b374 := Nat.le_trans K373.1 (Nat.le_of_eq g374.symm)
          have g_b374 : n0 ≤ b374 := Nat.le_trans Z0 sz_b374
          have ne375 : b7 ≠ b374 := Nat.ne_of_lt (Nat.lt_of_lt_of_le V7.lt (Nat.le_of_eq g374.symm))
          have S_b374 := Safe.new (Z := Z) (EL := consts_1) (vm := s.vm) (Nat.le_of_eq g374.symm)
          replace S_b7 := Safe.ext E374 CH S_b7
          replace S_b374 := Safe.ext E374 CH S_b374
          replace CR := CR.trans (CHr.ext E374 CH)
          replace CH := CH.ext E374
          replace hk := Nat.le_trans hk E374.1
          replace O0 := O0.ext E374
          replace V7 := V7.ext E374
          have K376 := K373.ext E374
          have F374_coder : Fld Z h374 b374 "java/lang/String" "coder" "B" (.int (0 : Int32)) := D374 (Or.inr (hw _ (List.mem_of_getElem? (i := 27) rfl))) (ty := .byte) (by decide)
          have F374_value : Fld Z h374 b374 "java/lang/String" "value" "[B" .null := D374 (Or.inr (hw _ (List.mem_of_getElem? (i := 29) rfl))) (ty := (.array .byte)) (by decide)
          refine own_go st374 ?_
          refine own_go (fun _ kk_ => XS.dup X374.here hx rfl (hb hby at_149) rfl rfl kk_) ?_
          refine own_go (fun _ kk_ => XS.aload X374.here hx rfl (hb hby at_150) rfl rfl kk_) ?_
          show own_Fin p.tables e below _ (T374.setTop (mkF m 152 #[.val (.int mode), .val (.int pos), .val (.int c0), .val (.int c1), .val (.int c2), .val (.int (mode &&& (7 : Int32))), .val (.int (c0 &&& (255 : Int32))), .val (.int (c1 &&& (255 : Int32))), .val (.int (c2 &&& (255 : Int32))), .val (.ref b7), .unset, .val (.int (1 : Int32)), .val (.int (8 : Int32)), .unset] [(.ref b7), (.ref b374), (.ref b374)]))
          have hp378 : ∀ c ∈ ([(100 : Int32), (111 : Int32), (99 : Int32), (107 : Int32), (101 : Int32), (114 : Int32), (46 : Int32), (105 : Int32), (c0 &&& (255 : Int32))] : List Int32), ¬ c < 0 ∧ ¬ (255 : Int32) < c := by
            intro c hc
            simp only [List.mem_cons, List.not_mem_nil, or_false] at hc
            rcases hc with rfl | rfl | rfl | rfl | rfl | rfl | rfl | rfl | rfl
            · exact by decide
            · exact by decide
            · exact by decide
            · exact by decide
            · exact by decide
            · exact by decide
            · exact by decide
            · exact by decide
            · exact own_and255 _
          obtain ⟨_, _, ⟨T377, L377, k377, n377⟩, -, X377, ⟨Lc377, hQ377, l377, y377, z377⟩, st377⟩ := X374.specialBack hx (y := (⟨"java/lang/String", "<init>", "([C)V"⟩ : MethodName)) rfl hown (mvT hZ (hw _ (List.mem_of_getElem? (i := 4) rfl))) (mvT hZ (hw _ (List.mem_of_getElem? (i := 5) rfl))) (mvT hZ (hw _ (List.mem_of_getElem? (i := 6) rfl))) (by decide) (StrChars.Road.backV (W := 1) hZ hws (kI := 4) (hw _ (List.mem_of_getElem? (i := 2) rfl)) (cs := ([(100 : Int32), (111 : Int32), (99 : Int32), (107 : Int32), (101 : Int32), (114 : Int32), (46 : Int32), (105 : Int32), (c0 &&& (255 : Int32))] : List Int32)) (bs := (([(100 : Int32), (111 : Int32), (99 : Int32), (107 : Int32), (101 : Int32), (114 : Int32), (46 : Int32), (105 : Int32), (c0 &&& (255 : Int32))] : List Int32)).map (fun c => c.toInt8.toInt32)) (n := 9) g_b374 (Nat.le_trans Z0 K376.1) A374 F374_value F374_coder V7 (S_C.ext O0.2) hcs rfl rfl (by decide) (by decide) hp378 rfl (by decide) (by decide)) (g := (mkF m 152 #[.val (.int mode), .val (.int pos), .val (.int c0), .val (.int c1), .val (.int c2), .val (.int (mode &&& (7 : Int32))), .val (.int (c0 &&& (255 : Int32))), .val (.int (c1 &&& (255 : Int32))), .val (.int (c2 &&& (255 : Int32))), .val (.ref b7), .unset, .val (.int (1 : Int32)), .val (.int (8 : Int32)), .unset] [(.ref b7), (.ref b374), (.ref b374)])) rfl (by rw [hml]; rfl) (Steps.refl _) (a := b374) (argsL := [(.ref b7)]) (rest := [(.ref b374)]) (lenOf pd_3 rfl) rfl (by show 2 * 0 + _ ≤ _; exact Nat.le_of_eq rfl) (hb hby at_152) (fun _ _ => ⟨rfl, e374, (by decide : 2 + 1 ≤ _), (by decide : 13 + 9 ≤ _)⟩)
          dsimp only [Pt.U, Pt.locs, Pt.cells, Pt.slots] at X377 l377 y377 z377 st377 hQ377
          subst l377 y377 z377
          obtain ⟨rfl, N377q, KK377, EE377, FC377, t377, kb377, gt377, szt377, netx377, FV377, VV377⟩ := hQ377
          have N377 := Fr.app N371 N377q
          have SS377 : own_Str Z T377.heap b374 t377 ([(100 : Int32), (111 : Int32), (99 : Int32), (107 : Int32), (101 : Int32), (114 : Int32), (46 : Int32), (105 : Int32), (c0 &&& (255 : Int32))] : List Int32) := ⟨_, _, _, _, EE377, FV377, FC377, VV377, StrChars.Road.codOf (n := 9) rfl (fun c hc => (hp378 c hc).2), own_up _ hp378, Nat.le_of_ble_eq_true rfl⟩
          have sz_t377 : h0.size ≤ t377 := Nat.le_trans K376.1 szt377
          have ne379 : b7 ≠ t377 := Nat.ne_of_lt (Nat.lt_of_lt_of_le V7.lt szt377)
          have ne380 : b374 ≠ t377 := Nat.ne_of_lt (Nat.lt_of_lt_of_le A374.lt szt377)
          have S_t377 := Safe.new (Z := Z) (EL := consts_1) (vm := s.vm) szt377
          have hs381 : ∀ x ∈ [b374], Safe Z consts_1 s.vm h374 x := (sfS S_b374 sf0)
          replace S_b7 := Safe.keep KK377 hs381 CH S_b7
          replace S_b374 := Safe.keep KK377 hs381 CH S_b374
          replace S_t377 := Safe.keep KK377 hs381 CH S_t377
          replace CR := CR.trans (CHr.keep KK377 hs381 CH)
          replace CH := CHv.keep KK377 hs381 CH
          replace hk := Nat.le_trans hk KK377.1
          replace O0 := O0.keep KK377 (allS g_b374 (all0))
          replace V7 := V7.keep KK377 (ninS ne375 nin0)
          replace A374 := A374.keep KK377
          have K382 := K376.trans KK377 (allS (Or.inr sz_b374) all0)
          refine own_go (fun _ kk_ => st377.trans kk_) ?_
          refine own_go (fun _ kk_ => XS.astore X377.here hx rfl (hb hby at_155) rfl rfl (l' := #[.val (.int mode), .val (.int pos), .val (.int c0), .val (.int c1), .val (.int c2), .val (.int (mode &&& (7 : Int32))), .val (.int (c0 &&& (255 : Int32))), .val (.int (c1 &&& (255 : Int32))), .val (.int (c2 &&& (255 : Int32))), .val (.ref b7), .val (.ref b374), .val (.int (1 : Int32)), .val (.int (8 : Int32)), .unset]) rfl kk_) ?_
          refine own_go (fun _ kk_ => XS.goto X377.here hx rfl (pc0 := 157) (pc' := 397) rfl (hb hby at_157) (by decide) (by decide) kk_) ?_
          refine own_go (fun _ kk_ => XS.iload X377.here hx rfl (hb hby at_397) rfl kk_) ?_
          show own_Fin p.tables e below _ (T377.setTop (mkF m 399 #[.val (.int mode), .val (.int pos), .val (.int c0), .val (.int c1), .val (.int c2), .val (.int (mode &&& (7 : Int32))), .val (.int (c0 &&& (255 : Int32))), .val (.int (c1 &&& (255 : Int32))), .val (.int (c2 &&& (255 : Int32))), .val (.ref b7), .val (.ref b374), .val (.int (1 : Int32)), .val (.int (8 : Int32)), .unset] [(.int (1 : Int32))]))
          refine own_go (fun _ kk_ => XS.ifNo X377.here hx rfl (hb hby at_399) rfl ((if0 _ _).trans (feq (by decide : ¬ (1 : Int32) = (0 : Int32))).1) kk_) ?_
          show own_Fin p.tables e below _ (T377.setTop (mkF m 402 #[.val (.int mode), .val (.int pos), .val (.int c0), .val (.int c1), .val (.int c2), .val (.int (mode &&& (7 : Int32))), .val (.int (c0 &&& (255 : Int32))), .val (.int (c1 &&& (255 : Int32))), .val (.int (c2 &&& (255 : Int32))), .val (.ref b7), .val (.ref b374), .val (.int (1 : Int32)), .val (.int (8 : Int32)), .unset] []))
          obtain ⟨a383, T383, h383, k383, tb383, kb383, X383, e383, E383, hS, hk, hZ, hown, EA383, FC383, FV383, VB383, -, -, CR383, -, NE383, st383⟩ := ldcCH X377 hx hZ hown (hw _ (List.mem_of_getElem? (i := 30) rfl)) wS rfl hS hk hEL (by decide) CH (vs := ((([(104 : Int32), (116 : Int32), (116 : Int32), (112 : Int32), (115 : Int32), (58 : Int32), (47 : Int32), (47 : Int32), (105 : Int32), (110 : Int32), (100 : Int32), (101 : Int32), (120 : Int32), (46 : Int32), (100 : Int32), (111 : Int32), (99 : Int32), (107 : Int32), (101 : Int32), (114 : Int32), (46 : Int32), (105 : Int32), (111 : Int32), (47 : Int32), (118 : Int32), (49 : Int32), (47 : Int32)] : List Int32).map (fun c => c.toInt8.toInt32)).map Value.int)) (z := (27 : Int32)) (by exact ⟨by decide, by decide⟩) (by decide) rfl (g := (mkF m 402 #[.val (.int mode), .val (.int pos), .val (.int c0), .val (.int c1), .val (.int c2), .val (.int (mode &&& (7 : Int32))), .val (.int (c0 &&& (255 : Int32))), .val (.int (c1 &&& (255 : Int32))), .val (.int (c2 &&& (255 : Int32))), .val (.ref b7), .val (.ref b374), .val (.int (1 : Int32)), .val (.int (8 : Int32)), .unset] [])) rfl (hb hby at_402) (n := 108) (by decide) (by decide) (by decide) (by decide)
          replace S_b7 := CR383.safe V7.lt S_b7
          replace S_b374 := CR383.safe SS377.lt S_b374
          replace S_t377 := CR383.safe SS377.ltt S_t377
          replace CR := CR.trans CR383
          replace CH := CR383.1
          replace O0 := O0.ext E383
          replace V7 := V7.ext E383
          replace SS377 := SS377.ext E383
          have K384 := K382.ext E383
          have ne385 : b7 ≠ a383 := (NE383 _ S_b7).1
          have ne386 : b7 ≠ tb383 := (NE383 _ S_b7).2
          have ne387 : b374 ≠ a383 := (NE383 _ S_b374).1
          have ne388 : b374 ≠ tb383 := (NE383 _ S_b374).2
          have ne389 : t377 ≠ a383 := (NE383 _ S_t377).1
          have ne390 : t377 ≠ tb383 := (NE383 _ S_t377).2
          have SS383 : own_Str Z h383 a383 tb383 ([(104 : Int32), (116 : Int32), (116 : Int32), (112 : Int32), (115 : Int32), (58 : Int32), (47 : Int32), (47 : Int32), (105 : Int32), (110 : Int32), (100 : Int32), (101 : Int32), (120 : Int32), (46 : Int32), (100 : Int32), (111 : Int32), (99 : Int32), (107 : Int32), (101 : Int32), (114 : Int32), (46 : Int32), (105 : Int32), (111 : Int32), (47 : Int32), (118 : Int32), (49 : Int32), (47 : Int32)] : List Int32) := ⟨_, _, _, _, EA383, FV383, FC383, VB383, StrChars.Road.codOf (n := 27) rfl (by decide), by decide, Nat.le_of_ble_eq_true rfl⟩
          refine own_go st383 ?_
          refine own_go (fun _ kk_ => XS.goto X383.here hx rfl (pc0 := 404) (pc' := 409) rfl (hb hby at_404) (by decide) (by decide) kk_) ?_
          refine own_go (fun _ kk_ => XS.astore X383.here hx rfl (hb hby at_409) rfl rfl (l' := #[.val (.int mode), .val (.int pos), .val (.int c0), .val (.int c1), .val (.int c2), .val (.int (mode &&& (7 : Int32))), .val (.int (c0 &&& (255 : Int32))), .val (.int (c1 &&& (255 : Int32))), .val (.int (c2 &&& (255 : Int32))), .val (.ref b7), .val (.ref b374), .val (.int (1 : Int32)), .val (.ref a383), .unset]) rfl kk_) ?_
          refine own_go (fun _ kk_ => XS.aload X383.here hx rfl (hb hby at_411) rfl rfl kk_) ?_
          show own_Fin p.tables e below _ (T383.setTop (mkF m 413 #[.val (.int mode), .val (.int pos), .val (.int c0), .val (.int c1), .val (.int c2), .val (.int (mode &&& (7 : Int32))), .val (.int (c0 &&& (255 : Int32))), .val (.int (c1 &&& (255 : Int32))), .val (.int (c2 &&& (255 : Int32))), .val (.ref b7), .val (.ref b374), .val (.int (1 : Int32)), .val (.ref a383), .unset] [(.ref b374)]))
          obtain ⟨_, _, ⟨T391, L391, k391, n391⟩, -, X391, hSn391, hgr391, ⟨Lc391, hQ391, l391, y391, z391, CR391⟩, st391⟩ := callSS X383 hx (y := (⟨"com/example/laminate/laminate/core/DefaultRegistry", "credentialsKey", "(Ljava/lang/String;)Ljava/lang/String;"⟩ : MethodName)) hown (mvT hZ (hw _ (List.mem_of_getElem? (i := 33) rfl))) (mvT hZ (hw _ (List.mem_of_getElem? (i := 34) rfl))) (mvT hZ (hw _ (List.mem_of_getElem? (i := 35) rfl))) (mvT hZ (hw _ (List.mem_of_getElem? (i := 36) rfl))) (by decide) (backOfSH (s := s) (W := 0) (rm_ck l Z a0 hw [] hEL b374 t377 ([(100 : Int32), (111 : Int32), (99 : Int32), (107 : Int32), (101 : Int32), (114 : Int32), (46 : Int32), (105 : Int32), (c0 &&& (255 : Int32))] : List Int32) gc h383 n0 (Nat.le_trans Z0 K384.1) SS377 S_C hcs O0) hZ (hw _ (List.mem_of_getElem? (i := 36) rfl)) (hw _ (List.mem_of_getElem? (i := 35) rfl)) (by decide) (by decide) hEL CH) (g := (mkF m 413 #[.val (.int mode), .val (.int pos), .val (.int c0), .val (.int c1), .val (.int c2), .val (.int (mode &&& (7 : Int32))), .val (.int (c0 &&& (255 : Int32))), .val (.int (c1 &&& (255 : Int32))), .val (.int (c2 &&& (255 : Int32))), .val (.ref b7), .val (.ref b374), .val (.int (1 : Int32)), .val (.ref a383), .unset] [(.ref b374)])) rfl (by rw [hml]; rfl) (argsL := [(.ref b374)]) (rest := []) (lenOf pd_4 rfl) rfl (by show 2 * 0 + _ ≤ _; exact Nat.le_of_eq rfl) (hb hby at_413) (fun _ _ => ⟨rfl, e383, (by decide : 5 + 4 ≤ _), (by decide : 134 + 152 ≤ _)⟩)
          dsimp only [Pt.U, Pt.locs, Pt.cells, Pt.slots] at X391 l391 y391 z391 st391 hQ391 hSn391 hgr391 CR391
          subst l391 y391 z391
          replace hS := foldS hS (show _ ≤ T383.heap.size by rw [e383]; exact hk) hSn391 hgr391
          replace hk : T391.heap.size ≤ T391.heap.size := Nat.le_refl _
          replace hZ : Z.Warmed39 (s.setVm T391.vm).vm := State.Warmed39.trans (t := s.setVm T383.vm) hZ hSn391.1
          replace hown : (s.setVm T391.vm).vm.findClass "com/example/laminate/laminate/core/DefaultRegistryCredentialsKeyPinLaw" = some m.cls := by rw [show (s.setVm T391.vm).vm = T391.vm from rfl, hSn391.1.alike.findClass]; exact hown
          replace X391 : Stand p l e room_1 (s.setVm T391.vm) m #[(.int mode), (.int pos), (.int c0), (.int c1), (.int c2)] below meth c T391 _ _ _ := X391
          replace S_b7 := CR391.safe V7.lt S_b7
          replace S_b374 := CR391.safe SS377.lt S_b374
          replace S_t377 := CR391.safe SS377.ltt S_t377
          replace CR := CR.trans CR391
          replace CH := CR391.1
          obtain ⟨N391q, KK391, hy391, hn391⟩ := hQ391
          have N391 := Fr.app N377 N391q
          obtain ⟨ra391, rb391, rfl, SR391⟩ := hy391 (by rw [← hc370])
          replace O0 := O0.keep KK391 all0
          replace V7 := V7.keep KK391 nin0
          replace SS377 := SS377.keep KK391 nin0 nin0
          replace SS383 := SS383.keep KK391 nin0 nin0
          have K392 := K384.trans KK391 all0
          refine own_go (fun _ kk_ => st391.trans kk_) ?_
          refine own_go (fun _ kk_ => XS.astore X391.here hx rfl (hb hby at_416) rfl rfl (l' := #[.val (.int mode), .val (.int pos), .val (.int c0), .val (.int c1), .val (.int c2), .val (.int (mode &&& (7 : Int32))), .val (.int (c0 &&& (255 : Int32))), .val (.int (c1 &&& (255 : Int32))), .val (.int (c2 &&& (255 : Int32))), .val (.ref b7), .val (.ref b374), .val (.int (1 : Int32)), .val (.ref a383), .val (.ref ra391)]) rfl kk_) ?_
          refine own_go (fun _ kk_ => XS.aload X391.here hx rfl (hb hby at_418) rfl rfl kk_) ?_
          refine own_go (fun _ kk_ => XS.aload X391.here hx rfl (hb hby at_420) rfl rfl kk_) ?_
          show own_Fin p.tables e below _ (T391.setTop (mkF m 422 #[.val (.int mode), .val (.int pos), .val (.int c0), .val (.int c1), .val (.int c2), .val (.int (mode &&& (7 : Int32))), .val (.int (c0 &&& (255 : Int32))), .val (.int (c1 &&& (255 : Int32))), .val (.int (c2 &&& (255 : Int32))), .val (.ref b7), .val (.ref b374), .val (.int (1 : Int32)), .val (.ref a383), .val (.ref ra391)] [(.ref ra391), (.ref a383)]))
          obtain ⟨cq393, kq393, qa393, qb393, qc393⟩ := isOf hZ rfl SS383.exa
          obtain ⟨_, _, ⟨T393, L393, k393, n393⟩, -, X393, ⟨Lc393, hQ393, l393, y393, z393⟩, st393⟩ := X391.virtualBack hx (y := (⟨"java/lang/String", "equals", "(Ljava/lang/Object;)Z"⟩ : MethodName)) (z := (⟨"java/lang/String", "equals", "(Ljava/lang/Object;)Z"⟩ : MethodName)) hown (mvT hZ (hw _ (List.mem_of_getElem? (i := 49) rfl))) (mvT hZ (hw _ (List.mem_of_getElem? (i := 39) rfl))) (own_notface (args := #[]) (mvT hZ (hw _ (List.mem_of_getElem? (i := 41) rfl))) rfl) (mvT hZ (hw _ (List.mem_of_getElem? (i := 41) rfl))) (mvT hZ (hw _ (List.mem_of_getElem? (i := 40) rfl))) (by decide) (own_eqB (W := 0) hZ heq (hw _ (List.mem_of_getElem? (i := 2) rfl)) SS383 SR391 (S_C.ext O0.2) hcs (by decide) (by decide)) qa393 qc393 (g := (mkF m 422 #[.val (.int mode), .val (.int pos), .val (.int c0), .val (.int c1), .val (.int c2), .val (.int (mode &&& (7 : Int32))), .val (.int (c0 &&& (255 : Int32))), .val (.int (c1 &&& (255 : Int32))), .val (.int (c2 &&& (255 : Int32))), .val (.ref b7), .val (.ref b374), .val (.int (1 : Int32)), .val (.ref a383), .val (.ref ra391)] [(.ref ra391), (.ref a383)])) rfl (by rw [hml]; rfl) (Steps.refl _) (argsL := [(.ref ra391)]) (rest := []) (lenOf pd_1 rfl) rfl (by show 2 * 0 + _ ≤ _; exact Nat.le_of_eq rfl) (hb hby at_422) (fun _ _ => ⟨rfl, rfl, (by decide : 9 + 0 ≤ _), (by decide : 286 + 0 ≤ _)⟩)
          dsimp only [Pt.U, Pt.locs, Pt.cells, Pt.slots] at X393 l393 y393 z393 st393 hQ393
          subst l393 y393 z393
          obtain ⟨hq393, rfl, e393⟩ := hQ393
          obtain ⟨z393, rfl, hz393⟩ := own_eqv hq393
          have N393 := Fr.app N391 (Fr.nil n0)
          obtain rfl : z393 = 1 := hz393.elim (fun q => q.1) (fun q => absurd rfl q.2)
          refine own_go (fun _ kk_ => st393.trans kk_) ?_
          show own_Fin p.tables e below _ (T393.setTop (mkF m 425 #[.val (.int mode), .val (.int pos), .val (.int c0), .val (.int c1), .val (.int c2), .val (.int (mode &&& (7 : Int32))), .val (.int (c0 &&& (255 : Int32))), .val (.int (c1 &&& (255 : Int32))), .val (.int (c2 &&& (255 : Int32))), .val (.ref b7), .val (.ref b374), .val (.int (1 : Int32)), .val (.ref a383), .val (.ref ra391)] [(.int (1 : Int32))]))
          have CRz : CHr Z consts_1 s.vm s.heap T393.vm T393.heap := by
            rw [hh, e393]
            exact CR.trans (CHv.at X393 hZ hEL CH)
          refine own_retW X393 hx Bd hS (show _ ≤ T393.heap.size by rw [e393]; exact hk) (t := .boolean) Bd.returns rfl (Or.inl ⟨rfl, by simp, _, rfl⟩) (hb hby at_425) CRz ?_ (by decide) (by decide)
          show (Q_rm_law Z mode pos c0 c1 c2 gc h0 n0) (some (.int (1 : Int32))) T393.heap _
          rw [e393]
          exact ⟨rfl, N393⟩
        · skip
          refine own_go (fun _ kk_ => XS.icmpYes X33.here hx rfl (pc0 := 129) (pc' := 136) rfl (hb hby at_129) rfl (feq hc370).2 (by decide) (by decide) kk_) ?_
          refine own_go (fun _ kk_ => XS.iconst X33.here hx rfl (hb hby at_136) kk_) ?_
          refine own_go (fun _ kk_ => XS.istore X33.here hx rfl (hb hby at_137) rfl (l' := #[.val (.int mode), .val (.int pos), .val (.int c0), .val (.int c1), .val (.int c2), .val (.int (mode &&& (7 : Int32))), .val (.int (c0 &&& (255 : Int32))), .val (.int (c1 &&& (255 : Int32))), .val (.int (c2 &&& (255 : Int32))), .val (.ref b7), .unset, .val (.int (0 : Int32)), .val (.int (8 : Int32)), .unset]) rfl kk_) ?_
          refine own_go (fun _ kk_ => XS.aload X33.here hx rfl (hb hby at_139) rfl rfl kk_) ?_
          refine own_go (fun _ kk_ => XS.iload X33.here hx rfl (hb hby at_141) rfl kk_) ?_
          refine own_go (fun _ kk_ => XS.iload X33.here hx rfl (hb hby at_143) rfl kk_) ?_
          show own_Fin p.tables e below _ (T33.setTop (mkF m 145 #[.val (.int mode), .val (.int pos), .val (.int c0), .val (.int c1), .val (.int c2), .val (.int (mode &&& (7 : Int32))), .val (.int (c0 &&& (255 : Int32))), .val (.int (c1 &&& (255 : Int32))), .val (.int (c2 &&& (255 : Int32))), .val (.ref b7), .unset, .val (.int (0 : Int32)), .val (.int (8 : Int32)), .unset] [(.int (c0 &&& (255 : Int32))), (.int (8 : Int32)), (.ref b7)]))
          obtain ⟨T394, h394, X394, e394, W394, V394, st394⟩ := own_stC X33 hx hZ e33 V7 (by decide) (i := 8) rfl (Nat.le_of_ble_eq_true rfl) (g := (mkF m 145 #[.val (.int mode), .val (.int pos), .val (.int c0), .val (.int c1), .val (.int c2), .val (.int (mode &&& (7 : Int32))), .val (.int (c0 &&& (255 : Int32))), .val (.int (c1 &&& (255 : Int32))), .val (.int (c2 &&& (255 : Int32))), .val (.ref b7), .unset, .val (.int (0 : Int32)), .val (.int (8 : Int32)), .unset] [(.int (c0 &&& (255 : Int32))), (.int (8 : Int32)), (.ref b7)])) rfl rfl (hb hby at_145)
          rw [own_nar255] at V394
          replace V7 : Arv Z h394 b7 k7 .char (9 : Int32) [(.int (100 : Int32)), (.int (111 : Int32)), (.int (99 : Int32)), (.int (107 : Int32)), (.int (101 : Int32)), (.int (114 : Int32)), (.int (46 : Int32)), (.int (105 : Int32)), (.int (c0 &&& (255 : Int32)))] (.int (0 : Int32)) := V394
          have N394 := Fr.snoc X394 N33 g_b7
          refine own_go st394 ?_
          have sa395 := S_b7
          replace S_b7 := Safe.wr W394 sa395 CH S_b7
          replace CR := CR.trans (CHr.wr W394 sa395 CH)
          replace CH := CHv.wr W394 sa395 CH
          replace hk := Nat.le_trans hk (Keep.of_wr W394).1
          replace O0 := O0.wr W394 g_b7
          have K396 := K35.wr W394 (Or.inr sz_b7)
          show own_Fin p.tables e below _ (T394.setTop (mkF m 146 #[.val (.int mode), .val (.int pos), .val (.int c0), .val (.int c1), .val (.int c2), .val (.int (mode &&& (7 : Int32))), .val (.int (c0 &&& (255 : Int32))), .val (.int (c1 &&& (255 : Int32))), .val (.int (c2 &&& (255 : Int32))), .val (.ref b7), .unset, .val (.int (0 : Int32)), .val (.int (8 : Int32)), .unset] []))
          obtain ⟨T397, h397, X397, e397, E397, A397, D397, -, st397⟩ := newO X394 hx hZ hown (hw _ (List.mem_of_getElem? (i := 1) rfl)) (hw _ (List.mem_of_getElem? (i := 2) rfl)) (hw _ (List.mem_of_getElem? (i := 3) rfl)) e394 (g := (mkF m 146 #[.val (.int mode), .val (.int pos), .val (.int c0), .val (.int c1), .val (.int c2), .val (.int (mode &&& (7 : Int32))), .val (.int (c0 &&& (255 : Int32))), .val (.int (c1 &&& (255 : Int32))), .val (.int (c2 &&& (255 : Int32))), .val (.ref b7), .unset, .val (.int (0 : Int32)), .val (.int (8 : Int32)), .unset] [])) rfl (hb hby at_146) (by decide) (by decide)
          obtain ⟨b397, g397⟩ : ∃ z, z = h394.size := ⟨_, rfl⟩
          rw [← g397] at A397 D397 st397
          have sz_b397 : h0.size ≤ b397 := Nat.le_trans K396.1 (Nat.le_of_eq g397.symm)
          have g_b397 : n0 ≤ b397 := Nat.le_trans Z0 sz_b397
          have ne398 : b7 ≠ b397 := Nat.ne_of_lt (Nat.lt_of_lt_of_le V7.lt (Nat.le_of_eq g397.symm))
          have S_b397 := Safe.new (Z := Z) (EL := consts_1) (vm := s.vm) (Nat.le_of_eq g397.symm)
          replace S_b7 := Safe.ext E397 CH S_b7
          replace S_b397 := Safe.ext E397 CH S_b397
          replace CR := CR.trans (CHr.ext E397 CH)
          replace CH := CH.ext E397
          replace hk := Nat.le_trans hk E397.1
          replace O0 := O0.ext E397
          replace V7 := V7.ext E397
          have K399 := K396.ext E397
          have F397_coder : Fld Z h397 b397 "java/lang/String" "coder" "B" (.int (0 : Int32)) := D397 (Or.inr (hw _ (List.mem_of_getElem? (i := 27) rfl))) (ty := .byte) (by decide)
          have F397_value : Fld Z h397 b397 "java/lang/String" "value" "[B" .null := D397 (Or.inr (hw _ (List.mem_of_getElem? (i := 29) rfl))) (ty := (.array .byte)) (by decide)
          refine own_go st397 ?_
          refine own_go (fun _ kk_ => XS.dup X397.here hx rfl (hb hby at_149) rfl rfl kk_) ?_
          refine own_go (fun _ kk_ => XS.aload X397.here hx rfl (hb hby at_150) rfl rfl kk_) ?_
          show own_Fin p.tables e below _ (T397.setTop (mkF m 152 #[.val (.int mode), .val (.int pos), .val (.int c0), .val (.int c1), .val (.int c2), .val (.int (mode &&& (7 : Int32))), .val (.int (c0 &&& (255 : Int32))), .val (.int (c1 &&& (255 : Int32))), .val (.int (c2 &&& (255 : Int32))), .val (.ref b7), .unset, .val (.int (0 : Int32)), .val (.int (8 : Int32)), .unset] [(.ref b7), (.ref b397), (.ref b397)]))
          have hp401 : ∀ c ∈ ([(100 : Int32), (111 : Int32), (99 : Int32), (107 : Int32), (101 : Int32), (114 : Int32), (46 : Int32), (105 : Int32), (c0 &&& (255 : Int32))] : List Int32), ¬ c < 0 ∧ ¬ (255 : Int32) < c := by
            intro c hc
            simp only [List.mem_cons, List.not_mem_nil, or_false] at hc
            rcases hc with rfl | rfl | rfl | rfl | rfl | rfl | rfl | rfl | rfl
            · exact by decide
            · exact by decide
            · exact by decide
            · exact by decide
            · exact by decide
            · exact by decide
            · exact by decide
            · exact by decide
            · exact own_and255 _
          obtain ⟨_, _, ⟨T400, L400, k400, n400⟩, -, X400, ⟨Lc400, hQ400, l400, y400, z400⟩, st400⟩ := X397.specialBack hx (y := (⟨"java/lang/String", "<init>", "([C)V"⟩ : MethodName)) rfl hown (mvT hZ (hw _ (List.mem_of_getElem? (i := 4) rfl))) (mvT hZ (hw _ (List.mem_of_getElem? (i := 5) rfl))) (mvT hZ (hw _ (List.mem_of_getElem? (i := 6) rfl))) (by decide) (StrChars.Road.backV (W := 1) hZ hws (kI := 4) (hw _ (List.mem_of_getElem? (i := 2) rfl)) (cs := ([(100 : Int32), (111 : Int32), (99 : Int32), (107 : Int32), (101 : Int32), (114 : Int32), (46 : Int32), (105 : Int32), (c0 &&& (255 : Int32))] : List Int32)) (bs := (([(100 : Int32), (111 : Int32), (99 : Int32), (107 : Int32), (101 : Int32), (114 : Int32), (46 : Int32), (105 : Int32), (c0 &&& (255 : Int32))] : List Int32)).map (fun c => c.toInt8.toInt32)) (n := 9) g_b397 (Nat.le_trans Z0 K399.1) A397 F397_value F397_coder V7 (S_C.ext O0.2) hcs rfl rfl (by decide) (by decide) hp401 rfl (by decide) (by decide)) (g := (mkF m 152 #[.val (.int mode), .val (.int pos), .val (.int c0), .val (.int c1), .val (.int c2), .val (.int (mode &&& (7 : Int32))), .val (.int (c0 &&& (255 : Int32))), .val (.int (c1 &&& (255 : Int32))), .val (.int (c2 &&& (255 : Int32))), .val (.ref b7), .unset, .val (.int (0 : Int32)), .val (.int (8 : Int32)), .unset] [(.ref b7), (.ref b397), (.ref b397)])) rfl (by rw [hml]; rfl) (Steps.refl _) (a := b397) (argsL := [(.ref b7)]) (rest := [(.ref b397)]) (lenOf pd_3 rfl) rfl (by show 2 * 0 + _ ≤ _; exact Nat.le_of_eq rfl) (hb hby at_152) (fun _ _ => ⟨rfl, e397, (by decide : 2 + 1 ≤ _), (by decide : 13 + 9 ≤ _)⟩)
          dsimp only [Pt.U, Pt.locs, Pt.cells, Pt.slots] at X400 l400 y400 z400 st400 hQ400
          subst l400 y400 z400
          obtain ⟨rfl, N400q, KK400, EE400, FC400, t400, kb400, gt400, szt400, netx400, FV400, VV400⟩ := hQ400
          have N400 := Fr.app N394 N400q
          have SS400 : own_Str Z T400.heap b397 t400 ([(100 : Int32), (111 : Int32), (99 : Int32), (107 : Int32), (101 : Int32), (114 : Int32), (46 : Int32), (105 : Int32), (c0 &&& (255 : Int32))] : List Int32) := ⟨_, _, _, _, EE400, FV400, FC400, VV400, StrChars.Road.codOf (n := 9) rfl (fun c hc => (hp401 c hc).2), own_up _ hp401, Nat.le_of_ble_eq_true rfl⟩
          have sz_t400 : h0.size ≤ t400 := Nat.le_trans K399.1 szt400
          have ne402 : b7 ≠ t400 := Nat.ne_of_lt (Nat.lt_of_lt_of_le V7.lt szt400)
          have ne403 : b397 ≠ t400 := Nat.ne_of_lt (Nat.lt_of_lt_of_le A397.lt szt400)
          have S_t400 := Safe.new (Z := Z) (EL := consts_1) (vm := s.vm) szt400
          have hs404 : ∀ x ∈ [b397], Safe Z consts_1 s.vm h397 x := (sfS S_b397 sf0)
          replace S_b7 := Safe.keep KK400 hs404 CH S_b7
          replace S_b397 := Safe.keep KK400 hs404 CH S_b397
          replace S_t400 := Safe.keep KK400 hs404 CH S_t400
          replace CR := CR.trans (CHr.keep KK400 hs404 CH)
          replace CH := CHv.keep KK400 hs404 CH
          replace hk := Nat.le_trans hk KK400.1
          replace O0 := O0.keep KK400 (allS g_b397 (all0))
          replace V7 := V7.keep KK400 (ninS ne398 nin0)
          replace A397 := A397.keep KK400
          have K405 := K399.trans KK400 (allS (Or.inr sz_b397) all0)
          refine own_go (fun _ kk_ => st400.trans kk_) ?_
          refine own_go (fun _ kk_ => XS.astore X400.here hx rfl (hb hby at_155) rfl rfl (l' := #[.val (.int mode), .val (.int pos), .val (.int c0), .val (.int c1), .val (.int c2), .val (.int (mode &&& (7 : Int32))), .val (.int (c0 &&& (255 : Int32))), .val (.int (c1 &&& (255 : Int32))), .val (.int (c2 &&& (255 : Int32))), .val (.ref b7), .val (.ref b397), .val (.int (0 : Int32)), .val (.int (8 : Int32)), .unset]) rfl kk_) ?_
          refine own_go (fun _ kk_ => XS.goto X400.here hx rfl (pc0 := 157) (pc' := 397) rfl (hb hby at_157) (by decide) (by decide) kk_) ?_
          refine own_go (fun _ kk_ => XS.iload X400.here hx rfl (hb hby at_397) rfl kk_) ?_
          show own_Fin p.tables e below _ (T400.setTop (mkF m 399 #[.val (.int mode), .val (.int pos), .val (.int c0), .val (.int c1), .val (.int c2), .val (.int (mode &&& (7 : Int32))), .val (.int (c0 &&& (255 : Int32))), .val (.int (c1 &&& (255 : Int32))), .val (.int (c2 &&& (255 : Int32))), .val (.ref b7), .val (.ref b397), .val (.int (0 : Int32)), .val (.int (8 : Int32)), .unset] [(.int (0 : Int32))]))
          refine own_go (fun _ kk_ => XS.ifYes X400.here hx rfl (pc0 := 399) (pc' := 407) rfl (hb hby at_399) rfl ((if0 _ _).trans (teq (by decide : (0 : Int32) = (0 : Int32))).1) (by decide) (by decide) kk_) ?_
          refine own_go (fun _ kk_ => XS.aload X400.here hx rfl (hb hby at_407) rfl rfl kk_) ?_
          refine own_go (fun _ kk_ => XS.astore X400.here hx rfl (hb hby at_409) rfl rfl (l' := #[.val (.int mode), .val (.int pos), .val (.int c0), .val (.int c1), .val (.int c2), .val (.int (mode &&& (7 : Int32))), .val (.int (c0 &&& (255 : Int32))), .val (.int (c1 &&& (255 : Int32))), .val (.int (c2 &&& (255 : Int32))), .val (.ref b7), .val (.ref b397), .val (.int (0 : Int32)), .val (.ref b397), .unset]) rfl kk_) ?_
          refine own_go (fun _ kk_ => XS.aload X400.here hx rfl (hb hby at_411) rfl rfl kk_) ?_
          show own_Fin p.tables e below _ (T400.setTop (mkF m 413 #[.val (.int mode), .val (.int pos), .val (.int c0), .val (.int c1), .val (.int c2), .val (.int (mode &&& (7 : Int32))), .val (.int (c0 &&& (255 : Int32))), .val (.int (c1 &&& (255 : Int32))), .val (.int (c2 &&& (255 : Int32))), .val (.ref b7), .val (.ref b397), .val (.int (0 : Int32)), .val (.ref b397), .unset] [(.ref b397)]))
          obtain ⟨_, _, ⟨T406, L406, k406, n406⟩, -, X406, hSn406, hgr406, ⟨Lc406, hQ406, l406, y406, z406, CR406⟩, st406⟩ := callSS X400 hx (y := (⟨"com/example/laminate/laminate/core/DefaultRegistry", "credentialsKey", "(Ljava/lang/String;)Ljava/lang/String;"⟩ : MethodName)) hown (mvT hZ (hw _ (List.mem_of_getElem? (i := 33) rfl))) (mvT hZ (hw _ (List.mem_of_getElem? (i := 34) rfl))) (mvT hZ (hw _ (List.mem_of_getElem? (i := 35) rfl))) (mvT hZ (hw _ (List.mem_of_getElem? (i := 36) rfl))) (by decide) (backOfSH (s := s) (W := 0) (rm_ck l Z a0 hw [] hEL b397 t400 ([(100 : Int32), (111 : Int32), (99 : Int32), (107 : Int32), (101 : Int32), (114 : Int32), (46 : Int32), (105 : Int32), (c0 &&& (255 : Int32))] : List Int32) gc T400.heap n0 (Nat.le_trans Z0 K405.1) SS400 S_C hcs O0) hZ (hw _ (List.mem_of_getElem? (i := 36) rfl)) (hw _ (List.mem_of_getElem? (i := 35) rfl)) (by decide) (by decide) hEL CH) (g := (mkF m 413 #[.val (.int mode), .val (.int pos), .val (.int c0), .val (.int c1), .val (.int c2), .val (.int (mode &&& (7 : Int32))), .val (.int (c0 &&& (255 : Int32))), .val (.int (c1 &&& (255 : Int32))), .val (.int (c2 &&& (255 : Int32))), .val (.ref b7), .val (.ref b397), .val (.int (0 : Int32)), .val (.ref b397), .unset] [(.ref b397)])) rfl (by rw [hml]; rfl) (argsL := [(.ref b397)]) (rest := []) (lenOf pd_4 rfl) rfl (by show 2 * 0 + _ ≤ _; exact Nat.le_of_eq rfl) (hb hby at_413) (fun _ _ => ⟨rfl, rfl, (by decide : 3 + 4 ≤ _), (by decide : 22 + 152 ≤ _)⟩)
          dsimp only [Pt.U, Pt.locs, Pt.cells, Pt.slots] at X406 l406 y406 z406 st406 hQ406 hSn406 hgr406 CR406
          subst l406 y406 z406
          replace hS := foldS hS hk hSn406 hgr406
          replace hk : T406.heap.size ≤ T406.heap.size := Nat.le_refl _
          replace hZ : Z.Warmed39 (s.setVm T406.vm).vm := State.Warmed39.trans (t := s.setVm s.vm) hZ hSn406.1
          replace hown : (s.setVm T406.vm).vm.findClass "com/example/laminate/laminate/core/DefaultRegistryCredentialsKeyPinLaw" = some m.cls := by rw [show (s.setVm T406.vm).vm = T406.vm from rfl, hSn406.1.alike.findClass]; exact hown
          replace X406 : Stand p l e room_1 (s.setVm T406.vm) m #[(.int mode), (.int pos), (.int c0), (.int c1), (.int c2)] below meth c T406 _ _ _ := X406
          replace S_b7 := CR406.safe V7.lt S_b7
          replace S_b397 := CR406.safe SS400.lt S_b397
          replace S_t400 := CR406.safe SS400.ltt S_t400
          replace CR := CR.trans CR406
          replace CH := CR406.1
          obtain ⟨N406q, KK406, hy406, hn406⟩ := hQ406
          have N406 := Fr.app N400 N406q
          obtain rfl := hn406 (by simp; exact fun q => hc370 q.symm)
          replace O0 := O0.keep KK406 all0
          replace V7 := V7.keep KK406 nin0
          replace SS400 := SS400.keep KK406 nin0 nin0
          have K407 := K405.trans KK406 all0
          refine own_go (fun _ kk_ => st406.trans kk_) ?_
          refine own_go (fun _ kk_ => XS.astore X406.here hx rfl (hb hby at_416) rfl rfl (l' := #[.val (.int mode), .val (.int pos), .val (.int c0), .val (.int c1), .val (.int c2), .val (.int (mode &&& (7 : Int32))), .val (.int (c0 &&& (255 : Int32))), .val (.int (c1 &&& (255 : Int32))), .val (.int (c2 &&& (255 : Int32))), .val (.ref b7), .val (.ref b397), .val (.int (0 : Int32)), .val (.ref b397), .val (.ref b397)]) rfl kk_) ?_
          refine own_go (fun _ kk_ => XS.aload X406.here hx rfl (hb hby at_418) rfl rfl kk_) ?_
          refine own_go (fun _ kk_ => XS.aload X406.here hx rfl (hb hby at_420) rfl rfl kk_) ?_
          show own_Fin p.tables e below _ (T406.setTop (mkF m 422 #[.val (.int mode), .val (.int pos), .val (.int c0), .val (.int c1), .val (.int c2), .val (.int (mode &&& (7 : Int32))), .val (.int (c0 &&& (255 : Int32))), .val (.int (c1 &&& (255 : Int32))), .val (.int (c2 &&& (255 : Int32))), .val (.ref b7), .val (.ref b397), .val (.int (0 : Int32)), .val (.ref b397), .val (.ref b397)] [(.ref b397), (.ref b397)]))
          obtain ⟨cq408, kq408, qa408, qb408, qc408⟩ := isOf hZ rfl SS400.exa
          obtain ⟨_, _, ⟨T408, L408, k408, n408⟩, -, X408, ⟨Lc408, hQ408, l408, y408, z408⟩, st408⟩ := X406.virtualBack hx (y := (⟨"java/lang/String", "equals", "(Ljava/lang/Object;)Z"⟩ : MethodName)) (z := (⟨"java/lang/String", "equals", "(Ljava/lang/Object;)Z"⟩ : MethodName)) hown (mvT hZ (hw _ (List.mem_of_getElem? (i := 49) rfl))) (mvT hZ (hw _ (List.mem_of_getElem? (i := 39) rfl))) (own_notface (args := #[]) (mvT hZ (hw _ (List.mem_of_getElem? (i := 41) rfl))) rfl) (mvT hZ (hw _ (List.mem_of_getElem? (i := 41) rfl))) (mvT hZ (hw _ (List.mem_of_getElem? (i := 40) rfl))) (by decide) (own_eqB (W := 0) hZ heq (hw _ (List.mem_of_getElem? (i := 2) rfl)) SS400 SS400 (S_C.ext O0.2) hcs (by decide) (by decide)) qa408 qc408 (g := (mkF m 422 #[.val (.int mode), .val (.int pos), .val (.int c0), .val (.int c1), .val (.int c2), .val (.int (mode &&& (7 : Int32))), .val (.int (c0 &&& (255 : Int32))), .val (.int (c1 &&& (255 : Int32))), .val (.int (c2 &&& (255 : Int32))), .val (.ref b7), .val (.ref b397), .val (.int (0 : Int32)), .val (.ref b397), .val (.ref b397)] [(.ref b397), (.ref b397)])) rfl (by rw [hml]; rfl) (Steps.refl _) (argsL := [(.ref b397)]) (rest := []) (lenOf pd_1 rfl) rfl (by show 2 * 0 + _ ≤ _; exact Nat.le_of_eq rfl) (hb hby at_422) (fun _ _ => ⟨rfl, rfl, (by decide : 7 + 0 ≤ _), (by decide : 174 + 0 ≤ _)⟩)
          dsimp only [Pt.U, Pt.locs, Pt.cells, Pt.slots] at X408 l408 y408 z408 st408 hQ408
          subst l408 y408 z408
          obtain ⟨hq408, rfl, e408⟩ := hQ408
          obtain ⟨z408, rfl, hz408⟩ := own_eqv hq408
          have N408 := Fr.app N406 (Fr.nil n0)
          obtain rfl : z408 = 1 := hz408.elim (fun q => q.1) (fun q => absurd rfl q.2)
          refine own_go (fun _ kk_ => st408.trans kk_) ?_
          show own_Fin p.tables e below _ (T408.setTop (mkF m 425 #[.val (.int mode), .val (.int pos), .val (.int c0), .val (.int c1), .val (.int c2), .val (.int (mode &&& (7 : Int32))), .val (.int (c0 &&& (255 : Int32))), .val (.int (c1 &&& (255 : Int32))), .val (.int (c2 &&& (255 : Int32))), .val (.ref b7), .val (.ref b397), .val (.int (0 : Int32)), .val (.ref b397), .val (.ref b397)] [(.int (1 : Int32))]))
          have CRz : CHr Z consts_1 s.vm s.heap T408.vm T408.heap := by
            rw [hh, e408]
            exact CR.trans (CHv.at X408 hZ hEL CH)
          refine own_retW X408 hx Bd hS (show _ ≤ T408.heap.size by rw [e408]; exact hk) (t := .boolean) Bd.returns rfl (Or.inl ⟨rfl, by simp, _, rfl⟩) (hb hby at_425) CRz ?_ (by decide) (by decide)
          show (Q_rm_law Z mode pos c0 c1 c2 gc h0 n0) (some (.int (1 : Int32))) T408.heap _
          rw [e408]
          exact ⟨rfl, N408⟩
    · skip
      refine own_go (fun _ kk_ => XS.icmpYes X33.here hx rfl (pc0 := 110) (pc' := 160) rfl (hb hby at_110) rfl (feq hc57).2 (by decide) (by decide) kk_) ?_
      refine own_go (fun _ kk_ => XS.iload X33.here hx rfl (hb hby at_160) rfl kk_) ?_
      refine own_go (fun _ kk_ => XS.iconst X33.here hx rfl (hb hby at_162) kk_) ?_
      show own_Fin p.tables e below _ (T33.setTop (mkF m 163 #[.val (.int mode), .val (.int pos), .val (.int c0), .val (.int c1), .val (.int c2), .val (.int (mode &&& (7 : Int32))), .val (.int (c0 &&& (255 : Int32))), .val (.int (c1 &&& (255 : Int32))), .val (.int (c2 &&& (255 : Int32))), .val (.ref b7), .unset, .unset, .unset, .unset] [(.int (2 : Int32)), (.int (mode &&& (7 : Int32)))]))
      by_cases hc409 : (mode &&& (7 : Int32)) = (2 : Int32)
      · skip
        refine own_go (fun _ kk_ => XS.icmpNo X33.here hx rfl (hb hby at_163) rfl (teq hc409).2 kk_) ?_
        refine own_go (fun _ kk_ => XS.bipush X33.here hx rfl (hb hby at_166) kk_) ?_
        show own_Fin p.tables e below _ (T33.setTop (mkF m 168 #[.val (.int mode), .val (.int pos), .val (.int c0), .val (.int c1), .val (.int c2), .val (.int (mode &&& (7 : Int32))), .val (.int (c0 &&& (255 : Int32))), .val (.int (c1 &&& (255 : Int32))), .val (.int (c2 &&& (255 : Int32))), .val (.ref b7), .unset, .unset, .unset, .unset] [(.int (10 : Int32))]))
        obtain ⟨T410, h410, k410, X410, e410, E410, A410, st410⟩ := newP X33 hx hZ (hw _ (List.mem_of_getElem? (i := 0) rfl)) e33 (g := (mkF m 168 #[.val (.int mode), .val (.int pos), .val (.int c0), .val (.int c1), .val (.int c2), .val (.int (mode &&& (7 : Int32))), .val (.int (c0 &&& (255 : Int32))), .val (.int (c1 &&& (255 : Int32))), .val (.int (c2 &&& (255 : Int32))), .val (.ref b7), .unset, .unset, .unset, .unset] [(.int (10 : Int32))])) rfl (hb hby at_168) rfl (by decide) (cap := 10) (by decide) (by decide) (by decide) (by decide)
        obtain ⟨b410, g410⟩ : ∃ z, z = h33.size := ⟨_, rfl⟩
        rw [← g410] at A410 st410
        have sz_b410 : h0.size ≤ b410 := Nat.le_trans K35.1 (Nat.le_of_eq g410.symm)
        have g_b410 : n0 ≤ b410 := Nat.le_trans Z0 sz_b410
        have ne411 : b7 ≠ b410 := Nat.ne_of_lt (Nat.lt_of_lt_of_le V7.lt (Nat.le_of_eq g410.symm))
        have S_b410 := Safe.new (Z := Z) (EL := consts_1) (vm := s.vm) (Nat.le_of_eq g410.symm)
        replace S_b7 := Safe.ext E410 CH S_b7
        replace S_b410 := Safe.ext E410 CH S_b410
        replace CR := CR.trans (CHr.ext E410 CH)
        replace CH := CH.ext E410
        replace hk := Nat.le_trans hk E410.1
        replace O0 := O0.ext E410
        replace V7 := V7.ext E410
        have K412 := K35.ext E410
        have V410 : Arv Z h410 b410 k410 .char (10 : Int32) [(.int (0 : Int32)), (.int (0 : Int32)), (.int (0 : Int32)), (.int (0 : Int32)), (.int (0 : Int32)), (.int (0 : Int32)), (.int (0 : Int32)), (.int (0 : Int32)), (.int (0 : Int32)), (.int (0 : Int32))] (.int (0 : Int32)) := (Arv.new A410 (by decide)).pad (pad_rep [] (.int (0 : Int32)) 10)
        refine own_go st410 ?_
        refine own_go (fun _ kk_ => XS.dup X410.here hx rfl (hb hby at_170) rfl rfl kk_) ?_
        refine own_go (fun _ kk_ => XS.iconst X410.here hx rfl (hb hby at_171) kk_) ?_
        refine own_go (fun _ kk_ => XS.bipush X410.here hx rfl (hb hby at_172) kk_) ?_
        show own_Fin p.tables e below _ (T410.setTop (mkF m 174 #[.val (.int mode), .val (.int pos), .val (.int c0), .val (.int c1), .val (.int c2), .val (.int (mode &&& (7 : Int32))), .val (.int (c0 &&& (255 : Int32))), .val (.int (c1 &&& (255 : Int32))), .val (.int (c2 &&& (255 : Int32))), .val (.ref b7), .unset, .unset, .unset, .unset] [(.int (100 : Int32)), (.int (0 : Int32)), (.ref b410), (.ref b410)]))
        obtain ⟨T413, h413, X413, e413, W413, V413, st413⟩ := own_stC X410 hx hZ e410 V410 (by decide) (i := 0) rfl (Nat.le_of_ble_eq_true rfl) (g := (mkF m 174 #[.val (.int mode), .val (.int pos), .val (.int c0), .val (.int c1), .val (.int c2), .val (.int (mode &&& (7 : Int32))), .val (.int (c0 &&& (255 : Int32))), .val (.int (c1 &&& (255 : Int32))), .val (.int (c2 &&& (255 : Int32))), .val (.ref b7), .unset, .unset, .unset, .unset] [(.int (100 : Int32)), (.int (0 : Int32)), (.ref b410), (.ref b410)])) rfl rfl (hb hby at_174)
        replace V410 : Arv Z h413 b410 k410 .char (10 : Int32) [(.int (100 : Int32)), (.int (0 : Int32)), (.int (0 : Int32)), (.int (0 : Int32)), (.int (0 : Int32)), (.int (0 : Int32)), (.int (0 : Int32)), (.int (0 : Int32)), (.int (0 : Int32)), (.int (0 : Int32))] (.int (0 : Int32)) := V413
        have N413 := Fr.snoc X413 N33 g_b410
        refine own_go st413 ?_
        have sa414 := S_b410
        replace S_b7 := Safe.wr W413 sa414 CH S_b7
        replace S_b410 := Safe.wr W413 sa414 CH S_b410
        replace CR := CR.trans (CHr.wr W413 sa414 CH)
        replace CH := CHv.wr W413 sa414 CH
        replace hk := Nat.le_trans hk (Keep.of_wr W413).1
        replace O0 := O0.wr W413 g_b410
        replace V7 := V7.other W413 ne411
        have K415 := K412.wr W413 (Or.inr sz_b410)
        refine own_go (fun _ kk_ => XS.dup X413.here hx rfl (hb hby at_175) rfl rfl kk_) ?_
        refine own_go (fun _ kk_ => XS.iconst X413.here hx rfl (hb hby at_176) kk_) ?_
        refine own_go (fun _ kk_ => XS.bipush X413.here hx rfl (hb hby at_177) kk_) ?_
        show own_Fin p.tables e below _ (T413.setTop (mkF m 179 #[.val (.int mode), .val (.int pos), .val (.int c0), .val (.int c1), .val (.int c2), .val (.int (mode &&& (7 : Int32))), .val (.int (c0 &&& (255 : Int32))), .val (.int (c1 &&& (255 : Int32))), .val (.int (c2 &&& (255 : Int32))), .val (.ref b7), .unset, .unset, .unset, .unset] [(.int (111 : Int32)), (.int (1 : Int32)), (.ref b410), (.ref b410)]))
        obtain ⟨T416, h416, X416, e416, W416, V416, st416⟩ := own_stC X413 hx hZ e413 V410 (by decide) (i := 1) rfl (Nat.le_of_ble_eq_true rfl) (g := (mkF m 179 #[.val (.int mode), .val (.int pos), .val (.int c0), .val (.int c1), .val (.int c2), .val (.int (mode &&& (7 : Int32))), .val (.int (c0 &&& (255 : Int32))), .val (.int (c1 &&& (255 : Int32))), .val (.int (c2 &&& (255 : Int32))), .val (.ref b7), .unset, .unset, .unset, .unset] [(.int (111 : Int32)), (.int (1 : Int32)), (.ref b410), (.ref b410)])) rfl rfl (hb hby at_179)
        replace V410 : Arv Z h416 b410 k410 .char (10 : Int32) [(.int (100 : Int32)), (.int (111 : Int32)), (.int (0 : Int32)), (.int (0 : Int32)), (.int (0 : Int32)), (.int (0 : Int32)), (.int (0 : Int32)), (.int (0 : Int32)), (.int (0 : Int32)), (.int (0 : Int32))] (.int (0 : Int32)) := V416
        have N416 := Fr.snoc X416 N413 g_b410
        refine own_go st416 ?_
        have sa417 := S_b410
        replace S_b7 := Safe.wr W416 sa417 CH S_b7
        replace S_b410 := Safe.wr W416 sa417 CH S_b410
        replace CR := CR.trans (CHr.wr W416 sa417 CH)
        replace CH := CHv.wr W416 sa417 CH
        replace hk := Nat.le_trans hk (Keep.of_wr W416).1
        replace O0 := O0.wr W416 g_b410
        replace V7 := V7.other W416 ne411
        have K418 := K415.wr W416 (Or.inr sz_b410)
        refine own_go (fun _ kk_ => XS.dup X416.here hx rfl (hb hby at_180) rfl rfl kk_) ?_
        refine own_go (fun _ kk_ => XS.iconst X416.here hx rfl (hb hby at_181) kk_) ?_
        refine own_go (fun _ kk_ => XS.bipush X416.here hx rfl (hb hby at_182) kk_) ?_
        show own_Fin p.tables e below _ (T416.setTop (mkF m 184 #[.val (.int mode), .val (.int pos), .val (.int c0), .val (.int c1), .val (.int c2), .val (.int (mode &&& (7 : Int32))), .val (.int (c0 &&& (255 : Int32))), .val (.int (c1 &&& (255 : Int32))), .val (.int (c2 &&& (255 : Int32))), .val (.ref b7), .unset, .unset, .unset, .unset] [(.int (99 : Int32)), (.int (2 : Int32)), (.ref b410), (.ref b410)]))
        obtain ⟨T419, h419, X419, e419, W419, V419, st419⟩ := own_stC X416 hx hZ e416 V410 (by decide) (i := 2) rfl (Nat.le_of_ble_eq_true rfl) (g := (mkF m 184 #[.val (.int mode), .val (.int pos), .val (.int c0), .val (.int c1), .val (.int c2), .val (.int (mode &&& (7 : Int32))), .val (.int (c0 &&& (255 : Int32))), .val (.int (c1 &&& (255 : Int32))), .val (.int (c2 &&& (255 : Int32))), .val (.ref b7), .unset, .unset, .unset, .unset] [(.int (99 : Int32)), (.int (2 : Int32)), (.ref b410), (.ref b410)])) rfl rfl (hb hby at_184)
        replace V410 : Arv Z h419 b410 k410 .char (10 : Int32) [(.int (100 : Int32)), (.int (111 : Int32)), (.int (99 : Int32)), (.int (0 : Int32)), (.int (0 : Int32)), (.int (0 : Int32)), (.int (0 : Int32)), (.int (0 : Int32)), (.int (0 : Int32)), (.int (0 : Int32))] (.int (0 : Int32)) := V419
        have N419 := Fr.snoc X419 N416 g_b410
        refine own_go st419 ?_
        have sa420 := S_b410
        replace S_b7 := Safe.wr W419 sa420 CH S_b7
        replace S_b410 := Safe.wr W419 sa420 CH S_b410
        replace CR := CR.trans (CHr.wr W419 sa420 CH)
        replace CH := CHv.wr W419 sa420 CH
        replace hk := Nat.le_trans hk (Keep.of_wr W419).1
        replace O0 := O0.wr W419 g_b410
        replace V7 := V7.other W419 ne411
        have K421 := K418.wr W419 (Or.inr sz_b410)
        refine own_go (fun _ kk_ => XS.dup X419.here hx rfl (hb hby at_185) rfl rfl kk_) ?_
        refine own_go (fun _ kk_ => XS.iconst X419.here hx rfl (hb hby at_186) kk_) ?_
        refine own_go (fun _ kk_ => XS.bipush X419.here hx rfl (hb hby at_187) kk_) ?_
        show own_Fin p.tables e below _ (T419.setTop (mkF m 189 #[.val (.int mode), .val (.int pos), .val (.int c0), .val (.int c1), .val (.int c2), .val (.int (mode &&& (7 : Int32))), .val (.int (c0 &&& (255 : Int32))), .val (.int (c1 &&& (255 : Int32))), .val (.int (c2 &&& (255 : Int32))), .val (.ref b7), .unset, .unset, .unset, .unset] [(.int (107 : Int32)), (.int (3 : Int32)), (.ref b410), (.ref b410)]))
        obtain ⟨T422, h422, X422, e422, W422, V422, st422⟩ := own_stC X419 hx hZ e419 V410 (by decide) (i := 3) rfl (Nat.le_of_ble_eq_true rfl) (g := (mkF m 189 #[.val (.int mode), .val (.int pos), .val (.int c0), .val (.int c1), .val (.int c2), .val (.int (mode &&& (7 : Int32))), .val (.int (c0 &&& (255 : Int32))), .val (.int (c1 &&& (255 : Int32))), .val (.int (c2 &&& (255 : Int32))), .val (.ref b7), .unset, .unset, .unset, .unset] [(.int (107 : Int32)), (.int (3 : Int32)), (.ref b410), (.ref b410)])) rfl rfl (hb hby at_189)
        replace V410 : Arv Z h422 b410 k410 .char (10 : Int32) [(.int (100 : Int32)), (.int (111 : Int32)), (.int (99 : Int32)), (.int (107 : Int32)), (.int (0 : Int32)), (.int (0 : Int32)), (.int (0 : Int32)), (.int (0 : Int32)), (.int (0 : Int32)), (.int (0 : Int32))] (.int (0 : Int32)) := V422
        have N422 := Fr.snoc X422 N419 g_b410
        refine own_go st422 ?_
        have sa423 := S_b410
        replace S_b7 := Safe.wr W422 sa423 CH S_b7
        replace S_b410 := Safe.wr W422 sa423 CH S_b410
        replace CR := CR.trans (CHr.wr W422 sa423 CH)
        replace CH := CHv.wr W422 sa423 CH
        replace hk := Nat.le_trans hk (Keep.of_wr W422).1
        replace O0 := O0.wr W422 g_b410
        replace V7 := V7.other W422 ne411
        have K424 := K421.wr W422 (Or.inr sz_b410)
        refine own_go (fun _ kk_ => XS.dup X422.here hx rfl (hb hby at_190) rfl rfl kk_) ?_
        refine own_go (fun _ kk_ => XS.iconst X422.here hx rfl (hb hby at_191) kk_) ?_
        refine own_go (fun _ kk_ => XS.bipush X422.here hx rfl (hb hby at_192) kk_) ?_
        show own_Fin p.tables e below _ (T422.setTop (mkF m 194 #[.val (.int mode), .val (.int pos), .val (.int c0), .val (.int c1), .val (.int c2), .val (.int (mode &&& (7 : Int32))), .val (.int (c0 &&& (255 : Int32))), .val (.int (c1 &&& (255 : Int32))), .val (.int (c2 &&& (255 : Int32))), .val (.ref b7), .unset, .unset, .unset, .unset] [(.int (101 : Int32)), (.int (4 : Int32)), (.ref b410), (.ref b410)]))
        obtain ⟨T425, h425, X425, e425, W425, V425, st425⟩ := own_stC X422 hx hZ e422 V410 (by decide) (i := 4) rfl (Nat.le_of_ble_eq_true rfl) (g := (mkF m 194 #[.val (.int mode), .val (.int pos), .val (.int c0), .val (.int c1), .val (.int c2), .val (.int (mode &&& (7 : Int32))), .val (.int (c0 &&& (255 : Int32))), .val (.int (c1 &&& (255 : Int32))), .val (.int (c2 &&& (255 : Int32))), .val (.ref b7), .unset, .unset, .unset, .unset] [(.int (101 : Int32)), (.int (4 : Int32)), (.ref b410), (.ref b410)])) rfl rfl (hb hby at_194)
        replace V410 : Arv Z h425 b410 k410 .char (10 : Int32) [(.int (100 : Int32)), (.int (111 : Int32)), (.int (99 : Int32)), (.int (107 : Int32)), (.int (101 : Int32)), (.int (0 : Int32)), (.int (0 : Int32)), (.int (0 : Int32)), (.int (0 : Int32)), (.int (0 : Int32))] (.int (0 : Int32)) := V425
        have N425 := Fr.snoc X425 N422 g_b410
        refine own_go st425 ?_
        have sa426 := S_b410
        replace S_b7 := Safe.wr W425 sa426 CH S_b7
        replace S_b410 := Safe.wr W425 sa426 CH S_b410
        replace CR := CR.trans (CHr.wr W425 sa426 CH)
        replace CH := CHv.wr W425 sa426 CH
        replace hk := Nat.le_trans hk (Keep.of_wr W425).1
        replace O0 := O0.wr W425 g_b410
        replace V7 := V7.other W425 ne411
        have K427 := K424.wr W425 (Or.inr sz_b410)
        refine own_go (fun _ kk_ => XS.dup X425.here hx rfl (hb hby at_195) rfl rfl kk_) ?_
        refine own_go (fun _ kk_ => XS.iconst X425.here hx rfl (hb hby at_196) kk_) ?_
        refine own_go (fun _ kk_ => XS.bipush X425.here hx rfl (hb hby at_197) kk_) ?_
        show own_Fin p.tables e below _ (T425.setTop (mkF m 199 #[.val (.int mode), .val (.int pos), .val (.int c0), .val (.int c1), .val (.int c2), .val (.int (mode &&& (7 : Int32))), .val (.int (c0 &&& (255 : Int32))), .val (.int (c1 &&& (255 : Int32))), .val (.int (c2 &&& (255 : Int32))), .val (.ref b7), .unset, .unset, .unset, .unset] [(.int (114 : Int32)), (.int (5 : Int32)), (.ref b410), (.ref b410)]))
        obtain ⟨T428, h428, X428, e428, W428, V428, st428⟩ := own_stC X425 hx hZ e425 V410 (by decide) (i := 5) rfl (Nat.le_of_ble_eq_true rfl) (g := (mkF m 199 #[.val (.int mode), .val (.int pos), .val (.int c0), .val (.int c1), .val (.int c2), .val (.int (mode &&& (7 : Int32))), .val (.int (c0 &&& (255 : Int32))), .val (.int (c1 &&& (255 : Int32))), .val (.int (c2 &&& (255 : Int32))), .val (.ref b7), .unset, .unset, .unset, .unset] [(.int (114 : Int32)), (.int (5 : Int32)), (.ref b410), (.ref b410)])) rfl rfl (hb hby at_199)
        replace V410 : Arv Z h428 b410 k410 .char (10 : Int32) [(.int (100 : Int32)), (.int (111 : Int32)), (.int (99 : Int32)), (.int (107 : Int32)), (.int (101 : Int32)), (.int (114 : Int32)), (.int (0 : Int32)), (.int (0 : Int32)), (.int (0 : Int32)), (.int (0 : Int32))] (.int (0 : Int32)) := V428
        have N428 := Fr.snoc X428 N425 g_b410
        refine own_go st428 ?_
        have sa429 := S_b410
        replace S_b7 := Safe.wr W428 sa429 CH S_b7
        replace S_b410 := Safe.wr W428 sa429 CH S_b410
        replace CR := CR.trans (CHr.wr W428 sa429 CH)
        replace CH := CHv.wr W428 sa429 CH
        replace hk := Nat.le_trans hk (Keep.of_wr W428).1
        replace O0 := O0.wr W428 g_b410
        replace V7 := V7.other W428 ne411
        have K430 := K427.wr W428 (Or.inr sz_b410)
        refine own_go (fun _ kk_ => XS.dup X428.here hx rfl (hb hby at_200) rfl rfl kk_) ?_
        refine own_go (fun _ kk_ => XS.bipush X428.here hx rfl (hb hby at_201) kk_) ?_
        refine own_go (fun _ kk_ => XS.bipush X428.here hx rfl (hb hby at_203) kk_) ?_
        show own_Fin p.tables e below _ (T428.setTop (mkF m 205 #[.val (.int mode), .val (.int pos), .val (.int c0), .val (.int c1), .val (.int c2), .val (.int (mode &&& (7 : Int32))), .val (.int (c0 &&& (255 : Int32))), .val (.int (c1 &&& (255 : Int32))), .val (.int (c2 &&& (255 : Int32))), .val (.ref b7), .unset, .unset, .unset, .unset] [(.int (46 : Int32)), (.int (6 : Int32)), (.ref b410), (.ref b410)]))
        obtain ⟨T431, h431, X431, e431, W431, V431, st431⟩ := own_stC X428 hx hZ e428 V410 (by decide) (i := 6) rfl (Nat.le_of_ble_eq_true rfl) (g := (mkF m 205 #[.val (.int mode), .val (.int pos), .val (.int c0), .val (.int c1), .val (.int c2), .val (.int (mode &&& (7 : Int32))), .val (.int (c0 &&& (255 : Int32))), .val (.int (c1 &&& (255 : Int32))), .val (.int (c2 &&& (255 : Int32))), .val (.ref b7), .unset, .unset, .unset, .unset] [(.int (46 : Int32)), (.int (6 : Int32)), (.ref b410), (.ref b410)])) rfl rfl (hb hby at_205)
        replace V410 : Arv Z h431 b410 k410 .char (10 : Int32) [(.int (100 : Int32)), (.int (111 : Int32)), (.int (99 : Int32)), (.int (107 : Int32)), (.int (101 : Int32)), (.int (114 : Int32)), (.int (46 : Int32)), (.int (0 : Int32)), (.int (0 : Int32)), (.int (0 : Int32))] (.int (0 : Int32)) := V431
        have N431 := Fr.snoc X431 N428 g_b410
        refine own_go st431 ?_
        have sa432 := S_b410
        replace S_b7 := Safe.wr W431 sa432 CH S_b7
        replace S_b410 := Safe.wr W431 sa432 CH S_b410
        replace CR := CR.trans (CHr.wr W431 sa432 CH)
        replace CH := CHv.wr W431 sa432 CH
        replace hk := Nat.le_trans hk (Keep.of_wr W431).1
        replace O0 := O0.wr W431 g_b410
        replace V7 := V7.other W431 ne411
        have K433 := K430.wr W431 (Or.inr sz_b410)
        refine own_go (fun _ kk_ => XS.dup X431.here hx rfl (hb hby at_206) rfl rfl kk_) ?_
        refine own_go (fun _ kk_ => XS.bipush X431.here hx rfl (hb hby at_207) kk_) ?_
        refine own_go (fun _ kk_ => XS.bipush X431.here hx rfl (hb hby at_209) kk_) ?_
        show own_Fin p.tables e below _ (T431.setTop (mkF m 211 #[.val (.int mode), .val (.int pos), .val (.int c0), .val (.int c1), .val (.int c2), .val (.int (mode &&& (7 : Int32))), .val (.int (c0 &&& (255 : Int32))), .val (.int (c1 &&& (255 : Int32))), .val (.int (c2 &&& (255 : Int32))), .val (.ref b7), .unset, .unset, .unset, .unset] [(.int (105 : Int32)), (.int (7 : Int32)), (.ref b410), (.ref b410)]))
        obtain ⟨T434, h434, X434, e434, W434, V434, st434⟩ := own_stC X431 hx hZ e431 V410 (by decide) (i := 7) rfl (Nat.le_of_ble_eq_true rfl) (g := (mkF m 211 #[.val (.int mode), .val (.int pos), .val (.int c0), .val (.int c1), .val (.int c2), .val (.int (mode &&& (7 : Int32))), .val (.int (c0 &&& (255 : Int32))), .val (.int (c1 &&& (255 : Int32))), .val (.int (c2 &&& (255 : Int32))), .val (.ref b7), .unset, .unset, .unset, .unset] [(.int (105 : Int32)), (.int (7 : Int32)), (.ref b410), (.ref b410)])) rfl rfl (hb hby at_211)
        replace V410 : Arv Z h434 b410 k410 .char (10 : Int32) [(.int (100 : Int32)), (.int (111 : Int32)), (.int (99 : Int32)), (.int (107 : Int32)), (.int (101 : Int32)), (.int (114 : Int32)), (.int (46 : Int32)), (.int (105 : Int32)), (.int (0 : Int32)), (.int (0 : Int32))] (.int (0 : Int32)) := V434
        have N434 := Fr.snoc X434 N431 g_b410
        refine own_go st434 ?_
        have sa435 := S_b410
        replace S_b7 := Safe.wr W434 sa435 CH S_b7
        replace S_b410 := Safe.wr W434 sa435 CH S_b410
        replace CR := CR.trans (CHr.wr W434 sa435 CH)
        replace CH := CHv.wr W434 sa435 CH
        replace hk := Nat.le_trans hk (Keep.of_wr W434).1
        replace O0 := O0.wr W434 g_b410
        replace V7 := V7.other W434 ne411
        have K436 := K433.wr W434 (Or.inr sz_b410)
        refine own_go (fun _ kk_ => XS.dup X434.here hx rfl (hb hby at_212) rfl rfl kk_) ?_
        refine own_go (fun _ kk_ => XS.bipush X434.here hx rfl (hb hby at_213) kk_) ?_
        refine own_go (fun _ kk_ => XS.bipush X434.here hx rfl (hb hby at_215) kk_) ?_
        show own_Fin p.tables e below _ (T434.setTop (mkF m 217 #[.val (.int mode), .val (.int pos), .val (.int c0), .val (.int c1), .val (.int c2), .val (.int (mode &&& (7 : Int32))), .val (.int (c0 &&& (255 : Int32))), .val (.int (c1 &&& (255 : Int32))), .val (.int (c2 &&& (255 : Int32))), .val (.ref b7), .unset, .unset, .unset, .unset] [(.int (111 : Int32)), (.int (8 : Int32)), (.ref b410), (.ref b410)]))
        obtain ⟨T437, h437, X437, e437, W437, V437, st437⟩ := own_stC X434 hx hZ e434 V410 (by decide) (i := 8) rfl (Nat.le_of_ble_eq_true rfl) (g := (mkF m 217 #[.val (.int mode), .val (.int pos), .val (.int c0), .val (.int c1), .val (.int c2), .val (.int (mode &&& (7 : Int32))), .val (.int (c0 &&& (255 : Int32))), .val (.int (c1 &&& (255 : Int32))), .val (.int (c2 &&& (255 : Int32))), .val (.ref b7), .unset, .unset, .unset, .unset] [(.int (111 : Int32)), (.int (8 : Int32)), (.ref b410), (.ref b410)])) rfl rfl (hb hby at_217)
        replace V410 : Arv Z h437 b410 k410 .char (10 : Int32) [(.int (100 : Int32)), (.int (111 : Int32)), (.int (99 : Int32)), (.int (107 : Int32)), (.int (101 : Int32)), (.int (114 : Int32)), (.int (46 : Int32)), (.int (105 : Int32)), (.int (111 : Int32)), (.int (0 : Int32))] (.int (0 : Int32)) := V437
        have N437 := Fr.snoc X437 N434 g_b410
        refine own_go st437 ?_
        have sa438 := S_b410
        replace S_b7 := Safe.wr W437 sa438 CH S_b7
        replace S_b410 := Safe.wr W437 sa438 CH S_b410
        replace CR := CR.trans (CHr.wr W437 sa438 CH)
        replace CH := CHv.wr W437 sa438 CH
        replace hk := Nat.le_trans hk (Keep.of_wr W437).1
        replace O0 := O0.wr W437 g_b410
        replace V7 := V7.other W437 ne411
        have K439 := K436.wr W437 (Or.inr sz_b410)
        refine own_go (fun _ kk_ => XS.dup X437.here hx rfl (hb hby at_218) rfl rfl kk_) ?_
        refine own_go (fun _ kk_ => XS.bipush X437.here hx rfl (hb hby at_219) kk_) ?_
        refine own_go (fun _ kk_ => XS.iload X437.here hx rfl (hb hby at_221) rfl kk_) ?_
        show own_Fin p.tables e below _ (T437.setTop (mkF m 223 #[.val (.int mode), .val (.int pos), .val (.int c0), .val (.int c1), .val (.int c2), .val (.int (mode &&& (7 : Int32))), .val (.int (c0 &&& (255 : Int32))), .val (.int (c1 &&& (255 : Int32))), .val (.int (c2 &&& (255 : Int32))), .val (.ref b7), .unset, .unset, .unset, .unset] [(.int (c0 &&& (255 : Int32))), (.int (9 : Int32)), (.ref b410), (.ref b410)]))
        obtain ⟨T440, h440, X440, e440, W440, V440, st440⟩ := own_stC X437 hx hZ e437 V410 (by decide) (i := 9) rfl (Nat.le_of_ble_eq_true rfl) (g := (mkF m 223 #[.val (.int mode), .val (.int pos), .val (.int c0), .val (.int c1), .val (.int c2), .val (.int (mode &&& (7 : Int32))), .val (.int (c0 &&& (255 : Int32))), .val (.int (c1 &&& (255 : Int32))), .val (.int (c2 &&& (255 : Int32))), .val (.ref b7), .unset, .unset, .unset, .unset] [(.int (c0 &&& (255 : Int32))), (.int (9 : Int32)), (.ref b410), (.ref b410)])) rfl rfl (hb hby at_223)
        rw [own_nar255] at V440
        replace V410 : Arv Z h440 b410 k410 .char (10 : Int32) [(.int (100 : Int32)), (.int (111 : Int32)), (.int (99 : Int32)), (.int (107 : Int32)), (.int (101 : Int32)), (.int (114 : Int32)), (.int (46 : Int32)), (.int (105 : Int32)), (.int (111 : Int32)), (.int (c0 &&& (255 : Int32)))] (.int (0 : Int32)) := V440
        have N440 := Fr.snoc X440 N437 g_b410
        refine own_go st440 ?_
        have sa441 := S_b410
        replace S_b7 := Safe.wr W440 sa441 CH S_b7
        replace S_b410 := Safe.wr W440 sa441 CH S_b410
        replace CR := CR.trans (CHr.wr W440 sa441 CH)
        replace CH := CHv.wr W440 sa441 CH
        replace hk := Nat.le_trans hk (Keep.of_wr W440).1
        replace O0 := O0.wr W440 g_b410
        replace V7 := V7.other W440 ne411
        have K442 := K439.wr W440 (Or.inr sz_b410)
        refine own_go (fun _ kk_ => XS.astore X440.here hx rfl (hb hby at_224) rfl rfl (l' := #[.val (.int mode), .val (.int pos), .val (.int c0), .val (.int c1), .val (.int c2), .val (.int (mode &&& (7 : Int32))), .val (.int (c0 &&& (255 : Int32))), .val (.int (c1 &&& (255 : Int32))), .val (.int (c2 &&& (255 : Int32))), .val (.ref b7), .unset, .unset, .val (.ref b410), .unset]) rfl kk_) ?_
        show own_Fin p.tables e below _ (T440.setTop (mkF m 226 #[.val (.int mode), .val (.int pos), .val (.int c0), .val (.int c1), .val (.int c2), .val (.int (mode &&& (7 : Int32))), .val (.int (c0 &&& (255 : Int32))), .val (.int (c1 &&& (255 : Int32))), .val (.int (c2 &&& (255 : Int32))), .val (.ref b7), .unset, .unset, .val (.ref b410), .unset] []))
        obtain ⟨T443, h443, X443, e443, E443, A443, D443, -, st443⟩ := newO X440 hx hZ hown (hw _ (List.mem_of_getElem? (i := 1) rfl)) (hw _ (List.mem_of_getElem? (i := 2) rfl)) (hw _ (List.mem_of_getElem? (i := 3) rfl)) e440 (g := (mkF m 226 #[.val (.int mode), .val (.int pos), .val (.int c0), .val (.int c1), .val (.int c2), .val (.int (mode &&& (7 : Int32))), .val (.int (c0 &&& (255 : Int32))), .val (.int (c1 &&& (255 : Int32))), .val (.int (c2 &&& (255 : Int32))), .val (.ref b7), .unset, .unset, .val (.ref b410), .unset] [])) rfl (hb hby at_226) (by decide) (by decide)
        obtain ⟨b443, g443⟩ : ∃ z, z = h440.size := ⟨_, rfl⟩
        rw [← g443] at A443 D443 st443
        have sz_b443 : h0.size ≤ b443 := Nat.le_trans K442.1 (Nat.le_of_eq g443.symm)
        have g_b443 : n0 ≤ b443 := Nat.le_trans Z0 sz_b443
        have ne444 : b7 ≠ b443 := Nat.ne_of_lt (Nat.lt_of_lt_of_le V7.lt (Nat.le_of_eq g443.symm))
        have ne445 : b410 ≠ b443 := Nat.ne_of_lt (Nat.lt_of_lt_of_le V410.lt (Nat.le_of_eq g443.symm))
        have S_b443 := Safe.new (Z := Z) (EL := consts_1) (vm := s.vm) (Nat.le_of_eq g443.symm)
        replace S_b7 := Safe.ext E443 CH S_b7
        replace S_b410 := Safe.ext E443 CH S_b410
        replace S_b443 := Safe.ext E443 CH S_b443
        replace CR := CR.trans (CHr.ext E443 CH)
        replace CH := CH.ext E443
        replace hk := Nat.le_trans hk E443.1
        replace O0 := O0.ext E443
        replace V7 := V7.ext E443
        replace V410 := V410.ext E443
        have K446 := K442.ext E443
        have F443_coder : Fld Z h443 b443 "java/lang/String" "coder" "B" (.int (0 : Int32)) := D443 (Or.inr (hw _ (List.mem_of_getElem? (i := 27) rfl))) (ty := .byte) (by decide)
        have F443_value : Fld Z h443 b443 "java/lang/String" "value" "[B" .null := D443 (Or.inr (hw _ (List.mem_of_getElem? (i := 29) rfl))) (ty := (.array .byte)) (by decide)
        refine own_go st443 ?_
        refine own_go (fun _ kk_ => XS.dup X443.here hx rfl (hb hby at_229) rfl rfl kk_) ?_
        refine own_go (fun _ kk_ => XS.aload X443.here hx rfl (hb hby at_230) rfl rfl kk_) ?_
        show own_Fin p.tables e below _ (T443.setTop (mkF m 232 #[.val (.int mode), .val (.int pos), .val (.int c0), .val (.int c1), .val (.int c2), .val (.int (mode &&& (7 : Int32))), .val (.int (c0 &&& (255 : Int32))), .val (.int (c1 &&& (255 : Int32))), .val (.int (c2 &&& (255 : Int32))), .val (.ref b7), .unset, .unset, .val (.ref b410), .unset] [(.ref b410), (.ref b443), (.ref b443)]))
        have hp448 : ∀ c ∈ ([(100 : Int32), (111 : Int32), (99 : Int32), (107 : Int32), (101 : Int32), (114 : Int32), (46 : Int32), (105 : Int32), (111 : Int32), (c0 &&& (255 : Int32))] : List Int32), ¬ c < 0 ∧ ¬ (255 : Int32) < c := by
          intro c hc
          simp only [List.mem_cons, List.not_mem_nil, or_false] at hc
          rcases hc with rfl | rfl | rfl | rfl | rfl | rfl | rfl | rfl | rfl | rfl
          · exact by decide
          · exact by decide
          · exact by decide
          · exact by decide
          · exact by decide
          · exact by decide
          · exact by decide
          · exact by decide
          · exact by decide
          · exact own_and255 _
        obtain ⟨_, _, ⟨T447, L447, k447, n447⟩, -, X447, ⟨Lc447, hQ447, l447, y447, z447⟩, st447⟩ := X443.specialBack hx (y := (⟨"java/lang/String", "<init>", "([C)V"⟩ : MethodName)) rfl hown (mvT hZ (hw _ (List.mem_of_getElem? (i := 4) rfl))) (mvT hZ (hw _ (List.mem_of_getElem? (i := 5) rfl))) (mvT hZ (hw _ (List.mem_of_getElem? (i := 6) rfl))) (by decide) (StrChars.Road.backV (W := 1) hZ hws (kI := 4) (hw _ (List.mem_of_getElem? (i := 2) rfl)) (cs := ([(100 : Int32), (111 : Int32), (99 : Int32), (107 : Int32), (101 : Int32), (114 : Int32), (46 : Int32), (105 : Int32), (111 : Int32), (c0 &&& (255 : Int32))] : List Int32)) (bs := (([(100 : Int32), (111 : Int32), (99 : Int32), (107 : Int32), (101 : Int32), (114 : Int32), (46 : Int32), (105 : Int32), (111 : Int32), (c0 &&& (255 : Int32))] : List Int32)).map (fun c => c.toInt8.toInt32)) (n := 10) g_b443 (Nat.le_trans Z0 K446.1) A443 F443_value F443_coder V410 (S_C.ext O0.2) hcs rfl rfl (by decide) (by decide) hp448 rfl (by decide) (by decide)) (g := (mkF m 232 #[.val (.int mode), .val (.int pos), .val (.int c0), .val (.int c1), .val (.int c2), .val (.int (mode &&& (7 : Int32))), .val (.int (c0 &&& (255 : Int32))), .val (.int (c1 &&& (255 : Int32))), .val (.int (c2 &&& (255 : Int32))), .val (.ref b7), .unset, .unset, .val (.ref b410), .unset] [(.ref b410), (.ref b443), (.ref b443)])) rfl (by rw [hml]; rfl) (Steps.refl _) (a := b443) (argsL := [(.ref b410)]) (rest := [(.ref b443)]) (lenOf pd_3 rfl) rfl (by show 2 * 0 + _ ≤ _; exact Nat.le_of_eq rfl) (hb hby at_232) (fun _ _ => ⟨rfl, e443, (by decide : 3 + 1 ≤ _), (by decide : 23 + 10 ≤ _)⟩)
        dsimp only [Pt.U, Pt.locs, Pt.cells, Pt.slots] at X447 l447 y447 z447 st447 hQ447
        subst l447 y447 z447
        obtain ⟨rfl, N447q, KK447, EE447, FC447, t447, kb447, gt447, szt447, netx447, FV447, VV447⟩ := hQ447
        have N447 := Fr.app N440 N447q
        have SS447 : own_Str Z T447.heap b443 t447 ([(100 : Int32), (111 : Int32), (99 : Int32), (107 : Int32), (101 : Int32), (114 : Int32), (46 : Int32), (105 : Int32), (111 : Int32), (c0 &&& (255 : Int32))] : List Int32) := ⟨_, _, _, _, EE447, FV447, FC447, VV447, StrChars.Road.codOf (n := 10) rfl (fun c hc => (hp448 c hc).2), own_up _ hp448, Nat.le_of_ble_eq_true rfl⟩
        have sz_t447 : h0.size ≤ t447 := Nat.le_trans K446.1 szt447
        have ne449 : b7 ≠ t447 := Nat.ne_of_lt (Nat.lt_of_lt_of_le V7.lt szt447)
        have ne450 : b410 ≠ t447 := Nat.ne_of_lt (Nat.lt_of_lt_of_le V410.lt szt447)
        have ne451 : b443 ≠ t447 := Nat.ne_of_lt (Nat.lt_of_lt_of_le A443.lt szt447)
        have S_t447 := Safe.new (Z := Z) (EL := consts_1) (vm := s.vm) szt447
        have hs452 : ∀ x ∈ [b443], Safe Z consts_1 s.vm h443 x := (sfS S_b443 sf0)
        replace S_b7 := Safe.keep KK447 hs452 CH S_b7
        replace S_b410 := Safe.keep KK447 hs452 CH S_b410
        replace S_b443 := Safe.keep KK447 hs452 CH S_b443
        replace S_t447 := Safe.keep KK447 hs452 CH S_t447
        replace CR := CR.trans (CHr.keep KK447 hs452 CH)
        replace CH := CHv.keep KK447 hs452 CH
        replace hk := Nat.le_trans hk KK447.1
        replace O0 := O0.keep KK447 (allS g_b443 (all0))
        replace V7 := V7.keep KK447 (ninS ne444 nin0)
        replace V410 := V410.keep KK447 (ninS ne445 nin0)
        replace A443 := A443.keep KK447
        have K453 := K446.trans KK447 (allS (Or.inr sz_b443) all0)
        refine own_go (fun _ kk_ => st447.trans kk_) ?_
        refine own_go (fun _ kk_ => XS.astore X447.here hx rfl (hb hby at_235) rfl rfl (l' := #[.val (.int mode), .val (.int pos), .val (.int c0), .val (.int c1), .val (.int c2), .val (.int (mode &&& (7 : Int32))), .val (.int (c0 &&& (255 : Int32))), .val (.int (c1 &&& (255 : Int32))), .val (.int (c2 &&& (255 : Int32))), .val (.ref b7), .val (.ref b443), .unset, .val (.ref b410), .unset]) rfl kk_) ?_
        refine own_go (fun _ kk_ => XS.iconst X447.here hx rfl (hb hby at_237) kk_) ?_
        refine own_go (fun _ kk_ => XS.istore X447.here hx rfl (hb hby at_238) rfl (l' := #[.val (.int mode), .val (.int pos), .val (.int c0), .val (.int c1), .val (.int c2), .val (.int (mode &&& (7 : Int32))), .val (.int (c0 &&& (255 : Int32))), .val (.int (c1 &&& (255 : Int32))), .val (.int (c2 &&& (255 : Int32))), .val (.ref b7), .val (.ref b443), .val (.int (0 : Int32)), .val (.ref b410), .unset]) rfl kk_) ?_
        refine own_go (fun _ kk_ => XS.goto X447.here hx rfl (pc0 := 240) (pc' := 397) rfl (hb hby at_240) (by decide) (by decide) kk_) ?_
        refine own_go (fun _ kk_ => XS.iload X447.here hx rfl (hb hby at_397) rfl kk_) ?_
        show own_Fin p.tables e below _ (T447.setTop (mkF m 399 #[.val (.int mode), .val (.int pos), .val (.int c0), .val (.int c1), .val (.int c2), .val (.int (mode &&& (7 : Int32))), .val (.int (c0 &&& (255 : Int32))), .val (.int (c1 &&& (255 : Int32))), .val (.int (c2 &&& (255 : Int32))), .val (.ref b7), .val (.ref b443), .val (.int (0 : Int32)), .val (.ref b410), .unset] [(.int (0 : Int32))]))
        refine own_go (fun _ kk_ => XS.ifYes X447.here hx rfl (pc0 := 399) (pc' := 407) rfl (hb hby at_399) rfl ((if0 _ _).trans (teq (by decide : (0 : Int32) = (0 : Int32))).1) (by decide) (by decide) kk_) ?_
        refine own_go (fun _ kk_ => XS.aload X447.here hx rfl (hb hby at_407) rfl rfl kk_) ?_
        refine own_go (fun _ kk_ => XS.astore X447.here hx rfl (hb hby at_409) rfl rfl (l' := #[.val (.int mode), .val (.int pos), .val (.int c0), .val (.int c1), .val (.int c2), .val (.int (mode &&& (7 : Int32))), .val (.int (c0 &&& (255 : Int32))), .val (.int (c1 &&& (255 : Int32))), .val (.int (c2 &&& (255 : Int32))), .val (.ref b7), .val (.ref b443), .val (.int (0 : Int32)), .val (.ref b443), .unset]) rfl kk_) ?_
        refine own_go (fun _ kk_ => XS.aload X447.here hx rfl (hb hby at_411) rfl rfl kk_) ?_
        show own_Fin p.tables e below _ (T447.setTop (mkF m 413 #[.val (.int mode), .val (.int pos), .val (.int c0), .val (.int c1), .val (.int c2), .val (.int (mode &&& (7 : Int32))), .val (.int (c0 &&& (255 : Int32))), .val (.int (c1 &&& (255 : Int32))), .val (.int (c2 &&& (255 : Int32))), .val (.ref b7), .val (.ref b443), .val (.int (0 : Int32)), .val (.ref b443), .unset] [(.ref b443)]))
        obtain ⟨_, _, ⟨T454, L454, k454, n454⟩, -, X454, hSn454, hgr454, ⟨Lc454, hQ454, l454, y454, z454, CR454⟩, st454⟩ := callSS X447 hx (y := (⟨"com/example/laminate/laminate/core/DefaultRegistry", "credentialsKey", "(Ljava/lang/String;)Ljava/lang/String;"⟩ : MethodName)) hown (mvT hZ (hw _ (List.mem_of_getElem? (i := 33) rfl))) (mvT hZ (hw _ (List.mem_of_getElem? (i := 34) rfl))) (mvT hZ (hw _ (List.mem_of_getElem? (i := 35) rfl))) (mvT hZ (hw _ (List.mem_of_getElem? (i := 36) rfl))) (by decide) (backOfSH (s := s) (W := 0) (rm_ck l Z a0 hw [] hEL b443 t447 ([(100 : Int32), (111 : Int32), (99 : Int32), (107 : Int32), (101 : Int32), (114 : Int32), (46 : Int32), (105 : Int32), (111 : Int32), (c0 &&& (255 : Int32))] : List Int32) gc T447.heap n0 (Nat.le_trans Z0 K453.1) SS447 S_C hcs O0) hZ (hw _ (List.mem_of_getElem? (i := 36) rfl)) (hw _ (List.mem_of_getElem? (i := 35) rfl)) (by decide) (by decide) hEL CH) (g := (mkF m 413 #[.val (.int mode), .val (.int pos), .val (.int c0), .val (.int c1), .val (.int c2), .val (.int (mode &&& (7 : Int32))), .val (.int (c0 &&& (255 : Int32))), .val (.int (c1 &&& (255 : Int32))), .val (.int (c2 &&& (255 : Int32))), .val (.ref b7), .val (.ref b443), .val (.int (0 : Int32)), .val (.ref b443), .unset] [(.ref b443)])) rfl (by rw [hml]; rfl) (argsL := [(.ref b443)]) (rest := []) (lenOf pd_4 rfl) rfl (by show 2 * 0 + _ ≤ _; exact Nat.le_of_eq rfl) (hb hby at_413) (fun _ _ => ⟨rfl, rfl, (by decide : 4 + 4 ≤ _), (by decide : 33 + 152 ≤ _)⟩)
        dsimp only [Pt.U, Pt.locs, Pt.cells, Pt.slots] at X454 l454 y454 z454 st454 hQ454 hSn454 hgr454 CR454
        subst l454 y454 z454
        replace hS := foldS hS hk hSn454 hgr454
        replace hk : T454.heap.size ≤ T454.heap.size := Nat.le_refl _
        replace hZ : Z.Warmed39 (s.setVm T454.vm).vm := State.Warmed39.trans (t := s.setVm s.vm) hZ hSn454.1
        replace hown : (s.setVm T454.vm).vm.findClass "com/example/laminate/laminate/core/DefaultRegistryCredentialsKeyPinLaw" = some m.cls := by rw [show (s.setVm T454.vm).vm = T454.vm from rfl, hSn454.1.alike.findClass]; exact hown
        replace X454 : Stand p l e room_1 (s.setVm T454.vm) m #[(.int mode), (.int pos), (.int c0), (.int c1), (.int c2)] below meth c T454 _ _ _ := X454
        replace S_b7 := CR454.safe V7.lt S_b7
        replace S_b410 := CR454.safe V410.lt S_b410
        replace S_b443 := CR454.safe SS447.lt S_b443
        replace S_t447 := CR454.safe SS447.ltt S_t447
        replace CR := CR.trans CR454
        replace CH := CR454.1
        obtain ⟨N454q, KK454, hy454, hn454⟩ := hQ454
        have N454 := Fr.app N447 N454q
        obtain rfl := hn454 (by simp)
        replace O0 := O0.keep KK454 all0
        replace V7 := V7.keep KK454 nin0
        replace V410 := V410.keep KK454 nin0
        replace SS447 := SS447.keep KK454 nin0 nin0
        have K455 := K453.trans KK454 all0
        refine own_go (fun _ kk_ => st454.trans kk_) ?_
        refine own_go (fun _ kk_ => XS.astore X454.here hx rfl (hb hby at_416) rfl rfl (l' := #[.val (.int mode), .val (.int pos), .val (.int c0), .val (.int c1), .val (.int c2), .val (.int (mode &&& (7 : Int32))), .val (.int (c0 &&& (255 : Int32))), .val (.int (c1 &&& (255 : Int32))), .val (.int (c2 &&& (255 : Int32))), .val (.ref b7), .val (.ref b443), .val (.int (0 : Int32)), .val (.ref b443), .val (.ref b443)]) rfl kk_) ?_
        refine own_go (fun _ kk_ => XS.aload X454.here hx rfl (hb hby at_418) rfl rfl kk_) ?_
        refine own_go (fun _ kk_ => XS.aload X454.here hx rfl (hb hby at_420) rfl rfl kk_) ?_
        show own_Fin p.tables e below _ (T454.setTop (mkF m 422 #[.val (.int mode), .val (.int pos), .val (.int c0), .val (.int c1), .val (.int c2), .val (.int (mode &&& (7 : Int32))), .val (.int (c0 &&& (255 : Int32))), .val (.int (c1 &&& (255 : Int32))), .val (.int (c2 &&& (255 : Int32))), .val (.ref b7), .val (.ref b443), .val (.int (0 : Int32)), .val (.ref b443), .val (.ref b443)] [(.ref b443), (.ref b443)]))
        obtain ⟨cq456, kq456, qa456, qb456, qc456⟩ := isOf hZ rfl SS447.exa
        obtain ⟨_, _, ⟨T456, L456, k456, n456⟩, -, X456, ⟨Lc456, hQ456, l456, y456, z456⟩, st456⟩ := X454.virtualBack hx (y := (⟨"java/lang/String", "equals", "(Ljava/lang/Object;)Z"⟩ : MethodName)) (z := (⟨"java/lang/String", "equals", "(Ljava/lang/Object;)Z"⟩ : MethodName)) hown (mvT hZ (hw _ (List.mem_of_getElem? (i := 49) rfl))) (mvT hZ (hw _ (List.mem_of_getElem? (i := 39) rfl))) (own_notface (args := #[]) (mvT hZ (hw _ (List.mem_of_getElem? (i := 41) rfl))) rfl) (mvT hZ (hw _ (List.mem_of_getElem? (i := 41) rfl))) (mvT hZ (hw _ (List.mem_of_getElem? (i := 40) rfl))) (by decide) (own_eqB (W := 0) hZ heq (hw _ (List.mem_of_getElem? (i := 2) rfl)) SS447 SS447 (S_C.ext O0.2) hcs (by decide) (by decide)) qa456 qc456 (g := (mkF m 422 #[.val (.int mode), .val (.int pos), .val (.int c0), .val (.int c1), .val (.int c2), .val (.int (mode &&& (7 : Int32))), .val (.int (c0 &&& (255 : Int32))), .val (.int (c1 &&& (255 : Int32))), .val (.int (c2 &&& (255 : Int32))), .val (.ref b7), .val (.ref b443), .val (.int (0 : Int32)), .val (.ref b443), .val (.ref b443)] [(.ref b443), (.ref b443)])) rfl (by rw [hml]; rfl) (Steps.refl _) (argsL := [(.ref b443)]) (rest := []) (lenOf pd_1 rfl) rfl (by show 2 * 0 + _ ≤ _; exact Nat.le_of_eq rfl) (hb hby at_422) (fun _ _ => ⟨rfl, rfl, (by decide : 8 + 0 ≤ _), (by decide : 185 + 0 ≤ _)⟩)
        dsimp only [Pt.U, Pt.locs, Pt.cells, Pt.slots] at X456 l456 y456 z456 st456 hQ456
        subst l456 y456 z456
        obtain ⟨hq456, rfl, e456⟩ := hQ456
        obtain ⟨z456, rfl, hz456⟩ := own_eqv hq456
        have N456 := Fr.app N454 (Fr.nil n0)
        obtain rfl : z456 = 1 := hz456.elim (fun q => q.1) (fun q => absurd rfl q.2)
        refine own_go (fun _ kk_ => st456.trans kk_) ?_
        show own_Fin p.tables e below _ (T456.setTop (mkF m 425 #[.val (.int mode), .val (.int pos), .val (.int c0), .val (.int c1), .val (.int c2), .val (.int (mode &&& (7 : Int32))), .val (.int (c0 &&& (255 : Int32))), .val (.int (c1 &&& (255 : Int32))), .val (.int (c2 &&& (255 : Int32))), .val (.ref b7), .val (.ref b443), .val (.int (0 : Int32)), .val (.ref b443), .val (.ref b443)] [(.int (1 : Int32))]))
        have CRz : CHr Z consts_1 s.vm s.heap T456.vm T456.heap := by
          rw [hh, e456]
          exact CR.trans (CHv.at X456 hZ hEL CH)
        refine own_retW X456 hx Bd hS (show _ ≤ T456.heap.size by rw [e456]; exact hk) (t := .boolean) Bd.returns rfl (Or.inl ⟨rfl, by simp, _, rfl⟩) (hb hby at_425) CRz ?_ (by decide) (by decide)
        show (Q_rm_law Z mode pos c0 c1 c2 gc h0 n0) (some (.int (1 : Int32))) T456.heap _
        rw [e456]
        exact ⟨rfl, N456⟩
      · skip
        refine own_go (fun _ kk_ => XS.icmpYes X33.here hx rfl (pc0 := 163) (pc' := 243) rfl (hb hby at_163) rfl (feq hc409).2 (by decide) (by decide) kk_) ?_
        refine own_go (fun _ kk_ => XS.iload X33.here hx rfl (hb hby at_243) rfl kk_) ?_
        refine own_go (fun _ kk_ => XS.iconst X33.here hx rfl (hb hby at_245) kk_) ?_
        show own_Fin p.tables e below _ (T33.setTop (mkF m 246 #[.val (.int mode), .val (.int pos), .val (.int c0), .val (.int c1), .val (.int c2), .val (.int (mode &&& (7 : Int32))), .val (.int (c0 &&& (255 : Int32))), .val (.int (c1 &&& (255 : Int32))), .val (.int (c2 &&& (255 : Int32))), .val (.ref b7), .unset, .unset, .unset, .unset] [(.int (3 : Int32)), (.int (mode &&& (7 : Int32)))]))
        by_cases hc457 : (mode &&& (7 : Int32)) = (3 : Int32)
        · skip
          refine own_go (fun _ kk_ => XS.icmpNo X33.here hx rfl (hb hby at_246) rfl (teq hc457).2 kk_) ?_
          refine own_go (fun _ kk_ => XS.iconst X33.here hx rfl (hb hby at_249) kk_) ?_
          show own_Fin p.tables e below _ (T33.setTop (mkF m 250 #[.val (.int mode), .val (.int pos), .val (.int c0), .val (.int c1), .val (.int c2), .val (.int (mode &&& (7 : Int32))), .val (.int (c0 &&& (255 : Int32))), .val (.int (c1 &&& (255 : Int32))), .val (.int (c2 &&& (255 : Int32))), .val (.ref b7), .unset, .unset, .unset, .unset] [(.int (3 : Int32))]))
          obtain ⟨T458, h458, k458, X458, e458, E458, A458, st458⟩ := newP X33 hx hZ (hw _ (List.mem_of_getElem? (i := 0) rfl)) e33 (g := (mkF m 250 #[.val (.int mode), .val (.int pos), .val (.int c0), .val (.int c1), .val (.int c2), .val (.int (mode &&& (7 : Int32))), .val (.int (c0 &&& (255 : Int32))), .val (.int (c1 &&& (255 : Int32))), .val (.int (c2 &&& (255 : Int32))), .val (.ref b7), .unset, .unset, .unset, .unset] [(.int (3 : Int32))])) rfl (hb hby at_250) rfl (by decide) (cap := 3) (by decide) (by decide) (by decide) (by decide)
          obtain ⟨b458, g458⟩ : ∃ z, z = h33.size := ⟨_, rfl⟩
          rw [← g458] at A458 st458
          have sz_b458 : h0.size ≤ b458 := Nat.le_trans K35.1 (Nat.le_of_eq g458.symm)
          have g_b458 : n0 ≤ b458 := Nat.le_trans Z0 sz_b458
          have ne459 : b7 ≠ b458 := Nat.ne_of_lt (Nat.lt_of_lt_of_le V7.lt (Nat.le_of_eq g458.symm))
          have S_b458 := Safe.new (Z := Z) (EL := consts_1) (vm := s.vm) (Nat.le_of_eq g458.symm)
          replace S_b7 := Safe.ext E458 CH S_b7
          replace S_b458 := Safe.ext E458 CH S_b458
          replace CR := CR.trans (CHr.ext E458 CH)
          replace CH := CH.ext E458
          replace hk := Nat.le_trans hk E458.1
          replace O0 := O0.ext E458
          replace V7 := V7.ext E458
          have K460 := K35.ext E458
          have V458 : Arv Z h458 b458 k458 .char (3 : Int32) [(.int (0 : Int32)), (.int (0 : Int32)), (.int (0 : Int32))] (.int (0 : Int32)) := (Arv.new A458 (by decide)).pad (pad_rep [] (.int (0 : Int32)) 3)
          refine own_go st458 ?_
          refine own_go (fun _ kk_ => XS.dup X458.here hx rfl (hb hby at_252) rfl rfl kk_) ?_
          refine own_go (fun _ kk_ => XS.iconst X458.here hx rfl (hb hby at_253) kk_) ?_
          refine own_go (fun _ kk_ => XS.iload X458.here hx rfl (hb hby at_254) rfl kk_) ?_
          show own_Fin p.tables e below _ (T458.setTop (mkF m 256 #[.val (.int mode), .val (.int pos), .val (.int c0), .val (.int c1), .val (.int c2), .val (.int (mode &&& (7 : Int32))), .val (.int (c0 &&& (255 : Int32))), .val (.int (c1 &&& (255 : Int32))), .val (.int (c2 &&& (255 : Int32))), .val (.ref b7), .unset, .unset, .unset, .unset] [(.int (c0 &&& (255 : Int32))), (.int (0 : Int32)), (.ref b458), (.ref b458)]))
          obtain ⟨T461, h461, X461, e461, W461, V461, st461⟩ := own_stC X458 hx hZ e458 V458 (by decide) (i := 0) rfl (Nat.le_of_ble_eq_true rfl) (g := (mkF m 256 #[.val (.int mode), .val (.int pos), .val (.int c0), .val (.int c1), .val (.int c2), .val (.int (mode &&& (7 : Int32))), .val (.int (c0 &&& (255 : Int32))), .val (.int (c1 &&& (255 : Int32))), .val (.int (c2 &&& (255 : Int32))), .val (.ref b7), .unset, .unset, .unset, .unset] [(.int (c0 &&& (255 : Int32))), (.int (0 : Int32)), (.ref b458), (.ref b458)])) rfl rfl (hb hby at_256)
          rw [own_nar255] at V461
          replace V458 : Arv Z h461 b458 k458 .char (3 : Int32) [(.int (c0 &&& (255 : Int32))), (.int (0 : Int32)), (.int (0 : Int32))] (.int (0 : Int32)) := V461
          have N461 := Fr.snoc X461 N33 g_b458
          refine own_go st461 ?_
          have sa462 := S_b458
          replace S_b7 := Safe.wr W461 sa462 CH S_b7
          replace S_b458 := Safe.wr W461 sa462 CH S_b458
          replace CR := CR.trans (CHr.wr W461 sa462 CH)
          replace CH := CHv.wr W461 sa462 CH
          replace hk := Nat.le_trans hk (Keep.of_wr W461).1
          replace O0 := O0.wr W461 g_b458
          replace V7 := V7.other W461 ne459
          have K463 := K460.wr W461 (Or.inr sz_b458)
          refine own_go (fun _ kk_ => XS.dup X461.here hx rfl (hb hby at_257) rfl rfl kk_) ?_
          refine own_go (fun _ kk_ => XS.iconst X461.here hx rfl (hb hby at_258) kk_) ?_
          refine own_go (fun _ kk_ => XS.iload X461.here hx rfl (hb hby at_259) rfl kk_) ?_
          show own_Fin p.tables e below _ (T461.setTop (mkF m 261 #[.val (.int mode), .val (.int pos), .val (.int c0), .val (.int c1), .val (.int c2), .val (.int (mode &&& (7 : Int32))), .val (.int (c0 &&& (255 : Int32))), .val (.int (c1 &&& (255 : Int32))), .val (.int (c2 &&& (255 : Int32))), .val (.ref b7), .unset, .unset, .unset, .unset] [(.int (c1 &&& (255 : Int32))), (.int (1 : Int32)), (.ref b458), (.ref b458)]))
          obtain ⟨T464, h464, X464, e464, W464, V464, st464⟩ := own_stC X461 hx hZ e461 V458 (by decide) (i := 1) rfl (Nat.le_of_ble_eq_true rfl) (g := (mkF m 261 #[.val (.int mode), .val (.int pos), .val (.int c0), .val (.int c1), .val (.int c2), .val (.int (mode &&& (7 : Int32))), .val (.int (c0 &&& (255 : Int32))), .val (.int (c1 &&& (255 : Int32))), .val (.int (c2 &&& (255 : Int32))), .val (.ref b7), .unset, .unset, .unset, .unset] [(.int (c1 &&& (255 : Int32))), (.int (1 : Int32)), (.ref b458), (.ref b458)])) rfl rfl (hb hby at_261)
          rw [own_nar255] at V464
          replace V458 : Arv Z h464 b458 k458 .char (3 : Int32) [(.int (c0 &&& (255 : Int32))), (.int (c1 &&& (255 : Int32))), (.int (0 : Int32))] (.int (0 : Int32)) := V464
          have N464 := Fr.snoc X464 N461 g_b458
          refine own_go st464 ?_
          have sa465 := S_b458
          replace S_b7 := Safe.wr W464 sa465 CH S_b7
          replace S_b458 := Safe.wr W464 sa465 CH S_b458
          replace CR := CR.trans (CHr.wr W464 sa465 CH)
          replace CH := CHv.wr W464 sa465 CH
          replace hk := Nat.le_trans hk (Keep.of_wr W464).1
          replace O0 := O0.wr W464 g_b458
          replace V7 := V7.other W464 ne459
          have K466 := K463.wr W464 (Or.inr sz_b458)
          refine own_go (fun _ kk_ => XS.dup X464.here hx rfl (hb hby at_262) rfl rfl kk_) ?_
          refine own_go (fun _ kk_ => XS.iconst X464.here hx rfl (hb hby at_263) kk_) ?_
          refine own_go (fun _ kk_ => XS.iload X464.here hx rfl (hb hby at_264) rfl kk_) ?_
          show own_Fin p.tables e below _ (T464.setTop (mkF m 266 #[.val (.int mode), .val (.int pos), .val (.int c0), .val (.int c1), .val (.int c2), .val (.int (mode &&& (7 : Int32))), .val (.int (c0 &&& (255 : Int32))), .val (.int (c1 &&& (255 : Int32))), .val (.int (c2 &&& (255 : Int32))), .val (.ref b7), .unset, .unset, .unset, .unset] [(.int (c2 &&& (255 : Int32))), (.int (2 : Int32)), (.ref b458), (.ref b458)]))
          obtain ⟨T467, h467, X467, e467, W467, V467, st467⟩ := own_stC X464 hx hZ e464 V458 (by decide) (i := 2) rfl (Nat.le_of_ble_eq_true rfl) (g := (mkF m 266 #[.val (.int mode), .val (.int pos), .val (.int c0), .val (.int c1), .val (.int c2), .val (.int (mode &&& (7 : Int32))), .val (.int (c0 &&& (255 : Int32))), .val (.int (c1 &&& (255 : Int32))), .val (.int (c2 &&& (255 : Int32))), .val (.ref b7), .unset, .unset, .unset, .unset] [(.int (c2 &&& (255 : Int32))), (.int (2 : Int32)), (.ref b458), (.ref b458)])) rfl rfl (hb hby at_266)
          rw [own_nar255] at V467
          replace V458 : Arv Z h467 b458 k458 .char (3 : Int32) [(.int (c0 &&& (255 : Int32))), (.int (c1 &&& (255 : Int32))), (.int (c2 &&& (255 : Int32)))] (.int (0 : Int32)) := V467
          have N467 := Fr.snoc X467 N464 g_b458
          refine own_go st467 ?_
          have sa468 := S_b458
          replace S_b7 := Safe.wr W467 sa468 CH S_b7
          replace S_b458 := Safe.wr W467 sa468 CH S_b458
          replace CR := CR.trans (CHr.wr W467 sa468 CH)
          replace CH := CHv.wr W467 sa468 CH
          replace hk := Nat.le_trans hk (Keep.of_wr W467).1
          replace O0 := O0.wr W467 g_b458
          replace V7 := V7.other W467 ne459
          have K469 := K466.wr W467 (Or.inr sz_b458)
          refine own_go (fun _ kk_ => XS.astore X467.here hx rfl (hb hby at_267) rfl rfl (l' := #[.val (.int mode), .val (.int pos), .val (.int c0), .val (.int c1), .val (.int c2), .val (.int (mode &&& (7 : Int32))), .val (.int (c0 &&& (255 : Int32))), .val (.int (c1 &&& (255 : Int32))), .val (.int (c2 &&& (255 : Int32))), .val (.ref b7), .unset, .unset, .val (.ref b458), .unset]) rfl kk_) ?_
          show own_Fin p.tables e below _ (T467.setTop (mkF m 269 #[.val (.int mode), .val (.int pos), .val (.int c0), .val (.int c1), .val (.int c2), .val (.int (mode &&& (7 : Int32))), .val (.int (c0 &&& (255 : Int32))), .val (.int (c1 &&& (255 : Int32))), .val (.int (c2 &&& (255 : Int32))), .val (.ref b7), .unset, .unset, .val (.ref b458), .unset] []))
          obtain ⟨T470, h470, X470, e470, E470, A470, D470, -, st470⟩ := newO X467 hx hZ hown (hw _ (List.mem_of_getElem? (i := 1) rfl)) (hw _ (List.mem_of_getElem? (i := 2) rfl)) (hw _ (List.mem_of_getElem? (i := 3) rfl)) e467 (g := (mkF m 269 #[.val (.int mode), .val (.int pos), .val (.int c0), .val (.int c1), .val (.int c2), .val (.int (mode &&& (7 : Int32))), .val (.int (c0 &&& (255 : Int32))), .val (.int (c1 &&& (255 : Int32))), .val (.int (c2 &&& (255 : Int32))), .val (.ref b7), .unset, .unset, .val (.ref b458), .unset] [])) rfl (hb hby at_269) (by decide) (by decide)
          obtain ⟨b470, g470⟩ : ∃ z, z = h467.size := ⟨_, rfl⟩
          rw [← g470] at A470 D470 st470
          have sz_b470 : h0.size ≤ b470 := Nat.le_trans K469.1 (Nat.le_of_eq g470.symm)
          have g_b470 : n0 ≤ b470 := Nat.le_trans Z0 sz_b470
          have ne471 : b7 ≠ b470 := Nat.ne_of_lt (Nat.lt_of_lt_of_le V7.lt (Nat.le_of_eq g470.symm))
          have ne472 : b458 ≠ b470 := Nat.ne_of_lt (Nat.lt_of_lt_of_le V458.lt (Nat.le_of_eq g470.symm))
          have S_b470 := Safe.new (Z := Z) (EL := consts_1) (vm := s.vm) (Nat.le_of_eq g470.symm)
          replace S_b7 := Safe.ext E470 CH S_b7
          replace S_b458 := Safe.ext E470 CH S_b458
          replace S_b470 := Safe.ext E470 CH S_b470
          replace CR := CR.trans (CHr.ext E470 CH)
          replace CH := CH.ext E470
          replace hk := Nat.le_trans hk E470.1
          replace O0 := O0.ext E470
          replace V7 := V7.ext E470
          replace V458 := V458.ext E470
          have K473 := K469.ext E470
          have F470_coder : Fld Z h470 b470 "java/lang/String" "coder" "B" (.int (0 : Int32)) := D470 (Or.inr (hw _ (List.mem_of_getElem? (i := 27) rfl))) (ty := .byte) (by decide)
          have F470_value : Fld Z h470 b470 "java/lang/String" "value" "[B" .null := D470 (Or.inr (hw _ (List.mem_of_getElem? (i := 29) rfl))) (ty := (.array .byte)) (by decide)
          refine own_go st470 ?_
          refine own_go (fun _ kk_ => XS.dup X470.here hx rfl (hb hby at_272) rfl rfl kk_) ?_
          refine own_go (fun _ kk_ => XS.aload X470.here hx rfl (hb hby at_273) rfl rfl kk_) ?_
          show own_Fin p.tables e below _ (T470.setTop (mkF m 275 #[.val (.int mode), .val (.int pos), .val (.int c0), .val (.int c1), .val (.int c2), .val (.int (mode &&& (7 : Int32))), .val (.int (c0 &&& (255 : Int32))), .val (.int (c1 &&& (255 : Int32))), .val (.int (c2 &&& (255 : Int32))), .val (.ref b7), .unset, .unset, .val (.ref b458), .unset] [(.ref b458), (.ref b470), (.ref b470)]))
          have hp475 : ∀ c ∈ ([(c0 &&& (255 : Int32)), (c1 &&& (255 : Int32)), (c2 &&& (255 : Int32))] : List Int32), ¬ c < 0 ∧ ¬ (255 : Int32) < c := by
            intro c hc
            simp only [List.mem_cons, List.not_mem_nil, or_false] at hc
            rcases hc with rfl | rfl | rfl
            · exact own_and255 _
            · exact own_and255 _
            · exact own_and255 _
          obtain ⟨_, _, ⟨T474, L474, k474, n474⟩, -, X474, ⟨Lc474, hQ474, l474, y474, z474⟩, st474⟩ := X470.specialBack hx (y := (⟨"java/lang/String", "<init>", "([C)V"⟩ : MethodName)) rfl hown (mvT hZ (hw _ (List.mem_of_getElem? (i := 4) rfl))) (mvT hZ (hw _ (List.mem_of_getElem? (i := 5) rfl))) (mvT hZ (hw _ (List.mem_of_getElem? (i := 6) rfl))) (by decide) (StrChars.Road.backV (W := 1) hZ hws (kI := 4) (hw _ (List.mem_of_getElem? (i := 2) rfl)) (cs := ([(c0 &&& (255 : Int32)), (c1 &&& (255 : Int32)), (c2 &&& (255 : Int32))] : List Int32)) (bs := (([(c0 &&& (255 : Int32)), (c1 &&& (255 : Int32)), (c2 &&& (255 : Int32))] : List Int32)).map (fun c => c.toInt8.toInt32)) (n := 3) g_b470 (Nat.le_trans Z0 K473.1) A470 F470_value F470_coder V458 (S_C.ext O0.2) hcs rfl rfl (by decide) (by decide) hp475 rfl (by decide) (by decide)) (g := (mkF m 275 #[.val (.int mode), .val (.int pos), .val (.int c0), .val (.int c1), .val (.int c2), .val (.int (mode &&& (7 : Int32))), .val (.int (c0 &&& (255 : Int32))), .val (.int (c1 &&& (255 : Int32))), .val (.int (c2 &&& (255 : Int32))), .val (.ref b7), .unset, .unset, .val (.ref b458), .unset] [(.ref b458), (.ref b470), (.ref b470)])) rfl (by rw [hml]; rfl) (Steps.refl _) (a := b470) (argsL := [(.ref b458)]) (rest := [(.ref b470)]) (lenOf pd_3 rfl) rfl (by show 2 * 0 + _ ≤ _; exact Nat.le_of_eq rfl) (hb hby at_275) (fun _ _ => ⟨rfl, e470, (by decide : 3 + 1 ≤ _), (by decide : 16 + 3 ≤ _)⟩)
          dsimp only [Pt.U, Pt.locs, Pt.cells, Pt.slots] at X474 l474 y474 z474 st474 hQ474
          subst l474 y474 z474
          obtain ⟨rfl, N474q, KK474, EE474, FC474, t474, kb474, gt474, szt474, netx474, FV474, VV474⟩ := hQ474
          have N474 := Fr.app N467 N474q
          have SS474 : own_Str Z T474.heap b470 t474 ([(c0 &&& (255 : Int32)), (c1 &&& (255 : Int32)), (c2 &&& (255 : Int32))] : List Int32) := ⟨_, _, _, _, EE474, FV474, FC474, VV474, StrChars.Road.codOf (n := 3) rfl (fun c hc => (hp475 c hc).2), own_up _ hp475, Nat.le_of_ble_eq_true rfl⟩
          have sz_t474 : h0.size ≤ t474 := Nat.le_trans K473.1 szt474
          have ne476 : b7 ≠ t474 := Nat.ne_of_lt (Nat.lt_of_lt_of_le V7.lt szt474)
          have ne477 : b458 ≠ t474 := Nat.ne_of_lt (Nat.lt_of_lt_of_le V458.lt szt474)
          have ne478 : b470 ≠ t474 := Nat.ne_of_lt (Nat.lt_of_lt_of_le A470.lt szt474)
          have S_t474 := Safe.new (Z := Z) (EL := consts_1) (vm := s.vm) szt474
          have hs479 : ∀ x ∈ [b470], Safe Z consts_1 s.vm h470 x := (sfS S_b470 sf0)
          replace S_b7 := Safe.keep KK474 hs479 CH S_b7
          replace S_b458 := Safe.keep KK474 hs479 CH S_b458
          replace S_b470 := Safe.keep KK474 hs479 CH S_b470
          replace S_t474 := Safe.keep KK474 hs479 CH S_t474
          replace CR := CR.trans (CHr.keep KK474 hs479 CH)
          replace CH := CHv.keep KK474 hs479 CH
          replace hk := Nat.le_trans hk KK474.1
          replace O0 := O0.keep KK474 (allS g_b470 (all0))
          replace V7 := V7.keep KK474 (ninS ne471 nin0)
          replace V458 := V458.keep KK474 (ninS ne472 nin0)
          replace A470 := A470.keep KK474
          have K480 := K473.trans KK474 (allS (Or.inr sz_b470) all0)
          refine own_go (fun _ kk_ => st474.trans kk_) ?_
          refine own_go (fun _ kk_ => XS.astore X474.here hx rfl (hb hby at_278) rfl rfl (l' := #[.val (.int mode), .val (.int pos), .val (.int c0), .val (.int c1), .val (.int c2), .val (.int (mode &&& (7 : Int32))), .val (.int (c0 &&& (255 : Int32))), .val (.int (c1 &&& (255 : Int32))), .val (.int (c2 &&& (255 : Int32))), .val (.ref b7), .val (.ref b470), .unset, .val (.ref b458), .unset]) rfl kk_) ?_
          refine own_go (fun _ kk_ => XS.iconst X474.here hx rfl (hb hby at_280) kk_) ?_
          refine own_go (fun _ kk_ => XS.istore X474.here hx rfl (hb hby at_281) rfl (l' := #[.val (.int mode), .val (.int pos), .val (.int c0), .val (.int c1), .val (.int c2), .val (.int (mode &&& (7 : Int32))), .val (.int (c0 &&& (255 : Int32))), .val (.int (c1 &&& (255 : Int32))), .val (.int (c2 &&& (255 : Int32))), .val (.ref b7), .val (.ref b470), .val (.int (0 : Int32)), .val (.ref b458), .unset]) rfl kk_) ?_
          refine own_go (fun _ kk_ => XS.goto X474.here hx rfl (pc0 := 283) (pc' := 397) rfl (hb hby at_283) (by decide) (by decide) kk_) ?_
          refine own_go (fun _ kk_ => XS.iload X474.here hx rfl (hb hby at_397) rfl kk_) ?_
          show own_Fin p.tables e below _ (T474.setTop (mkF m 399 #[.val (.int mode), .val (.int pos), .val (.int c0), .val (.int c1), .val (.int c2), .val (.int (mode &&& (7 : Int32))), .val (.int (c0 &&& (255 : Int32))), .val (.int (c1 &&& (255 : Int32))), .val (.int (c2 &&& (255 : Int32))), .val (.ref b7), .val (.ref b470), .val (.int (0 : Int32)), .val (.ref b458), .unset] [(.int (0 : Int32))]))
          refine own_go (fun _ kk_ => XS.ifYes X474.here hx rfl (pc0 := 399) (pc' := 407) rfl (hb hby at_399) rfl ((if0 _ _).trans (teq (by decide : (0 : Int32) = (0 : Int32))).1) (by decide) (by decide) kk_) ?_
          refine own_go (fun _ kk_ => XS.aload X474.here hx rfl (hb hby at_407) rfl rfl kk_) ?_
          refine own_go (fun _ kk_ => XS.astore X474.here hx rfl (hb hby at_409) rfl rfl (l' := #[.val (.int mode), .val (.int pos), .val (.int c0), .val (.int c1), .val (.int c2), .val (.int (mode &&& (7 : Int32))), .val (.int (c0 &&& (255 : Int32))), .val (.int (c1 &&& (255 : Int32))), .val (.int (c2 &&& (255 : Int32))), .val (.ref b7), .val (.ref b470), .val (.int (0 : Int32)), .val (.ref b470), .unset]) rfl kk_) ?_
          refine own_go (fun _ kk_ => XS.aload X474.here hx rfl (hb hby at_411) rfl rfl kk_) ?_
          show own_Fin p.tables e below _ (T474.setTop (mkF m 413 #[.val (.int mode), .val (.int pos), .val (.int c0), .val (.int c1), .val (.int c2), .val (.int (mode &&& (7 : Int32))), .val (.int (c0 &&& (255 : Int32))), .val (.int (c1 &&& (255 : Int32))), .val (.int (c2 &&& (255 : Int32))), .val (.ref b7), .val (.ref b470), .val (.int (0 : Int32)), .val (.ref b470), .unset] [(.ref b470)]))
          obtain ⟨_, _, ⟨T481, L481, k481, n481⟩, -, X481, hSn481, hgr481, ⟨Lc481, hQ481, l481, y481, z481, CR481⟩, st481⟩ := callSS X474 hx (y := (⟨"com/example/laminate/laminate/core/DefaultRegistry", "credentialsKey", "(Ljava/lang/String;)Ljava/lang/String;"⟩ : MethodName)) hown (mvT hZ (hw _ (List.mem_of_getElem? (i := 33) rfl))) (mvT hZ (hw _ (List.mem_of_getElem? (i := 34) rfl))) (mvT hZ (hw _ (List.mem_of_getElem? (i := 35) rfl))) (mvT hZ (hw _ (List.mem_of_getElem? (i := 36) rfl))) (by decide) (backOfSH (s := s) (W := 0) (rm_ck l Z a0 hw [] hEL b470 t474 ([(c0 &&& (255 : Int32)), (c1 &&& (255 : Int32)), (c2 &&& (255 : Int32))] : List Int32) gc T474.heap n0 (Nat.le_trans Z0 K480.1) SS474 S_C hcs O0) hZ (hw _ (List.mem_of_getElem? (i := 36) rfl)) (hw _ (List.mem_of_getElem? (i := 35) rfl)) (by decide) (by decide) hEL CH) (g := (mkF m 413 #[.val (.int mode), .val (.int pos), .val (.int c0), .val (.int c1), .val (.int c2), .val (.int (mode &&& (7 : Int32))), .val (.int (c0 &&& (255 : Int32))), .val (.int (c1 &&& (255 : Int32))), .val (.int (c2 &&& (255 : Int32))), .val (.ref b7), .val (.ref b470), .val (.int (0 : Int32)), .val (.ref b470), .unset] [(.ref b470)])) rfl (by rw [hml]; rfl) (argsL := [(.ref b470)]) (rest := []) (lenOf pd_4 rfl) rfl (by show 2 * 0 + _ ≤ _; exact Nat.le_of_eq rfl) (hb hby at_413) (fun _ _ => ⟨rfl, rfl, (by decide : 4 + 4 ≤ _), (by decide : 19 + 152 ≤ _)⟩)
          dsimp only [Pt.U, Pt.locs, Pt.cells, Pt.slots] at X481 l481 y481 z481 st481 hQ481 hSn481 hgr481 CR481
          subst l481 y481 z481
          replace hS := foldS hS hk hSn481 hgr481
          replace hk : T481.heap.size ≤ T481.heap.size := Nat.le_refl _
          replace hZ : Z.Warmed39 (s.setVm T481.vm).vm := State.Warmed39.trans (t := s.setVm s.vm) hZ hSn481.1
          replace hown : (s.setVm T481.vm).vm.findClass "com/example/laminate/laminate/core/DefaultRegistryCredentialsKeyPinLaw" = some m.cls := by rw [show (s.setVm T481.vm).vm = T481.vm from rfl, hSn481.1.alike.findClass]; exact hown
          replace X481 : Stand p l e room_1 (s.setVm T481.vm) m #[(.int mode), (.int pos), (.int c0), (.int c1), (.int c2)] below meth c T481 _ _ _ := X481
          replace S_b7 := CR481.safe V7.lt S_b7
          replace S_b458 := CR481.safe V458.lt S_b458
          replace S_b470 := CR481.safe SS474.lt S_b470
          replace S_t474 := CR481.safe SS474.ltt S_t474
          replace CR := CR.trans CR481
          replace CH := CR481.1
          obtain ⟨N481q, KK481, hy481, hn481⟩ := hQ481
          have N481 := Fr.app N474 N481q
          obtain rfl := hn481 (by simp)
          replace O0 := O0.keep KK481 all0
          replace V7 := V7.keep KK481 nin0
          replace V458 := V458.keep KK481 nin0
          replace SS474 := SS474.keep KK481 nin0 nin0
          have K482 := K480.trans KK481 all0
          refine own_go (fun _ kk_ => st481.trans kk_) ?_
          refine own_go (fun _ kk_ => XS.astore X481.here hx rfl (hb hby at_416) rfl rfl (l' := #[.val (.int mode), .val (.int pos), .val (.int c0), .val (.int c1), .val (.int c2), .val (.int (mode &&& (7 : Int32))), .val (.int (c0 &&& (255 : Int32))), .val (.int (c1 &&& (255 : Int32))), .val (.int (c2 &&& (255 : Int32))), .val (.ref b7), .val (.ref b470), .val (.int (0 : Int32)), .val (.ref b470), .val (.ref b470)]) rfl kk_) ?_
          refine own_go (fun _ kk_ => XS.aload X481.here hx rfl (hb hby at_418) rfl rfl kk_) ?_
          refine own_go (fun _ kk_ => XS.aload X481.here hx rfl (hb hby at_420) rfl rfl kk_) ?_
          show own_Fin p.tables e below _ (T481.setTop (mkF m 422 #[.val (.int mode), .val (.int pos), .val (.int c0), .val (.int c1), .val (.int c2), .val (.int (mode &&& (7 : Int32))), .val (.int (c0 &&& (255 : Int32))), .val (.int (c1 &&& (255 : Int32))), .val (.int (c2 &&& (255 : Int32))), .val (.ref b7), .val (.ref b470), .val (.int (0 : Int32)), .val (.ref b470), .val (.ref b470)] [(.ref b470), (.ref b470)]))
          obtain ⟨cq483, kq483, qa483, qb483, qc483⟩ := isOf hZ rfl SS474.exa
          obtain ⟨_, _, ⟨T483, L483, k483, n483⟩, -, X483, ⟨Lc483, hQ483, l483, y483, z483⟩, st483⟩ := X481.virtualBack hx (y := (⟨"java/lang/String", "equals", "(Ljava/lang/Object;)Z"⟩ : MethodName)) (z := (⟨"java/lang/String", "equals", "(Ljava/lang/Object;)Z"⟩ : MethodName)) hown (mvT hZ (hw _ (List.mem_of_getElem? (i := 49) rfl))) (mvT hZ (hw _ (List.mem_of_getElem? (i := 39) rfl))) (own_notface (args := #[]) (mvT hZ (hw _ (List.mem_of_getElem? (i := 41) rfl))) rfl) (mvT hZ (hw _ (List.mem_of_getElem? (i := 41) rfl))) (mvT hZ (hw _ (List.mem_of_getElem? (i := 40) rfl))) (by decide) (own_eqB (W := 0) hZ heq (hw _ (List.mem_of_getElem? (i := 2) rfl)) SS474 SS474 (S_C.ext O0.2) hcs (by decide) (by decide)) qa483 qc483 (g := (mkF m 422 #[.val (.int mode), .val (.int pos), .val (.int c0), .val (.int c1), .val (.int c2), .val (.int (mode &&& (7 : Int32))), .val (.int (c0 &&& (255 : Int32))), .val (.int (c1 &&& (255 : Int32))), .val (.int (c2 &&& (255 : Int32))), .val (.ref b7), .val (.ref b470), .val (.int (0 : Int32)), .val (.ref b470), .val (.ref b470)] [(.ref b470), (.ref b470)])) rfl (by rw [hml]; rfl) (Steps.refl _) (argsL := [(.ref b470)]) (rest := []) (lenOf pd_1 rfl) rfl (by show 2 * 0 + _ ≤ _; exact Nat.le_of_eq rfl) (hb hby at_422) (fun _ _ => ⟨rfl, rfl, (by decide : 8 + 0 ≤ _), (by decide : 171 + 0 ≤ _)⟩)
          dsimp only [Pt.U, Pt.locs, Pt.cells, Pt.slots] at X483 l483 y483 z483 st483 hQ483
          subst l483 y483 z483
          obtain ⟨hq483, rfl, e483⟩ := hQ483
          obtain ⟨z483, rfl, hz483⟩ := own_eqv hq483
          have N483 := Fr.app N481 (Fr.nil n0)
          obtain rfl : z483 = 1 := hz483.elim (fun q => q.1) (fun q => absurd rfl q.2)
          refine own_go (fun _ kk_ => st483.trans kk_) ?_
          show own_Fin p.tables e below _ (T483.setTop (mkF m 425 #[.val (.int mode), .val (.int pos), .val (.int c0), .val (.int c1), .val (.int c2), .val (.int (mode &&& (7 : Int32))), .val (.int (c0 &&& (255 : Int32))), .val (.int (c1 &&& (255 : Int32))), .val (.int (c2 &&& (255 : Int32))), .val (.ref b7), .val (.ref b470), .val (.int (0 : Int32)), .val (.ref b470), .val (.ref b470)] [(.int (1 : Int32))]))
          have CRz : CHr Z consts_1 s.vm s.heap T483.vm T483.heap := by
            rw [hh, e483]
            exact CR.trans (CHv.at X483 hZ hEL CH)
          refine own_retW X483 hx Bd hS (show _ ≤ T483.heap.size by rw [e483]; exact hk) (t := .boolean) Bd.returns rfl (Or.inl ⟨rfl, by simp, _, rfl⟩) (hb hby at_425) CRz ?_ (by decide) (by decide)
          show (Q_rm_law Z mode pos c0 c1 c2 gc h0 n0) (some (.int (1 : Int32))) T483.heap _
          rw [e483]
          exact ⟨rfl, N483⟩
        · skip
          refine own_go (fun _ kk_ => XS.icmpYes X33.here hx rfl (pc0 := 246) (pc' := 286) rfl (hb hby at_246) rfl (feq hc457).2 (by decide) (by decide) kk_) ?_
          refine own_go (fun _ kk_ => XS.iload X33.here hx rfl (hb hby at_286) rfl kk_) ?_
          refine own_go (fun _ kk_ => XS.iconst X33.here hx rfl (hb hby at_288) kk_) ?_
          show own_Fin p.tables e below _ (T33.setTop (mkF m 289 #[.val (.int mode), .val (.int pos), .val (.int c0), .val (.int c1), .val (.int c2), .val (.int (mode &&& (7 : Int32))), .val (.int (c0 &&& (255 : Int32))), .val (.int (c1 &&& (255 : Int32))), .val (.int (c2 &&& (255 : Int32))), .val (.ref b7), .unset, .unset, .unset, .unset] [(.int (4 : Int32)), (.int (mode &&& (7 : Int32)))]))
          by_cases hc484 : (mode &&& (7 : Int32)) = (4 : Int32)
          · skip
            refine own_go (fun _ kk_ => XS.icmpNo X33.here hx rfl (hb hby at_289) rfl (teq hc484).2 kk_) ?_
            show own_Fin p.tables e below _ (T33.setTop (mkF m 292 #[.val (.int mode), .val (.int pos), .val (.int c0), .val (.int c1), .val (.int c2), .val (.int (mode &&& (7 : Int32))), .val (.int (c0 &&& (255 : Int32))), .val (.int (c1 &&& (255 : Int32))), .val (.int (c2 &&& (255 : Int32))), .val (.ref b7), .unset, .unset, .unset, .unset] []))
            obtain ⟨a485, T485, h485, k485, tb485, kb485, X485, e485, E485, hS, hk, hZ, hown, EA485, FC485, FV485, VB485, -, -, CR485, -, NE485, st485⟩ := ldcCH X33 hx hZ hown (hw _ (List.mem_of_getElem? (i := 52) rfl)) wS e33 hS hk hEL (by decide) CH (vs := ((([(105 : Int32), (110 : Int32), (100 : Int32), (101 : Int32), (120 : Int32), (46 : Int32), (100 : Int32), (111 : Int32), (99 : Int32), (107 : Int32), (101 : Int32), (114 : Int32), (46 : Int32), (105 : Int32), (111 : Int32)] : List Int32).map (fun c => c.toInt8.toInt32)).map Value.int)) (z := (15 : Int32)) (by exact ⟨by decide, by decide⟩) (by decide) rfl (g := (mkF m 292 #[.val (.int mode), .val (.int pos), .val (.int c0), .val (.int c1), .val (.int c2), .val (.int (mode &&& (7 : Int32))), .val (.int (c0 &&& (255 : Int32))), .val (.int (c1 &&& (255 : Int32))), .val (.int (c2 &&& (255 : Int32))), .val (.ref b7), .unset, .unset, .unset, .unset] [])) rfl (hb hby at_292) (n := 60) (by decide) (by decide) (by decide) (by decide)
            replace S_b7 := CR485.safe V7.lt S_b7
            replace CR := CR.trans CR485
            replace CH := CR485.1
            replace O0 := O0.ext E485
            replace V7 := V7.ext E485
            have K486 := K35.ext E485
            have ne487 : b7 ≠ a485 := (NE485 _ S_b7).1
            have ne488 : b7 ≠ tb485 := (NE485 _ S_b7).2
            have SS485 : own_Str Z h485 a485 tb485 ([(105 : Int32), (110 : Int32), (100 : Int32), (101 : Int32), (120 : Int32), (46 : Int32), (100 : Int32), (111 : Int32), (99 : Int32), (107 : Int32), (101 : Int32), (114 : Int32), (46 : Int32), (105 : Int32), (111 : Int32)] : List Int32) := ⟨_, _, _, _, EA485, FV485, FC485, VB485, StrChars.Road.codOf (n := 15) rfl (by decide), by decide, Nat.le_of_ble_eq_true rfl⟩
            refine own_go st485 ?_
            refine own_go (fun _ kk_ => XS.astore X485.here hx rfl (hb hby at_294) rfl rfl (l' := #[.val (.int mode), .val (.int pos), .val (.int c0), .val (.int c1), .val (.int c2), .val (.int (mode &&& (7 : Int32))), .val (.int (c0 &&& (255 : Int32))), .val (.int (c1 &&& (255 : Int32))), .val (.int (c2 &&& (255 : Int32))), .val (.ref b7), .val (.ref a485), .unset, .unset, .unset]) rfl kk_) ?_
            refine own_go (fun _ kk_ => XS.iconst X485.here hx rfl (hb hby at_296) kk_) ?_
            refine own_go (fun _ kk_ => XS.istore X485.here hx rfl (hb hby at_297) rfl (l' := #[.val (.int mode), .val (.int pos), .val (.int c0), .val (.int c1), .val (.int c2), .val (.int (mode &&& (7 : Int32))), .val (.int (c0 &&& (255 : Int32))), .val (.int (c1 &&& (255 : Int32))), .val (.int (c2 &&& (255 : Int32))), .val (.ref b7), .val (.ref a485), .val (.int (0 : Int32)), .unset, .unset]) rfl kk_) ?_
            refine own_go (fun _ kk_ => XS.goto X485.here hx rfl (pc0 := 299) (pc' := 397) rfl (hb hby at_299) (by decide) (by decide) kk_) ?_
            refine own_go (fun _ kk_ => XS.iload X485.here hx rfl (hb hby at_397) rfl kk_) ?_
            show own_Fin p.tables e below _ (T485.setTop (mkF m 399 #[.val (.int mode), .val (.int pos), .val (.int c0), .val (.int c1), .val (.int c2), .val (.int (mode &&& (7 : Int32))), .val (.int (c0 &&& (255 : Int32))), .val (.int (c1 &&& (255 : Int32))), .val (.int (c2 &&& (255 : Int32))), .val (.ref b7), .val (.ref a485), .val (.int (0 : Int32)), .unset, .unset] [(.int (0 : Int32))]))
            refine own_go (fun _ kk_ => XS.ifYes X485.here hx rfl (pc0 := 399) (pc' := 407) rfl (hb hby at_399) rfl ((if0 _ _).trans (teq (by decide : (0 : Int32) = (0 : Int32))).1) (by decide) (by decide) kk_) ?_
            refine own_go (fun _ kk_ => XS.aload X485.here hx rfl (hb hby at_407) rfl rfl kk_) ?_
            refine own_go (fun _ kk_ => XS.astore X485.here hx rfl (hb hby at_409) rfl rfl (l' := #[.val (.int mode), .val (.int pos), .val (.int c0), .val (.int c1), .val (.int c2), .val (.int (mode &&& (7 : Int32))), .val (.int (c0 &&& (255 : Int32))), .val (.int (c1 &&& (255 : Int32))), .val (.int (c2 &&& (255 : Int32))), .val (.ref b7), .val (.ref a485), .val (.int (0 : Int32)), .val (.ref a485), .unset]) rfl kk_) ?_
            refine own_go (fun _ kk_ => XS.aload X485.here hx rfl (hb hby at_411) rfl rfl kk_) ?_
            show own_Fin p.tables e below _ (T485.setTop (mkF m 413 #[.val (.int mode), .val (.int pos), .val (.int c0), .val (.int c1), .val (.int c2), .val (.int (mode &&& (7 : Int32))), .val (.int (c0 &&& (255 : Int32))), .val (.int (c1 &&& (255 : Int32))), .val (.int (c2 &&& (255 : Int32))), .val (.ref b7), .val (.ref a485), .val (.int (0 : Int32)), .val (.ref a485), .unset] [(.ref a485)]))
            obtain ⟨_, _, ⟨T489, L489, k489, n489⟩, -, X489, hSn489, hgr489, ⟨Lc489, hQ489, l489, y489, z489, CR489⟩, st489⟩ := callSS X485 hx (y := (⟨"com/example/laminate/laminate/core/DefaultRegistry", "credentialsKey", "(Ljava/lang/String;)Ljava/lang/String;"⟩ : MethodName)) hown (mvT hZ (hw _ (List.mem_of_getElem? (i := 33) rfl))) (mvT hZ (hw _ (List.mem_of_getElem? (i := 34) rfl))) (mvT hZ (hw _ (List.mem_of_getElem? (i := 35) rfl))) (mvT hZ (hw _ (List.mem_of_getElem? (i := 36) rfl))) (by decide) (backOfSH (s := s) (W := 0) (rm_ck l Z a0 hw [] hEL a485 tb485 ([(105 : Int32), (110 : Int32), (100 : Int32), (101 : Int32), (120 : Int32), (46 : Int32), (100 : Int32), (111 : Int32), (99 : Int32), (107 : Int32), (101 : Int32), (114 : Int32), (46 : Int32), (105 : Int32), (111 : Int32)] : List Int32) gc h485 n0 (Nat.le_trans Z0 K486.1) SS485 S_C hcs O0) hZ (hw _ (List.mem_of_getElem? (i := 36) rfl)) (hw _ (List.mem_of_getElem? (i := 35) rfl)) (by decide) (by decide) hEL CH) (g := (mkF m 413 #[.val (.int mode), .val (.int pos), .val (.int c0), .val (.int c1), .val (.int c2), .val (.int (mode &&& (7 : Int32))), .val (.int (c0 &&& (255 : Int32))), .val (.int (c1 &&& (255 : Int32))), .val (.int (c2 &&& (255 : Int32))), .val (.ref b7), .val (.ref a485), .val (.int (0 : Int32)), .val (.ref a485), .unset] [(.ref a485)])) rfl (by rw [hml]; rfl) (argsL := [(.ref a485)]) (rest := []) (lenOf pd_4 rfl) rfl (by show 2 * 0 + _ ≤ _; exact Nat.le_of_eq rfl) (hb hby at_413) (fun _ _ => ⟨rfl, e485, (by decide : 3 + 4 ≤ _), (by decide : 73 + 152 ≤ _)⟩)
            dsimp only [Pt.U, Pt.locs, Pt.cells, Pt.slots] at X489 l489 y489 z489 st489 hQ489 hSn489 hgr489 CR489
            subst l489 y489 z489
            replace hS := foldS hS (show _ ≤ T485.heap.size by rw [e485]; exact hk) hSn489 hgr489
            replace hk : T489.heap.size ≤ T489.heap.size := Nat.le_refl _
            replace hZ : Z.Warmed39 (s.setVm T489.vm).vm := State.Warmed39.trans (t := s.setVm T485.vm) hZ hSn489.1
            replace hown : (s.setVm T489.vm).vm.findClass "com/example/laminate/laminate/core/DefaultRegistryCredentialsKeyPinLaw" = some m.cls := by rw [show (s.setVm T489.vm).vm = T489.vm from rfl, hSn489.1.alike.findClass]; exact hown
            replace X489 : Stand p l e room_1 (s.setVm T489.vm) m #[(.int mode), (.int pos), (.int c0), (.int c1), (.int c2)] below meth c T489 _ _ _ := X489
            replace S_b7 := CR489.safe V7.lt S_b7
            replace CR := CR.trans CR489
            replace CH := CR489.1
            obtain ⟨N489q, KK489, hy489, hn489⟩ := hQ489
            have N489 := Fr.app N33 N489q
            obtain rfl := hn489 (by simp)
            replace O0 := O0.keep KK489 all0
            replace V7 := V7.keep KK489 nin0
            replace SS485 := SS485.keep KK489 nin0 nin0
            have K490 := K486.trans KK489 all0
            refine own_go (fun _ kk_ => st489.trans kk_) ?_
            refine own_go (fun _ kk_ => XS.astore X489.here hx rfl (hb hby at_416) rfl rfl (l' := #[.val (.int mode), .val (.int pos), .val (.int c0), .val (.int c1), .val (.int c2), .val (.int (mode &&& (7 : Int32))), .val (.int (c0 &&& (255 : Int32))), .val (.int (c1 &&& (255 : Int32))), .val (.int (c2 &&& (255 : Int32))), .val (.ref b7), .val (.ref a485), .val (.int (0 : Int32)), .val (.ref a485), .val (.ref a485)]) rfl kk_) ?_
            refine own_go (fun _ kk_ => XS.aload X489.here hx rfl (hb hby at_418) rfl rfl kk_) ?_
            refine own_go (fun _ kk_ => XS.aload X489.here hx rfl (hb hby at_420) rfl rfl kk_) ?_
            show own_Fin p.tables e below _ (T489.setTop (mkF m 422 #[.val (.int mode), .val (.int pos), .val (.int c0), .val (.int c1), .val (.int c2), .val (.int (mode &&& (7 : Int32))), .val (.int (c0 &&& (255 : Int32))), .val (.int (c1 &&& (255 : Int32))), .val (.int (c2 &&& (255 : Int32))), .val (.ref b7), .val (.ref a485), .val (.int (0 : Int32)), .val (.ref a485), .val (.ref a485)] [(.ref a485), (.ref a485)]))
            obtain ⟨cq491, kq491, qa491, qb491, qc491⟩ := isOf hZ rfl SS485.exa
            obtain ⟨_, _, ⟨T491, L491, k491, n491⟩, -, X491, ⟨Lc491, hQ491, l491, y491, z491⟩, st491⟩ := X489.virtualBack hx (y := (⟨"java/lang/String", "equals", "(Ljava/lang/Object;)Z"⟩ : MethodName)) (z := (⟨"java/lang/String", "equals", "(Ljava/lang/Object;)Z"⟩ : MethodName)) hown (mvT hZ (hw _ (List.mem_of_getElem? (i := 49) rfl))) (mvT hZ (hw _ (List.mem_of_getElem? (i := 39) rfl))) (own_notface (args := #[]) (mvT hZ (hw _ (List.mem_of_getElem? (i := 41) rfl))) rfl) (mvT hZ (hw _ (List.mem_of_getElem? (i := 41) rfl))) (mvT hZ (hw _ (List.mem_of_getElem? (i := 40) rfl))) (by decide) (own_eqB (W := 0) hZ heq (hw _ (List.mem_of_getElem? (i := 2) rfl)) SS485 SS485 (S_C.ext O0.2) hcs (by decide) (by decide)) qa491 qc491 (g := (mkF m 422 #[.val (.int mode), .val (.int pos), .val (.int c0), .val (.int c1), .val (.int c2), .val (.int (mode &&& (7 : Int32))), .val (.int (c0 &&& (255 : Int32))), .val (.int (c1 &&& (255 : Int32))), .val (.int (c2 &&& (255 : Int32))), .val (.ref b7), .val (.ref a485), .val (.int (0 : Int32)), .val (.ref a485), .val (.ref a485)] [(.ref a485), (.ref a485)])) rfl (by rw [hml]; rfl) (Steps.refl _) (argsL := [(.ref a485)]) (rest := []) (lenOf pd_1 rfl) rfl (by show 2 * 0 + _ ≤ _; exact Nat.le_of_eq rfl) (hb hby at_422) (fun _ _ => ⟨rfl, rfl, (by decide : 7 + 0 ≤ _), (by decide : 225 + 0 ≤ _)⟩)
            dsimp only [Pt.U, Pt.locs, Pt.cells, Pt.slots] at X491 l491 y491 z491 st491 hQ491
            subst l491 y491 z491
            obtain ⟨hq491, rfl, e491⟩ := hQ491
            obtain ⟨z491, rfl, hz491⟩ := own_eqv hq491
            have N491 := Fr.app N489 (Fr.nil n0)
            obtain rfl : z491 = 1 := hz491.elim (fun q => q.1) (fun q => absurd rfl q.2)
            refine own_go (fun _ kk_ => st491.trans kk_) ?_
            show own_Fin p.tables e below _ (T491.setTop (mkF m 425 #[.val (.int mode), .val (.int pos), .val (.int c0), .val (.int c1), .val (.int c2), .val (.int (mode &&& (7 : Int32))), .val (.int (c0 &&& (255 : Int32))), .val (.int (c1 &&& (255 : Int32))), .val (.int (c2 &&& (255 : Int32))), .val (.ref b7), .val (.ref a485), .val (.int (0 : Int32)), .val (.ref a485), .val (.ref a485)] [(.int (1 : Int32))]))
            have CRz : CHr Z consts_1 s.vm s.heap T491.vm T491.heap := by
              rw [hh, e491]
              exact CR.trans (CHv.at X491 hZ hEL CH)
            refine own_retW X491 hx Bd hS (show _ ≤ T491.heap.size by rw [e491]; exact hk) (t := .boolean) Bd.returns rfl (Or.inl ⟨rfl, by simp, _, rfl⟩) (hb hby at_425) CRz ?_ (by decide) (by decide)
            show (Q_rm_law Z mode pos c0 c1 c2 gc h0 n0) (some (.int (1 : Int32))) T491.heap _
            rw [e491]
            exact ⟨rfl, N491⟩
          · skip
            refine own_go (fun _ kk_ => XS.icmpYes X33.here hx rfl (pc0 := 289) (pc' := 302) rfl (hb hby at_289) rfl (feq hc484).2 (by decide) (by decide) kk_) ?_
            refine own_go (fun _ kk_ => XS.iload X33.here hx rfl (hb hby at_302) rfl kk_) ?_
            refine own_go (fun _ kk_ => XS.iconst X33.here hx rfl (hb hby at_304) kk_) ?_
            show own_Fin p.tables e below _ (T33.setTop (mkF m 305 #[.val (.int mode), .val (.int pos), .val (.int c0), .val (.int c1), .val (.int c2), .val (.int (mode &&& (7 : Int32))), .val (.int (c0 &&& (255 : Int32))), .val (.int (c1 &&& (255 : Int32))), .val (.int (c2 &&& (255 : Int32))), .val (.ref b7), .unset, .unset, .unset, .unset] [(.int (5 : Int32)), (.int (mode &&& (7 : Int32)))]))
            by_cases hc492 : (mode &&& (7 : Int32)) = (5 : Int32)
            · skip
              refine own_go (fun _ kk_ => XS.icmpNo X33.here hx rfl (hb hby at_305) rfl (teq hc492).2 kk_) ?_
              show own_Fin p.tables e below _ (T33.setTop (mkF m 308 #[.val (.int mode), .val (.int pos), .val (.int c0), .val (.int c1), .val (.int c2), .val (.int (mode &&& (7 : Int32))), .val (.int (c0 &&& (255 : Int32))), .val (.int (c1 &&& (255 : Int32))), .val (.int (c2 &&& (255 : Int32))), .val (.ref b7), .unset, .unset, .unset, .unset] []))
              obtain ⟨a493, T493, h493, k493, tb493, kb493, X493, e493, E493, hS, hk, hZ, hown, EA493, FC493, FV493, VB493, -, -, CR493, -, NE493, st493⟩ := ldcCH X33 hx hZ hown (hw _ (List.mem_of_getElem? (i := 51) rfl)) wS e33 hS hk hEL (by decide) CH (vs := ((([] : List Int32).map (fun c => c.toInt8.toInt32)).map Value.int)) (z := (0 : Int32)) (by exact ⟨by decide, by decide⟩) (by decide) rfl (g := (mkF m 308 #[.val (.int mode), .val (.int pos), .val (.int c0), .val (.int c1), .val (.int c2), .val (.int (mode &&& (7 : Int32))), .val (.int (c0 &&& (255 : Int32))), .val (.int (c1 &&& (255 : Int32))), .val (.int (c2 &&& (255 : Int32))), .val (.ref b7), .unset, .unset, .unset, .unset] [])) rfl (hb hby at_308) (n := 0) (by decide) (by decide) (by decide) (by decide)
              replace S_b7 := CR493.safe V7.lt S_b7
              replace CR := CR.trans CR493
              replace CH := CR493.1
              replace O0 := O0.ext E493
              replace V7 := V7.ext E493
              have K494 := K35.ext E493
              have ne495 : b7 ≠ a493 := (NE493 _ S_b7).1
              have ne496 : b7 ≠ tb493 := (NE493 _ S_b7).2
              have SS493 : own_Str Z h493 a493 tb493 ([] : List Int32) := ⟨_, _, _, _, EA493, FV493, FC493, VB493, StrChars.Road.codOf (n := 0) rfl (by decide), by decide, Nat.le_of_ble_eq_true rfl⟩
              refine own_go st493 ?_
              refine own_go (fun _ kk_ => XS.astore X493.here hx rfl (hb hby at_310) rfl rfl (l' := #[.val (.int mode), .val (.int pos), .val (.int c0), .val (.int c1), .val (.int c2), .val (.int (mode &&& (7 : Int32))), .val (.int (c0 &&& (255 : Int32))), .val (.int (c1 &&& (255 : Int32))), .val (.int (c2 &&& (255 : Int32))), .val (.ref b7), .val (.ref a493), .unset, .unset, .unset]) rfl kk_) ?_
              refine own_go (fun _ kk_ => XS.iconst X493.here hx rfl (hb hby at_312) kk_) ?_
              refine own_go (fun _ kk_ => XS.istore X493.here hx rfl (hb hby at_313) rfl (l' := #[.val (.int mode), .val (.int pos), .val (.int c0), .val (.int c1), .val (.int c2), .val (.int (mode &&& (7 : Int32))), .val (.int (c0 &&& (255 : Int32))), .val (.int (c1 &&& (255 : Int32))), .val (.int (c2 &&& (255 : Int32))), .val (.ref b7), .val (.ref a493), .val (.int (0 : Int32)), .unset, .unset]) rfl kk_) ?_
              refine own_go (fun _ kk_ => XS.goto X493.here hx rfl (pc0 := 315) (pc' := 397) rfl (hb hby at_315) (by decide) (by decide) kk_) ?_
              refine own_go (fun _ kk_ => XS.iload X493.here hx rfl (hb hby at_397) rfl kk_) ?_
              show own_Fin p.tables e below _ (T493.setTop (mkF m 399 #[.val (.int mode), .val (.int pos), .val (.int c0), .val (.int c1), .val (.int c2), .val (.int (mode &&& (7 : Int32))), .val (.int (c0 &&& (255 : Int32))), .val (.int (c1 &&& (255 : Int32))), .val (.int (c2 &&& (255 : Int32))), .val (.ref b7), .val (.ref a493), .val (.int (0 : Int32)), .unset, .unset] [(.int (0 : Int32))]))
              refine own_go (fun _ kk_ => XS.ifYes X493.here hx rfl (pc0 := 399) (pc' := 407) rfl (hb hby at_399) rfl ((if0 _ _).trans (teq (by decide : (0 : Int32) = (0 : Int32))).1) (by decide) (by decide) kk_) ?_
              refine own_go (fun _ kk_ => XS.aload X493.here hx rfl (hb hby at_407) rfl rfl kk_) ?_
              refine own_go (fun _ kk_ => XS.astore X493.here hx rfl (hb hby at_409) rfl rfl (l' := #[.val (.int mode), .val (.int pos), .val (.int c0), .val (.int c1), .val (.int c2), .val (.int (mode &&& (7 : Int32))), .val (.int (c0 &&& (255 : Int32))), .val (.int (c1 &&& (255 : Int32))), .val (.int (c2 &&& (255 : Int32))), .val (.ref b7), .val (.ref a493), .val (.int (0 : Int32)), .val (.ref a493), .unset]) rfl kk_) ?_
              refine own_go (fun _ kk_ => XS.aload X493.here hx rfl (hb hby at_411) rfl rfl kk_) ?_
              show own_Fin p.tables e below _ (T493.setTop (mkF m 413 #[.val (.int mode), .val (.int pos), .val (.int c0), .val (.int c1), .val (.int c2), .val (.int (mode &&& (7 : Int32))), .val (.int (c0 &&& (255 : Int32))), .val (.int (c1 &&& (255 : Int32))), .val (.int (c2 &&& (255 : Int32))), .val (.ref b7), .val (.ref a493), .val (.int (0 : Int32)), .val (.ref a493), .unset] [(.ref a493)]))
              obtain ⟨_, _, ⟨T497, L497, k497, n497⟩, -, X497, hSn497, hgr497, ⟨Lc497, hQ497, l497, y497, z497, CR497⟩, st497⟩ := callSS X493 hx (y := (⟨"com/example/laminate/laminate/core/DefaultRegistry", "credentialsKey", "(Ljava/lang/String;)Ljava/lang/String;"⟩ : MethodName)) hown (mvT hZ (hw _ (List.mem_of_getElem? (i := 33) rfl))) (mvT hZ (hw _ (List.mem_of_getElem? (i := 34) rfl))) (mvT hZ (hw _ (List.mem_of_getElem? (i := 35) rfl))) (mvT hZ (hw _ (List.mem_of_getElem? (i := 36) rfl))) (by decide) (backOfSH (s := s) (W := 0) (rm_ck l Z a0 hw [] hEL a493 tb493 ([] : List Int32) gc h493 n0 (Nat.le_trans Z0 K494.1) SS493 S_C hcs O0) hZ (hw _ (List.mem_of_getElem? (i := 36) rfl)) (hw _ (List.mem_of_getElem? (i := 35) rfl)) (by decide) (by decide) hEL CH) (g := (mkF m 413 #[.val (.int mode), .val (.int pos), .val (.int c0), .val (.int c1), .val (.int c2), .val (.int (mode &&& (7 : Int32))), .val (.int (c0 &&& (255 : Int32))), .val (.int (c1 &&& (255 : Int32))), .val (.int (c2 &&& (255 : Int32))), .val (.ref b7), .val (.ref a493), .val (.int (0 : Int32)), .val (.ref a493), .unset] [(.ref a493)])) rfl (by rw [hml]; rfl) (argsL := [(.ref a493)]) (rest := []) (lenOf pd_4 rfl) rfl (by show 2 * 0 + _ ≤ _; exact Nat.le_of_eq rfl) (hb hby at_413) (fun _ _ => ⟨rfl, e493, (by decide : 3 + 4 ≤ _), (by decide : 13 + 152 ≤ _)⟩)
              dsimp only [Pt.U, Pt.locs, Pt.cells, Pt.slots] at X497 l497 y497 z497 st497 hQ497 hSn497 hgr497 CR497
              subst l497 y497 z497
              replace hS := foldS hS (show _ ≤ T493.heap.size by rw [e493]; exact hk) hSn497 hgr497
              replace hk : T497.heap.size ≤ T497.heap.size := Nat.le_refl _
              replace hZ : Z.Warmed39 (s.setVm T497.vm).vm := State.Warmed39.trans (t := s.setVm T493.vm) hZ hSn497.1
              replace hown : (s.setVm T497.vm).vm.findClass "com/example/laminate/laminate/core/DefaultRegistryCredentialsKeyPinLaw" = some m.cls := by rw [show (s.setVm T497.vm).vm = T497.vm from rfl, hSn497.1.alike.findClass]; exact hown
              replace X497 : Stand p l e room_1 (s.setVm T497.vm) m #[(.int mode), (.int pos), (.int c0), (.int c1), (.int c2)] below meth c T497 _ _ _ := X497
              replace S_b7 := CR497.safe V7.lt S_b7
              replace CR := CR.trans CR497
              replace CH := CR497.1
              obtain ⟨N497q, KK497, hy497, hn497⟩ := hQ497
              have N497 := Fr.app N33 N497q
              obtain rfl := hn497 (by simp)
              replace O0 := O0.keep KK497 all0
              replace V7 := V7.keep KK497 nin0
              replace SS493 := SS493.keep KK497 nin0 nin0
              have K498 := K494.trans KK497 all0
              refine own_go (fun _ kk_ => st497.trans kk_) ?_
              refine own_go (fun _ kk_ => XS.astore X497.here hx rfl (hb hby at_416) rfl rfl (l' := #[.val (.int mode), .val (.int pos), .val (.int c0), .val (.int c1), .val (.int c2), .val (.int (mode &&& (7 : Int32))), .val (.int (c0 &&& (255 : Int32))), .val (.int (c1 &&& (255 : Int32))), .val (.int (c2 &&& (255 : Int32))), .val (.ref b7), .val (.ref a493), .val (.int (0 : Int32)), .val (.ref a493), .val (.ref a493)]) rfl kk_) ?_
              refine own_go (fun _ kk_ => XS.aload X497.here hx rfl (hb hby at_418) rfl rfl kk_) ?_
              refine own_go (fun _ kk_ => XS.aload X497.here hx rfl (hb hby at_420) rfl rfl kk_) ?_
              show own_Fin p.tables e below _ (T497.setTop (mkF m 422 #[.val (.int mode), .val (.int pos), .val (.int c0), .val (.int c1), .val (.int c2), .val (.int (mode &&& (7 : Int32))), .val (.int (c0 &&& (255 : Int32))), .val (.int (c1 &&& (255 : Int32))), .val (.int (c2 &&& (255 : Int32))), .val (.ref b7), .val (.ref a493), .val (.int (0 : Int32)), .val (.ref a493), .val (.ref a493)] [(.ref a493), (.ref a493)]))
              obtain ⟨cq499, kq499, qa499, qb499, qc499⟩ := isOf hZ rfl SS493.exa
              obtain ⟨_, _, ⟨T499, L499, k499, n499⟩, -, X499, ⟨Lc499, hQ499, l499, y499, z499⟩, st499⟩ := X497.virtualBack hx (y := (⟨"java/lang/String", "equals", "(Ljava/lang/Object;)Z"⟩ : MethodName)) (z := (⟨"java/lang/String", "equals", "(Ljava/lang/Object;)Z"⟩ : MethodName)) hown (mvT hZ (hw _ (List.mem_of_getElem? (i := 49) rfl))) (mvT hZ (hw _ (List.mem_of_getElem? (i := 39) rfl))) (own_notface (args := #[]) (mvT hZ (hw _ (List.mem_of_getElem? (i := 41) rfl))) rfl) (mvT hZ (hw _ (List.mem_of_getElem? (i := 41) rfl))) (mvT hZ (hw _ (List.mem_of_getElem? (i := 40) rfl))) (by decide) (own_eqB (W := 0) hZ heq (hw _ (List.mem_of_getElem? (i := 2) rfl)) SS493 SS493 (S_C.ext O0.2) hcs (by decide) (by decide)) qa499 qc499 (g := (mkF m 422 #[.val (.int mode), .val (.int pos), .val (.int c0), .val (.int c1), .val (.int c2), .val (.int (mode &&& (7 : Int32))), .val (.int (c0 &&& (255 : Int32))), .val (.int (c1 &&& (255 : Int32))), .val (.int (c2 &&& (255 : Int32))), .val (.ref b7), .val (.ref a493), .val (.int (0 : Int32)), .val (.ref a493), .val (.ref a493)] [(.ref a493), (.ref a493)])) rfl (by rw [hml]; rfl) (Steps.refl _) (argsL := [(.ref a493)]) (rest := []) (lenOf pd_1 rfl) rfl (by show 2 * 0 + _ ≤ _; exact Nat.le_of_eq rfl) (hb hby at_422) (fun _ _ => ⟨rfl, rfl, (by decide : 7 + 0 ≤ _), (by decide : 165 + 0 ≤ _)⟩)
              dsimp only [Pt.U, Pt.locs, Pt.cells, Pt.slots] at X499 l499 y499 z499 st499 hQ499
              subst l499 y499 z499
              obtain ⟨hq499, rfl, e499⟩ := hQ499
              obtain ⟨z499, rfl, hz499⟩ := own_eqv hq499
              have N499 := Fr.app N497 (Fr.nil n0)
              obtain rfl : z499 = 1 := hz499.elim (fun q => q.1) (fun q => absurd rfl q.2)
              refine own_go (fun _ kk_ => st499.trans kk_) ?_
              show own_Fin p.tables e below _ (T499.setTop (mkF m 425 #[.val (.int mode), .val (.int pos), .val (.int c0), .val (.int c1), .val (.int c2), .val (.int (mode &&& (7 : Int32))), .val (.int (c0 &&& (255 : Int32))), .val (.int (c1 &&& (255 : Int32))), .val (.int (c2 &&& (255 : Int32))), .val (.ref b7), .val (.ref a493), .val (.int (0 : Int32)), .val (.ref a493), .val (.ref a493)] [(.int (1 : Int32))]))
              have CRz : CHr Z consts_1 s.vm s.heap T499.vm T499.heap := by
                rw [hh, e499]
                exact CR.trans (CHv.at X499 hZ hEL CH)
              refine own_retW X499 hx Bd hS (show _ ≤ T499.heap.size by rw [e499]; exact hk) (t := .boolean) Bd.returns rfl (Or.inl ⟨rfl, by simp, _, rfl⟩) (hb hby at_425) CRz ?_ (by decide) (by decide)
              show (Q_rm_law Z mode pos c0 c1 c2 gc h0 n0) (some (.int (1 : Int32))) T499.heap _
              rw [e499]
              exact ⟨rfl, N499⟩
            · skip
              refine own_go (fun _ kk_ => XS.icmpYes X33.here hx rfl (pc0 := 305) (pc' := 318) rfl (hb hby at_305) rfl (feq hc492).2 (by decide) (by decide) kk_) ?_
              refine own_go (fun _ kk_ => XS.iload X33.here hx rfl (hb hby at_318) rfl kk_) ?_
              refine own_go (fun _ kk_ => XS.bipush X33.here hx rfl (hb hby at_320) kk_) ?_
              show own_Fin p.tables e below _ (T33.setTop (mkF m 322 #[.val (.int mode), .val (.int pos), .val (.int c0), .val (.int c1), .val (.int c2), .val (.int (mode &&& (7 : Int32))), .val (.int (c0 &&& (255 : Int32))), .val (.int (c1 &&& (255 : Int32))), .val (.int (c2 &&& (255 : Int32))), .val (.ref b7), .unset, .unset, .unset, .unset] [(.int (6 : Int32)), (.int (mode &&& (7 : Int32)))]))
              by_cases hc500 : (mode &&& (7 : Int32)) = (6 : Int32)
              · skip
                refine own_go (fun _ kk_ => XS.icmpNo X33.here hx rfl (hb hby at_322) rfl (teq hc500).2 kk_) ?_
                show own_Fin p.tables e below _ (T33.setTop (mkF m 325 #[.val (.int mode), .val (.int pos), .val (.int c0), .val (.int c1), .val (.int c2), .val (.int (mode &&& (7 : Int32))), .val (.int (c0 &&& (255 : Int32))), .val (.int (c1 &&& (255 : Int32))), .val (.int (c2 &&& (255 : Int32))), .val (.ref b7), .unset, .unset, .unset, .unset] []))
                obtain ⟨a501, T501, h501, k501, tb501, kb501, X501, e501, E501, hS, hk, hZ, hown, EA501, FC501, FV501, VB501, -, -, CR501, -, NE501, st501⟩ := ldcCH X33 hx hZ hown (hw _ (List.mem_of_getElem? (i := 50) rfl)) wS e33 hS hk hEL (by decide) CH (vs := ((([(68 : Int32), (79 : Int32), (67 : Int32), (75 : Int32), (69 : Int32), (82 : Int32), (46 : Int32), (73 : Int32), (79 : Int32)] : List Int32).map (fun c => c.toInt8.toInt32)).map Value.int)) (z := (9 : Int32)) (by exact ⟨by decide, by decide⟩) (by decide) rfl (g := (mkF m 325 #[.val (.int mode), .val (.int pos), .val (.int c0), .val (.int c1), .val (.int c2), .val (.int (mode &&& (7 : Int32))), .val (.int (c0 &&& (255 : Int32))), .val (.int (c1 &&& (255 : Int32))), .val (.int (c2 &&& (255 : Int32))), .val (.ref b7), .unset, .unset, .unset, .unset] [])) rfl (hb hby at_325) (n := 36) (by decide) (by decide) (by decide) (by decide)
                replace S_b7 := CR501.safe V7.lt S_b7
                replace CR := CR.trans CR501
                replace CH := CR501.1
                replace O0 := O0.ext E501
                replace V7 := V7.ext E501
                have K502 := K35.ext E501
                have ne503 : b7 ≠ a501 := (NE501 _ S_b7).1
                have ne504 : b7 ≠ tb501 := (NE501 _ S_b7).2
                have SS501 : own_Str Z h501 a501 tb501 ([(68 : Int32), (79 : Int32), (67 : Int32), (75 : Int32), (69 : Int32), (82 : Int32), (46 : Int32), (73 : Int32), (79 : Int32)] : List Int32) := ⟨_, _, _, _, EA501, FV501, FC501, VB501, StrChars.Road.codOf (n := 9) rfl (by decide), by decide, Nat.le_of_ble_eq_true rfl⟩
                refine own_go st501 ?_
                refine own_go (fun _ kk_ => XS.astore X501.here hx rfl (hb hby at_327) rfl rfl (l' := #[.val (.int mode), .val (.int pos), .val (.int c0), .val (.int c1), .val (.int c2), .val (.int (mode &&& (7 : Int32))), .val (.int (c0 &&& (255 : Int32))), .val (.int (c1 &&& (255 : Int32))), .val (.int (c2 &&& (255 : Int32))), .val (.ref b7), .val (.ref a501), .unset, .unset, .unset]) rfl kk_) ?_
                refine own_go (fun _ kk_ => XS.iconst X501.here hx rfl (hb hby at_329) kk_) ?_
                refine own_go (fun _ kk_ => XS.istore X501.here hx rfl (hb hby at_330) rfl (l' := #[.val (.int mode), .val (.int pos), .val (.int c0), .val (.int c1), .val (.int c2), .val (.int (mode &&& (7 : Int32))), .val (.int (c0 &&& (255 : Int32))), .val (.int (c1 &&& (255 : Int32))), .val (.int (c2 &&& (255 : Int32))), .val (.ref b7), .val (.ref a501), .val (.int (0 : Int32)), .unset, .unset]) rfl kk_) ?_
                refine own_go (fun _ kk_ => XS.goto X501.here hx rfl (pc0 := 332) (pc' := 397) rfl (hb hby at_332) (by decide) (by decide) kk_) ?_
                refine own_go (fun _ kk_ => XS.iload X501.here hx rfl (hb hby at_397) rfl kk_) ?_
                show own_Fin p.tables e below _ (T501.setTop (mkF m 399 #[.val (.int mode), .val (.int pos), .val (.int c0), .val (.int c1), .val (.int c2), .val (.int (mode &&& (7 : Int32))), .val (.int (c0 &&& (255 : Int32))), .val (.int (c1 &&& (255 : Int32))), .val (.int (c2 &&& (255 : Int32))), .val (.ref b7), .val (.ref a501), .val (.int (0 : Int32)), .unset, .unset] [(.int (0 : Int32))]))
                refine own_go (fun _ kk_ => XS.ifYes X501.here hx rfl (pc0 := 399) (pc' := 407) rfl (hb hby at_399) rfl ((if0 _ _).trans (teq (by decide : (0 : Int32) = (0 : Int32))).1) (by decide) (by decide) kk_) ?_
                refine own_go (fun _ kk_ => XS.aload X501.here hx rfl (hb hby at_407) rfl rfl kk_) ?_
                refine own_go (fun _ kk_ => XS.astore X501.here hx rfl (hb hby at_409) rfl rfl (l' := #[.val (.int mode), .val (.int pos), .val (.int c0), .val (.int c1), .val (.int c2), .val (.int (mode &&& (7 : Int32))), .val (.int (c0 &&& (255 : Int32))), .val (.int (c1 &&& (255 : Int32))), .val (.int (c2 &&& (255 : Int32))), .val (.ref b7), .val (.ref a501), .val (.int (0 : Int32)), .val (.ref a501), .unset]) rfl kk_) ?_
                refine own_go (fun _ kk_ => XS.aload X501.here hx rfl (hb hby at_411) rfl rfl kk_) ?_
                show own_Fin p.tables e below _ (T501.setTop (mkF m 413 #[.val (.int mode), .val (.int pos), .val (.int c0), .val (.int c1), .val (.int c2), .val (.int (mode &&& (7 : Int32))), .val (.int (c0 &&& (255 : Int32))), .val (.int (c1 &&& (255 : Int32))), .val (.int (c2 &&& (255 : Int32))), .val (.ref b7), .val (.ref a501), .val (.int (0 : Int32)), .val (.ref a501), .unset] [(.ref a501)]))
                obtain ⟨_, _, ⟨T505, L505, k505, n505⟩, -, X505, hSn505, hgr505, ⟨Lc505, hQ505, l505, y505, z505, CR505⟩, st505⟩ := callSS X501 hx (y := (⟨"com/example/laminate/laminate/core/DefaultRegistry", "credentialsKey", "(Ljava/lang/String;)Ljava/lang/String;"⟩ : MethodName)) hown (mvT hZ (hw _ (List.mem_of_getElem? (i := 33) rfl))) (mvT hZ (hw _ (List.mem_of_getElem? (i := 34) rfl))) (mvT hZ (hw _ (List.mem_of_getElem? (i := 35) rfl))) (mvT hZ (hw _ (List.mem_of_getElem? (i := 36) rfl))) (by decide) (backOfSH (s := s) (W := 0) (rm_ck l Z a0 hw [] hEL a501 tb501 ([(68 : Int32), (79 : Int32), (67 : Int32), (75 : Int32), (69 : Int32), (82 : Int32), (46 : Int32), (73 : Int32), (79 : Int32)] : List Int32) gc h501 n0 (Nat.le_trans Z0 K502.1) SS501 S_C hcs O0) hZ (hw _ (List.mem_of_getElem? (i := 36) rfl)) (hw _ (List.mem_of_getElem? (i := 35) rfl)) (by decide) (by decide) hEL CH) (g := (mkF m 413 #[.val (.int mode), .val (.int pos), .val (.int c0), .val (.int c1), .val (.int c2), .val (.int (mode &&& (7 : Int32))), .val (.int (c0 &&& (255 : Int32))), .val (.int (c1 &&& (255 : Int32))), .val (.int (c2 &&& (255 : Int32))), .val (.ref b7), .val (.ref a501), .val (.int (0 : Int32)), .val (.ref a501), .unset] [(.ref a501)])) rfl (by rw [hml]; rfl) (argsL := [(.ref a501)]) (rest := []) (lenOf pd_4 rfl) rfl (by show 2 * 0 + _ ≤ _; exact Nat.le_of_eq rfl) (hb hby at_413) (fun _ _ => ⟨rfl, e501, (by decide : 3 + 4 ≤ _), (by decide : 49 + 152 ≤ _)⟩)
                dsimp only [Pt.U, Pt.locs, Pt.cells, Pt.slots] at X505 l505 y505 z505 st505 hQ505 hSn505 hgr505 CR505
                subst l505 y505 z505
                replace hS := foldS hS (show _ ≤ T501.heap.size by rw [e501]; exact hk) hSn505 hgr505
                replace hk : T505.heap.size ≤ T505.heap.size := Nat.le_refl _
                replace hZ : Z.Warmed39 (s.setVm T505.vm).vm := State.Warmed39.trans (t := s.setVm T501.vm) hZ hSn505.1
                replace hown : (s.setVm T505.vm).vm.findClass "com/example/laminate/laminate/core/DefaultRegistryCredentialsKeyPinLaw" = some m.cls := by rw [show (s.setVm T505.vm).vm = T505.vm from rfl, hSn505.1.alike.findClass]; exact hown
                replace X505 : Stand p l e room_1 (s.setVm T505.vm) m #[(.int mode), (.int pos), (.int c0), (.int c1), (.int c2)] below meth c T505 _ _ _ := X505
                replace S_b7 := CR505.safe V7.lt S_b7
                replace CR := CR.trans CR505
                replace CH := CR505.1
                obtain ⟨N505q, KK505, hy505, hn505⟩ := hQ505
                have N505 := Fr.app N33 N505q
                obtain rfl := hn505 (by simp)
                replace O0 := O0.keep KK505 all0
                replace V7 := V7.keep KK505 nin0
                replace SS501 := SS501.keep KK505 nin0 nin0
                have K506 := K502.trans KK505 all0
                refine own_go (fun _ kk_ => st505.trans kk_) ?_
                refine own_go (fun _ kk_ => XS.astore X505.here hx rfl (hb hby at_416) rfl rfl (l' := #[.val (.int mode), .val (.int pos), .val (.int c0), .val (.int c1), .val (.int c2), .val (.int (mode &&& (7 : Int32))), .val (.int (c0 &&& (255 : Int32))), .val (.int (c1 &&& (255 : Int32))), .val (.int (c2 &&& (255 : Int32))), .val (.ref b7), .val (.ref a501), .val (.int (0 : Int32)), .val (.ref a501), .val (.ref a501)]) rfl kk_) ?_
                refine own_go (fun _ kk_ => XS.aload X505.here hx rfl (hb hby at_418) rfl rfl kk_) ?_
                refine own_go (fun _ kk_ => XS.aload X505.here hx rfl (hb hby at_420) rfl rfl kk_) ?_
                show own_Fin p.tables e below _ (T505.setTop (mkF m 422 #[.val (.int mode), .val (.int pos), .val (.int c0), .val (.int c1), .val (.int c2), .val (.int (mode &&& (7 : Int32))), .val (.int (c0 &&& (255 : Int32))), .val (.int (c1 &&& (255 : Int32))), .val (.int (c2 &&& (255 : Int32))), .val (.ref b7), .val (.ref a501), .val (.int (0 : Int32)), .val (.ref a501), .val (.ref a501)] [(.ref a501), (.ref a501)]))
                obtain ⟨cq507, kq507, qa507, qb507, qc507⟩ := isOf hZ rfl SS501.exa
                obtain ⟨_, _, ⟨T507, L507, k507, n507⟩, -, X507, ⟨Lc507, hQ507, l507, y507, z507⟩, st507⟩ := X505.virtualBack hx (y := (⟨"java/lang/String", "equals", "(Ljava/lang/Object;)Z"⟩ : MethodName)) (z := (⟨"java/lang/String", "equals", "(Ljava/lang/Object;)Z"⟩ : MethodName)) hown (mvT hZ (hw _ (List.mem_of_getElem? (i := 49) rfl))) (mvT hZ (hw _ (List.mem_of_getElem? (i := 39) rfl))) (own_notface (args := #[]) (mvT hZ (hw _ (List.mem_of_getElem? (i := 41) rfl))) rfl) (mvT hZ (hw _ (List.mem_of_getElem? (i := 41) rfl))) (mvT hZ (hw _ (List.mem_of_getElem? (i := 40) rfl))) (by decide) (own_eqB (W := 0) hZ heq (hw _ (List.mem_of_getElem? (i := 2) rfl)) SS501 SS501 (S_C.ext O0.2) hcs (by decide) (by decide)) qa507 qc507 (g := (mkF m 422 #[.val (.int mode), .val (.int pos), .val (.int c0), .val (.int c1), .val (.int c2), .val (.int (mode &&& (7 : Int32))), .val (.int (c0 &&& (255 : Int32))), .val (.int (c1 &&& (255 : Int32))), .val (.int (c2 &&& (255 : Int32))), .val (.ref b7), .val (.ref a501), .val (.int (0 : Int32)), .val (.ref a501), .val (.ref a501)] [(.ref a501), (.ref a501)])) rfl (by rw [hml]; rfl) (Steps.refl _) (argsL := [(.ref a501)]) (rest := []) (lenOf pd_1 rfl) rfl (by show 2 * 0 + _ ≤ _; exact Nat.le_of_eq rfl) (hb hby at_422) (fun _ _ => ⟨rfl, rfl, (by decide : 7 + 0 ≤ _), (by decide : 201 + 0 ≤ _)⟩)
                dsimp only [Pt.U, Pt.locs, Pt.cells, Pt.slots] at X507 l507 y507 z507 st507 hQ507
                subst l507 y507 z507
                obtain ⟨hq507, rfl, e507⟩ := hQ507
                obtain ⟨z507, rfl, hz507⟩ := own_eqv hq507
                have N507 := Fr.app N505 (Fr.nil n0)
                obtain rfl : z507 = 1 := hz507.elim (fun q => q.1) (fun q => absurd rfl q.2)
                refine own_go (fun _ kk_ => st507.trans kk_) ?_
                show own_Fin p.tables e below _ (T507.setTop (mkF m 425 #[.val (.int mode), .val (.int pos), .val (.int c0), .val (.int c1), .val (.int c2), .val (.int (mode &&& (7 : Int32))), .val (.int (c0 &&& (255 : Int32))), .val (.int (c1 &&& (255 : Int32))), .val (.int (c2 &&& (255 : Int32))), .val (.ref b7), .val (.ref a501), .val (.int (0 : Int32)), .val (.ref a501), .val (.ref a501)] [(.int (1 : Int32))]))
                have CRz : CHr Z consts_1 s.vm s.heap T507.vm T507.heap := by
                  rw [hh, e507]
                  exact CR.trans (CHv.at X507 hZ hEL CH)
                refine own_retW X507 hx Bd hS (show _ ≤ T507.heap.size by rw [e507]; exact hk) (t := .boolean) Bd.returns rfl (Or.inl ⟨rfl, by simp, _, rfl⟩) (hb hby at_425) CRz ?_ (by decide) (by decide)
                show (Q_rm_law Z mode pos c0 c1 c2 gc h0 n0) (some (.int (1 : Int32))) T507.heap _
                rw [e507]
                exact ⟨rfl, N507⟩
              · skip
                refine own_go (fun _ kk_ => XS.icmpYes X33.here hx rfl (pc0 := 322) (pc' := 335) rfl (hb hby at_322) rfl (feq hc500).2 (by decide) (by decide) kk_) ?_
                refine own_go (fun _ kk_ => XS.bipush X33.here hx rfl (hb hby at_335) kk_) ?_
                show own_Fin p.tables e below _ (T33.setTop (mkF m 337 #[.val (.int mode), .val (.int pos), .val (.int c0), .val (.int c1), .val (.int c2), .val (.int (mode &&& (7 : Int32))), .val (.int (c0 &&& (255 : Int32))), .val (.int (c1 &&& (255 : Int32))), .val (.int (c2 &&& (255 : Int32))), .val (.ref b7), .unset, .unset, .unset, .unset] [(.int (8 : Int32))]))
                obtain ⟨T508, h508, k508, X508, e508, E508, A508, st508⟩ := newP X33 hx hZ (hw _ (List.mem_of_getElem? (i := 0) rfl)) e33 (g := (mkF m 337 #[.val (.int mode), .val (.int pos), .val (.int c0), .val (.int c1), .val (.int c2), .val (.int (mode &&& (7 : Int32))), .val (.int (c0 &&& (255 : Int32))), .val (.int (c1 &&& (255 : Int32))), .val (.int (c2 &&& (255 : Int32))), .val (.ref b7), .unset, .unset, .unset, .unset] [(.int (8 : Int32))])) rfl (hb hby at_337) rfl (by decide) (cap := 8) (by decide) (by decide) (by decide) (by decide)
                obtain ⟨b508, g508⟩ : ∃ z, z = h33.size := ⟨_, rfl⟩
                rw [← g508] at A508 st508
                have sz_b508 : h0.size ≤ b508 := Nat.le_trans K35.1 (Nat.le_of_eq g508.symm)
                have g_b508 : n0 ≤ b508 := Nat.le_trans Z0 sz_b508
                have ne509 : b7 ≠ b508 := Nat.ne_of_lt (Nat.lt_of_lt_of_le V7.lt (Nat.le_of_eq g508.symm))
                have S_b508 := Safe.new (Z := Z) (EL := consts_1) (vm := s.vm) (Nat.le_of_eq g508.symm)
                replace S_b7 := Safe.ext E508 CH S_b7
                replace S_b508 := Safe.ext E508 CH S_b508
                replace CR := CR.trans (CHr.ext E508 CH)
                replace CH := CH.ext E508
                replace hk := Nat.le_trans hk E508.1
                replace O0 := O0.ext E508
                replace V7 := V7.ext E508
                have K510 := K35.ext E508
                have V508 : Arv Z h508 b508 k508 .char (8 : Int32) [(.int (0 : Int32)), (.int (0 : Int32)), (.int (0 : Int32)), (.int (0 : Int32)), (.int (0 : Int32)), (.int (0 : Int32)), (.int (0 : Int32)), (.int (0 : Int32))] (.int (0 : Int32)) := (Arv.new A508 (by decide)).pad (pad_rep [] (.int (0 : Int32)) 8)
                refine own_go st508 ?_
                refine own_go (fun _ kk_ => XS.dup X508.here hx rfl (hb hby at_339) rfl rfl kk_) ?_
                refine own_go (fun _ kk_ => XS.iconst X508.here hx rfl (hb hby at_340) kk_) ?_
                refine own_go (fun _ kk_ => XS.bipush X508.here hx rfl (hb hby at_341) kk_) ?_
                show own_Fin p.tables e below _ (T508.setTop (mkF m 343 #[.val (.int mode), .val (.int pos), .val (.int c0), .val (.int c1), .val (.int c2), .val (.int (mode &&& (7 : Int32))), .val (.int (c0 &&& (255 : Int32))), .val (.int (c1 &&& (255 : Int32))), .val (.int (c2 &&& (255 : Int32))), .val (.ref b7), .unset, .unset, .unset, .unset] [(.int (100 : Int32)), (.int (0 : Int32)), (.ref b508), (.ref b508)]))
                obtain ⟨T511, h511, X511, e511, W511, V511, st511⟩ := own_stC X508 hx hZ e508 V508 (by decide) (i := 0) rfl (Nat.le_of_ble_eq_true rfl) (g := (mkF m 343 #[.val (.int mode), .val (.int pos), .val (.int c0), .val (.int c1), .val (.int c2), .val (.int (mode &&& (7 : Int32))), .val (.int (c0 &&& (255 : Int32))), .val (.int (c1 &&& (255 : Int32))), .val (.int (c2 &&& (255 : Int32))), .val (.ref b7), .unset, .unset, .unset, .unset] [(.int (100 : Int32)), (.int (0 : Int32)), (.ref b508), (.ref b508)])) rfl rfl (hb hby at_343)
                replace V508 : Arv Z h511 b508 k508 .char (8 : Int32) [(.int (100 : Int32)), (.int (0 : Int32)), (.int (0 : Int32)), (.int (0 : Int32)), (.int (0 : Int32)), (.int (0 : Int32)), (.int (0 : Int32)), (.int (0 : Int32))] (.int (0 : Int32)) := V511
                have N511 := Fr.snoc X511 N33 g_b508
                refine own_go st511 ?_
                have sa512 := S_b508
                replace S_b7 := Safe.wr W511 sa512 CH S_b7
                replace S_b508 := Safe.wr W511 sa512 CH S_b508
                replace CR := CR.trans (CHr.wr W511 sa512 CH)
                replace CH := CHv.wr W511 sa512 CH
                replace hk := Nat.le_trans hk (Keep.of_wr W511).1
                replace O0 := O0.wr W511 g_b508
                replace V7 := V7.other W511 ne509
                have K513 := K510.wr W511 (Or.inr sz_b508)
                refine own_go (fun _ kk_ => XS.dup X511.here hx rfl (hb hby at_344) rfl rfl kk_) ?_
                refine own_go (fun _ kk_ => XS.iconst X511.here hx rfl (hb hby at_345) kk_) ?_
                refine own_go (fun _ kk_ => XS.bipush X511.here hx rfl (hb hby at_346) kk_) ?_
                show own_Fin p.tables e below _ (T511.setTop (mkF m 348 #[.val (.int mode), .val (.int pos), .val (.int c0), .val (.int c1), .val (.int c2), .val (.int (mode &&& (7 : Int32))), .val (.int (c0 &&& (255 : Int32))), .val (.int (c1 &&& (255 : Int32))), .val (.int (c2 &&& (255 : Int32))), .val (.ref b7), .unset, .unset, .unset, .unset] [(.int (111 : Int32)), (.int (1 : Int32)), (.ref b508), (.ref b508)]))
                obtain ⟨T514, h514, X514, e514, W514, V514, st514⟩ := own_stC X511 hx hZ e511 V508 (by decide) (i := 1) rfl (Nat.le_of_ble_eq_true rfl) (g := (mkF m 348 #[.val (.int mode), .val (.int pos), .val (.int c0), .val (.int c1), .val (.int c2), .val (.int (mode &&& (7 : Int32))), .val (.int (c0 &&& (255 : Int32))), .val (.int (c1 &&& (255 : Int32))), .val (.int (c2 &&& (255 : Int32))), .val (.ref b7), .unset, .unset, .unset, .unset] [(.int (111 : Int32)), (.int (1 : Int32)), (.ref b508), (.ref b508)])) rfl rfl (hb hby at_348)
                replace V508 : Arv Z h514 b508 k508 .char (8 : Int32) [(.int (100 : Int32)), (.int (111 : Int32)), (.int (0 : Int32)), (.int (0 : Int32)), (.int (0 : Int32)), (.int (0 : Int32)), (.int (0 : Int32)), (.int (0 : Int32))] (.int (0 : Int32)) := V514
                have N514 := Fr.snoc X514 N511 g_b508
                refine own_go st514 ?_
                have sa515 := S_b508
                replace S_b7 := Safe.wr W514 sa515 CH S_b7
                replace S_b508 := Safe.wr W514 sa515 CH S_b508
                replace CR := CR.trans (CHr.wr W514 sa515 CH)
                replace CH := CHv.wr W514 sa515 CH
                replace hk := Nat.le_trans hk (Keep.of_wr W514).1
                replace O0 := O0.wr W514 g_b508
                replace V7 := V7.other W514 ne509
                have K516 := K513.wr W514 (Or.inr sz_b508)
                refine own_go (fun _ kk_ => XS.dup X514.here hx rfl (hb hby at_349) rfl rfl kk_) ?_
                refine own_go (fun _ kk_ => XS.iconst X514.here hx rfl (hb hby at_350) kk_) ?_
                refine own_go (fun _ kk_ => XS.bipush X514.here hx rfl (hb hby at_351) kk_) ?_
                show own_Fin p.tables e below _ (T514.setTop (mkF m 353 #[.val (.int mode), .val (.int pos), .val (.int c0), .val (.int c1), .val (.int c2), .val (.int (mode &&& (7 : Int32))), .val (.int (c0 &&& (255 : Int32))), .val (.int (c1 &&& (255 : Int32))), .val (.int (c2 &&& (255 : Int32))), .val (.ref b7), .unset, .unset, .unset, .unset] [(.int (99 : Int32)), (.int (2 : Int32)), (.ref b508), (.ref b508)]))
                obtain ⟨T517, h517, X517, e517, W517, V517, st517⟩ := own_stC X514 hx hZ e514 V508 (by decide) (i := 2) rfl (Nat.le_of_ble_eq_true rfl) (g := (mkF m 353 #[.val (.int mode), .val (.int pos), .val (.int c0), .val (.int c1), .val (.int c2), .val (.int (mode &&& (7 : Int32))), .val (.int (c0 &&& (255 : Int32))), .val (.int (c1 &&& (255 : Int32))), .val (.int (c2 &&& (255 : Int32))), .val (.ref b7), .unset, .unset, .unset, .unset] [(.int (99 : Int32)), (.int (2 : Int32)), (.ref b508), (.ref b508)])) rfl rfl (hb hby at_353)
                replace V508 : Arv Z h517 b508 k508 .char (8 : Int32) [(.int (100 : Int32)), (.int (111 : Int32)), (.int (99 : Int32)), (.int (0 : Int32)), (.int (0 : Int32)), (.int (0 : Int32)), (.int (0 : Int32)), (.int (0 : Int32))] (.int (0 : Int32)) := V517
                have N517 := Fr.snoc X517 N514 g_b508
                refine own_go st517 ?_
                have sa518 := S_b508
                replace S_b7 := Safe.wr W517 sa518 CH S_b7
                replace S_b508 := Safe.wr W517 sa518 CH S_b508
                replace CR := CR.trans (CHr.wr W517 sa518 CH)
                replace CH := CHv.wr W517 sa518 CH
                replace hk := Nat.le_trans hk (Keep.of_wr W517).1
                replace O0 := O0.wr W517 g_b508
                replace V7 := V7.other W517 ne509
                have K519 := K516.wr W517 (Or.inr sz_b508)
                refine own_go (fun _ kk_ => XS.dup X517.here hx rfl (hb hby at_354) rfl rfl kk_) ?_
                refine own_go (fun _ kk_ => XS.iconst X517.here hx rfl (hb hby at_355) kk_) ?_
                refine own_go (fun _ kk_ => XS.bipush X517.here hx rfl (hb hby at_356) kk_) ?_
                show own_Fin p.tables e below _ (T517.setTop (mkF m 358 #[.val (.int mode), .val (.int pos), .val (.int c0), .val (.int c1), .val (.int c2), .val (.int (mode &&& (7 : Int32))), .val (.int (c0 &&& (255 : Int32))), .val (.int (c1 &&& (255 : Int32))), .val (.int (c2 &&& (255 : Int32))), .val (.ref b7), .unset, .unset, .unset, .unset] [(.int (107 : Int32)), (.int (3 : Int32)), (.ref b508), (.ref b508)]))
                obtain ⟨T520, h520, X520, e520, W520, V520, st520⟩ := own_stC X517 hx hZ e517 V508 (by decide) (i := 3) rfl (Nat.le_of_ble_eq_true rfl) (g := (mkF m 358 #[.val (.int mode), .val (.int pos), .val (.int c0), .val (.int c1), .val (.int c2), .val (.int (mode &&& (7 : Int32))), .val (.int (c0 &&& (255 : Int32))), .val (.int (c1 &&& (255 : Int32))), .val (.int (c2 &&& (255 : Int32))), .val (.ref b7), .unset, .unset, .unset, .unset] [(.int (107 : Int32)), (.int (3 : Int32)), (.ref b508), (.ref b508)])) rfl rfl (hb hby at_358)
                replace V508 : Arv Z h520 b508 k508 .char (8 : Int32) [(.int (100 : Int32)), (.int (111 : Int32)), (.int (99 : Int32)), (.int (107 : Int32)), (.int (0 : Int32)), (.int (0 : Int32)), (.int (0 : Int32)), (.int (0 : Int32))] (.int (0 : Int32)) := V520
                have N520 := Fr.snoc X520 N517 g_b508
                refine own_go st520 ?_
                have sa521 := S_b508
                replace S_b7 := Safe.wr W520 sa521 CH S_b7
                replace S_b508 := Safe.wr W520 sa521 CH S_b508
                replace CR := CR.trans (CHr.wr W520 sa521 CH)
                replace CH := CHv.wr W520 sa521 CH
                replace hk := Nat.le_trans hk (Keep.of_wr W520).1
                replace O0 := O0.wr W520 g_b508
                replace V7 := V7.other W520 ne509
                have K522 := K519.wr W520 (Or.inr sz_b508)
                refine own_go (fun _ kk_ => XS.dup X520.here hx rfl (hb hby at_359) rfl rfl kk_) ?_
                refine own_go (fun _ kk_ => XS.iconst X520.here hx rfl (hb hby at_360) kk_) ?_
                refine own_go (fun _ kk_ => XS.bipush X520.here hx rfl (hb hby at_361) kk_) ?_
                show own_Fin p.tables e below _ (T520.setTop (mkF m 363 #[.val (.int mode), .val (.int pos), .val (.int c0), .val (.int c1), .val (.int c2), .val (.int (mode &&& (7 : Int32))), .val (.int (c0 &&& (255 : Int32))), .val (.int (c1 &&& (255 : Int32))), .val (.int (c2 &&& (255 : Int32))), .val (.ref b7), .unset, .unset, .unset, .unset] [(.int (101 : Int32)), (.int (4 : Int32)), (.ref b508), (.ref b508)]))
                obtain ⟨T523, h523, X523, e523, W523, V523, st523⟩ := own_stC X520 hx hZ e520 V508 (by decide) (i := 4) rfl (Nat.le_of_ble_eq_true rfl) (g := (mkF m 363 #[.val (.int mode), .val (.int pos), .val (.int c0), .val (.int c1), .val (.int c2), .val (.int (mode &&& (7 : Int32))), .val (.int (c0 &&& (255 : Int32))), .val (.int (c1 &&& (255 : Int32))), .val (.int (c2 &&& (255 : Int32))), .val (.ref b7), .unset, .unset, .unset, .unset] [(.int (101 : Int32)), (.int (4 : Int32)), (.ref b508), (.ref b508)])) rfl rfl (hb hby at_363)
                replace V508 : Arv Z h523 b508 k508 .char (8 : Int32) [(.int (100 : Int32)), (.int (111 : Int32)), (.int (99 : Int32)), (.int (107 : Int32)), (.int (101 : Int32)), (.int (0 : Int32)), (.int (0 : Int32)), (.int (0 : Int32))] (.int (0 : Int32)) := V523
                have N523 := Fr.snoc X523 N520 g_b508
                refine own_go st523 ?_
                have sa524 := S_b508
                replace S_b7 := Safe.wr W523 sa524 CH S_b7
                replace S_b508 := Safe.wr W523 sa524 CH S_b508
                replace CR := CR.trans (CHr.wr W523 sa524 CH)
                replace CH := CHv.wr W523 sa524 CH
                replace hk := Nat.le_trans hk (Keep.of_wr W523).1
                replace O0 := O0.wr W523 g_b508
                replace V7 := V7.other W523 ne509
                have K525 := K522.wr W523 (Or.inr sz_b508)
                refine own_go (fun _ kk_ => XS.dup X523.here hx rfl (hb hby at_364) rfl rfl kk_) ?_
                refine own_go (fun _ kk_ => XS.iconst X523.here hx rfl (hb hby at_365) kk_) ?_
                refine own_go (fun _ kk_ => XS.bipush X523.here hx rfl (hb hby at_366) kk_) ?_
                show own_Fin p.tables e below _ (T523.setTop (mkF m 368 #[.val (.int mode), .val (.int pos), .val (.int c0), .val (.int c1), .val (.int c2), .val (.int (mode &&& (7 : Int32))), .val (.int (c0 &&& (255 : Int32))), .val (.int (c1 &&& (255 : Int32))), .val (.int (c2 &&& (255 : Int32))), .val (.ref b7), .unset, .unset, .unset, .unset] [(.int (114 : Int32)), (.int (5 : Int32)), (.ref b508), (.ref b508)]))
                obtain ⟨T526, h526, X526, e526, W526, V526, st526⟩ := own_stC X523 hx hZ e523 V508 (by decide) (i := 5) rfl (Nat.le_of_ble_eq_true rfl) (g := (mkF m 368 #[.val (.int mode), .val (.int pos), .val (.int c0), .val (.int c1), .val (.int c2), .val (.int (mode &&& (7 : Int32))), .val (.int (c0 &&& (255 : Int32))), .val (.int (c1 &&& (255 : Int32))), .val (.int (c2 &&& (255 : Int32))), .val (.ref b7), .unset, .unset, .unset, .unset] [(.int (114 : Int32)), (.int (5 : Int32)), (.ref b508), (.ref b508)])) rfl rfl (hb hby at_368)
                replace V508 : Arv Z h526 b508 k508 .char (8 : Int32) [(.int (100 : Int32)), (.int (111 : Int32)), (.int (99 : Int32)), (.int (107 : Int32)), (.int (101 : Int32)), (.int (114 : Int32)), (.int (0 : Int32)), (.int (0 : Int32))] (.int (0 : Int32)) := V526
                have N526 := Fr.snoc X526 N523 g_b508
                refine own_go st526 ?_
                have sa527 := S_b508
                replace S_b7 := Safe.wr W526 sa527 CH S_b7
                replace S_b508 := Safe.wr W526 sa527 CH S_b508
                replace CR := CR.trans (CHr.wr W526 sa527 CH)
                replace CH := CHv.wr W526 sa527 CH
                replace hk := Nat.le_trans hk (Keep.of_wr W526).1
                replace O0 := O0.wr W526 g_b508
                replace V7 := V7.other W526 ne509
                have K528 := K525.wr W526 (Or.inr sz_b508)
                refine own_go (fun _ kk_ => XS.dup X526.here hx rfl (hb hby at_369) rfl rfl kk_) ?_
                refine own_go (fun _ kk_ => XS.bipush X526.here hx rfl (hb hby at_370) kk_) ?_
                refine own_go (fun _ kk_ => XS.bipush X526.here hx rfl (hb hby at_372) kk_) ?_
                show own_Fin p.tables e below _ (T526.setTop (mkF m 374 #[.val (.int mode), .val (.int pos), .val (.int c0), .val (.int c1), .val (.int c2), .val (.int (mode &&& (7 : Int32))), .val (.int (c0 &&& (255 : Int32))), .val (.int (c1 &&& (255 : Int32))), .val (.int (c2 &&& (255 : Int32))), .val (.ref b7), .unset, .unset, .unset, .unset] [(.int (46 : Int32)), (.int (6 : Int32)), (.ref b508), (.ref b508)]))
                obtain ⟨T529, h529, X529, e529, W529, V529, st529⟩ := own_stC X526 hx hZ e526 V508 (by decide) (i := 6) rfl (Nat.le_of_ble_eq_true rfl) (g := (mkF m 374 #[.val (.int mode), .val (.int pos), .val (.int c0), .val (.int c1), .val (.int c2), .val (.int (mode &&& (7 : Int32))), .val (.int (c0 &&& (255 : Int32))), .val (.int (c1 &&& (255 : Int32))), .val (.int (c2 &&& (255 : Int32))), .val (.ref b7), .unset, .unset, .unset, .unset] [(.int (46 : Int32)), (.int (6 : Int32)), (.ref b508), (.ref b508)])) rfl rfl (hb hby at_374)
                replace V508 : Arv Z h529 b508 k508 .char (8 : Int32) [(.int (100 : Int32)), (.int (111 : Int32)), (.int (99 : Int32)), (.int (107 : Int32)), (.int (101 : Int32)), (.int (114 : Int32)), (.int (46 : Int32)), (.int (0 : Int32))] (.int (0 : Int32)) := V529
                have N529 := Fr.snoc X529 N526 g_b508
                refine own_go st529 ?_
                have sa530 := S_b508
                replace S_b7 := Safe.wr W529 sa530 CH S_b7
                replace S_b508 := Safe.wr W529 sa530 CH S_b508
                replace CR := CR.trans (CHr.wr W529 sa530 CH)
                replace CH := CHv.wr W529 sa530 CH
                replace hk := Nat.le_trans hk (Keep.of_wr W529).1
                replace O0 := O0.wr W529 g_b508
                replace V7 := V7.other W529 ne509
                have K531 := K528.wr W529 (Or.inr sz_b508)
                refine own_go (fun _ kk_ => XS.dup X529.here hx rfl (hb hby at_375) rfl rfl kk_) ?_
                refine own_go (fun _ kk_ => XS.bipush X529.here hx rfl (hb hby at_376) kk_) ?_
                refine own_go (fun _ kk_ => XS.bipush X529.here hx rfl (hb hby at_378) kk_) ?_
                show own_Fin p.tables e below _ (T529.setTop (mkF m 380 #[.val (.int mode), .val (.int pos), .val (.int c0), .val (.int c1), .val (.int c2), .val (.int (mode &&& (7 : Int32))), .val (.int (c0 &&& (255 : Int32))), .val (.int (c1 &&& (255 : Int32))), .val (.int (c2 &&& (255 : Int32))), .val (.ref b7), .unset, .unset, .unset, .unset] [(.int (105 : Int32)), (.int (7 : Int32)), (.ref b508), (.ref b508)]))
                obtain ⟨T532, h532, X532, e532, W532, V532, st532⟩ := own_stC X529 hx hZ e529 V508 (by decide) (i := 7) rfl (Nat.le_of_ble_eq_true rfl) (g := (mkF m 380 #[.val (.int mode), .val (.int pos), .val (.int c0), .val (.int c1), .val (.int c2), .val (.int (mode &&& (7 : Int32))), .val (.int (c0 &&& (255 : Int32))), .val (.int (c1 &&& (255 : Int32))), .val (.int (c2 &&& (255 : Int32))), .val (.ref b7), .unset, .unset, .unset, .unset] [(.int (105 : Int32)), (.int (7 : Int32)), (.ref b508), (.ref b508)])) rfl rfl (hb hby at_380)
                replace V508 : Arv Z h532 b508 k508 .char (8 : Int32) [(.int (100 : Int32)), (.int (111 : Int32)), (.int (99 : Int32)), (.int (107 : Int32)), (.int (101 : Int32)), (.int (114 : Int32)), (.int (46 : Int32)), (.int (105 : Int32))] (.int (0 : Int32)) := V532
                have N532 := Fr.snoc X532 N529 g_b508
                refine own_go st532 ?_
                have sa533 := S_b508
                replace S_b7 := Safe.wr W532 sa533 CH S_b7
                replace S_b508 := Safe.wr W532 sa533 CH S_b508
                replace CR := CR.trans (CHr.wr W532 sa533 CH)
                replace CH := CHv.wr W532 sa533 CH
                replace hk := Nat.le_trans hk (Keep.of_wr W532).1
                replace O0 := O0.wr W532 g_b508
                replace V7 := V7.other W532 ne509
                have K534 := K531.wr W532 (Or.inr sz_b508)
                refine own_go (fun _ kk_ => XS.astore X532.here hx rfl (hb hby at_381) rfl rfl (l' := #[.val (.int mode), .val (.int pos), .val (.int c0), .val (.int c1), .val (.int c2), .val (.int (mode &&& (7 : Int32))), .val (.int (c0 &&& (255 : Int32))), .val (.int (c1 &&& (255 : Int32))), .val (.int (c2 &&& (255 : Int32))), .val (.ref b7), .unset, .unset, .val (.ref b508), .unset]) rfl kk_) ?_
                show own_Fin p.tables e below _ (T532.setTop (mkF m 383 #[.val (.int mode), .val (.int pos), .val (.int c0), .val (.int c1), .val (.int c2), .val (.int (mode &&& (7 : Int32))), .val (.int (c0 &&& (255 : Int32))), .val (.int (c1 &&& (255 : Int32))), .val (.int (c2 &&& (255 : Int32))), .val (.ref b7), .unset, .unset, .val (.ref b508), .unset] []))
                obtain ⟨T535, h535, X535, e535, E535, A535, D535, -, st535⟩ := newO X532 hx hZ hown (hw _ (List.mem_of_getElem? (i := 1) rfl)) (hw _ (List.mem_of_getElem? (i := 2) rfl)) (hw _ (List.mem_of_getElem? (i := 3) rfl)) e532 (g := (mkF m 383 #[.val (.int mode), .val (.int pos), .val (.int c0), .val (.int c1), .val (.int c2), .val (.int (mode &&& (7 : Int32))), .val (.int (c0 &&& (255 : Int32))), .val (.int (c1 &&& (255 : Int32))), .val (.int (c2 &&& (255 : Int32))), .val (.ref b7), .unset, .unset, .val (.ref b508), .unset] [])) rfl (hb hby at_383) (by decide) (by decide)
                obtain ⟨b535, g535⟩ : ∃ z, z = h532.size := ⟨_, rfl⟩
                rw [← g535] at A535 D535 st535
                have sz_b535 : h0.size ≤ b535 := Nat.le_trans K534.1 (Nat.le_of_eq g535.symm)
                have g_b535 : n0 ≤ b535 := Nat.le_trans Z0 sz_b535
                have ne536 : b7 ≠ b535 := Nat.ne_of_lt (Nat.lt_of_lt_of_le V7.lt (Nat.le_of_eq g535.symm))
                have ne537 : b508 ≠ b535 := Nat.ne_of_lt (Nat.lt_of_lt_of_le V508.lt (Nat.le_of_eq g535.symm))
                have S_b535 := Safe.new (Z := Z) (EL := consts_1) (vm := s.vm) (Nat.le_of_eq g535.symm)
                replace S_b7 := Safe.ext E535 CH S_b7
                replace S_b508 := Safe.ext E535 CH S_b508
                replace S_b535 := Safe.ext E535 CH S_b535
                replace CR := CR.trans (CHr.ext E535 CH)
                replace CH := CH.ext E535
                replace hk := Nat.le_trans hk E535.1
                replace O0 := O0.ext E535
                replace V7 := V7.ext E535
                replace V508 := V508.ext E535
                have K538 := K534.ext E535
                have F535_coder : Fld Z h535 b535 "java/lang/String" "coder" "B" (.int (0 : Int32)) := D535 (Or.inr (hw _ (List.mem_of_getElem? (i := 27) rfl))) (ty := .byte) (by decide)
                have F535_value : Fld Z h535 b535 "java/lang/String" "value" "[B" .null := D535 (Or.inr (hw _ (List.mem_of_getElem? (i := 29) rfl))) (ty := (.array .byte)) (by decide)
                refine own_go st535 ?_
                refine own_go (fun _ kk_ => XS.dup X535.here hx rfl (hb hby at_386) rfl rfl kk_) ?_
                refine own_go (fun _ kk_ => XS.aload X535.here hx rfl (hb hby at_387) rfl rfl kk_) ?_
                show own_Fin p.tables e below _ (T535.setTop (mkF m 389 #[.val (.int mode), .val (.int pos), .val (.int c0), .val (.int c1), .val (.int c2), .val (.int (mode &&& (7 : Int32))), .val (.int (c0 &&& (255 : Int32))), .val (.int (c1 &&& (255 : Int32))), .val (.int (c2 &&& (255 : Int32))), .val (.ref b7), .unset, .unset, .val (.ref b508), .unset] [(.ref b508), (.ref b535), (.ref b535)]))
                have hp540 : ∀ c ∈ ([(100 : Int32), (111 : Int32), (99 : Int32), (107 : Int32), (101 : Int32), (114 : Int32), (46 : Int32), (105 : Int32)] : List Int32), ¬ c < 0 ∧ ¬ (255 : Int32) < c := by
                  intro c hc
                  simp only [List.mem_cons, List.not_mem_nil, or_false] at hc
                  rcases hc with rfl | rfl | rfl | rfl | rfl | rfl | rfl | rfl
                  · exact by decide
                  · exact by decide
                  · exact by decide
                  · exact by decide
                  · exact by decide
                  · exact by decide
                  · exact by decide
                  · exact by decide
                obtain ⟨_, _, ⟨T539, L539, k539, n539⟩, -, X539, ⟨Lc539, hQ539, l539, y539, z539⟩, st539⟩ := X535.specialBack hx (y := (⟨"java/lang/String", "<init>", "([C)V"⟩ : MethodName)) rfl hown (mvT hZ (hw _ (List.mem_of_getElem? (i := 4) rfl))) (mvT hZ (hw _ (List.mem_of_getElem? (i := 5) rfl))) (mvT hZ (hw _ (List.mem_of_getElem? (i := 6) rfl))) (by decide) (StrChars.Road.backV (W := 1) hZ hws (kI := 4) (hw _ (List.mem_of_getElem? (i := 2) rfl)) (cs := ([(100 : Int32), (111 : Int32), (99 : Int32), (107 : Int32), (101 : Int32), (114 : Int32), (46 : Int32), (105 : Int32)] : List Int32)) (bs := (([(100 : Int32), (111 : Int32), (99 : Int32), (107 : Int32), (101 : Int32), (114 : Int32), (46 : Int32), (105 : Int32)] : List Int32)).map (fun c => c.toInt8.toInt32)) (n := 8) g_b535 (Nat.le_trans Z0 K538.1) A535 F535_value F535_coder V508 (S_C.ext O0.2) hcs rfl rfl (by decide) (by decide) hp540 rfl (by decide) (by decide)) (g := (mkF m 389 #[.val (.int mode), .val (.int pos), .val (.int c0), .val (.int c1), .val (.int c2), .val (.int (mode &&& (7 : Int32))), .val (.int (c0 &&& (255 : Int32))), .val (.int (c1 &&& (255 : Int32))), .val (.int (c2 &&& (255 : Int32))), .val (.ref b7), .unset, .unset, .val (.ref b508), .unset] [(.ref b508), (.ref b535), (.ref b535)])) rfl (by rw [hml]; rfl) (Steps.refl _) (a := b535) (argsL := [(.ref b508)]) (rest := [(.ref b535)]) (lenOf pd_3 rfl) rfl (by show 2 * 0 + _ ≤ _; exact Nat.le_of_eq rfl) (hb hby at_389) (fun _ _ => ⟨rfl, e535, (by decide : 3 + 1 ≤ _), (by decide : 21 + 8 ≤ _)⟩)
                dsimp only [Pt.U, Pt.locs, Pt.cells, Pt.slots] at X539 l539 y539 z539 st539 hQ539
                subst l539 y539 z539
                obtain ⟨rfl, N539q, KK539, EE539, FC539, t539, kb539, gt539, szt539, netx539, FV539, VV539⟩ := hQ539
                have N539 := Fr.app N532 N539q
                have SS539 : own_Str Z T539.heap b535 t539 ([(100 : Int32), (111 : Int32), (99 : Int32), (107 : Int32), (101 : Int32), (114 : Int32), (46 : Int32), (105 : Int32)] : List Int32) := ⟨_, _, _, _, EE539, FV539, FC539, VV539, StrChars.Road.codOf (n := 8) rfl (fun c hc => (hp540 c hc).2), own_up _ hp540, Nat.le_of_ble_eq_true rfl⟩
                have sz_t539 : h0.size ≤ t539 := Nat.le_trans K538.1 szt539
                have ne541 : b7 ≠ t539 := Nat.ne_of_lt (Nat.lt_of_lt_of_le V7.lt szt539)
                have ne542 : b508 ≠ t539 := Nat.ne_of_lt (Nat.lt_of_lt_of_le V508.lt szt539)
                have ne543 : b535 ≠ t539 := Nat.ne_of_lt (Nat.lt_of_lt_of_le A535.lt szt539)
                have S_t539 := Safe.new (Z := Z) (EL := consts_1) (vm := s.vm) szt539
                have hs544 : ∀ x ∈ [b535], Safe Z consts_1 s.vm h535 x := (sfS S_b535 sf0)
                replace S_b7 := Safe.keep KK539 hs544 CH S_b7
                replace S_b508 := Safe.keep KK539 hs544 CH S_b508
                replace S_b535 := Safe.keep KK539 hs544 CH S_b535
                replace S_t539 := Safe.keep KK539 hs544 CH S_t539
                replace CR := CR.trans (CHr.keep KK539 hs544 CH)
                replace CH := CHv.keep KK539 hs544 CH
                replace hk := Nat.le_trans hk KK539.1
                replace O0 := O0.keep KK539 (allS g_b535 (all0))
                replace V7 := V7.keep KK539 (ninS ne536 nin0)
                replace V508 := V508.keep KK539 (ninS ne537 nin0)
                replace A535 := A535.keep KK539
                have K545 := K538.trans KK539 (allS (Or.inr sz_b535) all0)
                refine own_go (fun _ kk_ => st539.trans kk_) ?_
                refine own_go (fun _ kk_ => XS.astore X539.here hx rfl (hb hby at_392) rfl rfl (l' := #[.val (.int mode), .val (.int pos), .val (.int c0), .val (.int c1), .val (.int c2), .val (.int (mode &&& (7 : Int32))), .val (.int (c0 &&& (255 : Int32))), .val (.int (c1 &&& (255 : Int32))), .val (.int (c2 &&& (255 : Int32))), .val (.ref b7), .val (.ref b535), .unset, .val (.ref b508), .unset]) rfl kk_) ?_
                refine own_go (fun _ kk_ => XS.iconst X539.here hx rfl (hb hby at_394) kk_) ?_
                refine own_go (fun _ kk_ => XS.istore X539.here hx rfl (hb hby at_395) rfl (l' := #[.val (.int mode), .val (.int pos), .val (.int c0), .val (.int c1), .val (.int c2), .val (.int (mode &&& (7 : Int32))), .val (.int (c0 &&& (255 : Int32))), .val (.int (c1 &&& (255 : Int32))), .val (.int (c2 &&& (255 : Int32))), .val (.ref b7), .val (.ref b535), .val (.int (0 : Int32)), .val (.ref b508), .unset]) rfl kk_) ?_
                refine own_go (fun _ kk_ => XS.iload X539.here hx rfl (hb hby at_397) rfl kk_) ?_
                show own_Fin p.tables e below _ (T539.setTop (mkF m 399 #[.val (.int mode), .val (.int pos), .val (.int c0), .val (.int c1), .val (.int c2), .val (.int (mode &&& (7 : Int32))), .val (.int (c0 &&& (255 : Int32))), .val (.int (c1 &&& (255 : Int32))), .val (.int (c2 &&& (255 : Int32))), .val (.ref b7), .val (.ref b535), .val (.int (0 : Int32)), .val (.ref b508), .unset] [(.int (0 : Int32))]))
                refine own_go (fun _ kk_ => XS.ifYes X539.here hx rfl (pc0 := 399) (pc' := 407) rfl (hb hby at_399) rfl ((if0 _ _).trans (teq (by decide : (0 : Int32) = (0 : Int32))).1) (by decide) (by decide) kk_) ?_
                refine own_go (fun _ kk_ => XS.aload X539.here hx rfl (hb hby at_407) rfl rfl kk_) ?_
                refine own_go (fun _ kk_ => XS.astore X539.here hx rfl (hb hby at_409) rfl rfl (l' := #[.val (.int mode), .val (.int pos), .val (.int c0), .val (.int c1), .val (.int c2), .val (.int (mode &&& (7 : Int32))), .val (.int (c0 &&& (255 : Int32))), .val (.int (c1 &&& (255 : Int32))), .val (.int (c2 &&& (255 : Int32))), .val (.ref b7), .val (.ref b535), .val (.int (0 : Int32)), .val (.ref b535), .unset]) rfl kk_) ?_
                refine own_go (fun _ kk_ => XS.aload X539.here hx rfl (hb hby at_411) rfl rfl kk_) ?_
                show own_Fin p.tables e below _ (T539.setTop (mkF m 413 #[.val (.int mode), .val (.int pos), .val (.int c0), .val (.int c1), .val (.int c2), .val (.int (mode &&& (7 : Int32))), .val (.int (c0 &&& (255 : Int32))), .val (.int (c1 &&& (255 : Int32))), .val (.int (c2 &&& (255 : Int32))), .val (.ref b7), .val (.ref b535), .val (.int (0 : Int32)), .val (.ref b535), .unset] [(.ref b535)]))
                obtain ⟨_, _, ⟨T546, L546, k546, n546⟩, -, X546, hSn546, hgr546, ⟨Lc546, hQ546, l546, y546, z546, CR546⟩, st546⟩ := callSS X539 hx (y := (⟨"com/example/laminate/laminate/core/DefaultRegistry", "credentialsKey", "(Ljava/lang/String;)Ljava/lang/String;"⟩ : MethodName)) hown (mvT hZ (hw _ (List.mem_of_getElem? (i := 33) rfl))) (mvT hZ (hw _ (List.mem_of_getElem? (i := 34) rfl))) (mvT hZ (hw _ (List.mem_of_getElem? (i := 35) rfl))) (mvT hZ (hw _ (List.mem_of_getElem? (i := 36) rfl))) (by decide) (backOfSH (s := s) (W := 0) (rm_ck l Z a0 hw [] hEL b535 t539 ([(100 : Int32), (111 : Int32), (99 : Int32), (107 : Int32), (101 : Int32), (114 : Int32), (46 : Int32), (105 : Int32)] : List Int32) gc T539.heap n0 (Nat.le_trans Z0 K545.1) SS539 S_C hcs O0) hZ (hw _ (List.mem_of_getElem? (i := 36) rfl)) (hw _ (List.mem_of_getElem? (i := 35) rfl)) (by decide) (by decide) hEL CH) (g := (mkF m 413 #[.val (.int mode), .val (.int pos), .val (.int c0), .val (.int c1), .val (.int c2), .val (.int (mode &&& (7 : Int32))), .val (.int (c0 &&& (255 : Int32))), .val (.int (c1 &&& (255 : Int32))), .val (.int (c2 &&& (255 : Int32))), .val (.ref b7), .val (.ref b535), .val (.int (0 : Int32)), .val (.ref b535), .unset] [(.ref b535)])) rfl (by rw [hml]; rfl) (argsL := [(.ref b535)]) (rest := []) (lenOf pd_4 rfl) rfl (by show 2 * 0 + _ ≤ _; exact Nat.le_of_eq rfl) (hb hby at_413) (fun _ _ => ⟨rfl, rfl, (by decide : 4 + 4 ≤ _), (by decide : 29 + 152 ≤ _)⟩)
                dsimp only [Pt.U, Pt.locs, Pt.cells, Pt.slots] at X546 l546 y546 z546 st546 hQ546 hSn546 hgr546 CR546
                subst l546 y546 z546
                replace hS := foldS hS hk hSn546 hgr546
                replace hk : T546.heap.size ≤ T546.heap.size := Nat.le_refl _
                replace hZ : Z.Warmed39 (s.setVm T546.vm).vm := State.Warmed39.trans (t := s.setVm s.vm) hZ hSn546.1
                replace hown : (s.setVm T546.vm).vm.findClass "com/example/laminate/laminate/core/DefaultRegistryCredentialsKeyPinLaw" = some m.cls := by rw [show (s.setVm T546.vm).vm = T546.vm from rfl, hSn546.1.alike.findClass]; exact hown
                replace X546 : Stand p l e room_1 (s.setVm T546.vm) m #[(.int mode), (.int pos), (.int c0), (.int c1), (.int c2)] below meth c T546 _ _ _ := X546
                replace S_b7 := CR546.safe V7.lt S_b7
                replace S_b508 := CR546.safe V508.lt S_b508
                replace S_b535 := CR546.safe SS539.lt S_b535
                replace S_t539 := CR546.safe SS539.ltt S_t539
                replace CR := CR.trans CR546
                replace CH := CR546.1
                obtain ⟨N546q, KK546, hy546, hn546⟩ := hQ546
                have N546 := Fr.app N539 N546q
                obtain rfl := hn546 (by simp)
                replace O0 := O0.keep KK546 all0
                replace V7 := V7.keep KK546 nin0
                replace V508 := V508.keep KK546 nin0
                replace SS539 := SS539.keep KK546 nin0 nin0
                have K547 := K545.trans KK546 all0
                refine own_go (fun _ kk_ => st546.trans kk_) ?_
                refine own_go (fun _ kk_ => XS.astore X546.here hx rfl (hb hby at_416) rfl rfl (l' := #[.val (.int mode), .val (.int pos), .val (.int c0), .val (.int c1), .val (.int c2), .val (.int (mode &&& (7 : Int32))), .val (.int (c0 &&& (255 : Int32))), .val (.int (c1 &&& (255 : Int32))), .val (.int (c2 &&& (255 : Int32))), .val (.ref b7), .val (.ref b535), .val (.int (0 : Int32)), .val (.ref b535), .val (.ref b535)]) rfl kk_) ?_
                refine own_go (fun _ kk_ => XS.aload X546.here hx rfl (hb hby at_418) rfl rfl kk_) ?_
                refine own_go (fun _ kk_ => XS.aload X546.here hx rfl (hb hby at_420) rfl rfl kk_) ?_
                show own_Fin p.tables e below _ (T546.setTop (mkF m 422 #[.val (.int mode), .val (.int pos), .val (.int c0), .val (.int c1), .val (.int c2), .val (.int (mode &&& (7 : Int32))), .val (.int (c0 &&& (255 : Int32))), .val (.int (c1 &&& (255 : Int32))), .val (.int (c2 &&& (255 : Int32))), .val (.ref b7), .val (.ref b535), .val (.int (0 : Int32)), .val (.ref b535), .val (.ref b535)] [(.ref b535), (.ref b535)]))
                obtain ⟨cq548, kq548, qa548, qb548, qc548⟩ := isOf hZ rfl SS539.exa
                obtain ⟨_, _, ⟨T548, L548, k548, n548⟩, -, X548, ⟨Lc548, hQ548, l548, y548, z548⟩, st548⟩ := X546.virtualBack hx (y := (⟨"java/lang/String", "equals", "(Ljava/lang/Object;)Z"⟩ : MethodName)) (z := (⟨"java/lang/String", "equals", "(Ljava/lang/Object;)Z"⟩ : MethodName)) hown (mvT hZ (hw _ (List.mem_of_getElem? (i := 49) rfl))) (mvT hZ (hw _ (List.mem_of_getElem? (i := 39) rfl))) (own_notface (args := #[]) (mvT hZ (hw _ (List.mem_of_getElem? (i := 41) rfl))) rfl) (mvT hZ (hw _ (List.mem_of_getElem? (i := 41) rfl))) (mvT hZ (hw _ (List.mem_of_getElem? (i := 40) rfl))) (by decide) (own_eqB (W := 0) hZ heq (hw _ (List.mem_of_getElem? (i := 2) rfl)) SS539 SS539 (S_C.ext O0.2) hcs (by decide) (by decide)) qa548 qc548 (g := (mkF m 422 #[.val (.int mode), .val (.int pos), .val (.int c0), .val (.int c1), .val (.int c2), .val (.int (mode &&& (7 : Int32))), .val (.int (c0 &&& (255 : Int32))), .val (.int (c1 &&& (255 : Int32))), .val (.int (c2 &&& (255 : Int32))), .val (.ref b7), .val (.ref b535), .val (.int (0 : Int32)), .val (.ref b535), .val (.ref b535)] [(.ref b535), (.ref b535)])) rfl (by rw [hml]; rfl) (Steps.refl _) (argsL := [(.ref b535)]) (rest := []) (lenOf pd_1 rfl) rfl (by show 2 * 0 + _ ≤ _; exact Nat.le_of_eq rfl) (hb hby at_422) (fun _ _ => ⟨rfl, rfl, (by decide : 8 + 0 ≤ _), (by decide : 181 + 0 ≤ _)⟩)
                dsimp only [Pt.U, Pt.locs, Pt.cells, Pt.slots] at X548 l548 y548 z548 st548 hQ548
                subst l548 y548 z548
                obtain ⟨hq548, rfl, e548⟩ := hQ548
                obtain ⟨z548, rfl, hz548⟩ := own_eqv hq548
                have N548 := Fr.app N546 (Fr.nil n0)
                obtain rfl : z548 = 1 := hz548.elim (fun q => q.1) (fun q => absurd rfl q.2)
                refine own_go (fun _ kk_ => st548.trans kk_) ?_
                show own_Fin p.tables e below _ (T548.setTop (mkF m 425 #[.val (.int mode), .val (.int pos), .val (.int c0), .val (.int c1), .val (.int c2), .val (.int (mode &&& (7 : Int32))), .val (.int (c0 &&& (255 : Int32))), .val (.int (c1 &&& (255 : Int32))), .val (.int (c2 &&& (255 : Int32))), .val (.ref b7), .val (.ref b535), .val (.int (0 : Int32)), .val (.ref b535), .val (.ref b535)] [(.int (1 : Int32))]))
                have CRz : CHr Z consts_1 s.vm s.heap T548.vm T548.heap := by
                  rw [hh, e548]
                  exact CR.trans (CHv.at X548 hZ hEL CH)
                refine own_retW X548 hx Bd hS (show _ ≤ T548.heap.size by rw [e548]; exact hk) (t := .boolean) Bd.returns rfl (Or.inl ⟨rfl, by simp, _, rfl⟩) (hb hby at_425) CRz ?_ (by decide) (by decide)
                show (Q_rm_law Z mode pos c0 c1 c2 gc h0 n0) (some (.int (1 : Int32))) T548.heap _
                rw [e548]
                exact ⟨rfl, N548⟩
section OwnStart
variable {args : Array Value} {s : State}
theorem own_eqL {t : Term} {c : Int64} (h : (Jvm.Cond.eq t (.long c)).value args s none s [] = some true) : t.eval args s none [] s = some (.long c) := by
  obtain ⟨x, y, hx, hy, k1, -⟩ := cmp_v (Or.inl h)
  cases Option.some.inj (hy.symm.trans (long_at c))
  cases x <;> simp [Kin, Value.isRef] at k1
  have q := gotT (eq_L hx hy) h
  rw [hx, q]
theorem own_eqI {t : Term} {c : Int32} (h : (Jvm.Cond.eq t (.int c)).value args s none s [] = some true) : t.eval args s none [] s = some (.int c) := by
  obtain ⟨x, y, hx, hy, k1, -⟩ := cmp_v (Or.inl h)
  cases Option.some.inj (hy.symm.trans (Term.int_eval c))
  cases x <;> simp [Kin, Value.isRef] at k1
  have q := gotT (Cond.eq_ints hx hy) h
  rw [hx, q]
theorem own_eqR {t u : Term} {a : Addr} (hu : u.eval args s none [] s = some (.ref a)) (h : (Jvm.Cond.eq t u).value args s none s [] = some true) : t.eval args s none [] s = some (.ref a) := by
  obtain ⟨x, y, hx, hy, k1, -⟩ := cmp_v (Or.inl h)
  cases Option.some.inj (hy.symm.trans hu)
  have hr : x.isRef = true := by cases x <;> simp [Kin, Value.isRef] at k1 ⊢
  have q := gotT (eq_R hx hy hr rfl) h
  rw [hx, q]
theorem own_arr {t : Term} {a : Addr} {ty : FieldType} {N : Int32} (ev : t.eval args s none [] s = some (.ref a)) (h1 : (Jvm.Cond.arrayOf t ty).value args s none s [] = some true) (h2 : (Jvm.Cond.eq (Term.length t) (.int N)).value args s none s [] = some true) :
    ∃ cl, Arr s s.heap a cl ty ∧ s.arrayAt? a = some cl ∧ cl.slots.size < 2 ^ 31 ∧ cl.slots.size.toInt32 = N := by
  obtain ⟨cl, A⟩ := Arr.start ev h1
  have aa : s.arrayAt? a = some cl := A.fin (hal := Vm.Alike.refl _)
  have hlen := own_eqI h2
  simp only [Term.eval, ev, Option.bind_eq_bind, Option.bind_some, aa] at hlen
  split at hlen
  · rename_i q; exact ⟨cl, A, aa, q, by simpa using hlen⟩
  · cases hlen
theorem own_elL {t : Term} {a : Addr} {cl : Cell} {j : Int32} {c : Int64} (ev : t.eval args s none [] s = some (.ref a)) (aa : s.arrayAt? a = some cl) (hj : ¬ j < 0) (h : (Jvm.Cond.eq (Term.elem t (.int j)) (.long c)).value args s none s [] = some true) : cl.slots[j.toNatClampNeg]? = some (.long c) := by
  have q := own_eqL h
  rwa [elem_f ev (Term.int_eval j) aa hj] at q
theorem own_elI {t : Term} {a : Addr} {cl : Cell} {j : Int32} {c : Int32} (ev : t.eval args s none [] s = some (.ref a)) (aa : s.arrayAt? a = some cl) (hj : ¬ j < 0) (h : (Jvm.Cond.eq (Term.elem t (.int j)) (.int c)).value args s none s [] = some true) : cl.slots[j.toNatClampNeg]? = some (.int c) := by
  have q := own_eqI h
  rwa [elem_f ev (Term.int_eval j) aa hj] at q
theorem own_elR {t u : Term} {a b : Addr} {cl : Cell} {j : Int32} (ev : t.eval args s none [] s = some (.ref a)) (aa : s.arrayAt? a = some cl) (hj : ¬ j < 0) (hu : u.eval args s none [] s = some (.ref b)) (h : (Jvm.Cond.eq (Term.elem t (.int j)) u).value args s none s [] = some true) : cl.slots[j.toNatClampNeg]? = some (.ref b) := by
  have q := own_eqR hu h
  rwa [elem_f ev (Term.int_eval j) aa hj] at q
end OwnStart
set_option maxRecDepth 65536 in
set_option maxHeartbeats 40000000 in
theorem comes_1 {Post : Tables → Env → Array Value → State → Outcome → State → Prop} (hpost : ∀ tb e args s v u, (limb_1_1.after args s (.returned v) u = true ∧ limb_1_2.after args s (.returned v) u = true ∧ True) → ReturnedEndW s (.returned v) u (Jvm.fieldLocs frame_1_writes args s ++ Jvm.arrayLocs frame_1_arrays args s ++ Jvm.staticLocs frame_1_statics s) 32 6336 → Post tb e args s (.returned v) u) :
    ArmFor flags0 classFile x code maxLocals ret World_1 tables_1 room_1 Calls_1 rest_1 Pre_1 Post := by
  intro l hfl _ _ p e ha hc hk s m args below hf hA hF happ hP
  obtain ⟨hcalls, hrest, hpre⟩ := hP
  obtain ⟨-, -, -, hnamed, -, -, -, hat⟩ := (Spec.applies_iff hf).mp happ
  obtain ⟨hg, hn⟩ := and_e (Cond.before_iff.mp (show (Jvm.Cond.and given_1 narrow_1).before args s = true from hpre))
  obtain ⟨h1, hg⟩ := and_e hg
  obtain ⟨g0, hg⟩ := and_e hg
  obtain ⟨g1, hg⟩ := and_e hg
  obtain ⟨g2, hg⟩ := and_e hg
  obtain ⟨g3, hg⟩ := and_e hg
  obtain ⟨w0, w1, w2, w3, w4, rfl⟩ : ∃ w0 w1 w2 w3 w4 : Value, args = #[w0, w1, w2, w3, w4] := by
    have hs : args.size = 5 := by simpa [Cond.value, given_1] using h1
    obtain ⟨L⟩ := args
    match L, hs with
    | [w0, w1, w2, w3, w4], _ => exact ⟨w0, w1, w2, w3, w4, rfl⟩
  have hw := fun d (hd : d ∈ tables_1) => atoms_spec (ws := Jvm.Cond.code x code maxLocals ret :: tables_1) hat d (List.mem_cons_of_mem _ hd)
  obtain ⟨hsets, hown0⟩ := atoms_of _ (rest_1_c_eq ▸ (show rest_1_c.before _ s = true from hrest))
  have hfit : Fit s := fun {y c} hc i hi => by
    obtain ⟨ha, rfl⟩ := Array.getElem?_eq_some_iff.mp hc
    have q := List.all_eq_true.mp ((Array.all_eq_true_iff_forall_mem.mp hF) _ (Array.getElem_mem ha)) i (List.mem_range.mpr hi)
    simpa [Array.getElem?_eq_getElem hi] using q
  obtain ⟨i0, e0⟩ := is_v g0
  obtain rfl : w0 = (.int i0) := Option.some.inj e0
  obtain ⟨i1, e1⟩ := is_v g1
  obtain rfl : w1 = (.int i1) := Option.some.inj e1
  obtain ⟨i2, e2⟩ := is_v g2
  obtain rfl : w2 = (.int i2) := Option.some.inj e2
  obtain ⟨i3, e3⟩ := is_v g3
  obtain rfl : w3 = (.int i3) := Option.some.inj e3
  obtain ⟨i4, e4⟩ := is_v hg
  obtain rfl : w4 = (.int i4) := Option.some.inj e4
  have n5 := not_v (Cond.before_iff.mp (hsets _ (List.mem_of_getElem? (i := 2) rfl)))
  obtain ⟨gc, e10⟩ := is_v (Cond.before_iff.mp (hsets _ (List.mem_of_getElem? (i := 1) rfl)))
  have SC : Sta s s.heap "java/lang/String" "COMPACT_STRINGS" "Z" (.int gc) := Sta.start e10 (Or.inl (hsets _ (List.mem_of_getElem? (i := 0) rfl)))
  have hcs : ¬ (gc = (0 : Int32)) := gotF (Cond.eq_ints e10 (Term.int_eval (0))) n5
  obtain ⟨gs, e14, hgs⟩ := isR_v (Cond.before_iff.mp (hsets _ (List.mem_of_getElem? (i := 8) rfl)))
  have SF : Sta s s.heap "jdk/internal/util/Preconditions" "SIOOBE_FORMATTER" "Ljava/util/function/BiFunction;" gs := Sta.start e14 (Or.inl (hsets _ (List.mem_of_getElem? (i := 7) rfl)))
  have hEL : EW s _ consts_1 := (EW.cons (hw _ (List.mem_of_getElem? (i := 37) rfl)) (by decide) (EW.cons (hw _ (List.mem_of_getElem? (i := 48) rfl)) (by decide) (EW.cons (hw _ (List.mem_of_getElem? (i := 52) rfl)) (by decide) (EW.cons (hw _ (List.mem_of_getElem? (i := 51) rfl)) (by decide) (EW.cons (hw _ (List.mem_of_getElem? (i := 50) rfl)) (by decide) (EW.cons (hw _ (List.mem_of_getElem? (i := 30) rfl)) (by decide) EW.nil))))))
  have CH0 := CHv.start hEL (fun p hp => hcalls.1 p hp) (hsets _ (List.mem_of_getElem? (i := 2) rfl)) (hw _ (List.mem_of_getElem? (i := 19) rfl)) (hw _ (List.mem_of_getElem? (i := 2) rfl))
  obtain ⟨n, o, h1, h2, h3, _, L, rfl, ⟨rfl, N⟩, -, hq⟩ := rm_law l s _ hw tables_1 hEL i0 i1 i2 i3 i4 gc s.heap s.heap.size (Nat.le_refl _) SC hcs (Old.start s) p e ha hc hk s m _ below hf ((Spec.applies_iff_loose hf).mp happ).1 ⟨rfl, State.Warmed39.refl s, rfl, CH0⟩ trivial
  refine ⟨n, _, h1, h2, h3, hpost _ _ _ _ _ _ ⟨Cond.after_iff.mpr rfl, Cond.after_iff.mpr (eq_i res_at (Term.int_eval (1)) rfl), trivial⟩ ⟨hq.1, hq.2.1, hq.2.2.1, (hq.2.2.2.sift fun y hy => Or.inr (N y hy)).mono (by decide) (by decide)⟩⟩
theorem main_1_1 : Claimed_1_1 := comes_1 fun _ _ _ _ _ _ h hF => ⟨h.1, hF⟩
theorem main_1_2 : Claimed_1_2 := comes_1 fun _ _ _ _ _ _ h hF => ⟨h.2.1, hF⟩
end Jvm.Pilot.@@N@@
namespace Jvm.Pilot.@@N@@
open Jvm Jvm.ClassFile Sem Op Lib Jvm.Free Jvm.Stand Jvm.Pilot.@@N@@.Jvm.D
/-! MADE BY PROGRAM (witnessworld.py) out of the Statement's table words and the real class files: 20 classes; the members and pool entries that the words name. The judged class is class 1, her method 1. -/
namespace start1
open Jvm.ClassFile
def u (s : String) : CpInfo := .utf8 (stringToUtf16 s)
/-- a pool by its gaps: so many unusable entries, then the entry; so many at the end -/
def gap : Nat → List CpInfo → List CpInfo
  | 0, r => r
  | n + 1, r => .unusable :: gap n r
def poolList (es : List (Nat × CpInfo)) (last : Nat) : List CpInfo := es.foldr (fun e r => gap e.1 (e.2 :: r)) (gap last [])
def pool (es : List (Nat × CpInfo)) (last : Nat) : Array CpInfo := ⟨poolList es last⟩
def fileOf (pool : Array CpInfo) (this : Nat) (attrs : Array Attribute := #[]) (ms : Array MethodInfo := #[]) (fl : Nat := 33) (sup : Nat := 0) (ifs : Array Nat := #[]) (fds : Array FieldInfo := #[]) : ClassFile where
  minorVersion := 0
  majorVersion := 65
  constantPool := pool
  accessFlags := fl
  thisClass := this
  superClass := sup
  interfaces := ifs
  fields := fds
  methods := ms
  attributes := attrs
def plain (name : String) (sup : Option ClassId) : Class where
  name := name
  kind := .ordinary
  loader := none
  accessFlags := 33
  super := sup
  interfaces := #[]
  cf := none
  fields := #[]
  methods := #[]
  instanceTypes := #[]
  staticTypes := #[]
  resolved := #[]
  callSites := []
  init := .initialized
  statics := none
  mirror := none

def pool0 : Array CpInfo := pool [(5, u "<init>"), (0, u "()V"), (1, .class_ 10), (1, u "java/lang/Object")] 113

def k0c0 : Code := { maxStack := 0, maxLocals := 1, code := object_method_1_code, exceptionTable := #[], attributes := #[] }
def k0m0 : Method := { name := "<init>", desc := "()V", sig := { parameters := [], returnType := none }, accessFlags := 1, code := some k0c0 }
/-- java/lang/Object -/
def k0 : Class := { plain "java/lang/Object" none with
  accessFlags := 33
  interfaces := #[]
  cf := some (fileOf pool0 8 #[] #[{ accessFlags := 1, nameIndex := 5, descriptorIndex := 6, attributes := #[] }] 33 0 #[] #[])
  fields := #[]
  methods := #[k0m0]
  instanceTypes := #[]
  staticTypes := #[]
  resolved := Array.replicate 124 none
  statics := none }

def pool1 : Array CpInfo := pool [(2, .class_ 4), (1, u "java/lang/Object"), (0, u "<init>"), (0, u "()V"), (0, .class_ 8), (0, u "java/lang/String"), (0, .methodref 7 10), (0, .nameAndType 5 11), (0, u "([C)V"), (0, .integer 2147483647), (0, .string 14), (0, u "index.docker.io"), (0, .string 16), (0, u ""), (0, .string 18), (0, u "DOCKER.IO"), (0, .string 20), (0, u "https://index.docker.io/v1/"), (0, .methodref 22 23), (0, .class_ 24), (0, .nameAndType 25 26), (0, u "com/example/laminate/laminate/core/DefaultRegistry"), (0, u "credentialsKey"), (0, u "(Ljava/lang/String;)Ljava/lang/String;"), (0, .methodref 7 28), (0, .nameAndType 29 30), (0, u "equals"), (0, u "(Ljava/lang/Object;)Z"), (0, .class_ 32), (0, u "com/example/laminate/laminate/core/DefaultRegistryCredentialsKeyPinLaw"), (2, u "law"), (0, u "(IIIII)Z")] 5

def k1m0 : Method := { name := "<init>", desc := "()V", sig := { parameters := [], returnType := none }, accessFlags := 1, code := none }
def k1c1 : Code := { maxStack := 4, maxLocals := 14, code := code, exceptionTable := #[], attributes := #[] }
def k1m1 : Method := { name := "law", desc := "(IIIII)Z", sig := { parameters := [.int, .int, .int, .int, .int], returnType := some .boolean }, accessFlags := 9, code := some k1c1 }
/-- com/example/laminate/laminate/core/DefaultRegistryCredentialsKeyPinLaw -/
def k1 : Class := { plain "com/example/laminate/laminate/core/DefaultRegistryCredentialsKeyPinLaw" (some 0) with
  accessFlags := 49
  interfaces := #[]
  cf := some (fileOf pool1 31 #[] #[{ accessFlags := 1, nameIndex := 5, descriptorIndex := 6, attributes := #[] }, { accessFlags := 9, nameIndex := 35, descriptorIndex := 36, attributes := #[] }] 49 2 #[] #[])
  fields := #[]
  methods := #[k1m0, k1m1]
  instanceTypes := #[]
  staticTypes := #[]
  resolved := Array.replicate 42 none
  statics := none }

def pool2 : Array CpInfo := pool [(1, .class_ 2), (0, u "java/io/Serializable"), (0, .class_ 4), (0, u "java/lang/Object")] 2

/-- java/io/Serializable -/
def k2 : Class := { plain "java/io/Serializable" (some 0) with
  accessFlags := 1537
  interfaces := #[]
  cf := some (fileOf pool2 1 #[] #[] 1537 3 #[] #[])
  fields := #[]
  methods := #[]
  instanceTypes := #[]
  staticTypes := #[]
  resolved := Array.replicate 7 none
  statics := none }

def pool3 : Array CpInfo := pool [(1, .class_ 2), (0, u "java/lang/Comparable"), (0, .class_ 4), (0, u "java/lang/Object")] 7

/-- java/lang/Comparable -/
def k3 : Class := { plain "java/lang/Comparable" (some 0) with
  accessFlags := 1537
  interfaces := #[]
  cf := some (fileOf pool3 1 #[] #[] 1537 3 #[] #[])
  fields := #[]
  methods := #[]
  instanceTypes := #[]
  staticTypes := #[]
  resolved := Array.replicate 12 none
  statics := none }

def pool4 : Array CpInfo := pool [(2, .class_ 4), (1, u "java/lang/CharSequence"), (42, .class_ 48), (0, u "java/lang/CharSequence$1CodePointIterator"), (10, .class_ 60), (0, u "java/lang/CharSequence$1CharIterator"), (5, .class_ 67), (0, u "java/lang/Object")] 63

/-- java/lang/CharSequence -/
def k4 : Class := { plain "java/lang/CharSequence" (some 0) with
  accessFlags := 1537
  interfaces := #[]
  cf := some (fileOf pool4 2 #[.nestMembers #[47, 59]] #[] 1537 66 #[] #[])
  fields := #[]
  methods := #[]
  instanceTypes := #[]
  staticTypes := #[]
  resolved := Array.replicate 131 none
  statics := none }

def pool5 : Array CpInfo := pool [(1, .class_ 2), (0, u "java/lang/constant/Constable"), (0, .class_ 4), (0, u "java/lang/Object")] 6

/-- java/lang/constant/Constable -/
def k5 : Class := { plain "java/lang/constant/Constable" (some 0) with
  accessFlags := 1537
  interfaces := #[]
  cf := some (fileOf pool5 1 #[] #[] 1537 3 #[] #[])
  fields := #[]
  methods := #[]
  instanceTypes := #[]
  staticTypes := #[]
  resolved := Array.replicate 11 none
  statics := none }

def pool6 : Array CpInfo := pool [(1, .class_ 2), (0, u "java/lang/constant/ConstantDesc"), (0, .class_ 4), (0, u "java/lang/Object")] 32

/-- java/lang/constant/ConstantDesc -/
def k6 : Class := { plain "java/lang/constant/ConstantDesc" (some 0) with
  accessFlags := 1537
  interfaces := #[]
  cf := some (fileOf pool6 1 #[] #[] 1537 3 #[] #[])
  fields := #[]
  methods := #[]
  instanceTypes := #[]
  staticTypes := #[]
  resolved := Array.replicate 37 none
  statics := none }

def pool7 : Array CpInfo := pool [(1, .methodref 2 3), (0, .class_ 4), (0, .nameAndType 5 6), (0, u "java/lang/Object"), (0, u "<init>"), (0, u "()V"), (2, .fieldref 10 11), (0, .class_ 12), (0, .nameAndType 13 14), (0, u "java/lang/String"), (0, u "value"), (0, u "[B"), (0, .fieldref 10 16), (0, .nameAndType 17 18), (0, u "coder"), (0, u "B"), (2, u "hash"), (0, u "I"), (2, u "hashIsZero"), (0, u "Z"), (0, .methodref 10 28), (0, .nameAndType 5 29), (0, u "([CIILjava/lang/Void;)V"), (8, .fieldref 10 39), (0, .nameAndType 40 26), (0, u "COMPACT_STRINGS"), (1, .class_ 44), (1, u "java/lang/StringUTF16"), (0, u "compress"), (1, .methodref 42 48), (0, .nameAndType 49 50), (0, u "coderFromArrayLen"), (0, u "([BI)B"), (56, .class_ 109), (1, u "java/lang/StringLatin1"), (67, .methodref 42 178), (0, .nameAndType 45 179), (0, u "([CII)[B"), (361, .methodref 107 542), (0, .nameAndType 543 544), (0, u "equals"), (0, u "([B[B)Z"), (28, u "(Ljava/lang/Object;)Z"), (1, .class_ 576), (0, u "java/lang/CharSequence"), (22, u "CASE_INSENSITIVE_ORDER"), (0, u "Ljava/util/Comparator;"), (409, u "([C)V"), (90, u "serialPersistentFields"), (0, u "[Ljava/io/ObjectStreamField;"), (0, .class_ 1104), (0, u "java/lang/String$CaseInsensitiveComparator"), (1, .class_ 1107), (0, u "java/io/Serializable"), (0, .class_ 1109), (0, u "java/lang/Comparable"), (0, .class_ 1111), (0, u "java/lang/constant/Constable"), (0, .class_ 1113), (0, u "java/lang/constant/ConstantDesc"), (2, u "serialVersionUID"), (0, u "J"), (3, u "REPL"), (0, u "C"), (2, u "LATIN1"), (1, u "UTF16")] 323

def k7m0 : Method := { name := "<init>", desc := "()V", sig := { parameters := [], returnType := none }, accessFlags := 1, code := none }
def k7c1 : Code := { maxStack := 5, maxLocals := 2, code := jdk_42_method_3_code, exceptionTable := #[], attributes := #[] }
def k7m1 : Method := { name := "<init>", desc := "([C)V", sig := { parameters := [(.array .char)], returnType := none }, accessFlags := 1, code := some k7c1 }
def k7c2 : Code := { maxStack := 2, maxLocals := 3, code := jdk_42_method_66_code, exceptionTable := #[], attributes := #[] }
def k7m2 : Method := { name := "equals", desc := "(Ljava/lang/Object;)Z", sig := { parameters := [(.object "java/lang/Object")], returnType := some .boolean }, accessFlags := 1, code := some k7c2 }
def k7c3 : Code := { maxStack := 4, maxLocals := 6, code := jdk_42_method_149_code, exceptionTable := #[], attributes := #[] }
def k7m3 : Method := { name := "<init>", desc := "([CIILjava/lang/Void;)V", sig := { parameters := [(.array .char), .int, .int, (.object "java/lang/Void")], returnType := none }, accessFlags := 2, code := some k7c3 }
/-- java/lang/String -/
def k7 : Class := { plain "java/lang/String" (some 0) with
  accessFlags := 49
  interfaces := #[2, 3, 4, 5, 6]
  cf := some (fileOf pool7 10 #[.nestMembers #[1103]] #[{ accessFlags := 1, nameIndex := 5, descriptorIndex := 6, attributes := #[] }, { accessFlags := 1, nameIndex := 5, descriptorIndex := 1010, attributes := #[] }, { accessFlags := 1, nameIndex := 543, descriptorIndex := 573, attributes := #[] }, { accessFlags := 2, nameIndex := 5, descriptorIndex := 29, attributes := #[] }] 49 2 #[1106, 1108, 575, 1110, 1112] #[{ accessFlags := 18, nameIndex := 13, descriptorIndex := 14, attributes := #[] }, { accessFlags := 18, nameIndex := 17, descriptorIndex := 18, attributes := #[] }, { accessFlags := 2, nameIndex := 21, descriptorIndex := 22, attributes := #[] }, { accessFlags := 2, nameIndex := 25, descriptorIndex := 26, attributes := #[] }, { accessFlags := 26, nameIndex := 1116, descriptorIndex := 1117, attributes := #[] }, { accessFlags := 24, nameIndex := 40, descriptorIndex := 26, attributes := #[] }, { accessFlags := 26, nameIndex := 1101, descriptorIndex := 1102, attributes := #[] }, { accessFlags := 26, nameIndex := 1121, descriptorIndex := 1122, attributes := #[] }, { accessFlags := 25, nameIndex := 599, descriptorIndex := 600, attributes := #[] }, { accessFlags := 24, nameIndex := 1125, descriptorIndex := 18, attributes := #[] }, { accessFlags := 24, nameIndex := 1127, descriptorIndex := 18, attributes := #[] }])
  fields := #[{ name := "value", type := (.array .byte), accessFlags := 18, slot := 0, constantValue := 0 }, { name := "coder", type := .byte, accessFlags := 18, slot := 1, constantValue := 0 }, { name := "hash", type := .int, accessFlags := 2, slot := 2, constantValue := 0 }, { name := "hashIsZero", type := .boolean, accessFlags := 2, slot := 3, constantValue := 0 }, { name := "serialVersionUID", type := .long, accessFlags := 26, slot := 0, constantValue := 0 }, { name := "COMPACT_STRINGS", type := .boolean, accessFlags := 24, slot := 1, constantValue := 0 }, { name := "serialPersistentFields", type := (.array (.object "java/io/ObjectStreamField")), accessFlags := 26, slot := 2, constantValue := 0 }, { name := "REPL", type := .char, accessFlags := 26, slot := 3, constantValue := 0 }, { name := "CASE_INSENSITIVE_ORDER", type := (.object "java/util/Comparator"), accessFlags := 25, slot := 4, constantValue := 0 }, { name := "LATIN1", type := .byte, accessFlags := 24, slot := 5, constantValue := 0 }, { name := "UTF16", type := .byte, accessFlags := 24, slot := 6, constantValue := 0 }]
  methods := #[k7m0, k7m1, k7m2, k7m3]
  instanceTypes := #[(.array .byte), .byte, .int, .boolean]
  staticTypes := #[.long, .boolean, (.array (.object "java/io/ObjectStreamField")), .char, (.object "java/util/Comparator"), .byte, .byte]
  resolved := Array.replicate 1451 none
  statics := some 0 }

def pool8 : Array CpInfo := pool [(6, .class_ 8), (1, u "java/lang/Object"), (0, u "<init>"), (0, u "()V"), (1, .class_ 14), (1, u "java/lang/StringUTF16"), (31, u "$assertionsDisabled"), (0, u "Z"), (13, u "HI_BYTE_SHIFT"), (0, u "I"), (2, u "LO_BYTE_SHIFT"), (49, .methodref 12 116), (0, .nameAndType 117 118), (0, u "compress"), (0, u "([CI[BII)I"), (3, u "([CII)[B"), (138, u "coderFromArrayLen"), (0, u "([BI)B"), (106, .class_ 371), (1, u "java/lang/StringUTF16$LinesSpliterator"), (58, u "MAX_LENGTH"), (196, .class_ 628), (0, u "java/lang/StringUTF16$CodePointsSpliterator"), (0, .class_ 630), (0, u "java/lang/StringUTF16$CharsSpliterator")] 4

def k8m0 : Method := { name := "<init>", desc := "()V", sig := { parameters := [], returnType := none }, accessFlags := 0, code := none }
def k8c1 : Code := { maxStack := 2, maxLocals := 2, code := jdk_52_method_15_code, exceptionTable := #[], attributes := #[] }
def k8m1 : Method := { name := "coderFromArrayLen", desc := "([BI)B", sig := { parameters := [(.array .byte), .int], returnType := some .byte }, accessFlags := 8, code := some k8c1 }
def k8c2 : Code := { maxStack := 5, maxLocals := 6, code := jdk_52_method_16_code, exceptionTable := #[], attributes := #[] }
def k8m2 : Method := { name := "compress", desc := "([CII)[B", sig := { parameters := [(.array .char), .int, .int], returnType := some (.array .byte) }, accessFlags := 9, code := some k8c2 }
def k8c3 : Code := { maxStack := 3, maxLocals := 7, code := jdk_52_method_21_code, exceptionTable := #[], attributes := #[] }
def k8m3 : Method := { name := "compress", desc := "([CI[BII)I", sig := { parameters := [(.array .char), .int, (.array .byte), .int, .int], returnType := some .int }, accessFlags := 9, code := some k8c3 }
/-- java/lang/StringUTF16 -/
def k8 : Class := { plain "java/lang/StringUTF16" (some 0) with
  accessFlags := 48
  interfaces := #[]
  cf := some (fileOf pool8 12 #[.nestMembers #[627, 629, 369]] #[{ accessFlags := 0, nameIndex := 9, descriptorIndex := 10, attributes := #[] }, { accessFlags := 8, nameIndex := 261, descriptorIndex := 262, attributes := #[] }, { accessFlags := 9, nameIndex := 117, descriptorIndex := 122, attributes := #[] }, { accessFlags := 9, nameIndex := 117, descriptorIndex := 118, attributes := #[] }] 48 6 #[] #[{ accessFlags := 26, nameIndex := 61, descriptorIndex := 62, attributes := #[] }, { accessFlags := 26, nameIndex := 65, descriptorIndex := 62, attributes := #[] }, { accessFlags := 24, nameIndex := 430, descriptorIndex := 62, attributes := #[] }, { accessFlags := 4120, nameIndex := 46, descriptorIndex := 47, attributes := #[] }])
  fields := #[{ name := "HI_BYTE_SHIFT", type := .int, accessFlags := 26, slot := 0, constantValue := 0 }, { name := "LO_BYTE_SHIFT", type := .int, accessFlags := 26, slot := 1, constantValue := 0 }, { name := "MAX_LENGTH", type := .int, accessFlags := 24, slot := 2, constantValue := 0 }, { name := "$assertionsDisabled", type := .boolean, accessFlags := 4120, slot := 3, constantValue := 0 }]
  methods := #[k8m0, k8m1, k8m2, k8m3]
  instanceTypes := #[]
  staticTypes := #[.int, .int, .int, .boolean]
  resolved := Array.replicate 635 none
  statics := none }

def pool9 : Array CpInfo := pool [(1, .class_ 2), (0, u "com/example/laminate/laminate/core/DefaultRegistry"), (1, .class_ 6), (1, u "java/lang/Object"), (0, u "<init>"), (0, u "()V"), (2, .methodref 12 13), (0, .class_ 14), (0, .nameAndType 15 16), (0, u "java/lang/String"), (0, u "equals"), (0, u "(Ljava/lang/Object;)Z"), (0, .string 18), (0, u "docker.io"), (2, .string 22), (0, u "https://index.docker.io/v1/"), (0, u "NAME"), (0, u "Ljava/lang/String;"), (1, u "OTHER_NAME"), (0, u "API_HOST"), (0, u "CREDENTIALS_KEY"), (3, u "(Ljava/lang/String;)Ljava/lang/String;"), (2, u "credentialsKey")] 2

def k9m0 : Method := { name := "<init>", desc := "()V", sig := { parameters := [], returnType := none }, accessFlags := 2, code := none }
def k9c1 : Code := { maxStack := 2, maxLocals := 1, code := prog_8_method_4_code, exceptionTable := #[], attributes := #[] }
def k9m1 : Method := { name := "credentialsKey", desc := "(Ljava/lang/String;)Ljava/lang/String;", sig := { parameters := [(.object "java/lang/String")], returnType := some (.object "java/lang/String") }, accessFlags := 8, code := some k9c1 }
/-- com/example/laminate/laminate/core/DefaultRegistry -/
def k9 : Class := { plain "com/example/laminate/laminate/core/DefaultRegistry" (some 0) with
  accessFlags := 48
  interfaces := #[]
  cf := some (fileOf pool9 1 #[] #[{ accessFlags := 2, nameIndex := 7, descriptorIndex := 8, attributes := #[] }, { accessFlags := 8, nameIndex := 35, descriptorIndex := 32, attributes := #[] }] 48 4 #[] #[{ accessFlags := 24, nameIndex := 23, descriptorIndex := 24, attributes := #[] }, { accessFlags := 26, nameIndex := 26, descriptorIndex := 24, attributes := #[] }, { accessFlags := 26, nameIndex := 27, descriptorIndex := 24, attributes := #[] }, { accessFlags := 26, nameIndex := 28, descriptorIndex := 24, attributes := #[] }])
  fields := #[{ name := "NAME", type := (.object "java/lang/String"), accessFlags := 24, slot := 0, constantValue := 0 }, { name := "OTHER_NAME", type := (.object "java/lang/String"), accessFlags := 26, slot := 1, constantValue := 0 }, { name := "API_HOST", type := (.object "java/lang/String"), accessFlags := 26, slot := 2, constantValue := 0 }, { name := "CREDENTIALS_KEY", type := (.object "java/lang/String"), accessFlags := 26, slot := 3, constantValue := 0 }]
  methods := #[k9m0, k9m1]
  instanceTypes := #[]
  staticTypes := #[(.object "java/lang/String"), (.object "java/lang/String"), (.object "java/lang/String"), (.object "java/lang/String")]
  resolved := Array.replicate 38 none
  statics := none }

def pool10 : Array CpInfo := pool [(4, .class_ 6), (1, u "java/lang/Object"), (0, u "<init>"), (0, u "()V"), (5, .class_ 16), (1, u "java/lang/StringLatin1"), (104, u "$assertionsDisabled"), (0, u "Z"), (98, .class_ 223), (1, u "java/lang/StringLatin1$LinesSpliterator"), (57, u "equals"), (0, u "([B[B)Z"), (107, .class_ 391), (0, u "java/lang/StringLatin1$CharsSpliterator")] 3

def k10m0 : Method := { name := "<init>", desc := "()V", sig := { parameters := [], returnType := none }, accessFlags := 0, code := none }
def k10c1 : Code := { maxStack := 3, maxLocals := 3, code := jdk_43_method_13_code, exceptionTable := #[], attributes := #[] }
def k10m1 : Method := { name := "equals", desc := "([B[B)Z", sig := { parameters := [(.array .byte), (.array .byte)], returnType := some .boolean }, accessFlags := 9, code := some k10c1 }
/-- java/lang/StringLatin1 -/
def k10 : Class := { plain "java/lang/StringLatin1" (some 0) with
  accessFlags := 48
  interfaces := #[]
  cf := some (fileOf pool10 14 #[.nestMembers #[390, 221]] #[{ accessFlags := 0, nameIndex := 7, descriptorIndex := 8, attributes := #[] }, { accessFlags := 9, nameIndex := 281, descriptorIndex := 282, attributes := #[] }] 48 4 #[] #[{ accessFlags := 4120, nameIndex := 121, descriptorIndex := 122, attributes := #[] }])
  fields := #[{ name := "$assertionsDisabled", type := .boolean, accessFlags := 4120, slot := 0, constantValue := 0 }]
  methods := #[k10m0, k10m1]
  instanceTypes := #[]
  staticTypes := #[.boolean]
  resolved := Array.replicate 395 none
  statics := none }

def pool11 : Array CpInfo := pool [(2, .class_ 4), (1, u "java/lang/Object"), (0, u "<init>"), (0, u "()V"), (17, .class_ 26), (1, u "jdk/internal/util/Preconditions"), (28, .class_ 56), (0, u "jdk/internal/util/Preconditions$4"), (57, .class_ 115), (0, u "jdk/internal/util/Preconditions$1"), (7, u "SIOOBE_FORMATTER"), (0, u "Ljava/util/function/BiFunction;"), (0, .class_ 126), (0, u "jdk/internal/util/Preconditions$2"), (3, u "AIOOBE_FORMATTER"), (0, .class_ 132), (0, u "jdk/internal/util/Preconditions$3"), (3, u "IOOBE_FORMATTER")] 57

def k11m0 : Method := { name := "<init>", desc := "()V", sig := { parameters := [], returnType := none }, accessFlags := 1, code := none }
/-- jdk/internal/util/Preconditions -/
def k11 : Class := { plain "jdk/internal/util/Preconditions" (some 0) with
  accessFlags := 33
  interfaces := #[]
  cf := some (fileOf pool11 24 #[.nestMembers #[55, 131, 125, 114]] #[{ accessFlags := 1, nameIndex := 5, descriptorIndex := 6, attributes := #[] }] 33 2 #[] #[{ accessFlags := 25, nameIndex := 123, descriptorIndex := 124, attributes := #[] }, { accessFlags := 25, nameIndex := 130, descriptorIndex := 124, attributes := #[] }, { accessFlags := 25, nameIndex := 136, descriptorIndex := 124, attributes := #[] }])
  fields := #[{ name := "SIOOBE_FORMATTER", type := (.object "java/util/function/BiFunction"), accessFlags := 25, slot := 0, constantValue := 0 }, { name := "AIOOBE_FORMATTER", type := (.object "java/util/function/BiFunction"), accessFlags := 25, slot := 1, constantValue := 0 }, { name := "IOOBE_FORMATTER", type := (.object "java/util/function/BiFunction"), accessFlags := 25, slot := 2, constantValue := 0 }]
  methods := #[k11m0]
  instanceTypes := #[]
  staticTypes := #[(.object "java/util/function/BiFunction"), (.object "java/util/function/BiFunction"), (.object "java/util/function/BiFunction")]
  resolved := Array.replicate 194 none
  statics := some 1 }

def pool12 : Array CpInfo := pool [(9, u "<init>"), (6, .class_ 18), (1, u "java/lang/Object"), (0, u "()V"), (1, .class_ 23), (1, u "jdk/internal/util/ArraysSupport"), (0, u "LOG2_ARRAY_LONG_INDEX_SCALE"), (0, u "I"), (2, u "U"), (0, u "Ljdk/internal/misc/Unsafe;"), (8, u "BIG_ENDIAN"), (0, u "Z"), (8, u "LOG2_BYTE_BIT_SIZE"), (4, u "LOG2_ARRAY_INT_INDEX_SCALE"), (54, u "JLA"), (0, u "Ljdk/internal/access/JavaLangAccess;"), (11, u "LOG2_ARRAY_BOOLEAN_INDEX_SCALE"), (9, u "LOG2_ARRAY_BYTE_INDEX_SCALE"), (5, u "LOG2_ARRAY_CHAR_INDEX_SCALE"), (5, u "LOG2_ARRAY_SHORT_INDEX_SCALE"), (18, u "LOG2_ARRAY_FLOAT_INDEX_SCALE"), (24, u "LOG2_ARRAY_DOUBLE_INDEX_SCALE"), (89, u "T_BOOLEAN"), (2, u "T_CHAR"), (1, u "T_FLOAT"), (1, u "T_DOUBLE"), (1, u "T_BYTE"), (1, u "T_SHORT"), (1, u "T_INT"), (1, u "T_LONG"), (1, u "SOFT_MAX_ARRAY_LENGTH")] 83

def k12m0 : Method := { name := "<init>", desc := "()V", sig := { parameters := [], returnType := none }, accessFlags := 2, code := none }
/-- jdk/internal/util/ArraysSupport -/
def k12 : Class := { plain "jdk/internal/util/ArraysSupport" (some 0) with
  accessFlags := 33
  interfaces := #[]
  cf := some (fileOf pool12 21 #[] #[{ accessFlags := 2, nameIndex := 9, descriptorIndex := 19, attributes := #[] }] 33 16 #[] #[{ accessFlags := 24, nameIndex := 28, descriptorIndex := 29, attributes := #[] }, { accessFlags := 26, nameIndex := 38, descriptorIndex := 39, attributes := #[] }, { accessFlags := 25, nameIndex := 121, descriptorIndex := 25, attributes := #[] }, { accessFlags := 25, nameIndex := 131, descriptorIndex := 25, attributes := #[] }, { accessFlags := 25, nameIndex := 137, descriptorIndex := 25, attributes := #[] }, { accessFlags := 25, nameIndex := 143, descriptorIndex := 25, attributes := #[] }, { accessFlags := 25, nameIndex := 53, descriptorIndex := 25, attributes := #[] }, { accessFlags := 25, nameIndex := 24, descriptorIndex := 25, attributes := #[] }, { accessFlags := 25, nameIndex := 162, descriptorIndex := 25, attributes := #[] }, { accessFlags := 25, nameIndex := 187, descriptorIndex := 25, attributes := #[] }, { accessFlags := 26, nameIndex := 48, descriptorIndex := 25, attributes := #[] }, { accessFlags := 25, nameIndex := 277, descriptorIndex := 25, attributes := #[] }, { accessFlags := 25, nameIndex := 280, descriptorIndex := 25, attributes := #[] }, { accessFlags := 25, nameIndex := 282, descriptorIndex := 25, attributes := #[] }, { accessFlags := 25, nameIndex := 284, descriptorIndex := 25, attributes := #[] }, { accessFlags := 25, nameIndex := 286, descriptorIndex := 25, attributes := #[] }, { accessFlags := 25, nameIndex := 288, descriptorIndex := 25, attributes := #[] }, { accessFlags := 25, nameIndex := 290, descriptorIndex := 25, attributes := #[] }, { accessFlags := 25, nameIndex := 292, descriptorIndex := 25, attributes := #[] }, { accessFlags := 26, nameIndex := 108, descriptorIndex := 109, attributes := #[] }, { accessFlags := 25, nameIndex := 294, descriptorIndex := 25, attributes := #[] }])
  fields := #[{ name := "U", type := (.object "jdk/internal/misc/Unsafe"), accessFlags := 24, slot := 0, constantValue := 0 }, { name := "BIG_ENDIAN", type := .boolean, accessFlags := 26, slot := 1, constantValue := 0 }, { name := "LOG2_ARRAY_BOOLEAN_INDEX_SCALE", type := .int, accessFlags := 25, slot := 2, constantValue := 0 }, { name := "LOG2_ARRAY_BYTE_INDEX_SCALE", type := .int, accessFlags := 25, slot := 3, constantValue := 0 }, { name := "LOG2_ARRAY_CHAR_INDEX_SCALE", type := .int, accessFlags := 25, slot := 4, constantValue := 0 }, { name := "LOG2_ARRAY_SHORT_INDEX_SCALE", type := .int, accessFlags := 25, slot := 5, constantValue := 0 }, { name := "LOG2_ARRAY_INT_INDEX_SCALE", type := .int, accessFlags := 25, slot := 6, constantValue := 0 }, { name := "LOG2_ARRAY_LONG_INDEX_SCALE", type := .int, accessFlags := 25, slot := 7, constantValue := 0 }, { name := "LOG2_ARRAY_FLOAT_INDEX_SCALE", type := .int, accessFlags := 25, slot := 8, constantValue := 0 }, { name := "LOG2_ARRAY_DOUBLE_INDEX_SCALE", type := .int, accessFlags := 25, slot := 9, constantValue := 0 }, { name := "LOG2_BYTE_BIT_SIZE", type := .int, accessFlags := 26, slot := 10, constantValue := 0 }, { name := "T_BOOLEAN", type := .int, accessFlags := 25, slot := 11, constantValue := 0 }, { name := "T_CHAR", type := .int, accessFlags := 25, slot := 12, constantValue := 0 }, { name := "T_FLOAT", type := .int, accessFlags := 25, slot := 13, constantValue := 0 }, { name := "T_DOUBLE", type := .int, accessFlags := 25, slot := 14, constantValue := 0 }, { name := "T_BYTE", type := .int, accessFlags := 25, slot := 15, constantValue := 0 }, { name := "T_SHORT", type := .int, accessFlags := 25, slot := 16, constantValue := 0 }, { name := "T_INT", type := .int, accessFlags := 25, slot := 17, constantValue := 0 }, { name := "T_LONG", type := .int, accessFlags := 25, slot := 18, constantValue := 0 }, { name := "JLA", type := (.object "jdk/internal/access/JavaLangAccess"), accessFlags := 26, slot := 19, constantValue := 0 }, { name := "SOFT_MAX_ARRAY_LENGTH", type := .int, accessFlags := 25, slot := 20, constantValue := 0 }]
  methods := #[k12m0]
  instanceTypes := #[]
  staticTypes := #[(.object "jdk/internal/misc/Unsafe"), .boolean, .int, .int, .int, .int, .int, .int, .int, .int, .int, .int, .int, .int, .int, .int, .int, .int, .int, (.object "jdk/internal/access/JavaLangAccess"), .int]
  resolved := Array.replicate 378 none
  statics := none }

def pool13 : Array CpInfo := pool [(1, u "java/lang/Cloneable"), (0, .class_ 1), (0, u "java/lang/Object"), (0, .class_ 3)] 3

/-- java/lang/Cloneable -/
def k13 : Class := { plain "java/lang/Cloneable" (some 0) with
  accessFlags := 1537
  interfaces := #[]
  cf := some (fileOf pool13 2 #[] #[] 1537 4 #[] #[])
  fields := #[]
  methods := #[]
  instanceTypes := #[]
  staticTypes := #[]
  resolved := Array.replicate 8 none
  statics := none }

/-- the primitive byte -/
def k14 : Class := { plain "byte" none with kind := .primitive 'B', accessFlags := 0x411 }
/-- [B -/
def k15 : Class := { plain "[B" (some 0) with kind := .array 14 .byte, interfaces := #[13, 2], accessFlags := 1041 }

/-- the primitive char -/
def k16 : Class := { plain "char" none with kind := .primitive 'C', accessFlags := 0x411 }
/-- [C -/
def k17 : Class := { plain "[C" (some 0) with kind := .array 16 .char, interfaces := #[13, 2], accessFlags := 1041 }

/-- the primitive int -/
def k18 : Class := { plain "int" none with kind := .primitive 'I', accessFlags := 0x411 }
/-- [I -/
def k19 : Class := { plain "[I" (some 0) with kind := .array 18 .int, interfaces := #[13, 2], accessFlags := 1041 }

def heap : Heap := #[{ cls := 7, slots := #[.long 0, .int 1, .null, .int 0, .null, .int 0, .int 0], vm := .statics 7 },
  { cls := 11, slots := #[.null, .null, .null], vm := .statics 11 }]
def classes : Array Class := #[k0, k1, k2, k3, k4, k5, k6, k7, k8, k9, k10, k11, k12, k13, k14, k15, k16, k17, k18, k19]
def interned : List (Array UInt16 × Addr) := []
def slotsUsed : Nat := 10
def theMethod : MethodId := ⟨1, 1⟩
def args0 : Array Value := #[.int 1, .int 1, .int 1, .int 1, .int 1]
def aboutOver (below : List Frame) : State where
  vm := { classes := classes, interned := interned.toArray }
  heap := heap
  slotsUsed := slotsUsed
  threads := #[{ frames := .invoking theMethod args0 :: below }]
def below0 : List Frame := [.native { method := ⟨0, 0⟩, args := #[] }]
def about1 : State := aboutOver below0
def p0 : Program := .bare "" "" ""
def e0 : Env := launch0.env 0 0 0
theorem w_frames : about1.frames = Frame.invoking theMethod args0 :: below0 := rfl
set_option maxRecDepth 65536 in
theorem w_args : argsFit about1.vm theMethod args0 = true := by decide +kernel
set_option maxRecDepth 65536 in
theorem w_heap : heapFits about1 = true := by decide +kernel
set_option maxRecDepth 65536 in
theorem w_runnable : about1.curStatus? = some .runnable := by decide +kernel
set_option maxRecDepth 65536 in
theorem w_alone : about1.alone = true := by decide +kernel
set_option maxRecDepth 65536 in
theorem w_named : about1.methodNamed? x = some theMethod := by decide +kernel
set_option maxRecDepth 65536 in
theorem w_hears : about1.hears theMethod below0 = true := by decide +kernel
set_option maxRecDepth 65536 in
theorem w_ripe : about1.ripe theMethod args0 below0 = true := by decide +kernel
theorem w_running : about1.status = .running := rfl
set_option maxRecDepth 65536 in
theorem w_room : about1.hasRoom e0.platform room_1 = true :=
  launch0.hasRoom_least _ room_1 (by decide +kernel) (by decide +kernel) (by decide +kernel) (by decide +kernel) (by decide +kernel) (by decide +kernel)
theorem allAtoms_all (ts : List Jvm.Cond) (a : Array Jvm.Value) (st : Jvm.State) : (allAtoms ts).before a st = ts.all (fun c => c.before a st) := by
  induction ts with
  | nil => rfl
  | cons c t ih =>
    show (Jvm.Cond.and c (allAtoms t)).before a st = _
    rw [Jvm.Cond.before_and, ih, List.all_cons]
def words1 : List Jvm.Cond := Jvm.Cond.code x code maxLocals ret :: tables_1
/-- a 'code' word, met by the world's own term for the bytes: nothing is compared byte by byte -/
theorem code_word {y : MethodName} {bytes : ByteArray} {mx : Nat} {rt : Option FieldType} {a : Array Value} {s : State} {m : MethodId} {meth : Method} {c : Code} (h1 : s.methodNamed? y = some m) (h2 : s.vm.method? m = some meth) (h3 : meth.code = some c) (h4 : c.code = bytes)
    (h5 : (c.maxLocals == mx && c.exceptionTable.isEmpty && decide (c.maxStack ≤ mostOperands) && decide (meth.sig.returnType = rt) && !meth.locks && decide (parseMethodDescriptor y.desc = some meth.sig)) = true) : (Jvm.Cond.code y bytes mx rt).before a s = true := by
  simp only [Bool.and_eq_true, beq_iff_eq, Bool.not_eq_true', decide_eq_true_eq] at h5
  obtain ⟨⟨⟨⟨⟨g1, g2⟩, g3⟩, g4⟩, g5⟩, g6⟩ := h5
  simp [Cond.before, Cond.holds, Cond.value, h1, h2, h3, h4, g1, g2, g3, g4, g5, g6]
def isCode : Jvm.Cond → Bool
  | .code _ _ _ _ => true
  | _ => false
theorem all_split {L : List Jvm.Cond} {P : Jvm.Cond → Bool} (h1 : L.all (fun c => isCode c || P c) = true) (h2 : ∀ c ∈ L.filter isCode, P c = true) : L.all P = true := by
  refine List.all_eq_true.mpr fun c hc => ?_
  have h := List.all_eq_true.mp h1 c hc
  rcases Bool.eq_false_or_eq_true (isCode c) with hi | hi
  · exact h2 c (List.mem_filter.mpr ⟨hc, hi⟩)
  · simpa [hi] using h
set_option maxRecDepth 65536 in
theorem w_c0 : (Jvm.Cond.code x code maxLocals ret).before args0 about1 = true := code_word (m := ⟨1, 1⟩) (meth := k1m1) (c := k1c1) (by decide +kernel) rfl rfl rfl (by decide +kernel)
set_option maxRecDepth 65536 in
theorem w_c1 : (Jvm.Cond.code ({ cls := "java/lang/String", name := "<init>", desc := "([C)V" } : Jvm.MethodName) jdk_42_method_3_code (2 : Nat) (Option.none : Option Jvm.ClassFile.FieldType)).before args0 about1 = true := code_word (m := ⟨7, 1⟩) (meth := k7m1) (c := k7c1) (by decide +kernel) rfl rfl rfl (by decide +kernel)
set_option maxRecDepth 65536 in
theorem w_c2 : (Jvm.Cond.code ({ cls := "java/lang/String", name := "<init>", desc := "([CIILjava/lang/Void;)V" } : Jvm.MethodName) jdk_42_method_149_code (6 : Nat) (Option.none : Option Jvm.ClassFile.FieldType)).before args0 about1 = true := code_word (m := ⟨7, 3⟩) (meth := k7m3) (c := k7c3) (by decide +kernel) rfl rfl rfl (by decide +kernel)
set_option maxRecDepth 65536 in
theorem w_c3 : (Jvm.Cond.code ({ cls := "java/lang/Object", name := "<init>", desc := "()V" } : Jvm.MethodName) object_method_1_code (1 : Nat) (Option.none : Option Jvm.ClassFile.FieldType)).before args0 about1 = true := code_word (m := ⟨0, 0⟩) (meth := k0m0) (c := k0c0) (by decide +kernel) rfl rfl rfl (by decide +kernel)
set_option maxRecDepth 65536 in
theorem w_c4 : (Jvm.Cond.code ({ cls := "java/lang/StringUTF16", name := "compress", desc := "([CII)[B" } : Jvm.MethodName) jdk_52_method_16_code (6 : Nat) (Option.some (Jvm.ClassFile.FieldType.array Jvm.ClassFile.FieldType.byte))).before args0 about1 = true := code_word (m := ⟨8, 2⟩) (meth := k8m2) (c := k8c2) (by decide +kernel) rfl rfl rfl (by decide +kernel)
set_option maxRecDepth 65536 in
theorem w_c5 : (Jvm.Cond.code ({ cls := "java/lang/StringUTF16", name := "compress", desc := "([CI[BII)I" } : Jvm.MethodName) jdk_52_method_21_code (7 : Nat) (Option.some Jvm.ClassFile.FieldType.int)).before args0 about1 = true := code_word (m := ⟨8, 3⟩) (meth := k8m3) (c := k8c3) (by decide +kernel) rfl rfl rfl (by decide +kernel)
set_option maxRecDepth 65536 in
theorem w_c6 : (Jvm.Cond.code ({ cls := "java/lang/StringUTF16", name := "coderFromArrayLen", desc := "([BI)B" } : Jvm.MethodName) jdk_52_method_15_code (2 : Nat) (Option.some Jvm.ClassFile.FieldType.byte)).before args0 about1 = true := code_word (m := ⟨8, 1⟩) (meth := k8m1) (c := k8c1) (by decide +kernel) rfl rfl rfl (by decide +kernel)
set_option maxRecDepth 65536 in
theorem w_c7 : (Jvm.Cond.code ({ cls := "com/example/laminate/laminate/core/DefaultRegistry", name := "credentialsKey", desc := "(Ljava/lang/String;)Ljava/lang/String;" } : Jvm.MethodName) prog_8_method_4_code (1 : Nat) (Option.some (Jvm.ClassFile.FieldType.object "java/lang/String"))).before args0 about1 = true := code_word (m := ⟨9, 1⟩) (meth := k9m1) (c := k9c1) (by decide +kernel) rfl rfl rfl (by decide +kernel)
set_option maxRecDepth 65536 in
theorem w_c8 : (Jvm.Cond.code ({ cls := "java/lang/String", name := "equals", desc := "(Ljava/lang/Object;)Z" } : Jvm.MethodName) jdk_42_method_66_code (3 : Nat) (Option.some Jvm.ClassFile.FieldType.boolean)).before args0 about1 = true := code_word (m := ⟨7, 2⟩) (meth := k7m2) (c := k7c2) (by decide +kernel) rfl rfl rfl (by decide +kernel)
set_option maxRecDepth 65536 in
theorem w_c9 : (Jvm.Cond.code ({ cls := "java/lang/StringLatin1", name := "equals", desc := "([B[B)Z" } : Jvm.MethodName) jdk_43_method_13_code (3 : Nat) (Option.some Jvm.ClassFile.FieldType.boolean)).before args0 about1 = true := code_word (m := ⟨10, 1⟩) (meth := k10m1) (c := k10c1) (by decide +kernel) rfl rfl rfl (by decide +kernel)
def codes1 : List Jvm.Cond := [Jvm.Cond.code x code maxLocals ret, Jvm.Cond.code ({ cls := "java/lang/String", name := "<init>", desc := "([C)V" } : Jvm.MethodName) jdk_42_method_3_code (2 : Nat) (Option.none : Option Jvm.ClassFile.FieldType), Jvm.Cond.code ({ cls := "java/lang/String", name := "<init>", desc := "([CIILjava/lang/Void;)V" } : Jvm.MethodName) jdk_42_method_149_code (6 : Nat) (Option.none : Option Jvm.ClassFile.FieldType), Jvm.Cond.code ({ cls := "java/lang/Object", name := "<init>", desc := "()V" } : Jvm.MethodName) object_method_1_code (1 : Nat) (Option.none : Option Jvm.ClassFile.FieldType), Jvm.Cond.code ({ cls := "java/lang/StringUTF16", name := "compress", desc := "([CII)[B" } : Jvm.MethodName) jdk_52_method_16_code (6 : Nat) (Option.some (Jvm.ClassFile.FieldType.array Jvm.ClassFile.FieldType.byte)), Jvm.Cond.code ({ cls := "java/lang/StringUTF16", name := "compress", desc := "([CI[BII)I" } : Jvm.MethodName) jdk_52_method_21_code (7 : Nat) (Option.some Jvm.ClassFile.FieldType.int), Jvm.Cond.code ({ cls := "java/lang/StringUTF16", name := "coderFromArrayLen", desc := "([BI)B" } : Jvm.MethodName) jdk_52_method_15_code (2 : Nat) (Option.some Jvm.ClassFile.FieldType.byte), Jvm.Cond.code ({ cls := "com/example/laminate/laminate/core/DefaultRegistry", name := "credentialsKey", desc := "(Ljava/lang/String;)Ljava/lang/String;" } : Jvm.MethodName) prog_8_method_4_code (1 : Nat) (Option.some (Jvm.ClassFile.FieldType.object "java/lang/String")), Jvm.Cond.code ({ cls := "java/lang/String", name := "equals", desc := "(Ljava/lang/Object;)Z" } : Jvm.MethodName) jdk_42_method_66_code (3 : Nat) (Option.some Jvm.ClassFile.FieldType.boolean), Jvm.Cond.code ({ cls := "java/lang/StringLatin1", name := "equals", desc := "([B[B)Z" } : Jvm.MethodName) jdk_43_method_13_code (3 : Nat) (Option.some Jvm.ClassFile.FieldType.boolean)]
set_option maxRecDepth 65536 in
theorem codes_eq : words1.filter isCode = codes1 := rfl
theorem w_codes : ∀ c ∈ words1.filter isCode, c.before args0 about1 = true := by
  rw [codes_eq]
  intro c hc
  simp only [codes1, List.mem_cons, List.not_mem_nil, or_false] at hc
  rcases hc with rfl | rfl | rfl | rfl | rfl | rfl | rfl | rfl | rfl | rfl
  · exact w_c0
  · exact w_c1
  · exact w_c2
  · exact w_c3
  · exact w_c4
  · exact w_c5
  · exact w_c6
  · exact w_c7
  · exact w_c8
  · exact w_c9
set_option maxRecDepth 65536 in
theorem w_t1 : (words1.take 24).all (fun c => isCode c || c.before args0 about1) = true := by decide +kernel
set_option maxRecDepth 65536 in
theorem w_t2 : ((words1.drop 24).take 24).all (fun c => isCode c || c.before args0 about1) = true := by decide +kernel
set_option maxRecDepth 65536 in
theorem w_t3 : ((words1.drop 24).drop 24).all (fun c => isCode c || c.before args0 about1) = true := by decide +kernel
theorem w_tables : (allAtoms (Jvm.Cond.code x code maxLocals ret :: tables_1)).before args0 about1 = true := by
  rw [allAtoms_all]
  show words1.all (fun c => c.before args0 about1) = true
  refine all_split ?_ w_codes
  rw [← List.take_append_drop 24 words1, List.all_append, w_t1, ← List.take_append_drop 24 (words1.drop 24), List.all_append, w_t2, w_t3]
  rfl
set_option maxRecDepth 65536 in
theorem w_rest : rest_1_c.before args0 about1 = true := by decide +kernel
set_option maxRecDepth 65536 in
theorem w_case : (Jvm.Cond.and given_1 narrow_1).before args0 about1 = true := by decide +kernel
set_option maxRecDepth 65536 in
theorem w_consts : constsHeld consts_1 about1 := Jvm.Lit.constsHeldB_iff.mp (by decide +kernel)
theorem w_applies : (headSpec (Jvm.Cond.code x code maxLocals ret :: tables_1) room_1).applies x e0.platform about1 = true :=
  (Spec.applies_iff w_frames).mpr ⟨w_running, w_runnable, w_alone, w_named, w_hears, w_ripe, w_room, w_tables⟩
theorem atStart : AtStart classFile x code maxLocals ret World_1 tables_1 room_1 Calls_1 rest_1 Pre_1 launch0 p0 e0 about1 theMethod args0 below0 :=
  ⟨lists_1, trivial, launch0.admits_env _ _ _, launch0.least_env, fairChoices_fair.cas, fairChoices_fair.clock, w_frames, w_args, w_heap, w_applies, ⟨w_consts, trivial⟩, w_rest, w_case⟩
end start1
theorem witness_1 : WitnessClaimed_1 := ⟨start1.p0, start1.e0, start1.about1, start1.theMethod, start1.args0, start1.below0, start1.atStart⟩
end Jvm.Pilot.@@N@@
