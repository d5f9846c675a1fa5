import JvmDerived
import JvmDerived.Pilot.@@N@@Statement
import JvmDerived.Pilot.@@N@@Code
set_option linter.unusedVariables false
set_option linter.unusedSimpArgs false
/- laws to paste: Road.backV, Road.eqW, Road.codOf (cut by pick.py; bodies as the Statement names them) -/
namespace Jvm.Pilot.@@N@@
namespace StrChars
open Jvm Sem ClassFile Op Lib Jvm.Stand Jvm.Free.XT Jvm.Free.ALB Jvm.Free.JM Jvm.Free
open Jvm.Lib.Cold (StaticIs)
/-- a char array whose places are chars -/
def Ch (a : Addr) (A : Cell) (U : State) : Prop := Arr .char a A U ∧ Typed .char A
theorem Ch.mv {a : Addr} {A : Cell} {U U' : State} (h : Ch a A U) (hal : U.vm.Alike U'.vm) (hh : U'.heap = U.heap) : Ch a A U' := ⟨h.1.mv hal hh, h.2⟩
theorem Ch.keep {a : Addr} {A : Cell} {U U' : State} (h : Ch a A U) (hal : U.vm.Alike U'.vm) (hk : U'.heap[a]? = some A) : Ch a A U' := ⟨h.1.keep hal hk, h.2⟩
/-- what place i of a char[]'s cell holds -/
def cv (A : Cell) (i : Nat) : Int32 := match A.slots[i]? with | some (.int x) => x | _ => 0
theorem Ch.get {a : Addr} {A : Cell} {U : State} (h : Ch a A U) {i : Nat} (hi : i < A.slots.size) : A.slots[i]? = some (.int (cv A i)) := by
  have e := Array.getElem?_eq_getElem hi
  have f := h.2 i _ e
  unfold cv; rw [e]
  generalize A.slots[i] = v at f
  cases v <;> simp [fits] at f ⊢
/-- the byte that i2b leaves of a char -/
def lo8 (x : Int32) : Int32 := x.toInt8.toInt32
theorem fits_lo8 (y : Int32) : fits .byte (.int (lo8 y)) = true := by
  have h1 := y.toInt8.le_toInt
  have h2 := y.toInt8.toInt_lt
  simp only [lo8, fits, Bool.and_eq_true, decide_eq_true_eq, Int32.le_iff_toInt_le, Int8.toInt_toInt32, show (-128 : Int32).toInt = -128 from by decide, show (127 : Int32).toInt = 127 from by decide]
  omega
/-- A' is A but that each place j of lo .. hi - 1 holds f j -/
def Laid (A A' : Cell) (lo hi : Nat) (f : Nat → Value) : Prop := A'.cls = A.cls ∧ A'.vm = A.vm ∧ A'.slots.size = A.slots.size ∧ ∀ i, A'.slots[i]? = if lo ≤ i ∧ i < hi then some (f i) else A.slots[i]?
theorem Laid.zero (A : Cell) (lo : Nat) (f : Nat → Value) : Laid A A lo (lo + 0) f := ⟨rfl, rfl, rfl, fun i => by rw [if_neg (by omega)]⟩
theorem Laid.step {A Ak : Cell} {lo k : Nat} {f : Nat → Value} {v : Value} (h : Laid A Ak lo k f) (hlo : lo ≤ k) (hk : k < Ak.slots.size) (hv : v = f k) : Laid A (Ak.setSlot k v) lo (k + 1) f := by
  refine ⟨h.1, h.2.1, by simpa [Cell.setSlot] using h.2.2.1, fun i => ?_⟩
  by_cases e : k = i
  · subst e; rw [Cell.slots_setSlot_self v hk, if_pos (by omega), hv]
  · rw [Cell.slots_setSlot_ne v e, h.2.2.2 i]
    by_cases q : lo ≤ i ∧ i < k
    · rw [if_pos q, if_pos (by omega)]
    · rw [if_neg q, if_neg (by omega)]
def U16 : String := "java/lang/StringUTF16"
namespace Cmp5
def yN : MethodName := ⟨"java/lang/StringUTF16", "compress", "([CI[BII)I"⟩
abbrev yB : ByteArray := jdk_52_method_21_code
theorem d0 : decode yB 0 = .ok (.iconst 0, 1) := by decide +kernel
theorem d1 : decode yB 1 = .ok (.istore 5, 2) := by decide +kernel
theorem d3 : decode yB 3 = .ok (.iload 5, 2) := by decide +kernel
theorem d5 : decode yB 5 = .ok (.iload 4, 2) := by decide +kernel
theorem d7 : decode yB 7 = .ok (.if_icmp (.ge) 37, 3) := by decide +kernel
theorem d10 : decode yB 10 = .ok (.aload_n 0, 1) := by decide +kernel
theorem d11 : decode yB 11 = .ok (.iload_n 1, 1) := by decide +kernel
theorem d12 : decode yB 12 = .ok (.caload, 1) := by decide +kernel
theorem d13 : decode yB 13 = .ok (.istore 6, 2) := by decide +kernel
theorem d15 : decode yB 15 = .ok (.iload 6, 2) := by decide +kernel
theorem d17 : decode yB 17 = .ok (.sipush 255, 3) := by decide +kernel
theorem d20 : decode yB 20 = .ok (.if_icmp (.le) 6, 3) := by decide +kernel
theorem d26 : decode yB 26 = .ok (.aload_n 2, 1) := by decide +kernel
theorem d27 : decode yB 27 = .ok (.iload_n 3, 1) := by decide +kernel
theorem d28 : decode yB 28 = .ok (.iload 6, 2) := by decide +kernel
theorem d30 : decode yB 30 = .ok (.i2b, 1) := by decide +kernel
theorem d31 : decode yB 31 = .ok (.bastore, 1) := by decide +kernel
theorem d32 : decode yB 32 = .ok (.iinc 1 1, 3) := by decide +kernel
theorem d35 : decode yB 35 = .ok (.iinc 3 1, 3) := by decide +kernel
theorem d38 : decode yB 38 = .ok (.iinc 5 1, 3) := by decide +kernel
theorem d41 : decode yB 41 = .ok (.goto (-38), 3) := by decide +kernel
theorem d44 : decode yB 44 = .ok (.iload 4, 2) := by decide +kernel
theorem d46 : decode yB 46 = .ok (.ireturn, 1) := by decide +kernel
def site : List Cond := []
def tab : Cond := tabOf yN yB 7 (some .int) site
def P (b : Addr) (A : Cell) (d : Addr) (B : Cell) (o q len : Nat) (args : Array Value) (s : State) : Prop := args = #[.ref b, .int (Int32.ofNat o), .ref d, .int (Int32.ofNat q), .int (Int32.ofNat len)] ∧ Ch b A s ∧ Arr .byte d B s ∧ b ≠ d ∧ o + len ≤ A.slots.size ∧ q + len ≤ B.slots.size ∧ ∀ i, i < len → ¬ 255 < cv A (o + i)
def E (b : Addr) (A : Cell) (d : Addr) (B : Cell) (o q len : Nat) (r : Option Value) (s u : State) : Prop := r = some (.int (Int32.ofNat len)) ∧ ∃ B', Put d B' s u ∧ Laid B B' q (q + len) (fun j => Value.int (lo8 (cv A (o + (j - q)))))
/-- no char of the range above 255: len; the places written hold each char's low byte -/
theorem law (l : Launch) (b : Addr) (A : Cell) (d : Addr) (B : Cell) (o q len : Nat) : Law l yN 5 5 0 0 yB 7 (some .int) site (P b A d B o q len) (E b A d B o q len) (copyLocs d q len) 0 0 := by
  refine Law.of_walk (plainFor_of_name (by decide +kernel)) (by decide +kernel) (by decide +kernel) (by decide) (fun _ _ h => by rw [h.1]; rfl) (fun _ U U' hal hh h => ⟨h.1, h.2.1.mv hal hh, h.2.2.1.mv hal hh, h.2.2.2⟩) (fun r U U' V V' h1 hal h2 h => ⟨h.1, h.2.elim fun B' q => ⟨B', q.1.mv h1 h2, q.2⟩⟩) ?_
  intro p e s m args below meth c s₁ X0 hexec hbytes hml hret hlk hnm hown hh0 W hP
  obtain ⟨rfl, hA, hB, hne, l1, l2, hp⟩ := hP
  have c1 : Steps p.tables e below (s₁.setTop (entryFrame m #[.ref b, .int (Int32.ofNat o), .ref d, .int (Int32.ofNat q), .int (Int32.ofNat len)] 7)) (s₁.setTop (mkF m 0 #[.val (.ref b), .val (.int (Int32.ofNat o)), .val (.ref d), .val (.int (Int32.ofNat q)), .val (.int (Int32.ofNat len)), .unset, .unset] [])) := entry rfl
  have hA0 := hA.1.mv X0.warmed.alike hh0
  have hB0 := hB.mv X0.warmed.alike hh0
  have a31 := hA.1.2.2.2
  have c2 : Steps p.tables e below (s₁.setTop (entryFrame m #[.ref b, .int (Int32.ofNat o), .ref d, .int (Int32.ofNat q), .int (Int32.ofNat len)] 7)) (s₁.setTop (mkF m 3 #[.val (.ref b), .val (.int (Int32.ofNat o)), .val (.ref d), .val (.int (Int32.ofNat q)), .val (.int (Int32.ofNat len)), .val (.int 0), .unset] [])) := c1.trans (by
    refine iconstV X0.here hexec rfl 0 (hb hbytes d0) (by decide) ?_
    refine XS.istore X0.here hexec rfl (hb hbytes d1) rfl rfl ?_
    exact Steps.refl _)
  have loop : ∀ (r i : Nat), i + r = len → ∀ (z : Slot), (z = .unset ∨ ∃ w, z = .val w ∧ w.category = 1) → ∀ (Tl : State) (Bk : Cell), Stand p l e { frames := 0, locals := 0, cells := 0, slots := 0 } s m #[.ref b, .int (Int32.ofNat o), .ref d, .int (Int32.ofNat q), .int (Int32.ofNat len)] below meth c Tl ([] ++ copyLocs d q i) 0 0 → Put d Bk s₁ Tl → Laid B Bk q (q + i) (fun j => Value.int (lo8 (cv A (o + (j - q))))) →
      Steps p.tables e below (s₁.setTop (entryFrame m #[.ref b, .int (Int32.ofNat o), .ref d, .int (Int32.ofNat q), .int (Int32.ofNat len)] 7)) (Tl.setTop (mkF m 3 #[.val (.ref b), .val (.int (Int32.ofNat (o + i))), .val (.ref d), .val (.int (Int32.ofNat (q + i))), .val (.int (Int32.ofNat len)), .val (.int (Int32.ofNat i)), z] [])) → ∃ (T' : State) (B' : Cell) (z' : Slot), Stand p l e { frames := 0, locals := 0, cells := 0, slots := 0 } s m #[.ref b, .int (Int32.ofNat o), .ref d, .int (Int32.ofNat q), .int (Int32.ofNat len)] below meth c T' ([] ++ copyLocs d q len) 0 0 ∧ Put d B' s₁ T' ∧ Laid B B' q (q + len) (fun j => Value.int (lo8 (cv A (o + (j - q))))) ∧
      Steps p.tables e below (s₁.setTop (entryFrame m #[.ref b, .int (Int32.ofNat o), .ref d, .int (Int32.ofNat q), .int (Int32.ofNat len)] 7)) (T'.setTop (mkF m 3 #[.val (.ref b), .val (.int (Int32.ofNat (o + len))), .val (.ref d), .val (.int (Int32.ofNat (q + len))), .val (.int (Int32.ofNat len)), .val (.int (Int32.ofNat len)), z'] [])) := by
    intro r
    induction r with
    | zero =>
      intro i hi z hz Tl Bk Xl pl fl cl
      have hil : i = len := by omega
      rw [hil] at Xl fl cl
      exact ⟨Tl, Bk, z, Xl, pl, fl, cl⟩
    | succ r ih =>
      intro i hi z hz Tl Bk Xl pl fl cl
      have all := X0.warmed.alike.symm.trans Xl.warmed.alike
      have hAl := hA0.keep all (pl.other hne hA0.1)
      have hBk := hB0.like all pl.1 fl.1 fl.2.1 fl.2.2.1
      have hlt : q + i < Bk.slots.size := by rw [fl.2.2.1]; omega
      have c3 : Steps p.tables e below (s₁.setTop (entryFrame m #[.ref b, .int (Int32.ofNat o), .ref d, .int (Int32.ofNat q), .int (Int32.ofNat len)] 7)) (Tl.setTop (mkF m 12 #[.val (.ref b), .val (.int (Int32.ofNat (o + i))), .val (.ref d), .val (.int (Int32.ofNat (q + i))), .val (.int (Int32.ofNat len)), .val (.int (Int32.ofNat i)), z] [.int (Int32.ofNat (o + i)), .ref b])) := cl.trans (by
        refine XS.iload Xl.here hexec rfl (hb hbytes d3) rfl ?_
        refine XS.iload Xl.here hexec rfl (hb hbytes d5) rfl ?_
        refine XS.icmpNo Xl.here hexec rfl (hb hbytes d7) rfl (ii_ge_f (lt32 (by omega) (by omega))) ?_
        refine XS.aloadN Xl.here hexec rfl (hb hbytes d10) rfl rfl ?_
        refine XS.iloadN Xl.here hexec rfl (hb hbytes d11) rfl ?_
        exact Steps.refl _)
      have c4 : Steps p.tables e below (s₁.setTop (entryFrame m #[.ref b, .int (Int32.ofNat o), .ref d, .int (Int32.ofNat q), .int (Int32.ofNat len)] 7)) (Tl.setTop (mkF m 13 #[.val (.ref b), .val (.int (Int32.ofNat (o + i))), .val (.ref d), .val (.int (Int32.ofNat (q + i))), .val (.int (Int32.ofNat len)), .val (.int (Int32.ofNat i)), z] [.int (cv A (o + i))])) := c3.trans (by
        refine Xl.aget hexec hAl rfl (hA.get (i := o + i) (by omega)) rfl rfl (hb hbytes d12) ?_
        exact Steps.refl _)
      have c5 : Steps p.tables e below (s₁.setTop (entryFrame m #[.ref b, .int (Int32.ofNat o), .ref d, .int (Int32.ofNat q), .int (Int32.ofNat len)] 7)) (Tl.setTop (mkF m 15 #[.val (.ref b), .val (.int (Int32.ofNat (o + i))), .val (.ref d), .val (.int (Int32.ofNat (q + i))), .val (.int (Int32.ofNat len)), .val (.int (Int32.ofNat i)), .val (.int (cv A (o + i)))] [])) := c4.trans (by
        refine XS.istoreS Xl.here hexec rfl (hb hbytes d13) rfl rfl hz ?_
        exact Steps.refl _)
      have c6 : Steps p.tables e below (s₁.setTop (entryFrame m #[.ref b, .int (Int32.ofNat o), .ref d, .int (Int32.ofNat q), .int (Int32.ofNat len)] 7)) (Tl.setTop (mkF m 31 #[.val (.ref b), .val (.int (Int32.ofNat (o + i))), .val (.ref d), .val (.int (Int32.ofNat (q + i))), .val (.int (Int32.ofNat len)), .val (.int (Int32.ofNat i)), .val (.int (cv A (o + i)))] [.int (lo8 (cv A (o + i))), .int (Int32.ofNat (q + i)), .ref d])) := c5.trans (by
        refine XS.iload Xl.here hexec rfl (hb hbytes d15) rfl ?_
        refine sipushV Xl.here hexec rfl 255 (hb hbytes d17) (by decide) ?_
        refine XS.icmpYes Xl.here hexec rfl (pc0 := 20) rfl (hb hbytes d20) rfl (ii_le_t (hp i (by omega))) (by decide) rfl ?_
        refine XS.aloadN Xl.here hexec rfl (hb hbytes d26) rfl rfl ?_
        refine XS.iloadN Xl.here hexec rfl (hb hbytes d27) rfl ?_
        refine XS.iload Xl.here hexec rfl (hb hbytes d28) rfl ?_
        refine i2b Xl.here hexec rfl (hb hbytes d30) rfl ?_
        exact Steps.refl _)
      obtain ⟨T7, X7, p7, st7⟩ := Xl.aput hexec hBk rfl hlt rfl (fits_lo8 (cv A (o + i))) (g := (mkF m 31 #[.val (.ref b), .val (.int (Int32.ofNat (o + i))), .val (.ref d), .val (.int (Int32.ofNat (q + i))), .val (.int (Int32.ofNat len)), .val (.int (Int32.ofNat i)), .val (.int (cv A (o + i)))] [.int (lo8 (cv A (o + i))), .int (Int32.ofNat (q + i)), .ref d])) rfl (rest := []) rfl (hb hbytes d31)
      have c8 : Steps p.tables e below (s₁.setTop (entryFrame m #[.ref b, .int (Int32.ofNat o), .ref d, .int (Int32.ofNat q), .int (Int32.ofNat len)] 7)) (T7.setTop (mkF m 32 #[.val (.ref b), .val (.int (Int32.ofNat (o + i))), .val (.ref d), .val (.int (Int32.ofNat (q + i))), .val (.int (Int32.ofNat len)), .val (.int (Int32.ofNat i)), .val (.int (cv A (o + i)))] [])) := c6.trans (st7 _ (Steps.refl _))
      have c9 : Steps p.tables e below (s₁.setTop (entryFrame m #[.ref b, .int (Int32.ofNat o), .ref d, .int (Int32.ofNat q), .int (Int32.ofNat len)] 7)) (T7.setTop (mkF m 3 #[.val (.ref b), .val (.int (Int32.ofNat (o + i) + 1)), .val (.ref d), .val (.int (Int32.ofNat (q + i) + 1)), .val (.int (Int32.ofNat len)), .val (.int (Int32.ofNat i + 1)), .val (.int (cv A (o + i)))] [])) := c8.trans (by
        refine iincV X7.here hexec rfl 1 (hb hbytes d32) (by decide) rfl rfl ?_
        refine iincV X7.here hexec rfl 1 (hb hbytes d35) (by decide) rfl rfl ?_
        refine iincV X7.here hexec rfl 1 (hb hbytes d38) (by decide) rfl rfl ?_
        refine XS.goto X7.here hexec rfl (pc0 := 41) rfl (hb hbytes d41) (by decide) rfl ?_
        exact Steps.refl _)
      have c10 : Steps p.tables e below (s₁.setTop (entryFrame m #[.ref b, .int (Int32.ofNat o), .ref d, .int (Int32.ofNat q), .int (Int32.ofNat len)] 7)) (T7.setTop (mkF m 3 #[.val (.ref b), .val (.int (Int32.ofNat (o + (i + 1)))), .val (.ref d), .val (.int (Int32.ofNat (q + (i + 1)))), .val (.int (Int32.ofNat len)), .val (.int (Int32.ofNat (i + 1))), .val (.int (cv A (o + i)))] [])) := by
        have := c9
        rw [succ32, succ32, succ32] at this
        exact this
      exact ih (i + 1) (by omega) _ (Or.inr ⟨_, rfl, rfl⟩) T7 _ (by rw [copyLocs_step, ← List.append_assoc]; exact X7) (pl.trans p7) (fl.step (by omega) hlt (by simp)) c10
  obtain ⟨T9, B9, z9, X9, p9, f9, g9⟩ := loop len 0 (by omega) .unset (Or.inl rfl) s₁ B (by simpa [copyLocs] using X0) ⟨hB0.1, fun _ _ => rfl, rfl⟩ (Laid.zero _ _ _) c2
  have c11 : Steps p.tables e below (s₁.setTop (entryFrame m #[.ref b, .int (Int32.ofNat o), .ref d, .int (Int32.ofNat q), .int (Int32.ofNat len)] 7)) (T9.setTop (mkF m 46 #[.val (.ref b), .val (.int (Int32.ofNat (o + len))), .val (.ref d), .val (.int (Int32.ofNat (q + len))), .val (.int (Int32.ofNat len)), .val (.int (Int32.ofNat len)), z9] [.int (Int32.ofNat len)])) := g9.trans (by
    refine XS.iload X9.here hexec rfl (hb hbytes d3) rfl ?_
    refine XS.iload X9.here hexec rfl (hb hbytes d5) rfl ?_
    refine XS.icmpYes X9.here hexec rfl (pc0 := 7) rfl (hb hbytes d7) rfl (ii_ge_t (nlt32 (by omega) (Nat.le_refl _))) (by decide) rfl ?_
    refine XS.iload X9.here hexec rfl (hb hbytes d44) rfl ?_
    exact Steps.refl _)
  exact ⟨T9, some (.int (Int32.ofNat len)), _, _, _, X9, by simp, rfl, rfl, (fun h => by cases h), ⟨rfl, B9, p9.from hh0, f9⟩, fun fs hl => c11.trans (X9.ireturnOut hexec hret rfl (Or.inl rfl) (hb hbytes d46) hl)⟩
end Cmp5
namespace Cmp3
def yN : MethodName := ⟨"java/lang/StringUTF16", "compress", "([CII)[B"⟩
abbrev yB : ByteArray := jdk_52_method_16_code
theorem d0 : decode yB 0 = .ok (.iload_n 2, 1) := by decide +kernel
theorem d1 : decode yB 1 = .ok (.newarray .byte, 2) := by decide +kernel
theorem d3 : decode yB 3 = .ok (.astore_n 3, 1) := by decide +kernel
theorem d4 : decode yB 4 = .ok (.aload_n 0, 1) := by decide +kernel
theorem d5 : decode yB 5 = .ok (.iload_n 1, 1) := by decide +kernel
theorem d6 : decode yB 6 = .ok (.aload_n 3, 1) := by decide +kernel
theorem d7 : decode yB 7 = .ok (.iconst 0, 1) := by decide +kernel
theorem d8 : decode yB 8 = .ok (.iload_n 2, 1) := by decide +kernel
theorem d9 : decode yB 9 = .ok (.invokestatic 115, 3) := by decide +kernel
theorem d12 : decode yB 12 = .ok (.istore 4, 2) := by decide +kernel
theorem d14 : decode yB 14 = .ok (.iload 4, 2) := by decide +kernel
theorem d16 : decode yB 16 = .ok (.iload_n 2, 1) := by decide +kernel
theorem d17 : decode yB 17 = .ok (.if_icmp (.eq) 40, 3) := by decide +kernel
theorem d57 : decode yB 57 = .ok (.aload_n 3, 1) := by decide +kernel
theorem d58 : decode yB 58 = .ok (.areturn, 1) := by decide +kernel
def site : List Cond := [.arrayClass .byte, Cmp5.tab] ++ staticW U16 115 Cmp5.yN
def tab : Cond := tabOf yN yB 6 (some (.array .byte)) site
def P (b : Addr) (A : Cell) (o len : Nat) (args : Array Value) (s : State) : Prop := args = #[.ref b, .int (Int32.ofNat o), .int (Int32.ofNat len)] ∧ Ch b A s ∧ o + len ≤ A.slots.size ∧ len ≤ 536870912 ∧ ∀ i, i < len → ¬ 255 < cv A (o + i)
def E (b : Addr) (A : Cell) (o len : Nat) (r : Option Value) (s u : State) : Prop := NewArr .byte "[B" len (fun j => .int (lo8 (cv A (o + j)))) r s u ∧ u.heap.size = s.heap.size + 1
/-- no char of the range above 255: a new byte[] of their low bytes -/
theorem law (l : Launch) (b : Addr) (A : Cell) (o len : Nat) : Law l yN 3 3 1 18 yB 6 (some (.array .byte)) site (P b A o len) (E b A o len) [] 1 len := by
  refine Law.of_walk (plainFor_of_name (by decide +kernel)) (by decide +kernel) (by decide +kernel) (by decide) (fun _ _ h => by rw [h.1]; rfl) (fun _ U U' hal hh h => ⟨h.1, h.2.1.mv hal hh, h.2.2⟩) (fun r U U' V V' h1 hal h2 h => ⟨NewArr.mv r U U' V V' h1 hal h2 h.1, by rw [h1, h2]; exact h.2⟩) ?_
  intro p e s m args below meth c s₁ X0 hexec hbytes hml hret hlk hnm hown hh0 W hP
  obtain ⟨rfl, hA, l1, l2, hp⟩ := hP
  have a31 := hA.1.2.2.2
  have c1 : Steps p.tables e below (s₁.setTop (entryFrame m #[.ref b, .int (Int32.ofNat o), .int (Int32.ofNat len)] 6)) (s₁.setTop (mkF m 0 #[.val (.ref b), .val (.int (Int32.ofNat o)), .val (.int (Int32.ofNat len)), .unset, .unset, .unset] [])) := entry rfl
  have c2 : Steps p.tables e below (s₁.setTop (entryFrame m #[.ref b, .int (Int32.ofNat o), .int (Int32.ofNat len)] 6)) (s₁.setTop (mkF m 1 #[.val (.ref b), .val (.int (Int32.ofNat o)), .val (.int (Int32.ofNat len)), .unset, .unset, .unset] [.int (Int32.ofNat len)])) := c1.trans (by
    refine XS.iloadN X0.here hexec rfl (hb hbytes d0) rfl ?_
    exact Steps.refl _)
  obtain ⟨T3, B3, X3, ba3, bs3, bv3, bh3, bf3, st3⟩ := X0.anew hexec (atype := .byte) (wk W (.arrayClass .byte)) rfl (by show len * 1 ≤ _; omega) (by omega) (g := (mkF m 1 #[.val (.ref b), .val (.int (Int32.ofNat o)), .val (.int (Int32.ofNat len)), .unset, .unset, .unset] [.int (Int32.ofNat len)])) rfl (hb hbytes d1) (rest := []) rfl (Nat.le_refl _) (by show 0 + len ≤ len; omega)
  rw [hh0] at ba3 st3
  have kp3 : XT.Kept s T3 := (XT.Kept.of_eq hh0).push bh3
  have hA3 := hA.keep X3.warmed.alike (kp3 _ _ hA.1.1)
  have hne : b ≠ s.heap.size := hA.1.ne
  have c4 : Steps p.tables e below (s₁.setTop (entryFrame m #[.ref b, .int (Int32.ofNat o), .int (Int32.ofNat len)] 6)) (T3.setTop (mkF m 3 #[.val (.ref b), .val (.int (Int32.ofNat o)), .val (.int (Int32.ofNat len)), .unset, .unset, .unset] [.ref s.heap.size])) := c2.trans (st3 _ (Steps.refl _))
  have c5 : Steps p.tables e below (s₁.setTop (entryFrame m #[.ref b, .int (Int32.ofNat o), .int (Int32.ofNat len)] 6)) (T3.setTop (mkF m 9 #[.val (.ref b), .val (.int (Int32.ofNat o)), .val (.int (Int32.ofNat len)), .val (.ref s.heap.size), .unset, .unset] [.int (Int32.ofNat len), .int 0, .ref s.heap.size, .int (Int32.ofNat o), .ref b])) := c4.trans (by
    refine XS.astoreN X3.here hexec rfl (hb hbytes d3) rfl rfl rfl ?_
    refine XS.aloadN X3.here hexec rfl (hb hbytes d4) rfl rfl ?_
    refine XS.iloadN X3.here hexec rfl (hb hbytes d5) rfl ?_
    refine XS.aloadN X3.here hexec rfl (hb hbytes d6) rfl rfl ?_
    refine iconstV X3.here hexec rfl 0 (hb hbytes d7) (by decide) ?_
    refine XS.iloadN X3.here hexec rfl (hb hbytes d8) rfl ?_
    exact Steps.refl _)
  obtain ⟨v6, T6, X6, E6, g6⟩ := X3.callS hexec (Cmp5.law l b A s.heap.size B3 o 0 len) hown (wks W (staticW U16 115 Cmp5.yN)) (wk W Cmp5.tab) (W := 0) (Nat.le_of_ble_eq_true rfl) (Nat.le_of_ble_eq_true rfl) (Nat.le_refl _) (by show 0 + len + 0 ≤ len; omega) (g := (mkF m 9 #[.val (.ref b), .val (.int (Int32.ofNat o)), .val (.int (Int32.ofNat len)), .val (.ref s.heap.size), .unset, .unset] [.int (Int32.ofNat len), .int (Int32.ofNat 0), .ref s.heap.size, .int (Int32.ofNat o), .ref b])) rfl (by rw [hml]; rfl) c5 (argsL := [.ref b, .int (Int32.ofNat o), .ref s.heap.size, .int (Int32.ofNat 0), .int (Int32.ofNat len)]) (rest := []) rfl rfl (by show 2 * 0 + 0 ≤ _; decide) (hb hbytes d9) (⟨rfl, hA3, ba3, hne, l1, by rw [bs3]; simp, hp⟩)
  obtain ⟨rfl, B6, p6, f6⟩ := E6
  have c7 : Steps p.tables e below (s₁.setTop (entryFrame m #[.ref b, .int (Int32.ofNat o), .int (Int32.ofNat len)] 6)) (T6.setTop (mkF m 12 #[.val (.ref b), .val (.int (Int32.ofNat o)), .val (.int (Int32.ofNat len)), .val (.ref s.heap.size), .unset, .unset] [.int (Int32.ofNat len)])) := g6
  have c8 : Steps p.tables e below (s₁.setTop (entryFrame m #[.ref b, .int (Int32.ofNat o), .int (Int32.ofNat len)] 6)) (T6.setTop (mkF m 58 #[.val (.ref b), .val (.int (Int32.ofNat o)), .val (.int (Int32.ofNat len)), .val (.ref s.heap.size), .val (.int (Int32.ofNat len)), .unset] [.ref s.heap.size])) := c7.trans (by
    refine XS.istore X6.here hexec rfl (hb hbytes d12) rfl rfl ?_
    refine XS.iload X6.here hexec rfl (hb hbytes d14) rfl ?_
    refine XS.iloadN X6.here hexec rfl (hb hbytes d16) rfl ?_
    refine XS.icmpYes X6.here hexec rfl (pc0 := 17) rfl (hb hbytes d17) rfl (ii_eq_t rfl) (by decide) rfl ?_
    refine XS.aloadN X6.here hexec rfl (hb hbytes d57) rfl rfl ?_
    exact Steps.refl _)
  have X8 := X6.wide (L' := []) (cells' := 1) (slots' := len) (fun x hx hlt => by
    simp only [List.nil_append, copyLocs, List.mem_map, List.mem_range] at hx
    obtain ⟨i, -, rfl⟩ := hx
    exact absurd hlt (Nat.lt_irrefl _)) (Nat.le_refl _) (by omega)
  exact ⟨T6, some (.ref s.heap.size), _, _, _, X8, rfl, rfl, rfl, (fun h => by cases h), ⟨⟨rfl, B6, ba3.like (X3.warmed.alike.symm.trans X6.warmed.alike) p6.1 f6.1 f6.2.1 f6.2.2.1, f6.2.1.trans bv3, by rw [X6.warmed.alike.findClass, f6.1]; exact bf3, by rw [f6.2.2.1, bs3]; simp, fun j hj => by rw [f6.2.2.2 j, if_pos (by omega)]; rfl, kp3.put p6 (Nat.le_refl _)⟩, by rw [p6.2.2, bh3, hh0]; simp⟩, fun fs hl => c8.trans (X8.areturnOut hexec rfl hret rfl (hb hbytes d58) hl)⟩
end Cmp3
namespace CodL
def yN : MethodName := ⟨"java/lang/StringUTF16", "coderFromArrayLen", "([BI)B"⟩
abbrev yB : ByteArray := jdk_52_method_15_code
theorem d0 : decode yB 0 = .ok (.iload_n 1, 1) := by decide +kernel
theorem d1 : decode yB 1 = .ok (.aload_n 0, 1) := by decide +kernel
theorem d2 : decode yB 2 = .ok (.arraylength, 1) := by decide +kernel
theorem d3 : decode yB 3 = .ok (.isub, 1) := by decide +kernel
theorem d4 : decode yB 4 = .ok (.bipush 31, 2) := by decide +kernel
theorem d6 : decode yB 6 = .ok (.iushr, 1) := by decide +kernel
theorem d7 : decode yB 7 = .ok (.i2b, 1) := by decide +kernel
theorem d8 : decode yB 8 = .ok (.ireturn, 1) := by decide +kernel
def site : List Cond := []
def tab : Cond := tabOf yN yB 2 (some .byte) site
def P (d : Addr) (B : Cell) (args : Array Value) (s : State) : Prop := args = #[.ref d, .int (Int32.ofNat B.slots.size)] ∧ Arr .byte d B s
def E (r : Option Value) (s u : State) : Prop := XT.PureE (some (.int 0)) r s u
/-- an array as long as the number of chars: LATIN1 -/
theorem law (l : Launch) (d : Addr) (B : Cell) : Law l yN 2 2 0 0 yB 2 (some .byte) site (P d B) E [] 0 0 := by
  refine Law.of_walk (plainFor_of_name (by decide +kernel)) (by decide +kernel) (by decide +kernel) (by decide) (fun _ _ h => by rw [h.1]; rfl) (fun _ U U' hal hh h => ⟨h.1, h.2.mv hal hh⟩) (fun r U U' V V' h1 hal h2 h => XT.PureE.mv r U U' V V' h1 hal h2 h) ?_
  intro p e s m args below meth c s₁ X0 hexec hbytes hml hret hlk hnm hown hh0 W hP
  obtain ⟨rfl, hB⟩ := hP
  have hB0 := hB.mv X0.warmed.alike hh0
  have c1 : Steps p.tables e below (s₁.setTop (entryFrame m #[.ref d, .int (Int32.ofNat B.slots.size)] 2)) (s₁.setTop (mkF m 0 #[.val (.ref d), .val (.int (Int32.ofNat B.slots.size))] [])) := entry rfl
  have c2 : Steps p.tables e below (s₁.setTop (entryFrame m #[.ref d, .int (Int32.ofNat B.slots.size)] 2)) (s₁.setTop (mkF m 2 #[.val (.ref d), .val (.int (Int32.ofNat B.slots.size))] [.ref d, .int (Int32.ofNat B.slots.size)])) := c1.trans (by
    refine XS.iloadN X0.here hexec rfl (hb hbytes d0) rfl ?_
    refine XS.aloadN X0.here hexec rfl (hb hbytes d1) rfl rfl ?_
    exact Steps.refl _)
  have c3 : Steps p.tables e below (s₁.setTop (entryFrame m #[.ref d, .int (Int32.ofNat B.slots.size)] 2)) (s₁.setTop (mkF m 8 #[.val (.ref d), .val (.int (Int32.ofNat B.slots.size))] [.int (lo8 (ushr (Int32.ofNat B.slots.size - Int32.ofNat B.slots.size) 31))])) := c2.trans (by
    refine X0.alen hexec hB0 rfl rfl (hb hbytes d2) ?_
    refine XS.isub X0.here hexec rfl (hb hbytes d3) rfl ?_
    refine bipushV X0.here hexec rfl 31 (hb hbytes d4) (by decide) ?_
    refine iushr X0.here hexec rfl (hb hbytes d6) rfl ?_
    refine i2b X0.here hexec rfl (hb hbytes d7) rfl ?_
    exact Steps.refl _)
  have e0 : lo8 (ushr (Int32.ofNat B.slots.size - Int32.ofNat B.slots.size) 31) = 0 := by rw [Int32.sub_self]; decide
  rw [e0] at c3
  exact ⟨s₁, some (.int 0), _, _, _, X0, rfl, rfl, rfl, (fun h => by cases h), ⟨rfl, hh0⟩, fun fs hl => c3.trans (X0.ireturnOut hexec hret rfl (Or.inr (Or.inr (Or.inl rfl))) (hb hbytes d8) hl)⟩
end CodL
/-- the String at a is Latin-1 over a new byte[] (the heap's one new cell): the low bytes of the len chars of A from o on; every cell but a is kept -/
def Got (a : Addr) (D : Cell) (fV fC : Field) (A : Cell) (o len : Nat) (r : Option Value) (s u : State) : Prop := r = none ∧ ∃ D' V : Cell, Blank "java/lang/String" a D' u ∧ Same D D' [fV.slot, fC.slot] ∧ D'.slots[fV.slot]? = some (.ref s.heap.size) ∧ D'.slots[fC.slot]? = some (.int 0) ∧ Arr .byte s.heap.size V u ∧ V.vm = .none ∧ u.vm.findClass "[B" = some V.cls ∧ V.slots.size = len ∧ (∀ j, j < len → V.slots[j]? = some (.int (lo8 (cv A (o + j))))) ∧ (∀ (y : Addr) (c : Cell), y ≠ a → s.heap[y]? = some c → u.heap[y]? = some c) ∧ u.heap.size = s.heap.size + 1
theorem Got.mv {a : Addr} {D A : Cell} {fV fC : Field} {o len : Nat} : ∀ r (U U' V V' : State), U'.heap = U.heap → V.vm.Alike V'.vm → V'.heap = V.heap → Got a D fV fC A o len r U V → Got a D fV fC A o len r U' V' :=
  fun r U U' V V' h1 hal h2 ⟨e0, D', X, a1, a2, a3, a4, a5, a6, a7, a8, a9, a10, a11⟩ => ⟨e0, D', X, a1.mv hal h2, a2, by rw [h1]; exact a3, a4, by rw [h1]; exact a5.mv hal h2, a6, by rw [hal.findClass]; exact a7, a8, a9, by rw [h1, h2]; exact a10, by rw [h1, h2]; exact a11⟩
namespace New4
def yN : MethodName := ⟨"java/lang/String", "<init>", "([CIILjava/lang/Void;)V"⟩
abbrev yB : ByteArray := jdk_42_method_149_code
theorem d0 : decode yB 0 = .ok (.aload_n 0, 1) := by decide +kernel
theorem d1 : decode yB 1 = .ok (.invokespecial 1, 3) := by decide +kernel
theorem d4 : decode yB 4 = .ok (.iload_n 3, 1) := by decide +kernel
theorem d5 : decode yB 5 = .ok (.ifCond (.ne) 22, 3) := by decide +kernel
theorem d27 : decode yB 27 = .ok (.getstatic 38, 3) := by decide +kernel
theorem d30 : decode yB 30 = .ok (.ifCond (.eq) 28, 3) := by decide +kernel
theorem d33 : decode yB 33 = .ok (.aload_n 1, 1) := by decide +kernel
theorem d34 : decode yB 34 = .ok (.iload_n 2, 1) := by decide +kernel
theorem d35 : decode yB 35 = .ok (.iload_n 3, 1) := by decide +kernel
theorem d36 : decode yB 36 = .ok (.invokestatic 177, 3) := by decide +kernel
theorem d39 : decode yB 39 = .ok (.astore 5, 2) := by decide +kernel
theorem d41 : decode yB 41 = .ok (.aload_n 0, 1) := by decide +kernel
theorem d42 : decode yB 42 = .ok (.aload 5, 2) := by decide +kernel
theorem d44 : decode yB 44 = .ok (.iload_n 3, 1) := by decide +kernel
theorem d45 : decode yB 45 = .ok (.invokestatic 47, 3) := by decide +kernel
theorem d48 : decode yB 48 = .ok (.putfield 15, 3) := by decide +kernel
theorem d51 : decode yB 51 = .ok (.aload_n 0, 1) := by decide +kernel
theorem d52 : decode yB 52 = .ok (.aload 5, 2) := by decide +kernel
theorem d54 : decode yB 54 = .ok (.putfield 9, 3) := by decide +kernel
theorem d57 : decode yB 57 = .ok (.return_, 1) := by decide +kernel
def site : List Cond := [.fieldLink "java/lang/String" 38 "java/lang/String" "COMPACT_STRINGS" "Z", Cmp3.tab, CodL.tab, .laysFinal "java/lang/String" "java/lang/String" "value" "[B", .fieldLink "java/lang/String" 9 "java/lang/String" "value" "[B", .laysFinal "java/lang/String" "java/lang/String" "coder" "B", .fieldLink "java/lang/String" 15 "java/lang/String" "coder" "B"] ++ objW "java/lang/String" 1 ++ staticW "java/lang/String" 177 Cmp3.yN ++ staticW "java/lang/String" 47 CodL.yN
def tab : Cond := tabOf yN yB 6 none site
def P (a : Addr) (D : Cell) (fV fC : Field) (b : Addr) (A : Cell) (z : Int32) (o len : Nat) (args : Array Value) (s : State) : Prop := args = #[.ref a, .ref b, .int (Int32.ofNat o), .int (Int32.ofNat len), .null] ∧ Blank "java/lang/String" a D s ∧ Found "java/lang/String" "value" "[B" fV s ∧ Found "java/lang/String" "coder" "B" fC s ∧ Ch b A s ∧ StaticIs s "java/lang/String" "COMPACT_STRINGS" "Z" (.int z) ∧ ¬ z = 0 ∧ 0 < len ∧ o + len ≤ A.slots.size ∧ len ≤ 536870912 ∧ ∀ i, i < len → ¬ 255 < cv A (o + i)
def E (a : Addr) (D : Cell) (fV fC : Field) (A : Cell) (o len : Nat) (r : Option Value) (s u : State) : Prop := Got a D fV fC A o len r s u
/-- len > 0, no char of the range above 255: a Latin-1 String of their low bytes -/
theorem law (l : Launch) (a : Addr) (D : Cell) (fV fC : Field) (b : Addr) (A : Cell) (z : Int32) (o len : Nat) : Law l yN 5 4 2 35 yB 6 none site (P a D fV fC b A z o len) (E a D fV fC A o len) [⟨a, fC.slot⟩, ⟨a, fV.slot⟩] 1 len := by
  refine Law.of_walk (plainFor_of_name (by decide +kernel)) (by decide +kernel) (by decide +kernel) (by decide) (fun _ _ h => by rw [h.1]; rfl) (fun _ U U' hal hh h => ⟨h.1, h.2.1.mv hal hh, h.2.2.1.al hal, h.2.2.2.1.al hal, h.2.2.2.2.1.mv hal hh, h.2.2.2.2.2.1.there hal hh, h.2.2.2.2.2.2⟩) (fun r U U' V V' h1 hal h2 h => Got.mv r U U' V V' h1 hal h2 h) ?_
  intro p e s m args below meth c s₁ X0 hexec hbytes hml hret hlk hnm hown hh0 W hP
  obtain ⟨rfl, hB, f1, f2, hA, s1, hz, l0, l1, l2, hp⟩ := hP
  have a31 := hA.1.2.2.2
  have c1 : Steps p.tables e below (s₁.setTop (entryFrame m #[.ref a, .ref b, .int (Int32.ofNat o), .int (Int32.ofNat len), .null] 6)) (s₁.setTop (mkF m 0 #[.val (.ref a), .val (.ref b), .val (.int (Int32.ofNat o)), .val (.int (Int32.ofNat len)), .val .null, .unset] [])) := entry rfl
  have c2 : Steps p.tables e below (s₁.setTop (entryFrame m #[.ref a, .ref b, .int (Int32.ofNat o), .int (Int32.ofNat len), .null] 6)) (s₁.setTop (mkF m 1 #[.val (.ref a), .val (.ref b), .val (.int (Int32.ofNat o)), .val (.int (Int32.ofNat len)), .val .null, .unset] [.ref a])) := c1.trans (by
    refine XS.aloadN X0.here hexec rfl (hb hbytes d0) rfl rfl ?_
    exact Steps.refl _)
  obtain ⟨T3, X3, q3, st3⟩ := X0.oinit hexec hown (wks W (objW "java/lang/String" 1)) (g := (mkF m 1 #[.val (.ref a), .val (.ref b), .val (.int (Int32.ofNat o)), .val (.int (Int32.ofNat len)), .val .null, .unset] [.ref a])) rfl (by rw [hml]; rfl) (rest := []) rfl (hb hbytes d1) (W := 0) (by show 2 * 0 + 0 ≤ _; decide) (Nat.le_of_ble_eq_true rfl) (Nat.le_of_ble_eq_true rfl)
  have hh3 := q3.trans hh0
  have c4 : Steps p.tables e below (s₁.setTop (entryFrame m #[.ref a, .ref b, .int (Int32.ofNat o), .int (Int32.ofNat len), .null] 6)) (T3.setTop (mkF m 27 #[.val (.ref a), .val (.ref b), .val (.int (Int32.ofNat o)), .val (.int (Int32.ofNat len)), .val .null, .unset] [])) := (c2.trans (st3 _ (Steps.refl _))).trans (by
    refine XS.iloadN X3.here hexec rfl (hb hbytes d4) rfl ?_
    refine XS.ifYes X3.here hexec rfl (pc0 := 5) rfl (hb hbytes d5) rfl (i0_ne_t (nz32 (by omega) l0)) (by decide) rfl ?_
    exact Steps.refl _)
  obtain ⟨T5, X5, q5, st5⟩ := X3.sget hexec hown (wk W (.fieldLink "java/lang/String" 38 "java/lang/String" "COMPACT_STRINGS" "Z")) s1 (fun _ _ h => by rw [hh3]; exact h) (g := (mkF m 27 #[.val (.ref a), .val (.ref b), .val (.int (Int32.ofNat o)), .val (.int (Int32.ofNat len)), .val .null, .unset] [])) rfl (hb hbytes d27)
  have hh5 := q5.trans hh3
  have c6 : Steps p.tables e below (s₁.setTop (entryFrame m #[.ref a, .ref b, .int (Int32.ofNat o), .int (Int32.ofNat len), .null] 6)) (T5.setTop (mkF m 30 #[.val (.ref a), .val (.ref b), .val (.int (Int32.ofNat o)), .val (.int (Int32.ofNat len)), .val .null, .unset] [.int z])) := c4.trans (st5 _ (Steps.refl _))
  have c7 : Steps p.tables e below (s₁.setTop (entryFrame m #[.ref a, .ref b, .int (Int32.ofNat o), .int (Int32.ofNat len), .null] 6)) (T5.setTop (mkF m 36 #[.val (.ref a), .val (.ref b), .val (.int (Int32.ofNat o)), .val (.int (Int32.ofNat len)), .val .null, .unset] [.int (Int32.ofNat len), .int (Int32.ofNat o), .ref b])) := c6.trans (by
    refine XS.ifNo X5.here hexec rfl (hb hbytes d30) rfl (i0_eq_f hz) ?_
    refine XS.aloadN X5.here hexec rfl (hb hbytes d33) rfl rfl ?_
    refine XS.iloadN X5.here hexec rfl (hb hbytes d34) rfl ?_
    refine XS.iloadN X5.here hexec rfl (hb hbytes d35) rfl ?_
    exact Steps.refl _)
  obtain ⟨v8, T8, X8, E8, g8⟩ := X5.callS hexec (Cmp3.law l b A o len) hown (wks W (staticW "java/lang/String" 177 Cmp3.yN)) (wk W Cmp3.tab) (W := 0) (Nat.le_of_ble_eq_true rfl) (Nat.le_of_ble_eq_true rfl) (Nat.le_refl _) (by show 0 + len ≤ len; omega) (g := (mkF m 36 #[.val (.ref a), .val (.ref b), .val (.int (Int32.ofNat o)), .val (.int (Int32.ofNat len)), .val .null, .unset] [.int (Int32.ofNat len), .int (Int32.ofNat o), .ref b])) rfl (by rw [hml]; rfl) c7 (argsL := [.ref b, .int (Int32.ofNat o), .int (Int32.ofNat len)]) (rest := []) rfl rfl (by show 2 * 0 + 0 ≤ _; decide) (hb hbytes d36) (⟨rfl, hA.mv X5.warmed.alike hh5, l1, l2, hp⟩)
  obtain ⟨e8, z8⟩ := E8
  obtain ⟨rfl, N, n1, n2, n3, n4, n5, n6⟩ := NewArr.mv _ T5 s _ _ hh5.symm (Vm.Alike.refl _) rfl e8
  rw [hh5] at z8
  have hB1 := hB.keep X8.warmed.alike (n6 _ _ hB.1)
  have hne : s.heap.size ≠ a := (Nat.ne_of_lt (Array.getElem?_eq_some_iff.mp hB.1).1).symm
  have c9 : Steps p.tables e below (s₁.setTop (entryFrame m #[.ref a, .ref b, .int (Int32.ofNat o), .int (Int32.ofNat len), .null] 6)) (T8.setTop (mkF m 39 #[.val (.ref a), .val (.ref b), .val (.int (Int32.ofNat o)), .val (.int (Int32.ofNat len)), .val .null, .unset] [.ref s.heap.size])) := g8
  have c10 : Steps p.tables e below (s₁.setTop (entryFrame m #[.ref a, .ref b, .int (Int32.ofNat o), .int (Int32.ofNat len), .null] 6)) (T8.setTop (mkF m 45 #[.val (.ref a), .val (.ref b), .val (.int (Int32.ofNat o)), .val (.int (Int32.ofNat len)), .val .null, .val (.ref s.heap.size)] [.int (Int32.ofNat N.slots.size), .ref s.heap.size, .ref a])) := by
    have hc : Steps p.tables e below (s₁.setTop (entryFrame m #[.ref a, .ref b, .int (Int32.ofNat o), .int (Int32.ofNat len), .null] 6)) (T8.setTop (mkF m 45 #[.val (.ref a), .val (.ref b), .val (.int (Int32.ofNat o)), .val (.int (Int32.ofNat len)), .val .null, .val (.ref s.heap.size)] [.int (Int32.ofNat len), .ref s.heap.size, .ref a])) := c9.trans (by
      refine XS.astore X8.here hexec rfl (hb hbytes d39) rfl rfl rfl ?_
      refine XS.aloadN X8.here hexec rfl (hb hbytes d41) rfl rfl ?_
      refine XS.aload X8.here hexec rfl (hb hbytes d42) rfl rfl ?_
      refine XS.iloadN X8.here hexec rfl (hb hbytes d44) rfl ?_
      exact Steps.refl _)
    rw [n4]; exact hc
  obtain ⟨v11, T11, X11, E11, g11⟩ := X8.callS hexec (CodL.law l s.heap.size N) hown (wks W (staticW "java/lang/String" 47 CodL.yN)) (wk W CodL.tab) (W := 1) (Nat.le_of_ble_eq_true rfl) (Nat.le_of_ble_eq_true rfl) (Nat.le_refl _) (by show 0 + len + 0 ≤ len; omega) (g := (mkF m 45 #[.val (.ref a), .val (.ref b), .val (.int (Int32.ofNat o)), .val (.int (Int32.ofNat len)), .val .null, .val (.ref s.heap.size)] [.int (Int32.ofNat N.slots.size), .ref s.heap.size, .ref a])) rfl (by rw [hml]; rfl) c10 (argsL := [.ref s.heap.size, .int (Int32.ofNat N.slots.size)]) (rest := [.ref a]) rfl rfl (by show 2 * 0 + (1 + 0) ≤ _; decide) (hb hbytes d45) (⟨rfl, n1⟩)
  obtain ⟨rfl, q11⟩ := E11
  have hB11 := hB1.mv (X8.warmed.alike.symm.trans X11.warmed.alike) q11
  have c12 : Steps p.tables e below (s₁.setTop (entryFrame m #[.ref a, .ref b, .int (Int32.ofNat o), .int (Int32.ofNat len), .null] 6)) (T11.setTop (mkF m 48 #[.val (.ref a), .val (.ref b), .val (.int (Int32.ofNat o)), .val (.int (Int32.ofNat len)), .val .null, .val (.ref s.heap.size)] [.int 0, .ref a])) := g11
  obtain ⟨T13, X13, p13, bl13, sl13, st13⟩ := X11.finit hexec hown (wk W (.fieldLink "java/lang/String" 15 "java/lang/String" "coder" "B")) (Or.inr ⟨_, (wk W (.laysFinal "java/lang/String" "java/lang/String" "coder" "B"))⟩) (Or.inl ⟨rfl, hnm⟩) f2 (Or.inl rfl) hB11 (t := .byte) (by decide +kernel) rfl (g := (mkF m 48 #[.val (.ref a), .val (.ref b), .val (.int (Int32.ofNat o)), .val (.int (Int32.ofNat len)), .val .null, .val (.ref s.heap.size)] [.int 0, .ref a])) rfl (rest := []) rfl (hb hbytes d48)
  have c14 : Steps p.tables e below (s₁.setTop (entryFrame m #[.ref a, .ref b, .int (Int32.ofNat o), .int (Int32.ofNat len), .null] 6)) (T13.setTop (mkF m 54 #[.val (.ref a), .val (.ref b), .val (.int (Int32.ofNat o)), .val (.int (Int32.ofNat len)), .val .null, .val (.ref s.heap.size)] [.ref s.heap.size, .ref a])) := (c12.trans (st13 _ (Steps.refl _))).trans (by
    refine XS.aloadN X13.here hexec rfl (hb hbytes d51) rfl rfl ?_
    refine XS.aload X13.here hexec rfl (hb hbytes d52) rfl rfl ?_
    exact Steps.refl _)
  obtain ⟨T15, X15, p15, bl15, sl15, st15⟩ := X13.finit hexec hown (wk W (.fieldLink "java/lang/String" 9 "java/lang/String" "value" "[B")) (Or.inr ⟨_, (wk W (.laysFinal "java/lang/String" "java/lang/String" "value" "[B"))⟩) (Or.inl ⟨rfl, hnm⟩) f1 (Or.inl rfl) bl13 (t := (.array .byte)) (by decide +kernel) rfl (g := (mkF m 54 #[.val (.ref a), .val (.ref b), .val (.int (Int32.ofNat o)), .val (.int (Int32.ofNat len)), .val .null, .val (.ref s.heap.size)] [.ref s.heap.size, .ref a])) rfl (rest := []) rfl (hb hbytes d54)
  have c16 : Steps p.tables e below (s₁.setTop (entryFrame m #[.ref a, .ref b, .int (Int32.ofNat o), .int (Int32.ofNat len), .null] 6)) (T15.setTop (mkF m 57 #[.val (.ref a), .val (.ref b), .val (.int (Int32.ofNat o)), .val (.int (Int32.ofNat len)), .val .null, .val (.ref s.heap.size)] [])) := c14.trans (st15 _ (Steps.refl _))
  have ap := apart (Or.inr ⟨_, (wk W (.laysFinal "java/lang/String" "java/lang/String" "value" "[B"))⟩) (Or.inr ⟨_, (wk W (.laysFinal "java/lang/String" "java/lang/String" "coder" "B"))⟩) f1 f2 (t₁ := .array .byte) (t₂ := .byte) (by decide +kernel) (by decide +kernel) (by decide)
  have al := X8.warmed.alike.symm.trans X15.warmed.alike
  have n7 : T11.heap[s.heap.size]? = some N := by rw [q11]; exact n1.1
  exact ⟨T15, none, _, _, _, X15, by simp, rfl, by omega, (fun _ => rfl), ⟨rfl, _, N, bl15, ((Same.refl D _).set _ (by simp)).set _ (by simp), sl15, (Cell.slots_setSlot_ne _ ap).trans sl13, n1.keep al (p15.other hne (p13.other hne n7)), n2, by rw [al.findClass]; exact n3, n4, n5, fun y c h1 h2 => p15.other h1 (p13.other h1 (by rw [q11]; exact n6 y c h2)), by rw [p15.2.2, p13.2.2, q11]; exact z8⟩, fun fs hl => c16.trans (X15.returnOut hexec hret (hb hbytes d57) hl)⟩
end New4
namespace New1
def yN : MethodName := ⟨"java/lang/String", "<init>", "([C)V"⟩
abbrev yB : ByteArray := jdk_42_method_3_code
theorem d0 : decode yB 0 = .ok (.aload_n 0, 1) := by decide +kernel
theorem d1 : decode yB 1 = .ok (.aload_n 1, 1) := by decide +kernel
theorem d2 : decode yB 2 = .ok (.iconst 0, 1) := by decide +kernel
theorem d3 : decode yB 3 = .ok (.aload_n 1, 1) := by decide +kernel
theorem d4 : decode yB 4 = .ok (.arraylength, 1) := by decide +kernel
theorem d5 : decode yB 5 = .ok (.aconst_null, 1) := by decide +kernel
theorem d6 : decode yB 6 = .ok (.invokespecial 27, 3) := by decide +kernel
theorem d9 : decode yB 9 = .ok (.return_, 1) := by decide +kernel
def site : List Cond := [New4.tab] ++ initW "java/lang/String" 27 New4.yN
def tab : Cond := tabOf yN yB 2 none site
def P (a : Addr) (D : Cell) (fV fC : Field) (b : Addr) (A : Cell) (z : Int32) (args : Array Value) (s : State) : Prop := args = #[.ref a, .ref b] ∧ Blank "java/lang/String" a D s ∧ Found "java/lang/String" "value" "[B" fV s ∧ Found "java/lang/String" "coder" "B" fC s ∧ Ch b A s ∧ StaticIs s "java/lang/String" "COMPACT_STRINGS" "Z" (.int z) ∧ ¬ z = 0 ∧ 0 < A.slots.size ∧ A.slots.size ≤ 536870912 ∧ ∀ i, i < A.slots.size → ¬ 255 < cv A i
def E (a : Addr) (D : Cell) (fV fC : Field) (A : Cell) (r : Option Value) (s u : State) : Prop := Got a D fV fC A 0 A.slots.size r s u
/-- new String(chars), not empty, no char above 255: a Latin-1 String of their low bytes -/
theorem law (l : Launch) (a : Addr) (D : Cell) (fV fC : Field) (b : Addr) (A : Cell) (z : Int32) : Law l yN 2 1 3 52 yB 2 none site (P a D fV fC b A z) (E a D fV fC A) [⟨a, fC.slot⟩, ⟨a, fV.slot⟩] 1 A.slots.size := by
  refine Law.of_walk (plainFor_of_name (by decide +kernel)) (by decide +kernel) (by decide +kernel) (by decide) (fun _ _ h => by rw [h.1]; rfl) (fun _ U U' hal hh h => ⟨h.1, h.2.1.mv hal hh, h.2.2.1.al hal, h.2.2.2.1.al hal, h.2.2.2.2.1.mv hal hh, h.2.2.2.2.2.1.there hal hh, h.2.2.2.2.2.2⟩) (fun r U U' V V' h1 hal h2 h => Got.mv r U U' V V' h1 hal h2 h) ?_
  intro p e s m args below meth c s₁ X0 hexec hbytes hml hret hlk hnm hown hh0 W hP
  obtain ⟨rfl, hB, f1, f2, hA, s1, hz, l0, l2, hp⟩ := hP
  have c1 : Steps p.tables e below (s₁.setTop (entryFrame m #[.ref a, .ref b] 2)) (s₁.setTop (mkF m 0 #[.val (.ref a), .val (.ref b)] [])) := entry rfl
  have c2 : Steps p.tables e below (s₁.setTop (entryFrame m #[.ref a, .ref b] 2)) (s₁.setTop (mkF m 6 #[.val (.ref a), .val (.ref b)] [.null, .int (Int32.ofNat A.slots.size), .int 0, .ref b, .ref a])) := c1.trans (by
    refine XS.aloadN X0.here hexec rfl (hb hbytes d0) rfl rfl ?_
    refine XS.aloadN X0.here hexec rfl (hb hbytes d1) rfl rfl ?_
    refine iconstV X0.here hexec rfl 0 (hb hbytes d2) (by decide) ?_
    refine XS.aloadN X0.here hexec rfl (hb hbytes d3) rfl rfl ?_
    refine X0.alen hexec (hA.1.mv X0.warmed.alike hh0) rfl rfl (hb hbytes d4) ?_
    refine XS.aconstNull X0.here hexec rfl (hb hbytes d5) ?_
    exact Steps.refl _)
  obtain ⟨v3, T3, X3, E3, g3⟩ := X0.callN hexec (New4.law l a D fV fC b A z 0 A.slots.size) rfl hown (wks W (initW "java/lang/String" 27 New4.yN)) (W New4.tab (by simp only [site, List.mem_cons, List.mem_append, true_or, or_true])) (W := 0) (Nat.le_of_ble_eq_true rfl) (Nat.le_of_ble_eq_true rfl) (Nat.le_refl _) (by show 0 + A.slots.size ≤ A.slots.size; omega) (g := (mkF m 6 #[.val (.ref a), .val (.ref b)] [.null, .int (Int32.ofNat A.slots.size), .int (Int32.ofNat 0), .ref b, .ref a])) rfl (by rw [hml]; rfl) c2 (argsL := [.ref b, .int (Int32.ofNat 0), .int (Int32.ofNat A.slots.size), .null]) (rest := []) rfl rfl (by show 2 * 0 + 0 ≤ _; decide) (hb hbytes d6) (⟨rfl, hB.mv X0.warmed.alike hh0, f1.al X0.warmed.alike, f2.al X0.warmed.alike, hA.mv X0.warmed.alike hh0, s1.there X0.warmed.alike hh0, hz, l0, by omega, l2, fun i hi => by rw [Nat.zero_add]; exact hp i hi⟩)
  have e0 := Got.mv _ s₁ s _ _ hh0.symm (Vm.Alike.refl _) rfl E3
  obtain rfl := e0.1
  have c4 : Steps p.tables e below (s₁.setTop (entryFrame m #[.ref a, .ref b] 2)) (T3.setTop (mkF m 9 #[.val (.ref a), .val (.ref b)] [])) := g3
  exact ⟨T3, none, _, _, _, X3, by simp, rfl, by omega, (fun _ => rfl), e0, fun fs hl => c4.trans (X3.returnOut hexec hret (hb hbytes d9) hl)⟩
theorem pays {l : Launch} {R : Room} {p : Program} {e : Env} {below : List Frame} {s : State} {sargs : Array Value} {len W : Nat} (a : Addr) (D : Cell) (fV fC : Field) (b : Addr) (A : Cell) (z : Int32) (htab : tab.before sargs s = true) (hfr : 4 ≤ R.frames) (hlo : W + 65 ≤ R.locals) :
    Back l R p e below s sargs yN len W (fun A₁ a₁ => A₁.cells + 1 ≤ R.cells ∧ A₁.slots + A.slots.size ≤ R.slots ∧ P a D fV fC b A z a₁ A₁.U) (fun A₁ _ v₁ B₁ => E a D fV fC A v₁ A₁.U B₁.U ∧ B₁.locs = A₁.locs ++ [⟨a, fC.slot⟩, ⟨a, fV.slot⟩] ∧ B₁.cells = A₁.cells + 1 ∧ B₁.slots = A₁.slots + A.slots.size) :=
  (law l a D fV fC b A z).pays htab hfr (by omega)
end New1
/-- the byte, read back as charAt reads it, is the char -/
theorem lo8_mask {x : Int32} (h0 : ¬ x < 0) (h1 : ¬ 255 < x) : lo8 x &&& 255 = x := by
  have t : ∀ k : Fin 256, lo8 (Int32.ofNat k.val) &&& 255 = Int32.ofNat k.val := by decide +kernel
  rw [Int32.lt_iff_toInt_lt] at h0 h1
  have e0 : (0 : Int32).toInt = 0 := rfl
  have e1 : (255 : Int32).toInt = 255 := rfl
  obtain ⟨k, hk⟩ : ∃ k : Nat, x.toInt = k := ⟨x.toInt.toNat, by omega⟩
  have hx : x = Int32.ofNat k := Int32.toInt_inj.mp (by rw [hk, Int32.toInt_ofNat_small (by omega)])
  rw [hx]
  exact t ⟨k, by omega⟩
end StrChars
namespace StrChars.Road
open Jvm Sem ClassFile Op Lib Jvm.Stand Jvm.Free Jvm.Free.XT
open Jvm.Lib.Cold (StaticIs)
abbrev ST : String := "java/lang/String"
/-- every table word that New1's law asks, flat -/
abbrev words : List Jvm.Cond := [.code New1.yN New1.yB 2 none, .initialized ST, .methodLink ST 27 New4.yN, .instanceMethod New4.yN,
  .code New4.yN New4.yB 6 none, .fieldLink ST 38 ST "COMPACT_STRINGS" "Z", .laysFinal ST ST "value" "[B", .fieldLink ST 9 ST "value" "[B", .laysFinal ST ST "coder" "B", .fieldLink ST 15 ST "coder" "B",
  .methodLink ST 1 Lib.objectInit, .instanceMethod Lib.objectInit, .code Lib.objectInit ⟨#[0xb1]⟩ 1 none, .methodLink ST 177 Cmp3.yN, .static Cmp3.yN, .methodLink ST 47 CodL.yN, .static CodL.yN,
  .code Cmp3.yN Cmp3.yB 6 (some (.array .byte)), .initialized U16, .arrayClass .byte, .methodLink U16 115 Cmp5.yN, .static Cmp5.yN, .code Cmp5.yN Cmp5.yB 7 (some .int), .code CodL.yN CodL.yB 2 (some .byte)]
theorem tab_of {a : Array Value} {s : State} (h : ∀ w ∈ words, w.before a s = true) : New1.tab.before a s = true := by
  have h5 : Cmp5.tab.before a s = true := unparts (wk h (.code Cmp5.yN Cmp5.yB 7 (some .int))) (wks h (.initialized Cmp5.yN.cls :: Cmp5.site))
  have hc : CodL.tab.before a s = true := unparts (wk h (.code CodL.yN CodL.yB 2 (some .byte))) (wks h (.initialized CodL.yN.cls :: CodL.site))
  have q5 : ∀ w ∈ Cmp5.tab :: words, w.before a s = true := fun w hw => (List.mem_cons.mp hw).elim (fun e => e ▸ h5) (h w)
  have h3 : Cmp3.tab.before a s = true := unparts (wk q5 (.code Cmp3.yN Cmp3.yB 6 (some (.array .byte)))) (wks q5 (.initialized Cmp3.yN.cls :: Cmp3.site))
  have q3 : ∀ w ∈ Cmp3.tab :: CodL.tab :: words, w.before a s = true := fun w hw => (List.mem_cons.mp hw).elim (fun e => e ▸ h3) fun hw => (List.mem_cons.mp hw).elim (fun e => e ▸ hc) (h w)
  have h4 : New4.tab.before a s = true := unparts (wk q3 (.code New4.yN New4.yB 6 none)) (wks q3 (.initialized New4.yN.cls :: New4.site))
  have q4 : ∀ w ∈ New4.tab :: words, w.before a s = true := fun w hw => (List.mem_cons.mp hw).elim (fun e => e ▸ h4) (h w)
  exact unparts (wk q4 (.code New1.yN New1.yB 2 none)) (wks q4 (.initialized New1.yN.cls :: New1.site))
/-- the words ride from the start Z to the walk's own state -/
theorem moved {Z s : State} {a0 args : Array Value} (hZ : Z.Warmed39 s.vm) (hw : ∀ d ∈ words, d.before a0 Z = true) : ∀ d ∈ words, d.before args s = true := fun d hd => by
  have q := hw d hd
  have t : ∀ d ∈ words, d = .arrayClass .byte ∨ (d.onTables && d.keepsFace) = true := by decide +kernel
  rcases t d hd with rfl | t
  · exact RoadKit.mvA hZ q
  · exact RoadKit.mv hZ q t
/-- WHAT COMES BACK, over the tables of the start Z: h the heap at the call, h' behind it -/
def Q (Z : State) (x : Addr) (A : Cell) (h : Heap) (v : Option Value) (h' : Heap) (L : List Loc) : Prop := v = none ∧ (∀ y ∈ L, y.base = x) ∧ RoadKit.Keep h h' [x] ∧ h'.size = h.size + 1 ∧ RoadKit.Exa Z h' x ST ∧ RoadKit.Fld Z h' x ST "value" "[B" (.ref h.size) ∧ RoadKit.Fld Z h' x ST "coder" "B" (.int 0) ∧
  (∃ V : Cell, RoadKit.Arr Z h' h.size V .byte ∧ V.vm = .none ∧ Z.vm.findClass "[B" = some V.cls ∧ V.slots.size = A.slots.size ∧ ∀ j, j < A.slots.size → V.slots[j]? = some (.int (lo8 (cv A j)))) ∧
  ∀ (O n d : String) (w : Value), RoadKit.Fld Z h x O n d w → RoadKit.slotOf Z O n d ≠ RoadKit.slotOf Z ST "value" "[B" → RoadKit.slotOf Z O n d ≠ RoadKit.slotOf Z ST "coder" "B" → RoadKit.Fld Z h' x O n d w
/-- **new String(chars) AT A CALL, IN THE ROAD'S FORM**: for specialBack behind newO: x the fresh String, b the char[] with the cell A -/
theorem back {p : Program} {l : Launch} {e : Env} {R : Room} {s : State} {args : Array Value} {below : List Frame} {len W : Nat} {Z : State} {a0 : Array Value} {h : Heap} (hZ : Z.Warmed39 s.vm) (hw : ∀ d ∈ words, d.before a0 Z = true) {kI : Nat} (wi : (Jvm.Cond.instantiable ST kI).before a0 Z = true)
    {x b : Addr} {A : Cell} {z : Int32} {v0 c0 : Value} (E : RoadKit.Exa Z h x ST) (V : RoadKit.Fld Z h x ST "value" "[B" v0) (C : RoadKit.Fld Z h x ST "coder" "B" c0) (K : RoadKit.Arr Z h b A .char) (hty : Typed .char A) (S : RoadKit.Sta Z h ST "COMPACT_STRINGS" "Z" (.int z)) (hz : ¬ z = 0)
    (l0 : 0 < A.slots.size) (l2 : A.slots.size ≤ 536870912) (hp : ∀ i, i < A.slots.size → ¬ 255 < cv A i) (hfr : 4 ≤ R.frames) (hlo : W + 65 ≤ R.locals) :
    Back l R p e below s args New1.yN len W (fun P a => a = #[.ref x, .ref b] ∧ P.U.heap = h ∧ P.cells + 1 ≤ R.cells ∧ P.slots + A.slots.size ≤ R.slots)
      (fun P _ v B => ∃ L, Q Z x A h v B.U.heap L ∧ B.locs = P.locs ++ L ∧ B.cells = P.cells + 1 ∧ B.slots = P.slots + A.slots.size) := by
  intro m meth c P g ig mk a X hg hsize hdg hW hn hp'
  obtain ⟨rfl, rfl, r1, r2⟩ := hp'
  have al : Z.vm.Alike P.U.vm := hZ.alike.trans X.warmed.alike
  obtain ⟨D, cfV, kV, iV, fV, hD, gV, stV, knV, obV, asV, slV⟩ := id V
  obtain ⟨D', cfC, kC, iC, fC, hD', gC, stC, -, -, asC, slC⟩ := id C
  cases hD.symm.trans hD'
  obtain ⟨D2, kD, e1, e2, e3, e4, e5⟩ := id E
  cases hD.symm.trans e1
  obtain ⟨c2, k2, i1, i2, i3, -⟩ := Cond.instantiable_spec wi
  cases e2.symm.trans i1
  cases e3.symm.trans i2
  obtain ⟨kU, u1, u2⟩ := al.2.2 _ _ e3
  have hB : Blank ST x D P.U := ⟨hD, ⟨knV, fun q hq => by rw [hq] at obV; cases obV⟩, by rw [al.findClass]; exact e2, kU, u1, by rw [u2]; exact i3, by rw [u2]; exact e5 i3⟩
  have F1 : Found ST "value" "[B" fV P.U := ⟨SBG.found_only al ⟨cfV, kV, iV, gV⟩, stV⟩
  have F2 : Found ST "coder" "B" fC P.U := ⟨SBG.found_only al ⟨cfC, kC, iC, gC⟩, stC⟩
  have hA : Ch b A P.U := ⟨⟨K.1, State.isArrayOf_alike al K.2.1, K.2.2, by omega⟩, hty⟩
  have hS : StaticIs P.U ST "COMPACT_STRINGS" "Z" (.int z) := by
    obtain ⟨cfS, iS, kS, fS, st, cS, t1, t2, t3, t4, t5, t6, t7⟩ := S
    exact StaticIs.there (s := { Z with heap := P.U.heap }) ⟨cfS, iS, kS, fS, st, cS, t1, t2, t3, t4, t5, (fun q => by rw [q] at t6; cases t6), t7⟩ al rfl
  obtain ⟨v, B, X', ⟨⟨hv, E', V', q1, q2, q3, q4, q5, q6, q7, q8, q9, q10, q11⟩, hl, hc, hs⟩, st⟩ := New1.pays x D fV fC b A z (tab_of (moved hZ hw)) hfr hlo m meth c P g ig mk _ X hg hsize hdg hW hn ⟨r1, r2, rfl, hB, F1, F2, hA, hS, hz, l0, l2, hp⟩
  have al' : Z.vm.Alike B.U.vm := hZ.alike.trans X'.warmed.alike
  have hsz : E'.slots.size = D.slots.size := by
    obtain ⟨-, -, -, kB, w1, w2, w3⟩ := q1
    obtain ⟨kB', y1, y2⟩ := al'.2.2 _ _ e3
    rw [q2.2.1] at w1
    cases w1.symm.trans y1
    rw [w3, e5 i3, y2]
  refine ⟨v, B, X', ⟨_, ⟨hv, ?_, ⟨by omega, fun y cy hy hn' => q10 y cy (by simpa using hn') hy, fun y cy hy => ?_⟩, q11, ⟨E', _, q1.1, by rw [q2.2.1]; exact e2, by rw [q2.2.1]; exact e3, by rw [q2.1]; exact obV, fun _ => by rw [hsz]; exact e5 i3⟩,
    ⟨E', cfV, kV, iV, fV, q1.1, gV, stV, by rw [q2.1]; exact knV, by rw [q2.1]; exact obV, by rw [q2.2.1]; exact asV, q3⟩, ⟨E', cfC, kC, iC, fC, q1.1, gC, stC, by rw [q2.1]; exact knV, by rw [q2.1]; exact obV, by rw [q2.2.1]; exact asC, q4⟩,
    ⟨V', ⟨q5.1, State.isArrayOf_alike al'.symm q5.2.1, q5.2.2.1⟩, q6, by rw [← al'.findClass]; exact q7, q8, fun j hj => by have := q9 j hj; rwa [Nat.zero_add] at this⟩, fun O n d w F n1 n2 => ?_⟩, hl, hc, hs⟩, st⟩
  · intro y hy
    simp only [List.mem_cons, List.not_mem_nil, or_false] at hy
    rcases hy with rfl | rfl <;> rfl
  · by_cases q : y = x
    · subst q
      cases hD.symm.trans hy
      exact ⟨E', q1.1, q2.2.1, q2.1, hsz⟩
    · exact ⟨cy, q10 y cy q hy, rfl, rfl, rfl⟩
  · obtain ⟨D3, cf, k, i, f, g1, g2, g3, g4, g5, g6, g7⟩ := F
    cases hD.symm.trans g1
    simp only [RoadKit.slotOf, g2, gV, gC, Option.map_some, Option.getD_some] at n1 n2
    exact ⟨E', cf, k, i, f, q1.1, g2, g3, by rw [q2.1]; exact g4, by rw [q2.1]; exact g5, by rw [q2.2.1]; exact g6, by rw [q2.2.2 f.slot (by simp [n1, n2])]; exact g7⟩
end StrChars.Road
namespace StrChars.Road
open Jvm Sem ClassFile Op Lib Jvm.Stand Jvm.Free Jvm.Free.XT
/-- WHAT COMES BACK, the byte[] as a list of values -/
def QA (Z : State) (x : Addr) (zn : Int32) (cs : List Int32) (h : Heap) (v : Option Value) (h' : Heap) (L : List Loc) : Prop := v = none ∧ (∀ y ∈ L, y.base = x) ∧ RoadKit.Keep h h' [x] ∧ h'.size = h.size + 1 ∧ RoadKit.Exa Z h' x ST ∧ RoadKit.Fld Z h' x ST "value" "[B" (.ref h.size) ∧ RoadKit.Fld Z h' x ST "coder" "B" (.int 0) ∧
  (∃ kb, Z.vm.findClass "[B" = some kb ∧ RoadKit.Arv Z h' h.size kb .byte zn (cs.map fun c => .int (lo8 c)) (.int 0)) ∧
  ∀ (O n d : String) (w : Value), RoadKit.Fld Z h x O n d w → RoadKit.slotOf Z O n d ≠ RoadKit.slotOf Z ST "value" "[B" → RoadKit.slotOf Z O n d ≠ RoadKit.slotOf Z ST "coder" "B" → RoadKit.Fld Z h' x O n d w
/-- **new String(chars) AT A CALL, THE ARRAYS AS LISTS**: the char[] at b holds cs, not empty, no char above 255 -/
theorem backArv {p : Program} {l : Launch} {e : Env} {R : Room} {s : State} {args : Array Value} {below : List Frame} {len W : Nat} {Z : State} {a0 : Array Value} {h : Heap} (hZ : Z.Warmed39 s.vm) (hw : ∀ d ∈ words, d.before a0 Z = true) {kI : Nat} (wi : (Jvm.Cond.instantiable ST kI).before a0 Z = true)
    {x b : Addr} {k : ClassId} {zn z : Int32} {cs : List Int32} {dv v0 c0 : Value} (E : RoadKit.Exa Z h x ST) (V : RoadKit.Fld Z h x ST "value" "[B" v0) (C : RoadKit.Fld Z h x ST "coder" "B" c0) (K : RoadKit.Arv Z h b k .char zn (cs.map Value.int) dv) (S : RoadKit.Sta Z h ST "COMPACT_STRINGS" "Z" (.int z)) (hz : ¬ z = 0)
    (hlen : zn.toNatClampNeg = cs.length) (h0 : 0 < cs.length) (hbig : cs.length ≤ 536870912) (hall : ∀ c ∈ cs, ¬ 255 < c) (hfr : 4 ≤ R.frames) (hlo : W + 65 ≤ R.locals) :
    Back l R p e below s args New1.yN len W (fun P a => a = #[.ref x, .ref b] ∧ P.U.heap = h ∧ P.cells + 1 ≤ R.cells ∧ P.slots + cs.length ≤ R.slots)
      (fun P _ v B => ∃ L, QA Z x zn cs h v B.U.heap L ∧ B.locs = P.locs ++ L ∧ B.cells = P.cells + 1 ∧ B.slots = P.slots + cs.length) := by
  obtain ⟨A, K1, K2, K3, K4, K5, K6⟩ := K
  have e : A.slots.size = cs.length := K3.trans hlen
  have hat : ∀ (i : Nat) (hi : i < cs.length), A.slots[i]? = some (.int cs[i]) := fun i hi => by rw [K5 i (by omega)]; simp [List.getD_eq_getElem?_getD, hi]
  have hcv : ∀ (i : Nat) (hi : i < cs.length), cv A i = cs[i] := fun i hi => by unfold cv; rw [hat i hi]
  have hty : Typed .char A := fun i v hv => by
    have hi : i < A.slots.size := (Array.getElem?_eq_some_iff.mp hv).1
    have q := K5 i hi
    rw [hv] at q
    rw [Option.some.inj q]
    exact K6 i hi
  refine Back.mono (back hZ hw wi E V C K1 hty S hz (by omega) (by omega) (fun i hi => by rw [hcv i (by omega)]; exact hall _ (List.getElem_mem _)) hfr hlo) (fun P a hp => ⟨hp.1, hp.2.1, hp.2.2.1, by rw [e]; exact hp.2.2.2⟩) (fun P a v B hp hq => ?_)
  obtain ⟨L, ⟨q1, q2, q3, q4, q5, q6, q7, ⟨V', v1, v2, v3, v4, v5⟩, q9⟩, hl, hc, hs⟩ := hq
  refine ⟨L, ⟨q1, q2, q3, q4, q5, q6, q7, ⟨V'.cls, v3, V', v1, rfl, by rw [v4, e, hlen], K4, fun i hi => ?_, fun i hi => ?_⟩, q9⟩, hl, hc, by rw [hs, e]⟩
  · have hi' : i < cs.length := by omega
    rw [v5 i (by omega), hcv i hi']; simp [List.getD_eq_getElem?_getD, hi']
  · have hi' : i < cs.length := by omega
    simp only [List.getD_eq_getElem?_getD, List.getElem?_map, List.getElem?_eq_getElem hi', Option.map_some, Option.getD_some]
    exact fits_lo8 _
end StrChars.Road
namespace StrChars.Road
open Jvm Sem ClassFile Op Lib Jvm.Stand Jvm.Free Jvm.Free.XT
/-- WHAT COMES BACK, in the writer's own shape -/
def QV (Z : State) (x : Addr) (N : Int32) (bs : List Int32) (h : Heap) (n0 : Nat) (v : Option Value) (h' : Heap) (L : List Loc) : Prop := v = none ∧ RoadKit.Fr n0 L ∧ RoadKit.Keep h h' [x] ∧ RoadKit.Exa Z h' x ST ∧ RoadKit.Fld Z h' x ST "coder" "B" (.int 0) ∧
  ∃ (t : Addr) (kb : ClassId), n0 ≤ t ∧ h.size ≤ t ∧ ¬ t = x ∧ RoadKit.Fld Z h' x ST "value" "[B" (.ref t) ∧ RoadKit.Arv Z h' t kb .byte N (bs.map Value.int) (.int 0)
/-- **new String(chars) AT A CALL, FOR THE WRITER**: a char[] of n known ints, each 0 to 255 -/
theorem backV {p : Program} {l : Launch} {e : Env} {R : Room} {s : State} {args : Array Value} {below : List Frame} {len W : Nat} {Z : State} {a0 : Array Value} {h : Heap} (hZ : Z.Warmed39 s.vm) (hw : ∀ d ∈ words, d.before a0 Z = true) {kI : Nat} (wi : (Jvm.Cond.instantiable ST kI).before a0 Z = true)
    {x b : Addr} {kC : ClassId} {cs bs : List Int32} {d v0 c0 : Value} {z N : Int32} {n n0 : Nat} (hx0 : n0 ≤ x) (hh0 : n0 ≤ h.size) (E : RoadKit.Exa Z h x ST) (V : RoadKit.Fld Z h x ST "value" "[B" v0) (C : RoadKit.Fld Z h x ST "coder" "B" c0) (K : RoadKit.Arv Z h b kC .char N (cs.map Value.int) d) (S : RoadKit.Sta Z h ST "COMPACT_STRINGS" "Z" (.int z)) (hz : ¬ z = 0)
    (hn : cs.length = n) (hN : N = Int32.ofNat n) (l0 : 0 < n) (l2 : n ≤ 4000) (hp : ∀ c ∈ cs, ¬ c < 0 ∧ ¬ (255 : Int32) < c) (hb : bs = cs.map (fun c => c.toInt8.toInt32)) (hfr : 4 ≤ R.frames) (hlo : W + 65 ≤ R.locals) :
    Back l R p e below s args (⟨"java/lang/String", "<init>", "([C)V"⟩ : MethodName) len W (fun P a => a = #[.ref x, .ref b] ∧ P.U.heap = h ∧ P.cells + 1 ≤ R.cells ∧ P.slots + n ≤ R.slots)
      (fun P _ v B => ∃ L, QV Z x N bs h n0 v B.U.heap L ∧ B.locs = P.locs ++ L ∧ B.cells = P.cells + 1 ∧ B.slots = P.slots + n) := by
  subst hn hN hb
  refine Back.mono (backArv hZ hw wi E V C K S hz (n32 (by omega)) l0 (by omega) (fun c hc => (hp c hc).2) hfr hlo) (fun P a hp => hp) (fun P a v B hp hq => ?_)
  obtain ⟨L, ⟨q1, q2, q3, q4, q5, q6, q7, ⟨kb, v1, v2⟩, q9⟩, hl, hc, hs⟩ := hq
  exact ⟨L, ⟨q1, fun y hy => by rw [q2 y hy]; exact hx0, q3, q5, q7, h.size, kb, hh0, Nat.le_refl _, Nat.ne_of_gt E.lt, q6, by rw [List.map_map]; exact v2⟩, hl, hc, hs⟩
end StrChars.Road
namespace StrChars
open Jvm Sem ClassFile Op Lib Jvm.Stand Jvm.Free.XT Jvm.Free.ALB Jvm.Free.JM Jvm.Free
open Jvm.Lib.Cold (StaticIs)
def hi8 (x : Int32) : Int32 := lo8 (x >>> ((8 : Int32) &&& 31))
/-- what StringUTF16.getChar makes of two bytes -/
def pairCh (u v : Int32) : Int32 := (((u &&& 255) <<< ((0 : Int32) &&& 31)) ||| ((v &&& 255) <<< ((8 : Int32) &&& 31))).toUInt32.toUInt16.toUInt32.toInt32
theorem lo8_and (x : Int32) : (lo8 x &&& 255).toBitVec.toNat = x.toBitVec.toNat % 256 := by
  have h : (lo8 x).toBitVec = (x.toBitVec.signExtend 8).signExtend 32 := by rw [lo8, Int8.toBitVec_toInt32, Int32.toBitVec_toInt8]
  rw [Int32.toBitVec_and, BitVec.toNat_and, h]
  have e : ((x.toBitVec.signExtend 8).signExtend 32).toNat % 256 = x.toBitVec.toNat % 256 := by
    rw [BitVec.toNat_signExtend]
    have hlt := x.toBitVec.isLt
    simp only [BitVec.toNat_setWidth, BitVec.toNat_signExtend]
    split <;> split <;> omega
  rw [← e]
  exact Nat.and_two_pow_sub_one_eq_mod _ 8
theorem pair_says {c : Int32} (h0 : ¬ c < 0) (h1 : ¬ 65535 < c) : pairCh (lo8 c) (hi8 c) = c := by
  rw [Int32.lt_iff_toInt_lt] at h0 h1
  have e0 : (0 : Int32).toInt = 0 := rfl
  have e1 : (65535 : Int32).toInt = 65535 := rfl
  have hc : c.toInt = c.toBitVec.toNat := by
    have := c.toBitVec.isLt
    have e : c.toInt = c.toBitVec.toInt := rfl
    rw [e] at h0 h1
    rw [e]
    rw [BitVec.toInt_eq_toNat_cond] at h0 h1 ⊢
    split at h0 <;> split <;> omega
  have hn : c.toBitVec.toNat < 65536 := by omega
  have a1 := lo8_and c
  have a2 : (hi8 c &&& 255).toBitVec.toNat = c.toBitVec.toNat / 256 := by
    rw [hi8, lo8_and]
    have e : ((8 : Int32) &&& 31) = 8 := by decide
    rw [e, Int32.toBitVec_shiftRight]
    have e2 : ((8 : Int32).toBitVec.smod 32) = 8#32 := by decide
    rw [e2, BitVec.sshiftRight_eq', BitVec.toNat_sshiftRight_of_msb_false (by rw [BitVec.msb_eq_false_iff_two_mul_lt]; omega)]
    show c.toBitVec.toNat >>> 8 % 256 = _
    rw [Nat.shiftRight_eq_div_pow]
    omega
  unfold pairCh
  apply Int32.toBitVec_inj.mp
  apply BitVec.eq_of_toNat_eq
  have f0 : ((0 : Int32) &&& 31) = 0 := by decide
  have f8 : ((8 : Int32) &&& 31) = 8 := by decide
  rw [f0, f8]
  have g : (((lo8 c &&& 255) <<< (0 : Int32)) ||| ((hi8 c &&& 255) <<< (8 : Int32))).toBitVec.toNat = c.toBitVec.toNat := by
    rw [Int32.toBitVec_or, Int32.toBitVec_shiftLeft, Int32.toBitVec_shiftLeft]
    have s0 : ((0 : Int32).toBitVec.smod 32) = 0#32 := by decide
    have s8 : ((8 : Int32).toBitVec.smod 32) = 8#32 := by decide
    rw [s0, s8, BitVec.toNat_or]
    simp only [BitVec.shiftLeft_eq', BitVec.toNat_shiftLeft, a1, a2]
    show (c.toBitVec.toNat % 256) <<< 0 % 2 ^ 32 ||| (c.toBitVec.toNat / 256) <<< 8 % 2 ^ 32 = _
    rw [Nat.shiftLeft_zero, Nat.mod_eq_of_lt (show c.toBitVec.toNat % 256 < 2 ^ 32 by omega), Nat.mod_eq_of_lt (show (c.toBitVec.toNat / 256) <<< 8 < 2 ^ 32 by rw [Nat.shiftLeft_eq]; omega), Nat.or_comm, ← Nat.shiftLeft_add_eq_or_of_lt (by omega), Nat.shiftLeft_eq]
    omega
  show BitVec.toNat (((((lo8 c &&& 255) <<< (0 : Int32)) ||| ((hi8 c &&& 255) <<< (8 : Int32))).toBitVec.setWidth 16).setWidth 32) = _
  rw [BitVec.toNat_setWidth, BitVec.toNat_setWidth, g]
  omega
end StrChars
namespace StrChars
open Jvm Sem ClassFile Op Lib Jvm.Stand Jvm.Free.XT Jvm.Free.ALB Jvm.Free.JM Jvm.Free
open Jvm.Lib.Cold (StaticIs)
/-- the array's cell V codes the n chars f 0 .. f (n - 1) by the coder cd, as the JDK does: coder 1 just where some char is above 255 -/
def Cod (cd : Int32) (n : Nat) (f : Nat → Int32) (V : Cell) : Prop := (cd = 0 ∧ V.slots.size = n ∧ ∀ j, j < n → V.slots[j]? = some (.int (lo8 (f j))) ∧ ¬ 255 < f j) ∨ (cd = 1 ∧ V.slots.size = 2 * n ∧ (∀ j, j < n → V.slots[2 * j]? = some (.int (lo8 (f j))) ∧ V.slots[2 * j + 1]? = some (.int (hi8 (f j)))) ∧ ∃ j, j < n ∧ 255 < f j)
/-- **x is a String of the n chars f 0 .. f (n - 1)**, Latin-1 or UTF-16; its array at t has the cell V -/
def Txt (x t : Addr) (V : Cell) (cd : Int32) (n : Nat) (f : Nat → Int32) (U : State) : Prop := Exact "java/lang/String" x U ∧ Has x "java/lang/String" "value" "[B" (.ref t) U ∧ Has x "java/lang/String" "coder" "B" (.int cd) U ∧ XT.Arr .byte t V U ∧ Cod cd n f V ∧ ∀ j, j < n → ¬ f j < 0 ∧ ¬ 65535 < f j
theorem Txt.mv {x t : Addr} {V : Cell} {cd : Int32} {n : Nat} {f : Nat → Int32} {U U' : State} (h : Txt x t V cd n f U) (hal : U.vm.Alike U'.vm) (hh : U'.heap = U.heap) : Txt x t V cd n f U' := ⟨h.1.mv hal hh, h.2.1.mv hal hh, h.2.2.1.mv hal hh, h.2.2.2.1.mv hal hh, h.2.2.2.2⟩
end StrChars
namespace StrChars.Road
open Jvm Sem ClassFile Op Lib Jvm.Stand Jvm.Free Jvm.Free.XT
open Jvm.Lib.Cold (StaticIs)
theorem consq {a : Array Value} {s : State} {c : Jvm.Cond} {L : List Jvm.Cond} (h0 : c.before a s = true) (h : ∀ w ∈ L, w.before a s = true) : ∀ w ∈ c :: L, w.before a s = true := fun w hw => (List.mem_cons.mp hw).elim (fun e => e ▸ h0) (h w)
/-- the bytes of the chars cs, low before high -/
def wideBytes : List Int32 → List Value
  | [] => []
  | c :: cs => .int (lo8 c) :: .int (hi8 c) :: wideBytes cs
theorem wide_lo (d : Value) : ∀ (cs : List Int32) (j : Nat), j < cs.length → (wideBytes cs).getD (2 * j) d = .int (lo8 (cs.getD j 0))
  | [], j, h => absurd h (Nat.not_lt_zero j)
  | c :: cs, 0, _ => rfl
  | c :: cs, j + 1, h => by
    have q := wide_lo d cs j (by simpa using h)
    rw [show 2 * (j + 1) = 2 * j + 1 + 1 from by omega]
    simpa [wideBytes] using q
theorem wide_hi (d : Value) : ∀ (cs : List Int32) (j : Nat), j < cs.length → (wideBytes cs).getD (2 * j + 1) d = .int (hi8 (cs.getD j 0))
  | [], j, h => absurd h (Nat.not_lt_zero j)
  | c :: cs, 0, _ => rfl
  | c :: cs, j + 1, h => by
    have q := wide_hi d cs j (by simpa using h)
    rw [show 2 * (j + 1) + 1 = 2 * j + 1 + 1 + 1 from by omega]
    simpa [wideBytes] using q
theorem low_at (d : Value) (cs : List Int32) (j : Nat) (h : j < cs.length) : (cs.map fun c => Value.int (lo8 c)).getD j d = .int (lo8 (cs.getD j 0)) := by
  simp [List.getD_eq_getElem?_getD, h]
/-- an array of N2 bytes vs codes the chars cs by the coder cd -/
def CodA (cs : List Int32) (cd N2 : Int32) (vs : List Value) : Prop := (cd = 0 ∧ N2 = Int32.ofNat cs.length ∧ vs = (cs.map fun c => Value.int (lo8 c)) ∧ ∀ c ∈ cs, ¬ 255 < c) ∨ (cd = 1 ∧ N2 = Int32.ofNat (2 * cs.length) ∧ vs = wideBytes cs ∧ ∃ c ∈ cs, 255 < c)
theorem CodA.cod {cs : List Int32} {cd N2 : Int32} {vs : List Value} {V : Cell} (h : CodA cs cd N2 vs) (hn : 2 * cs.length < 2 ^ 31) (hs : V.slots.size = N2.toNatClampNeg) (hv : RoadKit.Has V vs (.int 0)) : Cod cd cs.length (fun j => cs.getD j 0) V := by
  rcases h with ⟨rfl, rfl, rfl, h⟩ | ⟨rfl, rfl, rfl, c, hc, hw⟩
  · rw [n32 (by omega)] at hs
    exact Or.inl ⟨rfl, hs, fun j hj => ⟨by rw [hv j (by omega), low_at _ _ _ hj], by
      have e : cs.getD j 0 = cs[j] := by simp [List.getD_eq_getElem?_getD, hj]
      show ¬ 255 < cs.getD j 0
      rw [e]; exact h _ (List.getElem_mem _)⟩⟩
  · rw [n32 (by omega)] at hs
    obtain ⟨j, hj, rfl⟩ := List.getElem_of_mem hc
    exact Or.inr ⟨rfl, hs, fun j hj => ⟨by rw [hv _ (by omega), wide_lo _ _ _ hj], by rw [hv _ (by omega), wide_hi _ _ _ hj]⟩, j, hj, by
      have e : cs.getD j 0 = cs[j] := by simp [List.getD_eq_getElem?_getD, hj]
      show 255 < cs.getD j 0
      rw [e]; exact hw⟩
/-- an object of exactly java/lang/String, its two fields found: as the laws ask it -/
theorem strObj {Z U : State} {a0 : Array Value} {kI : Nat} (wi : (Jvm.Cond.instantiable ST kI).before a0 Z = true) (al : Z.vm.Alike U.vm) {x : Addr} {v0 c0 : Value} (E : RoadKit.Exa Z U.heap x ST) (V : RoadKit.Fld Z U.heap x ST "value" "[B" v0) (C : RoadKit.Fld Z U.heap x ST "coder" "B" c0) :
    ∃ (D : Cell) (fV fC : Field), Blank ST x D U ∧ Found ST "value" "[B" fV U ∧ Found ST "coder" "B" fC U ∧ D.slots[fV.slot]? = some v0 ∧ D.slots[fC.slot]? = some c0 ∧ RoadKit.slotOf Z ST "value" "[B" = fV.slot ∧ RoadKit.slotOf Z ST "coder" "B" = fC.slot := by
  obtain ⟨D, cfV, kV, iV, fV, hD, gV, stV, knV, obV, asV, slV⟩ := V
  obtain ⟨D', cfC, kC, iC, fC, hD', gC, stC, -, -, asC, slC⟩ := C
  cases hD.symm.trans hD'
  obtain ⟨D2, kD, e1, e2, e3, e4, e5⟩ := E
  cases hD.symm.trans e1
  obtain ⟨c2, k2, i1, i2, i3, -⟩ := Cond.instantiable_spec wi
  cases e2.symm.trans i1
  cases e3.symm.trans i2
  obtain ⟨kU, u1, u2⟩ := al.2.2 _ _ e3
  exact ⟨D, fV, fC, ⟨hD, ⟨knV, fun q hq => by rw [hq] at obV; cases obV⟩, by rw [al.findClass]; exact e2, kU, u1, by rw [u2]; exact i3, by rw [u2]; exact e5 i3⟩, ⟨SBG.found_only al ⟨cfV, kV, iV, gV⟩, stV⟩, ⟨SBG.found_only al ⟨cfC, kC, iC, gC⟩, stC⟩, slV, slC, by simp [RoadKit.slotOf, gV], by simp [RoadKit.slotOf, gC]⟩
theorem sta_is {Z U : State} (al : Z.vm.Alike U.vm) {C n d : String} {v : Value} (S : RoadKit.Sta Z U.heap C n d v) : StaticIs U C n d v := by
  obtain ⟨cfS, iS, kS, fS, st, cS, t1, t2, t3, t4, t5, t6, t7⟩ := S
  exact StaticIs.there (s := { Z with heap := U.heap }) ⟨cfS, iS, kS, fS, st, cS, t1, t2, t3, t4, t5, (fun q => by rw [q] at t6; cases t6), t7⟩ al rfl
end StrChars.Road
namespace StrChars
open Jvm Sem ClassFile Op Lib Jvm.Stand Jvm.Free.XT Jvm.Free.ALB Jvm.Free.JM Jvm.Free
open Jvm.Lib.Cold (StaticIs)
/-- what place i of a byte[]'s cell holds -/
def yv (A : Cell) (i : Nat) : Int32 := match A.slots[i]? with | some (.int x) => x | _ => 0
theorem yv_get {a : Addr} {A : Cell} {U : State} (h : XT.Arr .byte a A U) (ht : Typed .byte A) {i : Nat} (hi : i < A.slots.size) : A.slots[i]? = some (.int (yv A i)) := by
  have e := Array.getElem?_eq_getElem hi
  have f := ht i _ e
  unfold yv; rw [e]
  generalize A.slots[i] = v at f
  cases v <;> simp [fits] at f ⊢
/-- the two arrays are equal, place for place -/
def EqC (A B : Cell) : Prop := A.slots.size = B.slots.size ∧ ∀ i, i < A.slots.size → yv A i = yv B i
/-- a boolean that says whether p -/
def Says01 (q : Prop) (r : Option Value) (s u : State) : Prop := ∃ v : Int32, r = some (.int v) ∧ u.heap = s.heap ∧ ((v = 1 ∧ q) ∨ (v = 0 ∧ ¬ q))
theorem Says01.mv {q : Prop} : ∀ r (U U' V V' : State), U'.heap = U.heap → V.vm.Alike V'.vm → V'.heap = V.heap → Says01 q r U V → Says01 q r U' V' :=
  fun r U U' V V' h1 _ h2 ⟨v, a, b, c⟩ => ⟨v, a, by rw [h1, h2]; exact b, c⟩
namespace LEq
def yN : MethodName := ⟨"java/lang/StringLatin1", "equals", "([B[B)Z"⟩
abbrev yB : ByteArray := jdk_43_method_13_code
theorem d0 : decode yB 0 = .ok (.aload_n 0, 1) := by decide +kernel
theorem d1 : decode yB 1 = .ok (.arraylength, 1) := by decide +kernel
theorem d2 : decode yB 2 = .ok (.aload_n 1, 1) := by decide +kernel
theorem d3 : decode yB 3 = .ok (.arraylength, 1) := by decide +kernel
theorem d4 : decode yB 4 = .ok (.if_icmp (.ne) 30, 3) := by decide +kernel
theorem d7 : decode yB 7 = .ok (.iconst 0, 1) := by decide +kernel
theorem d8 : decode yB 8 = .ok (.istore_n 2, 1) := by decide +kernel
theorem d9 : decode yB 9 = .ok (.iload_n 2, 1) := by decide +kernel
theorem d10 : decode yB 10 = .ok (.aload_n 0, 1) := by decide +kernel
theorem d11 : decode yB 11 = .ok (.arraylength, 1) := by decide +kernel
theorem d12 : decode yB 12 = .ok (.if_icmp (.ge) 20, 3) := by decide +kernel
theorem d15 : decode yB 15 = .ok (.aload_n 0, 1) := by decide +kernel
theorem d16 : decode yB 16 = .ok (.iload_n 2, 1) := by decide +kernel
theorem d17 : decode yB 17 = .ok (.baload, 1) := by decide +kernel
theorem d18 : decode yB 18 = .ok (.aload_n 1, 1) := by decide +kernel
theorem d19 : decode yB 19 = .ok (.iload_n 2, 1) := by decide +kernel
theorem d20 : decode yB 20 = .ok (.baload, 1) := by decide +kernel
theorem d21 : decode yB 21 = .ok (.if_icmp (.eq) 5, 3) := by decide +kernel
theorem d24 : decode yB 24 = .ok (.iconst 0, 1) := by decide +kernel
theorem d25 : decode yB 25 = .ok (.ireturn, 1) := by decide +kernel
theorem d26 : decode yB 26 = .ok (.iinc 2 1, 3) := by decide +kernel
theorem d29 : decode yB 29 = .ok (.goto (-20), 3) := by decide +kernel
theorem d32 : decode yB 32 = .ok (.iconst 1, 1) := by decide +kernel
theorem d33 : decode yB 33 = .ok (.ireturn, 1) := by decide +kernel
theorem d34 : decode yB 34 = .ok (.iconst 0, 1) := by decide +kernel
theorem d35 : decode yB 35 = .ok (.ireturn, 1) := by decide +kernel
def site : List Cond := []
def tab : Cond := tabOf yN yB 3 (some .boolean) site
def P (a : Addr) (A : Cell) (b : Addr) (B : Cell) (args : Array Value) (s : State) : Prop := args = #[.ref a, .ref b] ∧ XT.Arr .byte a A s ∧ Typed .byte A ∧ XT.Arr .byte b B s ∧ Typed .byte B
/-- whether two byte[] are equal, place for place -/
theorem law (l : Launch) (a : Addr) (A : Cell) (b : Addr) (B : Cell) : Law l yN 2 2 0 0 yB 3 (some .boolean) site (P a A b B) (Says01 (EqC A B)) [] 0 0 := by
  refine Law.of_walk (plainFor_of_name (by decide +kernel)) (by decide +kernel) (by decide +kernel) (by decide) (fun _ _ h => by rw [h.1]; rfl) (fun _ U U' hal hh h => ⟨h.1, h.2.1.mv hal hh, h.2.2.1, h.2.2.2.1.mv hal hh, h.2.2.2.2⟩) (fun r U U' V V' h1 hal h2 h => Says01.mv r U U' V V' h1 hal h2 h) ?_
  intro p e s m args below meth c s₁ X0 hexec hbytes hml hret hlk hnm hown hh0 W hP
  obtain ⟨rfl, hA, tA, hB, tB⟩ := hP
  have a31 := hA.2.2.2
  have b31 := hB.2.2.2
  have hA0 := hA.mv X0.warmed.alike hh0
  have hB0 := hB.mv X0.warmed.alike hh0
  have c1 : Steps p.tables e below (s₁.setTop (entryFrame m #[.ref a, .ref b] 3)) (s₁.setTop (mkF m 0 #[.val (.ref a), .val (.ref b), .unset] [])) := entry rfl
  have c2 : Steps p.tables e below (s₁.setTop (entryFrame m #[.ref a, .ref b] 3)) (s₁.setTop (mkF m 4 #[.val (.ref a), .val (.ref b), .unset] [.int (Int32.ofNat B.slots.size), .int (Int32.ofNat A.slots.size)])) := c1.trans (by
    refine XS.aloadN X0.here hexec rfl (hb hbytes d0) rfl rfl ?_
    refine X0.alen hexec hA0 rfl rfl (hb hbytes d1) ?_
    refine XS.aloadN X0.here hexec rfl (hb hbytes d2) rfl rfl ?_
    refine X0.alen hexec hB0 rfl rfl (hb hbytes d3) ?_
    exact Steps.refl _)
  by_cases hs : A.slots.size = B.slots.size
  · have c3 : Steps p.tables e below (s₁.setTop (entryFrame m #[.ref a, .ref b] 3)) (s₁.setTop (mkF m 9 #[.val (.ref a), .val (.ref b), .val (.int 0)] [])) := c2.trans (by
      refine XS.icmpNo X0.here hexec rfl (hb hbytes d4) rfl (ii_ne_f (by rw [hs])) ?_
      refine iconstV X0.here hexec rfl 0 (hb hbytes d7) (by decide) ?_
      refine XS.istoreN X0.here hexec rfl (hb hbytes d8) rfl rfl ?_
      exact Steps.refl _)
    have loop : ∀ (r i : Nat), i + r = A.slots.size → (∀ j, j < i → yv A j = yv B j) → Steps p.tables e below (s₁.setTop (entryFrame m #[.ref a, .ref b] 3)) (s₁.setTop (mkF m 9 #[.val (.ref a), .val (.ref b), .val (.int (Int32.ofNat i))] [])) → ∃ (pc : Nat) (Ls : Array Slot) (v : Int32), (pc = 25 ∨ pc = 33) ∧ ((v = 1 ∧ EqC A B) ∨ (v = 0 ∧ ¬ EqC A B)) ∧ Steps p.tables e below (s₁.setTop (entryFrame m #[.ref a, .ref b] 3)) (s₁.setTop (mkF m pc Ls [.int v])) := by
      intro r
      induction r with
      | zero =>
        intro i hi he cl
        exact ⟨33, _, 1, Or.inr rfl, Or.inl ⟨rfl, hs, fun j hj => he j (by omega)⟩, cl.trans (by
          refine XS.iloadN X0.here hexec rfl (hb hbytes d9) rfl ?_
          refine XS.aloadN X0.here hexec rfl (hb hbytes d10) rfl rfl ?_
          refine X0.alen hexec hA0 rfl rfl (hb hbytes d11) ?_
          refine XS.icmpYes X0.here hexec rfl (pc0 := 12) rfl (hb hbytes d12) rfl (ii_ge_t (nlt32 (by omega) (by omega))) (by decide) rfl ?_
          refine iconstV X0.here hexec rfl 1 (hb hbytes d32) (by decide) ?_
          exact Steps.refl _)⟩
      | succ r ih =>
        intro i hi he cl
        have c4 : Steps p.tables e below (s₁.setTop (entryFrame m #[.ref a, .ref b] 3)) (s₁.setTop (mkF m 21 #[.val (.ref a), .val (.ref b), .val (.int (Int32.ofNat i))] [.int (yv B i), .int (yv A i)])) := cl.trans (by
          refine XS.iloadN X0.here hexec rfl (hb hbytes d9) rfl ?_
          refine XS.aloadN X0.here hexec rfl (hb hbytes d10) rfl rfl ?_
          refine X0.alen hexec hA0 rfl rfl (hb hbytes d11) ?_
          refine XS.icmpNo X0.here hexec rfl (hb hbytes d12) rfl (ii_ge_f (lt32 (by omega) (by omega))) ?_
          refine XS.aloadN X0.here hexec rfl (hb hbytes d15) rfl rfl ?_
          refine XS.iloadN X0.here hexec rfl (hb hbytes d16) rfl ?_
          refine X0.aget hexec hA0 rfl (yv_get hA tA (i := i) (by omega)) rfl rfl (hb hbytes d17) ?_
          refine XS.aloadN X0.here hexec rfl (hb hbytes d18) rfl rfl ?_
          refine XS.iloadN X0.here hexec rfl (hb hbytes d19) rfl ?_
          refine X0.aget hexec hB0 rfl (yv_get hB tB (i := i) (by omega)) rfl rfl (hb hbytes d20) ?_
          exact Steps.refl _)
        by_cases hv : yv A i = yv B i
        · have c5 : Steps p.tables e below (s₁.setTop (entryFrame m #[.ref a, .ref b] 3)) (s₁.setTop (mkF m 9 #[.val (.ref a), .val (.ref b), .val (.int (Int32.ofNat i + 1))] [])) := c4.trans (by
            refine XS.icmpYes X0.here hexec rfl (pc0 := 21) rfl (hb hbytes d21) rfl (ii_eq_t hv) (by decide) rfl ?_
            refine iincV X0.here hexec rfl 1 (hb hbytes d26) (by decide) rfl rfl ?_
            refine XS.goto X0.here hexec rfl (pc0 := 29) rfl (hb hbytes d29) (by decide) rfl ?_
            exact Steps.refl _)
          rw [succ32] at c5
          exact ih (i + 1) (by omega) (fun j hj => by
            by_cases e : j = i
            · rw [e]; exact hv
            · exact he j (by omega)) c5
        · exact ⟨25, _, 0, Or.inl rfl, Or.inr ⟨rfl, fun q => hv (q.2 i (by omega))⟩, c4.trans (by
            refine XS.icmpNo X0.here hexec rfl (hb hbytes d21) rfl (ii_eq_f hv) ?_
            refine iconstV X0.here hexec rfl 0 (hb hbytes d24) (by decide) ?_
            exact Steps.refl _)⟩
    obtain ⟨pc, Ls, v, hpc, hv, cz⟩ := loop A.slots.size 0 (by omega) (fun j hj => absurd hj (Nat.not_lt_zero j)) c3
    have nv : narrow .boolean (.int v) = .int v := by rcases hv with ⟨rfl, -⟩ | ⟨rfl, -⟩ <;> rfl
    rcases hpc with rfl | rfl
    · exact ⟨s₁, some (.int v), _, _, _, X0, rfl, rfl, rfl, (fun h => by cases h), ⟨v, rfl, hh0, hv⟩, fun fs hl => cz.trans (X0.ireturnOut hexec hret nv (Or.inr (Or.inl rfl)) (hb hbytes d25) hl)⟩
    · exact ⟨s₁, some (.int v), _, _, _, X0, rfl, rfl, rfl, (fun h => by cases h), ⟨v, rfl, hh0, hv⟩, fun fs hl => cz.trans (X0.ireturnOut hexec hret nv (Or.inr (Or.inl rfl)) (hb hbytes d33) hl)⟩
  · have c3 : Steps p.tables e below (s₁.setTop (entryFrame m #[.ref a, .ref b] 3)) (s₁.setTop (mkF m 35 #[.val (.ref a), .val (.ref b), .unset] [.int 0])) := c2.trans (by
      refine XS.icmpYes X0.here hexec rfl (pc0 := 4) rfl (hb hbytes d4) rfl (ii_ne_t (ne32 a31 b31 hs)) (by decide) rfl ?_
      refine iconstV X0.here hexec rfl 0 (hb hbytes d34) (by decide) ?_
      exact Steps.refl _)
    exact ⟨s₁, some (.int 0), _, _, _, X0, rfl, rfl, rfl, (fun h => by cases h), ⟨0, rfl, hh0, Or.inr ⟨rfl, fun q => hs q.1⟩⟩, fun fs hl => c3.trans (X0.ireturnOut hexec hret rfl (Or.inr (Or.inl rfl)) (hb hbytes d35) hl)⟩
end LEq
theorem Cod.ty {cd : Int32} {n : Nat} {f : Nat → Int32} {V : Cell} (h : Cod cd n f V) : Typed .byte V := fun i v hv => by
  have hi : i < V.slots.size := (Array.getElem?_eq_some_iff.mp hv).1
  rcases h with ⟨-, k1, k2⟩ | ⟨-, k1, k2, -⟩
  · rw [(k2 i (by omega)).1] at hv; cases hv; exact fits_lo8 _
  · rcases Nat.mod_two_eq_zero_or_one i with e | e
    · obtain ⟨j, rfl⟩ : ∃ j, i = 2 * j := ⟨i / 2, by omega⟩
      rw [(k2 j (by omega)).1] at hv; cases hv; exact fits_lo8 _
    · obtain ⟨j, rfl⟩ : ∃ j, i = 2 * j + 1 := ⟨i / 2, by omega⟩
      rw [(k2 j (by omega)).2] at hv; cases hv; exact fits_lo8 _
/-- the same text -/
def SameT (n : Nat) (f : Nat → Int32) (k : Nat) (g : Nat → Int32) : Prop := n = k ∧ ∀ j, j < n → f j = g j
theorem lo8_inj {x y : Int32} (h0 : ¬ x < 0) (h1 : ¬ 255 < x) (k0 : ¬ y < 0) (k1 : ¬ 255 < y) (h : lo8 x = lo8 y) : x = y := by
  rw [← lo8_mask h0 h1, ← lo8_mask k0 k1, h]
/-- arrays coded by one coder are equal just where the texts are -/
theorem Cod.eqv {cd : Int32} {n k : Nat} {f g : Nat → Int32} {V V' : Cell} (h : Cod cd n f V) (h' : Cod cd k g V') (hf : ∀ j, j < n → ¬ f j < 0 ∧ ¬ 65535 < f j) (hg : ∀ j, j < k → ¬ g j < 0 ∧ ¬ 65535 < g j) : EqC V V' ↔ SameT n f k g := by
  have yvv : ∀ {W : Cell} {i : Nat} {x : Int32}, W.slots[i]? = some (.int x) → yv W i = x := fun q => by unfold yv; rw [q]
  rcases h with ⟨rfl, k1, k2⟩ | ⟨rfl, k1, k2, -⟩
  · rcases h' with ⟨-, m1, m2⟩ | ⟨e, -⟩
    · constructor
      · rintro ⟨e1, e2⟩
        refine ⟨by omega, fun j hj => ?_⟩
        have q := e2 j (by omega)
        rw [yvv (k2 j hj).1, yvv (m2 j (by omega)).1] at q
        exact lo8_inj (hf j hj).1 (k2 j hj).2 (hg j (by omega)).1 (m2 j (by omega)).2 q
      · rintro ⟨rfl, e2⟩
        refine ⟨by omega, fun j hj => ?_⟩
        rw [yvv (k2 j (by omega)).1, yvv (m2 j (by omega)).1, e2 j (by omega)]
    · exact absurd e (by decide)
  · rcases h' with ⟨e, -⟩ | ⟨-, m1, m2, -⟩
    · exact absurd e (by decide)
    · constructor
      · rintro ⟨e1, e2⟩
        refine ⟨by omega, fun j hj => ?_⟩
        have q1 := e2 (2 * j) (by omega)
        have q2 := e2 (2 * j + 1) (by omega)
        rw [yvv (k2 j hj).1, yvv (m2 j (by omega)).1] at q1
        rw [yvv (k2 j hj).2, yvv (m2 j (by omega)).2] at q2
        rw [← pair_says (hf j hj).1 (hf j hj).2, ← pair_says (hg j (by omega)).1 (hg j (by omega)).2, q1, q2]
      · rintro ⟨rfl, e2⟩
        refine ⟨by omega, fun i hi => ?_⟩
        rcases Nat.mod_two_eq_zero_or_one i with e | e
        · obtain ⟨j, rfl⟩ : ∃ j, i = 2 * j := ⟨i / 2, by omega⟩
          rw [yvv (k2 j (by omega)).1, yvv (m2 j (by omega)).1, e2 j (by omega)]
        · obtain ⟨j, rfl⟩ : ∃ j, i = 2 * j + 1 := ⟨i / 2, by omega⟩
          rw [yvv (k2 j (by omega)).2, yvv (m2 j (by omega)).2, e2 j (by omega)]
/-- two codings differ: so do the texts -/
theorem Cod.dif {cd cd' : Int32} {n k : Nat} {f g : Nat → Int32} {V V' : Cell} (h : Cod cd n f V) (h' : Cod cd' k g V') (hne : ¬ cd = cd') : ¬ SameT n f k g := by
  rintro ⟨rfl, e⟩
  rcases h with ⟨rfl, -, k2⟩ | ⟨rfl, -, -, j, hj, hw⟩
  · rcases h' with ⟨rfl, -⟩ | ⟨-, -, -, j, hj, hw⟩
    · exact hne rfl
    · exact (k2 j hj).2 (by rw [e j hj]; exact hw)
  · rcases h' with ⟨-, -, m2⟩ | ⟨rfl, -⟩
    · exact (m2 j hj).2 (by rw [← e j hj]; exact hw)
    · exact hne rfl
/-- an object of exactly C is an instance of C -/
theorem cinst {p : Program} {l : Launch} {e : Env} {R : Room} {s : State} {m : MethodId} {args : Array Value} {below : List Frame} {meth : Method} {c : Code} {T : State} {locs : List Loc} {cells slots : Nat} (X : Stand p l e R s m args below meth c T locs cells slots) (hexec : p.tables.exec = Jvm.exec) {own C : String} {index : Nat} (hown : s.vm.findClass own = some m.cls) (hlink : (Cond.classLink own index C).before args s = true) {a : Addr} (hE : Exact C a T)
    {g : JFrame} (hg : g.method = m) {rest : List Value} (hstack : g.stack = .ref a :: rest) (hdg : decode c.code g.pc = .ok (.instanceof index, 3)) :
    ∃ T', Stand p l e R s m args below meth c T' locs cells slots ∧ T'.heap = T.heap ∧ ∀ target, Steps p.tables e below (T'.setTop { g with pc := g.pc + 3, stack := .int 1 :: rest }) target → Steps p.tables e below (T.setTop g) target := by
  obtain ⟨cB, h1, D, h2, h3, h4⟩ := hE
  have h1' : s.vm.findClass C = some cB := by rw [← X.warmed.alike.findClass]; exact h1
  obtain ⟨vm', X', st⟩ := X.instanceofYes hexec hown hlink h2 h4 h1' (by rw [h3]; exact Jvm.Free.SB.assignable_self _ _) hg hstack hdg
  exact ⟨_, X', rfl, st⟩
theorem cself {p : Program} {l : Launch} {e : Env} {R : Room} {s : State} {m : MethodId} {args : Array Value} {below : List Frame} {meth : Method} {c : Code} {T : State} {locs : List Loc} {cells slots : Nat} (X : Stand p l e R s m args below meth c T locs cells slots) (hexec : p.tables.exec = Jvm.exec) {own C : String} {index : Nat} (hown : s.vm.findClass own = some m.cls) (hlink : (Cond.classLink own index C).before args s = true) {a : Addr} (hE : Exact C a T)
    {g : JFrame} (hg : g.method = m) {rest : List Value} (hstack : g.stack = .ref a :: rest) (hdg : decode c.code g.pc = .ok (.checkcast index, 3)) :
    ∃ T', Stand p l e R s m args below meth c T' locs cells slots ∧ T'.heap = T.heap ∧ ∀ target, Steps p.tables e below (T'.setTop { g with pc := g.pc + 3, stack := .ref a :: rest }) target → Steps p.tables e below (T.setTop g) target := by
  obtain ⟨cB, h1, D, h2, h3, h4⟩ := hE
  have h1' : s.vm.findClass C = some cB := by rw [← X.warmed.alike.findClass]; exact h1
  obtain ⟨vm', X', st⟩ := X.checkcastYes hexec hown hlink h2 h4 h1' (by rw [h3]; exact Jvm.Free.SB.assignable_self _ _) hg hstack hdg
  exact ⟨_, X', rfl, fun t h => st t (by rw [← hstack] at h; exact h)⟩
namespace SEq
def yN : MethodName := ⟨"java/lang/String", "equals", "(Ljava/lang/Object;)Z"⟩
abbrev yB : ByteArray := jdk_42_method_66_code
theorem d0 : decode yB 0 = .ok (.aload_n 0, 1) := by decide +kernel
theorem d1 : decode yB 1 = .ok (.aload_n 1, 1) := by decide +kernel
theorem d2 : decode yB 2 = .ok (.if_acmp (.ne) 5, 3) := by decide +kernel
theorem d5 : decode yB 5 = .ok (.iconst 1, 1) := by decide +kernel
theorem d6 : decode yB 6 = .ok (.ireturn, 1) := by decide +kernel
theorem d7 : decode yB 7 = .ok (.aload_n 1, 1) := by decide +kernel
theorem d8 : decode yB 8 = .ok (.instanceof 10, 3) := by decide +kernel
theorem d11 : decode yB 11 = .ok (.ifCond (.eq) 43, 3) := by decide +kernel
theorem d14 : decode yB 14 = .ok (.aload_n 1, 1) := by decide +kernel
theorem d15 : decode yB 15 = .ok (.checkcast 10, 3) := by decide +kernel
theorem d18 : decode yB 18 = .ok (.astore_n 2, 1) := by decide +kernel
theorem d19 : decode yB 19 = .ok (.getstatic 38, 3) := by decide +kernel
theorem d22 : decode yB 22 = .ok (.ifCond (.eq) 14, 3) := by decide +kernel
theorem d25 : decode yB 25 = .ok (.aload_n 0, 1) := by decide +kernel
theorem d26 : decode yB 26 = .ok (.getfield 15, 3) := by decide +kernel
theorem d29 : decode yB 29 = .ok (.aload_n 2, 1) := by decide +kernel
theorem d30 : decode yB 30 = .ok (.getfield 15, 3) := by decide +kernel
theorem d33 : decode yB 33 = .ok (.if_icmp (.ne) 21, 3) := by decide +kernel
theorem d36 : decode yB 36 = .ok (.aload_n 0, 1) := by decide +kernel
theorem d37 : decode yB 37 = .ok (.getfield 9, 3) := by decide +kernel
theorem d40 : decode yB 40 = .ok (.aload_n 2, 1) := by decide +kernel
theorem d41 : decode yB 41 = .ok (.getfield 9, 3) := by decide +kernel
theorem d44 : decode yB 44 = .ok (.invokestatic 541, 3) := by decide +kernel
theorem d47 : decode yB 47 = .ok (.ifCond (.eq) 7, 3) := by decide +kernel
theorem d50 : decode yB 50 = .ok (.iconst 1, 1) := by decide +kernel
theorem d51 : decode yB 51 = .ok (.goto 4, 3) := by decide +kernel
theorem d54 : decode yB 54 = .ok (.iconst 0, 1) := by decide +kernel
theorem d55 : decode yB 55 = .ok (.ireturn, 1) := by decide +kernel
def site : List Cond := [.classLink "java/lang/String" 10 "java/lang/String", .fieldLink "java/lang/String" 38 "java/lang/String" "COMPACT_STRINGS" "Z", .fieldLink "java/lang/String" 15 "java/lang/String" "coder" "B", .fieldLink "java/lang/String" 9 "java/lang/String" "value" "[B", LEq.tab] ++ staticW "java/lang/String" 541 LEq.yN
def tab : Cond := tabOf yN yB 3 (some .boolean) site
def P (x t : Addr) (V : Cell) (cd : Int32) (n : Nat) (f : Nat → Int32) (y t' : Addr) (V' : Cell) (cd' : Int32) (k : Nat) (g : Nat → Int32) (z : Int32) (args : Array Value) (s : State) : Prop := args = #[.ref x, .ref y] ∧ Txt x t V cd n f s ∧ Txt y t' V' cd' k g s ∧ StaticIs s "java/lang/String" "COMPACT_STRINGS" "Z" (.int z) ∧ ¬ z = 0
/-- equals(Object) of two Strings: whether the texts are the same -/
theorem law (l : Launch) (x t : Addr) (V : Cell) (cd : Int32) (n : Nat) (f : Nat → Int32) (y t' : Addr) (V' : Cell) (cd' : Int32) (k : Nat) (g : Nat → Int32) (z : Int32) : Law l yN 2 1 1 14 yB 3 (some .boolean) site (P x t V cd n f y t' V' cd' k g z) (Says01 (SameT n f k g)) [] 0 0 := by
  refine Law.of_walk (plainFor_of_name (by decide +kernel)) (by decide +kernel) (by decide +kernel) (by decide) (fun _ _ h => by rw [h.1]; rfl) (fun _ U U' hal hh h => ⟨h.1, h.2.1.mv hal hh, h.2.2.1.mv hal hh, h.2.2.2.1.there hal hh, h.2.2.2.2⟩) (fun r U U' V V' h1 hal h2 h => Says01.mv r U U' V V' h1 hal h2 h) ?_
  intro p e s m args below meth c s₁ X0 hexec hbytes hml hret hlk hnm hown hh0 W hP
  obtain ⟨rfl, hx, hy, s1, hz⟩ := hP
  have c1 : Steps p.tables e below (s₁.setTop (entryFrame m #[.ref x, .ref y] 3)) (s₁.setTop (mkF m 2 #[.val (.ref x), .val (.ref y), .unset] [.ref y, .ref x])) := Steps.trans (entry rfl) (by
    show Steps p.tables e below (s₁.setTop (mkF m 0 #[.val (.ref x), .val (.ref y), .unset] [])) _
    refine XS.aloadN X0.here hexec rfl (hb hbytes d0) rfl rfl ?_
    refine XS.aloadN X0.here hexec rfl (hb hbytes d1) rfl rfl ?_
    exact Steps.refl _)
  by_cases hxy : x = y
  · have c2 : Steps p.tables e below (s₁.setTop (entryFrame m #[.ref x, .ref y] 3)) (s₁.setTop (mkF m 6 #[.val (.ref x), .val (.ref y), .unset] [.int 1])) := c1.trans (by
      refine acmpNo X0.here hexec rfl (hb hbytes d2) rfl rfl rfl (by simp [acmp, hxy]) ?_
      refine iconstV X0.here hexec rfl 1 (hb hbytes d5) (by decide) ?_
      exact Steps.refl _)
    subst hxy
    have ec : cd = cd' := by
      obtain ⟨D, fd, a1, a2, a3⟩ := hx.2.2.1
      obtain ⟨D', fd', b1, b2, b3⟩ := hy.2.2.1
      cases a1.symm.trans b1
      obtain ⟨q1, q2, q3, q4⟩ := a2.1
      obtain ⟨r1, r2, r3, r4⟩ := b2.1
      cases q4.symm.trans r4
      cases a3.symm.trans b3; rfl
    have et : t = t' := by
      obtain ⟨D, fd, a1, a2, a3⟩ := hx.2.1
      obtain ⟨D', fd', b1, b2, b3⟩ := hy.2.1
      cases a1.symm.trans b1
      obtain ⟨q1, q2, q3, q4⟩ := a2.1
      obtain ⟨r1, r2, r3, r4⟩ := b2.1
      cases q4.symm.trans r4
      cases a3.symm.trans b3; rfl
    subst ec et
    have ev : V = V' := by cases hx.2.2.2.1.1.symm.trans hy.2.2.2.1.1; rfl
    subst ev
    have hs : SameT n f k g := (Cod.eqv hx.2.2.2.2.1 hy.2.2.2.2.1 hx.2.2.2.2.2 hy.2.2.2.2.2).mp ⟨rfl, fun _ _ => rfl⟩
    exact ⟨s₁, some (.int 1), _, _, _, X0, rfl, rfl, rfl, (fun h => by cases h), ⟨1, rfl, hh0, Or.inl ⟨rfl, hs⟩⟩, fun fs hl => c2.trans (X0.ireturnOut hexec hret rfl (Or.inr (Or.inl rfl)) (hb hbytes d6) hl)⟩
  · have c2 : Steps p.tables e below (s₁.setTop (entryFrame m #[.ref x, .ref y] 3)) (s₁.setTop (mkF m 8 #[.val (.ref x), .val (.ref y), .unset] [.ref y])) := c1.trans (by
      refine acmpYes X0.here hexec rfl (pc0 := 2) rfl (hb hbytes d2) rfl rfl rfl (by simp [acmp, hxy]) (by decide) rfl ?_
      refine XS.aloadN X0.here hexec rfl (hb hbytes d7) rfl rfl ?_
      exact Steps.refl _)
    obtain ⟨T3, X3, q3, st3⟩ := cinst X0 hexec hown (wk W (.classLink "java/lang/String" 10 "java/lang/String")) (hy.mv X0.warmed.alike hh0).1 (g := (mkF m 8 #[.val (.ref x), .val (.ref y), .unset] [.ref y])) rfl (rest := []) rfl (hb hbytes d8)
    have hh3 := q3.trans hh0
    have c4 : Steps p.tables e below (s₁.setTop (entryFrame m #[.ref x, .ref y] 3)) (T3.setTop (mkF m 15 #[.val (.ref x), .val (.ref y), .unset] [.ref y])) := (c2.trans (st3 _ (Steps.refl _))).trans (by
      refine XS.ifNo X3.here hexec rfl (hb hbytes d11) rfl (i0_eq_f (by decide)) ?_
      refine XS.aloadN X3.here hexec rfl (hb hbytes d14) rfl rfl ?_
      exact Steps.refl _)
    obtain ⟨T5, X5, q5, st5⟩ := cself X3 hexec hown (wk W (.classLink "java/lang/String" 10 "java/lang/String")) (hy.mv X3.warmed.alike hh3).1 (g := (mkF m 15 #[.val (.ref x), .val (.ref y), .unset] [.ref y])) rfl (rest := []) rfl (hb hbytes d15)
    have hh5 := q5.trans hh3
    have c6 : Steps p.tables e below (s₁.setTop (entryFrame m #[.ref x, .ref y] 3)) (T5.setTop (mkF m 19 #[.val (.ref x), .val (.ref y), .val (.ref y)] [])) := (c4.trans (st5 _ (Steps.refl _))).trans (by
      refine XS.astoreN X5.here hexec rfl (hb hbytes d18) rfl rfl rfl ?_
      exact Steps.refl _)
    obtain ⟨T7, X7, q7, st7⟩ := X5.sget hexec hown (wk W (.fieldLink "java/lang/String" 38 "java/lang/String" "COMPACT_STRINGS" "Z")) s1 (fun _ _ h => by rw [hh5]; exact h) (g := (mkF m 19 #[.val (.ref x), .val (.ref y), .val (.ref y)] [])) rfl (hb hbytes d19)
    have hh7 := q7.trans hh5
    have c8 : Steps p.tables e below (s₁.setTop (entryFrame m #[.ref x, .ref y] 3)) (T7.setTop (mkF m 26 #[.val (.ref x), .val (.ref y), .val (.ref y)] [.ref x])) := (c6.trans (st7 _ (Steps.refl _))).trans (by
      refine XS.ifNo X7.here hexec rfl (hb hbytes d22) rfl (i0_eq_f hz) ?_
      refine XS.aloadN X7.here hexec rfl (hb hbytes d25) rfl rfl ?_
      exact Steps.refl _)
    obtain ⟨T9, X9, q9, st9⟩ := X7.hget hexec hown (wk W (.fieldLink "java/lang/String" 15 "java/lang/String" "coder" "B")) (hx.mv X7.warmed.alike hh7).2.2.1 (g := (mkF m 26 #[.val (.ref x), .val (.ref y), .val (.ref y)] [.ref x])) rfl (rest := []) rfl (hb hbytes d26)
    have hh9 := q9.trans hh7
    have c10 : Steps p.tables e below (s₁.setTop (entryFrame m #[.ref x, .ref y] 3)) (T9.setTop (mkF m 30 #[.val (.ref x), .val (.ref y), .val (.ref y)] [.ref y, .int cd])) := (c8.trans (st9 _ (Steps.refl _))).trans (by
      refine XS.aloadN X9.here hexec rfl (hb hbytes d29) rfl rfl ?_
      exact Steps.refl _)
    obtain ⟨T11, X11, q11, st11⟩ := X9.hget hexec hown (wk W (.fieldLink "java/lang/String" 15 "java/lang/String" "coder" "B")) (hy.mv X9.warmed.alike hh9).2.2.1 (g := (mkF m 30 #[.val (.ref x), .val (.ref y), .val (.ref y)] [.ref y, .int cd])) rfl (rest := [.int cd]) rfl (hb hbytes d30)
    have hh11 := q11.trans hh9
    have c12 : Steps p.tables e below (s₁.setTop (entryFrame m #[.ref x, .ref y] 3)) (T11.setTop (mkF m 33 #[.val (.ref x), .val (.ref y), .val (.ref y)] [.int cd', .int cd])) := c10.trans (st11 _ (Steps.refl _))
    by_cases hcd : cd = cd'
    · subst hcd
      have c13 : Steps p.tables e below (s₁.setTop (entryFrame m #[.ref x, .ref y] 3)) (T11.setTop (mkF m 37 #[.val (.ref x), .val (.ref y), .val (.ref y)] [.ref x])) := c12.trans (by
        refine XS.icmpNo X11.here hexec rfl (hb hbytes d33) rfl (ii_ne_f rfl) ?_
        refine XS.aloadN X11.here hexec rfl (hb hbytes d36) rfl rfl ?_
        exact Steps.refl _)
      obtain ⟨T14, X14, q14, st14⟩ := X11.hget hexec hown (wk W (.fieldLink "java/lang/String" 9 "java/lang/String" "value" "[B")) (hx.mv X11.warmed.alike hh11).2.1 (g := (mkF m 37 #[.val (.ref x), .val (.ref y), .val (.ref y)] [.ref x])) rfl (rest := []) rfl (hb hbytes d37)
      have hh14 := q14.trans hh11
      have c15 : Steps p.tables e below (s₁.setTop (entryFrame m #[.ref x, .ref y] 3)) (T14.setTop (mkF m 41 #[.val (.ref x), .val (.ref y), .val (.ref y)] [.ref y, .ref t])) := (c13.trans (st14 _ (Steps.refl _))).trans (by
        refine XS.aloadN X14.here hexec rfl (hb hbytes d40) rfl rfl ?_
        exact Steps.refl _)
      obtain ⟨T16, X16, q16, st16⟩ := X14.hget hexec hown (wk W (.fieldLink "java/lang/String" 9 "java/lang/String" "value" "[B")) (hy.mv X14.warmed.alike hh14).2.1 (g := (mkF m 41 #[.val (.ref x), .val (.ref y), .val (.ref y)] [.ref y, .ref t])) rfl (rest := [.ref t]) rfl (hb hbytes d41)
      have hh16 := q16.trans hh14
      have c17 : Steps p.tables e below (s₁.setTop (entryFrame m #[.ref x, .ref y] 3)) (T16.setTop (mkF m 44 #[.val (.ref x), .val (.ref y), .val (.ref y)] [.ref t', .ref t])) := c15.trans (st16 _ (Steps.refl _))
      obtain ⟨v18, T18, X18, E18, g18⟩ := X16.callS hexec (LEq.law l t V t' V') hown (wks W (staticW "java/lang/String" 541 LEq.yN)) (wk W LEq.tab) (W := 0) (Nat.le_of_ble_eq_true rfl) (Nat.le_of_ble_eq_true rfl) (Nat.le_refl _) (Nat.le_refl _) (g := (mkF m 44 #[.val (.ref x), .val (.ref y), .val (.ref y)] [.ref t', .ref t])) rfl (by rw [hml]; rfl) c17 (argsL := [.ref t, .ref t']) (rest := []) rfl rfl (by show 2 * 0 + 0 ≤ _; decide) (hb hbytes d44) (⟨rfl, hx.2.2.2.1.mv X16.warmed.alike hh16, hx.2.2.2.2.1.ty, hy.2.2.2.1.mv X16.warmed.alike hh16, hy.2.2.2.2.1.ty⟩)
      obtain ⟨v, rfl, q18, hv⟩ := E18
      have iff := Cod.eqv hx.2.2.2.2.1 hy.2.2.2.2.1 hx.2.2.2.2.2 hy.2.2.2.2.2
      rcases hv with ⟨rfl, he⟩ | ⟨rfl, he⟩
      · have c19 : Steps p.tables e below (s₁.setTop (entryFrame m #[.ref x, .ref y] 3)) (T18.setTop (mkF m 55 #[.val (.ref x), .val (.ref y), .val (.ref y)] [.int 1])) := Steps.trans g18 (by
          refine XS.ifNo X18.here hexec rfl (hb hbytes d47) rfl (i0_eq_f (by decide)) ?_
          refine iconstV X18.here hexec rfl 1 (hb hbytes d50) (by decide) ?_
          refine XS.goto X18.here hexec rfl (pc0 := 51) rfl (hb hbytes d51) (by decide) rfl ?_
          exact Steps.refl _)
        exact ⟨T18, some (.int 1), _, _, _, X18, rfl, rfl, rfl, (fun h => by cases h), ⟨1, rfl, q18.trans hh16, Or.inl ⟨rfl, iff.mp he⟩⟩, fun fs hl => c19.trans (X18.ireturnOut hexec hret rfl (Or.inr (Or.inl rfl)) (hb hbytes d55) hl)⟩
      · have c19 : Steps p.tables e below (s₁.setTop (entryFrame m #[.ref x, .ref y] 3)) (T18.setTop (mkF m 55 #[.val (.ref x), .val (.ref y), .val (.ref y)] [.int 0])) := Steps.trans g18 (by
          refine XS.ifYes X18.here hexec rfl (pc0 := 47) rfl (hb hbytes d47) rfl (i0_eq_t rfl) (by decide) rfl ?_
          refine iconstV X18.here hexec rfl 0 (hb hbytes d54) (by decide) ?_
          exact Steps.refl _)
        exact ⟨T18, some (.int 0), _, _, _, X18, rfl, rfl, rfl, (fun h => by cases h), ⟨0, rfl, q18.trans hh16, Or.inr ⟨rfl, fun q => he (iff.mpr q)⟩⟩, fun fs hl => c19.trans (X18.ireturnOut hexec hret rfl (Or.inr (Or.inl rfl)) (hb hbytes d55) hl)⟩
    · have c13 : Steps p.tables e below (s₁.setTop (entryFrame m #[.ref x, .ref y] 3)) (T11.setTop (mkF m 55 #[.val (.ref x), .val (.ref y), .val (.ref y)] [.int 0])) := c12.trans (by
        refine XS.icmpYes X11.here hexec rfl (pc0 := 33) rfl (hb hbytes d33) rfl (ii_ne_t hcd) (by decide) rfl ?_
        refine iconstV X11.here hexec rfl 0 (hb hbytes d54) (by decide) ?_
        exact Steps.refl _)
      exact ⟨T11, some (.int 0), _, _, _, X11, rfl, rfl, rfl, (fun h => by cases h), ⟨0, rfl, hh11, Or.inr ⟨rfl, Cod.dif hx.2.2.2.2.1 hy.2.2.2.2.1 hcd⟩⟩, fun fs hl => c13.trans (X11.ireturnOut hexec hret rfl (Or.inr (Or.inl rfl)) (hb hbytes d55) hl)⟩
theorem pays {l : Launch} {R : Room} {p : Program} {e : Env} {below : List Frame} {s : State} {sargs : Array Value} {len W : Nat} (x t : Addr) (V : Cell) (cd : Int32) (n : Nat) (f : Nat → Int32) (y t' : Addr) (V' : Cell) (cd' : Int32) (k : Nat) (g : Nat → Int32) (z : Int32) (htab : tab.before sargs s = true) (hfr : 2 ≤ R.frames) (hlo : W + 28 ≤ R.locals) :
    Back l R p e below s sargs yN len W (fun A₁ a₁ => A₁.cells + 0 ≤ R.cells ∧ A₁.slots + 0 ≤ R.slots ∧ P x t V cd n f y t' V' cd' k g z a₁ A₁.U) (fun A₁ _ v₁ B₁ => Says01 (SameT n f k g) v₁ A₁.U B₁.U ∧ B₁.locs = A₁.locs ++ [] ∧ B₁.cells = A₁.cells + 0 ∧ B₁.slots = A₁.slots + 0) :=
  (law l x t V cd n f y t' V' cd' k g z).pays htab hfr (by omega)
end SEq
end StrChars
namespace StrChars.Road
open Jvm Sem ClassFile Op Lib Jvm.Stand Jvm.Free Jvm.Free.XT
open Jvm.Lib.Cold (StaticIs)
/-- the words of String.equals(Object) -/
abbrev wordsEq : List Jvm.Cond := [.code SEq.yN SEq.yB 3 (some .boolean), .initialized ST, .classLink ST 10 ST, .fieldLink ST 38 ST "COMPACT_STRINGS" "Z", .fieldLink ST 15 ST "coder" "B", .fieldLink ST 9 ST "value" "[B", .methodLink ST 541 LEq.yN, .static LEq.yN, .code LEq.yN LEq.yB 3 (some .boolean), .initialized "java/lang/StringLatin1"]
theorem tabEq_of {a : Array Value} {s : State} (h : ∀ w ∈ wordsEq, w.before a s = true) : SEq.tab.before a s = true := by
  have hl : LEq.tab.before a s = true := unparts (wk h (.code LEq.yN LEq.yB 3 (some .boolean))) (wks h (.initialized LEq.yN.cls :: LEq.site))
  have q := consq hl h
  exact unparts (wk q (.code SEq.yN SEq.yB 3 (some .boolean))) (wks q (.initialized SEq.yN.cls :: SEq.site))
theorem movedEq {Z s : State} {a0 args : Array Value} (hZ : Z.Warmed39 s.vm) (hw : ∀ d ∈ wordsEq, d.before a0 Z = true) : ∀ d ∈ wordsEq, d.before args s = true := fun d hd => by
  have t : ∀ d ∈ wordsEq, (d.onTables && d.keepsFace) = true := by decide +kernel
  exact RoadKit.mv hZ (hw d hd) (t d hd)
/-- the road's facts of a String, as the laws ask it -/
theorem txt_of {Z U : State} {a0 : Array Value} {kI : Nat} (wi : (Jvm.Cond.instantiable ST kI).before a0 Z = true) (al : Z.vm.Alike U.vm) {x t : Addr} {kb : ClassId} {cs : List Int32} {cd N2 : Int32} {vs : List Value} (E : RoadKit.Exa Z U.heap x ST) (V : RoadKit.Fld Z U.heap x ST "value" "[B" (.ref t)) (C : RoadKit.Fld Z U.heap x ST "coder" "B" (.int cd)) (K : RoadKit.Arv Z U.heap t kb .byte N2 vs (.int 0)) (hc : CodA cs cd N2 vs) (hb : ∀ c ∈ cs, ¬ c < 0 ∧ ¬ (65535 : Int32) < c) (l2 : cs.length ≤ 4000) :
    ∃ A, Txt x t A cd cs.length (fun j => cs.getD j 0) U := by
  obtain ⟨A, K1, K2, K3, K4, K5, K6⟩ := K
  have hcod := hc.cod (by omega) K3 K5
  obtain ⟨D, fV, fC, hB, F1, F2, g1, g2, -, -⟩ := strObj wi al E V C
  exact ⟨A, ⟨_, hB.2.2.1, D, hB.1, rfl, by cases q : D.vm <;> first | rfl | exact absurd q (hB.2.1.2 _)⟩, Has.of hB F1 g1, Has.of hB F2 g2, ⟨K1.1, State.isArrayOf_alike al K1.2.1, K1.2.2, by rcases hcod with ⟨-, q, -⟩ | ⟨-, q, -⟩ <;> omega⟩, hcod, fun j hj => by
    have e : cs.getD j 0 = cs[j] := by simp [List.getD_eq_getElem?_getD, hj]
    show ¬ cs.getD j 0 < 0 ∧ ¬ 65535 < cs.getD j 0
    rw [e]; exact hb _ (List.getElem_mem _)⟩
theorem same_list (cs ds : List Int32) : SameT cs.length (fun j => cs.getD j 0) ds.length (fun j => ds.getD j 0) ↔ cs = ds := by
  constructor
  · rintro ⟨e, q⟩
    refine List.ext_getElem e fun j h1 h2 => ?_
    have := q j h1
    simpa [List.getD_eq_getElem?_getD, h1, h2] using this
  · rintro rfl
    exact ⟨rfl, fun _ _ => rfl⟩
/-- **equals(Object) OF TWO SUCH STRINGS**: 1 just where the chars are the same -/
theorem eqW {p : Program} {l : Launch} {e : Env} {R : Room} {s : State} {args : Array Value} {below : List Frame} {len W : Nat} {Z : State} {a0 : Array Value} {h : Heap} (hZ : Z.Warmed39 s.vm) (hw : ∀ d ∈ wordsEq, d.before a0 Z = true) {kI : Nat} (wi : (Jvm.Cond.instantiable ST kI).before a0 Z = true)
    {x t : Addr} {kb : ClassId} {cs : List Int32} {cd N2 : Int32} {vs : List Value} (E : RoadKit.Exa Z h x ST) (V : RoadKit.Fld Z h x ST "value" "[B" (.ref t)) (C : RoadKit.Fld Z h x ST "coder" "B" (.int cd)) (K : RoadKit.Arv Z h t kb .byte N2 vs (.int 0)) (hc : CodA cs cd N2 vs) (hb : ∀ c ∈ cs, ¬ c < 0 ∧ ¬ (65535 : Int32) < c) (l2 : cs.length ≤ 4000)
    {y t' : Addr} {kb' : ClassId} {ds : List Int32} {cd' N2' : Int32} {vs' : List Value} (E' : RoadKit.Exa Z h y ST) (V' : RoadKit.Fld Z h y ST "value" "[B" (.ref t')) (C' : RoadKit.Fld Z h y ST "coder" "B" (.int cd')) (K' : RoadKit.Arv Z h t' kb' .byte N2' vs' (.int 0)) (hc' : CodA ds cd' N2' vs') (hb' : ∀ c ∈ ds, ¬ c < 0 ∧ ¬ (65535 : Int32) < c) (l2' : ds.length ≤ 4000)
    {z : Int32} (S : RoadKit.Sta Z h ST "COMPACT_STRINGS" "Z" (.int z)) (hz : ¬ z = 0) (hfr : 2 ≤ R.frames) (hlo : W + 28 ≤ R.locals) :
    Back l R p e below s args (⟨"java/lang/String", "equals", "(Ljava/lang/Object;)Z"⟩ : MethodName) len W (fun P a => a = #[.ref x, .ref y] ∧ P.U.heap = h ∧ P.cells + 0 ≤ R.cells ∧ P.slots + 0 ≤ R.slots)
      (fun P _ v B => ∃ L, (((v = some (.int 1) ∧ cs = ds) ∨ (v = some (.int 0) ∧ ¬ cs = ds)) ∧ L = [] ∧ B.U.heap = h) ∧ B.locs = P.locs ++ L ∧ B.cells = P.cells + 0 ∧ B.slots = P.slots + 0) := by
  intro m meth c P g ig mk a X hg hsize hdg hW hn hp'
  obtain ⟨rfl, rfl, r1, r2⟩ := hp'
  have al : Z.vm.Alike P.U.vm := hZ.alike.trans X.warmed.alike
  obtain ⟨A, hx⟩ := txt_of wi al E V C K hc hb l2
  obtain ⟨A', hy⟩ := txt_of wi al E' V' C' K' hc' hb' l2'
  obtain ⟨v, B, X', ⟨⟨w, hv, hh, hq⟩, hl, hk, hs⟩, st⟩ := SEq.pays x t A cd cs.length (fun j => cs.getD j 0) y t' A' cd' ds.length (fun j => ds.getD j 0) z (tabEq_of (movedEq hZ hw)) hfr hlo m meth c P g ig mk _ X hg hsize hdg hW hn ⟨r1, r2, rfl, hx, hy, sta_is al S, hz⟩
  refine ⟨v, B, X', ⟨[], ⟨?_, rfl, hh⟩, hl, hk, hs⟩, st⟩
  rcases hq with ⟨rfl, q⟩ | ⟨rfl, q⟩
  · exact Or.inl ⟨hv, (same_list cs ds).mp q⟩
  · exact Or.inr ⟨hv, fun e => q ((same_list cs ds).mpr e)⟩
end StrChars.Road
namespace StrChars.Road
open Jvm Sem ClassFile Op Lib Jvm.Stand Jvm.Free Jvm.Free.XT
open Jvm.Lib.Cold (StaticIs)
/-- what backV says of its String, as the contracts of this text ask it: cs's low bytes, coder 0 -/
theorem codOf {cs : List Int32} {n : Nat} (hn : cs.length = n) (hb : ∀ c ∈ cs, ¬ 255 < c) : CodA cs 0 (Int32.ofNat n) ((cs.map lo8).map Value.int) := Or.inl ⟨rfl, by rw [hn], by simp [List.map_map, Function.comp_def], hb⟩
end StrChars.Road
end Jvm.Pilot.@@N@@

namespace Jvm.Pilot.@@N@@
open Jvm Jvm.ClassFile Sem Op Lib Jvm.Free Jvm.Stand Jvm.LawKit Jvm.RoadKit Bundle Jvm.Pilot.@@N@@.Jvm.D
section OwnKit
variable {p : Program} {l : Launch} {e : Env} {R : Room} {s : State} {m : MethodId} {args : Array Value} {below : List Frame} {meth : Method} {c : Code} {T : State} {locs : List Loc} {cells slots : Nat} {Z : State} {h : Heap}
def own_Post (Q : Option Value → Heap → List Loc → Prop) (k n : Nat) (below : List Frame) (U : State) (t : State) (o : Outcome) : Prop :=
  t.status = .running ∧ Ended t below o ∧ ∃ v L, o = .returned v ∧ Q v t.heap L ∧ FrameEnd U o t L k n
def own_Fin (tb : Tables) (e : Env) (below : List Frame) (P : State → Outcome → Prop) (t0 : State) : Prop := ∃ t o, Steps tb e below t0 t ∧ P t o
theorem own_go {tb : Tables} {P : State → Outcome → Prop} {t0 t1 : State} (st : ∀ t, Steps tb e below t1 t → Steps tb e below t0 t) (q : own_Fin tb e below P t1) : own_Fin tb e below P t0 := by
  obtain ⟨t, o, h1, h2⟩ := q
  exact ⟨t, o, st _ h1, h2⟩
theorem own_retI {x : MethodName} {S : Spec} {code : ByteArray} {mx : Nat} {rt : Option FieldType} {s₁ : State} {Q : Option Value → Heap → List Loc → Prop} {kc kn : Nat} (X : Stand p l e R s m args below meth c T locs cells slots) (hx : p.tables.exec = Jvm.exec) (Bd : BodyLoose p l x S code mx rt e s m args below meth c s₁) {pc : Nat} {Ls : Array Slot} {z : Int32} {t : FieldType} {rest : List Value} (hret : meth.sig.returnType = some t) (hn : narrow t (.int z) = .int z)
    (ht : t = .int ∨ t = .boolean ∨ t = .byte ∨ t = .char ∨ t = .short) (hd : decode c.code pc = .ok (.ireturn, 1)) (hQ : Q (some (.int z)) T.heap locs) (hc : cells ≤ kc) (hs : slots ≤ kn) : own_Fin p.tables e below (own_Post Q kc kn below s) (T.setTop (mkF m pc Ls (.int z :: rest))) := by
  obtain ⟨fs, hr, hrun, hended, hW, hsame⟩ := X.leave (v := some (.int z)) (fun h => by rw [hret] at h; cases h) Bd.notSynchronized
  exact ⟨_, _, retOut X hx hret hn (Or.inl ⟨rfl, ht, z, rfl⟩) hd hr, hrun, hended, _, _, rfl, hQ, ⟨_, rfl⟩, hW, hsame.mono hc hs⟩
theorem own_retJ {x : MethodName} {S : Spec} {code : ByteArray} {mx : Nat} {rt : Option FieldType} {s₁ : State} {Q : Option Value → Heap → List Loc → Prop} {kc kn : Nat} (X : Stand p l e R s m args below meth c T locs cells slots) (hx : p.tables.exec = Jvm.exec) (Bd : BodyLoose p l x S code mx rt e s m args below meth c s₁) {pc : Nat} {Ls : Array Slot} {z : Int64} {rest : List Value} (hret : meth.sig.returnType = some .long)
    (hd : decode c.code pc = .ok (.lreturn, 1)) (hQ : Q (some (.long z)) T.heap locs) (hc : cells ≤ kc) (hs : slots ≤ kn) : own_Fin p.tables e below (own_Post Q kc kn below s) (T.setTop (mkF m pc Ls (.long z :: rest))) := by
  obtain ⟨fs, hr, hrun, hended, hW, hsame⟩ := X.leave (v := some (.long z)) (fun h => by rw [hret] at h; cases h) Bd.notSynchronized
  exact ⟨_, _, retOut X hx hret rfl (Or.inr (Or.inl ⟨rfl, rfl, z, rfl⟩)) hd hr, hrun, hended, _, _, rfl, hQ, ⟨_, rfl⟩, hW, hsame.mono hc hs⟩
theorem own_retA {x : MethodName} {S : Spec} {code : ByteArray} {mx : Nat} {rt : Option FieldType} {s₁ : State} {Q : Option Value → Heap → List Loc → Prop} {kc kn : Nat} (X : Stand p l e R s m args below meth c T locs cells slots) (hx : p.tables.exec = Jvm.exec) (Bd : BodyLoose p l x S code mx rt e s m args below meth c s₁) {pc : Nat} {Ls : Array Slot} {w : Value} {t : FieldType} {rest : List Value} (hret : meth.sig.returnType = some t) (ht : t.isReference = true) (hw : w.isRef = true) (hn : narrow t w = w)
    (hd : decode c.code pc = .ok (.areturn, 1)) (hQ : Q (some w) T.heap locs) (hc : cells ≤ kc) (hs : slots ≤ kn) : own_Fin p.tables e below (own_Post Q kc kn below s) (T.setTop (mkF m pc Ls (w :: rest))) := by
  obtain ⟨fs, hr, hrun, hended, hW, hsame⟩ := X.leave (v := some w) (fun h => by rw [hret] at h; cases h) Bd.notSynchronized
  exact ⟨_, _, retOut X hx hret hn (Or.inr (Or.inr (Or.inr (Or.inr ⟨rfl, ht, hw⟩)))) hd hr, hrun, hended, _, _, rfl, hQ, ⟨_, rfl⟩, hW, hsame.mono hc hs⟩
theorem own_ret0 {x : MethodName} {S : Spec} {code : ByteArray} {mx : Nat} {s₁ : State} {Q : Option Value → Heap → List Loc → Prop} {kc kn : Nat} (X : Stand p l e R s m args below meth c T locs cells slots) (hx : p.tables.exec = Jvm.exec) (Bd : BodyLoose p l x S code mx none e s m args below meth c s₁) {pc : Nat} {Ls : Array Slot}
    (hd : decode c.code pc = .ok (.return_, 1)) (hQ : Q none T.heap locs) (hc : cells ≤ kc) (hs : slots ≤ kn) : own_Fin p.tables e below (own_Post Q kc kn below s) (T.setTop (mkF m pc Ls [])) := by
  obtain ⟨fs, hr, hrun, hended, hW, hsame⟩ := X.leave (v := none) (fun _ => rfl) Bd.notSynchronized
  exact ⟨_, _, X.returnOut hx Bd.returns hd hr, hrun, hended, _, _, rfl, hQ, ⟨_, rfl⟩, hW, hsame.mono hc hs⟩
theorem own_alen {a : Addr} {k : ClassId} {ty : FieldType} {n : Int32} {vs : List Value} {d : Value} (X : Stand p l e R s m args below meth c T locs cells slots) (hx : p.tables.exec = Jvm.exec) (hZ : Z.Warmed39 s.vm) (eT : T.heap = h) (V : Arv Z h a k ty n vs d) {g : JFrame} (hg : g.method = m) {rest : List Value} (hs : g.stack = .ref a :: rest) (hd : decode c.code g.pc = .ok (.arraylength, 1)) (target : State)
    (q : Steps p.tables e below (T.setTop { g with pc := g.pc + 1, stack := .int n :: rest }) target) : Steps p.tables e below (T.setTop g) target := by
  obtain ⟨cl, A, -, S, M, -, -⟩ := V
  refine X.arraylength hx (by rw [eT]; exact A.1) (State.isArrayOf_alike hZ.alike A.2.1) hg hs hd _ ?_
  rw [len_of S M]; exact q
theorem own_laload {a : Addr} {k : ClassId} {n : Int32} {vs : List Value} {d : Value} (X : Stand p l e R s m args below meth c T locs cells slots) (hx : p.tables.exec = Jvm.exec) (hZ : Z.Warmed39 s.vm) (eT : T.heap = h) (V : Arv Z h a k .long n vs d) {j : Int32} (hj : ¬ j < 0 ∧ j < n) {v : Value} (hv : vs.getD j.toNatClampNeg d = v) {g : JFrame} (hg : g.method = m) {rest : List Value} (hs : g.stack = .int j :: .ref a :: rest) (hd : decode c.code g.pc = .ok (.laload, 1)) (target : State)
    (q : Steps p.tables e below (T.setTop { g with pc := g.pc + 1, stack := v :: rest }) target) : Steps p.tables e below (T.setTop g) target := by
  obtain ⟨cl, A, -, S, M, H, -⟩ := V
  exact X.laload hx (by rw [eT]; exact A.1) (State.isArrayOf_alike hZ.alike A.2.1) A.2.2 (inb_of S hj) (Has.at H (inb_of S hj) hv) hg hs hd _ q
theorem own_iaload {a : Addr} {k : ClassId} {n : Int32} {vs : List Value} {d : Value} (X : Stand p l e R s m args below meth c T locs cells slots) (hx : p.tables.exec = Jvm.exec) (hZ : Z.Warmed39 s.vm) (eT : T.heap = h) (V : Arv Z h a k .int n vs d) {j : Int32} (hj : ¬ j < 0 ∧ j < n) {v : Value} (hv : vs.getD j.toNatClampNeg d = v) {g : JFrame} (hg : g.method = m) {rest : List Value} (hs : g.stack = .int j :: .ref a :: rest) (hd : decode c.code g.pc = .ok (.iaload, 1)) (target : State)
    (q : Steps p.tables e below (T.setTop { g with pc := g.pc + 1, stack := v :: rest }) target) : Steps p.tables e below (T.setTop g) target := by
  obtain ⟨cl, A, -, S, M, H, -⟩ := V
  exact X.iaload hx (by rw [eT]; exact A.1) (State.isArrayOf_alike hZ.alike A.2.1) A.2.2 (inb_of S hj) (Has.at H (inb_of S hj) hv) hg hs hd _ q
theorem own_caload {a : Addr} {k : ClassId} {n : Int32} {vs : List Value} {d : Value} (X : Stand p l e R s m args below meth c T locs cells slots) (hx : p.tables.exec = Jvm.exec) (hZ : Z.Warmed39 s.vm) (eT : T.heap = h) (V : Arv Z h a k .char n vs d) {j : Int32} (hj : ¬ j < 0 ∧ j < n) {v : Value} (hv : vs.getD j.toNatClampNeg d = v) {g : JFrame} (hg : g.method = m) {rest : List Value} (hs : g.stack = .int j :: .ref a :: rest) (hd : decode c.code g.pc = .ok (.caload, 1)) (target : State)
    (q : Steps p.tables e below (T.setTop { g with pc := g.pc + 1, stack := v :: rest }) target) : Steps p.tables e below (T.setTop g) target := by
  obtain ⟨cl, A, -, S, M, H, -⟩ := V
  exact X.caload hx (by rw [eT]; exact A.1) (State.isArrayOf_alike hZ.alike A.2.1) A.2.2 (inb_of S hj) (Has.at H (inb_of S hj) hv) hg hs hd _ q
theorem own_baload {a : Addr} {k : ClassId} {n : Int32} {vs : List Value} {d : Value} (X : Stand p l e R s m args below meth c T locs cells slots) (hx : p.tables.exec = Jvm.exec) (hZ : Z.Warmed39 s.vm) (eT : T.heap = h) (V : Arv Z h a k .byte n vs d) {j : Int32} (hj : ¬ j < 0 ∧ j < n) {v : Value} (hv : vs.getD j.toNatClampNeg d = v) {g : JFrame} (hg : g.method = m) {rest : List Value} (hs : g.stack = .int j :: .ref a :: rest) (hd : decode c.code g.pc = .ok (.baload, 1)) (target : State)
    (q : Steps p.tables e below (T.setTop { g with pc := g.pc + 1, stack := v :: rest }) target) : Steps p.tables e below (T.setTop g) target := by
  obtain ⟨cl, A, -, S, M, H, -⟩ := V
  exact X.baloadBytes hx (by rw [eT]; exact A.1) (State.isArrayOf_alike hZ.alike A.2.1) A.2.2 (inb_of S hj) (Has.at H (inb_of S hj) hv) hg hs hd _ q
theorem own_aaload {a : Addr} {k : ClassId} {ty : FieldType} {n : Int32} {vs : List Value} {d : Value} (X : Stand p l e R s m args below meth c T locs cells slots) (hx : p.tables.exec = Jvm.exec) (hZ : Z.Warmed39 s.vm) (eT : T.heap = h) (V : Arv Z h a k ty n vs d) {j : Int32} (hj : ¬ j < 0 ∧ j < n) {v : Value} (hr : ty.isReference = true) (hv : vs.getD j.toNatClampNeg d = v) {g : JFrame} (hg : g.method = m) {rest : List Value} (hs : g.stack = .int j :: .ref a :: rest) (hd : decode c.code g.pc = .ok (.aaload, 1)) (target : State)
    (q : Steps p.tables e below (T.setTop { g with pc := g.pc + 1, stack := v :: rest }) target) : Steps p.tables e below (T.setTop g) target := by
  obtain ⟨cl, A, -, S, M, H, -⟩ := V
  exact X.aaload hx (by rw [eT]; exact A.1) (State.isArrayOf_alike hZ.alike A.2.1) hr A.2.2 (inb_of S hj) (Has.at H (inb_of S hj) hv) hg hs hd _ q
theorem own_stJ {a : Addr} {k : ClassId} {n : Int32} {vs : List Value} {d : Value} (X : Stand p l e R s m args below meth c T locs cells slots) (hx : p.tables.exec = Jvm.exec) (hZ : Z.Warmed39 s.vm) (eT : T.heap = h) (V : Arv Z h a k .long n vs d) {j : Int32} (hj : ¬ j < 0 ∧ j < n) {i : Nat} (hji : j.toNatClampNeg = i) (hi : i < vs.length) {x : Int64} {g : JFrame} (hg : g.method = m) {rest : List Value} (hs : g.stack = .long x :: .int j :: .ref a :: rest) (hd : decode c.code g.pc = .ok (.lastore, 1)) :
    ∃ T' h', Stand p l e R s m args below meth c T' (locs ++ [⟨a, j.toNatClampNeg⟩]) cells slots ∧ T'.heap = h' ∧ Wr h h' a j.toNatClampNeg (.long x) ∧ Arv Z h' a k .long n (vs.set i (.long x)) d ∧ ∀ target, Steps p.tables e below (T'.setTop { g with pc := g.pc + 1, stack := rest }) target → Steps p.tables e below (T.setTop g) target := by
  obtain ⟨cl, A, q1, S, M, H, G⟩ := V
  obtain ⟨T', h', X', e', W, st⟩ := stJ X hx hZ eT A (j := j) (inb_of S hj) hg hs hd
  exact ⟨T', h', X', e', W, Arv.set A q1 S M H G rfl W i hji hi, st⟩
theorem own_stC {a : Addr} {k : ClassId} {n : Int32} {vs : List Value} {d : Value} (X : Stand p l e R s m args below meth c T locs cells slots) (hx : p.tables.exec = Jvm.exec) (hZ : Z.Warmed39 s.vm) (eT : T.heap = h) (V : Arv Z h a k .char n vs d) {j : Int32} (hj : ¬ j < 0 ∧ j < n) {i : Nat} (hji : j.toNatClampNeg = i) (hi : i < vs.length) {x : Int32} {g : JFrame} (hg : g.method = m) {rest : List Value} (hs : g.stack = .int x :: .int j :: .ref a :: rest) (hd : decode c.code g.pc = .ok (.castore, 1)) :
    ∃ T' h', Stand p l e R s m args below meth c T' (locs ++ [⟨a, j.toNatClampNeg⟩]) cells slots ∧ T'.heap = h' ∧ Wr h h' a j.toNatClampNeg (.int (nar .char x)) ∧ Arv Z h' a k .char n (vs.set i (.int (nar .char x))) d ∧ ∀ target, Steps p.tables e below (T'.setTop { g with pc := g.pc + 1, stack := rest }) target → Steps p.tables e below (T.setTop g) target := by
  obtain ⟨cl, A, q1, S, M, H, G⟩ := V
  obtain ⟨T', h', X', e', W, st⟩ := stC X hx hZ eT A (j := j) (inb_of S hj) hg hs hd
  exact ⟨T', h', X', e', W, Arv.set A q1 S M H G (fits_nar_char _) W i hji hi, st⟩
theorem own_stB {a : Addr} {k : ClassId} {n : Int32} {vs : List Value} {d : Value} (X : Stand p l e R s m args below meth c T locs cells slots) (hx : p.tables.exec = Jvm.exec) (hZ : Z.Warmed39 s.vm) (eT : T.heap = h) (V : Arv Z h a k .byte n vs d) {j : Int32} (hj : ¬ j < 0 ∧ j < n) {i : Nat} (hji : j.toNatClampNeg = i) (hi : i < vs.length) {x : Int32} {g : JFrame} (hg : g.method = m) {rest : List Value} (hs : g.stack = .int x :: .int j :: .ref a :: rest) (hd : decode c.code g.pc = .ok (.bastore, 1)) :
    ∃ T' h', Stand p l e R s m args below meth c T' (locs ++ [⟨a, j.toNatClampNeg⟩]) cells slots ∧ T'.heap = h' ∧ Wr h h' a j.toNatClampNeg (.int (x.toInt8.toInt32)) ∧ Arv Z h' a k .byte n (vs.set i (.int (x.toInt8.toInt32))) d ∧ ∀ target, Steps p.tables e below (T'.setTop { g with pc := g.pc + 1, stack := rest }) target → Steps p.tables e below (T.setTop g) target := by
  obtain ⟨cl, A, q1, S, M, H, G⟩ := V
  obtain ⟨T', h', X', e', W, st⟩ := stB X hx hZ eT A (j := j) (inb_of S hj) hg hs hd
  exact ⟨T', h', X', e', W, Arv.set A q1 S M H G (fits_nar_byte _) W i hji hi, st⟩
theorem own_notface {C : String} {y z y' : MethodName} (hsel : (Jvm.Cond.selects C y z).before args s = true) (hc : y'.cls = z.cls) : NotFace s y' := fun r0 h0 => by
  obtain ⟨c2, r2, m2, q1, q2, q3, q4, kP, hkP, hkPi⟩ := Cond.selects_spec hsel
  have f1 := findClass_of_methodNamed h0
  have f2 := findClass_of_methodNamed q3
  rw [hc, f2] at f1
  rw [← Option.some.inj f1]
  exact ⟨kP, hkP, hkPi⟩
end OwnKit
theorem own_up (cs : List Int32) (h : ∀ c ∈ cs, ¬ c < 0 ∧ ¬ (255 : Int32) < c) : ∀ c ∈ cs, ¬ c < 0 ∧ ¬ (65535 : Int32) < c := fun c hc => ⟨(h c hc).1, fun q => (h c hc).2 (by rw [Int32.lt_iff_toInt_lt] at q ⊢; have e1 : (65535 : Int32).toInt = 65535 := rfl; have e2 : (255 : Int32).toInt = 255 := rfl; omega)⟩
theorem own_eqv {v : Option Value} {P : Prop} (h : (v = some (.int 1) ∧ P) ∨ (v = some (.int 0) ∧ ¬ P)) : ∃ z : Int32, v = some (.int z) ∧ ((z = 1 ∧ P) ∨ (z = 0 ∧ ¬ P)) := by
  rcases h with ⟨h1, h2⟩ | ⟨h1, h2⟩
  · exact ⟨1, h1, Or.inl ⟨rfl, h2⟩⟩
  · exact ⟨0, h1, Or.inr ⟨rfl, h2⟩⟩
def own_Str (Z : State) (h : Heap) (x t : Addr) (cs : List Int32) : Prop := ∃ (k : ClassId) (N cd : Int32) (vs : List Value), Exa Z h x "java/lang/String" ∧ Fld Z h x "java/lang/String" "value" "[B" (.ref t) ∧ Fld Z h x "java/lang/String" "coder" "B" (.int cd) ∧ Arv Z h t k .byte N vs (.int 0) ∧ StrChars.Road.CodA cs cd N vs ∧ (∀ c ∈ cs, ¬ c < 0 ∧ ¬ (65535 : Int32) < c) ∧ cs.length ≤ 4000
section OwnStr
variable {Z : State} {h h' : Heap} {x t a : Addr} {cs ds : List Int32} {sl : Nat} {v : Value} {ws : List Addr}
theorem own_Str.lt (F : own_Str Z h x t cs) : x < h.size := by obtain ⟨_, _, _, _, E, -⟩ := F; exact E.lt
theorem own_Str.ltt (F : own_Str Z h x t cs) : t < h.size := by obtain ⟨_, _, _, _, -, -, -, K, -⟩ := F; exact K.lt
theorem own_Str.exa (F : own_Str Z h x t cs) : Exa Z h x "java/lang/String" := by obtain ⟨_, _, _, _, E, -⟩ := F; exact E
theorem own_Str.ext (F : own_Str Z h x t cs) (E : Ext h h') : own_Str Z h' x t cs := by obtain ⟨k, N, cd, vs, f1, f2, f3, f4, r⟩ := F; exact ⟨k, N, cd, vs, f1.ext E, f2.ext E, f3.ext E, f4.ext E, r⟩
theorem own_Str.other (F : own_Str Z h x t cs) (W : Wr h h' a sl v) (n1 : x ≠ a) (n2 : t ≠ a) : own_Str Z h' x t cs := by obtain ⟨k, N, cd, vs, f1, f2, f3, f4, r⟩ := F; exact ⟨k, N, cd, vs, f1.wr W, f2.other W (Or.inl n1), f3.other W (Or.inl n1), f4.other W n2, r⟩
theorem own_Str.keep (F : own_Str Z h x t cs) (K : Keep h h' ws) (n1 : x ∉ ws) (n2 : t ∉ ws) : own_Str Z h' x t cs := by obtain ⟨k, N, cd, vs, f1, f2, f3, f4, r⟩ := F; exact ⟨k, N, cd, vs, f1.keep K, f2.keep K n1, f3.keep K n1, f4.keep K n2, r⟩
end OwnStr
theorem own_eqB {p : Program} {l : Launch} {e : Env} {R : Room} {s : State} {args : Array Value} {below : List Frame} {len W : Nat} {Z : State} {a0 : Array Value} {h : Heap} (hZ : Z.Warmed39 s.vm) (hw : ∀ d ∈ StrChars.Road.wordsEq, d.before a0 Z = true) (wi : (Jvm.Cond.instantiable "java/lang/String" 4).before a0 Z = true) {x t y t' : Addr} {cs ds : List Int32} {z : Int32} (A : own_Str Z h x t cs) (B : own_Str Z h y t' ds) (S : Sta Z h "java/lang/String" "COMPACT_STRINGS" "Z" (.int z)) (hz : ¬ z = 0) (hfr : 2 ≤ R.frames) (hlo : W + 28 ≤ R.locals) :
    Back l R p e below s args (⟨"java/lang/String", "equals", "(Ljava/lang/Object;)Z"⟩ : MethodName) len W (fun P a => a = #[.ref x, .ref y] ∧ P.U.heap = h ∧ P.cells + 0 ≤ R.cells ∧ P.slots + 0 ≤ R.slots)
      (fun P _ v B => ∃ L, (((v = some (.int 1) ∧ cs = ds) ∨ (v = some (.int 0) ∧ ¬ cs = ds)) ∧ L = [] ∧ B.U.heap = h) ∧ B.locs = P.locs ++ L ∧ B.cells = P.cells + 0 ∧ B.slots = P.slots + 0) := by
  obtain ⟨_, _, _, _, f1, f2, f3, f4, f5, f6, f7⟩ := A
  obtain ⟨_, _, _, _, g1, g2, g3, g4, g5, g6, g7⟩ := B
  exact StrChars.Road.eqW hZ hw wi f1 f2 f3 f4 f5 f6 f7 g1 g2 g3 g4 g5 g6 g7 S hz hfr hlo
section OwnKitS
variable {p : Program} {l : Launch} {e : Env} {R : Room} {s : State} {m : MethodId} {args : Array Value} {below : List Frame} {meth : Method} {c : Code} {T : State} {locs : List Loc} {cells slots : Nat} {Z : State} {h : Heap} {vm0 : Vm} {EL : List (String × Nat)} {a0 : Array Value}
def own_PostW (Z : State) (EL : List (String × Nat)) (Q : Option Value → Heap → List Loc → Prop) (k n : Nat) (below : List Frame) (U : State) (t : State) (o : Outcome) : Prop :=
  t.status = .running ∧ Ended t below o ∧ ∃ v L, o = .returned v ∧ Q v t.heap L ∧ CHr Z EL U.vm U.heap t.vm t.heap ∧ ReturnedEndW U o t L k n
theorem own_retW {x : MethodName} {S : Spec} {code : ByteArray} {mx : Nat} {rt : Option FieldType} {s₁ : State} {Q : Option Value → Heap → List Loc → Prop} {kc kn k0 : Nat} (X : Stand p l e R (s.setVm vm0) m args below meth c T locs cells slots) (hx : p.tables.exec = Jvm.exec) (Bd : BodyLoose p l x S code mx rt e s m args below meth c s₁) (hS : s.Since vm0 k0) (hk : k0 ≤ T.heap.size) {pc : Nat} {Ls : Array Slot} {w : Value} {t : FieldType} {i : Instr} {rest : List Value} (hret : meth.sig.returnType = some t) (hn : narrow t w = w)
    (hi : (i = .ireturn ∧ (t = .int ∨ t = .boolean ∨ t = .byte ∨ t = .char ∨ t = .short) ∧ ∃ z, w = .int z) ∨ (i = .lreturn ∧ t = .long ∧ ∃ z, w = .long z) ∨ (i = .dreturn ∧ t = .double ∧ ∃ z, w = .double z) ∨ (i = .freturn ∧ t = .float ∧ ∃ z, w = .float z) ∨ (i = .areturn ∧ t.isReference = true ∧ w.isRef = true))
    (hd : decode c.code pc = .ok (i, 1)) (hCR : CHr Z EL s.vm s.heap T.vm T.heap) (hQ : Q (some w) T.heap locs) (hc : cells ≤ kc) (hs : slots ≤ kn) : own_Fin p.tables e below (own_PostW Z EL Q kc kn below s) (T.setTop (mkF m pc Ls (w :: rest))) := by
  obtain ⟨fs, hr, hrun, hended, hW⟩ := X.leaveW hS hk (v := some w) (fun h => by rw [hret] at h; cases h) Bd.notSynchronized
  exact ⟨_, _, retOut X hx hret hn hi hd hr, hrun, hended, _, _, rfl, hQ, hCR, hW.1, hW.2.1, hW.2.2.1, hW.2.2.2.mono hc hs⟩
theorem own_retW0 {x : MethodName} {S : Spec} {code : ByteArray} {mx : Nat} {s₁ : State} {Q : Option Value → Heap → List Loc → Prop} {kc kn k0 : Nat} (X : Stand p l e R (s.setVm vm0) m args below meth c T locs cells slots) (hx : p.tables.exec = Jvm.exec) (Bd : BodyLoose p l x S code mx none e s m args below meth c s₁) (hS : s.Since vm0 k0) (hk : k0 ≤ T.heap.size) {pc : Nat} {Ls : Array Slot}
    (hd : decode c.code pc = .ok (.return_, 1)) (hCR : CHr Z EL s.vm s.heap T.vm T.heap) (hQ : Q none T.heap locs) (hc : cells ≤ kc) (hs : slots ≤ kn) : own_Fin p.tables e below (own_PostW Z EL Q kc kn below s) (T.setTop (mkF m pc Ls [])) := by
  obtain ⟨fs, hr, hrun, hended, hW⟩ := X.leaveW hS hk (v := none) (fun _ => rfl) Bd.notSynchronized
  exact ⟨_, _, X.returnOut hx Bd.returns hd hr, hrun, hended, _, _, rfl, hQ, hCR, hW.1, hW.2.1, hW.2.2.1, hW.2.2.2.mono hc hs⟩
theorem own_safe_null {x : Addr} (hal : Z.vm.Alike vm0) (E : Exa Z h x "java/lang/String") (F : Fld Z h x "java/lang/String" "value" "[B" .null) : Safe Z EL vm0 h x := fun B => by
  obtain ⟨cell, k, e1, e2, e3, -, -⟩ := E
  obtain ⟨p, -, u, a, -, q, -, G, rfl | rfl⟩ := B
  · cases (show h[q.sa]? = some q.sC from G.ha).symm.trans e1
    obtain ⟨cS, ⟨⟨-, -, -, ⟨c1, k1, i1, f1, -⟩, -, -, -, v1, -⟩, -⟩, -⟩ := G
    obtain ⟨cl2, cf, kf, i, f, g1, g2, -, -, -, -, g7⟩ := F
    cases (show h[q.sa]? = some q.sC from e1).symm.trans g1
    obtain ⟨k3, e4, -⟩ := State.fieldFound?_setVm (s := Z) hal g2
    have e5 := (show (Wst Z vm0 h).fieldFound? _ _ _ = _ from e4).symm.trans f1
    simp only [Option.some.injEq, Prod.mk.injEq] at e5
    rw [e5.2.2.2, v1] at g7
    simp at g7
  · cases (show h[q.sd]? = some q.SA from G.hd).symm.trans e1
    obtain ⟨cS, -, -, f, -⟩ := G
    rw [show (Wst Z vm0 h).vm = vm0 from rfl, hal.findClass] at f
    obtain ⟨k1, q1, q2⟩ := Vm.findClass_spec f
    obtain ⟨k2, q3, q4⟩ := Vm.findClass_spec e2
    cases q1.symm.trans q3
    exact absurd (q2.symm.trans q4) (by decide)
end OwnKitS
theorem own_b8 {x : Int32} : x.toInt8.toInt32.toInt8.toInt32 = x.toInt8.toInt32 := by simp
theorem own_and255 (x : Int32) : ¬ (x &&& 255) < 0 ∧ ¬ (255 : Int32) < (x &&& 255) := by
  have t : ∀ k : Fin 256, ¬ (Int32.ofNat k.val) < 0 ∧ ¬ (255 : Int32) < Int32.ofNat k.val := by decide +kernel
  have h : (x &&& 255).toBitVec.toNat < 256 := by
    simp only [Int32.toBitVec_and, BitVec.toNat_and]
    exact Nat.lt_succ_of_le Nat.and_le_right
  have e : (x &&& 255) = Int32.ofNat (x &&& 255).toBitVec.toNat := by
    apply Int32.toBitVec_inj.mp
    show _ = BitVec.ofNat 32 _
    rw [BitVec.ofNat_toNat]; simp
  rw [e]
  exact t ⟨_, h⟩
theorem own_nar255 {x : Int32} : nar .char (x &&& 255) = x &&& 255 := i2c_mask x
theorem own_and_max (x : Int32) : 0 ≤ (x &&& 2147483647).toInt := by
  have e : (2147483647 : Int32).toBitVec.msb = false := by decide
  have h : (x &&& 2147483647).toBitVec.msb = false := by rw [Int32.toBitVec_and, BitVec.msb_and, e, Bool.and_false]
  have := BitVec.toInt_eq_toNat_of_msb h
  show 0 ≤ (x &&& 2147483647).toBitVec.toInt
  omega
theorem own_mod9 (x : Int32) : (x &&& 2147483647) % 9 = 0 ∨ (x &&& 2147483647) % 9 = 1 ∨ (x &&& 2147483647) % 9 = 2 ∨ (x &&& 2147483647) % 9 = 3 ∨ (x &&& 2147483647) % 9 = 4 ∨ (x &&& 2147483647) % 9 = 5 ∨ (x &&& 2147483647) % 9 = 6 ∨ (x &&& 2147483647) % 9 = 7 ∨ (x &&& 2147483647) % 9 = 8 := by
  have e : ((x &&& 2147483647) % 9).toInt = (x &&& 2147483647).toInt.tmod 9 := by rw [Int32.toInt_mod]; rfl
  have h0 := own_and_max x
  rw [Int.tmod_eq_emod_of_nonneg h0] at e
  simp only [← Int32.toInt_inj]
  have : (0 : Int32).toInt = 0 ∧ (1 : Int32).toInt = 1 ∧ (2 : Int32).toInt = 2 ∧ (3 : Int32).toInt = 3 ∧ (4 : Int32).toInt = 4 ∧ (5 : Int32).toInt = 5 ∧ (6 : Int32).toInt = 6 ∧ (7 : Int32).toInt = 7 ∧ (8 : Int32).toInt = 8 := by decide
  omega
theorem own_f1 {z : Int32} {PK PC : Prop} (hz : (z = 1 ∧ PK ∧ PC) ∨ (z = 0 ∧ ¬ (PK ∧ PC))) (h1 : PK) (h2 : PC) : z = 1 := hz.elim (fun q => q.1) (fun q => absurd ⟨h1, h2⟩ q.2)
theorem own_f0 {z : Int32} {PK PC : Prop} (hz : (z = 1 ∧ PK ∧ PC) ∨ (z = 0 ∧ ¬ (PK ∧ PC))) (h : ¬ (PK ∧ PC)) : z = 0 := hz.elim (fun q => absurd q.2 h) (fun q => q.1)
theorem own_fin256 {P : Int32 → Prop} (h : ∀ k : Fin 256, P (Int32.ofNat k.val)) {c : Int32} (hc : ¬ c < 0 ∧ ¬ (255 : Int32) < c) : P c := by
  have h1 : 0 ≤ c.toInt := by have := hc.1; rw [Int32.lt_iff_toInt_lt] at this; simpa using this
  have h2 : c.toInt ≤ 255 := by have := hc.2; rw [Int32.lt_iff_toInt_lt] at this; have e : (255 : Int32).toInt = 255 := rfl; omega
  have e : c = Int32.ofNat c.toInt.toNat := by
    apply Int32.toInt_inj.mp
    rw [Int32.toInt_ofNat_of_lt (by omega)]; omega
  rw [e]
  exact h ⟨c.toInt.toNat, by omega⟩
theorem own_narb {c : Int32} (hc : ¬ c < 0 ∧ ¬ (255 : Int32) < c) : nar .char c = c := own_fin256 (P := fun c => nar .char c = c) (by decide +kernel) hc
def own_mk (ln c0 c1 c2 : Int32) : List Int32 := if ln = 0 then [] else if ln = 1 then [c0] else if ln = 2 then [c0, c1] else [c0, c1, c2]
def own_same (l1 a0 a1 a2 l2 b0 b1 b2 : Int32) : Prop := l1 = l2 ∧ (l1 < 1 ∨ a0 = b0) ∧ (l1 < 2 ∨ a1 = b1) ∧ (l1 < 3 ∨ a2 = b2)
theorem own_mk_same {l1 a0 a1 a2 l2 b0 b1 b2 : Int32} (h1 : l1 = 0 ∨ l1 = 1 ∨ l1 = 2 ∨ l1 = 3) (h2 : l2 = 0 ∨ l2 = 1 ∨ l2 = 2 ∨ l2 = 3) : (own_mk l1 a0 a1 a2 = own_mk l2 b0 b1 b2) ↔ own_same l1 a0 a1 a2 l2 b0 b1 b2 := by
  rcases h1 with rfl | rfl | rfl | rfl <;> rcases h2 with rfl | rfl | rfl | rfl <;> simp [own_mk, own_same] <;> decide
theorem own_and3 (x : Int64) : (x &&& 3).toInt32 = 0 ∨ (x &&& 3).toInt32 = 1 ∨ (x &&& 3).toInt32 = 2 ∨ (x &&& 3).toInt32 = 3 := by
  have t : ∀ k : Fin 4, (Int64.ofNat k.val).toInt32 = 0 ∨ (Int64.ofNat k.val).toInt32 = 1 ∨ (Int64.ofNat k.val).toInt32 = 2 ∨ (Int64.ofNat k.val).toInt32 = 3 := by decide +kernel
  have h : (x &&& 3).toBitVec.toNat < 4 := by
    simp only [Int64.toBitVec_and, BitVec.toNat_and]
    exact Nat.lt_succ_of_le Nat.and_le_right
  have e : (x &&& 3) = Int64.ofNat (x &&& 3).toBitVec.toNat := by
    apply Int64.toBitVec_inj.mp
    show _ = BitVec.ofNat 64 _
    rw [BitVec.ofNat_toNat]; simp
  rw [e]
  exact t ⟨_, h⟩
theorem own_ch255 (x : Int64) : ¬ (x &&& 255).toInt32.toUInt32.toUInt16.toUInt32.toInt32 < 0 ∧ ¬ (255 : Int32) < (x &&& 255).toInt32.toUInt32.toUInt16.toUInt32.toInt32 := by
  have t : ∀ k : Fin 256, ¬ (Int64.ofNat k.val).toInt32.toUInt32.toUInt16.toUInt32.toInt32 < 0 ∧ ¬ (255 : Int32) < (Int64.ofNat k.val).toInt32.toUInt32.toUInt16.toUInt32.toInt32 := by decide +kernel
  have h : (x &&& 255).toBitVec.toNat < 256 := by
    simp only [Int64.toBitVec_and, BitVec.toNat_and]
    exact Nat.lt_succ_of_le Nat.and_le_right
  have e : (x &&& 255) = Int64.ofNat (x &&& 255).toBitVec.toNat := by
    apply Int64.toBitVec_inj.mp
    show _ = BitVec.ofNat 64 _
    rw [BitVec.ofNat_toNat]; simp
  rw [e]
  exact t ⟨_, h⟩
theorem pn_0 : plainName "java/lang/StringLatin1" = true := by first | (simp [plainName, overriddenIn]; done) | decide +kernel
theorem d15_0 : decode jdk_43_method_3_code 0 = .ok (.iload_n 0, 1) := by decide +kernel
theorem d15_1 : decode jdk_43_method_3_code 1 = .ok (.sipush 255, 3) := by decide +kernel
theorem d15_4 : decode jdk_43_method_3_code 4 = .ok (.if_icmp .gt 7, 3) := by decide +kernel
theorem d15_7 : decode jdk_43_method_3_code 7 = .ok (.iconst 1, 1) := by decide +kernel
theorem d15_8 : decode jdk_43_method_3_code 8 = .ok (.goto 4, 3) := by decide +kernel
theorem d15_12 : decode jdk_43_method_3_code 12 = .ok (.ireturn, 1) := by decide +kernel
theorem d16_0 : decode jdk_43_method_46_code 0 = .ok (.iconst 1, 1) := by decide +kernel
theorem d16_1 : decode jdk_43_method_46_code 1 = .ok (.newarray .byte, 2) := by decide +kernel
theorem d16_3 : decode jdk_43_method_46_code 3 = .ok (.dup, 1) := by decide +kernel
theorem d16_4 : decode jdk_43_method_46_code 4 = .ok (.iconst 0, 1) := by decide +kernel
theorem d16_5 : decode jdk_43_method_46_code 5 = .ok (.iload_n 0, 1) := by decide +kernel
theorem d16_6 : decode jdk_43_method_46_code 6 = .ok (.i2b, 1) := by decide +kernel
theorem d16_7 : decode jdk_43_method_46_code 7 = .ok (.bastore, 1) := by decide +kernel
theorem d16_8 : decode jdk_43_method_46_code 8 = .ok (.areturn, 1) := by decide +kernel
theorem pn_1 : plainName "java/lang/String" = true := by first | (simp [plainName, overriddenIn]; done) | decide +kernel
theorem d17_0 : decode jdk_42_method_151_code 0 = .ok (.aload_n 0, 1) := by decide +kernel
theorem d17_1 : decode jdk_42_method_151_code 1 = .ok (.invokespecial 1, 3) := by decide +kernel
theorem d17_4 : decode jdk_42_method_151_code 4 = .ok (.aload_n 0, 1) := by decide +kernel
theorem d17_5 : decode jdk_42_method_151_code 5 = .ok (.aload_n 1, 1) := by decide +kernel
theorem d17_6 : decode jdk_42_method_151_code 6 = .ok (.putfield 9, 3) := by decide +kernel
theorem d17_9 : decode jdk_42_method_151_code 9 = .ok (.aload_n 0, 1) := by decide +kernel
theorem d17_10 : decode jdk_42_method_151_code 10 = .ok (.iload_n 2, 1) := by decide +kernel
theorem d17_11 : decode jdk_42_method_151_code 11 = .ok (.putfield 15, 3) := by decide +kernel
theorem d17_14 : decode jdk_42_method_151_code 14 = .ok (.return_, 1) := by decide +kernel
theorem d14_0 : decode jdk_42_method_139_code 0 = .ok (.getstatic 38, 3) := by decide +kernel
theorem d14_3 : decode jdk_42_method_139_code 3 = .ok (.ifCond .eq 23, 3) := by decide +kernel
theorem d14_6 : decode jdk_42_method_139_code 6 = .ok (.iload_n 0, 1) := by decide +kernel
theorem d14_7 : decode jdk_42_method_139_code 7 = .ok (.invokestatic 1015, 3) := by decide +kernel
theorem pd_2 : parseMethodDescriptor "(C)Z" = some ⟨[.char], some .boolean⟩ := by decide +kernel
theorem d14_10 : decode jdk_42_method_139_code 10 = .ok (.ifCond .eq 16, 3) := by decide +kernel
theorem d14_13 : decode jdk_42_method_139_code 13 = .ok (.new 10, 3) := by decide +kernel
theorem d14_16 : decode jdk_42_method_139_code 16 = .ok (.dup, 1) := by decide +kernel
theorem d14_17 : decode jdk_42_method_139_code 17 = .ok (.iload_n 0, 1) := by decide +kernel
theorem d14_18 : decode jdk_42_method_139_code 18 = .ok (.invokestatic 1018, 3) := by decide +kernel
theorem pd_3 : parseMethodDescriptor "(C)[B" = some ⟨[.char], some (.array .byte)⟩ := by decide +kernel
theorem d14_21 : decode jdk_42_method_139_code 21 = .ok (.iconst 0, 1) := by decide +kernel
theorem d14_22 : decode jdk_42_method_139_code 22 = .ok (.invokespecial 209, 3) := by decide +kernel
theorem pd_4 : parseMethodDescriptor "([BB)V" = some ⟨[(.array .byte), .byte], none⟩ := by decide +kernel
theorem d14_25 : decode jdk_42_method_139_code 25 = .ok (.areturn, 1) := by decide +kernel
theorem d3_0 : decode jdk_42_method_149_code 0 = .ok (.aload_n 0, 1) := by decide +kernel
theorem d3_1 : decode jdk_42_method_149_code 1 = .ok (.invokespecial 1, 3) := by decide +kernel
theorem d3_4 : decode jdk_42_method_149_code 4 = .ok (.iload_n 3, 1) := by decide +kernel
theorem d3_5 : decode jdk_42_method_149_code 5 = .ok (.ifCond .ne 22, 3) := by decide +kernel
theorem d3_8 : decode jdk_42_method_149_code 8 = .ok (.aload_n 0, 1) := by decide +kernel
theorem d3_9 : decode jdk_42_method_149_code 9 = .ok (.ldc 7, 2) := by decide +kernel
theorem d3_11 : decode jdk_42_method_149_code 11 = .ok (.getfield 9, 3) := by decide +kernel
theorem d3_14 : decode jdk_42_method_149_code 14 = .ok (.putfield 9, 3) := by decide +kernel
theorem d3_17 : decode jdk_42_method_149_code 17 = .ok (.aload_n 0, 1) := by decide +kernel
theorem d3_18 : decode jdk_42_method_149_code 18 = .ok (.ldc 7, 2) := by decide +kernel
theorem d3_20 : decode jdk_42_method_149_code 20 = .ok (.getfield 15, 3) := by decide +kernel
theorem d3_23 : decode jdk_42_method_149_code 23 = .ok (.putfield 15, 3) := by decide +kernel
theorem d3_26 : decode jdk_42_method_149_code 26 = .ok (.return_, 1) := by decide +kernel
theorem d2_0 : decode jdk_42_method_3_code 0 = .ok (.aload_n 0, 1) := by decide +kernel
theorem d2_1 : decode jdk_42_method_3_code 1 = .ok (.aload_n 1, 1) := by decide +kernel
theorem d2_2 : decode jdk_42_method_3_code 2 = .ok (.iconst 0, 1) := by decide +kernel
theorem d2_3 : decode jdk_42_method_3_code 3 = .ok (.aload_n 1, 1) := by decide +kernel
theorem d2_4 : decode jdk_42_method_3_code 4 = .ok (.arraylength, 1) := by decide +kernel
theorem d2_5 : decode jdk_42_method_3_code 5 = .ok (.aconst_null, 1) := by decide +kernel
theorem d2_6 : decode jdk_42_method_3_code 6 = .ok (.invokespecial 27, 3) := by decide +kernel
theorem pd_5 : parseMethodDescriptor "([CIILjava/lang/Void;)V" = some ⟨[(.array .char), .int, .int, (.object "java/lang/Void")], none⟩ := by decide +kernel
theorem d2_9 : decode jdk_42_method_3_code 9 = .ok (.return_, 1) := by decide +kernel
theorem d12_0 : decode jdk_42_method_66_code 0 = .ok (.aload_n 0, 1) := by decide +kernel
theorem d12_1 : decode jdk_42_method_66_code 1 = .ok (.aload_n 1, 1) := by decide +kernel
theorem d12_2 : decode jdk_42_method_66_code 2 = .ok (.if_acmp .ne 5, 3) := by decide +kernel
theorem d12_7 : decode jdk_42_method_66_code 7 = .ok (.aload_n 1, 1) := by decide +kernel
theorem d12_8 : decode jdk_42_method_66_code 8 = .ok (.instanceof 10, 3) := by decide +kernel
theorem d12_11 : decode jdk_42_method_66_code 11 = .ok (.ifCond .eq 43, 3) := by decide +kernel
theorem d12_54 : decode jdk_42_method_66_code 54 = .ok (.iconst 0, 1) := by decide +kernel
theorem d12_55 : decode jdk_42_method_66_code 55 = .ok (.ireturn, 1) := by decide +kernel
theorem pn_6 : plainName "java/lang/Record" = true := by first | (simp [plainName, overriddenIn]; done) | decide +kernel
theorem d6_0 : decode jdk_30_method_1_code 0 = .ok (.aload_n 0, 1) := by decide +kernel
theorem d6_1 : decode jdk_30_method_1_code 1 = .ok (.invokespecial 1, 3) := by decide +kernel
theorem d6_4 : decode jdk_30_method_1_code 4 = .ok (.return_, 1) := by decide +kernel
theorem pn_7 : plainName "com/example/obra/obra/Token" = true := by first | (simp [plainName, overriddenIn]; done) | decide +kernel
theorem d5_0 : decode prog_84_method_1_code 0 = .ok (.aload_n 0, 1) := by decide +kernel
theorem d5_1 : decode prog_84_method_1_code 1 = .ok (.invokespecial 1, 3) := by decide +kernel
theorem pd_8 : parseMethodDescriptor "()V" = some ⟨[], none⟩ := by decide +kernel
theorem d5_4 : decode prog_84_method_1_code 4 = .ok (.aload_n 0, 1) := by decide +kernel
theorem d5_5 : decode prog_84_method_1_code 5 = .ok (.aload_n 1, 1) := by decide +kernel
theorem d5_6 : decode prog_84_method_1_code 6 = .ok (.putfield 7, 3) := by decide +kernel
theorem d5_9 : decode prog_84_method_1_code 9 = .ok (.aload_n 0, 1) := by decide +kernel
theorem d5_10 : decode prog_84_method_1_code 10 = .ok (.aload_n 2, 1) := by decide +kernel
theorem d5_11 : decode prog_84_method_1_code 11 = .ok (.putfield 13, 3) := by decide +kernel
theorem d5_14 : decode prog_84_method_1_code 14 = .ok (.aload_n 0, 1) := by decide +kernel
theorem d5_15 : decode prog_84_method_1_code 15 = .ok (.iload_n 3, 1) := by decide +kernel
theorem d5_16 : decode prog_84_method_1_code 16 = .ok (.putfield 17, 3) := by decide +kernel
theorem d5_19 : decode prog_84_method_1_code 19 = .ok (.aload_n 0, 1) := by decide +kernel
theorem d5_20 : decode prog_84_method_1_code 20 = .ok (.iload 4, 2) := by decide +kernel
theorem d5_22 : decode prog_84_method_1_code 22 = .ok (.putfield 21, 3) := by decide +kernel
theorem d5_25 : decode prog_84_method_1_code 25 = .ok (.return_, 1) := by decide +kernel
theorem d7_0 : decode prog_84_method_2_code 0 = .ok (.aload_n 0, 1) := by decide +kernel
theorem d7_1 : decode prog_84_method_2_code 1 = .ok (.getfield 7, 3) := by decide +kernel
theorem d7_4 : decode prog_84_method_2_code 4 = .ok (.getstatic 24, 3) := by decide +kernel
theorem d7_7 : decode prog_84_method_2_code 7 = .ok (.if_acmp .eq 13, 3) := by decide +kernel
theorem d7_20 : decode prog_84_method_2_code 20 = .ok (.aload_n 0, 1) := by decide +kernel
theorem d7_21 : decode prog_84_method_2_code 21 = .ok (.getfield 13, 3) := by decide +kernel
theorem d7_24 : decode prog_84_method_2_code 24 = .ok (.aload_n 1, 1) := by decide +kernel
theorem d7_25 : decode prog_84_method_2_code 25 = .ok (.invokevirtual 32, 3) := by decide +kernel
theorem pd_9 : parseMethodDescriptor "(Ljava/lang/Object;)Z" = some ⟨[(.object "java/lang/Object")], some .boolean⟩ := by decide +kernel
theorem d7_28 : decode prog_84_method_2_code 28 = .ok (.ifCond .eq 7, 3) := by decide +kernel
theorem d7_35 : decode prog_84_method_2_code 35 = .ok (.iconst 0, 1) := by decide +kernel
theorem d7_36 : decode prog_84_method_2_code 36 = .ok (.ireturn, 1) := by decide +kernel
theorem d7_31 : decode prog_84_method_2_code 31 = .ok (.iconst 1, 1) := by decide +kernel
theorem d7_32 : decode prog_84_method_2_code 32 = .ok (.goto 4, 3) := by decide +kernel
theorem d7_10 : decode prog_84_method_2_code 10 = .ok (.aload_n 0, 1) := by decide +kernel
theorem d7_11 : decode prog_84_method_2_code 11 = .ok (.getfield 7, 3) := by decide +kernel
theorem d7_14 : decode prog_84_method_2_code 14 = .ok (.getstatic 29, 3) := by decide +kernel
theorem d7_17 : decode prog_84_method_2_code 17 = .ok (.if_acmp .ne 18, 3) := by decide +kernel
theorem pn_10 : plainName "com/example/obra/obra/TokenIsPinLaw" = true := by first | (simp [plainName, overriddenIn]; done) | decide +kernel
theorem d1_0 : decode method_2_code 0 = .ok (.iload_n 0, 1) := by decide +kernel
theorem d1_1 : decode method_2_code 1 = .ok (.ifCond .ne 14, 3) := by decide +kernel
theorem d1_4 : decode method_2_code 4 = .ok (.new 7, 3) := by decide +kernel
theorem d1_7 : decode method_2_code 7 = .ok (.dup, 1) := by decide +kernel
theorem d1_8 : decode method_2_code 8 = .ok (.iconst 0, 1) := by decide +kernel
theorem d1_9 : decode method_2_code 9 = .ok (.newarray .char, 2) := by decide +kernel
theorem d1_11 : decode method_2_code 11 = .ok (.invokespecial 9, 3) := by decide +kernel
theorem pd_11 : parseMethodDescriptor "([C)V" = some ⟨[(.array .char)], none⟩ := by decide +kernel
theorem d1_14 : decode method_2_code 14 = .ok (.areturn, 1) := by decide +kernel
theorem d1_15 : decode method_2_code 15 = .ok (.iload_n 0, 1) := by decide +kernel
theorem d1_16 : decode method_2_code 16 = .ok (.iconst 1, 1) := by decide +kernel
theorem d1_17 : decode method_2_code 17 = .ok (.if_icmp .ne 8, 3) := by decide +kernel
theorem d1_20 : decode method_2_code 20 = .ok (.iload_n 1, 1) := by decide +kernel
theorem d1_21 : decode method_2_code 21 = .ok (.invokestatic 12, 3) := by decide +kernel
theorem pd_12 : parseMethodDescriptor "(C)Ljava/lang/String;" = some ⟨[.char], some (.object "java/lang/String")⟩ := by decide +kernel
theorem d1_24 : decode method_2_code 24 = .ok (.areturn, 1) := by decide +kernel
theorem d1_25 : decode method_2_code 25 = .ok (.iload_n 0, 1) := by decide +kernel
theorem d1_26 : decode method_2_code 26 = .ok (.iconst 2, 1) := by decide +kernel
theorem d1_27 : decode method_2_code 27 = .ok (.if_icmp .ne 22, 3) := by decide +kernel
theorem d1_30 : decode method_2_code 30 = .ok (.new 7, 3) := by decide +kernel
theorem d1_33 : decode method_2_code 33 = .ok (.dup, 1) := by decide +kernel
theorem d1_34 : decode method_2_code 34 = .ok (.iconst 2, 1) := by decide +kernel
theorem d1_35 : decode method_2_code 35 = .ok (.newarray .char, 2) := by decide +kernel
theorem d1_37 : decode method_2_code 37 = .ok (.dup, 1) := by decide +kernel
theorem d1_38 : decode method_2_code 38 = .ok (.iconst 0, 1) := by decide +kernel
theorem d1_39 : decode method_2_code 39 = .ok (.iload_n 1, 1) := by decide +kernel
theorem d1_40 : decode method_2_code 40 = .ok (.castore, 1) := by decide +kernel
theorem d1_41 : decode method_2_code 41 = .ok (.dup, 1) := by decide +kernel
theorem d1_42 : decode method_2_code 42 = .ok (.iconst 1, 1) := by decide +kernel
theorem d1_43 : decode method_2_code 43 = .ok (.iload_n 2, 1) := by decide +kernel
theorem d1_44 : decode method_2_code 44 = .ok (.castore, 1) := by decide +kernel
theorem d1_45 : decode method_2_code 45 = .ok (.invokespecial 9, 3) := by decide +kernel
theorem d1_48 : decode method_2_code 48 = .ok (.areturn, 1) := by decide +kernel
theorem d1_49 : decode method_2_code 49 = .ok (.new 7, 3) := by decide +kernel
theorem d1_52 : decode method_2_code 52 = .ok (.dup, 1) := by decide +kernel
theorem d1_53 : decode method_2_code 53 = .ok (.iconst 3, 1) := by decide +kernel
theorem d1_54 : decode method_2_code 54 = .ok (.newarray .char, 2) := by decide +kernel
theorem d1_56 : decode method_2_code 56 = .ok (.dup, 1) := by decide +kernel
theorem d1_57 : decode method_2_code 57 = .ok (.iconst 0, 1) := by decide +kernel
theorem d1_58 : decode method_2_code 58 = .ok (.iload_n 1, 1) := by decide +kernel
theorem d1_59 : decode method_2_code 59 = .ok (.castore, 1) := by decide +kernel
theorem d1_60 : decode method_2_code 60 = .ok (.dup, 1) := by decide +kernel
theorem d1_61 : decode method_2_code 61 = .ok (.iconst 1, 1) := by decide +kernel
theorem d1_62 : decode method_2_code 62 = .ok (.iload_n 2, 1) := by decide +kernel
theorem d1_63 : decode method_2_code 63 = .ok (.castore, 1) := by decide +kernel
theorem d1_64 : decode method_2_code 64 = .ok (.dup, 1) := by decide +kernel
theorem d1_65 : decode method_2_code 65 = .ok (.iconst 2, 1) := by decide +kernel
theorem d1_66 : decode method_2_code 66 = .ok (.iload_n 3, 1) := by decide +kernel
theorem d1_67 : decode method_2_code 67 = .ok (.castore, 1) := by decide +kernel
theorem d1_68 : decode method_2_code 68 = .ok (.invokespecial 9, 3) := by decide +kernel
theorem d1_71 : decode method_2_code 71 = .ok (.areturn, 1) := by decide +kernel
theorem d11_0 : decode method_3_code 0 = .ok (.iload_n 0, 1) := by decide +kernel
theorem d11_1 : decode method_3_code 1 = .ok (.iload 4, 2) := by decide +kernel
theorem d11_3 : decode method_3_code 3 = .ok (.if_icmp .ne 40, 3) := by decide +kernel
theorem d11_6 : decode method_3_code 6 = .ok (.iload_n 0, 1) := by decide +kernel
theorem d11_7 : decode method_3_code 7 = .ok (.iconst 1, 1) := by decide +kernel
theorem d11_8 : decode method_3_code 8 = .ok (.if_icmp .lt 9, 3) := by decide +kernel
theorem d11_17 : decode method_3_code 17 = .ok (.iload_n 0, 1) := by decide +kernel
theorem d11_18 : decode method_3_code 18 = .ok (.iconst 2, 1) := by decide +kernel
theorem d11_19 : decode method_3_code 19 = .ok (.if_icmp .lt 9, 3) := by decide +kernel
theorem d11_28 : decode method_3_code 28 = .ok (.iload_n 0, 1) := by decide +kernel
theorem d11_29 : decode method_3_code 29 = .ok (.iconst 3, 1) := by decide +kernel
theorem d11_30 : decode method_3_code 30 = .ok (.if_icmp .lt 9, 3) := by decide +kernel
theorem d11_39 : decode method_3_code 39 = .ok (.iconst 1, 1) := by decide +kernel
theorem d11_40 : decode method_3_code 40 = .ok (.goto 4, 3) := by decide +kernel
theorem d11_44 : decode method_3_code 44 = .ok (.ireturn, 1) := by decide +kernel
theorem d11_33 : decode method_3_code 33 = .ok (.iload_n 3, 1) := by decide +kernel
theorem d11_34 : decode method_3_code 34 = .ok (.iload 7, 2) := by decide +kernel
theorem d11_36 : decode method_3_code 36 = .ok (.if_icmp .ne 7, 3) := by decide +kernel
theorem d11_43 : decode method_3_code 43 = .ok (.iconst 0, 1) := by decide +kernel
theorem d11_22 : decode method_3_code 22 = .ok (.iload_n 2, 1) := by decide +kernel
theorem d11_23 : decode method_3_code 23 = .ok (.iload 6, 2) := by decide +kernel
theorem d11_25 : decode method_3_code 25 = .ok (.if_icmp .ne 18, 3) := by decide +kernel
theorem d11_11 : decode method_3_code 11 = .ok (.iload_n 1, 1) := by decide +kernel
theorem d11_12 : decode method_3_code 12 = .ok (.iload 5, 2) := by decide +kernel
theorem d11_14 : decode method_3_code 14 = .ok (.if_icmp .ne 29, 3) := by decide +kernel
theorem pd_13 : parseMethodDescriptor "(ICCC)Ljava/lang/String;" = some ⟨[.int, .char, .char, .char], some (.object "java/lang/String")⟩ := by decide +kernel
theorem pd_14 : parseMethodDescriptor "(Lcom/example/obra/obra/Token$Kind;Ljava/lang/String;II)V" = some ⟨[(.object "com/example/obra/obra/Token$Kind"), (.object "java/lang/String"), .int, .int], none⟩ := by decide +kernel
theorem pd_15 : parseMethodDescriptor "(Ljava/lang/String;)Z" = some ⟨[(.object "java/lang/String")], some .boolean⟩ := by decide +kernel
theorem pd_16 : parseMethodDescriptor "(ICCCICCC)Z" = some ⟨[.int, .char, .char, .char, .int, .char, .char, .char], some .boolean⟩ := by decide +kernel
def Q_rm_can (Z : State) (ch : Int32) (h0 : Heap) (n0 : Nat) (v : Option Value) (h : Heap) (L : List Loc) : Prop := v = some (.int (1 : Int32)) ∧ Fr n0 L ∧ h = h0
theorem ef_rm_can (m : MethodId) (ch : Int32) : entryFrame m #[(.int ch)] 1 = mkF m 0 #[.val (.int ch)] [] := by first | (simp [entryFrame, mkF, argsToLocals, Value.category]; done) | rfl
set_option maxRecDepth 65536 in
set_option maxHeartbeats 40000000 in
theorem rm_can (l : Launch) (Z : State) (a0 : Array Value) (hw : ∀ d ∈ tables_1, d.before a0 Z = true) (ws : List Jvm.Cond) (ch : Int32) (h0 : Heap) (n0 : Nat) (Z0 : n0 ≤ h0.size) (hch : ¬ (255 : Int32) < ch) :
    MetFree l (⟨"java/lang/StringLatin1", "canEncode", "(C)Z"⟩ : MethodName) (head1 (Jvm.Cond.code (⟨"java/lang/StringLatin1", "canEncode", "(C)Z"⟩ : MethodName) jdk_43_method_3_code 1 (some .boolean) :: ws) ({ frames := 0, cells := 0, slots := 0, locals := 0 } : Room)) (fun a_ U_ => a_ = #[(.int ch)] ∧ Z.Warmed39 U_.vm ∧ U_.heap = h0) (fun _ _ _ _ _ => True) (fun _ U_ o_ V_ => ∃ v_ L_, o_ = .returned v_ ∧ (Q_rm_can Z ch h0 n0) v_ V_.heap L_ ∧ FrameEnd U_ o_ V_ L_ ({ frames := 0, cells := 0, slots := 0, locals := 0 } : Room).cells ({ frames := 0, cells := 0, slots := 0, locals := 0 } : Room).slots) := by
  refine MetFree.of_bodySF (plainFor_of_name pn_0) hisR ?_
  intro p e s m args below meth c s₁ Bd hml0 hP hK
  obtain ⟨rfl, hZ, hh⟩ := hP
  have hx := Bd.exec
  have hby := Bd.bytes
  have hml : c.maxLocals = 1 := hml0
  have hown : s.vm.findClass "java/lang/StringLatin1" = some m.cls := findClass_of_methodNamed Bd.named
  have hnm := (name_of_methodNamed Bd.named Bd.method).1
  have X0 : Stand p l e ({ frames := 0, cells := 0, slots := 0, locals := 0 } : Room) s m #[(.int ch)] below meth c s₁ [] 0 0 := Stand.of_body Bd
  have e0 : s₁.heap = h0 := by rw [← hh, Bd.state]; rfl
  have N0 := Fr.nil n0
  have K0 : Keep h0 h0 [] := Keep.refl _ _
  show own_Fin p.tables e below (own_Post (Q_rm_can Z ch h0 n0) ({ frames := 0, cells := 0, slots := 0, locals := 0 } : Room).cells ({ frames := 0, cells := 0, slots := 0, locals := 0 } : Room).slots below s) _
  refine own_go (fun _ kk_ => castTop (ef_rm_can m ch) kk_) ?_
  refine own_go (fun _ kk_ => XS.iloadN X0.here hx rfl (hb hby d15_0) rfl kk_) ?_
  refine own_go (fun _ kk_ => XS.sipush X0.here hx rfl (hb hby d15_1) kk_) ?_
  show own_Fin p.tables e below _ (s₁.setTop (mkF m 4 #[.val (.int ch)] [(.int (255 : Int32)), (.int ch)]))
  refine own_go (fun _ kk_ => XS.icmpNo X0.here hx rfl (hb hby d15_4) rfl (flt hch).2.2.1 kk_) ?_
  refine own_go (fun _ kk_ => XS.iconst X0.here hx rfl (hb hby d15_7) kk_) ?_
  refine own_go (fun _ kk_ => XS.goto X0.here hx rfl (pc0 := 8) (pc' := 12) rfl (hb hby d15_8) (by decide) (by decide) kk_) ?_
  show own_Fin p.tables e below _ (s₁.setTop (mkF m 12 #[.val (.int ch)] [(.int (1 : Int32))]))
  refine own_retI X0 hx Bd (t := .boolean) Bd.returns rfl (by simp) (hb hby d15_12) ?_ (by decide) (by decide)
  show (Q_rm_can Z ch h0 n0) (some (.int (1 : Int32))) s₁.heap _
  rw [e0]
  exact ⟨rfl, N0, rfl⟩
def Q_rm_tb (Z : State) (ch : Int32) (h0 : Heap) (n0 : Nat) (v : Option Value) (h : Heap) (L : List Loc) : Prop := ∃ (r : Addr) (k : ClassId), v = some (.ref r) ∧ Fr n0 L ∧ Keep h0 h [] ∧ h0.size ≤ r ∧ Arv Z h r k .byte (1 : Int32) [.int ch.toInt8.toInt32] (.int (0 : Int32))
theorem ef_rm_tb (m : MethodId) (ch : Int32) : entryFrame m #[(.int ch)] 1 = mkF m 0 #[.val (.int ch)] [] := by first | (simp [entryFrame, mkF, argsToLocals, Value.category]; done) | rfl
set_option maxRecDepth 65536 in
set_option maxHeartbeats 40000000 in
theorem rm_tb (l : Launch) (Z : State) (a0 : Array Value) (hw : ∀ d ∈ tables_1, d.before a0 Z = true) (ws : List Jvm.Cond) (ch : Int32) (h0 : Heap) (n0 : Nat) (Z0 : n0 ≤ h0.size) :
    MetFree l (⟨"java/lang/StringLatin1", "toBytes", "(C)[B"⟩ : MethodName) (head1 (Jvm.Cond.code (⟨"java/lang/StringLatin1", "toBytes", "(C)[B"⟩ : MethodName) jdk_43_method_46_code 1 (some (.array .byte)) :: ws) ({ frames := 0, cells := 1, slots := 1, locals := 0 } : Room)) (fun a_ U_ => a_ = #[(.int ch)] ∧ Z.Warmed39 U_.vm ∧ U_.heap = h0) (fun _ _ _ _ _ => True) (fun _ U_ o_ V_ => ∃ v_ L_, o_ = .returned v_ ∧ (Q_rm_tb Z ch h0 n0) v_ V_.heap L_ ∧ FrameEnd U_ o_ V_ L_ ({ frames := 0, cells := 1, slots := 1, locals := 0 } : Room).cells ({ frames := 0, cells := 1, slots := 1, locals := 0 } : Room).slots) := by
  refine MetFree.of_bodySF (plainFor_of_name pn_0) hisR ?_
  intro p e s m args below meth c s₁ Bd hml0 hP hK
  obtain ⟨rfl, hZ, hh⟩ := hP
  have hx := Bd.exec
  have hby := Bd.bytes
  have hml : c.maxLocals = 1 := hml0
  have hown : s.vm.findClass "java/lang/StringLatin1" = some m.cls := findClass_of_methodNamed Bd.named
  have hnm := (name_of_methodNamed Bd.named Bd.method).1
  have X0 : Stand p l e ({ frames := 0, cells := 1, slots := 1, locals := 0 } : Room) s m #[(.int ch)] below meth c s₁ [] 0 0 := Stand.of_body Bd
  have e0 : s₁.heap = h0 := by rw [← hh, Bd.state]; rfl
  have N0 := Fr.nil n0
  have K0 : Keep h0 h0 [] := Keep.refl _ _
  show own_Fin p.tables e below (own_Post (Q_rm_tb Z ch h0 n0) ({ frames := 0, cells := 1, slots := 1, locals := 0 } : Room).cells ({ frames := 0, cells := 1, slots := 1, locals := 0 } : Room).slots below s) _
  refine own_go (fun _ kk_ => castTop (ef_rm_tb m ch) kk_) ?_
  refine own_go (fun _ kk_ => XS.iconst X0.here hx rfl (hb hby d16_0) kk_) ?_
  show own_Fin p.tables e below _ (s₁.setTop (mkF m 1 #[.val (.int ch)] [(.int (1 : Int32))]))
  obtain ⟨T1, h1, k1, X1, e1, E1, A1, st1⟩ := newP X0 hx hZ (hw _ (List.mem_of_getElem? (i := 25) rfl)) e0 (g := (mkF m 1 #[.val (.int ch)] [(.int (1 : Int32))])) rfl (hb hby d16_1) rfl (by decide) (cap := 1) (by decide) (by decide) (by decide) (by decide)
  obtain ⟨b1, g1⟩ : ∃ z, z = h0.size := ⟨_, rfl⟩
  rw [← g1] at A1 st1
  have sz_b1 : h0.size ≤ b1 := Nat.le_trans K0.1 (Nat.le_of_eq g1.symm)
  have g_b1 : n0 ≤ b1 := Nat.le_trans Z0 sz_b1
  have K2 := K0.ext E1
  have V1 : Arv Z h1 b1 k1 .byte (1 : Int32) [(.int (0 : Int32))] (.int (0 : Int32)) := (Arv.new A1 (by decide)).pad (pad_rep [] (.int (0 : Int32)) 1)
  refine own_go st1 ?_
  refine own_go (fun _ kk_ => XS.dup X1.here hx rfl (hb hby d16_3) rfl rfl kk_) ?_
  refine own_go (fun _ kk_ => XS.iconst X1.here hx rfl (hb hby d16_4) kk_) ?_
  refine own_go (fun _ kk_ => XS.iloadN X1.here hx rfl (hb hby d16_5) rfl kk_) ?_
  show own_Fin p.tables e below _ (T1.setTop (mkF m 6 #[.val (.int ch)] [(.int ch), (.int (0 : Int32)), (.ref b1), (.ref b1)]))
  refine own_go (fun _ kk_ => XS.i2b X1.here hx rfl (hb hby d16_6) rfl kk_) ?_
  show own_Fin p.tables e below _ (T1.setTop (mkF m 7 #[.val (.int ch)] [(.int (ch.toInt8.toInt32)), (.int (0 : Int32)), (.ref b1), (.ref b1)]))
  obtain ⟨T3, h3, X3, e3, W3, V3, st3⟩ := own_stB X1 hx hZ e1 V1 (by decide) (i := 0) rfl (Nat.le_of_ble_eq_true rfl) (g := (mkF m 7 #[.val (.int ch)] [(.int (ch.toInt8.toInt32)), (.int (0 : Int32)), (.ref b1), (.ref b1)])) rfl rfl (hb hby d16_7)
  rw [own_b8] at V3
  replace V1 : Arv Z h3 b1 k1 .byte (1 : Int32) [(.int (ch.toInt8.toInt32))] (.int (0 : Int32)) := V3
  have N3 := Fr.snoc X3 N0 g_b1
  refine own_go st3 ?_
  have K4 := K2.wr W3 (Or.inr sz_b1)
  show own_Fin p.tables e below _ (T3.setTop (mkF m 8 #[.val (.int ch)] [(.ref b1)]))
  refine own_retA X3 hx Bd (t := (.array .byte)) Bd.returns rfl rfl rfl (hb hby d16_8) ?_ (by decide) (by decide)
  show (Q_rm_tb Z ch h0 n0) (some (.ref b1)) T3.heap _
  rw [e3]
  exact ⟨_, _, rfl, N3, K4, sz_b1, V1⟩
def Q_rm_ibb (Z : State) (xx : Addr) (bb : Addr) (h0 : Heap) (n0 : Nat) (v : Option Value) (h : Heap) (L : List Loc) : Prop := v = none ∧ Fr n0 L ∧ Keep h0 h [xx] ∧ Fld Z h xx "java/lang/String" "value" "[B" (.ref bb) ∧ Fld Z h xx "java/lang/String" "coder" "B" (.int (0 : Int32))
theorem ef_rm_ibb (m : MethodId) (xx : Addr) (bb : Addr) : entryFrame m #[(.ref xx), (.ref bb), (.int (0 : Int32))] 3 = mkF m 0 #[.val (.ref xx), .val (.ref bb), .val (.int (0 : Int32))] [] := by first | (simp [entryFrame, mkF, argsToLocals, Value.category]; done) | rfl
set_option maxRecDepth 65536 in
set_option maxHeartbeats 40000000 in
theorem rm_ibb (l : Launch) (Z : State) (a0 : Array Value) (hw : ∀ d ∈ tables_1, d.before a0 Z = true) (ws : List Jvm.Cond) (xx : Addr) (bb : Addr) (h0 : Heap) (n0 : Nat) (Z0 : n0 ≤ h0.size) (E_xx : Exa Z h0 xx "java/lang/String") (V_xx : Fld Z h0 xx "java/lang/String" "value" "[B" .null) (C_xx : Fld Z h0 xx "java/lang/String" "coder" "B" (.int (0 : Int32))) (g_xx : n0 ≤ xx) :
    MetFree l (⟨"java/lang/String", "<init>", "([BB)V"⟩ : MethodName) (head1 (Jvm.Cond.code (⟨"java/lang/String", "<init>", "([BB)V"⟩ : MethodName) jdk_42_method_151_code 3 none :: ws) ({ frames := 1, cells := 0, slots := 0, locals := 12 } : Room)) (fun a_ U_ => a_ = #[(.ref xx), (.ref bb), (.int (0 : Int32))] ∧ Z.Warmed39 U_.vm ∧ U_.heap = h0) (fun _ _ _ _ _ => True) (fun _ U_ o_ V_ => ∃ v_ L_, o_ = .returned v_ ∧ (Q_rm_ibb Z xx bb h0 n0) v_ V_.heap L_ ∧ FrameEnd U_ o_ V_ L_ ({ frames := 1, cells := 0, slots := 0, locals := 12 } : Room).cells ({ frames := 1, cells := 0, slots := 0, locals := 12 } : Room).slots) := by
  refine MetFree.of_bodySF (plainFor_of_name pn_1) hisR ?_
  intro p e s m args below meth c s₁ Bd hml0 hP hK
  obtain ⟨rfl, hZ, hh⟩ := hP
  have hx := Bd.exec
  have hby := Bd.bytes
  have hml : c.maxLocals = 3 := hml0
  have hown : s.vm.findClass "java/lang/String" = some m.cls := findClass_of_methodNamed Bd.named
  have hnm := (name_of_methodNamed Bd.named Bd.method).1
  have X0 : Stand p l e ({ frames := 1, cells := 0, slots := 0, locals := 12 } : Room) s m #[(.ref xx), (.ref bb), (.int (0 : Int32))] below meth c s₁ [] 0 0 := Stand.of_body Bd
  have e0 : s₁.heap = h0 := by rw [← hh, Bd.state]; rfl
  have N0 := Fr.nil n0
  have K0 : Keep h0 h0 [xx] := Keep.refl _ _
  show own_Fin p.tables e below (own_Post (Q_rm_ibb Z xx bb h0 n0) ({ frames := 1, cells := 0, slots := 0, locals := 12 } : Room).cells ({ frames := 1, cells := 0, slots := 0, locals := 12 } : Room).slots below s) _
  refine own_go (fun _ kk_ => castTop (ef_rm_ibb m xx bb) kk_) ?_
  refine own_go (fun _ kk_ => XS.aloadN X0.here hx rfl (hb hby d17_0) rfl rfl kk_) ?_
  show own_Fin p.tables e below _ (s₁.setTop (mkF m 1 #[.val (.ref xx), .val (.ref bb), .val (.int (0 : Int32))] [(.ref xx)]))
  obtain ⟨T5, X5, e5, st5⟩ := initO X0 hx hZ hown (hw _ (List.mem_of_getElem? (i := 21) rfl)) (hw _ (List.mem_of_getElem? (i := 22) rfl)) (hw _ (List.mem_of_getElem? (i := 23) rfl)) e0 (g := (mkF m 1 #[.val (.ref xx), .val (.ref bb), .val (.int (0 : Int32))] [(.ref xx)])) rfl (by rw [hml]; rfl) rfl (hb hby d17_1) (by decide) (W := 0) (by show 2 * 0 + _ ≤ _; exact Nat.le_of_eq rfl) (by decide)
  refine own_go st5 ?_
  refine own_go (fun _ kk_ => XS.aloadN X5.here hx rfl (hb hby d17_4) rfl rfl kk_) ?_
  refine own_go (fun _ kk_ => XS.aloadN X5.here hx rfl (hb hby d17_5) rfl rfl kk_) ?_
  show own_Fin p.tables e below _ (T5.setTop (mkF m 6 #[.val (.ref xx), .val (.ref bb), .val (.int (0 : Int32))] [(.ref bb), (.ref xx)]))
  obtain ⟨T6, h6, X6, e6, W6, st6⟩ := putF X5 hx hZ hown (host := "") (Or.inl (hw _ (List.mem_of_getElem? (i := 30) rfl))) Via.refl e5 V_xx E_xx (Or.inr ⟨(hw _ (List.mem_of_getElem? (i := 26) rfl)), rfl, hnm⟩) (hw _ (List.mem_of_getElem? (i := 11) rfl)) (ty := (.array .byte)) (by decide) rfl rfl (g := (mkF m 6 #[.val (.ref xx), .val (.ref bb), .val (.int (0 : Int32))] [(.ref bb), (.ref xx)])) rfl rfl (hb hby d17_6)
  have N6 := Fr.snoc X6 N0 g_xx
  replace V_xx := V_xx.same W6
  refine own_go st6 ?_
  replace E_xx := E_xx.wr W6
  replace C_xx := C_xx.other W6 (Or.inr (slot_ne (Or.inr (hw _ (List.mem_of_getElem? (i := 27) rfl))) (Or.inr (hw _ (List.mem_of_getElem? (i := 26) rfl))) (by decide) (t := .byte) (t' := (.array .byte)) (by decide) (by decide)))
  have K7 := K0.wr W6 (Or.inl (by simp))
  refine own_go (fun _ kk_ => XS.aloadN X6.here hx rfl (hb hby d17_9) rfl rfl kk_) ?_
  refine own_go (fun _ kk_ => XS.iloadN X6.here hx rfl (hb hby d17_10) rfl kk_) ?_
  show own_Fin p.tables e below _ (T6.setTop (mkF m 11 #[.val (.ref xx), .val (.ref bb), .val (.int (0 : Int32))] [(.int (0 : Int32)), (.ref xx)]))
  obtain ⟨T8, h8, X8, e8, W8, st8⟩ := putFN X6 hx hZ hown (hw _ (List.mem_of_getElem? (i := 31) rfl)) Via.refl e6 C_xx E_xx (Or.inr ⟨(hw _ (List.mem_of_getElem? (i := 27) rfl)), rfl, hnm⟩) (hw _ (List.mem_of_getElem? (i := 11) rfl)) (ty := .byte) (v' := .int (0 : Int32)) (by decide) rfl rfl (g := (mkF m 11 #[.val (.ref xx), .val (.ref bb), .val (.int (0 : Int32))] [(.int (0 : Int32)), (.ref xx)])) rfl rfl (hb hby d17_11)
  have N8 := Fr.snoc X8 N6 g_xx
  replace C_xx := C_xx.same W8
  refine own_go st8 ?_
  replace E_xx := E_xx.wr W8
  replace V_xx := V_xx.other W8 (Or.inr (slot_ne (Or.inr (hw _ (List.mem_of_getElem? (i := 26) rfl))) (Or.inr (hw _ (List.mem_of_getElem? (i := 27) rfl))) (by decide) (t := (.array .byte)) (t' := .byte) (by decide) (by decide)))
  have K9 := K7.wr W8 (Or.inl (by simp))
  show own_Fin p.tables e below _ (T8.setTop (mkF m 14 #[.val (.ref xx), .val (.ref bb), .val (.int (0 : Int32))] []))
  refine own_ret0 X8 hx Bd (hb hby d17_14) ?_ (by decide) (by decide)
  show (Q_rm_ibb Z xx bb h0 n0) none T8.heap _
  rw [e8]
  exact ⟨rfl, N8, K9, V_xx, C_xx⟩
def Q_rm_vo (Z : State) (ch : Int32) (gc : Int32) (h0 : Heap) (n0 : Nat) (v : Option Value) (h : Heap) (L : List Loc) : Prop := ∃ xr tr : Addr, v = some (.ref xr) ∧ Fr n0 L ∧ Keep h0 h [] ∧ h0.size ≤ xr ∧ h0.size ≤ tr ∧ own_Str Z h xr tr [ch]
theorem ef_rm_vo (m : MethodId) (ch : Int32) (gc : Int32) : entryFrame m #[(.int ch)] 1 = mkF m 0 #[.val (.int ch)] [] := by first | (simp [entryFrame, mkF, argsToLocals, Value.category]; done) | rfl
set_option maxRecDepth 65536 in
set_option maxHeartbeats 40000000 in
theorem rm_vo (l : Launch) (Z : State) (a0 : Array Value) (hw : ∀ d ∈ tables_1, d.before a0 Z = true) (ws : List Jvm.Cond) (ch : Int32) (gc : Int32) (h0 : Heap) (n0 : Nat) (Z0 : n0 ≤ h0.size) (hch0 : ¬ ch < 0) (hch : ¬ (255 : Int32) < ch) (S_C : Sta Z Z.heap "java/lang/String" "COMPACT_STRINGS" "Z" (.int gc)) (hcs : ¬ gc = 0) (O0 : Old Z n0 h0) :
    MetFree l (⟨"java/lang/String", "valueOf", "(C)Ljava/lang/String;"⟩ : MethodName) (head1 (Jvm.Cond.code (⟨"java/lang/String", "valueOf", "(C)Ljava/lang/String;"⟩ : MethodName) jdk_42_method_139_code 1 (some (.object "java/lang/String")) :: ws) ({ frames := 2, cells := 2, slots := 5, locals := 27 } : Room)) (fun a_ U_ => a_ = #[(.int ch)] ∧ Z.Warmed39 U_.vm ∧ U_.heap = h0) (fun _ _ _ _ _ => True) (fun _ U_ o_ V_ => ∃ v_ L_, o_ = .returned v_ ∧ (Q_rm_vo Z ch gc h0 n0) v_ V_.heap L_ ∧ FrameEnd U_ o_ V_ L_ ({ frames := 2, cells := 2, slots := 5, locals := 27 } : Room).cells ({ frames := 2, cells := 2, slots := 5, locals := 27 } : Room).slots) := by
  refine MetFree.of_bodySF (plainFor_of_name pn_1) hisR ?_
  intro p e s m args below meth c s₁ Bd hml0 hP hK
  obtain ⟨rfl, hZ, hh⟩ := hP
  have hx := Bd.exec
  have hby := Bd.bytes
  have hml : c.maxLocals = 1 := hml0
  have hown : s.vm.findClass "java/lang/String" = some m.cls := findClass_of_methodNamed Bd.named
  have hnm := (name_of_methodNamed Bd.named Bd.method).1
  have X0 : Stand p l e ({ frames := 2, cells := 2, slots := 5, locals := 27 } : Room) s m #[(.int ch)] below meth c s₁ [] 0 0 := Stand.of_body Bd
  have e0 : s₁.heap = h0 := by rw [← hh, Bd.state]; rfl
  have N0 := Fr.nil n0
  have K0 : Keep h0 h0 [] := Keep.refl _ _
  show own_Fin p.tables e below (own_Post (Q_rm_vo Z ch gc h0 n0) ({ frames := 2, cells := 2, slots := 5, locals := 27 } : Room).cells ({ frames := 2, cells := 2, slots := 5, locals := 27 } : Room).slots below s) _
  refine own_go (fun _ kk_ => castTop (ef_rm_vo m ch gc) kk_) ?_
  show own_Fin p.tables e below _ (s₁.setTop (mkF m 0 #[.val (.int ch)] []))
  obtain ⟨T10, X10, e10, st10⟩ := getS2 X0 hx hZ hown (host := "") (Or.inl (hw _ (List.mem_of_getElem? (i := 63) rfl))) Via.refl e0 (S_C.ext O0.2) (g := (mkF m 0 #[.val (.int ch)] [])) rfl (hb hby d14_0)
  refine own_go st10 ?_
  show own_Fin p.tables e below _ (T10.setTop (mkF m 3 #[.val (.int ch)] [(.int gc)]))
  refine own_go (fun _ kk_ => XS.ifNo X10.here hx rfl (hb hby d14_3) rfl ((if0 _ _).trans (feq hcs).1) kk_) ?_
  refine own_go (fun _ kk_ => XS.iloadN X10.here hx rfl (hb hby d14_6) rfl kk_) ?_
  show own_Fin p.tables e below _ (T10.setTop (mkF m 7 #[.val (.int ch)] [(.int ch)]))
  obtain ⟨_, _, ⟨T11, L11, k11, n11⟩, -, X11, ⟨Lc11, hQ11, l11, y11, z11⟩, st11⟩ := Jvm.LawKit.callS X10 hx (y := (⟨"java/lang/StringLatin1", "canEncode", "(C)Z"⟩ : MethodName)) hown (mvT hZ (hw _ (List.mem_of_getElem? (i := 94) rfl))) (mvT hZ (hw _ (List.mem_of_getElem? (i := 95) rfl))) (mvT hZ (hw _ (List.mem_of_getElem? (i := 89) rfl))) (mvT hZ (hw _ (List.mem_of_getElem? (i := 96) rfl))) (by decide) (backOf (W := 0) (rm_can l Z a0 hw [] ch  h0 n0 (Nat.le_trans Z0 K0.1) hch) hZ (hw _ (List.mem_of_getElem? (i := 96) rfl)) (hw _ (List.mem_of_getElem? (i := 89) rfl)) (by decide) (by decide)) (g := (mkF m 7 #[.val (.int ch)] [(.int ch)])) rfl (by rw [hml]; rfl) (argsL := [(.int ch)]) (rest := []) (lenOf pd_2 rfl) rfl (by show 2 * 0 + _ ≤ _; exact Nat.le_of_eq rfl) (hb hby d14_7) (fun _ _ => ⟨rfl, e10, (by decide : 0 + 0 ≤ _), (by decide : 0 + 0 ≤ _)⟩)
  dsimp only [Pt.U, Pt.locs, Pt.cells, Pt.slots] at X11 l11 y11 z11 st11 hQ11
  subst l11 y11 z11
  obtain ⟨rfl, N11q, e11⟩ := hQ11
  have N11 := Fr.app N0 N11q
  refine own_go st11 ?_
  show own_Fin p.tables e below _ (T11.setTop (mkF m 10 #[.val (.int ch)] [(.int (1 : Int32))]))
  refine own_go (fun _ kk_ => XS.ifNo X11.here hx rfl (hb hby d14_10) rfl ((if0 _ _).trans (feq (by decide)).1) kk_) ?_
  show own_Fin p.tables e below _ (T11.setTop (mkF m 13 #[.val (.int ch)] []))
  obtain ⟨T12, h12, X12, e12, E12, A12, D12, -, st12⟩ := newO X11 hx hZ hown (hw _ (List.mem_of_getElem? (i := 86) rfl)) (hw _ (List.mem_of_getElem? (i := 11) rfl)) (hw _ (List.mem_of_getElem? (i := 12) rfl)) e11 (g := (mkF m 13 #[.val (.int ch)] [])) rfl (hb hby d14_13) (by decide) (by decide)
  obtain ⟨b12, g12⟩ : ∃ z, z = h0.size := ⟨_, rfl⟩
  rw [← g12] at A12 D12 st12
  have sz_b12 : h0.size ≤ b12 := Nat.le_trans K0.1 (Nat.le_of_eq g12.symm)
  have g_b12 : n0 ≤ b12 := Nat.le_trans Z0 sz_b12
  replace O0 := O0.ext E12
  have K13 := K0.ext E12
  have F12_value : Fld Z h12 b12 "java/lang/String" "value" "[B" .null := D12 (Or.inr (hw _ (List.mem_of_getElem? (i := 26) rfl))) (ty := (.array .byte)) (by decide)
  have F12_coder : Fld Z h12 b12 "java/lang/String" "coder" "B" (.int (0 : Int32)) := D12 (Or.inr (hw _ (List.mem_of_getElem? (i := 27) rfl))) (ty := .byte) (by decide)
  refine own_go st12 ?_
  refine own_go (fun _ kk_ => XS.dup X12.here hx rfl (hb hby d14_16) rfl rfl kk_) ?_
  refine own_go (fun _ kk_ => XS.iloadN X12.here hx rfl (hb hby d14_17) rfl kk_) ?_
  show own_Fin p.tables e below _ (T12.setTop (mkF m 18 #[.val (.int ch)] [(.int ch), (.ref b12), (.ref b12)]))
  obtain ⟨_, _, ⟨T14, L14, k14, n14⟩, -, X14, ⟨Lc14, hQ14, l14, y14, z14⟩, st14⟩ := Jvm.LawKit.callS X12 hx (y := (⟨"java/lang/StringLatin1", "toBytes", "(C)[B"⟩ : MethodName)) hown (mvT hZ (hw _ (List.mem_of_getElem? (i := 97) rfl))) (mvT hZ (hw _ (List.mem_of_getElem? (i := 98) rfl))) (mvT hZ (hw _ (List.mem_of_getElem? (i := 89) rfl))) (mvT hZ (hw _ (List.mem_of_getElem? (i := 99) rfl))) (by decide) (backOf (W := 2) (rm_tb l Z a0 hw [] ch h12 n0 (Nat.le_trans Z0 K13.1)) hZ (hw _ (List.mem_of_getElem? (i := 99) rfl)) (hw _ (List.mem_of_getElem? (i := 89) rfl)) (by decide) (by decide)) (g := (mkF m 18 #[.val (.int ch)] [(.int ch), (.ref b12), (.ref b12)])) rfl (by rw [hml]; rfl) (argsL := [(.int ch)]) (rest := [(.ref b12), (.ref b12)]) (lenOf pd_3 rfl) rfl (by show 2 * 0 + _ ≤ _; exact Nat.le_of_eq rfl) (hb hby d14_18) (fun _ _ => ⟨rfl, e12, (by decide : 1 + 1 ≤ _), (by decide : 4 + 1 ≤ _)⟩)
  dsimp only [Pt.U, Pt.locs, Pt.cells, Pt.slots] at X14 l14 y14 z14 st14 hQ14
  subst l14 y14 z14
  obtain ⟨r14, kk14, rfl, N14q, KK14, sz14, V14⟩ := hQ14
  have N14 := Fr.app N11 N14q
  have sz_r14 : h0.size ≤ r14 := Nat.le_trans K13.1 sz14
  have g_r14 : n0 ≤ r14 := Nat.le_trans Z0 sz_r14
  have ne15 : b12 ≠ r14 := Nat.ne_of_lt (Nat.lt_of_lt_of_le A12.lt sz14)
  replace O0 := O0.keep KK14 all0
  replace A12 := A12.keep KK14
  replace F12_value := F12_value.keep KK14 nin0
  replace F12_coder := F12_coder.keep KK14 nin0
  have K16 := K13.trans KK14 all0
  refine own_go st14 ?_
  refine own_go (fun _ kk_ => XS.iconst X14.here hx rfl (hb hby d14_21) kk_) ?_
  show own_Fin p.tables e below _ (T14.setTop (mkF m 22 #[.val (.int ch)] [(.int (0 : Int32)), (.ref r14), (.ref b12), (.ref b12)]))
  obtain ⟨_, _, ⟨T17, L17, k17, n17⟩, -, X17, ⟨Lc17, hQ17, l17, y17, z17⟩, st17⟩ := X14.specialBack hx (y := (⟨"java/lang/String", "<init>", "([BB)V"⟩ : MethodName)) rfl hown (mvT hZ (hw _ (List.mem_of_getElem? (i := 100) rfl))) (mvT hZ (hw _ (List.mem_of_getElem? (i := 101) rfl))) (mvT hZ (hw _ (List.mem_of_getElem? (i := 102) rfl))) (by decide) (backOf (W := 1) (rm_ibb l Z a0 hw [] b12 r14 T14.heap n0 (Nat.le_trans Z0 K16.1) A12 F12_value F12_coder g_b12) hZ (hw _ (List.mem_of_getElem? (i := 102) rfl)) (hw _ (List.mem_of_getElem? (i := 12) rfl)) (by decide) (by decide)) (g := (mkF m 22 #[.val (.int ch)] [(.int (0 : Int32)), (.ref r14), (.ref b12), (.ref b12)])) rfl (by rw [hml]; rfl) (Steps.refl _) (a := b12) (argsL := [(.ref r14), (.int (0 : Int32))]) (rest := [(.ref b12)]) (lenOf pd_4 rfl) rfl (by show 2 * 0 + _ ≤ _; exact Nat.le_of_eq rfl) (hb hby d14_22) (fun _ _ => ⟨rfl, rfl, (by decide : 2 + 0 ≤ _), (by decide : 5 + 0 ≤ _)⟩)
  dsimp only [Pt.U, Pt.locs, Pt.cells, Pt.slots] at X17 l17 y17 z17 st17 hQ17
  subst l17 y17 z17
  obtain ⟨rfl, N17q, KK17, FV17, FC17⟩ := hQ17
  have N17 := Fr.app N14 N17q
  replace O0 := O0.keep KK17 (allS g_b12 (all0))
  replace A12 := A12.keep KK17
  replace V14 := V14.keep KK17 (ninS (Ne.symm ne15) nin0)
  have K18 := K16.trans KK17 (allS (Or.inr sz_b12) all0)
  refine own_go (fun _ kk_ => st17.trans kk_) ?_
  show own_Fin p.tables e below _ (T17.setTop (mkF m 25 #[.val (.int ch)] [(.ref b12)]))
  refine own_retA X17 hx Bd (t := (.object "java/lang/String")) Bd.returns rfl rfl rfl (hb hby d14_25) ?_ (by decide) (by decide)
  show (Q_rm_vo Z ch gc h0 n0) (some (.ref b12)) T17.heap _
  exact ⟨_, _, rfl, N17, K18, sz_b12, sz_r14, _, _, _, _, A12, FV17, FC17, V14, StrChars.Road.codOf (n := 1) rfl (by intro c hc; cases List.mem_singleton.mp hc; exact hch), own_up _ (by intro c hc; cases List.mem_singleton.mp hc; exact ⟨hch0, hch⟩), Nat.le_of_ble_eq_true rfl⟩
def Q_rm_ne0 (Z : State) (xx : Addr) (bb : Addr) (gc : Int32) (h0 : Heap) (n0 : Nat) (v : Option Value) (h : Heap) (L : List Loc) : Prop := v = none ∧ Fr n0 L ∧ Keep h0 h [xx] ∧ ∃ t, own_Str Z h xx t []
theorem ef_rm_ne0 (m : MethodId) (xx : Addr) (bb : Addr) (gc : Int32) : entryFrame m #[(.ref xx), (.ref bb), (.int (0 : Int32)), (.int (0 : Int32)), .null] 6 = mkF m 0 #[.val (.ref xx), .val (.ref bb), .val (.int (0 : Int32)), .val (.int (0 : Int32)), .val .null, .unset] [] := by first | (simp [entryFrame, mkF, argsToLocals, Value.category]; done) | rfl
set_option maxRecDepth 65536 in
set_option maxHeartbeats 40000000 in
theorem rm_ne0 (l : Launch) (Z : State) (a0 : Array Value) (hw : ∀ d ∈ tables_1, d.before a0 Z = true) (ws : List Jvm.Cond) (hEL : EW Z a0 consts_1) (xx : Addr) (bb : Addr) (gc : Int32) (h0 : Heap) (n0 : Nat) (Z0 : n0 ≤ h0.size) (E_xx : Exa Z h0 xx "java/lang/String") (V_xx : Fld Z h0 xx "java/lang/String" "value" "[B" .null) (C_xx : Fld Z h0 xx "java/lang/String" "coder" "B" (.int (0 : Int32))) (g_xx : n0 ≤ xx) (O0 : Old Z n0 h0) :
    MetFree l (⟨"java/lang/String", "<init>", "([CIILjava/lang/Void;)V"⟩ : MethodName) (head1 (Jvm.Cond.code (⟨"java/lang/String", "<init>", "([CIILjava/lang/Void;)V"⟩ : MethodName) jdk_42_method_149_code 6 none :: ws) ({ frames := 1, cells := 4, slots := 8, locals := 12 } : Room)) (fun a_ U_ => a_ = #[(.ref xx), (.ref bb), (.int (0 : Int32)), (.int (0 : Int32)), .null] ∧ Z.Warmed39 U_.vm ∧ U_.heap = h0 ∧ CHv Z consts_1 U_.vm h0) (fun _ _ _ _ _ => True) (fun _ U_ o_ V_ => ∃ v_ L_, o_ = .returned v_ ∧ (Q_rm_ne0 Z xx bb gc h0 n0) v_ V_.heap L_ ∧ CHr Z consts_1 U_.vm U_.heap V_.vm V_.heap ∧ ReturnedEndW U_ o_ V_ L_ ({ frames := 1, cells := 4, slots := 8, locals := 12 } : Room).cells ({ frames := 1, cells := 4, slots := 8, locals := 12 } : Room).slots) := by
  refine MetFree.of_bodySF (plainFor_of_name pn_1) hisR ?_
  intro p e s m args below meth c s₁ Bd hml0 hP hK
  obtain ⟨rfl, hZ, hh, CH⟩ := hP
  have hx := Bd.exec
  have hby := Bd.bytes
  have hml : c.maxLocals = 6 := hml0
  have hown : s.vm.findClass "java/lang/String" = some m.cls := findClass_of_methodNamed Bd.named
  have hnm := (name_of_methodNamed Bd.named Bd.method).1
  have wS : ∀ a ∈ Bundle.stringAtoms, a.before a0 Z = true := fun d hd => hw d ((by decide +kernel : ∀ d ∈ Bundle.stringAtoms, d ∈ tables_1) d hd)
  have X0 : Stand p l e ({ frames := 1, cells := 4, slots := 8, locals := 12 } : Room) (s.setVm s.vm) m #[(.ref xx), (.ref bb), (.int (0 : Int32)), (.int (0 : Int32)), .null] below meth c s₁ [] 0 0 := Stand.of_body Bd
  have e0 : s₁.heap = h0 := by rw [← hh, Bd.state]; rfl
  have N0 := Fr.nil n0
  have K0 : Keep h0 h0 [xx] := Keep.refl _ _
  replace hZ : Z.Warmed39 (s.setVm s.vm).vm := hZ
  replace hown : (s.setVm s.vm).vm.findClass "java/lang/String" = some m.cls := hown
  have hS : s.Since s.vm h0.size := (State.WarmedH.refl s).since _
  have hk : h0.size ≤ h0.size := Nat.le_refl _
  have CR : CHr Z consts_1 s.vm h0 s.vm h0 := CHr.refl CH
  show own_Fin p.tables e below (own_PostW Z consts_1 (Q_rm_ne0 Z xx bb gc h0 n0) ({ frames := 1, cells := 4, slots := 8, locals := 12 } : Room).cells ({ frames := 1, cells := 4, slots := 8, locals := 12 } : Room).slots below s) _
  refine own_go (fun _ kk_ => castTop (ef_rm_ne0 m xx bb gc) kk_) ?_
  have S_xx := own_safe_null (EL := consts_1) hZ.alike E_xx V_xx
  refine own_go (fun _ kk_ => XS.aloadN X0.here hx rfl (hb hby d3_0) rfl rfl kk_) ?_
  show own_Fin p.tables e below _ (s₁.setTop (mkF m 1 #[.val (.ref xx), .val (.ref bb), .val (.int (0 : Int32)), .val (.int (0 : Int32)), .val .null, .unset] [(.ref xx)]))
  obtain ⟨T19, X19, e19, st19⟩ := initO X0 hx hZ hown (hw _ (List.mem_of_getElem? (i := 21) rfl)) (hw _ (List.mem_of_getElem? (i := 22) rfl)) (hw _ (List.mem_of_getElem? (i := 23) rfl)) e0 (g := (mkF m 1 #[.val (.ref xx), .val (.ref bb), .val (.int (0 : Int32)), .val (.int (0 : Int32)), .val .null, .unset] [(.ref xx)])) rfl (by rw [hml]; rfl) rfl (hb hby d3_1) (by decide) (W := 0) (by show 2 * 0 + _ ≤ _; exact Nat.le_of_eq rfl) (by decide)
  refine own_go st19 ?_
  refine own_go (fun _ kk_ => XS.iloadN X19.here hx rfl (hb hby d3_4) rfl kk_) ?_
  show own_Fin p.tables e below _ (T19.setTop (mkF m 5 #[.val (.ref xx), .val (.ref bb), .val (.int (0 : Int32)), .val (.int (0 : Int32)), .val .null, .unset] [(.int (0 : Int32))]))
  refine own_go (fun _ kk_ => XS.ifNo X19.here hx rfl (hb hby d3_5) rfl ((if0 _ _).trans (teq (by decide : (0 : Int32) = (0 : Int32))).2) kk_) ?_
  refine own_go (fun _ kk_ => XS.aloadN X19.here hx rfl (hb hby d3_8) rfl rfl kk_) ?_
  show own_Fin p.tables e below _ (T19.setTop (mkF m 9 #[.val (.ref xx), .val (.ref bb), .val (.int (0 : Int32)), .val (.int (0 : Int32)), .val .null, .unset] [(.ref xx)]))
  obtain ⟨a20, T20, h20, k20, tb20, kb20, X20, e20, E20, hS, hk, hZ, hown, EA20, FC20, FV20, VB20, -, -, CR20, -, NE20, st20⟩ := ldcCH X19 hx hZ hown (hw _ (List.mem_of_getElem? (i := 24) rfl)) wS e19 hS hk hEL (by decide) CH (vs := ((([] : List Int32).map (fun c => c.toInt8.toInt32)).map Value.int)) (z := (0 : Int32)) (by exact ⟨by decide, by decide⟩) (by decide) rfl (g := (mkF m 9 #[.val (.ref xx), .val (.ref bb), .val (.int (0 : Int32)), .val (.int (0 : Int32)), .val .null, .unset] [(.ref xx)])) rfl (hb hby d3_9) (n := 0) (by decide) (by decide) (by decide) (by decide)
  replace S_xx := CR20.safe E_xx.lt S_xx
  replace CR := CR.trans CR20
  replace CH := CR20.1
  replace E_xx := E_xx.ext E20
  replace V_xx := V_xx.ext E20
  replace C_xx := C_xx.ext E20
  replace O0 := O0.ext E20
  have K21 := K0.ext E20
  have ne22 : xx ≠ a20 := (NE20 _ S_xx).1
  have ne23 : xx ≠ tb20 := (NE20 _ S_xx).2
  refine own_go st20 ?_
  show own_Fin p.tables e below _ (T20.setTop (mkF m 11 #[.val (.ref xx), .val (.ref bb), .val (.int (0 : Int32)), .val (.int (0 : Int32)), .val .null, .unset] [(.ref a20), (.ref xx)]))
  obtain ⟨T24, X24, e24, st24⟩ := getF X20 hx hZ hown (host := "") (Or.inl (hw _ (List.mem_of_getElem? (i := 30) rfl))) Via.refl e20 FV20 (g := (mkF m 11 #[.val (.ref xx), .val (.ref bb), .val (.int (0 : Int32)), .val (.int (0 : Int32)), .val .null, .unset] [(.ref a20), (.ref xx)])) rfl rfl (hb hby d3_11)
  refine own_go st24 ?_
  show own_Fin p.tables e below _ (T24.setTop (mkF m 14 #[.val (.ref xx), .val (.ref bb), .val (.int (0 : Int32)), .val (.int (0 : Int32)), .val .null, .unset] [(.ref tb20), (.ref xx)]))
  obtain ⟨T25, h25, X25, e25, W25, st25⟩ := putF X24 hx hZ hown (host := "") (Or.inl (hw _ (List.mem_of_getElem? (i := 30) rfl))) Via.refl e24 V_xx E_xx (Or.inr ⟨(hw _ (List.mem_of_getElem? (i := 26) rfl)), rfl, hnm⟩) (hw _ (List.mem_of_getElem? (i := 11) rfl)) (ty := (.array .byte)) (by decide) rfl rfl (g := (mkF m 14 #[.val (.ref xx), .val (.ref bb), .val (.int (0 : Int32)), .val (.int (0 : Int32)), .val .null, .unset] [(.ref tb20), (.ref xx)])) rfl rfl (hb hby d3_14)
  have N25 := Fr.snoc X25 N0 g_xx
  replace V_xx := V_xx.same W25
  refine own_go st25 ?_
  have sa26 := S_xx
  replace S_xx := Safe.wr W25 sa26 CH S_xx
  replace CR := CR.trans (CHr.wr W25 sa26 CH)
  replace CH := CHv.wr W25 sa26 CH
  replace hk := Nat.le_trans hk (Keep.of_wr W25).1
  replace E_xx := E_xx.wr W25
  replace C_xx := C_xx.other W25 (Or.inr (slot_ne (Or.inr (hw _ (List.mem_of_getElem? (i := 27) rfl))) (Or.inr (hw _ (List.mem_of_getElem? (i := 26) rfl))) (by decide) (t := .byte) (t' := (.array .byte)) (by decide) (by decide)))
  replace O0 := O0.wr W25 g_xx
  replace EA20 := EA20.wr W25
  replace FC20 := FC20.other W25 (Or.inl (Ne.symm ne22))
  replace FV20 := FV20.other W25 (Or.inl (Ne.symm ne22))
  replace VB20 := VB20.other W25 (Ne.symm ne23)
  have K27 := K21.wr W25 (Or.inl (by simp))
  refine own_go (fun _ kk_ => XS.aloadN X25.here hx rfl (hb hby d3_17) rfl rfl kk_) ?_
  show own_Fin p.tables e below _ (T25.setTop (mkF m 18 #[.val (.ref xx), .val (.ref bb), .val (.int (0 : Int32)), .val (.int (0 : Int32)), .val .null, .unset] [(.ref xx)]))
  obtain ⟨a28, T28, h28, k28, tb28, kb28, X28, e28, E28, hS, hk, hZ, hown, EA28, FC28, FV28, VB28, -, -, CR28, -, NE28, st28⟩ := ldcCH X25 hx hZ hown (hw _ (List.mem_of_getElem? (i := 24) rfl)) wS e25 hS hk hEL (by decide) CH (vs := ((([] : List Int32).map (fun c => c.toInt8.toInt32)).map Value.int)) (z := (0 : Int32)) (by exact ⟨by decide, by decide⟩) (by decide) rfl (g := (mkF m 18 #[.val (.ref xx), .val (.ref bb), .val (.int (0 : Int32)), .val (.int (0 : Int32)), .val .null, .unset] [(.ref xx)])) rfl (hb hby d3_18) (n := 0) (by decide) (by decide) (by decide) (by decide)
  replace S_xx := CR28.safe E_xx.lt S_xx
  replace CR := CR.trans CR28
  replace CH := CR28.1
  replace E_xx := E_xx.ext E28
  replace V_xx := V_xx.ext E28
  replace C_xx := C_xx.ext E28
  replace O0 := O0.ext E28
  replace EA20 := EA20.ext E28
  replace FC20 := FC20.ext E28
  replace FV20 := FV20.ext E28
  replace VB20 := VB20.ext E28
  have K29 := K27.ext E28
  have ne30 : xx ≠ a28 := (NE28 _ S_xx).1
  have ne31 : xx ≠ tb28 := (NE28 _ S_xx).2
  refine own_go st28 ?_
  show own_Fin p.tables e below _ (T28.setTop (mkF m 20 #[.val (.ref xx), .val (.ref bb), .val (.int (0 : Int32)), .val (.int (0 : Int32)), .val .null, .unset] [(.ref a28), (.ref xx)]))
  obtain ⟨T32, X32, e32, st32⟩ := getF X28 hx hZ hown (host := "") (Or.inl (hw _ (List.mem_of_getElem? (i := 31) rfl))) Via.refl e28 FC28 (g := (mkF m 20 #[.val (.ref xx), .val (.ref bb), .val (.int (0 : Int32)), .val (.int (0 : Int32)), .val .null, .unset] [(.ref a28), (.ref xx)])) rfl rfl (hb hby d3_20)
  refine own_go st32 ?_
  show own_Fin p.tables e below _ (T32.setTop (mkF m 23 #[.val (.ref xx), .val (.ref bb), .val (.int (0 : Int32)), .val (.int (0 : Int32)), .val .null, .unset] [(.int (0 : Int32)), (.ref xx)]))
  obtain ⟨T33, h33, X33, e33, W33, st33⟩ := putFN X32 hx hZ hown (hw _ (List.mem_of_getElem? (i := 31) rfl)) Via.refl e32 C_xx E_xx (Or.inr ⟨(hw _ (List.mem_of_getElem? (i := 27) rfl)), rfl, hnm⟩) (hw _ (List.mem_of_getElem? (i := 11) rfl)) (ty := .byte) (v' := .int (0 : Int32)) (by decide) rfl rfl (g := (mkF m 23 #[.val (.ref xx), .val (.ref bb), .val (.int (0 : Int32)), .val (.int (0 : Int32)), .val .null, .unset] [(.int (0 : Int32)), (.ref xx)])) rfl rfl (hb hby d3_23)
  have N33 := Fr.snoc X33 N25 g_xx
  replace C_xx := C_xx.same W33
  refine own_go st33 ?_
  have sa34 := S_xx
  replace S_xx := Safe.wr W33 sa34 CH S_xx
  replace CR := CR.trans (CHr.wr W33 sa34 CH)
  replace CH := CHv.wr W33 sa34 CH
  replace hk := Nat.le_trans hk (Keep.of_wr W33).1
  replace E_xx := E_xx.wr W33
  replace V_xx := V_xx.other W33 (Or.inr (slot_ne (Or.inr (hw _ (List.mem_of_getElem? (i := 26) rfl))) (Or.inr (hw _ (List.mem_of_getElem? (i := 27) rfl))) (by decide) (t := (.array .byte)) (t' := .byte) (by decide) (by decide)))
  replace O0 := O0.wr W33 g_xx
  replace EA20 := EA20.wr W33
  replace FC20 := FC20.other W33 (Or.inl (Ne.symm ne22))
  replace FV20 := FV20.other W33 (Or.inl (Ne.symm ne22))
  replace VB20 := VB20.other W33 (Ne.symm ne23)
  replace EA28 := EA28.wr W33
  replace FC28 := FC28.other W33 (Or.inl (Ne.symm ne30))
  replace FV28 := FV28.other W33 (Or.inl (Ne.symm ne30))
  replace VB28 := VB28.other W33 (Ne.symm ne31)
  have K35 := K29.wr W33 (Or.inl (by simp))
  show own_Fin p.tables e below _ (T33.setTop (mkF m 26 #[.val (.ref xx), .val (.ref bb), .val (.int (0 : Int32)), .val (.int (0 : Int32)), .val .null, .unset] []))
  have CRz : CHr Z consts_1 s.vm s.heap T33.vm T33.heap := by
    rw [hh, e33]
    exact CR.trans (CHv.at X33 hZ hEL CH)
  refine own_retW0 X33 hx Bd hS (show _ ≤ T33.heap.size by rw [e33]; exact hk) (hb hby d3_26) CRz ?_ (by decide) (by decide)
  show (Q_rm_ne0 Z xx bb gc h0 n0) none T33.heap _
  rw [e33]
  exact ⟨rfl, N33, K35, _, _, _, _, _, E_xx, V_xx, C_xx, VB20, StrChars.Road.codOf (n := 0) rfl (by decide), by decide, Nat.le_of_ble_eq_true rfl⟩
def Q_rm_ne (Z : State) (xx : Addr) (bb : Addr) (kb : ClassId) (gc : Int32) (h0 : Heap) (n0 : Nat) (v : Option Value) (h : Heap) (L : List Loc) : Prop := v = none ∧ Fr n0 L ∧ Keep h0 h [xx] ∧ ∃ t, own_Str Z h xx t []
theorem ef_rm_ne (m : MethodId) (xx : Addr) (bb : Addr) (gc : Int32) : entryFrame m #[(.ref xx), (.ref bb)] 2 = mkF m 0 #[.val (.ref xx), .val (.ref bb)] [] := by first | (simp [entryFrame, mkF, argsToLocals, Value.category]; done) | rfl
set_option maxRecDepth 65536 in
set_option maxHeartbeats 40000000 in
theorem rm_ne (l : Launch) (Z : State) (a0 : Array Value) (hw : ∀ d ∈ tables_1, d.before a0 Z = true) (ws : List Jvm.Cond) (hEL : EW Z a0 consts_1) (xx : Addr) (bb : Addr) (kb : ClassId) (gc : Int32) (h0 : Heap) (n0 : Nat) (Z0 : n0 ≤ h0.size) (E_xx : Exa Z h0 xx "java/lang/String") (V_xx : Fld Z h0 xx "java/lang/String" "value" "[B" .null) (C_xx : Fld Z h0 xx "java/lang/String" "coder" "B" (.int (0 : Int32))) (g_xx : n0 ≤ xx) (V_bb : Arv Z h0 bb kb .char (0 : Int32) [] (.int (0 : Int32))) (neb : bb ≠ xx) (O0 : Old Z n0 h0) :
    MetFree l (⟨"java/lang/String", "<init>", "([C)V"⟩ : MethodName) (head1 (Jvm.Cond.code (⟨"java/lang/String", "<init>", "([C)V"⟩ : MethodName) jdk_42_method_3_code 2 none :: ws) ({ frames := 2, cells := 4, slots := 8, locals := 29 } : Room)) (fun a_ U_ => a_ = #[(.ref xx), (.ref bb)] ∧ Z.Warmed39 U_.vm ∧ U_.heap = h0 ∧ CHv Z consts_1 U_.vm h0) (fun _ _ _ _ _ => True) (fun _ U_ o_ V_ => ∃ v_ L_, o_ = .returned v_ ∧ (Q_rm_ne Z xx bb kb gc h0 n0) v_ V_.heap L_ ∧ CHr Z consts_1 U_.vm U_.heap V_.vm V_.heap ∧ ReturnedEndW U_ o_ V_ L_ ({ frames := 2, cells := 4, slots := 8, locals := 29 } : Room).cells ({ frames := 2, cells := 4, slots := 8, locals := 29 } : Room).slots) := by
  refine MetFree.of_bodySF (plainFor_of_name pn_1) hisR ?_
  intro p e s m args below meth c s₁ Bd hml0 hP hK
  obtain ⟨rfl, hZ, hh, CH⟩ := hP
  have hx := Bd.exec
  have hby := Bd.bytes
  have hml : c.maxLocals = 2 := hml0
  have hown : s.vm.findClass "java/lang/String" = some m.cls := findClass_of_methodNamed Bd.named
  have hnm := (name_of_methodNamed Bd.named Bd.method).1
  have wS : ∀ a ∈ Bundle.stringAtoms, a.before a0 Z = true := fun d hd => hw d ((by decide +kernel : ∀ d ∈ Bundle.stringAtoms, d ∈ tables_1) d hd)
  have X0 : Stand p l e ({ frames := 2, cells := 4, slots := 8, locals := 29 } : Room) (s.setVm s.vm) m #[(.ref xx), (.ref bb)] below meth c s₁ [] 0 0 := Stand.of_body Bd
  have e0 : s₁.heap = h0 := by rw [← hh, Bd.state]; rfl
  have N0 := Fr.nil n0
  have K0 : Keep h0 h0 [xx] := Keep.refl _ _
  replace hZ : Z.Warmed39 (s.setVm s.vm).vm := hZ
  replace hown : (s.setVm s.vm).vm.findClass "java/lang/String" = some m.cls := hown
  have hS : s.Since s.vm h0.size := (State.WarmedH.refl s).since _
  have hk : h0.size ≤ h0.size := Nat.le_refl _
  have CR : CHr Z consts_1 s.vm h0 s.vm h0 := CHr.refl CH
  show own_Fin p.tables e below (own_PostW Z consts_1 (Q_rm_ne Z xx bb kb gc h0 n0) ({ frames := 2, cells := 4, slots := 8, locals := 29 } : Room).cells ({ frames := 2, cells := 4, slots := 8, locals := 29 } : Room).slots below s) _
  refine own_go (fun _ kk_ => castTop (ef_rm_ne m xx bb gc) kk_) ?_
  refine own_go (fun _ kk_ => XS.aloadN X0.here hx rfl (hb hby d2_0) rfl rfl kk_) ?_
  refine own_go (fun _ kk_ => XS.aloadN X0.here hx rfl (hb hby d2_1) rfl rfl kk_) ?_
  refine own_go (fun _ kk_ => XS.iconst X0.here hx rfl (hb hby d2_2) kk_) ?_
  refine own_go (fun _ kk_ => XS.aloadN X0.here hx rfl (hb hby d2_3) rfl rfl kk_) ?_
  show own_Fin p.tables e below _ (s₁.setTop (mkF m 4 #[.val (.ref xx), .val (.ref bb)] [(.ref bb), (.int (0 : Int32)), (.ref bb), (.ref xx)]))
  refine own_go (fun _ kk_ => own_alen X0 hx hZ e0 V_bb (g := (mkF m 4 #[.val (.ref xx), .val (.ref bb)] [(.ref bb), (.int (0 : Int32)), (.ref bb), (.ref xx)])) rfl rfl (hb hby d2_4) _ kk_) ?_
  refine own_go (fun _ kk_ => XS.aconstNull X0.here hx rfl (hb hby d2_5) kk_) ?_
  show own_Fin p.tables e below _ (s₁.setTop (mkF m 6 #[.val (.ref xx), .val (.ref bb)] [.null, (.int (0 : Int32)), (.int (0 : Int32)), (.ref bb), (.ref xx)]))
  obtain ⟨_, _, ⟨T36, L36, k36, n36⟩, -, X36, hSn36, hgr36, ⟨Lc36, hQ36, l36, y36, z36, CR36⟩, st36⟩ := X0.specialBackS hx (y := (⟨"java/lang/String", "<init>", "([CIILjava/lang/Void;)V"⟩ : MethodName)) rfl hown (mvT hZ (hw _ (List.mem_of_getElem? (i := 17) rfl))) (mvT hZ (hw _ (List.mem_of_getElem? (i := 18) rfl))) (mvT hZ (hw _ (List.mem_of_getElem? (i := 20) rfl))) (by decide) (backOfSH (s := s) (W := 0) (rm_ne0 l Z a0 hw [] hEL xx bb gc h0 n0 (Nat.le_trans Z0 K0.1) E_xx V_xx C_xx g_xx O0) hZ (hw _ (List.mem_of_getElem? (i := 20) rfl)) (hw _ (List.mem_of_getElem? (i := 12) rfl)) (by decide) (by decide) hEL CH) (g := (mkF m 6 #[.val (.ref xx), .val (.ref bb)] [.null, (.int (0 : Int32)), (.int (0 : Int32)), (.ref bb), (.ref xx)])) rfl (by rw [hml]; rfl) (Steps.refl _) (a := xx) (argsL := [(.ref bb), (.int (0 : Int32)), (.int (0 : Int32)), .null]) (rest := []) (lenOf pd_5 rfl) rfl (by show 2 * 0 + _ ≤ _; exact Nat.le_of_eq rfl) (hb hby d2_6) (fun _ _ => ⟨rfl, e0, (by decide : 0 + 4 ≤ _), (by decide : 0 + 8 ≤ _)⟩)
  dsimp only [Pt.U, Pt.locs, Pt.cells, Pt.slots] at X36 l36 y36 z36 st36 hQ36 hSn36 hgr36 CR36
  subst l36 y36 z36
  replace hS := foldS hS (show _ ≤ s₁.heap.size by rw [e0]; exact hk) hSn36 hgr36
  replace hk : T36.heap.size ≤ T36.heap.size := Nat.le_refl _
  replace hZ : Z.Warmed39 (s.setVm T36.vm).vm := State.Warmed39.trans (t := s.setVm s.vm) hZ hSn36.1
  replace hown : (s.setVm T36.vm).vm.findClass "java/lang/String" = some m.cls := by rw [show (s.setVm T36.vm).vm = T36.vm from rfl, hSn36.1.alike.findClass]; exact hown
  replace X36 : Stand p l e ({ frames := 2, cells := 4, slots := 8, locals := 29 } : Room) (s.setVm T36.vm) m #[(.ref xx), (.ref bb)] below meth c T36 _ _ _ := X36
  replace CR := CR.trans CR36
  replace CH := CR36.1
  obtain ⟨rfl, N36q, KK36, t36, SS36⟩ := hQ36
  have N36 := Fr.app N0 N36q
  replace E_xx := E_xx.keep KK36
  replace O0 := O0.keep KK36 (allS g_xx (all0))
  replace V_bb := V_bb.keep KK36 (ninS neb nin0)
  have K37 := K0.trans KK36 (allS (Or.inl (by simp)) all0)
  refine own_go (fun _ kk_ => st36.trans kk_) ?_
  show own_Fin p.tables e below _ (T36.setTop (mkF m 9 #[.val (.ref xx), .val (.ref bb)] []))
  have CRz : CHr Z consts_1 s.vm s.heap T36.vm T36.heap := by
    rw [hh]
    exact CR.trans (CHv.at X36 hZ hEL CH)
  refine own_retW0 X36 hx Bd hS hk (hb hby d2_9) CRz ?_ (by decide) (by decide)
  show (Q_rm_ne Z xx bb kb gc h0 n0) none T36.heap _
  exact ⟨rfl, N36, K37, _, SS36⟩
def Q_rm_eqn (Z : State) (xx : Addr) (h0 : Heap) (n0 : Nat) (v : Option Value) (h : Heap) (L : List Loc) : Prop := v = some (.int (0 : Int32)) ∧ Fr n0 L ∧ h = h0
theorem ef_rm_eqn (m : MethodId) (xx : Addr) : entryFrame m #[(.ref xx), .null] 3 = mkF m 0 #[.val (.ref xx), .val .null, .unset] [] := by first | (simp [entryFrame, mkF, argsToLocals, Value.category]; done) | rfl
set_option maxRecDepth 65536 in
set_option maxHeartbeats 40000000 in
theorem rm_eqn (l : Launch) (Z : State) (a0 : Array Value) (hw : ∀ d ∈ tables_1, d.before a0 Z = true) (ws : List Jvm.Cond) (xx : Addr) (h0 : Heap) (n0 : Nat) (Z0 : n0 ≤ h0.size) :
    MetFree l (⟨"java/lang/String", "equals", "(Ljava/lang/Object;)Z"⟩ : MethodName) (head1 (Jvm.Cond.code (⟨"java/lang/String", "equals", "(Ljava/lang/Object;)Z"⟩ : MethodName) jdk_42_method_66_code 3 (some .boolean) :: ws) ({ frames := 0, cells := 0, slots := 0, locals := 0 } : Room)) (fun a_ U_ => a_ = #[(.ref xx), .null] ∧ Z.Warmed39 U_.vm ∧ U_.heap = h0) (fun _ _ _ _ _ => True) (fun _ U_ o_ V_ => ∃ v_ L_, o_ = .returned v_ ∧ (Q_rm_eqn Z xx h0 n0) v_ V_.heap L_ ∧ FrameEnd U_ o_ V_ L_ ({ frames := 0, cells := 0, slots := 0, locals := 0 } : Room).cells ({ frames := 0, cells := 0, slots := 0, locals := 0 } : Room).slots) := by
  refine MetFree.of_bodySF (plainFor_of_name pn_1) hisR ?_
  intro p e s m args below meth c s₁ Bd hml0 hP hK
  obtain ⟨rfl, hZ, hh⟩ := hP
  have hx := Bd.exec
  have hby := Bd.bytes
  have hml : c.maxLocals = 3 := hml0
  have hown : s.vm.findClass "java/lang/String" = some m.cls := findClass_of_methodNamed Bd.named
  have hnm := (name_of_methodNamed Bd.named Bd.method).1
  have X0 : Stand p l e ({ frames := 0, cells := 0, slots := 0, locals := 0 } : Room) s m #[(.ref xx), .null] below meth c s₁ [] 0 0 := Stand.of_body Bd
  have e0 : s₁.heap = h0 := by rw [← hh, Bd.state]; rfl
  have N0 := Fr.nil n0
  have K0 : Keep h0 h0 [] := Keep.refl _ _
  show own_Fin p.tables e below (own_Post (Q_rm_eqn Z xx h0 n0) ({ frames := 0, cells := 0, slots := 0, locals := 0 } : Room).cells ({ frames := 0, cells := 0, slots := 0, locals := 0 } : Room).slots below s) _
  refine own_go (fun _ kk_ => castTop (ef_rm_eqn m xx) kk_) ?_
  refine own_go (fun _ kk_ => XS.aloadN X0.here hx rfl (hb hby d12_0) rfl rfl kk_) ?_
  refine own_go (fun _ kk_ => XS.aloadN X0.here hx rfl (hb hby d12_1) rfl rfl kk_) ?_
  show own_Fin p.tables e below _ (s₁.setTop (mkF m 2 #[.val (.ref xx), .val .null, .unset] [.null, (.ref xx)]))
  refine own_go (fun _ kk_ => acmp (g := (mkF m 2 #[.val (.ref xx), .val .null, .unset] [.null, (.ref xx)])) X0 hx rfl rfl rfl (pc0 := 2) (pc' := 7) (same := false) rfl (hb hby d12_2) rfl (by simp) (by decide) (by decide) kk_) ?_
  refine own_go (fun _ kk_ => XS.aloadN X0.here hx rfl (hb hby d12_7) rfl rfl kk_) ?_
  show own_Fin p.tables e below _ (s₁.setTop (mkF m 8 #[.val (.ref xx), .val .null, .unset] [.null]))
  refine own_go (fun _ kk_ => X0.instanceofNull hx (g := (mkF m 8 #[.val (.ref xx), .val .null, .unset] [.null])) rfl rfl (hb hby d12_8) _ kk_) ?_
  show own_Fin p.tables e below _ (s₁.setTop (mkF m 11 #[.val (.ref xx), .val .null, .unset] [(.int (0 : Int32))]))
  refine own_go (fun _ kk_ => XS.ifYes X0.here hx rfl (pc0 := 11) (pc' := 54) rfl (hb hby d12_11) rfl ((if0 _ _).trans (teq (by decide : (0 : Int32) = (0 : Int32))).1) (by decide) (by decide) kk_) ?_
  refine own_go (fun _ kk_ => XS.iconst X0.here hx rfl (hb hby d12_54) kk_) ?_
  show own_Fin p.tables e below _ (s₁.setTop (mkF m 55 #[.val (.ref xx), .val .null, .unset] [(.int (0 : Int32))]))
  refine own_retI X0 hx Bd (t := .boolean) Bd.returns rfl (by simp) (hb hby d12_55) ?_ (by decide) (by decide)
  show (Q_rm_eqn Z xx h0 n0) (some (.int (0 : Int32))) s₁.heap _
  rw [e0]
  exact ⟨rfl, N0, rfl⟩
def Q_rm_rec (Z : State) (oo : Addr) (h0 : Heap) (n0 : Nat) (v : Option Value) (h : Heap) (L : List Loc) : Prop := v = none ∧ Fr n0 L ∧ h = h0
theorem ef_rm_rec (m : MethodId) (oo : Addr) : entryFrame m #[(.ref oo)] 1 = mkF m 0 #[.val (.ref oo)] [] := by first | (simp [entryFrame, mkF, argsToLocals, Value.category]; done) | rfl
set_option maxRecDepth 65536 in
set_option maxHeartbeats 40000000 in
theorem rm_rec (l : Launch) (Z : State) (a0 : Array Value) (hw : ∀ d ∈ tables_1, d.before a0 Z = true) (ws : List Jvm.Cond) (oo : Addr) (h0 : Heap) (n0 : Nat) (Z0 : n0 ≤ h0.size) :
    MetFree l (⟨"java/lang/Record", "<init>", "()V"⟩ : MethodName) (head1 (Jvm.Cond.code (⟨"java/lang/Record", "<init>", "()V"⟩ : MethodName) jdk_30_method_1_code 1 none :: ws) ({ frames := 1, cells := 0, slots := 0, locals := 12 } : Room)) (fun a_ U_ => a_ = #[(.ref oo)] ∧ Z.Warmed39 U_.vm ∧ U_.heap = h0) (fun _ _ _ _ _ => True) (fun _ U_ o_ V_ => ∃ v_ L_, o_ = .returned v_ ∧ (Q_rm_rec Z oo h0 n0) v_ V_.heap L_ ∧ FrameEnd U_ o_ V_ L_ ({ frames := 1, cells := 0, slots := 0, locals := 12 } : Room).cells ({ frames := 1, cells := 0, slots := 0, locals := 12 } : Room).slots) := by
  refine MetFree.of_bodySF (plainFor_of_name pn_6) hisR ?_
  intro p e s m args below meth c s₁ Bd hml0 hP hK
  obtain ⟨rfl, hZ, hh⟩ := hP
  have hx := Bd.exec
  have hby := Bd.bytes
  have hml : c.maxLocals = 1 := hml0
  have hown : s.vm.findClass "java/lang/Record" = some m.cls := findClass_of_methodNamed Bd.named
  have hnm := (name_of_methodNamed Bd.named Bd.method).1
  have X0 : Stand p l e ({ frames := 1, cells := 0, slots := 0, locals := 12 } : Room) s m #[(.ref oo)] below meth c s₁ [] 0 0 := Stand.of_body Bd
  have e0 : s₁.heap = h0 := by rw [← hh, Bd.state]; rfl
  have N0 := Fr.nil n0
  have K0 : Keep h0 h0 [] := Keep.refl _ _
  show own_Fin p.tables e below (own_Post (Q_rm_rec Z oo h0 n0) ({ frames := 1, cells := 0, slots := 0, locals := 12 } : Room).cells ({ frames := 1, cells := 0, slots := 0, locals := 12 } : Room).slots below s) _
  refine own_go (fun _ kk_ => castTop (ef_rm_rec m oo) kk_) ?_
  refine own_go (fun _ kk_ => XS.aloadN X0.here hx rfl (hb hby d6_0) rfl rfl kk_) ?_
  show own_Fin p.tables e below _ (s₁.setTop (mkF m 1 #[.val (.ref oo)] [(.ref oo)]))
  obtain ⟨T38, X38, e38, st38⟩ := initO X0 hx hZ hown (hw _ (List.mem_of_getElem? (i := 43) rfl)) (hw _ (List.mem_of_getElem? (i := 22) rfl)) (hw _ (List.mem_of_getElem? (i := 23) rfl)) e0 (g := (mkF m 1 #[.val (.ref oo)] [(.ref oo)])) rfl (by rw [hml]; rfl) rfl (hb hby d6_1) (by decide) (W := 0) (by show 2 * 0 + _ ≤ _; exact Nat.le_of_eq rfl) (by decide)
  refine own_go st38 ?_
  show own_Fin p.tables e below _ (T38.setTop (mkF m 4 #[.val (.ref oo)] []))
  refine own_ret0 X38 hx Bd (hb hby d6_4) ?_ (by decide) (by decide)
  show (Q_rm_rec Z oo h0 n0) none T38.heap _
  rw [e38]
  exact ⟨rfl, N0, rfl⟩
def Q_rm_tok (Z : State) (oo : Addr) (kd : Addr) (tx : Addr) (ln : Int32) (co : Int32) (h0 : Heap) (n0 : Nat) (v : Option Value) (h : Heap) (L : List Loc) : Prop := v = none ∧ Fr n0 L ∧ Keep h0 h [oo] ∧ Fld Z h oo "com/example/obra/obra/Token" "kind" "Lcom/example/obra/obra/Token$Kind;" (.ref kd) ∧ Fld Z h oo "com/example/obra/obra/Token" "text" "Ljava/lang/String;" (.ref tx) ∧ Fld Z h oo "com/example/obra/obra/Token" "line" "I" (.int ln) ∧ Fld Z h oo "com/example/obra/obra/Token" "column" "I" (.int co)
theorem ef_rm_tok (m : MethodId) (oo : Addr) (kd : Addr) (tx : Addr) (ln : Int32) (co : Int32) : entryFrame m #[(.ref oo), (.ref kd), (.ref tx), (.int ln), (.int co)] 5 = mkF m 0 #[.val (.ref oo), .val (.ref kd), .val (.ref tx), .val (.int ln), .val (.int co)] [] := by first | (simp [entryFrame, mkF, argsToLocals, Value.category]; done) | rfl
set_option maxRecDepth 65536 in
set_option maxHeartbeats 40000000 in
theorem rm_tok (l : Launch) (Z : State) (a0 : Array Value) (hw : ∀ d ∈ tables_1, d.before a0 Z = true) (ws : List Jvm.Cond) (oo : Addr) (kd : Addr) (tx : Addr) (ln : Int32) (co : Int32) (h0 : Heap) (n0 : Nat) (Z0 : n0 ≤ h0.size) (E_oo : Exa Z h0 oo "com/example/obra/obra/Token") (F_kind : Fld Z h0 oo "com/example/obra/obra/Token" "kind" "Lcom/example/obra/obra/Token$Kind;" .null) (F_text : Fld Z h0 oo "com/example/obra/obra/Token" "text" "Ljava/lang/String;" .null) (F_line : Fld Z h0 oo "com/example/obra/obra/Token" "line" "I" (.int (0 : Int32))) (F_column : Fld Z h0 oo "com/example/obra/obra/Token" "column" "I" (.int (0 : Int32))) (g_oo : n0 ≤ oo) :
    MetFree l (⟨"com/example/obra/obra/Token", "<init>", "(Lcom/example/obra/obra/Token$Kind;Ljava/lang/String;II)V"⟩ : MethodName) (head1 (Jvm.Cond.code (⟨"com/example/obra/obra/Token", "<init>", "(Lcom/example/obra/obra/Token$Kind;Ljava/lang/String;II)V"⟩ : MethodName) prog_84_method_1_code 5 none :: ws) ({ frames := 2, cells := 0, slots := 0, locals := 24 } : Room)) (fun a_ U_ => a_ = #[(.ref oo), (.ref kd), (.ref tx), (.int ln), (.int co)] ∧ Z.Warmed39 U_.vm ∧ U_.heap = h0) (fun _ _ _ _ _ => True) (fun _ U_ o_ V_ => ∃ v_ L_, o_ = .returned v_ ∧ (Q_rm_tok Z oo kd tx ln co h0 n0) v_ V_.heap L_ ∧ FrameEnd U_ o_ V_ L_ ({ frames := 2, cells := 0, slots := 0, locals := 24 } : Room).cells ({ frames := 2, cells := 0, slots := 0, locals := 24 } : Room).slots) := by
  refine MetFree.of_bodySF (plainFor_of_name pn_7) hisR ?_
  intro p e s m args below meth c s₁ Bd hml0 hP hK
  obtain ⟨rfl, hZ, hh⟩ := hP
  have hx := Bd.exec
  have hby := Bd.bytes
  have hml : c.maxLocals = 5 := hml0
  have hown : s.vm.findClass "com/example/obra/obra/Token" = some m.cls := findClass_of_methodNamed Bd.named
  have hnm := (name_of_methodNamed Bd.named Bd.method).1
  have X0 : Stand p l e ({ frames := 2, cells := 0, slots := 0, locals := 24 } : Room) s m #[(.ref oo), (.ref kd), (.ref tx), (.int ln), (.int co)] below meth c s₁ [] 0 0 := Stand.of_body Bd
  have e0 : s₁.heap = h0 := by rw [← hh, Bd.state]; rfl
  have N0 := Fr.nil n0
  have K0 : Keep h0 h0 [oo] := Keep.refl _ _
  show own_Fin p.tables e below (own_Post (Q_rm_tok Z oo kd tx ln co h0 n0) ({ frames := 2, cells := 0, slots := 0, locals := 24 } : Room).cells ({ frames := 2, cells := 0, slots := 0, locals := 24 } : Room).slots below s) _
  refine own_go (fun _ kk_ => castTop (ef_rm_tok m oo kd tx ln co) kk_) ?_
  refine own_go (fun _ kk_ => XS.aloadN X0.here hx rfl (hb hby d5_0) rfl rfl kk_) ?_
  show own_Fin p.tables e below _ (s₁.setTop (mkF m 1 #[.val (.ref oo), .val (.ref kd), .val (.ref tx), .val (.int ln), .val (.int co)] [(.ref oo)]))
  obtain ⟨_, _, ⟨T39, L39, k39, n39⟩, -, X39, ⟨Lc39, hQ39, l39, y39, z39⟩, st39⟩ := X0.specialBack hx (y := (⟨"java/lang/Record", "<init>", "()V"⟩ : MethodName)) rfl hown (mvT hZ (hw _ (List.mem_of_getElem? (i := 38) rfl))) (mvT hZ (hw _ (List.mem_of_getElem? (i := 39) rfl))) (mvT hZ (hw _ (List.mem_of_getElem? (i := 42) rfl))) (by decide) (backOf (W := 0) (rm_rec l Z a0 hw [] oo h0 n0 (Nat.le_trans Z0 K0.1)) hZ (hw _ (List.mem_of_getElem? (i := 42) rfl)) (hw _ (List.mem_of_getElem? (i := 41) rfl)) (by decide) (by decide)) (g := (mkF m 1 #[.val (.ref oo), .val (.ref kd), .val (.ref tx), .val (.int ln), .val (.int co)] [(.ref oo)])) rfl (by rw [hml]; rfl) (Steps.refl _) (a := oo) (argsL := []) (rest := []) (lenOf pd_8 rfl) rfl (by show 2 * 0 + _ ≤ _; exact Nat.le_of_eq rfl) (hb hby d5_1) (fun _ _ => ⟨rfl, e0, (by decide : 0 + 0 ≤ _), (by decide : 0 + 0 ≤ _)⟩)
  dsimp only [Pt.U, Pt.locs, Pt.cells, Pt.slots] at X39 l39 y39 z39 st39 hQ39
  subst l39 y39 z39
  obtain ⟨rfl, N39q, e39⟩ := hQ39
  have N39 := Fr.app N0 N39q
  refine own_go (fun _ kk_ => st39.trans kk_) ?_
  refine own_go (fun _ kk_ => XS.aloadN X39.here hx rfl (hb hby d5_4) rfl rfl kk_) ?_
  refine own_go (fun _ kk_ => XS.aloadN X39.here hx rfl (hb hby d5_5) rfl rfl kk_) ?_
  show own_Fin p.tables e below _ (T39.setTop (mkF m 6 #[.val (.ref oo), .val (.ref kd), .val (.ref tx), .val (.int ln), .val (.int co)] [(.ref kd), (.ref oo)]))
  obtain ⟨T40, h40, X40, e40, W40, st40⟩ := putF X39 hx hZ hown (host := "") (Or.inl (hw _ (List.mem_of_getElem? (i := 44) rfl))) Via.refl e39 F_kind E_oo (Or.inr ⟨(hw _ (List.mem_of_getElem? (i := 45) rfl)), rfl, hnm⟩) (hw _ (List.mem_of_getElem? (i := 33) rfl)) (ty := (.object "com/example/obra/obra/Token$Kind")) (by decide) rfl rfl (g := (mkF m 6 #[.val (.ref oo), .val (.ref kd), .val (.ref tx), .val (.int ln), .val (.int co)] [(.ref kd), (.ref oo)])) rfl rfl (hb hby d5_6)
  have N40 := Fr.snoc X40 N39 g_oo
  replace F_kind := F_kind.same W40
  refine own_go st40 ?_
  replace E_oo := E_oo.wr W40
  replace F_text := F_text.other W40 (Or.inr (slot_ne (Or.inr (hw _ (List.mem_of_getElem? (i := 47) rfl))) (Or.inr (hw _ (List.mem_of_getElem? (i := 45) rfl))) (by decide) (t := (.object "java/lang/String")) (t' := (.object "com/example/obra/obra/Token$Kind")) (by decide) (by decide)))
  replace F_line := F_line.other W40 (Or.inr (slot_ne (Or.inr (hw _ (List.mem_of_getElem? (i := 49) rfl))) (Or.inr (hw _ (List.mem_of_getElem? (i := 45) rfl))) (by decide) (t := .int) (t' := (.object "com/example/obra/obra/Token$Kind")) (by decide) (by decide)))
  replace F_column := F_column.other W40 (Or.inr (slot_ne (Or.inr (hw _ (List.mem_of_getElem? (i := 51) rfl))) (Or.inr (hw _ (List.mem_of_getElem? (i := 45) rfl))) (by decide) (t := .int) (t' := (.object "com/example/obra/obra/Token$Kind")) (by decide) (by decide)))
  have K41 := K0.wr W40 (Or.inl (by simp))
  refine own_go (fun _ kk_ => XS.aloadN X40.here hx rfl (hb hby d5_9) rfl rfl kk_) ?_
  refine own_go (fun _ kk_ => XS.aloadN X40.here hx rfl (hb hby d5_10) rfl rfl kk_) ?_
  show own_Fin p.tables e below _ (T40.setTop (mkF m 11 #[.val (.ref oo), .val (.ref kd), .val (.ref tx), .val (.int ln), .val (.int co)] [(.ref tx), (.ref oo)]))
  obtain ⟨T42, h42, X42, e42, W42, st42⟩ := putF X40 hx hZ hown (host := "") (Or.inl (hw _ (List.mem_of_getElem? (i := 46) rfl))) Via.refl e40 F_text E_oo (Or.inr ⟨(hw _ (List.mem_of_getElem? (i := 47) rfl)), rfl, hnm⟩) (hw _ (List.mem_of_getElem? (i := 33) rfl)) (ty := (.object "java/lang/String")) (by decide) rfl rfl (g := (mkF m 11 #[.val (.ref oo), .val (.ref kd), .val (.ref tx), .val (.int ln), .val (.int co)] [(.ref tx), (.ref oo)])) rfl rfl (hb hby d5_11)
  have N42 := Fr.snoc X42 N40 g_oo
  replace F_text := F_text.same W42
  refine own_go st42 ?_
  replace E_oo := E_oo.wr W42
  replace F_kind := F_kind.other W42 (Or.inr (slot_ne (Or.inr (hw _ (List.mem_of_getElem? (i := 45) rfl))) (Or.inr (hw _ (List.mem_of_getElem? (i := 47) rfl))) (by decide) (t := (.object "com/example/obra/obra/Token$Kind")) (t' := (.object "java/lang/String")) (by decide) (by decide)))
  replace F_line := F_line.other W42 (Or.inr (slot_ne (Or.inr (hw _ (List.mem_of_getElem? (i := 49) rfl))) (Or.inr (hw _ (List.mem_of_getElem? (i := 47) rfl))) (by decide) (t := .int) (t' := (.object "java/lang/String")) (by decide) (by decide)))
  replace F_column := F_column.other W42 (Or.inr (slot_ne (Or.inr (hw _ (List.mem_of_getElem? (i := 51) rfl))) (Or.inr (hw _ (List.mem_of_getElem? (i := 47) rfl))) (by decide) (t := .int) (t' := (.object "java/lang/String")) (by decide) (by decide)))
  have K43 := K41.wr W42 (Or.inl (by simp))
  refine own_go (fun _ kk_ => XS.aloadN X42.here hx rfl (hb hby d5_14) rfl rfl kk_) ?_
  refine own_go (fun _ kk_ => XS.iloadN X42.here hx rfl (hb hby d5_15) rfl kk_) ?_
  show own_Fin p.tables e below _ (T42.setTop (mkF m 16 #[.val (.ref oo), .val (.ref kd), .val (.ref tx), .val (.int ln), .val (.int co)] [(.int ln), (.ref oo)]))
  obtain ⟨T44, h44, X44, e44, W44, st44⟩ := putF X42 hx hZ hown (host := "") (Or.inl (hw _ (List.mem_of_getElem? (i := 48) rfl))) Via.refl e42 F_line E_oo (Or.inr ⟨(hw _ (List.mem_of_getElem? (i := 49) rfl)), rfl, hnm⟩) (hw _ (List.mem_of_getElem? (i := 33) rfl)) (ty := .int) (by decide) rfl rfl (g := (mkF m 16 #[.val (.ref oo), .val (.ref kd), .val (.ref tx), .val (.int ln), .val (.int co)] [(.int ln), (.ref oo)])) rfl rfl (hb hby d5_16)
  have N44 := Fr.snoc X44 N42 g_oo
  replace F_line := F_line.same W44
  refine own_go st44 ?_
  replace E_oo := E_oo.wr W44
  replace F_kind := F_kind.other W44 (Or.inr (slot_ne (Or.inr (hw _ (List.mem_of_getElem? (i := 45) rfl))) (Or.inr (hw _ (List.mem_of_getElem? (i := 49) rfl))) (by decide) (t := (.object "com/example/obra/obra/Token$Kind")) (t' := .int) (by decide) (by decide)))
  replace F_text := F_text.other W44 (Or.inr (slot_ne (Or.inr (hw _ (List.mem_of_getElem? (i := 47) rfl))) (Or.inr (hw _ (List.mem_of_getElem? (i := 49) rfl))) (by decide) (t := (.object "java/lang/String")) (t' := .int) (by decide) (by decide)))
  replace F_column := F_column.other W44 (Or.inr (slot_ne (Or.inr (hw _ (List.mem_of_getElem? (i := 51) rfl))) (Or.inr (hw _ (List.mem_of_getElem? (i := 49) rfl))) (by decide) (t := .int) (t' := .int) (by decide) (by decide)))
  have K45 := K43.wr W44 (Or.inl (by simp))
  refine own_go (fun _ kk_ => XS.aloadN X44.here hx rfl (hb hby d5_19) rfl rfl kk_) ?_
  refine own_go (fun _ kk_ => XS.iload X44.here hx rfl (hb hby d5_20) rfl kk_) ?_
  show own_Fin p.tables e below _ (T44.setTop (mkF m 22 #[.val (.ref oo), .val (.ref kd), .val (.ref tx), .val (.int ln), .val (.int co)] [(.int co), (.ref oo)]))
  obtain ⟨T46, h46, X46, e46, W46, st46⟩ := putF X44 hx hZ hown (host := "") (Or.inl (hw _ (List.mem_of_getElem? (i := 50) rfl))) Via.refl e44 F_column E_oo (Or.inr ⟨(hw _ (List.mem_of_getElem? (i := 51) rfl)), rfl, hnm⟩) (hw _ (List.mem_of_getElem? (i := 33) rfl)) (ty := .int) (by decide) rfl rfl (g := (mkF m 22 #[.val (.ref oo), .val (.ref kd), .val (.ref tx), .val (.int ln), .val (.int co)] [(.int co), (.ref oo)])) rfl rfl (hb hby d5_22)
  have N46 := Fr.snoc X46 N44 g_oo
  replace F_column := F_column.same W46
  refine own_go st46 ?_
  replace E_oo := E_oo.wr W46
  replace F_kind := F_kind.other W46 (Or.inr (slot_ne (Or.inr (hw _ (List.mem_of_getElem? (i := 45) rfl))) (Or.inr (hw _ (List.mem_of_getElem? (i := 51) rfl))) (by decide) (t := (.object "com/example/obra/obra/Token$Kind")) (t' := .int) (by decide) (by decide)))
  replace F_text := F_text.other W46 (Or.inr (slot_ne (Or.inr (hw _ (List.mem_of_getElem? (i := 47) rfl))) (Or.inr (hw _ (List.mem_of_getElem? (i := 51) rfl))) (by decide) (t := (.object "java/lang/String")) (t' := .int) (by decide) (by decide)))
  replace F_line := F_line.other W46 (Or.inr (slot_ne (Or.inr (hw _ (List.mem_of_getElem? (i := 49) rfl))) (Or.inr (hw _ (List.mem_of_getElem? (i := 51) rfl))) (by decide) (t := .int) (t' := .int) (by decide) (by decide)))
  have K47 := K45.wr W46 (Or.inl (by simp))
  show own_Fin p.tables e below _ (T46.setTop (mkF m 25 #[.val (.ref oo), .val (.ref kd), .val (.ref tx), .val (.int ln), .val (.int co)] []))
  refine own_ret0 X46 hx Bd (hb hby d5_25) ?_ (by decide) (by decide)
  show (Q_rm_tok Z oo kd tx ln co h0 n0) none T46.heap _
  rw [e46]
  exact ⟨rfl, N46, K47, F_kind, F_text, F_line, F_column⟩
def Q_rm_isS (Z : State) (oo : Addr) (yy : Addr) (ty : Addr) (ds : List Int32) (kd : Addr) (tx : Addr) (tt : Addr) (cs : List Int32) (kk : Addr) (ks : Addr) (gc : Int32) (h0 : Heap) (n0 : Nat) (v : Option Value) (h : Heap) (L : List Loc) : Prop := ∃ z : Int32, v = some (.int z) ∧ Fr n0 L ∧ h = h0 ∧ ((z = 1 ∧ (kd = kk ∨ kd = ks) ∧ cs = ds) ∨ (z = 0 ∧ ¬ ((kd = kk ∨ kd = ks) ∧ cs = ds)))
theorem ef_rm_isS (m : MethodId) (oo : Addr) (yy : Addr) (ty : Addr) (kd : Addr) (tx : Addr) (tt : Addr) (kk : Addr) (ks : Addr) (gc : Int32) : entryFrame m #[(.ref oo), (.ref yy)] 2 = mkF m 0 #[.val (.ref oo), .val (.ref yy)] [] := by first | (simp [entryFrame, mkF, argsToLocals, Value.category]; done) | rfl
set_option maxRecDepth 65536 in
set_option maxHeartbeats 40000000 in
theorem rm_isS (l : Launch) (Z : State) (a0 : Array Value) (hw : ∀ d ∈ tables_1, d.before a0 Z = true) (ws : List Jvm.Cond) (oo : Addr) (yy : Addr) (ty : Addr) (ds : List Int32) (kd : Addr) (tx : Addr) (tt : Addr) (cs : List Int32) (kk : Addr) (ks : Addr) (gc : Int32) (h0 : Heap) (n0 : Nat) (Z0 : n0 ≤ h0.size) (F_kind : Fld Z h0 oo "com/example/obra/obra/Token" "kind" "Lcom/example/obra/obra/Token$Kind;" (.ref kd)) (F_text : Fld Z h0 oo "com/example/obra/obra/Token" "text" "Ljava/lang/String;" (.ref tx)) (F_s : own_Str Z h0 tx tt cs) (F_y : own_Str Z h0 yy ty ds) (S_kk : Sta Z Z.heap "com/example/obra/obra/Token$Kind" "KEYWORD" "Lcom/example/obra/obra/Token$Kind;" (.ref kk)) (S_ks : Sta Z Z.heap "com/example/obra/obra/Token$Kind" "SYMBOL" "Lcom/example/obra/obra/Token$Kind;" (.ref ks)) (S_C : Sta Z Z.heap "java/lang/String" "COMPACT_STRINGS" "Z" (.int gc)) (hcs : ¬ gc = 0) (O0 : Old Z n0 h0) :
    MetFree l (⟨"com/example/obra/obra/Token", "is", "(Ljava/lang/String;)Z"⟩ : MethodName) (head1 (Jvm.Cond.code (⟨"com/example/obra/obra/Token", "is", "(Ljava/lang/String;)Z"⟩ : MethodName) prog_84_method_2_code 2 (some .boolean) :: ws) ({ frames := 2, cells := 0, slots := 0, locals := 28 } : Room)) (fun a_ U_ => a_ = #[(.ref oo), (.ref yy)] ∧ Z.Warmed39 U_.vm ∧ U_.heap = h0) (fun _ _ _ _ _ => True) (fun _ U_ o_ V_ => ∃ v_ L_, o_ = .returned v_ ∧ (Q_rm_isS Z oo yy ty ds kd tx tt cs kk ks gc h0 n0) v_ V_.heap L_ ∧ FrameEnd U_ o_ V_ L_ ({ frames := 2, cells := 0, slots := 0, locals := 28 } : Room).cells ({ frames := 2, cells := 0, slots := 0, locals := 28 } : Room).slots) := by
  refine MetFree.of_bodySF (plainFor_of_name pn_7) hisR ?_
  intro p e s m args below meth c s₁ Bd hml0 hP hK
  obtain ⟨rfl, hZ, hh⟩ := hP
  have hx := Bd.exec
  have hby := Bd.bytes
  have hml : c.maxLocals = 2 := hml0
  have hown : s.vm.findClass "com/example/obra/obra/Token" = some m.cls := findClass_of_methodNamed Bd.named
  have hnm := (name_of_methodNamed Bd.named Bd.method).1
  have X0 : Stand p l e ({ frames := 2, cells := 0, slots := 0, locals := 28 } : Room) s m #[(.ref oo), (.ref yy)] below meth c s₁ [] 0 0 := Stand.of_body Bd
  have e0 : s₁.heap = h0 := by rw [← hh, Bd.state]; rfl
  have N0 := Fr.nil n0
  have K0 : Keep h0 h0 [] := Keep.refl _ _
  show own_Fin p.tables e below (own_Post (Q_rm_isS Z oo yy ty ds kd tx tt cs kk ks gc h0 n0) ({ frames := 2, cells := 0, slots := 0, locals := 28 } : Room).cells ({ frames := 2, cells := 0, slots := 0, locals := 28 } : Room).slots below s) _
  refine own_go (fun _ kk_ => castTop (ef_rm_isS m oo yy ty kd tx tt kk ks gc) kk_) ?_
  have heq : ∀ d ∈ StrChars.Road.wordsEq, d.before a0 Z = true := fun d hd => hw d ((by decide +kernel : ∀ d ∈ StrChars.Road.wordsEq, d ∈ tables_1) d hd)
  refine own_go (fun _ kk_ => XS.aloadN X0.here hx rfl (hb hby d7_0) rfl rfl kk_) ?_
  show own_Fin p.tables e below _ (s₁.setTop (mkF m 1 #[.val (.ref oo), .val (.ref yy)] [(.ref oo)]))
  obtain ⟨T48, X48, e48, st48⟩ := getF X0 hx hZ hown (host := "") (Or.inl (hw _ (List.mem_of_getElem? (i := 44) rfl))) Via.refl e0 F_kind (g := (mkF m 1 #[.val (.ref oo), .val (.ref yy)] [(.ref oo)])) rfl rfl (hb hby d7_1)
  refine own_go st48 ?_
  show own_Fin p.tables e below _ (T48.setTop (mkF m 4 #[.val (.ref oo), .val (.ref yy)] [(.ref kd)]))
  obtain ⟨T49, X49, e49, st49⟩ := getS2 X48 hx hZ hown (host := "") (Or.inl (hw _ (List.mem_of_getElem? (i := 57) rfl))) Via.refl e48 (S_kk.ext O0.2) (g := (mkF m 4 #[.val (.ref oo), .val (.ref yy)] [(.ref kd)])) rfl (hb hby d7_4)
  refine own_go st49 ?_
  show own_Fin p.tables e below _ (T49.setTop (mkF m 7 #[.val (.ref oo), .val (.ref yy)] [(.ref kk), (.ref kd)]))
  by_cases hc50 : kd = kk
  · skip
    refine own_go (fun _ kk_ => acmp (g := (mkF m 7 #[.val (.ref oo), .val (.ref yy)] [(.ref kk), (.ref kd)])) X49 hx rfl rfl rfl (pc0 := 7) (pc' := 20) (same := true) rfl (hb hby d7_7) rfl (by simp [hc50]) (by decide) (by decide) kk_) ?_
    refine own_go (fun _ kk_ => XS.aloadN X49.here hx rfl (hb hby d7_20) rfl rfl kk_) ?_
    show own_Fin p.tables e below _ (T49.setTop (mkF m 21 #[.val (.ref oo), .val (.ref yy)] [(.ref oo)]))
    obtain ⟨T51, X51, e51, st51⟩ := getF X49 hx hZ hown (host := "") (Or.inl (hw _ (List.mem_of_getElem? (i := 46) rfl))) Via.refl e49 F_text (g := (mkF m 21 #[.val (.ref oo), .val (.ref yy)] [(.ref oo)])) rfl rfl (hb hby d7_21)
    refine own_go st51 ?_
    refine own_go (fun _ kk_ => XS.aloadN X51.here hx rfl (hb hby d7_24) rfl rfl kk_) ?_
    show own_Fin p.tables e below _ (T51.setTop (mkF m 25 #[.val (.ref oo), .val (.ref yy)] [(.ref yy), (.ref tx)]))
    obtain ⟨cq52, kq52, qa52, qb52, qc52⟩ := isOf hZ e51 F_s.exa
    obtain ⟨_, _, ⟨T52, L52, k52, n52⟩, -, X52, ⟨Lc52, hQ52, l52, y52, z52⟩, st52⟩ := X51.virtualBack hx (y := (⟨"java/lang/String", "equals", "(Ljava/lang/Object;)Z"⟩ : MethodName)) (z := (⟨"java/lang/String", "equals", "(Ljava/lang/Object;)Z"⟩ : MethodName)) hown (mvT hZ (hw _ (List.mem_of_getElem? (i := 80) rfl))) (mvT hZ (hw _ (List.mem_of_getElem? (i := 81) rfl))) (own_notface (args := #[]) (mvT hZ (hw _ (List.mem_of_getElem? (i := 83) rfl))) rfl) (mvT hZ (hw _ (List.mem_of_getElem? (i := 83) rfl))) (mvT hZ (hw _ (List.mem_of_getElem? (i := 82) rfl))) (by decide) (own_eqB (W := 0) hZ heq (hw _ (List.mem_of_getElem? (i := 11) rfl)) F_s F_y (S_C.ext O0.2) hcs (by decide) (by decide)) qa52 qc52 (g := (mkF m 25 #[.val (.ref oo), .val (.ref yy)] [(.ref yy), (.ref tx)])) rfl (by rw [hml]; rfl) (Steps.refl _) (argsL := [(.ref yy)]) (rest := []) (lenOf pd_9 rfl) rfl (by show 2 * 0 + _ ≤ _; exact Nat.le_of_eq rfl) (hb hby d7_25) (fun _ _ => ⟨rfl, e51, (by decide : 0 + 0 ≤ _), (by decide : 0 + 0 ≤ _)⟩)
    dsimp only [Pt.U, Pt.locs, Pt.cells, Pt.slots] at X52 l52 y52 z52 st52 hQ52
    subst l52 y52 z52
    obtain ⟨hq52, rfl, e52⟩ := hQ52
    obtain ⟨z52, rfl, hz52⟩ := own_eqv hq52
    have N52 := Fr.app N0 (Fr.nil n0)
    refine own_go (fun _ kk_ => st52.trans kk_) ?_
    show own_Fin p.tables e below _ (T52.setTop (mkF m 28 #[.val (.ref oo), .val (.ref yy)] [(.int z52)]))
    by_cases hc53 : z52 = (0 : Int32)
    · skip
      refine own_go (fun _ kk_ => XS.ifYes X52.here hx rfl (pc0 := 28) (pc' := 35) rfl (hb hby d7_28) rfl ((if0 _ _).trans (teq hc53).1) (by decide) (by decide) kk_) ?_
      refine own_go (fun _ kk_ => XS.iconst X52.here hx rfl (hb hby d7_35) kk_) ?_
      show own_Fin p.tables e below _ (T52.setTop (mkF m 36 #[.val (.ref oo), .val (.ref yy)] [(.int (0 : Int32))]))
      refine own_retI X52 hx Bd (t := .boolean) Bd.returns rfl (by simp) (hb hby d7_36) ?_ (by decide) (by decide)
      show (Q_rm_isS Z oo yy ty ds kd tx tt cs kk ks gc h0 n0) (some (.int (0 : Int32))) T52.heap _
      rw [e52]
      refine ⟨_, rfl, N52, rfl, ?_⟩
      rcases hz52 with ⟨q1, q2⟩ | ⟨q1, q2⟩
      · rw [q1] at hc53; exact absurd hc53 (by decide)
      · exact Or.inr ⟨rfl, fun q => q2 q.2⟩
    · skip
      refine own_go (fun _ kk_ => XS.ifNo X52.here hx rfl (hb hby d7_28) rfl ((if0 _ _).trans (feq hc53).1) kk_) ?_
      refine own_go (fun _ kk_ => XS.iconst X52.here hx rfl (hb hby d7_31) kk_) ?_
      refine own_go (fun _ kk_ => XS.goto X52.here hx rfl (pc0 := 32) (pc' := 36) rfl (hb hby d7_32) (by decide) (by decide) kk_) ?_
      show own_Fin p.tables e below _ (T52.setTop (mkF m 36 #[.val (.ref oo), .val (.ref yy)] [(.int (1 : Int32))]))
      refine own_retI X52 hx Bd (t := .boolean) Bd.returns rfl (by simp) (hb hby d7_36) ?_ (by decide) (by decide)
      show (Q_rm_isS Z oo yy ty ds kd tx tt cs kk ks gc h0 n0) (some (.int (1 : Int32))) T52.heap _
      rw [e52]
      refine ⟨_, rfl, N52, rfl, ?_⟩
      rcases hz52 with ⟨q1, q2⟩ | ⟨q1, q2⟩
      · exact Or.inl ⟨rfl, by simp [hc50, hc53], q2⟩
      · exact absurd q1 hc53
  · skip
    refine own_go (fun _ kk_ => acmp (g := (mkF m 7 #[.val (.ref oo), .val (.ref yy)] [(.ref kk), (.ref kd)])) X49 hx rfl rfl rfl (pc0 := 7) (pc' := 10) (same := false) rfl (hb hby d7_7) rfl (by simp [hc50]) (by decide) (by decide) kk_) ?_
    refine own_go (fun _ kk_ => XS.aloadN X49.here hx rfl (hb hby d7_10) rfl rfl kk_) ?_
    show own_Fin p.tables e below _ (T49.setTop (mkF m 11 #[.val (.ref oo), .val (.ref yy)] [(.ref oo)]))
    obtain ⟨T54, X54, e54, st54⟩ := getF X49 hx hZ hown (host := "") (Or.inl (hw _ (List.mem_of_getElem? (i := 44) rfl))) Via.refl e49 F_kind (g := (mkF m 11 #[.val (.ref oo), .val (.ref yy)] [(.ref oo)])) rfl rfl (hb hby d7_11)
    refine own_go st54 ?_
    show own_Fin p.tables e below _ (T54.setTop (mkF m 14 #[.val (.ref oo), .val (.ref yy)] [(.ref kd)]))
    obtain ⟨T55, X55, e55, st55⟩ := getS2 X54 hx hZ hown (host := "") (Or.inl (hw _ (List.mem_of_getElem? (i := 59) rfl))) Via.refl e54 (S_ks.ext O0.2) (g := (mkF m 14 #[.val (.ref oo), .val (.ref yy)] [(.ref kd)])) rfl (hb hby d7_14)
    refine own_go st55 ?_
    show own_Fin p.tables e below _ (T55.setTop (mkF m 17 #[.val (.ref oo), .val (.ref yy)] [(.ref ks), (.ref kd)]))
    by_cases hc56 : kd = ks
    · skip
      refine own_go (fun _ kk_ => acmp (g := (mkF m 17 #[.val (.ref oo), .val (.ref yy)] [(.ref ks), (.ref kd)])) X55 hx rfl rfl rfl (pc0 := 17) (pc' := 20) (same := true) rfl (hb hby d7_17) rfl (by simp [hc56]) (by decide) (by decide) kk_) ?_
      refine own_go (fun _ kk_ => XS.aloadN X55.here hx rfl (hb hby d7_20) rfl rfl kk_) ?_
      show own_Fin p.tables e below _ (T55.setTop (mkF m 21 #[.val (.ref oo), .val (.ref yy)] [(.ref oo)]))
      obtain ⟨T57, X57, e57, st57⟩ := getF X55 hx hZ hown (host := "") (Or.inl (hw _ (List.mem_of_getElem? (i := 46) rfl))) Via.refl e55 F_text (g := (mkF m 21 #[.val (.ref oo), .val (.ref yy)] [(.ref oo)])) rfl rfl (hb hby d7_21)
      refine own_go st57 ?_
      refine own_go (fun _ kk_ => XS.aloadN X57.here hx rfl (hb hby d7_24) rfl rfl kk_) ?_
      show own_Fin p.tables e below _ (T57.setTop (mkF m 25 #[.val (.ref oo), .val (.ref yy)] [(.ref yy), (.ref tx)]))
      obtain ⟨cq58, kq58, qa58, qb58, qc58⟩ := isOf hZ e57 F_s.exa
      obtain ⟨_, _, ⟨T58, L58, k58, n58⟩, -, X58, ⟨Lc58, hQ58, l58, y58, z58⟩, st58⟩ := X57.virtualBack hx (y := (⟨"java/lang/String", "equals", "(Ljava/lang/Object;)Z"⟩ : MethodName)) (z := (⟨"java/lang/String", "equals", "(Ljava/lang/Object;)Z"⟩ : MethodName)) hown (mvT hZ (hw _ (List.mem_of_getElem? (i := 80) rfl))) (mvT hZ (hw _ (List.mem_of_getElem? (i := 81) rfl))) (own_notface (args := #[]) (mvT hZ (hw _ (List.mem_of_getElem? (i := 83) rfl))) rfl) (mvT hZ (hw _ (List.mem_of_getElem? (i := 83) rfl))) (mvT hZ (hw _ (List.mem_of_getElem? (i := 82) rfl))) (by decide) (own_eqB (W := 0) hZ heq (hw _ (List.mem_of_getElem? (i := 11) rfl)) F_s F_y (S_C.ext O0.2) hcs (by decide) (by decide)) qa58 qc58 (g := (mkF m 25 #[.val (.ref oo), .val (.ref yy)] [(.ref yy), (.ref tx)])) rfl (by rw [hml]; rfl) (Steps.refl _) (argsL := [(.ref yy)]) (rest := []) (lenOf pd_9 rfl) rfl (by show 2 * 0 + _ ≤ _; exact Nat.le_of_eq rfl) (hb hby d7_25) (fun _ _ => ⟨rfl, e57, (by decide : 0 + 0 ≤ _), (by decide : 0 + 0 ≤ _)⟩)
      dsimp only [Pt.U, Pt.locs, Pt.cells, Pt.slots] at X58 l58 y58 z58 st58 hQ58
      subst l58 y58 z58
      obtain ⟨hq58, rfl, e58⟩ := hQ58
      obtain ⟨z58, rfl, hz58⟩ := own_eqv hq58
      have N58 := Fr.app N0 (Fr.nil n0)
      refine own_go (fun _ kk_ => st58.trans kk_) ?_
      show own_Fin p.tables e below _ (T58.setTop (mkF m 28 #[.val (.ref oo), .val (.ref yy)] [(.int z58)]))
      by_cases hc59 : z58 = (0 : Int32)
      · skip
        refine own_go (fun _ kk_ => XS.ifYes X58.here hx rfl (pc0 := 28) (pc' := 35) rfl (hb hby d7_28) rfl ((if0 _ _).trans (teq hc59).1) (by decide) (by decide) kk_) ?_
        refine own_go (fun _ kk_ => XS.iconst X58.here hx rfl (hb hby d7_35) kk_) ?_
        show own_Fin p.tables e below _ (T58.setTop (mkF m 36 #[.val (.ref oo), .val (.ref yy)] [(.int (0 : Int32))]))
        refine own_retI X58 hx Bd (t := .boolean) Bd.returns rfl (by simp) (hb hby d7_36) ?_ (by decide) (by decide)
        show (Q_rm_isS Z oo yy ty ds kd tx tt cs kk ks gc h0 n0) (some (.int (0 : Int32))) T58.heap _
        rw [e58]
        refine ⟨_, rfl, N58, rfl, ?_⟩
        rcases hz58 with ⟨q1, q2⟩ | ⟨q1, q2⟩
        · rw [q1] at hc59; exact absurd hc59 (by decide)
        · exact Or.inr ⟨rfl, fun q => q2 q.2⟩
      · skip
        refine own_go (fun _ kk_ => XS.ifNo X58.here hx rfl (hb hby d7_28) rfl ((if0 _ _).trans (feq hc59).1) kk_) ?_
        refine own_go (fun _ kk_ => XS.iconst X58.here hx rfl (hb hby d7_31) kk_) ?_
        refine own_go (fun _ kk_ => XS.goto X58.here hx rfl (pc0 := 32) (pc' := 36) rfl (hb hby d7_32) (by decide) (by decide) kk_) ?_
        show own_Fin p.tables e below _ (T58.setTop (mkF m 36 #[.val (.ref oo), .val (.ref yy)] [(.int (1 : Int32))]))
        refine own_retI X58 hx Bd (t := .boolean) Bd.returns rfl (by simp) (hb hby d7_36) ?_ (by decide) (by decide)
        show (Q_rm_isS Z oo yy ty ds kd tx tt cs kk ks gc h0 n0) (some (.int (1 : Int32))) T58.heap _
        rw [e58]
        refine ⟨_, rfl, N58, rfl, ?_⟩
        rcases hz58 with ⟨q1, q2⟩ | ⟨q1, q2⟩
        · exact Or.inl ⟨rfl, by simp [hc50, hc56, hc59], q2⟩
        · exact absurd q1 hc59
    · skip
      refine own_go (fun _ kk_ => acmp (g := (mkF m 17 #[.val (.ref oo), .val (.ref yy)] [(.ref ks), (.ref kd)])) X55 hx rfl rfl rfl (pc0 := 17) (pc' := 35) (same := false) rfl (hb hby d7_17) rfl (by simp [hc56]) (by decide) (by decide) kk_) ?_
      refine own_go (fun _ kk_ => XS.iconst X55.here hx rfl (hb hby d7_35) kk_) ?_
      show own_Fin p.tables e below _ (T55.setTop (mkF m 36 #[.val (.ref oo), .val (.ref yy)] [(.int (0 : Int32))]))
      refine own_retI X55 hx Bd (t := .boolean) Bd.returns rfl (by simp) (hb hby d7_36) ?_ (by decide) (by decide)
      show (Q_rm_isS Z oo yy ty ds kd tx tt cs kk ks gc h0 n0) (some (.int (0 : Int32))) T55.heap _
      rw [e55]
      refine ⟨_, rfl, N0, rfl, ?_⟩
      exact Or.inr ⟨rfl, by simp [hc50, hc56]⟩
def Q_rm_isN (Z : State) (oo : Addr) (kd : Addr) (tx : Addr) (tt : Addr) (cs : List Int32) (kk : Addr) (ks : Addr) (gc : Int32) (h0 : Heap) (n0 : Nat) (v : Option Value) (h : Heap) (L : List Loc) : Prop := v = some (.int (0 : Int32)) ∧ Fr n0 L ∧ h = h0
theorem ef_rm_isN (m : MethodId) (oo : Addr) (kd : Addr) (tx : Addr) (tt : Addr) (kk : Addr) (ks : Addr) (gc : Int32) : entryFrame m #[(.ref oo), .null] 2 = mkF m 0 #[.val (.ref oo), .val .null] [] := by first | (simp [entryFrame, mkF, argsToLocals, Value.category]; done) | rfl
set_option maxRecDepth 65536 in
set_option maxHeartbeats 40000000 in
theorem rm_isN (l : Launch) (Z : State) (a0 : Array Value) (hw : ∀ d ∈ tables_1, d.before a0 Z = true) (ws : List Jvm.Cond) (oo : Addr) (kd : Addr) (tx : Addr) (tt : Addr) (cs : List Int32) (kk : Addr) (ks : Addr) (gc : Int32) (h0 : Heap) (n0 : Nat) (Z0 : n0 ≤ h0.size) (F_kind : Fld Z h0 oo "com/example/obra/obra/Token" "kind" "Lcom/example/obra/obra/Token$Kind;" (.ref kd)) (F_text : Fld Z h0 oo "com/example/obra/obra/Token" "text" "Ljava/lang/String;" (.ref tx)) (F_s : own_Str Z h0 tx tt cs) (S_kk : Sta Z Z.heap "com/example/obra/obra/Token$Kind" "KEYWORD" "Lcom/example/obra/obra/Token$Kind;" (.ref kk)) (S_ks : Sta Z Z.heap "com/example/obra/obra/Token$Kind" "SYMBOL" "Lcom/example/obra/obra/Token$Kind;" (.ref ks)) (S_C : Sta Z Z.heap "java/lang/String" "COMPACT_STRINGS" "Z" (.int gc)) (hcs : ¬ gc = 0) (O0 : Old Z n0 h0) :
    MetFree l (⟨"com/example/obra/obra/Token", "is", "(Ljava/lang/String;)Z"⟩ : MethodName) (head1 (Jvm.Cond.code (⟨"com/example/obra/obra/Token", "is", "(Ljava/lang/String;)Z"⟩ : MethodName) prog_84_method_2_code 2 (some .boolean) :: ws) ({ frames := 2, cells := 0, slots := 0, locals := 28 } : Room)) (fun a_ U_ => a_ = #[(.ref oo), .null] ∧ Z.Warmed39 U_.vm ∧ U_.heap = h0) (fun _ _ _ _ _ => True) (fun _ U_ o_ V_ => ∃ v_ L_, o_ = .returned v_ ∧ (Q_rm_isN Z oo kd tx tt cs kk ks gc h0 n0) v_ V_.heap L_ ∧ FrameEnd U_ o_ V_ L_ ({ frames := 2, cells := 0, slots := 0, locals := 28 } : Room).cells ({ frames := 2, cells := 0, slots := 0, locals := 28 } : Room).slots) := by
  refine MetFree.of_bodySF (plainFor_of_name pn_7) hisR ?_
  intro p e s m args below meth c s₁ Bd hml0 hP hK
  obtain ⟨rfl, hZ, hh⟩ := hP
  have hx := Bd.exec
  have hby := Bd.bytes
  have hml : c.maxLocals = 2 := hml0
  have hown : s.vm.findClass "com/example/obra/obra/Token" = some m.cls := findClass_of_methodNamed Bd.named
  have hnm := (name_of_methodNamed Bd.named Bd.method).1
  have X0 : Stand p l e ({ frames := 2, cells := 0, slots := 0, locals := 28 } : Room) s m #[(.ref oo), .null] below meth c s₁ [] 0 0 := Stand.of_body Bd
  have e0 : s₁.heap = h0 := by rw [← hh, Bd.state]; rfl
  have N0 := Fr.nil n0
  have K0 : Keep h0 h0 [] := Keep.refl _ _
  show own_Fin p.tables e below (own_Post (Q_rm_isN Z oo kd tx tt cs kk ks gc h0 n0) ({ frames := 2, cells := 0, slots := 0, locals := 28 } : Room).cells ({ frames := 2, cells := 0, slots := 0, locals := 28 } : Room).slots below s) _
  refine own_go (fun _ kk_ => castTop (ef_rm_isN m oo kd tx tt kk ks gc) kk_) ?_
  have heq : ∀ d ∈ StrChars.Road.wordsEq, d.before a0 Z = true := fun d hd => hw d ((by decide +kernel : ∀ d ∈ StrChars.Road.wordsEq, d ∈ tables_1) d hd)
  refine own_go (fun _ kk_ => XS.aloadN X0.here hx rfl (hb hby d7_0) rfl rfl kk_) ?_
  show own_Fin p.tables e below _ (s₁.setTop (mkF m 1 #[.val (.ref oo), .val .null] [(.ref oo)]))
  obtain ⟨T60, X60, e60, st60⟩ := getF X0 hx hZ hown (host := "") (Or.inl (hw _ (List.mem_of_getElem? (i := 44) rfl))) Via.refl e0 F_kind (g := (mkF m 1 #[.val (.ref oo), .val .null] [(.ref oo)])) rfl rfl (hb hby d7_1)
  refine own_go st60 ?_
  show own_Fin p.tables e below _ (T60.setTop (mkF m 4 #[.val (.ref oo), .val .null] [(.ref kd)]))
  obtain ⟨T61, X61, e61, st61⟩ := getS2 X60 hx hZ hown (host := "") (Or.inl (hw _ (List.mem_of_getElem? (i := 57) rfl))) Via.refl e60 (S_kk.ext O0.2) (g := (mkF m 4 #[.val (.ref oo), .val .null] [(.ref kd)])) rfl (hb hby d7_4)
  refine own_go st61 ?_
  show own_Fin p.tables e below _ (T61.setTop (mkF m 7 #[.val (.ref oo), .val .null] [(.ref kk), (.ref kd)]))
  by_cases hc62 : kd = kk
  · skip
    refine own_go (fun _ kk_ => acmp (g := (mkF m 7 #[.val (.ref oo), .val .null] [(.ref kk), (.ref kd)])) X61 hx rfl rfl rfl (pc0 := 7) (pc' := 20) (same := true) rfl (hb hby d7_7) rfl (by simp [hc62]) (by decide) (by decide) kk_) ?_
    refine own_go (fun _ kk_ => XS.aloadN X61.here hx rfl (hb hby d7_20) rfl rfl kk_) ?_
    show own_Fin p.tables e below _ (T61.setTop (mkF m 21 #[.val (.ref oo), .val .null] [(.ref oo)]))
    obtain ⟨T63, X63, e63, st63⟩ := getF X61 hx hZ hown (host := "") (Or.inl (hw _ (List.mem_of_getElem? (i := 46) rfl))) Via.refl e61 F_text (g := (mkF m 21 #[.val (.ref oo), .val .null] [(.ref oo)])) rfl rfl (hb hby d7_21)
    refine own_go st63 ?_
    refine own_go (fun _ kk_ => XS.aloadN X63.here hx rfl (hb hby d7_24) rfl rfl kk_) ?_
    show own_Fin p.tables e below _ (T63.setTop (mkF m 25 #[.val (.ref oo), .val .null] [.null, (.ref tx)]))
    obtain ⟨cq64, kq64, qa64, qb64, qc64⟩ := isOf hZ e63 F_s.exa
    obtain ⟨_, _, ⟨T64, L64, k64, n64⟩, -, X64, ⟨Lc64, hQ64, l64, y64, z64⟩, st64⟩ := X63.virtualBack hx (y := (⟨"java/lang/String", "equals", "(Ljava/lang/Object;)Z"⟩ : MethodName)) (z := (⟨"java/lang/String", "equals", "(Ljava/lang/Object;)Z"⟩ : MethodName)) hown (mvT hZ (hw _ (List.mem_of_getElem? (i := 80) rfl))) (mvT hZ (hw _ (List.mem_of_getElem? (i := 81) rfl))) (own_notface (args := #[]) (mvT hZ (hw _ (List.mem_of_getElem? (i := 83) rfl))) rfl) (mvT hZ (hw _ (List.mem_of_getElem? (i := 83) rfl))) (mvT hZ (hw _ (List.mem_of_getElem? (i := 82) rfl))) (by decide) (backOf (W := 0) (rm_eqn l Z a0 hw [] tx h0 n0 (Nat.le_trans Z0 K0.1)) hZ (hw _ (List.mem_of_getElem? (i := 84) rfl)) (hw _ (List.mem_of_getElem? (i := 12) rfl)) (by decide) (by decide)) qa64 qc64 (g := (mkF m 25 #[.val (.ref oo), .val .null] [.null, (.ref tx)])) rfl (by rw [hml]; rfl) (Steps.refl _) (argsL := [.null]) (rest := []) (lenOf pd_9 rfl) rfl (by show 2 * 0 + _ ≤ _; exact Nat.le_of_eq rfl) (hb hby d7_25) (fun _ _ => ⟨rfl, e63, (by decide : 0 + 0 ≤ _), (by decide : 0 + 0 ≤ _)⟩)
    dsimp only [Pt.U, Pt.locs, Pt.cells, Pt.slots] at X64 l64 y64 z64 st64 hQ64
    subst l64 y64 z64
    obtain ⟨rfl, N64q, e64⟩ := hQ64
    have N64 := Fr.app N0 N64q
    refine own_go (fun _ kk_ => st64.trans kk_) ?_
    show own_Fin p.tables e below _ (T64.setTop (mkF m 28 #[.val (.ref oo), .val .null] [(.int (0 : Int32))]))
    refine own_go (fun _ kk_ => XS.ifYes X64.here hx rfl (pc0 := 28) (pc' := 35) rfl (hb hby d7_28) rfl ((if0 _ _).trans (teq (by decide : (0 : Int32) = (0 : Int32))).1) (by decide) (by decide) kk_) ?_
    refine own_go (fun _ kk_ => XS.iconst X64.here hx rfl (hb hby d7_35) kk_) ?_
    show own_Fin p.tables e below _ (T64.setTop (mkF m 36 #[.val (.ref oo), .val .null] [(.int (0 : Int32))]))
    refine own_retI X64 hx Bd (t := .boolean) Bd.returns rfl (by simp) (hb hby d7_36) ?_ (by decide) (by decide)
    show (Q_rm_isN Z oo kd tx tt cs kk ks gc h0 n0) (some (.int (0 : Int32))) T64.heap _
    rw [e64]
    exact ⟨rfl, N64, rfl⟩
  · skip
    refine own_go (fun _ kk_ => acmp (g := (mkF m 7 #[.val (.ref oo), .val .null] [(.ref kk), (.ref kd)])) X61 hx rfl rfl rfl (pc0 := 7) (pc' := 10) (same := false) rfl (hb hby d7_7) rfl (by simp [hc62]) (by decide) (by decide) kk_) ?_
    refine own_go (fun _ kk_ => XS.aloadN X61.here hx rfl (hb hby d7_10) rfl rfl kk_) ?_
    show own_Fin p.tables e below _ (T61.setTop (mkF m 11 #[.val (.ref oo), .val .null] [(.ref oo)]))
    obtain ⟨T65, X65, e65, st65⟩ := getF X61 hx hZ hown (host := "") (Or.inl (hw _ (List.mem_of_getElem? (i := 44) rfl))) Via.refl e61 F_kind (g := (mkF m 11 #[.val (.ref oo), .val .null] [(.ref oo)])) rfl rfl (hb hby d7_11)
    refine own_go st65 ?_
    show own_Fin p.tables e below _ (T65.setTop (mkF m 14 #[.val (.ref oo), .val .null] [(.ref kd)]))
    obtain ⟨T66, X66, e66, st66⟩ := getS2 X65 hx hZ hown (host := "") (Or.inl (hw _ (List.mem_of_getElem? (i := 59) rfl))) Via.refl e65 (S_ks.ext O0.2) (g := (mkF m 14 #[.val (.ref oo), .val .null] [(.ref kd)])) rfl (hb hby d7_14)
    refine own_go st66 ?_
    show own_Fin p.tables e below _ (T66.setTop (mkF m 17 #[.val (.ref oo), .val .null] [(.ref ks), (.ref kd)]))
    by_cases hc67 : kd = ks
    · skip
      refine own_go (fun _ kk_ => acmp (g := (mkF m 17 #[.val (.ref oo), .val .null] [(.ref ks), (.ref kd)])) X66 hx rfl rfl rfl (pc0 := 17) (pc' := 20) (same := true) rfl (hb hby d7_17) rfl (by simp [hc67]) (by decide) (by decide) kk_) ?_
      refine own_go (fun _ kk_ => XS.aloadN X66.here hx rfl (hb hby d7_20) rfl rfl kk_) ?_
      show own_Fin p.tables e below _ (T66.setTop (mkF m 21 #[.val (.ref oo), .val .null] [(.ref oo)]))
      obtain ⟨T68, X68, e68, st68⟩ := getF X66 hx hZ hown (host := "") (Or.inl (hw _ (List.mem_of_getElem? (i := 46) rfl))) Via.refl e66 F_text (g := (mkF m 21 #[.val (.ref oo), .val .null] [(.ref oo)])) rfl rfl (hb hby d7_21)
      refine own_go st68 ?_
      refine own_go (fun _ kk_ => XS.aloadN X68.here hx rfl (hb hby d7_24) rfl rfl kk_) ?_
      show own_Fin p.tables e below _ (T68.setTop (mkF m 25 #[.val (.ref oo), .val .null] [.null, (.ref tx)]))
      obtain ⟨cq69, kq69, qa69, qb69, qc69⟩ := isOf hZ e68 F_s.exa
      obtain ⟨_, _, ⟨T69, L69, k69, n69⟩, -, X69, ⟨Lc69, hQ69, l69, y69, z69⟩, st69⟩ := X68.virtualBack hx (y := (⟨"java/lang/String", "equals", "(Ljava/lang/Object;)Z"⟩ : MethodName)) (z := (⟨"java/lang/String", "equals", "(Ljava/lang/Object;)Z"⟩ : MethodName)) hown (mvT hZ (hw _ (List.mem_of_getElem? (i := 80) rfl))) (mvT hZ (hw _ (List.mem_of_getElem? (i := 81) rfl))) (own_notface (args := #[]) (mvT hZ (hw _ (List.mem_of_getElem? (i := 83) rfl))) rfl) (mvT hZ (hw _ (List.mem_of_getElem? (i := 83) rfl))) (mvT hZ (hw _ (List.mem_of_getElem? (i := 82) rfl))) (by decide) (backOf (W := 0) (rm_eqn l Z a0 hw [] tx h0 n0 (Nat.le_trans Z0 K0.1)) hZ (hw _ (List.mem_of_getElem? (i := 84) rfl)) (hw _ (List.mem_of_getElem? (i := 12) rfl)) (by decide) (by decide)) qa69 qc69 (g := (mkF m 25 #[.val (.ref oo), .val .null] [.null, (.ref tx)])) rfl (by rw [hml]; rfl) (Steps.refl _) (argsL := [.null]) (rest := []) (lenOf pd_9 rfl) rfl (by show 2 * 0 + _ ≤ _; exact Nat.le_of_eq rfl) (hb hby d7_25) (fun _ _ => ⟨rfl, e68, (by decide : 0 + 0 ≤ _), (by decide : 0 + 0 ≤ _)⟩)
      dsimp only [Pt.U, Pt.locs, Pt.cells, Pt.slots] at X69 l69 y69 z69 st69 hQ69
      subst l69 y69 z69
      obtain ⟨rfl, N69q, e69⟩ := hQ69
      have N69 := Fr.app N0 N69q
      refine own_go (fun _ kk_ => st69.trans kk_) ?_
      show own_Fin p.tables e below _ (T69.setTop (mkF m 28 #[.val (.ref oo), .val .null] [(.int (0 : Int32))]))
      refine own_go (fun _ kk_ => XS.ifYes X69.here hx rfl (pc0 := 28) (pc' := 35) rfl (hb hby d7_28) rfl ((if0 _ _).trans (teq (by decide : (0 : Int32) = (0 : Int32))).1) (by decide) (by decide) kk_) ?_
      refine own_go (fun _ kk_ => XS.iconst X69.here hx rfl (hb hby d7_35) kk_) ?_
      show own_Fin p.tables e below _ (T69.setTop (mkF m 36 #[.val (.ref oo), .val .null] [(.int (0 : Int32))]))
      refine own_retI X69 hx Bd (t := .boolean) Bd.returns rfl (by simp) (hb hby d7_36) ?_ (by decide) (by decide)
      show (Q_rm_isN Z oo kd tx tt cs kk ks gc h0 n0) (some (.int (0 : Int32))) T69.heap _
      rw [e69]
      exact ⟨rfl, N69, rfl⟩
    · skip
      refine own_go (fun _ kk_ => acmp (g := (mkF m 17 #[.val (.ref oo), .val .null] [(.ref ks), (.ref kd)])) X66 hx rfl rfl rfl (pc0 := 17) (pc' := 35) (same := false) rfl (hb hby d7_17) rfl (by simp [hc67]) (by decide) (by decide) kk_) ?_
      refine own_go (fun _ kk_ => XS.iconst X66.here hx rfl (hb hby d7_35) kk_) ?_
      show own_Fin p.tables e below _ (T66.setTop (mkF m 36 #[.val (.ref oo), .val .null] [(.int (0 : Int32))]))
      refine own_retI X66 hx Bd (t := .boolean) Bd.returns rfl (by simp) (hb hby d7_36) ?_ (by decide) (by decide)
      show (Q_rm_isN Z oo kd tx tt cs kk ks gc h0 n0) (some (.int (0 : Int32))) T66.heap _
      rw [e66]
      exact ⟨rfl, N0, rfl⟩
def Q_rm_mk (Z : State) (ln : Int32) (c0 : Int32) (c1 : Int32) (c2 : Int32) (gc : Int32) (h0 : Heap) (n0 : Nat) (v : Option Value) (h : Heap) (L : List Loc) : Prop := ∃ xr tr : Addr, v = some (.ref xr) ∧ Fr n0 L ∧ Keep h0 h [] ∧ own_Str Z h xr tr (own_mk ln c0 c1 c2)
theorem ef_rm_mk (m : MethodId) (ln : Int32) (c0 : Int32) (c1 : Int32) (c2 : Int32) (gc : Int32) : entryFrame m #[(.int ln), (.int c0), (.int c1), (.int c2)] 4 = mkF m 0 #[.val (.int ln), .val (.int c0), .val (.int c1), .val (.int c2)] [] := by first | (simp [entryFrame, mkF, argsToLocals, Value.category]; done) | rfl
set_option maxRecDepth 65536 in
set_option maxHeartbeats 40000000 in
theorem rm_mk (l : Launch) (Z : State) (a0 : Array Value) (hw : ∀ d ∈ tables_1, d.before a0 Z = true) (ws : List Jvm.Cond) (hEL : EW Z a0 consts_1) (ln : Int32) (c0 : Int32) (c1 : Int32) (c2 : Int32) (gc : Int32) (h0 : Heap) (n0 : Nat) (Z0 : n0 ≤ h0.size) (hc0 : ¬ c0 < 0 ∧ ¬ (255 : Int32) < c0) (hc1 : ¬ c1 < 0 ∧ ¬ (255 : Int32) < c1) (hc2 : ¬ c2 < 0 ∧ ¬ (255 : Int32) < c2) (S_C : Sta Z Z.heap "java/lang/String" "COMPACT_STRINGS" "Z" (.int gc)) (hcs : ¬ gc = 0) (O0 : Old Z n0 h0) :
    MetFree l (⟨"com/example/obra/obra/TokenIsPinLaw", "mk", "(ICCC)Ljava/lang/String;"⟩ : MethodName) (head1 (Jvm.Cond.code (⟨"com/example/obra/obra/TokenIsPinLaw", "mk", "(ICCC)Ljava/lang/String;"⟩ : MethodName) method_2_code 4 (some (.object "java/lang/String")) :: ws) ({ frames := 4, cells := 6, slots := 12, locals := 66 } : Room)) (fun a_ U_ => a_ = #[(.int ln), (.int c0), (.int c1), (.int c2)] ∧ Z.Warmed39 U_.vm ∧ U_.heap = h0 ∧ CHv Z consts_1 U_.vm h0) (fun _ _ _ _ _ => True) (fun _ U_ o_ V_ => ∃ v_ L_, o_ = .returned v_ ∧ (Q_rm_mk Z ln c0 c1 c2 gc h0 n0) v_ V_.heap L_ ∧ CHr Z consts_1 U_.vm U_.heap V_.vm V_.heap ∧ ReturnedEndW U_ o_ V_ L_ ({ frames := 4, cells := 6, slots := 12, locals := 66 } : Room).cells ({ frames := 4, cells := 6, slots := 12, locals := 66 } : Room).slots) := by
  refine MetFree.of_bodySF (plainFor_of_name pn_10) hisR ?_
  intro p e s m args below meth c s₁ Bd hml0 hP hK
  obtain ⟨rfl, hZ, hh, CH⟩ := hP
  have hx := Bd.exec
  have hby := Bd.bytes
  have hml : c.maxLocals = 4 := hml0
  have hown : s.vm.findClass "com/example/obra/obra/TokenIsPinLaw" = some m.cls := findClass_of_methodNamed Bd.named
  have hnm := (name_of_methodNamed Bd.named Bd.method).1
  have wS : ∀ a ∈ Bundle.stringAtoms, a.before a0 Z = true := fun d hd => hw d ((by decide +kernel : ∀ d ∈ Bundle.stringAtoms, d ∈ tables_1) d hd)
  have X0 : Stand p l e ({ frames := 4, cells := 6, slots := 12, locals := 66 } : Room) (s.setVm s.vm) m #[(.int ln), (.int c0), (.int c1), (.int c2)] below meth c s₁ [] 0 0 := Stand.of_body Bd
  have e0 : s₁.heap = h0 := by rw [← hh, Bd.state]; rfl
  have N0 := Fr.nil n0
  have K0 : Keep h0 h0 [] := Keep.refl _ _
  replace hZ : Z.Warmed39 (s.setVm s.vm).vm := hZ
  replace hown : (s.setVm s.vm).vm.findClass "com/example/obra/obra/TokenIsPinLaw" = some m.cls := hown
  have hS : s.Since s.vm h0.size := (State.WarmedH.refl s).since _
  have hk : h0.size ≤ h0.size := Nat.le_refl _
  have CR : CHr Z consts_1 s.vm h0 s.vm h0 := CHr.refl CH
  show own_Fin p.tables e below (own_PostW Z consts_1 (Q_rm_mk Z ln c0 c1 c2 gc h0 n0) ({ frames := 4, cells := 6, slots := 12, locals := 66 } : Room).cells ({ frames := 4, cells := 6, slots := 12, locals := 66 } : Room).slots below s) _
  refine own_go (fun _ kk_ => castTop (ef_rm_mk m ln c0 c1 c2 gc) kk_) ?_
  have hws : ∀ d ∈ StrChars.Road.words, d.before a0 Z = true := fun d hd => hw d ((by decide +kernel : ∀ d ∈ StrChars.Road.words, d ∈ tables_1) d hd)
  refine own_go (fun _ kk_ => XS.iloadN X0.here hx rfl (hb hby d1_0) rfl kk_) ?_
  show own_Fin p.tables e below _ (s₁.setTop (mkF m 1 #[.val (.int ln), .val (.int c0), .val (.int c1), .val (.int c2)] [(.int ln)]))
  by_cases hc70 : ln = (0 : Int32)
  · skip
    refine own_go (fun _ kk_ => XS.ifNo X0.here hx rfl (hb hby d1_1) rfl ((if0 _ _).trans (teq hc70).2) kk_) ?_
    show own_Fin p.tables e below _ (s₁.setTop (mkF m 4 #[.val (.int ln), .val (.int c0), .val (.int c1), .val (.int c2)] []))
    obtain ⟨T71, h71, X71, e71, E71, A71, D71, -, st71⟩ := newO X0 hx hZ hown (hw _ (List.mem_of_getElem? (i := 10) rfl)) (hw _ (List.mem_of_getElem? (i := 11) rfl)) (hw _ (List.mem_of_getElem? (i := 12) rfl)) e0 (g := (mkF m 4 #[.val (.int ln), .val (.int c0), .val (.int c1), .val (.int c2)] [])) rfl (hb hby d1_4) (by decide) (by decide)
    obtain ⟨b71, g71⟩ : ∃ z, z = h0.size := ⟨_, rfl⟩
    rw [← g71] at A71 D71 st71
    have sz_b71 : h0.size ≤ b71 := Nat.le_trans K0.1 (Nat.le_of_eq g71.symm)
    have g_b71 : n0 ≤ b71 := Nat.le_trans Z0 sz_b71
    have S_b71 := Safe.new (Z := Z) (EL := consts_1) (vm := s.vm) (Nat.le_of_eq g71.symm)
    replace S_b71 := Safe.ext E71 CH S_b71
    replace CR := CR.trans (CHr.ext E71 CH)
    replace CH := CH.ext E71
    replace hk := Nat.le_trans hk E71.1
    replace O0 := O0.ext E71
    have K72 := K0.ext E71
    have F71_value : Fld Z h71 b71 "java/lang/String" "value" "[B" .null := D71 (Or.inr (hw _ (List.mem_of_getElem? (i := 26) rfl))) (ty := (.array .byte)) (by decide)
    have F71_coder : Fld Z h71 b71 "java/lang/String" "coder" "B" (.int (0 : Int32)) := D71 (Or.inr (hw _ (List.mem_of_getElem? (i := 27) rfl))) (ty := .byte) (by decide)
    refine own_go st71 ?_
    refine own_go (fun _ kk_ => XS.dup X71.here hx rfl (hb hby d1_7) rfl rfl kk_) ?_
    refine own_go (fun _ kk_ => XS.iconst X71.here hx rfl (hb hby d1_8) kk_) ?_
    show own_Fin p.tables e below _ (T71.setTop (mkF m 9 #[.val (.int ln), .val (.int c0), .val (.int c1), .val (.int c2)] [(.int (0 : Int32)), (.ref b71), (.ref b71)]))
    obtain ⟨T73, h73, k73, X73, e73, E73, A73, st73⟩ := newP X71 hx hZ (hw _ (List.mem_of_getElem? (i := 13) rfl)) e71 (g := (mkF m 9 #[.val (.int ln), .val (.int c0), .val (.int c1), .val (.int c2)] [(.int (0 : Int32)), (.ref b71), (.ref b71)])) rfl (hb hby d1_9) rfl (by decide) (cap := 0) (by decide) (by decide) (by decide) (by decide)
    obtain ⟨b73, g73⟩ : ∃ z, z = h71.size := ⟨_, rfl⟩
    rw [← g73] at A73 st73
    have sz_b73 : h0.size ≤ b73 := Nat.le_trans K72.1 (Nat.le_of_eq g73.symm)
    have g_b73 : n0 ≤ b73 := Nat.le_trans Z0 sz_b73
    have ne74 : b71 ≠ b73 := Nat.ne_of_lt (Nat.lt_of_lt_of_le A71.lt (Nat.le_of_eq g73.symm))
    have S_b73 := Safe.new (Z := Z) (EL := consts_1) (vm := s.vm) (Nat.le_of_eq g73.symm)
    replace S_b71 := Safe.ext E73 CH S_b71
    replace S_b73 := Safe.ext E73 CH S_b73
    replace CR := CR.trans (CHr.ext E73 CH)
    replace CH := CH.ext E73
    replace hk := Nat.le_trans hk E73.1
    replace O0 := O0.ext E73
    replace A71 := A71.ext E73
    replace F71_value := F71_value.ext E73
    replace F71_coder := F71_coder.ext E73
    have K75 := K72.ext E73
    have V73 : Arv Z h73 b73 k73 .char (0 : Int32) [] (.int (0 : Int32)) := (Arv.new A73 (by decide)).pad (pad_rep [] (.int (0 : Int32)) 0)
    refine own_go st73 ?_
    show own_Fin p.tables e below _ (T73.setTop (mkF m 11 #[.val (.int ln), .val (.int c0), .val (.int c1), .val (.int c2)] [(.ref b73), (.ref b71), (.ref b71)]))
    obtain ⟨_, _, ⟨T76, L76, k76, n76⟩, -, X76, hSn76, hgr76, ⟨Lc76, hQ76, l76, y76, z76, CR76⟩, st76⟩ := X73.specialBackS hx (y := (⟨"java/lang/String", "<init>", "([C)V"⟩ : MethodName)) rfl hown (mvT hZ (hw _ (List.mem_of_getElem? (i := 14) rfl))) (mvT hZ (hw _ (List.mem_of_getElem? (i := 15) rfl))) (mvT hZ (hw _ (List.mem_of_getElem? (i := 16) rfl))) (by decide) (backOfSH (s := s) (W := 1) (rm_ne l Z a0 hw [] hEL b71 b73 k73 gc h73 n0 (Nat.le_trans Z0 K75.1) A71 F71_value F71_coder g_b71 V73 (Ne.symm ne74) O0) hZ (hw _ (List.mem_of_getElem? (i := 16) rfl)) (hw _ (List.mem_of_getElem? (i := 12) rfl)) (by decide) (by decide) hEL CH) (g := (mkF m 11 #[.val (.int ln), .val (.int c0), .val (.int c1), .val (.int c2)] [(.ref b73), (.ref b71), (.ref b71)])) rfl (by rw [hml]; rfl) (Steps.refl _) (a := b71) (argsL := [(.ref b73)]) (rest := [(.ref b71)]) (lenOf pd_11 rfl) rfl (by show 2 * 0 + _ ≤ _; exact Nat.le_of_eq rfl) (hb hby d1_11) (fun _ _ => ⟨rfl, e73, (by decide : 2 + 4 ≤ _), (by decide : 4 + 8 ≤ _)⟩)
    dsimp only [Pt.U, Pt.locs, Pt.cells, Pt.slots] at X76 l76 y76 z76 st76 hQ76 hSn76 hgr76 CR76
    subst l76 y76 z76
    replace hS := foldS hS (show _ ≤ T73.heap.size by rw [e73]; exact hk) hSn76 hgr76
    replace hk : T76.heap.size ≤ T76.heap.size := Nat.le_refl _
    replace hZ : Z.Warmed39 (s.setVm T76.vm).vm := State.Warmed39.trans (t := s.setVm s.vm) hZ hSn76.1
    replace hown : (s.setVm T76.vm).vm.findClass "com/example/obra/obra/TokenIsPinLaw" = some m.cls := by rw [show (s.setVm T76.vm).vm = T76.vm from rfl, hSn76.1.alike.findClass]; exact hown
    replace X76 : Stand p l e ({ frames := 4, cells := 6, slots := 12, locals := 66 } : Room) (s.setVm T76.vm) m #[(.int ln), (.int c0), (.int c1), (.int c2)] below meth c T76 _ _ _ := X76
    replace S_b71 := CR76.safe A71.lt S_b71
    replace S_b73 := CR76.safe V73.lt S_b73
    replace CR := CR.trans CR76
    replace CH := CR76.1
    obtain ⟨rfl, N76q, KK76, t76, SS76⟩ := hQ76
    have N76 := Fr.app N0 N76q
    replace O0 := O0.keep KK76 (allS g_b71 (all0))
    replace A71 := A71.keep KK76
    replace V73 := V73.keep KK76 (ninS (Ne.symm ne74) nin0)
    have K77 := K75.trans KK76 (allS (Or.inr sz_b71) all0)
    refine own_go (fun _ kk_ => st76.trans kk_) ?_
    show own_Fin p.tables e below _ (T76.setTop (mkF m 14 #[.val (.int ln), .val (.int c0), .val (.int c1), .val (.int c2)] [(.ref b71)]))
    have CRz : CHr Z consts_1 s.vm s.heap T76.vm T76.heap := by
      rw [hh]
      exact CR.trans (CHv.at X76 hZ hEL CH)
    refine own_retW X76 hx Bd hS hk (t := (.object "java/lang/String")) Bd.returns rfl (Or.inr (Or.inr (Or.inr (Or.inr ⟨rfl, rfl, rfl⟩)))) (hb hby d1_14) CRz ?_ (by decide) (by decide)
    show (Q_rm_mk Z ln c0 c1 c2 gc h0 n0) (some (.ref b71)) T76.heap _
    refine ⟨_, t76, rfl, N76, K77, ?_⟩
    have hq := SS76
    simpa [own_mk, hc70] using hq
  · skip
    refine own_go (fun _ kk_ => XS.ifYes X0.here hx rfl (pc0 := 1) (pc' := 15) rfl (hb hby d1_1) rfl ((if0 _ _).trans (feq hc70).2) (by decide) (by decide) kk_) ?_
    refine own_go (fun _ kk_ => XS.iloadN X0.here hx rfl (hb hby d1_15) rfl kk_) ?_
    refine own_go (fun _ kk_ => XS.iconst X0.here hx rfl (hb hby d1_16) kk_) ?_
    show own_Fin p.tables e below _ (s₁.setTop (mkF m 17 #[.val (.int ln), .val (.int c0), .val (.int c1), .val (.int c2)] [(.int (1 : Int32)), (.int ln)]))
    by_cases hc78 : ln = (1 : Int32)
    · skip
      refine own_go (fun _ kk_ => XS.icmpNo X0.here hx rfl (hb hby d1_17) rfl (teq hc78).2 kk_) ?_
      refine own_go (fun _ kk_ => XS.iloadN X0.here hx rfl (hb hby d1_20) rfl kk_) ?_
      show own_Fin p.tables e below _ (s₁.setTop (mkF m 21 #[.val (.int ln), .val (.int c0), .val (.int c1), .val (.int c2)] [(.int c0)]))
      obtain ⟨_, _, ⟨T79, L79, k79, n79⟩, -, X79, ⟨Lc79, hQ79, l79, y79, z79⟩, st79⟩ := Jvm.LawKit.callS X0 hx (y := (⟨"java/lang/String", "valueOf", "(C)Ljava/lang/String;"⟩ : MethodName)) hown (mvT hZ (hw _ (List.mem_of_getElem? (i := 91) rfl))) (mvT hZ (hw _ (List.mem_of_getElem? (i := 92) rfl))) (mvT hZ (hw _ (List.mem_of_getElem? (i := 12) rfl))) (mvT hZ (hw _ (List.mem_of_getElem? (i := 93) rfl))) (by decide) (backOf (W := 0) (rm_vo l Z a0 hw [] c0 gc h0 n0 (Nat.le_trans Z0 K0.1) (hc0).1 (hc0).2 S_C hcs O0) hZ (hw _ (List.mem_of_getElem? (i := 93) rfl)) (hw _ (List.mem_of_getElem? (i := 12) rfl)) (by decide) (by decide)) (g := (mkF m 21 #[.val (.int ln), .val (.int c0), .val (.int c1), .val (.int c2)] [(.int c0)])) rfl (by rw [hml]; rfl) (argsL := [(.int c0)]) (rest := []) (lenOf pd_12 rfl) rfl (by show 2 * 0 + _ ≤ _; exact Nat.le_of_eq rfl) (hb hby d1_21) (fun _ _ => ⟨rfl, e0, (by decide : 0 + 2 ≤ _), (by decide : 0 + 5 ≤ _)⟩)
      dsimp only [Pt.U, Pt.locs, Pt.cells, Pt.slots] at X79 l79 y79 z79 st79 hQ79
      subst l79 y79 z79
      obtain ⟨r79, t79, rfl, N79q, KK79, szx79, szt79, SS79⟩ := hQ79
      have N79 := Fr.app N0 N79q
      have sz_r79 : h0.size ≤ r79 := Nat.le_trans K0.1 szx79
      have g_r79 : n0 ≤ r79 := Nat.le_trans Z0 sz_r79
      have S_r79 := Safe.new (Z := Z) (EL := consts_1) (vm := s.vm) szx79
      have sz_t79 : h0.size ≤ t79 := Nat.le_trans K0.1 szt79
      have g_t79 : n0 ≤ t79 := Nat.le_trans Z0 sz_t79
      have S_t79 := Safe.new (Z := Z) (EL := consts_1) (vm := s.vm) szt79
      have hs80 : ∀ x ∈ [], Safe Z consts_1 s.vm h0 x := sf0
      replace S_r79 := Safe.keep KK79 hs80 CH S_r79
      replace S_t79 := Safe.keep KK79 hs80 CH S_t79
      replace CR := CR.trans (CHr.keep KK79 hs80 CH)
      replace CH := CHv.keep KK79 hs80 CH
      replace hk := Nat.le_trans hk KK79.1
      replace O0 := O0.keep KK79 all0
      have K81 := K0.trans KK79 all0
      refine own_go st79 ?_
      show own_Fin p.tables e below _ (T79.setTop (mkF m 24 #[.val (.int ln), .val (.int c0), .val (.int c1), .val (.int c2)] [(.ref r79)]))
      have CRz : CHr Z consts_1 s.vm s.heap T79.vm T79.heap := by
        rw [hh]
        exact CR.trans (CHv.at X79 hZ hEL CH)
      refine own_retW X79 hx Bd hS hk (t := (.object "java/lang/String")) Bd.returns rfl (Or.inr (Or.inr (Or.inr (Or.inr ⟨rfl, rfl, rfl⟩)))) (hb hby d1_24) CRz ?_ (by decide) (by decide)
      show (Q_rm_mk Z ln c0 c1 c2 gc h0 n0) (some (.ref r79)) T79.heap _
      refine ⟨_, t79, rfl, N79, K81, ?_⟩
      have hq := SS79
      simpa [own_mk, hc70, hc78] using hq
    · skip
      refine own_go (fun _ kk_ => XS.icmpYes X0.here hx rfl (pc0 := 17) (pc' := 25) rfl (hb hby d1_17) rfl (feq hc78).2 (by decide) (by decide) kk_) ?_
      refine own_go (fun _ kk_ => XS.iloadN X0.here hx rfl (hb hby d1_25) rfl kk_) ?_
      refine own_go (fun _ kk_ => XS.iconst X0.here hx rfl (hb hby d1_26) kk_) ?_
      show own_Fin p.tables e below _ (s₁.setTop (mkF m 27 #[.val (.int ln), .val (.int c0), .val (.int c1), .val (.int c2)] [(.int (2 : Int32)), (.int ln)]))
      by_cases hc82 : ln = (2 : Int32)
      · skip
        refine own_go (fun _ kk_ => XS.icmpNo X0.here hx rfl (hb hby d1_27) rfl (teq hc82).2 kk_) ?_
        show own_Fin p.tables e below _ (s₁.setTop (mkF m 30 #[.val (.int ln), .val (.int c0), .val (.int c1), .val (.int c2)] []))
        obtain ⟨T83, h83, X83, e83, E83, A83, D83, -, st83⟩ := newO X0 hx hZ hown (hw _ (List.mem_of_getElem? (i := 10) rfl)) (hw _ (List.mem_of_getElem? (i := 11) rfl)) (hw _ (List.mem_of_getElem? (i := 12) rfl)) e0 (g := (mkF m 30 #[.val (.int ln), .val (.int c0), .val (.int c1), .val (.int c2)] [])) rfl (hb hby d1_30) (by decide) (by decide)
        obtain ⟨b83, g83⟩ : ∃ z, z = h0.size := ⟨_, rfl⟩
        rw [← g83] at A83 D83 st83
        have sz_b83 : h0.size ≤ b83 := Nat.le_trans K0.1 (Nat.le_of_eq g83.symm)
        have g_b83 : n0 ≤ b83 := Nat.le_trans Z0 sz_b83
        have S_b83 := Safe.new (Z := Z) (EL := consts_1) (vm := s.vm) (Nat.le_of_eq g83.symm)
        replace S_b83 := Safe.ext E83 CH S_b83
        replace CR := CR.trans (CHr.ext E83 CH)
        replace CH := CH.ext E83
        replace hk := Nat.le_trans hk E83.1
        replace O0 := O0.ext E83
        have K84 := K0.ext E83
        have F83_value : Fld Z h83 b83 "java/lang/String" "value" "[B" .null := D83 (Or.inr (hw _ (List.mem_of_getElem? (i := 26) rfl))) (ty := (.array .byte)) (by decide)
        have F83_coder : Fld Z h83 b83 "java/lang/String" "coder" "B" (.int (0 : Int32)) := D83 (Or.inr (hw _ (List.mem_of_getElem? (i := 27) rfl))) (ty := .byte) (by decide)
        refine own_go st83 ?_
        refine own_go (fun _ kk_ => XS.dup X83.here hx rfl (hb hby d1_33) rfl rfl kk_) ?_
        refine own_go (fun _ kk_ => XS.iconst X83.here hx rfl (hb hby d1_34) kk_) ?_
        show own_Fin p.tables e below _ (T83.setTop (mkF m 35 #[.val (.int ln), .val (.int c0), .val (.int c1), .val (.int c2)] [(.int (2 : Int32)), (.ref b83), (.ref b83)]))
        obtain ⟨T85, h85, k85, X85, e85, E85, A85, st85⟩ := newP X83 hx hZ (hw _ (List.mem_of_getElem? (i := 13) rfl)) e83 (g := (mkF m 35 #[.val (.int ln), .val (.int c0), .val (.int c1), .val (.int c2)] [(.int (2 : Int32)), (.ref b83), (.ref b83)])) rfl (hb hby d1_35) rfl (by decide) (cap := 2) (by decide) (by decide) (by decide) (by decide)
        obtain ⟨b85, g85⟩ : ∃ z, z = h83.size := ⟨_, rfl⟩
        rw [← g85] at A85 st85
        have sz_b85 : h0.size ≤ b85 := Nat.le_trans K84.1 (Nat.le_of_eq g85.symm)
        have g_b85 : n0 ≤ b85 := Nat.le_trans Z0 sz_b85
        have ne86 : b83 ≠ b85 := Nat.ne_of_lt (Nat.lt_of_lt_of_le A83.lt (Nat.le_of_eq g85.symm))
        have S_b85 := Safe.new (Z := Z) (EL := consts_1) (vm := s.vm) (Nat.le_of_eq g85.symm)
        replace S_b83 := Safe.ext E85 CH S_b83
        replace S_b85 := Safe.ext E85 CH S_b85
        replace CR := CR.trans (CHr.ext E85 CH)
        replace CH := CH.ext E85
        replace hk := Nat.le_trans hk E85.1
        replace O0 := O0.ext E85
        replace A83 := A83.ext E85
        replace F83_value := F83_value.ext E85
        replace F83_coder := F83_coder.ext E85
        have K87 := K84.ext E85
        have V85 : Arv Z h85 b85 k85 .char (2 : Int32) [(.int (0 : Int32)), (.int (0 : Int32))] (.int (0 : Int32)) := (Arv.new A85 (by decide)).pad (pad_rep [] (.int (0 : Int32)) 2)
        refine own_go st85 ?_
        refine own_go (fun _ kk_ => XS.dup X85.here hx rfl (hb hby d1_37) rfl rfl kk_) ?_
        refine own_go (fun _ kk_ => XS.iconst X85.here hx rfl (hb hby d1_38) kk_) ?_
        refine own_go (fun _ kk_ => XS.iloadN X85.here hx rfl (hb hby d1_39) rfl kk_) ?_
        show own_Fin p.tables e below _ (T85.setTop (mkF m 40 #[.val (.int ln), .val (.int c0), .val (.int c1), .val (.int c2)] [(.int c0), (.int (0 : Int32)), (.ref b85), (.ref b85), (.ref b83), (.ref b83)]))
        obtain ⟨T88, h88, X88, e88, W88, V88, st88⟩ := own_stC X85 hx hZ e85 V85 (by decide) (i := 0) rfl (Nat.le_of_ble_eq_true rfl) (g := (mkF m 40 #[.val (.int ln), .val (.int c0), .val (.int c1), .val (.int c2)] [(.int c0), (.int (0 : Int32)), (.ref b85), (.ref b85), (.ref b83), (.ref b83)])) rfl rfl (hb hby d1_40)
        rw [(own_narb hc0)] at V88
        replace V85 : Arv Z h88 b85 k85 .char (2 : Int32) [(.int c0), (.int (0 : Int32))] (.int (0 : Int32)) := V88
        have N88 := Fr.snoc X88 N0 g_b85
        refine own_go st88 ?_
        have sa89 := S_b85
        replace S_b83 := Safe.wr W88 sa89 CH S_b83
        replace S_b85 := Safe.wr W88 sa89 CH S_b85
        replace CR := CR.trans (CHr.wr W88 sa89 CH)
        replace CH := CHv.wr W88 sa89 CH
        replace hk := Nat.le_trans hk (Keep.of_wr W88).1
        replace O0 := O0.wr W88 g_b85
        replace A83 := A83.wr W88
        replace F83_value := F83_value.other W88 (Or.inl ne86)
        replace F83_coder := F83_coder.other W88 (Or.inl ne86)
        have K90 := K87.wr W88 (Or.inr sz_b85)
        refine own_go (fun _ kk_ => XS.dup X88.here hx rfl (hb hby d1_41) rfl rfl kk_) ?_
        refine own_go (fun _ kk_ => XS.iconst X88.here hx rfl (hb hby d1_42) kk_) ?_
        refine own_go (fun _ kk_ => XS.iloadN X88.here hx rfl (hb hby d1_43) rfl kk_) ?_
        show own_Fin p.tables e below _ (T88.setTop (mkF m 44 #[.val (.int ln), .val (.int c0), .val (.int c1), .val (.int c2)] [(.int c1), (.int (1 : Int32)), (.ref b85), (.ref b85), (.ref b83), (.ref b83)]))
        obtain ⟨T91, h91, X91, e91, W91, V91, st91⟩ := own_stC X88 hx hZ e88 V85 (by decide) (i := 1) rfl (Nat.le_of_ble_eq_true rfl) (g := (mkF m 44 #[.val (.int ln), .val (.int c0), .val (.int c1), .val (.int c2)] [(.int c1), (.int (1 : Int32)), (.ref b85), (.ref b85), (.ref b83), (.ref b83)])) rfl rfl (hb hby d1_44)
        rw [(own_narb hc1)] at V91
        replace V85 : Arv Z h91 b85 k85 .char (2 : Int32) [(.int c0), (.int c1)] (.int (0 : Int32)) := V91
        have N91 := Fr.snoc X91 N88 g_b85
        refine own_go st91 ?_
        have sa92 := S_b85
        replace S_b83 := Safe.wr W91 sa92 CH S_b83
        replace S_b85 := Safe.wr W91 sa92 CH S_b85
        replace CR := CR.trans (CHr.wr W91 sa92 CH)
        replace CH := CHv.wr W91 sa92 CH
        replace hk := Nat.le_trans hk (Keep.of_wr W91).1
        replace O0 := O0.wr W91 g_b85
        replace A83 := A83.wr W91
        replace F83_value := F83_value.other W91 (Or.inl ne86)
        replace F83_coder := F83_coder.other W91 (Or.inl ne86)
        have K93 := K90.wr W91 (Or.inr sz_b85)
        show own_Fin p.tables e below _ (T91.setTop (mkF m 45 #[.val (.int ln), .val (.int c0), .val (.int c1), .val (.int c2)] [(.ref b85), (.ref b83), (.ref b83)]))
        have hp95 : ∀ c ∈ ([c0, c1] : List Int32), ¬ c < 0 ∧ ¬ (255 : Int32) < c := by
          intro c hc
          simp only [List.mem_cons, List.not_mem_nil, or_false] at hc
          rcases hc with rfl | rfl
          · exact hc0
          · exact hc1
        obtain ⟨_, _, ⟨T94, L94, k94, n94⟩, -, X94, ⟨Lc94, hQ94, l94, y94, z94⟩, st94⟩ := X91.specialBack hx (y := (⟨"java/lang/String", "<init>", "([C)V"⟩ : MethodName)) rfl hown (mvT hZ (hw _ (List.mem_of_getElem? (i := 14) rfl))) (mvT hZ (hw _ (List.mem_of_getElem? (i := 15) rfl))) (mvT hZ (hw _ (List.mem_of_getElem? (i := 16) rfl))) (by decide) (StrChars.Road.backV (W := 1) hZ hws (kI := 4) (hw _ (List.mem_of_getElem? (i := 11) rfl)) (cs := ([c0, c1] : List Int32)) (bs := (([c0, c1] : List Int32)).map (fun c => c.toInt8.toInt32)) (n := 2) g_b83 (Nat.le_trans Z0 K93.1) A83 F83_value F83_coder V85 (S_C.ext O0.2) hcs rfl rfl (by decide) (by decide) hp95 rfl (by decide) (by decide)) (g := (mkF m 45 #[.val (.int ln), .val (.int c0), .val (.int c1), .val (.int c2)] [(.ref b85), (.ref b83), (.ref b83)])) rfl (by rw [hml]; rfl) (Steps.refl _) (a := b83) (argsL := [(.ref b85)]) (rest := [(.ref b83)]) (lenOf pd_11 rfl) rfl (by show 2 * 0 + _ ≤ _; exact Nat.le_of_eq rfl) (hb hby d1_45) (fun _ _ => ⟨rfl, e91, (by decide : 2 + 1 ≤ _), (by decide : 6 + 2 ≤ _)⟩)
        dsimp only [Pt.U, Pt.locs, Pt.cells, Pt.slots] at X94 l94 y94 z94 st94 hQ94
        subst l94 y94 z94
        obtain ⟨rfl, N94q, KK94, EE94, FC94, t94, kb94, gt94, szt94, netx94, FV94, VV94⟩ := hQ94
        have N94 := Fr.app N91 N94q
        have SS94 : own_Str Z T94.heap b83 t94 ([c0, c1] : List Int32) := ⟨_, _, _, _, EE94, FV94, FC94, VV94, StrChars.Road.codOf (n := 2) rfl (fun c hc => (hp95 c hc).2), own_up _ hp95, Nat.le_of_ble_eq_true rfl⟩
        have sz_t94 : h0.size ≤ t94 := Nat.le_trans K93.1 szt94
        have ne96 : b83 ≠ t94 := Nat.ne_of_lt (Nat.lt_of_lt_of_le A83.lt szt94)
        have ne97 : b85 ≠ t94 := Nat.ne_of_lt (Nat.lt_of_lt_of_le V85.lt szt94)
        have S_t94 := Safe.new (Z := Z) (EL := consts_1) (vm := s.vm) szt94
        have hs98 : ∀ x ∈ [b83], Safe Z consts_1 s.vm h91 x := (sfS S_b83 sf0)
        replace S_b83 := Safe.keep KK94 hs98 CH S_b83
        replace S_b85 := Safe.keep KK94 hs98 CH S_b85
        replace S_t94 := Safe.keep KK94 hs98 CH S_t94
        replace CR := CR.trans (CHr.keep KK94 hs98 CH)
        replace CH := CHv.keep KK94 hs98 CH
        replace hk := Nat.le_trans hk KK94.1
        replace O0 := O0.keep KK94 (allS g_b83 (all0))
        replace A83 := A83.keep KK94
        replace V85 := V85.keep KK94 (ninS (Ne.symm ne86) nin0)
        have K99 := K93.trans KK94 (allS (Or.inr sz_b83) all0)
        refine own_go (fun _ kk_ => st94.trans kk_) ?_
        show own_Fin p.tables e below _ (T94.setTop (mkF m 48 #[.val (.int ln), .val (.int c0), .val (.int c1), .val (.int c2)] [(.ref b83)]))
        have CRz : CHr Z consts_1 s.vm s.heap T94.vm T94.heap := by
          rw [hh]
          exact CR.trans (CHv.at X94 hZ hEL CH)
        refine own_retW X94 hx Bd hS hk (t := (.object "java/lang/String")) Bd.returns rfl (Or.inr (Or.inr (Or.inr (Or.inr ⟨rfl, rfl, rfl⟩)))) (hb hby d1_48) CRz ?_ (by decide) (by decide)
        show (Q_rm_mk Z ln c0 c1 c2 gc h0 n0) (some (.ref b83)) T94.heap _
        refine ⟨_, t94, rfl, N94, K99, ?_⟩
        have hq := SS94
        simpa [own_mk, hc70, hc78, hc82] using hq
      · skip
        refine own_go (fun _ kk_ => XS.icmpYes X0.here hx rfl (pc0 := 27) (pc' := 49) rfl (hb hby d1_27) rfl (feq hc82).2 (by decide) (by decide) kk_) ?_
        show own_Fin p.tables e below _ (s₁.setTop (mkF m 49 #[.val (.int ln), .val (.int c0), .val (.int c1), .val (.int c2)] []))
        obtain ⟨T100, h100, X100, e100, E100, A100, D100, -, st100⟩ := newO X0 hx hZ hown (hw _ (List.mem_of_getElem? (i := 10) rfl)) (hw _ (List.mem_of_getElem? (i := 11) rfl)) (hw _ (List.mem_of_getElem? (i := 12) rfl)) e0 (g := (mkF m 49 #[.val (.int ln), .val (.int c0), .val (.int c1), .val (.int c2)] [])) rfl (hb hby d1_49) (by decide) (by decide)
        obtain ⟨b100, g100⟩ : ∃ z, z = h0.size := ⟨_, rfl⟩
        rw [← g100] at A100 D100 st100
        have sz_b100 : h0.size ≤ b100 := Nat.le_trans K0.1 (Nat.le_of_eq g100.symm)
        have g_b100 : n0 ≤ b100 := Nat.le_trans Z0 sz_b100
        have S_b100 := Safe.new (Z := Z) (EL := consts_1) (vm := s.vm) (Nat.le_of_eq g100.symm)
        replace S_b100 := Safe.ext E100 CH S_b100
        replace CR := CR.trans (CHr.ext E100 CH)
        replace CH := CH.ext E100
        replace hk := Nat.le_trans hk E100.1
        replace O0 := O0.ext E100
        have K101 := K0.ext E100
        have F100_value : Fld Z h100 b100 "java/lang/String" "value" "[B" .null := D100 (Or.inr (hw _ (List.mem_of_getElem? (i := 26) rfl))) (ty := (.array .byte)) (by decide)
        have F100_coder : Fld Z h100 b100 "java/lang/String" "coder" "B" (.int (0 : Int32)) := D100 (Or.inr (hw _ (List.mem_of_getElem? (i := 27) rfl))) (ty := .byte) (by decide)
        refine own_go st100 ?_
        refine own_go (fun _ kk_ => XS.dup X100.here hx rfl (hb hby d1_52) rfl rfl kk_) ?_
        refine own_go (fun _ kk_ => XS.iconst X100.here hx rfl (hb hby d1_53) kk_) ?_
        show own_Fin p.tables e below _ (T100.setTop (mkF m 54 #[.val (.int ln), .val (.int c0), .val (.int c1), .val (.int c2)] [(.int (3 : Int32)), (.ref b100), (.ref b100)]))
        obtain ⟨T102, h102, k102, X102, e102, E102, A102, st102⟩ := newP X100 hx hZ (hw _ (List.mem_of_getElem? (i := 13) rfl)) e100 (g := (mkF m 54 #[.val (.int ln), .val (.int c0), .val (.int c1), .val (.int c2)] [(.int (3 : Int32)), (.ref b100), (.ref b100)])) rfl (hb hby d1_54) rfl (by decide) (cap := 3) (by decide) (by decide) (by decide) (by decide)
        obtain ⟨b102, g102⟩ : ∃ z, z = h100.size := ⟨_, rfl⟩
        rw [← g102] at A102 st102
        have sz_b102 : h0.size ≤ b102 := Nat.le_trans K101.1 (Nat.le_of_eq g102.symm)
        have g_b102 : n0 ≤ b102 := Nat.le_trans Z0 sz_b102
        have ne103 : b100 ≠ b102 := Nat.ne_of_lt (Nat.lt_of_lt_of_le A100.lt (Nat.le_of_eq g102.symm))
        have S_b102 := Safe.new (Z := Z) (EL := consts_1) (vm := s.vm) (Nat.le_of_eq g102.symm)
        replace S_b100 := Safe.ext E102 CH S_b100
        replace S_b102 := Safe.ext E102 CH S_b102
        replace CR := CR.trans (CHr.ext E102 CH)
        replace CH := CH.ext E102
        replace hk := Nat.le_trans hk E102.1
        replace O0 := O0.ext E102
        replace A100 := A100.ext E102
        replace F100_value := F100_value.ext E102
        replace F100_coder := F100_coder.ext E102
        have K104 := K101.ext E102
        have V102 : Arv Z h102 b102 k102 .char (3 : Int32) [(.int (0 : Int32)), (.int (0 : Int32)), (.int (0 : Int32))] (.int (0 : Int32)) := (Arv.new A102 (by decide)).pad (pad_rep [] (.int (0 : Int32)) 3)
        refine own_go st102 ?_
        refine own_go (fun _ kk_ => XS.dup X102.here hx rfl (hb hby d1_56) rfl rfl kk_) ?_
        refine own_go (fun _ kk_ => XS.iconst X102.here hx rfl (hb hby d1_57) kk_) ?_
        refine own_go (fun _ kk_ => XS.iloadN X102.here hx rfl (hb hby d1_58) rfl kk_) ?_
        show own_Fin p.tables e below _ (T102.setTop (mkF m 59 #[.val (.int ln), .val (.int c0), .val (.int c1), .val (.int c2)] [(.int c0), (.int (0 : Int32)), (.ref b102), (.ref b102), (.ref b100), (.ref b100)]))
        obtain ⟨T105, h105, X105, e105, W105, V105, st105⟩ := own_stC X102 hx hZ e102 V102 (by decide) (i := 0) rfl (Nat.le_of_ble_eq_true rfl) (g := (mkF m 59 #[.val (.int ln), .val (.int c0), .val (.int c1), .val (.int c2)] [(.int c0), (.int (0 : Int32)), (.ref b102), (.ref b102), (.ref b100), (.ref b100)])) rfl rfl (hb hby d1_59)
        rw [(own_narb hc0)] at V105
        replace V102 : Arv Z h105 b102 k102 .char (3 : Int32) [(.int c0), (.int (0 : Int32)), (.int (0 : Int32))] (.int (0 : Int32)) := V105
        have N105 := Fr.snoc X105 N0 g_b102
        refine own_go st105 ?_
        have sa106 := S_b102
        replace S_b100 := Safe.wr W105 sa106 CH S_b100
        replace S_b102 := Safe.wr W105 sa106 CH S_b102
        replace CR := CR.trans (CHr.wr W105 sa106 CH)
        replace CH := CHv.wr W105 sa106 CH
        replace hk := Nat.le_trans hk (Keep.of_wr W105).1
        replace O0 := O0.wr W105 g_b102
        replace A100 := A100.wr W105
        replace F100_value := F100_value.other W105 (Or.inl ne103)
        replace F100_coder := F100_coder.other W105 (Or.inl ne103)
        have K107 := K104.wr W105 (Or.inr sz_b102)
        refine own_go (fun _ kk_ => XS.dup X105.here hx rfl (hb hby d1_60) rfl rfl kk_) ?_
        refine own_go (fun _ kk_ => XS.iconst X105.here hx rfl (hb hby d1_61) kk_) ?_
        refine own_go (fun _ kk_ => XS.iloadN X105.here hx rfl (hb hby d1_62) rfl kk_) ?_
        show own_Fin p.tables e below _ (T105.setTop (mkF m 63 #[.val (.int ln), .val (.int c0), .val (.int c1), .val (.int c2)] [(.int c1), (.int (1 : Int32)), (.ref b102), (.ref b102), (.ref b100), (.ref b100)]))
        obtain ⟨T108, h108, X108, e108, W108, V108, st108⟩ := own_stC X105 hx hZ e105 V102 (by decide) (i := 1) rfl (Nat.le_of_ble_eq_true rfl) (g := (mkF m 63 #[.val (.int ln), .val (.int c0), .val (.int c1), .val (.int c2)] [(.int c1), (.int (1 : Int32)), (.ref b102), (.ref b102), (.ref b100), (.ref b100)])) rfl rfl (hb hby d1_63)
        rw [(own_narb hc1)] at V108
        replace V102 : Arv Z h108 b102 k102 .char (3 : Int32) [(.int c0), (.int c1), (.int (0 : Int32))] (.int (0 : Int32)) := V108
        have N108 := Fr.snoc X108 N105 g_b102
        refine own_go st108 ?_
        have sa109 := S_b102
        replace S_b100 := Safe.wr W108 sa109 CH S_b100
        replace S_b102 := Safe.wr W108 sa109 CH S_b102
        replace CR := CR.trans (CHr.wr W108 sa109 CH)
        replace CH := CHv.wr W108 sa109 CH
        replace hk := Nat.le_trans hk (Keep.of_wr W108).1
        replace O0 := O0.wr W108 g_b102
        replace A100 := A100.wr W108
        replace F100_value := F100_value.other W108 (Or.inl ne103)
        replace F100_coder := F100_coder.other W108 (Or.inl ne103)
        have K110 := K107.wr W108 (Or.inr sz_b102)
        refine own_go (fun _ kk_ => XS.dup X108.here hx rfl (hb hby d1_64) rfl rfl kk_) ?_
        refine own_go (fun _ kk_ => XS.iconst X108.here hx rfl (hb hby d1_65) kk_) ?_
        refine own_go (fun _ kk_ => XS.iloadN X108.here hx rfl (hb hby d1_66) rfl kk_) ?_
        show own_Fin p.tables e below _ (T108.setTop (mkF m 67 #[.val (.int ln), .val (.int c0), .val (.int c1), .val (.int c2)] [(.int c2), (.int (2 : Int32)), (.ref b102), (.ref b102), (.ref b100), (.ref b100)]))
        obtain ⟨T111, h111, X111, e111, W111, V111, st111⟩ := own_stC X108 hx hZ e108 V102 (by decide) (i := 2) rfl (Nat.le_of_ble_eq_true rfl) (g := (mkF m 67 #[.val (.int ln), .val (.int c0), .val (.int c1), .val (.int c2)] [(.int c2), (.int (2 : Int32)), (.ref b102), (.ref b102), (.ref b100), (.ref b100)])) rfl rfl (hb hby d1_67)
        rw [(own_narb hc2)] at V111
        replace V102 : Arv Z h111 b102 k102 .char (3 : Int32) [(.int c0), (.int c1), (.int c2)] (.int (0 : Int32)) := V111
        have N111 := Fr.snoc X111 N108 g_b102
        refine own_go st111 ?_
        have sa112 := S_b102
        replace S_b100 := Safe.wr W111 sa112 CH S_b100
        replace S_b102 := Safe.wr W111 sa112 CH S_b102
        replace CR := CR.trans (CHr.wr W111 sa112 CH)
        replace CH := CHv.wr W111 sa112 CH
        replace hk := Nat.le_trans hk (Keep.of_wr W111).1
        replace O0 := O0.wr W111 g_b102
        replace A100 := A100.wr W111
        replace F100_value := F100_value.other W111 (Or.inl ne103)
        replace F100_coder := F100_coder.other W111 (Or.inl ne103)
        have K113 := K110.wr W111 (Or.inr sz_b102)
        show own_Fin p.tables e below _ (T111.setTop (mkF m 68 #[.val (.int ln), .val (.int c0), .val (.int c1), .val (.int c2)] [(.ref b102), (.ref b100), (.ref b100)]))
        have hp115 : ∀ c ∈ ([c0, c1, c2] : List Int32), ¬ c < 0 ∧ ¬ (255 : Int32) < c := by
          intro c hc
          simp only [List.mem_cons, List.not_mem_nil, or_false] at hc
          rcases hc with rfl | rfl | rfl
          · exact hc0
          · exact hc1
          · exact hc2
        obtain ⟨_, _, ⟨T114, L114, k114, n114⟩, -, X114, ⟨Lc114, hQ114, l114, y114, z114⟩, st114⟩ := X111.specialBack hx (y := (⟨"java/lang/String", "<init>", "([C)V"⟩ : MethodName)) rfl hown (mvT hZ (hw _ (List.mem_of_getElem? (i := 14) rfl))) (mvT hZ (hw _ (List.mem_of_getElem? (i := 15) rfl))) (mvT hZ (hw _ (List.mem_of_getElem? (i := 16) rfl))) (by decide) (StrChars.Road.backV (W := 1) hZ hws (kI := 4) (hw _ (List.mem_of_getElem? (i := 11) rfl)) (cs := ([c0, c1, c2] : List Int32)) (bs := (([c0, c1, c2] : List Int32)).map (fun c => c.toInt8.toInt32)) (n := 3) g_b100 (Nat.le_trans Z0 K113.1) A100 F100_value F100_coder V102 (S_C.ext O0.2) hcs rfl rfl (by decide) (by decide) hp115 rfl (by decide) (by decide)) (g := (mkF m 68 #[.val (.int ln), .val (.int c0), .val (.int c1), .val (.int c2)] [(.ref b102), (.ref b100), (.ref b100)])) rfl (by rw [hml]; rfl) (Steps.refl _) (a := b100) (argsL := [(.ref b102)]) (rest := [(.ref b100)]) (lenOf pd_11 rfl) rfl (by show 2 * 0 + _ ≤ _; exact Nat.le_of_eq rfl) (hb hby d1_68) (fun _ _ => ⟨rfl, e111, (by decide : 2 + 1 ≤ _), (by decide : 7 + 3 ≤ _)⟩)
        dsimp only [Pt.U, Pt.locs, Pt.cells, Pt.slots] at X114 l114 y114 z114 st114 hQ114
        subst l114 y114 z114
        obtain ⟨rfl, N114q, KK114, EE114, FC114, t114, kb114, gt114, szt114, netx114, FV114, VV114⟩ := hQ114
        have N114 := Fr.app N111 N114q
        have SS114 : own_Str Z T114.heap b100 t114 ([c0, c1, c2] : List Int32) := ⟨_, _, _, _, EE114, FV114, FC114, VV114, StrChars.Road.codOf (n := 3) rfl (fun c hc => (hp115 c hc).2), own_up _ hp115, Nat.le_of_ble_eq_true rfl⟩
        have sz_t114 : h0.size ≤ t114 := Nat.le_trans K113.1 szt114
        have ne116 : b100 ≠ t114 := Nat.ne_of_lt (Nat.lt_of_lt_of_le A100.lt szt114)
        have ne117 : b102 ≠ t114 := Nat.ne_of_lt (Nat.lt_of_lt_of_le V102.lt szt114)
        have S_t114 := Safe.new (Z := Z) (EL := consts_1) (vm := s.vm) szt114
        have hs118 : ∀ x ∈ [b100], Safe Z consts_1 s.vm h111 x := (sfS S_b100 sf0)
        replace S_b100 := Safe.keep KK114 hs118 CH S_b100
        replace S_b102 := Safe.keep KK114 hs118 CH S_b102
        replace S_t114 := Safe.keep KK114 hs118 CH S_t114
        replace CR := CR.trans (CHr.keep KK114 hs118 CH)
        replace CH := CHv.keep KK114 hs118 CH
        replace hk := Nat.le_trans hk KK114.1
        replace O0 := O0.keep KK114 (allS g_b100 (all0))
        replace A100 := A100.keep KK114
        replace V102 := V102.keep KK114 (ninS (Ne.symm ne103) nin0)
        have K119 := K113.trans KK114 (allS (Or.inr sz_b100) all0)
        refine own_go (fun _ kk_ => st114.trans kk_) ?_
        show own_Fin p.tables e below _ (T114.setTop (mkF m 71 #[.val (.int ln), .val (.int c0), .val (.int c1), .val (.int c2)] [(.ref b100)]))
        have CRz : CHr Z consts_1 s.vm s.heap T114.vm T114.heap := by
          rw [hh]
          exact CR.trans (CHv.at X114 hZ hEL CH)
        refine own_retW X114 hx Bd hS hk (t := (.object "java/lang/String")) Bd.returns rfl (Or.inr (Or.inr (Or.inr (Or.inr ⟨rfl, rfl, rfl⟩)))) (hb hby d1_71) CRz ?_ (by decide) (by decide)
        show (Q_rm_mk Z ln c0 c1 c2 gc h0 n0) (some (.ref b100)) T114.heap _
        refine ⟨_, t114, rfl, N114, K119, ?_⟩
        have hq := SS114
        simpa [own_mk, hc70, hc78, hc82] using hq
def Q_rm_sm (Z : State) (l1 : Int32) (a0_ : Int32) (a1_ : Int32) (a2_ : Int32) (l2 : Int32) (b0_ : Int32) (b1_ : Int32) (b2_ : Int32) (h0 : Heap) (n0 : Nat) (v : Option Value) (h : Heap) (L : List Loc) : Prop := ∃ z : Int32, v = some (.int z) ∧ Fr n0 L ∧ h = h0 ∧ ((z = 1 ∧ own_same l1 a0_ a1_ a2_ l2 b0_ b1_ b2_) ∨ (z = 0 ∧ ¬ own_same l1 a0_ a1_ a2_ l2 b0_ b1_ b2_))
theorem ef_rm_sm (m : MethodId) (l1 : Int32) (a0_ : Int32) (a1_ : Int32) (a2_ : Int32) (l2 : Int32) (b0_ : Int32) (b1_ : Int32) (b2_ : Int32) : entryFrame m #[(.int l1), (.int a0_), (.int a1_), (.int a2_), (.int l2), (.int b0_), (.int b1_), (.int b2_)] 8 = mkF m 0 #[.val (.int l1), .val (.int a0_), .val (.int a1_), .val (.int a2_), .val (.int l2), .val (.int b0_), .val (.int b1_), .val (.int b2_)] [] := by first | (simp [entryFrame, mkF, argsToLocals, Value.category]; done) | rfl
set_option maxRecDepth 65536 in
set_option maxHeartbeats 40000000 in
theorem rm_sm (l : Launch) (Z : State) (a0 : Array Value) (hw : ∀ d ∈ tables_1, d.before a0 Z = true) (ws : List Jvm.Cond) (l1 : Int32) (a0_ : Int32) (a1_ : Int32) (a2_ : Int32) (l2 : Int32) (b0_ : Int32) (b1_ : Int32) (b2_ : Int32) (h0 : Heap) (n0 : Nat) (Z0 : n0 ≤ h0.size) :
    MetFree l (⟨"com/example/obra/obra/TokenIsPinLaw", "same", "(ICCCICCC)Z"⟩ : MethodName) (head1 (Jvm.Cond.code (⟨"com/example/obra/obra/TokenIsPinLaw", "same", "(ICCCICCC)Z"⟩ : MethodName) method_3_code 8 (some .boolean) :: ws) ({ frames := 0, cells := 0, slots := 0, locals := 0 } : Room)) (fun a_ U_ => a_ = #[(.int l1), (.int a0_), (.int a1_), (.int a2_), (.int l2), (.int b0_), (.int b1_), (.int b2_)] ∧ Z.Warmed39 U_.vm ∧ U_.heap = h0) (fun _ _ _ _ _ => True) (fun _ U_ o_ V_ => ∃ v_ L_, o_ = .returned v_ ∧ (Q_rm_sm Z l1 a0_ a1_ a2_ l2 b0_ b1_ b2_ h0 n0) v_ V_.heap L_ ∧ FrameEnd U_ o_ V_ L_ ({ frames := 0, cells := 0, slots := 0, locals := 0 } : Room).cells ({ frames := 0, cells := 0, slots := 0, locals := 0 } : Room).slots) := by
  refine MetFree.of_bodySF (plainFor_of_name pn_10) hisR ?_
  intro p e s m args below meth c s₁ Bd hml0 hP hK
  obtain ⟨rfl, hZ, hh⟩ := hP
  have hx := Bd.exec
  have hby := Bd.bytes
  have hml : c.maxLocals = 8 := hml0
  have hown : s.vm.findClass "com/example/obra/obra/TokenIsPinLaw" = some m.cls := findClass_of_methodNamed Bd.named
  have hnm := (name_of_methodNamed Bd.named Bd.method).1
  have X0 : Stand p l e ({ frames := 0, cells := 0, slots := 0, locals := 0 } : Room) s m #[(.int l1), (.int a0_), (.int a1_), (.int a2_), (.int l2), (.int b0_), (.int b1_), (.int b2_)] below meth c s₁ [] 0 0 := Stand.of_body Bd
  have e0 : s₁.heap = h0 := by rw [← hh, Bd.state]; rfl
  have N0 := Fr.nil n0
  have K0 : Keep h0 h0 [] := Keep.refl _ _
  show own_Fin p.tables e below (own_Post (Q_rm_sm Z l1 a0_ a1_ a2_ l2 b0_ b1_ b2_ h0 n0) ({ frames := 0, cells := 0, slots := 0, locals := 0 } : Room).cells ({ frames := 0, cells := 0, slots := 0, locals := 0 } : Room).slots below s) _
  refine own_go (fun _ kk_ => castTop (ef_rm_sm m l1 a0_ a1_ a2_ l2 b0_ b1_ b2_) kk_) ?_
  refine own_go (fun _ kk_ => XS.iloadN X0.here hx rfl (hb hby d11_0) rfl kk_) ?_
  refine own_go (fun _ kk_ => XS.iload X0.here hx rfl (hb hby d11_1) rfl kk_) ?_
  show own_Fin p.tables e below _ (s₁.setTop (mkF m 3 #[.val (.int l1), .val (.int a0_), .val (.int a1_), .val (.int a2_), .val (.int l2), .val (.int b0_), .val (.int b1_), .val (.int b2_)] [(.int l2), (.int l1)]))
  by_cases hc120 : l1 = l2
  · skip
    refine own_go (fun _ kk_ => XS.icmpNo X0.here hx rfl (hb hby d11_3) rfl (teq hc120).2 kk_) ?_
    refine own_go (fun _ kk_ => XS.iloadN X0.here hx rfl (hb hby d11_6) rfl kk_) ?_
    refine own_go (fun _ kk_ => XS.iconst X0.here hx rfl (hb hby d11_7) kk_) ?_
    show own_Fin p.tables e below _ (s₁.setTop (mkF m 8 #[.val (.int l1), .val (.int a0_), .val (.int a1_), .val (.int a2_), .val (.int l2), .val (.int b0_), .val (.int b1_), .val (.int b2_)] [(.int (1 : Int32)), (.int l1)]))
    by_cases hc121 : l1 < (1 : Int32)
    · skip
      refine own_go (fun _ kk_ => XS.icmpYes X0.here hx rfl (pc0 := 8) (pc' := 17) rfl (hb hby d11_8) rfl (tlt hc121).1 (by decide) (by decide) kk_) ?_
      refine own_go (fun _ kk_ => XS.iloadN X0.here hx rfl (hb hby d11_17) rfl kk_) ?_
      refine own_go (fun _ kk_ => XS.iconst X0.here hx rfl (hb hby d11_18) kk_) ?_
      show own_Fin p.tables e below _ (s₁.setTop (mkF m 19 #[.val (.int l1), .val (.int a0_), .val (.int a1_), .val (.int a2_), .val (.int l2), .val (.int b0_), .val (.int b1_), .val (.int b2_)] [(.int (2 : Int32)), (.int l1)]))
      by_cases hc122 : l1 < (2 : Int32)
      · skip
        refine own_go (fun _ kk_ => XS.icmpYes X0.here hx rfl (pc0 := 19) (pc' := 28) rfl (hb hby d11_19) rfl (tlt hc122).1 (by decide) (by decide) kk_) ?_
        refine own_go (fun _ kk_ => XS.iloadN X0.here hx rfl (hb hby d11_28) rfl kk_) ?_
        refine own_go (fun _ kk_ => XS.iconst X0.here hx rfl (hb hby d11_29) kk_) ?_
        show own_Fin p.tables e below _ (s₁.setTop (mkF m 30 #[.val (.int l1), .val (.int a0_), .val (.int a1_), .val (.int a2_), .val (.int l2), .val (.int b0_), .val (.int b1_), .val (.int b2_)] [(.int (3 : Int32)), (.int l1)]))
        by_cases hc123 : l1 < (3 : Int32)
        · skip
          refine own_go (fun _ kk_ => XS.icmpYes X0.here hx rfl (pc0 := 30) (pc' := 39) rfl (hb hby d11_30) rfl (tlt hc123).1 (by decide) (by decide) kk_) ?_
          refine own_go (fun _ kk_ => XS.iconst X0.here hx rfl (hb hby d11_39) kk_) ?_
          refine own_go (fun _ kk_ => XS.goto X0.here hx rfl (pc0 := 40) (pc' := 44) rfl (hb hby d11_40) (by decide) (by decide) kk_) ?_
          show own_Fin p.tables e below _ (s₁.setTop (mkF m 44 #[.val (.int l1), .val (.int a0_), .val (.int a1_), .val (.int a2_), .val (.int l2), .val (.int b0_), .val (.int b1_), .val (.int b2_)] [(.int (1 : Int32))]))
          refine own_retI X0 hx Bd (t := .boolean) Bd.returns rfl (by simp) (hb hby d11_44) ?_ (by decide) (by decide)
          show (Q_rm_sm Z l1 a0_ a1_ a2_ l2 b0_ b1_ b2_ h0 n0) (some (.int (1 : Int32))) s₁.heap _
          rw [e0]
          refine ⟨_, rfl, N0, rfl, ?_⟩
          exact Or.inl ⟨rfl, hc120, Or.inl hc121, Or.inl hc122, Or.inl hc123⟩
        · skip
          refine own_go (fun _ kk_ => XS.icmpNo X0.here hx rfl (hb hby d11_30) rfl (flt hc123).1 kk_) ?_
          refine own_go (fun _ kk_ => XS.iloadN X0.here hx rfl (hb hby d11_33) rfl kk_) ?_
          refine own_go (fun _ kk_ => XS.iload X0.here hx rfl (hb hby d11_34) rfl kk_) ?_
          show own_Fin p.tables e below _ (s₁.setTop (mkF m 36 #[.val (.int l1), .val (.int a0_), .val (.int a1_), .val (.int a2_), .val (.int l2), .val (.int b0_), .val (.int b1_), .val (.int b2_)] [(.int b2_), (.int a2_)]))
          by_cases hc124 : a2_ = b2_
          · skip
            refine own_go (fun _ kk_ => XS.icmpNo X0.here hx rfl (hb hby d11_36) rfl (teq hc124).2 kk_) ?_
            refine own_go (fun _ kk_ => XS.iconst X0.here hx rfl (hb hby d11_39) kk_) ?_
            refine own_go (fun _ kk_ => XS.goto X0.here hx rfl (pc0 := 40) (pc' := 44) rfl (hb hby d11_40) (by decide) (by decide) kk_) ?_
            show own_Fin p.tables e below _ (s₁.setTop (mkF m 44 #[.val (.int l1), .val (.int a0_), .val (.int a1_), .val (.int a2_), .val (.int l2), .val (.int b0_), .val (.int b1_), .val (.int b2_)] [(.int (1 : Int32))]))
            refine own_retI X0 hx Bd (t := .boolean) Bd.returns rfl (by simp) (hb hby d11_44) ?_ (by decide) (by decide)
            show (Q_rm_sm Z l1 a0_ a1_ a2_ l2 b0_ b1_ b2_ h0 n0) (some (.int (1 : Int32))) s₁.heap _
            rw [e0]
            refine ⟨_, rfl, N0, rfl, ?_⟩
            exact Or.inl ⟨rfl, hc120, Or.inl hc121, Or.inl hc122, Or.inr hc124⟩
          · skip
            refine own_go (fun _ kk_ => XS.icmpYes X0.here hx rfl (pc0 := 36) (pc' := 43) rfl (hb hby d11_36) rfl (feq hc124).2 (by decide) (by decide) kk_) ?_
            refine own_go (fun _ kk_ => XS.iconst X0.here hx rfl (hb hby d11_43) kk_) ?_
            show own_Fin p.tables e below _ (s₁.setTop (mkF m 44 #[.val (.int l1), .val (.int a0_), .val (.int a1_), .val (.int a2_), .val (.int l2), .val (.int b0_), .val (.int b1_), .val (.int b2_)] [(.int (0 : Int32))]))
            refine own_retI X0 hx Bd (t := .boolean) Bd.returns rfl (by simp) (hb hby d11_44) ?_ (by decide) (by decide)
            show (Q_rm_sm Z l1 a0_ a1_ a2_ l2 b0_ b1_ b2_ h0 n0) (some (.int (0 : Int32))) s₁.heap _
            rw [e0]
            refine ⟨_, rfl, N0, rfl, ?_⟩
            exact Or.inr ⟨rfl, fun q => q.2.2.2.elim hc123 hc124⟩
      · skip
        refine own_go (fun _ kk_ => XS.icmpNo X0.here hx rfl (hb hby d11_19) rfl (flt hc122).1 kk_) ?_
        refine own_go (fun _ kk_ => XS.iloadN X0.here hx rfl (hb hby d11_22) rfl kk_) ?_
        refine own_go (fun _ kk_ => XS.iload X0.here hx rfl (hb hby d11_23) rfl kk_) ?_
        show own_Fin p.tables e below _ (s₁.setTop (mkF m 25 #[.val (.int l1), .val (.int a0_), .val (.int a1_), .val (.int a2_), .val (.int l2), .val (.int b0_), .val (.int b1_), .val (.int b2_)] [(.int b1_), (.int a1_)]))
        by_cases hc125 : a1_ = b1_
        · skip
          refine own_go (fun _ kk_ => XS.icmpNo X0.here hx rfl (hb hby d11_25) rfl (teq hc125).2 kk_) ?_
          refine own_go (fun _ kk_ => XS.iloadN X0.here hx rfl (hb hby d11_28) rfl kk_) ?_
          refine own_go (fun _ kk_ => XS.iconst X0.here hx rfl (hb hby d11_29) kk_) ?_
          show own_Fin p.tables e below _ (s₁.setTop (mkF m 30 #[.val (.int l1), .val (.int a0_), .val (.int a1_), .val (.int a2_), .val (.int l2), .val (.int b0_), .val (.int b1_), .val (.int b2_)] [(.int (3 : Int32)), (.int l1)]))
          by_cases hc126 : l1 < (3 : Int32)
          · skip
            refine own_go (fun _ kk_ => XS.icmpYes X0.here hx rfl (pc0 := 30) (pc' := 39) rfl (hb hby d11_30) rfl (tlt hc126).1 (by decide) (by decide) kk_) ?_
            refine own_go (fun _ kk_ => XS.iconst X0.here hx rfl (hb hby d11_39) kk_) ?_
            refine own_go (fun _ kk_ => XS.goto X0.here hx rfl (pc0 := 40) (pc' := 44) rfl (hb hby d11_40) (by decide) (by decide) kk_) ?_
            show own_Fin p.tables e below _ (s₁.setTop (mkF m 44 #[.val (.int l1), .val (.int a0_), .val (.int a1_), .val (.int a2_), .val (.int l2), .val (.int b0_), .val (.int b1_), .val (.int b2_)] [(.int (1 : Int32))]))
            refine own_retI X0 hx Bd (t := .boolean) Bd.returns rfl (by simp) (hb hby d11_44) ?_ (by decide) (by decide)
            show (Q_rm_sm Z l1 a0_ a1_ a2_ l2 b0_ b1_ b2_ h0 n0) (some (.int (1 : Int32))) s₁.heap _
            rw [e0]
            refine ⟨_, rfl, N0, rfl, ?_⟩
            exact Or.inl ⟨rfl, hc120, Or.inl hc121, Or.inr hc125, Or.inl hc126⟩
          · skip
            refine own_go (fun _ kk_ => XS.icmpNo X0.here hx rfl (hb hby d11_30) rfl (flt hc126).1 kk_) ?_
            refine own_go (fun _ kk_ => XS.iloadN X0.here hx rfl (hb hby d11_33) rfl kk_) ?_
            refine own_go (fun _ kk_ => XS.iload X0.here hx rfl (hb hby d11_34) rfl kk_) ?_
            show own_Fin p.tables e below _ (s₁.setTop (mkF m 36 #[.val (.int l1), .val (.int a0_), .val (.int a1_), .val (.int a2_), .val (.int l2), .val (.int b0_), .val (.int b1_), .val (.int b2_)] [(.int b2_), (.int a2_)]))
            by_cases hc127 : a2_ = b2_
            · skip
              refine own_go (fun _ kk_ => XS.icmpNo X0.here hx rfl (hb hby d11_36) rfl (teq hc127).2 kk_) ?_
              refine own_go (fun _ kk_ => XS.iconst X0.here hx rfl (hb hby d11_39) kk_) ?_
              refine own_go (fun _ kk_ => XS.goto X0.here hx rfl (pc0 := 40) (pc' := 44) rfl (hb hby d11_40) (by decide) (by decide) kk_) ?_
              show own_Fin p.tables e below _ (s₁.setTop (mkF m 44 #[.val (.int l1), .val (.int a0_), .val (.int a1_), .val (.int a2_), .val (.int l2), .val (.int b0_), .val (.int b1_), .val (.int b2_)] [(.int (1 : Int32))]))
              refine own_retI X0 hx Bd (t := .boolean) Bd.returns rfl (by simp) (hb hby d11_44) ?_ (by decide) (by decide)
              show (Q_rm_sm Z l1 a0_ a1_ a2_ l2 b0_ b1_ b2_ h0 n0) (some (.int (1 : Int32))) s₁.heap _
              rw [e0]
              refine ⟨_, rfl, N0, rfl, ?_⟩
              exact Or.inl ⟨rfl, hc120, Or.inl hc121, Or.inr hc125, Or.inr hc127⟩
            · skip
              refine own_go (fun _ kk_ => XS.icmpYes X0.here hx rfl (pc0 := 36) (pc' := 43) rfl (hb hby d11_36) rfl (feq hc127).2 (by decide) (by decide) kk_) ?_
              refine own_go (fun _ kk_ => XS.iconst X0.here hx rfl (hb hby d11_43) kk_) ?_
              show own_Fin p.tables e below _ (s₁.setTop (mkF m 44 #[.val (.int l1), .val (.int a0_), .val (.int a1_), .val (.int a2_), .val (.int l2), .val (.int b0_), .val (.int b1_), .val (.int b2_)] [(.int (0 : Int32))]))
              refine own_retI X0 hx Bd (t := .boolean) Bd.returns rfl (by simp) (hb hby d11_44) ?_ (by decide) (by decide)
              show (Q_rm_sm Z l1 a0_ a1_ a2_ l2 b0_ b1_ b2_ h0 n0) (some (.int (0 : Int32))) s₁.heap _
              rw [e0]
              refine ⟨_, rfl, N0, rfl, ?_⟩
              exact Or.inr ⟨rfl, fun q => q.2.2.2.elim hc126 hc127⟩
        · skip
          refine own_go (fun _ kk_ => XS.icmpYes X0.here hx rfl (pc0 := 25) (pc' := 43) rfl (hb hby d11_25) rfl (feq hc125).2 (by decide) (by decide) kk_) ?_
          refine own_go (fun _ kk_ => XS.iconst X0.here hx rfl (hb hby d11_43) kk_) ?_
          show own_Fin p.tables e below _ (s₁.setTop (mkF m 44 #[.val (.int l1), .val (.int a0_), .val (.int a1_), .val (.int a2_), .val (.int l2), .val (.int b0_), .val (.int b1_), .val (.int b2_)] [(.int (0 : Int32))]))
          refine own_retI X0 hx Bd (t := .boolean) Bd.returns rfl (by simp) (hb hby d11_44) ?_ (by decide) (by decide)
          show (Q_rm_sm Z l1 a0_ a1_ a2_ l2 b0_ b1_ b2_ h0 n0) (some (.int (0 : Int32))) s₁.heap _
          rw [e0]
          refine ⟨_, rfl, N0, rfl, ?_⟩
          exact Or.inr ⟨rfl, fun q => q.2.2.1.elim hc122 hc125⟩
    · skip
      refine own_go (fun _ kk_ => XS.icmpNo X0.here hx rfl (hb hby d11_8) rfl (flt hc121).1 kk_) ?_
      refine own_go (fun _ kk_ => XS.iloadN X0.here hx rfl (hb hby d11_11) rfl kk_) ?_
      refine own_go (fun _ kk_ => XS.iload X0.here hx rfl (hb hby d11_12) rfl kk_) ?_
      show own_Fin p.tables e below _ (s₁.setTop (mkF m 14 #[.val (.int l1), .val (.int a0_), .val (.int a1_), .val (.int a2_), .val (.int l2), .val (.int b0_), .val (.int b1_), .val (.int b2_)] [(.int b0_), (.int a0_)]))
      by_cases hc128 : a0_ = b0_
      · skip
        refine own_go (fun _ kk_ => XS.icmpNo X0.here hx rfl (hb hby d11_14) rfl (teq hc128).2 kk_) ?_
        refine own_go (fun _ kk_ => XS.iloadN X0.here hx rfl (hb hby d11_17) rfl kk_) ?_
        refine own_go (fun _ kk_ => XS.iconst X0.here hx rfl (hb hby d11_18) kk_) ?_
        show own_Fin p.tables e below _ (s₁.setTop (mkF m 19 #[.val (.int l1), .val (.int a0_), .val (.int a1_), .val (.int a2_), .val (.int l2), .val (.int b0_), .val (.int b1_), .val (.int b2_)] [(.int (2 : Int32)), (.int l1)]))
        by_cases hc129 : l1 < (2 : Int32)
        · skip
          refine own_go (fun _ kk_ => XS.icmpYes X0.here hx rfl (pc0 := 19) (pc' := 28) rfl (hb hby d11_19) rfl (tlt hc129).1 (by decide) (by decide) kk_) ?_
          refine own_go (fun _ kk_ => XS.iloadN X0.here hx rfl (hb hby d11_28) rfl kk_) ?_
          refine own_go (fun _ kk_ => XS.iconst X0.here hx rfl (hb hby d11_29) kk_) ?_
          show own_Fin p.tables e below _ (s₁.setTop (mkF m 30 #[.val (.int l1), .val (.int a0_), .val (.int a1_), .val (.int a2_), .val (.int l2), .val (.int b0_), .val (.int b1_), .val (.int b2_)] [(.int (3 : Int32)), (.int l1)]))
          by_cases hc130 : l1 < (3 : Int32)
          · skip
            refine own_go (fun _ kk_ => XS.icmpYes X0.here hx rfl (pc0 := 30) (pc' := 39) rfl (hb hby d11_30) rfl (tlt hc130).1 (by decide) (by decide) kk_) ?_
            refine own_go (fun _ kk_ => XS.iconst X0.here hx rfl (hb hby d11_39) kk_) ?_
            refine own_go (fun _ kk_ => XS.goto X0.here hx rfl (pc0 := 40) (pc' := 44) rfl (hb hby d11_40) (by decide) (by decide) kk_) ?_
            show own_Fin p.tables e below _ (s₁.setTop (mkF m 44 #[.val (.int l1), .val (.int a0_), .val (.int a1_), .val (.int a2_), .val (.int l2), .val (.int b0_), .val (.int b1_), .val (.int b2_)] [(.int (1 : Int32))]))
            refine own_retI X0 hx Bd (t := .boolean) Bd.returns rfl (by simp) (hb hby d11_44) ?_ (by decide) (by decide)
            show (Q_rm_sm Z l1 a0_ a1_ a2_ l2 b0_ b1_ b2_ h0 n0) (some (.int (1 : Int32))) s₁.heap _
            rw [e0]
            refine ⟨_, rfl, N0, rfl, ?_⟩
            exact Or.inl ⟨rfl, hc120, Or.inr hc128, Or.inl hc129, Or.inl hc130⟩
          · skip
            refine own_go (fun _ kk_ => XS.icmpNo X0.here hx rfl (hb hby d11_30) rfl (flt hc130).1 kk_) ?_
            refine own_go (fun _ kk_ => XS.iloadN X0.here hx rfl (hb hby d11_33) rfl kk_) ?_
            refine own_go (fun _ kk_ => XS.iload X0.here hx rfl (hb hby d11_34) rfl kk_) ?_
            show own_Fin p.tables e below _ (s₁.setTop (mkF m 36 #[.val (.int l1), .val (.int a0_), .val (.int a1_), .val (.int a2_), .val (.int l2), .val (.int b0_), .val (.int b1_), .val (.int b2_)] [(.int b2_), (.int a2_)]))
            by_cases hc131 : a2_ = b2_
            · skip
              refine own_go (fun _ kk_ => XS.icmpNo X0.here hx rfl (hb hby d11_36) rfl (teq hc131).2 kk_) ?_
              refine own_go (fun _ kk_ => XS.iconst X0.here hx rfl (hb hby d11_39) kk_) ?_
              refine own_go (fun _ kk_ => XS.goto X0.here hx rfl (pc0 := 40) (pc' := 44) rfl (hb hby d11_40) (by decide) (by decide) kk_) ?_
              show own_Fin p.tables e below _ (s₁.setTop (mkF m 44 #[.val (.int l1), .val (.int a0_), .val (.int a1_), .val (.int a2_), .val (.int l2), .val (.int b0_), .val (.int b1_), .val (.int b2_)] [(.int (1 : Int32))]))
              refine own_retI X0 hx Bd (t := .boolean) Bd.returns rfl (by simp) (hb hby d11_44) ?_ (by decide) (by decide)
              show (Q_rm_sm Z l1 a0_ a1_ a2_ l2 b0_ b1_ b2_ h0 n0) (some (.int (1 : Int32))) s₁.heap _
              rw [e0]
              refine ⟨_, rfl, N0, rfl, ?_⟩
              exact Or.inl ⟨rfl, hc120, Or.inr hc128, Or.inl hc129, Or.inr hc131⟩
            · skip
              refine own_go (fun _ kk_ => XS.icmpYes X0.here hx rfl (pc0 := 36) (pc' := 43) rfl (hb hby d11_36) rfl (feq hc131).2 (by decide) (by decide) kk_) ?_
              refine own_go (fun _ kk_ => XS.iconst X0.here hx rfl (hb hby d11_43) kk_) ?_
              show own_Fin p.tables e below _ (s₁.setTop (mkF m 44 #[.val (.int l1), .val (.int a0_), .val (.int a1_), .val (.int a2_), .val (.int l2), .val (.int b0_), .val (.int b1_), .val (.int b2_)] [(.int (0 : Int32))]))
              refine own_retI X0 hx Bd (t := .boolean) Bd.returns rfl (by simp) (hb hby d11_44) ?_ (by decide) (by decide)
              show (Q_rm_sm Z l1 a0_ a1_ a2_ l2 b0_ b1_ b2_ h0 n0) (some (.int (0 : Int32))) s₁.heap _
              rw [e0]
              refine ⟨_, rfl, N0, rfl, ?_⟩
              exact Or.inr ⟨rfl, fun q => q.2.2.2.elim hc130 hc131⟩
        · skip
          refine own_go (fun _ kk_ => XS.icmpNo X0.here hx rfl (hb hby d11_19) rfl (flt hc129).1 kk_) ?_
          refine own_go (fun _ kk_ => XS.iloadN X0.here hx rfl (hb hby d11_22) rfl kk_) ?_
          refine own_go (fun _ kk_ => XS.iload X0.here hx rfl (hb hby d11_23) rfl kk_) ?_
          show own_Fin p.tables e below _ (s₁.setTop (mkF m 25 #[.val (.int l1), .val (.int a0_), .val (.int a1_), .val (.int a2_), .val (.int l2), .val (.int b0_), .val (.int b1_), .val (.int b2_)] [(.int b1_), (.int a1_)]))
          by_cases hc132 : a1_ = b1_
          · skip
            refine own_go (fun _ kk_ => XS.icmpNo X0.here hx rfl (hb hby d11_25) rfl (teq hc132).2 kk_) ?_
            refine own_go (fun _ kk_ => XS.iloadN X0.here hx rfl (hb hby d11_28) rfl kk_) ?_
            refine own_go (fun _ kk_ => XS.iconst X0.here hx rfl (hb hby d11_29) kk_) ?_
            show own_Fin p.tables e below _ (s₁.setTop (mkF m 30 #[.val (.int l1), .val (.int a0_), .val (.int a1_), .val (.int a2_), .val (.int l2), .val (.int b0_), .val (.int b1_), .val (.int b2_)] [(.int (3 : Int32)), (.int l1)]))
            by_cases hc133 : l1 < (3 : Int32)
            · skip
              refine own_go (fun _ kk_ => XS.icmpYes X0.here hx rfl (pc0 := 30) (pc' := 39) rfl (hb hby d11_30) rfl (tlt hc133).1 (by decide) (by decide) kk_) ?_
              refine own_go (fun _ kk_ => XS.iconst X0.here hx rfl (hb hby d11_39) kk_) ?_
              refine own_go (fun _ kk_ => XS.goto X0.here hx rfl (pc0 := 40) (pc' := 44) rfl (hb hby d11_40) (by decide) (by decide) kk_) ?_
              show own_Fin p.tables e below _ (s₁.setTop (mkF m 44 #[.val (.int l1), .val (.int a0_), .val (.int a1_), .val (.int a2_), .val (.int l2), .val (.int b0_), .val (.int b1_), .val (.int b2_)] [(.int (1 : Int32))]))
              refine own_retI X0 hx Bd (t := .boolean) Bd.returns rfl (by simp) (hb hby d11_44) ?_ (by decide) (by decide)
              show (Q_rm_sm Z l1 a0_ a1_ a2_ l2 b0_ b1_ b2_ h0 n0) (some (.int (1 : Int32))) s₁.heap _
              rw [e0]
              refine ⟨_, rfl, N0, rfl, ?_⟩
              exact Or.inl ⟨rfl, hc120, Or.inr hc128, Or.inr hc132, Or.inl hc133⟩
            · skip
              refine own_go (fun _ kk_ => XS.icmpNo X0.here hx rfl (hb hby d11_30) rfl (flt hc133).1 kk_) ?_
              refine own_go (fun _ kk_ => XS.iloadN X0.here hx rfl (hb hby d11_33) rfl kk_) ?_
              refine own_go (fun _ kk_ => XS.iload X0.here hx rfl (hb hby d11_34) rfl kk_) ?_
              show own_Fin p.tables e below _ (s₁.setTop (mkF m 36 #[.val (.int l1), .val (.int a0_), .val (.int a1_), .val (.int a2_), .val (.int l2), .val (.int b0_), .val (.int b1_), .val (.int b2_)] [(.int b2_), (.int a2_)]))
              by_cases hc134 : a2_ = b2_
              · skip
                refine own_go (fun _ kk_ => XS.icmpNo X0.here hx rfl (hb hby d11_36) rfl (teq hc134).2 kk_) ?_
                refine own_go (fun _ kk_ => XS.iconst X0.here hx rfl (hb hby d11_39) kk_) ?_
                refine own_go (fun _ kk_ => XS.goto X0.here hx rfl (pc0 := 40) (pc' := 44) rfl (hb hby d11_40) (by decide) (by decide) kk_) ?_
                show own_Fin p.tables e below _ (s₁.setTop (mkF m 44 #[.val (.int l1), .val (.int a0_), .val (.int a1_), .val (.int a2_), .val (.int l2), .val (.int b0_), .val (.int b1_), .val (.int b2_)] [(.int (1 : Int32))]))
                refine own_retI X0 hx Bd (t := .boolean) Bd.returns rfl (by simp) (hb hby d11_44) ?_ (by decide) (by decide)
                show (Q_rm_sm Z l1 a0_ a1_ a2_ l2 b0_ b1_ b2_ h0 n0) (some (.int (1 : Int32))) s₁.heap _
                rw [e0]
                refine ⟨_, rfl, N0, rfl, ?_⟩
                exact Or.inl ⟨rfl, hc120, Or.inr hc128, Or.inr hc132, Or.inr hc134⟩
              · skip
                refine own_go (fun _ kk_ => XS.icmpYes X0.here hx rfl (pc0 := 36) (pc' := 43) rfl (hb hby d11_36) rfl (feq hc134).2 (by decide) (by decide) kk_) ?_
                refine own_go (fun _ kk_ => XS.iconst X0.here hx rfl (hb hby d11_43) kk_) ?_
                show own_Fin p.tables e below _ (s₁.setTop (mkF m 44 #[.val (.int l1), .val (.int a0_), .val (.int a1_), .val (.int a2_), .val (.int l2), .val (.int b0_), .val (.int b1_), .val (.int b2_)] [(.int (0 : Int32))]))
                refine own_retI X0 hx Bd (t := .boolean) Bd.returns rfl (by simp) (hb hby d11_44) ?_ (by decide) (by decide)
                show (Q_rm_sm Z l1 a0_ a1_ a2_ l2 b0_ b1_ b2_ h0 n0) (some (.int (0 : Int32))) s₁.heap _
                rw [e0]
                refine ⟨_, rfl, N0, rfl, ?_⟩
                exact Or.inr ⟨rfl, fun q => q.2.2.2.elim hc133 hc134⟩
          · skip
            refine own_go (fun _ kk_ => XS.icmpYes X0.here hx rfl (pc0 := 25) (pc' := 43) rfl (hb hby d11_25) rfl (feq hc132).2 (by decide) (by decide) kk_) ?_
            refine own_go (fun _ kk_ => XS.iconst X0.here hx rfl (hb hby d11_43) kk_) ?_
            show own_Fin p.tables e below _ (s₁.setTop (mkF m 44 #[.val (.int l1), .val (.int a0_), .val (.int a1_), .val (.int a2_), .val (.int l2), .val (.int b0_), .val (.int b1_), .val (.int b2_)] [(.int (0 : Int32))]))
            refine own_retI X0 hx Bd (t := .boolean) Bd.returns rfl (by simp) (hb hby d11_44) ?_ (by decide) (by decide)
            show (Q_rm_sm Z l1 a0_ a1_ a2_ l2 b0_ b1_ b2_ h0 n0) (some (.int (0 : Int32))) s₁.heap _
            rw [e0]
            refine ⟨_, rfl, N0, rfl, ?_⟩
            exact Or.inr ⟨rfl, fun q => q.2.2.1.elim hc129 hc132⟩
      · skip
        refine own_go (fun _ kk_ => XS.icmpYes X0.here hx rfl (pc0 := 14) (pc' := 43) rfl (hb hby d11_14) rfl (feq hc128).2 (by decide) (by decide) kk_) ?_
        refine own_go (fun _ kk_ => XS.iconst X0.here hx rfl (hb hby d11_43) kk_) ?_
        show own_Fin p.tables e below _ (s₁.setTop (mkF m 44 #[.val (.int l1), .val (.int a0_), .val (.int a1_), .val (.int a2_), .val (.int l2), .val (.int b0_), .val (.int b1_), .val (.int b2_)] [(.int (0 : Int32))]))
        refine own_retI X0 hx Bd (t := .boolean) Bd.returns rfl (by simp) (hb hby d11_44) ?_ (by decide) (by decide)
        show (Q_rm_sm Z l1 a0_ a1_ a2_ l2 b0_ b1_ b2_ h0 n0) (some (.int (0 : Int32))) s₁.heap _
        rw [e0]
        refine ⟨_, rfl, N0, rfl, ?_⟩
        exact Or.inr ⟨rfl, fun q => q.2.1.elim hc121 hc128⟩
  · skip
    refine own_go (fun _ kk_ => XS.icmpYes X0.here hx rfl (pc0 := 3) (pc' := 43) rfl (hb hby d11_3) rfl (feq hc120).2 (by decide) (by decide) kk_) ?_
    refine own_go (fun _ kk_ => XS.iconst X0.here hx rfl (hb hby d11_43) kk_) ?_
    show own_Fin p.tables e below _ (s₁.setTop (mkF m 44 #[.val (.int l1), .val (.int a0_), .val (.int a1_), .val (.int a2_), .val (.int l2), .val (.int b0_), .val (.int b1_), .val (.int b2_)] [(.int (0 : Int32))]))
    refine own_retI X0 hx Bd (t := .boolean) Bd.returns rfl (by simp) (hb hby d11_44) ?_ (by decide) (by decide)
    show (Q_rm_sm Z l1 a0_ a1_ a2_ l2 b0_ b1_ b2_ h0 n0) (some (.int (0 : Int32))) s₁.heap _
    rw [e0]
    refine ⟨_, rfl, N0, rfl, ?_⟩
    exact Or.inr ⟨rfl, fun q => hc120 q.1⟩
def Q_rm_law (Z : State) (ksl : Int32) (tl : Int64) (ul : Int64) (mode : Int32) (line : Int32) (colu : Int32) (gc : Int32) (kn : Addr) (kk : Addr) (ku : Addr) (ks : Addr) (ke : Addr) (h0 : Heap) (n0 : Nat) (v : Option Value) (h : Heap) (L : List Loc) : Prop := v = some (.int 1) ∧ Fr n0 L
theorem ef_rm_law (m : MethodId) (ksl : Int32) (tl : Int64) (ul : Int64) (mode : Int32) (line : Int32) (colu : Int32) (gc : Int32) (kn : Addr) (kk : Addr) (ku : Addr) (ks : Addr) (ke : Addr) : entryFrame m #[(.int ksl), (.long tl), (.long ul), (.int mode), (.int line), (.int colu)] maxLocals = mkF m 0 #[.val (.int ksl), .val (.long tl), .second, .val (.long ul), .second, .val (.int mode), .val (.int line), .val (.int colu), .unset, .unset, .unset, .unset, .unset, .unset, .unset, .unset, .unset, .unset, .unset, .unset, .unset, .unset, .unset, .unset] [] := by first | (simp [entryFrame, mkF, argsToLocals, Value.category, maxLocals]; done) | rfl
set_option maxRecDepth 65536 in
set_option maxHeartbeats 40000000 in
theorem rm_law (l : Launch) (Z : State) (a0 : Array Value) (hw : ∀ d ∈ tables_1, d.before a0 Z = true) (ws : List Jvm.Cond) (hEL : EW Z a0 consts_1) (ksl : Int32) (tl : Int64) (ul : Int64) (mode : Int32) (line : Int32) (colu : Int32) (gc : Int32) (kn : Addr) (kk : Addr) (ku : Addr) (ks : Addr) (ke : Addr) (h0 : Heap) (n0 : Nat) (Z0 : n0 ≤ h0.size) (S_kn : Sta Z Z.heap "com/example/obra/obra/Token$Kind" "NAME" "Lcom/example/obra/obra/Token$Kind;" (.ref kn)) (S_kk : Sta Z Z.heap "com/example/obra/obra/Token$Kind" "KEYWORD" "Lcom/example/obra/obra/Token$Kind;" (.ref kk)) (S_ku : Sta Z Z.heap "com/example/obra/obra/Token$Kind" "NUMBER" "Lcom/example/obra/obra/Token$Kind;" (.ref ku)) (S_ks : Sta Z Z.heap "com/example/obra/obra/Token$Kind" "SYMBOL" "Lcom/example/obra/obra/Token$Kind;" (.ref ks)) (S_ke : Sta Z Z.heap "com/example/obra/obra/Token$Kind" "END" "Lcom/example/obra/obra/Token$Kind;" (.ref ke)) (n_kn_kk : kn ≠ kk) (n_kn_ks : kn ≠ ks) (n_ku_kk : ku ≠ kk) (n_ku_ks : ku ≠ ks) (n_ke_kk : ke ≠ kk) (n_ke_ks : ke ≠ ks) (S_C : Sta Z Z.heap "java/lang/String" "COMPACT_STRINGS" "Z" (.int gc)) (hcs : ¬ gc = 0) (O0 : Old Z n0 h0) :
    MetFree l x (head1 (Jvm.Cond.code x code maxLocals ret :: ws) room_1) (fun a_ U_ => a_ = #[(.int ksl), (.long tl), (.long ul), (.int mode), (.int line), (.int colu)] ∧ Z.Warmed39 U_.vm ∧ U_.heap = h0 ∧ CHv Z consts_1 U_.vm h0) (fun _ _ _ _ _ => True) (fun _ U_ o_ V_ => ∃ v_ L_, o_ = .returned v_ ∧ (Q_rm_law Z ksl tl ul mode line colu gc kn kk ku ks ke h0 n0) v_ V_.heap L_ ∧ CHr Z consts_1 U_.vm U_.heap V_.vm V_.heap ∧ ReturnedEndW U_ o_ V_ L_ room_1.cells room_1.slots) := by
  refine MetFree.of_bodySF (plainFor_of_name pn_10) hisR ?_
  intro p e s m args below meth c s₁ Bd hml0 hP hK
  obtain ⟨rfl, hZ, hh, CH⟩ := hP
  have hx := Bd.exec
  have hby := Bd.bytes
  have hml : c.maxLocals = 24 := hml0
  have hown : s.vm.findClass "com/example/obra/obra/TokenIsPinLaw" = some m.cls := findClass_of_methodNamed Bd.named
  have hnm := (name_of_methodNamed Bd.named Bd.method).1
  have wS : ∀ a ∈ Bundle.stringAtoms, a.before a0 Z = true := fun d hd => hw d ((by decide +kernel : ∀ d ∈ Bundle.stringAtoms, d ∈ tables_1) d hd)
  have X0 : Stand p l e room_1 (s.setVm s.vm) m #[(.int ksl), (.long tl), (.long ul), (.int mode), (.int line), (.int colu)] below meth c s₁ [] 0 0 := Stand.of_body Bd
  have e0 : s₁.heap = h0 := by rw [← hh, Bd.state]; rfl
  have N0 := Fr.nil n0
  have K0 : Keep h0 h0 [] := Keep.refl _ _
  replace hZ : Z.Warmed39 (s.setVm s.vm).vm := hZ
  replace hown : (s.setVm s.vm).vm.findClass "com/example/obra/obra/TokenIsPinLaw" = some m.cls := hown
  have hS : s.Since s.vm h0.size := (State.WarmedH.refl s).since _
  have hk : h0.size ≤ h0.size := Nat.le_refl _
  have CR : CHr Z consts_1 s.vm h0 s.vm h0 := CHr.refl CH
  show own_Fin p.tables e below (own_PostW Z consts_1 (Q_rm_law Z ksl tl ul mode line colu gc kn kk ku ks ke h0 n0) room_1.cells room_1.slots below s) _
  refine own_go (fun _ kk_ => castTop (ef_rm_law m ksl tl ul mode line colu gc kn kk ku ks ke) kk_) ?_
  have hws : ∀ d ∈ StrChars.Road.words, d.before a0 Z = true := fun d hd => hw d ((by decide +kernel : ∀ d ∈ StrChars.Road.words, d ∈ tables_1) d hd)
  have heq : ∀ d ∈ StrChars.Road.wordsEq, d.before a0 Z = true := fun d hd => hw d ((by decide +kernel : ∀ d ∈ StrChars.Road.wordsEq, d ∈ tables_1) d hd)
  refine own_go (fun _ kk_ => XS.iloadN X0.here hx rfl (hb hby at_0) rfl kk_) ?_
  show own_Fin p.tables e below _ (s₁.setTop (mkF m 1 #[.val (.int ksl), .val (.long tl), .second, .val (.long ul), .second, .val (.int mode), .val (.int line), .val (.int colu), .unset, .unset, .unset, .unset, .unset, .unset, .unset, .unset, .unset, .unset, .unset, .unset, .unset, .unset, .unset, .unset] [(.int ksl)]))
  refine own_go (fun _ kk_ => Jvm.Stand.ldcI X0 hx hown (mvT hZ (hw _ (List.mem_of_getElem? (i := 0) rfl))) (g := (mkF m 1 #[.val (.int ksl), .val (.long tl), .second, .val (.long ul), .second, .val (.int mode), .val (.int line), .val (.int colu), .unset, .unset, .unset, .unset, .unset, .unset, .unset, .unset, .unset, .unset, .unset, .unset, .unset, .unset, .unset, .unset] [(.int ksl)])) rfl (hb hby at_1) kk_) ?_
  show own_Fin p.tables e below _ (s₁.setTop (mkF m 3 #[.val (.int ksl), .val (.long tl), .second, .val (.long ul), .second, .val (.int mode), .val (.int line), .val (.int colu), .unset, .unset, .unset, .unset, .unset, .unset, .unset, .unset, .unset, .unset, .unset, .unset, .unset, .unset, .unset, .unset] [(.int (2147483647 : Int32)), (.int ksl)]))
  refine own_go (fun _ kk_ => XS.iand X0.here hx rfl (hb hby at_3) rfl kk_) ?_
  refine own_go (fun _ kk_ => XS.iconst X0.here hx rfl (hb hby at_4) kk_) ?_
  show own_Fin p.tables e below _ (s₁.setTop (mkF m 5 #[.val (.int ksl), .val (.long tl), .second, .val (.long ul), .second, .val (.int mode), .val (.int line), .val (.int colu), .unset, .unset, .unset, .unset, .unset, .unset, .unset, .unset, .unset, .unset, .unset, .unset, .unset, .unset, .unset, .unset] [(.int (5 : Int32)), (.int (ksl &&& (2147483647 : Int32)))]))
  refine own_go (fun _ kk_ => iremM X0 hx rfl  (hb hby at_5) rfl (by decide) kk_) ?_
  show own_Fin p.tables e below _ (s₁.setTop (mkF m 6 #[.val (.int ksl), .val (.long tl), .second, .val (.long ul), .second, .val (.int mode), .val (.int line), .val (.int colu), .unset, .unset, .unset, .unset, .unset, .unset, .unset, .unset, .unset, .unset, .unset, .unset, .unset, .unset, .unset, .unset] [(.int ((ksl &&& (2147483647 : Int32)) % (5 : Int32)))]))
  obtain ⟨kx, q_kx⟩ : ∃ z : Int32, z = ((ksl &&& (2147483647 : Int32)) % (5 : Int32)) := ⟨_, rfl⟩
  rw [← q_kx]
  have tail : ∀ (TL : State) (XL : Stand p l e room_1 (s.setVm s.vm) m #[(.int ksl), (.long tl), (.long ul), (.int mode), (.int line), (.int colu)] below meth c TL [] 0 0) (eL : TL.heap = h0) (kd : Addr) (hkd : (((kx = 1 ∨ kx = 3) ∧ (kd = kk ∨ kd = ks)) ∨ (¬ (kx = 1 ∨ kx = 3) ∧ ¬ (kd = kk ∨ kd = ks)))), own_Fin p.tables e below (own_PostW Z consts_1 (Q_rm_law Z ksl tl ul mode line colu gc kn kk ku ks ke h0 n0) room_1.cells room_1.slots below s) (TL.setTop (mkF m 68 #[.val (.int ksl), .val (.long tl), .second, .val (.long ul), .second, .val (.int mode), .val (.int line), .val (.int colu), .val (.int kx), .val (.ref kd), .unset, .unset, .unset, .unset, .unset, .unset, .unset, .unset, .unset, .unset, .unset, .unset, .unset, .unset] [])) := by
    intro TL XL eL kd hkd
    refine own_go (fun _ kk_ => XS.lloadN XL.here hx rfl (hb hby at_68) rfl kk_) ?_
    refine own_go (fun _ kk_ => XS.bipush XL.here hx rfl (hb hby at_69) kk_) ?_
    show own_Fin p.tables e below _ (TL.setTop (mkF m 71 #[.val (.int ksl), .val (.long tl), .second, .val (.long ul), .second, .val (.int mode), .val (.int line), .val (.int colu), .val (.int kx), .val (.ref kd), .unset, .unset, .unset, .unset, .unset, .unset, .unset, .unset, .unset, .unset, .unset, .unset, .unset, .unset] [(.int (24 : Int32)), (.long tl)]))
    refine own_go (fun _ kk_ => XS.lushr XL.here hx rfl (hb hby at_71) rfl kk_) ?_
    show own_Fin p.tables e below _ (TL.setTop (mkF m 72 #[.val (.int ksl), .val (.long tl), .second, .val (.long ul), .second, .val (.int mode), .val (.int line), .val (.int colu), .val (.int kx), .val (.ref kd), .unset, .unset, .unset, .unset, .unset, .unset, .unset, .unset, .unset, .unset, .unset, .unset, .unset, .unset] [(.long ((tl.toUInt64 >>> ((24 : Int32) &&& 0x3f).toInt64.toUInt64).toInt64))]))
    refine own_go (fun _ kk_ => Jvm.Stand.ldc2J XL hx hown (mvT hZ (hw _ (List.mem_of_getElem? (i := 4) rfl))) (g := (mkF m 72 #[.val (.int ksl), .val (.long tl), .second, .val (.long ul), .second, .val (.int mode), .val (.int line), .val (.int colu), .val (.int kx), .val (.ref kd), .unset, .unset, .unset, .unset, .unset, .unset, .unset, .unset, .unset, .unset, .unset, .unset, .unset, .unset] [(.long ((tl.toUInt64 >>> ((24 : Int32) &&& 0x3f).toInt64.toUInt64).toInt64))])) rfl (hb hby at_72) kk_) ?_
    show own_Fin p.tables e below _ (TL.setTop (mkF m 75 #[.val (.int ksl), .val (.long tl), .second, .val (.long ul), .second, .val (.int mode), .val (.int line), .val (.int colu), .val (.int kx), .val (.ref kd), .unset, .unset, .unset, .unset, .unset, .unset, .unset, .unset, .unset, .unset, .unset, .unset, .unset, .unset] [(.long (3 : Int64)), (.long ((tl.toUInt64 >>> ((24 : Int32) &&& 0x3f).toInt64.toUInt64).toInt64))]))
    refine own_go (fun _ kk_ => XS.land XL.here hx rfl (hb hby at_75) rfl kk_) ?_
    show own_Fin p.tables e below _ (TL.setTop (mkF m 76 #[.val (.int ksl), .val (.long tl), .second, .val (.long ul), .second, .val (.int mode), .val (.int line), .val (.int colu), .val (.int kx), .val (.ref kd), .unset, .unset, .unset, .unset, .unset, .unset, .unset, .unset, .unset, .unset, .unset, .unset, .unset, .unset] [(.long (((tl.toUInt64 >>> ((24 : Int32) &&& 0x3f).toInt64.toUInt64).toInt64) &&& (3 : Int64)))]))
    refine own_go (fun _ kk_ => XS.l2i XL.here hx rfl (hb hby at_76) rfl kk_) ?_
    show own_Fin p.tables e below _ (TL.setTop (mkF m 77 #[.val (.int ksl), .val (.long tl), .second, .val (.long ul), .second, .val (.int mode), .val (.int line), .val (.int colu), .val (.int kx), .val (.ref kd), .unset, .unset, .unset, .unset, .unset, .unset, .unset, .unset, .unset, .unset, .unset, .unset, .unset, .unset] [(.int ((((tl.toUInt64 >>> ((24 : Int32) &&& 0x3f).toInt64.toUInt64).toInt64) &&& (3 : Int64)).toInt32))]))
    obtain ⟨lt_, q_lt_⟩ : ∃ z : Int32, z = ((((tl.toUInt64 >>> ((24 : Int32) &&& 0x3f).toInt64.toUInt64).toInt64) &&& (3 : Int64)).toInt32) := ⟨_, rfl⟩
    rw [← q_lt_]
    have r_lt_ : lt_ = 0 ∨ lt_ = 1 ∨ lt_ = 2 ∨ lt_ = 3 := by rw [q_lt_]; exact own_and3 _
    refine own_go (fun _ kk_ => XS.istore XL.here hx rfl (hb hby at_77) rfl (l' := #[.val (.int ksl), .val (.long tl), .second, .val (.long ul), .second, .val (.int mode), .val (.int line), .val (.int colu), .val (.int kx), .val (.ref kd), .val (.int lt_), .unset, .unset, .unset, .unset, .unset, .unset, .unset, .unset, .unset, .unset, .unset, .unset, .unset]) rfl kk_) ?_
    refine own_go (fun _ kk_ => XS.lloadN XL.here hx rfl (hb hby at_79) rfl kk_) ?_
    show own_Fin p.tables e below _ (TL.setTop (mkF m 80 #[.val (.int ksl), .val (.long tl), .second, .val (.long ul), .second, .val (.int mode), .val (.int line), .val (.int colu), .val (.int kx), .val (.ref kd), .val (.int lt_), .unset, .unset, .unset, .unset, .unset, .unset, .unset, .unset, .unset, .unset, .unset, .unset, .unset] [(.long tl)]))
    refine own_go (fun _ kk_ => Jvm.Stand.ldc2J XL hx hown (mvT hZ (hw _ (List.mem_of_getElem? (i := 5) rfl))) (g := (mkF m 80 #[.val (.int ksl), .val (.long tl), .second, .val (.long ul), .second, .val (.int mode), .val (.int line), .val (.int colu), .val (.int kx), .val (.ref kd), .val (.int lt_), .unset, .unset, .unset, .unset, .unset, .unset, .unset, .unset, .unset, .unset, .unset, .unset, .unset] [(.long tl)])) rfl (hb hby at_80) kk_) ?_
    show own_Fin p.tables e below _ (TL.setTop (mkF m 83 #[.val (.int ksl), .val (.long tl), .second, .val (.long ul), .second, .val (.int mode), .val (.int line), .val (.int colu), .val (.int kx), .val (.ref kd), .val (.int lt_), .unset, .unset, .unset, .unset, .unset, .unset, .unset, .unset, .unset, .unset, .unset, .unset, .unset] [(.long (255 : Int64)), (.long tl)]))
    refine own_go (fun _ kk_ => XS.land XL.here hx rfl (hb hby at_83) rfl kk_) ?_
    show own_Fin p.tables e below _ (TL.setTop (mkF m 84 #[.val (.int ksl), .val (.long tl), .second, .val (.long ul), .second, .val (.int mode), .val (.int line), .val (.int colu), .val (.int kx), .val (.ref kd), .val (.int lt_), .unset, .unset, .unset, .unset, .unset, .unset, .unset, .unset, .unset, .unset, .unset, .unset, .unset] [(.long (tl &&& (255 : Int64)))]))
    refine own_go (fun _ kk_ => XS.l2i XL.here hx rfl (hb hby at_84) rfl kk_) ?_
    show own_Fin p.tables e below _ (TL.setTop (mkF m 85 #[.val (.int ksl), .val (.long tl), .second, .val (.long ul), .second, .val (.int mode), .val (.int line), .val (.int colu), .val (.int kx), .val (.ref kd), .val (.int lt_), .unset, .unset, .unset, .unset, .unset, .unset, .unset, .unset, .unset, .unset, .unset, .unset, .unset] [(.int ((tl &&& (255 : Int64)).toInt32))]))
    refine own_go (fun _ kk_ => XS.i2c XL.here hx rfl (hb hby at_85) rfl kk_) ?_
    show own_Fin p.tables e below _ (TL.setTop (mkF m 86 #[.val (.int ksl), .val (.long tl), .second, .val (.long ul), .second, .val (.int mode), .val (.int line), .val (.int colu), .val (.int kx), .val (.ref kd), .val (.int lt_), .unset, .unset, .unset, .unset, .unset, .unset, .unset, .unset, .unset, .unset, .unset, .unset, .unset] [(.int (((tl &&& (255 : Int64)).toInt32).toUInt32.toUInt16.toUInt32.toInt32))]))
    obtain ⟨a0_, q_a0_⟩ : ∃ z : Int32, z = (((tl &&& (255 : Int64)).toInt32).toUInt32.toUInt16.toUInt32.toInt32) := ⟨_, rfl⟩
    rw [← q_a0_]
    have ha0_ : ¬ a0_ < 0 ∧ ¬ (255 : Int32) < a0_ := by rw [q_a0_]; exact own_ch255 _
    refine own_go (fun _ kk_ => XS.istore XL.here hx rfl (hb hby at_86) rfl (l' := #[.val (.int ksl), .val (.long tl), .second, .val (.long ul), .second, .val (.int mode), .val (.int line), .val (.int colu), .val (.int kx), .val (.ref kd), .val (.int lt_), .val (.int a0_), .unset, .unset, .unset, .unset, .unset, .unset, .unset, .unset, .unset, .unset, .unset, .unset]) rfl kk_) ?_
    refine own_go (fun _ kk_ => XS.lloadN XL.here hx rfl (hb hby at_88) rfl kk_) ?_
    refine own_go (fun _ kk_ => XS.bipush XL.here hx rfl (hb hby at_89) kk_) ?_
    show own_Fin p.tables e below _ (TL.setTop (mkF m 91 #[.val (.int ksl), .val (.long tl), .second, .val (.long ul), .second, .val (.int mode), .val (.int line), .val (.int colu), .val (.int kx), .val (.ref kd), .val (.int lt_), .val (.int a0_), .unset, .unset, .unset, .unset, .unset, .unset, .unset, .unset, .unset, .unset, .unset, .unset] [(.int (8 : Int32)), (.long tl)]))
    refine own_go (fun _ kk_ => XS.lushr XL.here hx rfl (hb hby at_91) rfl kk_) ?_
    show own_Fin p.tables e below _ (TL.setTop (mkF m 92 #[.val (.int ksl), .val (.long tl), .second, .val (.long ul), .second, .val (.int mode), .val (.int line), .val (.int colu), .val (.int kx), .val (.ref kd), .val (.int lt_), .val (.int a0_), .unset, .unset, .unset, .unset, .unset, .unset, .unset, .unset, .unset, .unset, .unset, .unset] [(.long ((tl.toUInt64 >>> ((8 : Int32) &&& 0x3f).toInt64.toUInt64).toInt64))]))
    refine own_go (fun _ kk_ => Jvm.Stand.ldc2J XL hx hown (mvT hZ (hw _ (List.mem_of_getElem? (i := 5) rfl))) (g := (mkF m 92 #[.val (.int ksl), .val (.long tl), .second, .val (.long ul), .second, .val (.int mode), .val (.int line), .val (.int colu), .val (.int kx), .val (.ref kd), .val (.int lt_), .val (.int a0_), .unset, .unset, .unset, .unset, .unset, .unset, .unset, .unset, .unset, .unset, .unset, .unset] [(.long ((tl.toUInt64 >>> ((8 : Int32) &&& 0x3f).toInt64.toUInt64).toInt64))])) rfl (hb hby at_92) kk_) ?_
    show own_Fin p.tables e below _ (TL.setTop (mkF m 95 #[.val (.int ksl), .val (.long tl), .second, .val (.long ul), .second, .val (.int mode), .val (.int line), .val (.int colu), .val (.int kx), .val (.ref kd), .val (.int lt_), .val (.int a0_), .unset, .unset, .unset, .unset, .unset, .unset, .unset, .unset, .unset, .unset, .unset, .unset] [(.long (255 : Int64)), (.long ((tl.toUInt64 >>> ((8 : Int32) &&& 0x3f).toInt64.toUInt64).toInt64))]))
    refine own_go (fun _ kk_ => XS.land XL.here hx rfl (hb hby at_95) rfl kk_) ?_
    show own_Fin p.tables e below _ (TL.setTop (mkF m 96 #[.val (.int ksl), .val (.long tl), .second, .val (.long ul), .second, .val (.int mode), .val (.int line), .val (.int colu), .val (.int kx), .val (.ref kd), .val (.int lt_), .val (.int a0_), .unset, .unset, .unset, .unset, .unset, .unset, .unset, .unset, .unset, .unset, .unset, .unset] [(.long (((tl.toUInt64 >>> ((8 : Int32) &&& 0x3f).toInt64.toUInt64).toInt64) &&& (255 : Int64)))]))
    refine own_go (fun _ kk_ => XS.l2i XL.here hx rfl (hb hby at_96) rfl kk_) ?_
    show own_Fin p.tables e below _ (TL.setTop (mkF m 97 #[.val (.int ksl), .val (.long tl), .second, .val (.long ul), .second, .val (.int mode), .val (.int line), .val (.int colu), .val (.int kx), .val (.ref kd), .val (.int lt_), .val (.int a0_), .unset, .unset, .unset, .unset, .unset, .unset, .unset, .unset, .unset, .unset, .unset, .unset] [(.int ((((tl.toUInt64 >>> ((8 : Int32) &&& 0x3f).toInt64.toUInt64).toInt64) &&& (255 : Int64)).toInt32))]))
    refine own_go (fun _ kk_ => XS.i2c XL.here hx rfl (hb hby at_97) rfl kk_) ?_
    show own_Fin p.tables e below _ (TL.setTop (mkF m 98 #[.val (.int ksl), .val (.long tl), .second, .val (.long ul), .second, .val (.int mode), .val (.int line), .val (.int colu), .val (.int kx), .val (.ref kd), .val (.int lt_), .val (.int a0_), .unset, .unset, .unset, .unset, .unset, .unset, .unset, .unset, .unset, .unset, .unset, .unset] [(.int (((((tl.toUInt64 >>> ((8 : Int32) &&& 0x3f).toInt64.toUInt64).toInt64) &&& (255 : Int64)).toInt32).toUInt32.toUInt16.toUInt32.toInt32))]))
    obtain ⟨a1_, q_a1_⟩ : ∃ z : Int32, z = (((((tl.toUInt64 >>> ((8 : Int32) &&& 0x3f).toInt64.toUInt64).toInt64) &&& (255 : Int64)).toInt32).toUInt32.toUInt16.toUInt32.toInt32) := ⟨_, rfl⟩
    rw [← q_a1_]
    have ha1_ : ¬ a1_ < 0 ∧ ¬ (255 : Int32) < a1_ := by rw [q_a1_]; exact own_ch255 _
    refine own_go (fun _ kk_ => XS.istore XL.here hx rfl (hb hby at_98) rfl (l' := #[.val (.int ksl), .val (.long tl), .second, .val (.long ul), .second, .val (.int mode), .val (.int line), .val (.int colu), .val (.int kx), .val (.ref kd), .val (.int lt_), .val (.int a0_), .val (.int a1_), .unset, .unset, .unset, .unset, .unset, .unset, .unset, .unset, .unset, .unset, .unset]) rfl kk_) ?_
    refine own_go (fun _ kk_ => XS.lloadN XL.here hx rfl (hb hby at_100) rfl kk_) ?_
    refine own_go (fun _ kk_ => XS.bipush XL.here hx rfl (hb hby at_101) kk_) ?_
    show own_Fin p.tables e below _ (TL.setTop (mkF m 103 #[.val (.int ksl), .val (.long tl), .second, .val (.long ul), .second, .val (.int mode), .val (.int line), .val (.int colu), .val (.int kx), .val (.ref kd), .val (.int lt_), .val (.int a0_), .val (.int a1_), .unset, .unset, .unset, .unset, .unset, .unset, .unset, .unset, .unset, .unset, .unset] [(.int (16 : Int32)), (.long tl)]))
    refine own_go (fun _ kk_ => XS.lushr XL.here hx rfl (hb hby at_103) rfl kk_) ?_
    show own_Fin p.tables e below _ (TL.setTop (mkF m 104 #[.val (.int ksl), .val (.long tl), .second, .val (.long ul), .second, .val (.int mode), .val (.int line), .val (.int colu), .val (.int kx), .val (.ref kd), .val (.int lt_), .val (.int a0_), .val (.int a1_), .unset, .unset, .unset, .unset, .unset, .unset, .unset, .unset, .unset, .unset, .unset] [(.long ((tl.toUInt64 >>> ((16 : Int32) &&& 0x3f).toInt64.toUInt64).toInt64))]))
    refine own_go (fun _ kk_ => Jvm.Stand.ldc2J XL hx hown (mvT hZ (hw _ (List.mem_of_getElem? (i := 5) rfl))) (g := (mkF m 104 #[.val (.int ksl), .val (.long tl), .second, .val (.long ul), .second, .val (.int mode), .val (.int line), .val (.int colu), .val (.int kx), .val (.ref kd), .val (.int lt_), .val (.int a0_), .val (.int a1_), .unset, .unset, .unset, .unset, .unset, .unset, .unset, .unset, .unset, .unset, .unset] [(.long ((tl.toUInt64 >>> ((16 : Int32) &&& 0x3f).toInt64.toUInt64).toInt64))])) rfl (hb hby at_104) kk_) ?_
    show own_Fin p.tables e below _ (TL.setTop (mkF m 107 #[.val (.int ksl), .val (.long tl), .second, .val (.long ul), .second, .val (.int mode), .val (.int line), .val (.int colu), .val (.int kx), .val (.ref kd), .val (.int lt_), .val (.int a0_), .val (.int a1_), .unset, .unset, .unset, .unset, .unset, .unset, .unset, .unset, .unset, .unset, .unset] [(.long (255 : Int64)), (.long ((tl.toUInt64 >>> ((16 : Int32) &&& 0x3f).toInt64.toUInt64).toInt64))]))
    refine own_go (fun _ kk_ => XS.land XL.here hx rfl (hb hby at_107) rfl kk_) ?_
    show own_Fin p.tables e below _ (TL.setTop (mkF m 108 #[.val (.int ksl), .val (.long tl), .second, .val (.long ul), .second, .val (.int mode), .val (.int line), .val (.int colu), .val (.int kx), .val (.ref kd), .val (.int lt_), .val (.int a0_), .val (.int a1_), .unset, .unset, .unset, .unset, .unset, .unset, .unset, .unset, .unset, .unset, .unset] [(.long (((tl.toUInt64 >>> ((16 : Int32) &&& 0x3f).toInt64.toUInt64).toInt64) &&& (255 : Int64)))]))
    refine own_go (fun _ kk_ => XS.l2i XL.here hx rfl (hb hby at_108) rfl kk_) ?_
    show own_Fin p.tables e below _ (TL.setTop (mkF m 109 #[.val (.int ksl), .val (.long tl), .second, .val (.long ul), .second, .val (.int mode), .val (.int line), .val (.int colu), .val (.int kx), .val (.ref kd), .val (.int lt_), .val (.int a0_), .val (.int a1_), .unset, .unset, .unset, .unset, .unset, .unset, .unset, .unset, .unset, .unset, .unset] [(.int ((((tl.toUInt64 >>> ((16 : Int32) &&& 0x3f).toInt64.toUInt64).toInt64) &&& (255 : Int64)).toInt32))]))
    refine own_go (fun _ kk_ => XS.i2c XL.here hx rfl (hb hby at_109) rfl kk_) ?_
    show own_Fin p.tables e below _ (TL.setTop (mkF m 110 #[.val (.int ksl), .val (.long tl), .second, .val (.long ul), .second, .val (.int mode), .val (.int line), .val (.int colu), .val (.int kx), .val (.ref kd), .val (.int lt_), .val (.int a0_), .val (.int a1_), .unset, .unset, .unset, .unset, .unset, .unset, .unset, .unset, .unset, .unset, .unset] [(.int (((((tl.toUInt64 >>> ((16 : Int32) &&& 0x3f).toInt64.toUInt64).toInt64) &&& (255 : Int64)).toInt32).toUInt32.toUInt16.toUInt32.toInt32))]))
    obtain ⟨a2_, q_a2_⟩ : ∃ z : Int32, z = (((((tl.toUInt64 >>> ((16 : Int32) &&& 0x3f).toInt64.toUInt64).toInt64) &&& (255 : Int64)).toInt32).toUInt32.toUInt16.toUInt32.toInt32) := ⟨_, rfl⟩
    rw [← q_a2_]
    have ha2_ : ¬ a2_ < 0 ∧ ¬ (255 : Int32) < a2_ := by rw [q_a2_]; exact own_ch255 _
    refine own_go (fun _ kk_ => XS.istore XL.here hx rfl (hb hby at_110) rfl (l' := #[.val (.int ksl), .val (.long tl), .second, .val (.long ul), .second, .val (.int mode), .val (.int line), .val (.int colu), .val (.int kx), .val (.ref kd), .val (.int lt_), .val (.int a0_), .val (.int a1_), .val (.int a2_), .unset, .unset, .unset, .unset, .unset, .unset, .unset, .unset, .unset, .unset]) rfl kk_) ?_
    refine own_go (fun _ kk_ => XS.lloadN XL.here hx rfl (hb hby at_112) rfl kk_) ?_
    refine own_go (fun _ kk_ => XS.bipush XL.here hx rfl (hb hby at_113) kk_) ?_
    show own_Fin p.tables e below _ (TL.setTop (mkF m 115 #[.val (.int ksl), .val (.long tl), .second, .val (.long ul), .second, .val (.int mode), .val (.int line), .val (.int colu), .val (.int kx), .val (.ref kd), .val (.int lt_), .val (.int a0_), .val (.int a1_), .val (.int a2_), .unset, .unset, .unset, .unset, .unset, .unset, .unset, .unset, .unset, .unset] [(.int (24 : Int32)), (.long ul)]))
    refine own_go (fun _ kk_ => XS.lushr XL.here hx rfl (hb hby at_115) rfl kk_) ?_
    show own_Fin p.tables e below _ (TL.setTop (mkF m 116 #[.val (.int ksl), .val (.long tl), .second, .val (.long ul), .second, .val (.int mode), .val (.int line), .val (.int colu), .val (.int kx), .val (.ref kd), .val (.int lt_), .val (.int a0_), .val (.int a1_), .val (.int a2_), .unset, .unset, .unset, .unset, .unset, .unset, .unset, .unset, .unset, .unset] [(.long ((ul.toUInt64 >>> ((24 : Int32) &&& 0x3f).toInt64.toUInt64).toInt64))]))
    refine own_go (fun _ kk_ => Jvm.Stand.ldc2J XL hx hown (mvT hZ (hw _ (List.mem_of_getElem? (i := 4) rfl))) (g := (mkF m 116 #[.val (.int ksl), .val (.long tl), .second, .val (.long ul), .second, .val (.int mode), .val (.int line), .val (.int colu), .val (.int kx), .val (.ref kd), .val (.int lt_), .val (.int a0_), .val (.int a1_), .val (.int a2_), .unset, .unset, .unset, .unset, .unset, .unset, .unset, .unset, .unset, .unset] [(.long ((ul.toUInt64 >>> ((24 : Int32) &&& 0x3f).toInt64.toUInt64).toInt64))])) rfl (hb hby at_116) kk_) ?_
    show own_Fin p.tables e below _ (TL.setTop (mkF m 119 #[.val (.int ksl), .val (.long tl), .second, .val (.long ul), .second, .val (.int mode), .val (.int line), .val (.int colu), .val (.int kx), .val (.ref kd), .val (.int lt_), .val (.int a0_), .val (.int a1_), .val (.int a2_), .unset, .unset, .unset, .unset, .unset, .unset, .unset, .unset, .unset, .unset] [(.long (3 : Int64)), (.long ((ul.toUInt64 >>> ((24 : Int32) &&& 0x3f).toInt64.toUInt64).toInt64))]))
    refine own_go (fun _ kk_ => XS.land XL.here hx rfl (hb hby at_119) rfl kk_) ?_
    show own_Fin p.tables e below _ (TL.setTop (mkF m 120 #[.val (.int ksl), .val (.long tl), .second, .val (.long ul), .second, .val (.int mode), .val (.int line), .val (.int colu), .val (.int kx), .val (.ref kd), .val (.int lt_), .val (.int a0_), .val (.int a1_), .val (.int a2_), .unset, .unset, .unset, .unset, .unset, .unset, .unset, .unset, .unset, .unset] [(.long (((ul.toUInt64 >>> ((24 : Int32) &&& 0x3f).toInt64.toUInt64).toInt64) &&& (3 : Int64)))]))
    refine own_go (fun _ kk_ => XS.l2i XL.here hx rfl (hb hby at_120) rfl kk_) ?_
    show own_Fin p.tables e below _ (TL.setTop (mkF m 121 #[.val (.int ksl), .val (.long tl), .second, .val (.long ul), .second, .val (.int mode), .val (.int line), .val (.int colu), .val (.int kx), .val (.ref kd), .val (.int lt_), .val (.int a0_), .val (.int a1_), .val (.int a2_), .unset, .unset, .unset, .unset, .unset, .unset, .unset, .unset, .unset, .unset] [(.int ((((ul.toUInt64 >>> ((24 : Int32) &&& 0x3f).toInt64.toUInt64).toInt64) &&& (3 : Int64)).toInt32))]))
    obtain ⟨lu_, q_lu_⟩ : ∃ z : Int32, z = ((((ul.toUInt64 >>> ((24 : Int32) &&& 0x3f).toInt64.toUInt64).toInt64) &&& (3 : Int64)).toInt32) := ⟨_, rfl⟩
    rw [← q_lu_]
    have r_lu_ : lu_ = 0 ∨ lu_ = 1 ∨ lu_ = 2 ∨ lu_ = 3 := by rw [q_lu_]; exact own_and3 _
    refine own_go (fun _ kk_ => XS.istore XL.here hx rfl (hb hby at_121) rfl (l' := #[.val (.int ksl), .val (.long tl), .second, .val (.long ul), .second, .val (.int mode), .val (.int line), .val (.int colu), .val (.int kx), .val (.ref kd), .val (.int lt_), .val (.int a0_), .val (.int a1_), .val (.int a2_), .val (.int lu_), .unset, .unset, .unset, .unset, .unset, .unset, .unset, .unset, .unset]) rfl kk_) ?_
    refine own_go (fun _ kk_ => XS.lloadN XL.here hx rfl (hb hby at_123) rfl kk_) ?_
    show own_Fin p.tables e below _ (TL.setTop (mkF m 124 #[.val (.int ksl), .val (.long tl), .second, .val (.long ul), .second, .val (.int mode), .val (.int line), .val (.int colu), .val (.int kx), .val (.ref kd), .val (.int lt_), .val (.int a0_), .val (.int a1_), .val (.int a2_), .val (.int lu_), .unset, .unset, .unset, .unset, .unset, .unset, .unset, .unset, .unset] [(.long ul)]))
    refine own_go (fun _ kk_ => Jvm.Stand.ldc2J XL hx hown (mvT hZ (hw _ (List.mem_of_getElem? (i := 5) rfl))) (g := (mkF m 124 #[.val (.int ksl), .val (.long tl), .second, .val (.long ul), .second, .val (.int mode), .val (.int line), .val (.int colu), .val (.int kx), .val (.ref kd), .val (.int lt_), .val (.int a0_), .val (.int a1_), .val (.int a2_), .val (.int lu_), .unset, .unset, .unset, .unset, .unset, .unset, .unset, .unset, .unset] [(.long ul)])) rfl (hb hby at_124) kk_) ?_
    show own_Fin p.tables e below _ (TL.setTop (mkF m 127 #[.val (.int ksl), .val (.long tl), .second, .val (.long ul), .second, .val (.int mode), .val (.int line), .val (.int colu), .val (.int kx), .val (.ref kd), .val (.int lt_), .val (.int a0_), .val (.int a1_), .val (.int a2_), .val (.int lu_), .unset, .unset, .unset, .unset, .unset, .unset, .unset, .unset, .unset] [(.long (255 : Int64)), (.long ul)]))
    refine own_go (fun _ kk_ => XS.land XL.here hx rfl (hb hby at_127) rfl kk_) ?_
    show own_Fin p.tables e below _ (TL.setTop (mkF m 128 #[.val (.int ksl), .val (.long tl), .second, .val (.long ul), .second, .val (.int mode), .val (.int line), .val (.int colu), .val (.int kx), .val (.ref kd), .val (.int lt_), .val (.int a0_), .val (.int a1_), .val (.int a2_), .val (.int lu_), .unset, .unset, .unset, .unset, .unset, .unset, .unset, .unset, .unset] [(.long (ul &&& (255 : Int64)))]))
    refine own_go (fun _ kk_ => XS.l2i XL.here hx rfl (hb hby at_128) rfl kk_) ?_
    show own_Fin p.tables e below _ (TL.setTop (mkF m 129 #[.val (.int ksl), .val (.long tl), .second, .val (.long ul), .second, .val (.int mode), .val (.int line), .val (.int colu), .val (.int kx), .val (.ref kd), .val (.int lt_), .val (.int a0_), .val (.int a1_), .val (.int a2_), .val (.int lu_), .unset, .unset, .unset, .unset, .unset, .unset, .unset, .unset, .unset] [(.int ((ul &&& (255 : Int64)).toInt32))]))
    refine own_go (fun _ kk_ => XS.i2c XL.here hx rfl (hb hby at_129) rfl kk_) ?_
    show own_Fin p.tables e below _ (TL.setTop (mkF m 130 #[.val (.int ksl), .val (.long tl), .second, .val (.long ul), .second, .val (.int mode), .val (.int line), .val (.int colu), .val (.int kx), .val (.ref kd), .val (.int lt_), .val (.int a0_), .val (.int a1_), .val (.int a2_), .val (.int lu_), .unset, .unset, .unset, .unset, .unset, .unset, .unset, .unset, .unset] [(.int (((ul &&& (255 : Int64)).toInt32).toUInt32.toUInt16.toUInt32.toInt32))]))
    obtain ⟨b0_, q_b0_⟩ : ∃ z : Int32, z = (((ul &&& (255 : Int64)).toInt32).toUInt32.toUInt16.toUInt32.toInt32) := ⟨_, rfl⟩
    rw [← q_b0_]
    have hb0_ : ¬ b0_ < 0 ∧ ¬ (255 : Int32) < b0_ := by rw [q_b0_]; exact own_ch255 _
    refine own_go (fun _ kk_ => XS.istore XL.here hx rfl (hb hby at_130) rfl (l' := #[.val (.int ksl), .val (.long tl), .second, .val (.long ul), .second, .val (.int mode), .val (.int line), .val (.int colu), .val (.int kx), .val (.ref kd), .val (.int lt_), .val (.int a0_), .val (.int a1_), .val (.int a2_), .val (.int lu_), .val (.int b0_), .unset, .unset, .unset, .unset, .unset, .unset, .unset, .unset]) rfl kk_) ?_
    refine own_go (fun _ kk_ => XS.lloadN XL.here hx rfl (hb hby at_132) rfl kk_) ?_
    refine own_go (fun _ kk_ => XS.bipush XL.here hx rfl (hb hby at_133) kk_) ?_
    show own_Fin p.tables e below _ (TL.setTop (mkF m 135 #[.val (.int ksl), .val (.long tl), .second, .val (.long ul), .second, .val (.int mode), .val (.int line), .val (.int colu), .val (.int kx), .val (.ref kd), .val (.int lt_), .val (.int a0_), .val (.int a1_), .val (.int a2_), .val (.int lu_), .val (.int b0_), .unset, .unset, .unset, .unset, .unset, .unset, .unset, .unset] [(.int (8 : Int32)), (.long ul)]))
    refine own_go (fun _ kk_ => XS.lushr XL.here hx rfl (hb hby at_135) rfl kk_) ?_
    show own_Fin p.tables e below _ (TL.setTop (mkF m 136 #[.val (.int ksl), .val (.long tl), .second, .val (.long ul), .second, .val (.int mode), .val (.int line), .val (.int colu), .val (.int kx), .val (.ref kd), .val (.int lt_), .val (.int a0_), .val (.int a1_), .val (.int a2_), .val (.int lu_), .val (.int b0_), .unset, .unset, .unset, .unset, .unset, .unset, .unset, .unset] [(.long ((ul.toUInt64 >>> ((8 : Int32) &&& 0x3f).toInt64.toUInt64).toInt64))]))
    refine own_go (fun _ kk_ => Jvm.Stand.ldc2J XL hx hown (mvT hZ (hw _ (List.mem_of_getElem? (i := 5) rfl))) (g := (mkF m 136 #[.val (.int ksl), .val (.long tl), .second, .val (.long ul), .second, .val (.int mode), .val (.int line), .val (.int colu), .val (.int kx), .val (.ref kd), .val (.int lt_), .val (.int a0_), .val (.int a1_), .val (.int a2_), .val (.int lu_), .val (.int b0_), .unset, .unset, .unset, .unset, .unset, .unset, .unset, .unset] [(.long ((ul.toUInt64 >>> ((8 : Int32) &&& 0x3f).toInt64.toUInt64).toInt64))])) rfl (hb hby at_136) kk_) ?_
    show own_Fin p.tables e below _ (TL.setTop (mkF m 139 #[.val (.int ksl), .val (.long tl), .second, .val (.long ul), .second, .val (.int mode), .val (.int line), .val (.int colu), .val (.int kx), .val (.ref kd), .val (.int lt_), .val (.int a0_), .val (.int a1_), .val (.int a2_), .val (.int lu_), .val (.int b0_), .unset, .unset, .unset, .unset, .unset, .unset, .unset, .unset] [(.long (255 : Int64)), (.long ((ul.toUInt64 >>> ((8 : Int32) &&& 0x3f).toInt64.toUInt64).toInt64))]))
    refine own_go (fun _ kk_ => XS.land XL.here hx rfl (hb hby at_139) rfl kk_) ?_
    show own_Fin p.tables e below _ (TL.setTop (mkF m 140 #[.val (.int ksl), .val (.long tl), .second, .val (.long ul), .second, .val (.int mode), .val (.int line), .val (.int colu), .val (.int kx), .val (.ref kd), .val (.int lt_), .val (.int a0_), .val (.int a1_), .val (.int a2_), .val (.int lu_), .val (.int b0_), .unset, .unset, .unset, .unset, .unset, .unset, .unset, .unset] [(.long (((ul.toUInt64 >>> ((8 : Int32) &&& 0x3f).toInt64.toUInt64).toInt64) &&& (255 : Int64)))]))
    refine own_go (fun _ kk_ => XS.l2i XL.here hx rfl (hb hby at_140) rfl kk_) ?_
    show own_Fin p.tables e below _ (TL.setTop (mkF m 141 #[.val (.int ksl), .val (.long tl), .second, .val (.long ul), .second, .val (.int mode), .val (.int line), .val (.int colu), .val (.int kx), .val (.ref kd), .val (.int lt_), .val (.int a0_), .val (.int a1_), .val (.int a2_), .val (.int lu_), .val (.int b0_), .unset, .unset, .unset, .unset, .unset, .unset, .unset, .unset] [(.int ((((ul.toUInt64 >>> ((8 : Int32) &&& 0x3f).toInt64.toUInt64).toInt64) &&& (255 : Int64)).toInt32))]))
    refine own_go (fun _ kk_ => XS.i2c XL.here hx rfl (hb hby at_141) rfl kk_) ?_
    show own_Fin p.tables e below _ (TL.setTop (mkF m 142 #[.val (.int ksl), .val (.long tl), .second, .val (.long ul), .second, .val (.int mode), .val (.int line), .val (.int colu), .val (.int kx), .val (.ref kd), .val (.int lt_), .val (.int a0_), .val (.int a1_), .val (.int a2_), .val (.int lu_), .val (.int b0_), .unset, .unset, .unset, .unset, .unset, .unset, .unset, .unset] [(.int (((((ul.toUInt64 >>> ((8 : Int32) &&& 0x3f).toInt64.toUInt64).toInt64) &&& (255 : Int64)).toInt32).toUInt32.toUInt16.toUInt32.toInt32))]))
    obtain ⟨b1_, q_b1_⟩ : ∃ z : Int32, z = (((((ul.toUInt64 >>> ((8 : Int32) &&& 0x3f).toInt64.toUInt64).toInt64) &&& (255 : Int64)).toInt32).toUInt32.toUInt16.toUInt32.toInt32) := ⟨_, rfl⟩
    rw [← q_b1_]
    have hb1_ : ¬ b1_ < 0 ∧ ¬ (255 : Int32) < b1_ := by rw [q_b1_]; exact own_ch255 _
    refine own_go (fun _ kk_ => XS.istore XL.here hx rfl (hb hby at_142) rfl (l' := #[.val (.int ksl), .val (.long tl), .second, .val (.long ul), .second, .val (.int mode), .val (.int line), .val (.int colu), .val (.int kx), .val (.ref kd), .val (.int lt_), .val (.int a0_), .val (.int a1_), .val (.int a2_), .val (.int lu_), .val (.int b0_), .val (.int b1_), .unset, .unset, .unset, .unset, .unset, .unset, .unset]) rfl kk_) ?_
    refine own_go (fun _ kk_ => XS.lloadN XL.here hx rfl (hb hby at_144) rfl kk_) ?_
    refine own_go (fun _ kk_ => XS.bipush XL.here hx rfl (hb hby at_145) kk_) ?_
    show own_Fin p.tables e below _ (TL.setTop (mkF m 147 #[.val (.int ksl), .val (.long tl), .second, .val (.long ul), .second, .val (.int mode), .val (.int line), .val (.int colu), .val (.int kx), .val (.ref kd), .val (.int lt_), .val (.int a0_), .val (.int a1_), .val (.int a2_), .val (.int lu_), .val (.int b0_), .val (.int b1_), .unset, .unset, .unset, .unset, .unset, .unset, .unset] [(.int (16 : Int32)), (.long ul)]))
    refine own_go (fun _ kk_ => XS.lushr XL.here hx rfl (hb hby at_147) rfl kk_) ?_
    show own_Fin p.tables e below _ (TL.setTop (mkF m 148 #[.val (.int ksl), .val (.long tl), .second, .val (.long ul), .second, .val (.int mode), .val (.int line), .val (.int colu), .val (.int kx), .val (.ref kd), .val (.int lt_), .val (.int a0_), .val (.int a1_), .val (.int a2_), .val (.int lu_), .val (.int b0_), .val (.int b1_), .unset, .unset, .unset, .unset, .unset, .unset, .unset] [(.long ((ul.toUInt64 >>> ((16 : Int32) &&& 0x3f).toInt64.toUInt64).toInt64))]))
    refine own_go (fun _ kk_ => Jvm.Stand.ldc2J XL hx hown (mvT hZ (hw _ (List.mem_of_getElem? (i := 5) rfl))) (g := (mkF m 148 #[.val (.int ksl), .val (.long tl), .second, .val (.long ul), .second, .val (.int mode), .val (.int line), .val (.int colu), .val (.int kx), .val (.ref kd), .val (.int lt_), .val (.int a0_), .val (.int a1_), .val (.int a2_), .val (.int lu_), .val (.int b0_), .val (.int b1_), .unset, .unset, .unset, .unset, .unset, .unset, .unset] [(.long ((ul.toUInt64 >>> ((16 : Int32) &&& 0x3f).toInt64.toUInt64).toInt64))])) rfl (hb hby at_148) kk_) ?_
    show own_Fin p.tables e below _ (TL.setTop (mkF m 151 #[.val (.int ksl), .val (.long tl), .second, .val (.long ul), .second, .val (.int mode), .val (.int line), .val (.int colu), .val (.int kx), .val (.ref kd), .val (.int lt_), .val (.int a0_), .val (.int a1_), .val (.int a2_), .val (.int lu_), .val (.int b0_), .val (.int b1_), .unset, .unset, .unset, .unset, .unset, .unset, .unset] [(.long (255 : Int64)), (.long ((ul.toUInt64 >>> ((16 : Int32) &&& 0x3f).toInt64.toUInt64).toInt64))]))
    refine own_go (fun _ kk_ => XS.land XL.here hx rfl (hb hby at_151) rfl kk_) ?_
    show own_Fin p.tables e below _ (TL.setTop (mkF m 152 #[.val (.int ksl), .val (.long tl), .second, .val (.long ul), .second, .val (.int mode), .val (.int line), .val (.int colu), .val (.int kx), .val (.ref kd), .val (.int lt_), .val (.int a0_), .val (.int a1_), .val (.int a2_), .val (.int lu_), .val (.int b0_), .val (.int b1_), .unset, .unset, .unset, .unset, .unset, .unset, .unset] [(.long (((ul.toUInt64 >>> ((16 : Int32) &&& 0x3f).toInt64.toUInt64).toInt64) &&& (255 : Int64)))]))
    refine own_go (fun _ kk_ => XS.l2i XL.here hx rfl (hb hby at_152) rfl kk_) ?_
    show own_Fin p.tables e below _ (TL.setTop (mkF m 153 #[.val (.int ksl), .val (.long tl), .second, .val (.long ul), .second, .val (.int mode), .val (.int line), .val (.int colu), .val (.int kx), .val (.ref kd), .val (.int lt_), .val (.int a0_), .val (.int a1_), .val (.int a2_), .val (.int lu_), .val (.int b0_), .val (.int b1_), .unset, .unset, .unset, .unset, .unset, .unset, .unset] [(.int ((((ul.toUInt64 >>> ((16 : Int32) &&& 0x3f).toInt64.toUInt64).toInt64) &&& (255 : Int64)).toInt32))]))
    refine own_go (fun _ kk_ => XS.i2c XL.here hx rfl (hb hby at_153) rfl kk_) ?_
    show own_Fin p.tables e below _ (TL.setTop (mkF m 154 #[.val (.int ksl), .val (.long tl), .second, .val (.long ul), .second, .val (.int mode), .val (.int line), .val (.int colu), .val (.int kx), .val (.ref kd), .val (.int lt_), .val (.int a0_), .val (.int a1_), .val (.int a2_), .val (.int lu_), .val (.int b0_), .val (.int b1_), .unset, .unset, .unset, .unset, .unset, .unset, .unset] [(.int (((((ul.toUInt64 >>> ((16 : Int32) &&& 0x3f).toInt64.toUInt64).toInt64) &&& (255 : Int64)).toInt32).toUInt32.toUInt16.toUInt32.toInt32))]))
    obtain ⟨b2_, q_b2_⟩ : ∃ z : Int32, z = (((((ul.toUInt64 >>> ((16 : Int32) &&& 0x3f).toInt64.toUInt64).toInt64) &&& (255 : Int64)).toInt32).toUInt32.toUInt16.toUInt32.toInt32) := ⟨_, rfl⟩
    rw [← q_b2_]
    have hb2_ : ¬ b2_ < 0 ∧ ¬ (255 : Int32) < b2_ := by rw [q_b2_]; exact own_ch255 _
    refine own_go (fun _ kk_ => XS.istore XL.here hx rfl (hb hby at_154) rfl (l' := #[.val (.int ksl), .val (.long tl), .second, .val (.long ul), .second, .val (.int mode), .val (.int line), .val (.int colu), .val (.int kx), .val (.ref kd), .val (.int lt_), .val (.int a0_), .val (.int a1_), .val (.int a2_), .val (.int lu_), .val (.int b0_), .val (.int b1_), .val (.int b2_), .unset, .unset, .unset, .unset, .unset, .unset]) rfl kk_) ?_
    refine own_go (fun _ kk_ => XS.iload XL.here hx rfl (hb hby at_156) rfl kk_) ?_
    refine own_go (fun _ kk_ => XS.iconst XL.here hx rfl (hb hby at_158) kk_) ?_
    show own_Fin p.tables e below _ (TL.setTop (mkF m 159 #[.val (.int ksl), .val (.long tl), .second, .val (.long ul), .second, .val (.int mode), .val (.int line), .val (.int colu), .val (.int kx), .val (.ref kd), .val (.int lt_), .val (.int a0_), .val (.int a1_), .val (.int a2_), .val (.int lu_), .val (.int b0_), .val (.int b1_), .val (.int b2_), .unset, .unset, .unset, .unset, .unset, .unset] [(.int (3 : Int32)), (.int mode)]))
    refine own_go (fun _ kk_ => XS.iand XL.here hx rfl (hb hby at_159) rfl kk_) ?_
    refine own_go (fun _ kk_ => XS.istore XL.here hx rfl (hb hby at_160) rfl (l' := #[.val (.int ksl), .val (.long tl), .second, .val (.long ul), .second, .val (.int mode), .val (.int line), .val (.int colu), .val (.int kx), .val (.ref kd), .val (.int lt_), .val (.int a0_), .val (.int a1_), .val (.int a2_), .val (.int lu_), .val (.int b0_), .val (.int b1_), .val (.int b2_), .val (.int (mode &&& (3 : Int32))), .unset, .unset, .unset, .unset, .unset]) rfl kk_) ?_
    refine own_go (fun _ kk_ => XS.iload XL.here hx rfl (hb hby at_162) rfl kk_) ?_
    refine own_go (fun _ kk_ => XS.iload XL.here hx rfl (hb hby at_164) rfl kk_) ?_
    refine own_go (fun _ kk_ => XS.iload XL.here hx rfl (hb hby at_166) rfl kk_) ?_
    refine own_go (fun _ kk_ => XS.iload XL.here hx rfl (hb hby at_168) rfl kk_) ?_
    show own_Fin p.tables e below _ (TL.setTop (mkF m 170 #[.val (.int ksl), .val (.long tl), .second, .val (.long ul), .second, .val (.int mode), .val (.int line), .val (.int colu), .val (.int kx), .val (.ref kd), .val (.int lt_), .val (.int a0_), .val (.int a1_), .val (.int a2_), .val (.int lu_), .val (.int b0_), .val (.int b1_), .val (.int b2_), .val (.int (mode &&& (3 : Int32))), .unset, .unset, .unset, .unset, .unset] [(.int a2_), (.int a1_), (.int a0_), (.int lt_)]))
    obtain ⟨_, _, ⟨T135, L135, k135, n135⟩, -, X135, hSn135, hgr135, ⟨Lc135, hQ135, l135, y135, z135, CR135⟩, st135⟩ := callSS XL hx (y := (⟨"com/example/obra/obra/TokenIsPinLaw", "mk", "(ICCC)Ljava/lang/String;"⟩ : MethodName)) hown (mvT hZ (hw _ (List.mem_of_getElem? (i := 6) rfl))) (mvT hZ (hw _ (List.mem_of_getElem? (i := 7) rfl))) (mvT hZ (hw _ (List.mem_of_getElem? (i := 8) rfl))) (mvT hZ (hw _ (List.mem_of_getElem? (i := 9) rfl))) (by decide) (backOfSH (s := s) (W := 0) (rm_mk l Z a0 hw [] hEL lt_ a0_ a1_ a2_ gc h0 n0 (Nat.le_trans Z0 K0.1) ha0_ ha1_ ha2_ S_C hcs O0) hZ (hw _ (List.mem_of_getElem? (i := 9) rfl)) (hw _ (List.mem_of_getElem? (i := 8) rfl)) (by decide) (by decide) hEL CH) (g := (mkF m 170 #[.val (.int ksl), .val (.long tl), .second, .val (.long ul), .second, .val (.int mode), .val (.int line), .val (.int colu), .val (.int kx), .val (.ref kd), .val (.int lt_), .val (.int a0_), .val (.int a1_), .val (.int a2_), .val (.int lu_), .val (.int b0_), .val (.int b1_), .val (.int b2_), .val (.int (mode &&& (3 : Int32))), .unset, .unset, .unset, .unset, .unset] [(.int a2_), (.int a1_), (.int a0_), (.int lt_)])) rfl (by rw [hml]; rfl) (argsL := [(.int lt_), (.int a0_), (.int a1_), (.int a2_)]) (rest := []) (lenOf pd_13 rfl) rfl (by show 2 * 0 + _ ≤ _; exact Nat.le_of_eq rfl) (hb hby at_170) (fun _ _ => ⟨rfl, eL, (by decide : 0 + 6 ≤ _), (by decide : 0 + 12 ≤ _)⟩)
    dsimp only [Pt.U, Pt.locs, Pt.cells, Pt.slots] at X135 l135 y135 z135 st135 hQ135 hSn135 hgr135 CR135
    subst l135 y135 z135
    replace hS := foldS hS (show _ ≤ TL.heap.size by rw [eL]; exact hk) hSn135 hgr135
    replace hk : T135.heap.size ≤ T135.heap.size := Nat.le_refl _
    replace hZ : Z.Warmed39 (s.setVm T135.vm).vm := State.Warmed39.trans (t := s.setVm s.vm) hZ hSn135.1
    replace hown : (s.setVm T135.vm).vm.findClass "com/example/obra/obra/TokenIsPinLaw" = some m.cls := by rw [show (s.setVm T135.vm).vm = T135.vm from rfl, hSn135.1.alike.findClass]; exact hown
    replace X135 : Stand p l e room_1 (s.setVm T135.vm) m #[(.int ksl), (.long tl), (.long ul), (.int mode), (.int line), (.int colu)] below meth c T135 _ _ _ := X135
    replace CR := CR.trans CR135
    replace CH := CR135.1
    obtain ⟨xr135, tr135, rfl, N135q, KK135, SS135⟩ := hQ135
    have N135 := Fr.app N0 N135q
    replace O0 := O0.keep KK135 all0
    have K136 := K0.trans KK135 all0
    refine own_go (fun _ kk_ => st135.trans kk_) ?_
    refine own_go (fun _ kk_ => XS.astore X135.here hx rfl (hb hby at_173) rfl rfl (l' := #[.val (.int ksl), .val (.long tl), .second, .val (.long ul), .second, .val (.int mode), .val (.int line), .val (.int colu), .val (.int kx), .val (.ref kd), .val (.int lt_), .val (.int a0_), .val (.int a1_), .val (.int a2_), .val (.int lu_), .val (.int b0_), .val (.int b1_), .val (.int b2_), .val (.int (mode &&& (3 : Int32))), .val (.ref xr135), .unset, .unset, .unset, .unset]) rfl kk_) ?_
    show own_Fin p.tables e below _ (T135.setTop (mkF m 175 #[.val (.int ksl), .val (.long tl), .second, .val (.long ul), .second, .val (.int mode), .val (.int line), .val (.int colu), .val (.int kx), .val (.ref kd), .val (.int lt_), .val (.int a0_), .val (.int a1_), .val (.int a2_), .val (.int lu_), .val (.int b0_), .val (.int b1_), .val (.int b2_), .val (.int (mode &&& (3 : Int32))), .val (.ref xr135), .unset, .unset, .unset, .unset] []))
    obtain ⟨T137, h137, X137, e137, E137, A137, D137, -, st137⟩ := newO X135 hx hZ hown (hw _ (List.mem_of_getElem? (i := 32) rfl)) (hw _ (List.mem_of_getElem? (i := 33) rfl)) (hw _ (List.mem_of_getElem? (i := 34) rfl)) rfl (g := (mkF m 175 #[.val (.int ksl), .val (.long tl), .second, .val (.long ul), .second, .val (.int mode), .val (.int line), .val (.int colu), .val (.int kx), .val (.ref kd), .val (.int lt_), .val (.int a0_), .val (.int a1_), .val (.int a2_), .val (.int lu_), .val (.int b0_), .val (.int b1_), .val (.int b2_), .val (.int (mode &&& (3 : Int32))), .val (.ref xr135), .unset, .unset, .unset, .unset] [])) rfl (hb hby at_175) (by decide) (by decide)
    obtain ⟨b137, g137⟩ : ∃ z, z = T135.heap.size := ⟨_, rfl⟩
    rw [← g137] at A137 D137 st137
    have sz_b137 : h0.size ≤ b137 := Nat.le_trans K136.1 (Nat.le_of_eq g137.symm)
    have g_b137 : n0 ≤ b137 := Nat.le_trans Z0 sz_b137
    have ne138 : xr135 ≠ b137 := Nat.ne_of_lt (Nat.lt_of_lt_of_le SS135.lt (Nat.le_of_eq g137.symm))
    have ne139 : tr135 ≠ b137 := Nat.ne_of_lt (Nat.lt_of_lt_of_le SS135.ltt (Nat.le_of_eq g137.symm))
    have S_b137 := Safe.new (Z := Z) (EL := consts_1) (vm := T135.vm) (Nat.le_of_eq g137.symm)
    replace S_b137 := Safe.ext E137 CH S_b137
    replace CR := CR.trans (CHr.ext E137 CH)
    replace CH := CH.ext E137
    replace hk := Nat.le_trans hk E137.1
    replace O0 := O0.ext E137
    replace SS135 := SS135.ext E137
    have K140 := K136.ext E137
    have F137_kind : Fld Z h137 b137 "com/example/obra/obra/Token" "kind" "Lcom/example/obra/obra/Token$Kind;" .null := D137 (Or.inr (hw _ (List.mem_of_getElem? (i := 45) rfl))) (ty := (.object "com/example/obra/obra/Token$Kind")) (by decide)
    have F137_text : Fld Z h137 b137 "com/example/obra/obra/Token" "text" "Ljava/lang/String;" .null := D137 (Or.inr (hw _ (List.mem_of_getElem? (i := 47) rfl))) (ty := (.object "java/lang/String")) (by decide)
    have F137_line : Fld Z h137 b137 "com/example/obra/obra/Token" "line" "I" (.int (0 : Int32)) := D137 (Or.inr (hw _ (List.mem_of_getElem? (i := 49) rfl))) (ty := .int) (by decide)
    have F137_column : Fld Z h137 b137 "com/example/obra/obra/Token" "column" "I" (.int (0 : Int32)) := D137 (Or.inr (hw _ (List.mem_of_getElem? (i := 51) rfl))) (ty := .int) (by decide)
    refine own_go st137 ?_
    refine own_go (fun _ kk_ => XS.dup X137.here hx rfl (hb hby at_178) rfl rfl kk_) ?_
    refine own_go (fun _ kk_ => XS.aload X137.here hx rfl (hb hby at_179) rfl rfl kk_) ?_
    refine own_go (fun _ kk_ => XS.aload X137.here hx rfl (hb hby at_181) rfl rfl kk_) ?_
    refine own_go (fun _ kk_ => XS.iload X137.here hx rfl (hb hby at_183) rfl kk_) ?_
    refine own_go (fun _ kk_ => XS.iload X137.here hx rfl (hb hby at_185) rfl kk_) ?_
    show own_Fin p.tables e below _ (T137.setTop (mkF m 187 #[.val (.int ksl), .val (.long tl), .second, .val (.long ul), .second, .val (.int mode), .val (.int line), .val (.int colu), .val (.int kx), .val (.ref kd), .val (.int lt_), .val (.int a0_), .val (.int a1_), .val (.int a2_), .val (.int lu_), .val (.int b0_), .val (.int b1_), .val (.int b2_), .val (.int (mode &&& (3 : Int32))), .val (.ref xr135), .unset, .unset, .unset, .unset] [(.int colu), (.int line), (.ref xr135), (.ref kd), (.ref b137), (.ref b137)]))
    obtain ⟨_, _, ⟨T141, L141, k141, n141⟩, -, X141, ⟨Lc141, hQ141, l141, y141, z141⟩, st141⟩ := X137.specialBack hx (y := (⟨"com/example/obra/obra/Token", "<init>", "(Lcom/example/obra/obra/Token$Kind;Ljava/lang/String;II)V"⟩ : MethodName)) rfl hown (mvT hZ (hw _ (List.mem_of_getElem? (i := 35) rfl))) (mvT hZ (hw _ (List.mem_of_getElem? (i := 36) rfl))) (mvT hZ (hw _ (List.mem_of_getElem? (i := 37) rfl))) (by decide) (backOf (W := 1) (rm_tok l Z a0 hw [] b137 kd xr135 line colu h137 n0 (Nat.le_trans Z0 K140.1) A137 F137_kind F137_text F137_line F137_column g_b137) hZ (hw _ (List.mem_of_getElem? (i := 37) rfl)) (hw _ (List.mem_of_getElem? (i := 34) rfl)) (by decide) (by decide)) (g := (mkF m 187 #[.val (.int ksl), .val (.long tl), .second, .val (.long ul), .second, .val (.int mode), .val (.int line), .val (.int colu), .val (.int kx), .val (.ref kd), .val (.int lt_), .val (.int a0_), .val (.int a1_), .val (.int a2_), .val (.int lu_), .val (.int b0_), .val (.int b1_), .val (.int b2_), .val (.int (mode &&& (3 : Int32))), .val (.ref xr135), .unset, .unset, .unset, .unset] [(.int colu), (.int line), (.ref xr135), (.ref kd), (.ref b137), (.ref b137)])) rfl (by rw [hml]; rfl) (Steps.refl _) (a := b137) (argsL := [(.ref kd), (.ref xr135), (.int line), (.int colu)]) (rest := [(.ref b137)]) (lenOf pd_14 rfl) rfl (by show 2 * 0 + _ ≤ _; exact Nat.le_of_eq rfl) (hb hby at_187) (fun _ _ => ⟨rfl, e137, (by decide : 7 + 0 ≤ _), (by decide : 16 + 0 ≤ _)⟩)
    dsimp only [Pt.U, Pt.locs, Pt.cells, Pt.slots] at X141 l141 y141 z141 st141 hQ141
    subst l141 y141 z141
    obtain ⟨rfl, N141q, KK141, G141_kind, G141_text, G141_line, G141_column⟩ := hQ141
    have N141 := Fr.app N135 N141q
    have hs142 : ∀ x ∈ [b137], Safe Z consts_1 T135.vm h137 x := (sfS S_b137 sf0)
    replace S_b137 := Safe.keep KK141 hs142 CH S_b137
    replace CR := CR.trans (CHr.keep KK141 hs142 CH)
    replace CH := CHv.keep KK141 hs142 CH
    replace hk := Nat.le_trans hk KK141.1
    replace O0 := O0.keep KK141 (allS g_b137 (all0))
    replace SS135 := SS135.keep KK141 (ninS ne138 nin0) (ninS ne139 nin0)
    replace A137 := A137.keep KK141
    have K143 := K140.trans KK141 (allS (Or.inr sz_b137) all0)
    refine own_go (fun _ kk_ => st141.trans kk_) ?_
    refine own_go (fun _ kk_ => XS.astore X141.here hx rfl (hb hby at_190) rfl rfl (l' := #[.val (.int ksl), .val (.long tl), .second, .val (.long ul), .second, .val (.int mode), .val (.int line), .val (.int colu), .val (.int kx), .val (.ref kd), .val (.int lt_), .val (.int a0_), .val (.int a1_), .val (.int a2_), .val (.int lu_), .val (.int b0_), .val (.int b1_), .val (.int b2_), .val (.int (mode &&& (3 : Int32))), .val (.ref xr135), .val (.ref b137), .unset, .unset, .unset]) rfl kk_) ?_
    refine own_go (fun _ kk_ => XS.iload X141.here hx rfl (hb hby at_192) rfl kk_) ?_
    show own_Fin p.tables e below _ (T141.setTop (mkF m 194 #[.val (.int ksl), .val (.long tl), .second, .val (.long ul), .second, .val (.int mode), .val (.int line), .val (.int colu), .val (.int kx), .val (.ref kd), .val (.int lt_), .val (.int a0_), .val (.int a1_), .val (.int a2_), .val (.int lu_), .val (.int b0_), .val (.int b1_), .val (.int b2_), .val (.int (mode &&& (3 : Int32))), .val (.ref xr135), .val (.ref b137), .unset, .unset, .unset] [(.int (mode &&& (3 : Int32)))]))
    by_cases hc144 : (mode &&& (3 : Int32)) = (0 : Int32)
    · skip
      refine own_go (fun _ kk_ => XS.ifNo X141.here hx rfl (hb hby at_194) rfl ((if0 _ _).trans (teq hc144).2) kk_) ?_
      refine own_go (fun _ kk_ => XS.iload X141.here hx rfl (hb hby at_197) rfl kk_) ?_
      refine own_go (fun _ kk_ => XS.iload X141.here hx rfl (hb hby at_199) rfl kk_) ?_
      refine own_go (fun _ kk_ => XS.iload X141.here hx rfl (hb hby at_201) rfl kk_) ?_
      refine own_go (fun _ kk_ => XS.iload X141.here hx rfl (hb hby at_203) rfl kk_) ?_
      show own_Fin p.tables e below _ (T141.setTop (mkF m 205 #[.val (.int ksl), .val (.long tl), .second, .val (.long ul), .second, .val (.int mode), .val (.int line), .val (.int colu), .val (.int kx), .val (.ref kd), .val (.int lt_), .val (.int a0_), .val (.int a1_), .val (.int a2_), .val (.int lu_), .val (.int b0_), .val (.int b1_), .val (.int b2_), .val (.int (mode &&& (3 : Int32))), .val (.ref xr135), .val (.ref b137), .unset, .unset, .unset] [(.int a2_), (.int a1_), (.int a0_), (.int lt_)]))
      obtain ⟨_, _, ⟨T145, L145, k145, n145⟩, -, X145, hSn145, hgr145, ⟨Lc145, hQ145, l145, y145, z145, CR145⟩, st145⟩ := callSS X141 hx (y := (⟨"com/example/obra/obra/TokenIsPinLaw", "mk", "(ICCC)Ljava/lang/String;"⟩ : MethodName)) hown (mvT hZ (hw _ (List.mem_of_getElem? (i := 6) rfl))) (mvT hZ (hw _ (List.mem_of_getElem? (i := 7) rfl))) (mvT hZ (hw _ (List.mem_of_getElem? (i := 8) rfl))) (mvT hZ (hw _ (List.mem_of_getElem? (i := 9) rfl))) (by decide) (backOfSH (s := s) (W := 0) (rm_mk l Z a0 hw [] hEL lt_ a0_ a1_ a2_ gc T141.heap n0 (Nat.le_trans Z0 K143.1) ha0_ ha1_ ha2_ S_C hcs O0) hZ (hw _ (List.mem_of_getElem? (i := 9) rfl)) (hw _ (List.mem_of_getElem? (i := 8) rfl)) (by decide) (by decide) hEL CH) (g := (mkF m 205 #[.val (.int ksl), .val (.long tl), .second, .val (.long ul), .second, .val (.int mode), .val (.int line), .val (.int colu), .val (.int kx), .val (.ref kd), .val (.int lt_), .val (.int a0_), .val (.int a1_), .val (.int a2_), .val (.int lu_), .val (.int b0_), .val (.int b1_), .val (.int b2_), .val (.int (mode &&& (3 : Int32))), .val (.ref xr135), .val (.ref b137), .unset, .unset, .unset] [(.int a2_), (.int a1_), (.int a0_), (.int lt_)])) rfl (by rw [hml]; rfl) (argsL := [(.int lt_), (.int a0_), (.int a1_), (.int a2_)]) (rest := []) (lenOf pd_13 rfl) rfl (by show 2 * 0 + _ ≤ _; exact Nat.le_of_eq rfl) (hb hby at_205) (fun _ _ => ⟨rfl, rfl, (by decide : 7 + 6 ≤ _), (by decide : 16 + 12 ≤ _)⟩)
      dsimp only [Pt.U, Pt.locs, Pt.cells, Pt.slots] at X145 l145 y145 z145 st145 hQ145 hSn145 hgr145 CR145
      subst l145 y145 z145
      replace hS := foldS hS hk hSn145 hgr145
      replace hk : T145.heap.size ≤ T145.heap.size := Nat.le_refl _
      replace hZ : Z.Warmed39 (s.setVm T145.vm).vm := State.Warmed39.trans (t := s.setVm T135.vm) hZ hSn145.1
      replace hown : (s.setVm T145.vm).vm.findClass "com/example/obra/obra/TokenIsPinLaw" = some m.cls := by rw [show (s.setVm T145.vm).vm = T145.vm from rfl, hSn145.1.alike.findClass]; exact hown
      replace X145 : Stand p l e room_1 (s.setVm T145.vm) m #[(.int ksl), (.long tl), (.long ul), (.int mode), (.int line), (.int colu)] below meth c T145 _ _ _ := X145
      replace S_b137 := CR145.safe A137.lt S_b137
      replace CR := CR.trans CR145
      replace CH := CR145.1
      obtain ⟨xr145, tr145, rfl, N145q, KK145, SS145⟩ := hQ145
      have N145 := Fr.app N141 N145q
      replace O0 := O0.keep KK145 all0
      replace SS135 := SS135.keep KK145 nin0 nin0
      replace A137 := A137.keep KK145
      replace G141_kind := G141_kind.keep KK145 nin0
      replace G141_text := G141_text.keep KK145 nin0
      replace G141_line := G141_line.keep KK145 nin0
      replace G141_column := G141_column.keep KK145 nin0
      have K146 := K143.trans KK145 all0
      refine own_go (fun _ kk_ => st145.trans kk_) ?_
      refine own_go (fun _ kk_ => XS.astore X145.here hx rfl (hb hby at_208) rfl rfl (l' := #[.val (.int ksl), .val (.long tl), .second, .val (.long ul), .second, .val (.int mode), .val (.int line), .val (.int colu), .val (.int kx), .val (.ref kd), .val (.int lt_), .val (.int a0_), .val (.int a1_), .val (.int a2_), .val (.int lu_), .val (.int b0_), .val (.int b1_), .val (.int b2_), .val (.int (mode &&& (3 : Int32))), .val (.ref xr135), .val (.ref b137), .val (.ref xr145), .unset, .unset]) rfl kk_) ?_
      refine own_go (fun _ kk_ => XS.iconst X145.here hx rfl (hb hby at_210) kk_) ?_
      refine own_go (fun _ kk_ => XS.istore X145.here hx rfl (hb hby at_211) rfl (l' := #[.val (.int ksl), .val (.long tl), .second, .val (.long ul), .second, .val (.int mode), .val (.int line), .val (.int colu), .val (.int kx), .val (.ref kd), .val (.int lt_), .val (.int a0_), .val (.int a1_), .val (.int a2_), .val (.int lu_), .val (.int b0_), .val (.int b1_), .val (.int b2_), .val (.int (mode &&& (3 : Int32))), .val (.ref xr135), .val (.ref b137), .val (.ref xr145), .val (.int (1 : Int32)), .unset]) rfl kk_) ?_
      refine own_go (fun _ kk_ => XS.goto X145.here hx rfl (pc0 := 213) (pc' := 308) rfl (hb hby at_213) (by decide) (by decide) kk_) ?_
      refine own_go (fun _ kk_ => XS.iload X145.here hx rfl (hb hby at_308) rfl kk_) ?_
      refine own_go (fun _ kk_ => XS.iconst X145.here hx rfl (hb hby at_310) kk_) ?_
      show own_Fin p.tables e below _ (T145.setTop (mkF m 311 #[.val (.int ksl), .val (.long tl), .second, .val (.long ul), .second, .val (.int mode), .val (.int line), .val (.int colu), .val (.int kx), .val (.ref kd), .val (.int lt_), .val (.int a0_), .val (.int a1_), .val (.int a2_), .val (.int lu_), .val (.int b0_), .val (.int b1_), .val (.int b2_), .val (.int (mode &&& (3 : Int32))), .val (.ref xr135), .val (.ref b137), .val (.ref xr145), .val (.int (1 : Int32)), .unset] [(.int (1 : Int32)), (.int kx)]))
      by_cases hc147 : kx = (1 : Int32)
      · skip
        refine own_go (fun _ kk_ => XS.icmpYes X145.here hx rfl (pc0 := 311) (pc' := 320) rfl (hb hby at_311) rfl (teq hc147).1 (by decide) (by decide) kk_) ?_
        refine own_go (fun _ kk_ => XS.iload X145.here hx rfl (hb hby at_320) rfl kk_) ?_
        show own_Fin p.tables e below _ (T145.setTop (mkF m 322 #[.val (.int ksl), .val (.long tl), .second, .val (.long ul), .second, .val (.int mode), .val (.int line), .val (.int colu), .val (.int kx), .val (.ref kd), .val (.int lt_), .val (.int a0_), .val (.int a1_), .val (.int a2_), .val (.int lu_), .val (.int b0_), .val (.int b1_), .val (.int b2_), .val (.int (mode &&& (3 : Int32))), .val (.ref xr135), .val (.ref b137), .val (.ref xr145), .val (.int (1 : Int32)), .unset] [(.int (1 : Int32))]))
        refine own_go (fun _ kk_ => XS.ifNo X145.here hx rfl (hb hby at_322) rfl ((if0 _ _).trans (feq (by decide : ¬ (1 : Int32) = (0 : Int32))).1) kk_) ?_
        refine own_go (fun _ kk_ => XS.iconst X145.here hx rfl (hb hby at_325) kk_) ?_
        refine own_go (fun _ kk_ => XS.goto X145.here hx rfl (pc0 := 326) (pc' := 330) rfl (hb hby at_326) (by decide) (by decide) kk_) ?_
        refine own_go (fun _ kk_ => XS.istore X145.here hx rfl (hb hby at_330) rfl (l' := #[.val (.int ksl), .val (.long tl), .second, .val (.long ul), .second, .val (.int mode), .val (.int line), .val (.int colu), .val (.int kx), .val (.ref kd), .val (.int lt_), .val (.int a0_), .val (.int a1_), .val (.int a2_), .val (.int lu_), .val (.int b0_), .val (.int b1_), .val (.int b2_), .val (.int (mode &&& (3 : Int32))), .val (.ref xr135), .val (.ref b137), .val (.ref xr145), .val (.int (1 : Int32)), .val (.int (1 : Int32))]) rfl kk_) ?_
        refine own_go (fun _ kk_ => XS.aload X145.here hx rfl (hb hby at_332) rfl rfl kk_) ?_
        refine own_go (fun _ kk_ => XS.aload X145.here hx rfl (hb hby at_334) rfl rfl kk_) ?_
        show own_Fin p.tables e below _ (T145.setTop (mkF m 336 #[.val (.int ksl), .val (.long tl), .second, .val (.long ul), .second, .val (.int mode), .val (.int line), .val (.int colu), .val (.int kx), .val (.ref kd), .val (.int lt_), .val (.int a0_), .val (.int a1_), .val (.int a2_), .val (.int lu_), .val (.int b0_), .val (.int b1_), .val (.int b2_), .val (.int (mode &&& (3 : Int32))), .val (.ref xr135), .val (.ref b137), .val (.ref xr145), .val (.int (1 : Int32)), .val (.int (1 : Int32))] [(.ref xr145), (.ref b137)]))
        obtain ⟨cq148, kq148, qa148, qb148, qc148⟩ := isOf hZ rfl A137
        obtain ⟨_, _, ⟨T148, L148, k148, n148⟩, -, X148, ⟨Lc148, hQ148, l148, y148, z148⟩, st148⟩ := X145.virtualBack hx (y := (⟨"com/example/obra/obra/Token", "is", "(Ljava/lang/String;)Z"⟩ : MethodName)) (z := (⟨"com/example/obra/obra/Token", "is", "(Ljava/lang/String;)Z"⟩ : MethodName)) hown (mvT hZ (hw _ (List.mem_of_getElem? (i := 52) rfl))) (mvT hZ (hw _ (List.mem_of_getElem? (i := 53) rfl))) (own_notface (args := #[]) (mvT hZ (hw _ (List.mem_of_getElem? (i := 55) rfl))) rfl) (mvT hZ (hw _ (List.mem_of_getElem? (i := 55) rfl))) (mvT hZ (hw _ (List.mem_of_getElem? (i := 54) rfl))) (by decide) (backOf (W := 0) (rm_isS l Z a0 hw [] b137 xr145 tr145 (own_mk lt_ a0_ a1_ a2_) kd xr135 tr135 (own_mk lt_ a0_ a1_ a2_) kk ks gc T145.heap n0 (Nat.le_trans Z0 K146.1) G141_kind G141_text SS135 SS145 S_kk S_ks S_C hcs O0) hZ (hw _ (List.mem_of_getElem? (i := 56) rfl)) (hw _ (List.mem_of_getElem? (i := 34) rfl)) (by decide) (by decide)) qa148 qc148 (g := (mkF m 336 #[.val (.int ksl), .val (.long tl), .second, .val (.long ul), .second, .val (.int mode), .val (.int line), .val (.int colu), .val (.int kx), .val (.ref kd), .val (.int lt_), .val (.int a0_), .val (.int a1_), .val (.int a2_), .val (.int lu_), .val (.int b0_), .val (.int b1_), .val (.int b2_), .val (.int (mode &&& (3 : Int32))), .val (.ref xr135), .val (.ref b137), .val (.ref xr145), .val (.int (1 : Int32)), .val (.int (1 : Int32))] [(.ref xr145), (.ref b137)])) rfl (by rw [hml]; rfl) (Steps.refl _) (argsL := [(.ref xr145)]) (rest := []) (lenOf pd_15 rfl) rfl (by show 2 * 0 + _ ≤ _; exact Nat.le_of_eq rfl) (hb hby at_336) (fun _ _ => ⟨rfl, rfl, (by decide : 13 + 0 ≤ _), (by decide : 28 + 0 ≤ _)⟩)
        dsimp only [Pt.U, Pt.locs, Pt.cells, Pt.slots] at X148 l148 y148 z148 st148 hQ148
        subst l148 y148 z148
        obtain ⟨z148, rfl, N148q, e148, hz148⟩ := hQ148
        have N148 := Fr.app N145 N148q
        refine own_go (fun _ kk_ => st148.trans kk_) ?_
        refine own_go (fun _ kk_ => XS.iload X148.here hx rfl (hb hby at_339) rfl kk_) ?_
        show own_Fin p.tables e below _ (T148.setTop (mkF m 341 #[.val (.int ksl), .val (.long tl), .second, .val (.long ul), .second, .val (.int mode), .val (.int line), .val (.int colu), .val (.int kx), .val (.ref kd), .val (.int lt_), .val (.int a0_), .val (.int a1_), .val (.int a2_), .val (.int lu_), .val (.int b0_), .val (.int b1_), .val (.int b2_), .val (.int (mode &&& (3 : Int32))), .val (.ref xr135), .val (.ref b137), .val (.ref xr145), .val (.int (1 : Int32)), .val (.int (1 : Int32))] [(.int (1 : Int32)), (.int z148)]))
        have hfin : z148 = (1 : Int32) := own_f1 hz148 (hkd.elim (fun q => q.2) (fun q => absurd (Or.inl hc147) q.1)) rfl
        refine own_go (fun _ kk_ => XS.icmpNo X148.here hx rfl (hb hby at_341) rfl (teq hfin).2 kk_) ?_
        refine own_go (fun _ kk_ => XS.iconst X148.here hx rfl (hb hby at_344) kk_) ?_
        refine own_go (fun _ kk_ => XS.goto X148.here hx rfl (pc0 := 345) (pc' := 349) rfl (hb hby at_345) (by decide) (by decide) kk_) ?_
        show own_Fin p.tables e below _ (T148.setTop (mkF m 349 #[.val (.int ksl), .val (.long tl), .second, .val (.long ul), .second, .val (.int mode), .val (.int line), .val (.int colu), .val (.int kx), .val (.ref kd), .val (.int lt_), .val (.int a0_), .val (.int a1_), .val (.int a2_), .val (.int lu_), .val (.int b0_), .val (.int b1_), .val (.int b2_), .val (.int (mode &&& (3 : Int32))), .val (.ref xr135), .val (.ref b137), .val (.ref xr145), .val (.int (1 : Int32)), .val (.int (1 : Int32))] [(.int (1 : Int32))]))
        have CRz : CHr Z consts_1 s.vm s.heap T148.vm T148.heap := by
          rw [hh, e148]
          exact CR.trans (CHv.at X148 hZ hEL CH)
        refine own_retW X148 hx Bd hS (show _ ≤ T148.heap.size by rw [e148]; exact hk) (t := .boolean) Bd.returns rfl (Or.inl ⟨rfl, by simp, _, rfl⟩) (hb hby at_349) CRz ?_ (by decide) (by decide)
        show (Q_rm_law Z ksl tl ul mode line colu gc kn kk ku ks ke h0 n0) (some (.int (1 : Int32))) T148.heap _
        rw [e148]
        exact ⟨rfl, N148⟩
      · skip
        refine own_go (fun _ kk_ => XS.icmpNo X145.here hx rfl (hb hby at_311) rfl (feq hc147).1 kk_) ?_
        refine own_go (fun _ kk_ => XS.iload X145.here hx rfl (hb hby at_314) rfl kk_) ?_
        refine own_go (fun _ kk_ => XS.iconst X145.here hx rfl (hb hby at_316) kk_) ?_
        show own_Fin p.tables e below _ (T145.setTop (mkF m 317 #[.val (.int ksl), .val (.long tl), .second, .val (.long ul), .second, .val (.int mode), .val (.int line), .val (.int colu), .val (.int kx), .val (.ref kd), .val (.int lt_), .val (.int a0_), .val (.int a1_), .val (.int a2_), .val (.int lu_), .val (.int b0_), .val (.int b1_), .val (.int b2_), .val (.int (mode &&& (3 : Int32))), .val (.ref xr135), .val (.ref b137), .val (.ref xr145), .val (.int (1 : Int32)), .unset] [(.int (3 : Int32)), (.int kx)]))
        by_cases hc149 : kx = (3 : Int32)
        · skip
          refine own_go (fun _ kk_ => XS.icmpNo X145.here hx rfl (hb hby at_317) rfl (teq hc149).2 kk_) ?_
          refine own_go (fun _ kk_ => XS.iload X145.here hx rfl (hb hby at_320) rfl kk_) ?_
          show own_Fin p.tables e below _ (T145.setTop (mkF m 322 #[.val (.int ksl), .val (.long tl), .second, .val (.long ul), .second, .val (.int mode), .val (.int line), .val (.int colu), .val (.int kx), .val (.ref kd), .val (.int lt_), .val (.int a0_), .val (.int a1_), .val (.int a2_), .val (.int lu_), .val (.int b0_), .val (.int b1_), .val (.int b2_), .val (.int (mode &&& (3 : Int32))), .val (.ref xr135), .val (.ref b137), .val (.ref xr145), .val (.int (1 : Int32)), .unset] [(.int (1 : Int32))]))
          refine own_go (fun _ kk_ => XS.ifNo X145.here hx rfl (hb hby at_322) rfl ((if0 _ _).trans (feq (by decide : ¬ (1 : Int32) = (0 : Int32))).1) kk_) ?_
          refine own_go (fun _ kk_ => XS.iconst X145.here hx rfl (hb hby at_325) kk_) ?_
          refine own_go (fun _ kk_ => XS.goto X145.here hx rfl (pc0 := 326) (pc' := 330) rfl (hb hby at_326) (by decide) (by decide) kk_) ?_
          refine own_go (fun _ kk_ => XS.istore X145.here hx rfl (hb hby at_330) rfl (l' := #[.val (.int ksl), .val (.long tl), .second, .val (.long ul), .second, .val (.int mode), .val (.int line), .val (.int colu), .val (.int kx), .val (.ref kd), .val (.int lt_), .val (.int a0_), .val (.int a1_), .val (.int a2_), .val (.int lu_), .val (.int b0_), .val (.int b1_), .val (.int b2_), .val (.int (mode &&& (3 : Int32))), .val (.ref xr135), .val (.ref b137), .val (.ref xr145), .val (.int (1 : Int32)), .val (.int (1 : Int32))]) rfl kk_) ?_
          refine own_go (fun _ kk_ => XS.aload X145.here hx rfl (hb hby at_332) rfl rfl kk_) ?_
          refine own_go (fun _ kk_ => XS.aload X145.here hx rfl (hb hby at_334) rfl rfl kk_) ?_
          show own_Fin p.tables e below _ (T145.setTop (mkF m 336 #[.val (.int ksl), .val (.long tl), .second, .val (.long ul), .second, .val (.int mode), .val (.int line), .val (.int colu), .val (.int kx), .val (.ref kd), .val (.int lt_), .val (.int a0_), .val (.int a1_), .val (.int a2_), .val (.int lu_), .val (.int b0_), .val (.int b1_), .val (.int b2_), .val (.int (mode &&& (3 : Int32))), .val (.ref xr135), .val (.ref b137), .val (.ref xr145), .val (.int (1 : Int32)), .val (.int (1 : Int32))] [(.ref xr145), (.ref b137)]))
          obtain ⟨cq150, kq150, qa150, qb150, qc150⟩ := isOf hZ rfl A137
          obtain ⟨_, _, ⟨T150, L150, k150, n150⟩, -, X150, ⟨Lc150, hQ150, l150, y150, z150⟩, st150⟩ := X145.virtualBack hx (y := (⟨"com/example/obra/obra/Token", "is", "(Ljava/lang/String;)Z"⟩ : MethodName)) (z := (⟨"com/example/obra/obra/Token", "is", "(Ljava/lang/String;)Z"⟩ : MethodName)) hown (mvT hZ (hw _ (List.mem_of_getElem? (i := 52) rfl))) (mvT hZ (hw _ (List.mem_of_getElem? (i := 53) rfl))) (own_notface (args := #[]) (mvT hZ (hw _ (List.mem_of_getElem? (i := 55) rfl))) rfl) (mvT hZ (hw _ (List.mem_of_getElem? (i := 55) rfl))) (mvT hZ (hw _ (List.mem_of_getElem? (i := 54) rfl))) (by decide) (backOf (W := 0) (rm_isS l Z a0 hw [] b137 xr145 tr145 (own_mk lt_ a0_ a1_ a2_) kd xr135 tr135 (own_mk lt_ a0_ a1_ a2_) kk ks gc T145.heap n0 (Nat.le_trans Z0 K146.1) G141_kind G141_text SS135 SS145 S_kk S_ks S_C hcs O0) hZ (hw _ (List.mem_of_getElem? (i := 56) rfl)) (hw _ (List.mem_of_getElem? (i := 34) rfl)) (by decide) (by decide)) qa150 qc150 (g := (mkF m 336 #[.val (.int ksl), .val (.long tl), .second, .val (.long ul), .second, .val (.int mode), .val (.int line), .val (.int colu), .val (.int kx), .val (.ref kd), .val (.int lt_), .val (.int a0_), .val (.int a1_), .val (.int a2_), .val (.int lu_), .val (.int b0_), .val (.int b1_), .val (.int b2_), .val (.int (mode &&& (3 : Int32))), .val (.ref xr135), .val (.ref b137), .val (.ref xr145), .val (.int (1 : Int32)), .val (.int (1 : Int32))] [(.ref xr145), (.ref b137)])) rfl (by rw [hml]; rfl) (Steps.refl _) (argsL := [(.ref xr145)]) (rest := []) (lenOf pd_15 rfl) rfl (by show 2 * 0 + _ ≤ _; exact Nat.le_of_eq rfl) (hb hby at_336) (fun _ _ => ⟨rfl, rfl, (by decide : 13 + 0 ≤ _), (by decide : 28 + 0 ≤ _)⟩)
          dsimp only [Pt.U, Pt.locs, Pt.cells, Pt.slots] at X150 l150 y150 z150 st150 hQ150
          subst l150 y150 z150
          obtain ⟨z150, rfl, N150q, e150, hz150⟩ := hQ150
          have N150 := Fr.app N145 N150q
          refine own_go (fun _ kk_ => st150.trans kk_) ?_
          refine own_go (fun _ kk_ => XS.iload X150.here hx rfl (hb hby at_339) rfl kk_) ?_
          show own_Fin p.tables e below _ (T150.setTop (mkF m 341 #[.val (.int ksl), .val (.long tl), .second, .val (.long ul), .second, .val (.int mode), .val (.int line), .val (.int colu), .val (.int kx), .val (.ref kd), .val (.int lt_), .val (.int a0_), .val (.int a1_), .val (.int a2_), .val (.int lu_), .val (.int b0_), .val (.int b1_), .val (.int b2_), .val (.int (mode &&& (3 : Int32))), .val (.ref xr135), .val (.ref b137), .val (.ref xr145), .val (.int (1 : Int32)), .val (.int (1 : Int32))] [(.int (1 : Int32)), (.int z150)]))
          have hfin : z150 = (1 : Int32) := own_f1 hz150 (hkd.elim (fun q => q.2) (fun q => absurd (Or.inr hc149) q.1)) rfl
          refine own_go (fun _ kk_ => XS.icmpNo X150.here hx rfl (hb hby at_341) rfl (teq hfin).2 kk_) ?_
          refine own_go (fun _ kk_ => XS.iconst X150.here hx rfl (hb hby at_344) kk_) ?_
          refine own_go (fun _ kk_ => XS.goto X150.here hx rfl (pc0 := 345) (pc' := 349) rfl (hb hby at_345) (by decide) (by decide) kk_) ?_
          show own_Fin p.tables e below _ (T150.setTop (mkF m 349 #[.val (.int ksl), .val (.long tl), .second, .val (.long ul), .second, .val (.int mode), .val (.int line), .val (.int colu), .val (.int kx), .val (.ref kd), .val (.int lt_), .val (.int a0_), .val (.int a1_), .val (.int a2_), .val (.int lu_), .val (.int b0_), .val (.int b1_), .val (.int b2_), .val (.int (mode &&& (3 : Int32))), .val (.ref xr135), .val (.ref b137), .val (.ref xr145), .val (.int (1 : Int32)), .val (.int (1 : Int32))] [(.int (1 : Int32))]))
          have CRz : CHr Z consts_1 s.vm s.heap T150.vm T150.heap := by
            rw [hh, e150]
            exact CR.trans (CHv.at X150 hZ hEL CH)
          refine own_retW X150 hx Bd hS (show _ ≤ T150.heap.size by rw [e150]; exact hk) (t := .boolean) Bd.returns rfl (Or.inl ⟨rfl, by simp, _, rfl⟩) (hb hby at_349) CRz ?_ (by decide) (by decide)
          show (Q_rm_law Z ksl tl ul mode line colu gc kn kk ku ks ke h0 n0) (some (.int (1 : Int32))) T150.heap _
          rw [e150]
          exact ⟨rfl, N150⟩
        · skip
          refine own_go (fun _ kk_ => XS.icmpYes X145.here hx rfl (pc0 := 317) (pc' := 329) rfl (hb hby at_317) rfl (feq hc149).2 (by decide) (by decide) kk_) ?_
          refine own_go (fun _ kk_ => XS.iconst X145.here hx rfl (hb hby at_329) kk_) ?_
          refine own_go (fun _ kk_ => XS.istore X145.here hx rfl (hb hby at_330) rfl (l' := #[.val (.int ksl), .val (.long tl), .second, .val (.long ul), .second, .val (.int mode), .val (.int line), .val (.int colu), .val (.int kx), .val (.ref kd), .val (.int lt_), .val (.int a0_), .val (.int a1_), .val (.int a2_), .val (.int lu_), .val (.int b0_), .val (.int b1_), .val (.int b2_), .val (.int (mode &&& (3 : Int32))), .val (.ref xr135), .val (.ref b137), .val (.ref xr145), .val (.int (1 : Int32)), .val (.int (0 : Int32))]) rfl kk_) ?_
          refine own_go (fun _ kk_ => XS.aload X145.here hx rfl (hb hby at_332) rfl rfl kk_) ?_
          refine own_go (fun _ kk_ => XS.aload X145.here hx rfl (hb hby at_334) rfl rfl kk_) ?_
          show own_Fin p.tables e below _ (T145.setTop (mkF m 336 #[.val (.int ksl), .val (.long tl), .second, .val (.long ul), .second, .val (.int mode), .val (.int line), .val (.int colu), .val (.int kx), .val (.ref kd), .val (.int lt_), .val (.int a0_), .val (.int a1_), .val (.int a2_), .val (.int lu_), .val (.int b0_), .val (.int b1_), .val (.int b2_), .val (.int (mode &&& (3 : Int32))), .val (.ref xr135), .val (.ref b137), .val (.ref xr145), .val (.int (1 : Int32)), .val (.int (0 : Int32))] [(.ref xr145), (.ref b137)]))
          obtain ⟨cq151, kq151, qa151, qb151, qc151⟩ := isOf hZ rfl A137
          obtain ⟨_, _, ⟨T151, L151, k151, n151⟩, -, X151, ⟨Lc151, hQ151, l151, y151, z151⟩, st151⟩ := X145.virtualBack hx (y := (⟨"com/example/obra/obra/Token", "is", "(Ljava/lang/String;)Z"⟩ : MethodName)) (z := (⟨"com/example/obra/obra/Token", "is", "(Ljava/lang/String;)Z"⟩ : MethodName)) hown (mvT hZ (hw _ (List.mem_of_getElem? (i := 52) rfl))) (mvT hZ (hw _ (List.mem_of_getElem? (i := 53) rfl))) (own_notface (args := #[]) (mvT hZ (hw _ (List.mem_of_getElem? (i := 55) rfl))) rfl) (mvT hZ (hw _ (List.mem_of_getElem? (i := 55) rfl))) (mvT hZ (hw _ (List.mem_of_getElem? (i := 54) rfl))) (by decide) (backOf (W := 0) (rm_isS l Z a0 hw [] b137 xr145 tr145 (own_mk lt_ a0_ a1_ a2_) kd xr135 tr135 (own_mk lt_ a0_ a1_ a2_) kk ks gc T145.heap n0 (Nat.le_trans Z0 K146.1) G141_kind G141_text SS135 SS145 S_kk S_ks S_C hcs O0) hZ (hw _ (List.mem_of_getElem? (i := 56) rfl)) (hw _ (List.mem_of_getElem? (i := 34) rfl)) (by decide) (by decide)) qa151 qc151 (g := (mkF m 336 #[.val (.int ksl), .val (.long tl), .second, .val (.long ul), .second, .val (.int mode), .val (.int line), .val (.int colu), .val (.int kx), .val (.ref kd), .val (.int lt_), .val (.int a0_), .val (.int a1_), .val (.int a2_), .val (.int lu_), .val (.int b0_), .val (.int b1_), .val (.int b2_), .val (.int (mode &&& (3 : Int32))), .val (.ref xr135), .val (.ref b137), .val (.ref xr145), .val (.int (1 : Int32)), .val (.int (0 : Int32))] [(.ref xr145), (.ref b137)])) rfl (by rw [hml]; rfl) (Steps.refl _) (argsL := [(.ref xr145)]) (rest := []) (lenOf pd_15 rfl) rfl (by show 2 * 0 + _ ≤ _; exact Nat.le_of_eq rfl) (hb hby at_336) (fun _ _ => ⟨rfl, rfl, (by decide : 13 + 0 ≤ _), (by decide : 28 + 0 ≤ _)⟩)
          dsimp only [Pt.U, Pt.locs, Pt.cells, Pt.slots] at X151 l151 y151 z151 st151 hQ151
          subst l151 y151 z151
          obtain ⟨z151, rfl, N151q, e151, hz151⟩ := hQ151
          have N151 := Fr.app N145 N151q
          refine own_go (fun _ kk_ => st151.trans kk_) ?_
          refine own_go (fun _ kk_ => XS.iload X151.here hx rfl (hb hby at_339) rfl kk_) ?_
          show own_Fin p.tables e below _ (T151.setTop (mkF m 341 #[.val (.int ksl), .val (.long tl), .second, .val (.long ul), .second, .val (.int mode), .val (.int line), .val (.int colu), .val (.int kx), .val (.ref kd), .val (.int lt_), .val (.int a0_), .val (.int a1_), .val (.int a2_), .val (.int lu_), .val (.int b0_), .val (.int b1_), .val (.int b2_), .val (.int (mode &&& (3 : Int32))), .val (.ref xr135), .val (.ref b137), .val (.ref xr145), .val (.int (1 : Int32)), .val (.int (0 : Int32))] [(.int (0 : Int32)), (.int z151)]))
          have hfin : z151 = (0 : Int32) := own_f0 hz151 (fun q => (hkd.elim (fun q => absurd q.1 (by simp [hc147, hc149])) (fun q => q.2)) q.1)
          refine own_go (fun _ kk_ => XS.icmpNo X151.here hx rfl (hb hby at_341) rfl (teq hfin).2 kk_) ?_
          refine own_go (fun _ kk_ => XS.iconst X151.here hx rfl (hb hby at_344) kk_) ?_
          refine own_go (fun _ kk_ => XS.goto X151.here hx rfl (pc0 := 345) (pc' := 349) rfl (hb hby at_345) (by decide) (by decide) kk_) ?_
          show own_Fin p.tables e below _ (T151.setTop (mkF m 349 #[.val (.int ksl), .val (.long tl), .second, .val (.long ul), .second, .val (.int mode), .val (.int line), .val (.int colu), .val (.int kx), .val (.ref kd), .val (.int lt_), .val (.int a0_), .val (.int a1_), .val (.int a2_), .val (.int lu_), .val (.int b0_), .val (.int b1_), .val (.int b2_), .val (.int (mode &&& (3 : Int32))), .val (.ref xr135), .val (.ref b137), .val (.ref xr145), .val (.int (1 : Int32)), .val (.int (0 : Int32))] [(.int (1 : Int32))]))
          have CRz : CHr Z consts_1 s.vm s.heap T151.vm T151.heap := by
            rw [hh, e151]
            exact CR.trans (CHv.at X151 hZ hEL CH)
          refine own_retW X151 hx Bd hS (show _ ≤ T151.heap.size by rw [e151]; exact hk) (t := .boolean) Bd.returns rfl (Or.inl ⟨rfl, by simp, _, rfl⟩) (hb hby at_349) CRz ?_ (by decide) (by decide)
          show (Q_rm_law Z ksl tl ul mode line colu gc kn kk ku ks ke h0 n0) (some (.int (1 : Int32))) T151.heap _
          rw [e151]
          exact ⟨rfl, N151⟩
    · skip
      refine own_go (fun _ kk_ => XS.ifYes X141.here hx rfl (pc0 := 194) (pc' := 216) rfl (hb hby at_194) rfl ((if0 _ _).trans (feq hc144).2) (by decide) (by decide) kk_) ?_
      refine own_go (fun _ kk_ => XS.iload X141.here hx rfl (hb hby at_216) rfl kk_) ?_
      refine own_go (fun _ kk_ => XS.iconst X141.here hx rfl (hb hby at_218) kk_) ?_
      show own_Fin p.tables e below _ (T141.setTop (mkF m 219 #[.val (.int ksl), .val (.long tl), .second, .val (.long ul), .second, .val (.int mode), .val (.int line), .val (.int colu), .val (.int kx), .val (.ref kd), .val (.int lt_), .val (.int a0_), .val (.int a1_), .val (.int a2_), .val (.int lu_), .val (.int b0_), .val (.int b1_), .val (.int b2_), .val (.int (mode &&& (3 : Int32))), .val (.ref xr135), .val (.ref b137), .unset, .unset, .unset] [(.int (1 : Int32)), (.int (mode &&& (3 : Int32)))]))
      by_cases hc152 : (mode &&& (3 : Int32)) = (1 : Int32)
      · skip
        refine own_go (fun _ kk_ => XS.icmpNo X141.here hx rfl (hb hby at_219) rfl (teq hc152).2 kk_) ?_
        refine own_go (fun _ kk_ => XS.iload X141.here hx rfl (hb hby at_222) rfl kk_) ?_
        refine own_go (fun _ kk_ => XS.iload X141.here hx rfl (hb hby at_224) rfl kk_) ?_
        refine own_go (fun _ kk_ => XS.iload X141.here hx rfl (hb hby at_226) rfl kk_) ?_
        refine own_go (fun _ kk_ => XS.iload X141.here hx rfl (hb hby at_228) rfl kk_) ?_
        show own_Fin p.tables e below _ (T141.setTop (mkF m 230 #[.val (.int ksl), .val (.long tl), .second, .val (.long ul), .second, .val (.int mode), .val (.int line), .val (.int colu), .val (.int kx), .val (.ref kd), .val (.int lt_), .val (.int a0_), .val (.int a1_), .val (.int a2_), .val (.int lu_), .val (.int b0_), .val (.int b1_), .val (.int b2_), .val (.int (mode &&& (3 : Int32))), .val (.ref xr135), .val (.ref b137), .unset, .unset, .unset] [(.int b2_), (.int b1_), (.int b0_), (.int lt_)]))
        obtain ⟨_, _, ⟨T153, L153, k153, n153⟩, -, X153, hSn153, hgr153, ⟨Lc153, hQ153, l153, y153, z153, CR153⟩, st153⟩ := callSS X141 hx (y := (⟨"com/example/obra/obra/TokenIsPinLaw", "mk", "(ICCC)Ljava/lang/String;"⟩ : MethodName)) hown (mvT hZ (hw _ (List.mem_of_getElem? (i := 6) rfl))) (mvT hZ (hw _ (List.mem_of_getElem? (i := 7) rfl))) (mvT hZ (hw _ (List.mem_of_getElem? (i := 8) rfl))) (mvT hZ (hw _ (List.mem_of_getElem? (i := 9) rfl))) (by decide) (backOfSH (s := s) (W := 0) (rm_mk l Z a0 hw [] hEL lt_ b0_ b1_ b2_ gc T141.heap n0 (Nat.le_trans Z0 K143.1) hb0_ hb1_ hb2_ S_C hcs O0) hZ (hw _ (List.mem_of_getElem? (i := 9) rfl)) (hw _ (List.mem_of_getElem? (i := 8) rfl)) (by decide) (by decide) hEL CH) (g := (mkF m 230 #[.val (.int ksl), .val (.long tl), .second, .val (.long ul), .second, .val (.int mode), .val (.int line), .val (.int colu), .val (.int kx), .val (.ref kd), .val (.int lt_), .val (.int a0_), .val (.int a1_), .val (.int a2_), .val (.int lu_), .val (.int b0_), .val (.int b1_), .val (.int b2_), .val (.int (mode &&& (3 : Int32))), .val (.ref xr135), .val (.ref b137), .unset, .unset, .unset] [(.int b2_), (.int b1_), (.int b0_), (.int lt_)])) rfl (by rw [hml]; rfl) (argsL := [(.int lt_), (.int b0_), (.int b1_), (.int b2_)]) (rest := []) (lenOf pd_13 rfl) rfl (by show 2 * 0 + _ ≤ _; exact Nat.le_of_eq rfl) (hb hby at_230) (fun _ _ => ⟨rfl, rfl, (by decide : 7 + 6 ≤ _), (by decide : 16 + 12 ≤ _)⟩)
        dsimp only [Pt.U, Pt.locs, Pt.cells, Pt.slots] at X153 l153 y153 z153 st153 hQ153 hSn153 hgr153 CR153
        subst l153 y153 z153
        replace hS := foldS hS hk hSn153 hgr153
        replace hk : T153.heap.size ≤ T153.heap.size := Nat.le_refl _
        replace hZ : Z.Warmed39 (s.setVm T153.vm).vm := State.Warmed39.trans (t := s.setVm T135.vm) hZ hSn153.1
        replace hown : (s.setVm T153.vm).vm.findClass "com/example/obra/obra/TokenIsPinLaw" = some m.cls := by rw [show (s.setVm T153.vm).vm = T153.vm from rfl, hSn153.1.alike.findClass]; exact hown
        replace X153 : Stand p l e room_1 (s.setVm T153.vm) m #[(.int ksl), (.long tl), (.long ul), (.int mode), (.int line), (.int colu)] below meth c T153 _ _ _ := X153
        replace S_b137 := CR153.safe A137.lt S_b137
        replace CR := CR.trans CR153
        replace CH := CR153.1
        obtain ⟨xr153, tr153, rfl, N153q, KK153, SS153⟩ := hQ153
        have N153 := Fr.app N141 N153q
        replace O0 := O0.keep KK153 all0
        replace SS135 := SS135.keep KK153 nin0 nin0
        replace A137 := A137.keep KK153
        replace G141_kind := G141_kind.keep KK153 nin0
        replace G141_text := G141_text.keep KK153 nin0
        replace G141_line := G141_line.keep KK153 nin0
        replace G141_column := G141_column.keep KK153 nin0
        have K154 := K143.trans KK153 all0
        refine own_go (fun _ kk_ => st153.trans kk_) ?_
        refine own_go (fun _ kk_ => XS.astore X153.here hx rfl (hb hby at_233) rfl rfl (l' := #[.val (.int ksl), .val (.long tl), .second, .val (.long ul), .second, .val (.int mode), .val (.int line), .val (.int colu), .val (.int kx), .val (.ref kd), .val (.int lt_), .val (.int a0_), .val (.int a1_), .val (.int a2_), .val (.int lu_), .val (.int b0_), .val (.int b1_), .val (.int b2_), .val (.int (mode &&& (3 : Int32))), .val (.ref xr135), .val (.ref b137), .val (.ref xr153), .unset, .unset]) rfl kk_) ?_
        refine own_go (fun _ kk_ => XS.iload X153.here hx rfl (hb hby at_235) rfl kk_) ?_
        refine own_go (fun _ kk_ => XS.iload X153.here hx rfl (hb hby at_237) rfl kk_) ?_
        refine own_go (fun _ kk_ => XS.iload X153.here hx rfl (hb hby at_239) rfl kk_) ?_
        refine own_go (fun _ kk_ => XS.iload X153.here hx rfl (hb hby at_241) rfl kk_) ?_
        refine own_go (fun _ kk_ => XS.iload X153.here hx rfl (hb hby at_243) rfl kk_) ?_
        refine own_go (fun _ kk_ => XS.iload X153.here hx rfl (hb hby at_245) rfl kk_) ?_
        refine own_go (fun _ kk_ => XS.iload X153.here hx rfl (hb hby at_247) rfl kk_) ?_
        refine own_go (fun _ kk_ => XS.iload X153.here hx rfl (hb hby at_249) rfl kk_) ?_
        show own_Fin p.tables e below _ (T153.setTop (mkF m 251 #[.val (.int ksl), .val (.long tl), .second, .val (.long ul), .second, .val (.int mode), .val (.int line), .val (.int colu), .val (.int kx), .val (.ref kd), .val (.int lt_), .val (.int a0_), .val (.int a1_), .val (.int a2_), .val (.int lu_), .val (.int b0_), .val (.int b1_), .val (.int b2_), .val (.int (mode &&& (3 : Int32))), .val (.ref xr135), .val (.ref b137), .val (.ref xr153), .unset, .unset] [(.int b2_), (.int b1_), (.int b0_), (.int lt_), (.int a2_), (.int a1_), (.int a0_), (.int lt_)]))
        obtain ⟨_, _, ⟨T155, L155, k155, n155⟩, -, X155, ⟨Lc155, hQ155, l155, y155, z155⟩, st155⟩ := Jvm.LawKit.callS X153 hx (y := (⟨"com/example/obra/obra/TokenIsPinLaw", "same", "(ICCCICCC)Z"⟩ : MethodName)) hown (mvT hZ (hw _ (List.mem_of_getElem? (i := 76) rfl))) (mvT hZ (hw _ (List.mem_of_getElem? (i := 77) rfl))) (mvT hZ (hw _ (List.mem_of_getElem? (i := 8) rfl))) (mvT hZ (hw _ (List.mem_of_getElem? (i := 78) rfl))) (by decide) (backOf (W := 0) (rm_sm l Z a0 hw [] lt_ a0_ a1_ a2_ lt_ b0_ b1_ b2_ T153.heap n0 (Nat.le_trans Z0 K154.1)) hZ (hw _ (List.mem_of_getElem? (i := 78) rfl)) (hw _ (List.mem_of_getElem? (i := 8) rfl)) (by decide) (by decide)) (g := (mkF m 251 #[.val (.int ksl), .val (.long tl), .second, .val (.long ul), .second, .val (.int mode), .val (.int line), .val (.int colu), .val (.int kx), .val (.ref kd), .val (.int lt_), .val (.int a0_), .val (.int a1_), .val (.int a2_), .val (.int lu_), .val (.int b0_), .val (.int b1_), .val (.int b2_), .val (.int (mode &&& (3 : Int32))), .val (.ref xr135), .val (.ref b137), .val (.ref xr153), .unset, .unset] [(.int b2_), (.int b1_), (.int b0_), (.int lt_), (.int a2_), (.int a1_), (.int a0_), (.int lt_)])) rfl (by rw [hml]; rfl) (argsL := [(.int lt_), (.int a0_), (.int a1_), (.int a2_), (.int lt_), (.int b0_), (.int b1_), (.int b2_)]) (rest := []) (lenOf pd_16 rfl) rfl (by show 2 * 0 + _ ≤ _; exact Nat.le_of_eq rfl) (hb hby at_251) (fun _ _ => ⟨rfl, rfl, (by decide : 13 + 0 ≤ _), (by decide : 28 + 0 ≤ _)⟩)
        dsimp only [Pt.U, Pt.locs, Pt.cells, Pt.slots] at X155 l155 y155 z155 st155 hQ155
        subst l155 y155 z155
        obtain ⟨z155, rfl, N155q, e155, hsm155⟩ := hQ155
        have N155 := Fr.app N153 N155q
        refine own_go st155 ?_
        refine own_go (fun _ kk_ => XS.istore X155.here hx rfl (hb hby at_254) rfl (l' := #[.val (.int ksl), .val (.long tl), .second, .val (.long ul), .second, .val (.int mode), .val (.int line), .val (.int colu), .val (.int kx), .val (.ref kd), .val (.int lt_), .val (.int a0_), .val (.int a1_), .val (.int a2_), .val (.int lu_), .val (.int b0_), .val (.int b1_), .val (.int b2_), .val (.int (mode &&& (3 : Int32))), .val (.ref xr135), .val (.ref b137), .val (.ref xr153), .val (.int z155), .unset]) rfl kk_) ?_
        refine own_go (fun _ kk_ => XS.goto X155.here hx rfl (pc0 := 256) (pc' := 308) rfl (hb hby at_256) (by decide) (by decide) kk_) ?_
        refine own_go (fun _ kk_ => XS.iload X155.here hx rfl (hb hby at_308) rfl kk_) ?_
        refine own_go (fun _ kk_ => XS.iconst X155.here hx rfl (hb hby at_310) kk_) ?_
        show own_Fin p.tables e below _ (T155.setTop (mkF m 311 #[.val (.int ksl), .val (.long tl), .second, .val (.long ul), .second, .val (.int mode), .val (.int line), .val (.int colu), .val (.int kx), .val (.ref kd), .val (.int lt_), .val (.int a0_), .val (.int a1_), .val (.int a2_), .val (.int lu_), .val (.int b0_), .val (.int b1_), .val (.int b2_), .val (.int (mode &&& (3 : Int32))), .val (.ref xr135), .val (.ref b137), .val (.ref xr153), .val (.int z155), .unset] [(.int (1 : Int32)), (.int kx)]))
        by_cases hc156 : kx = (1 : Int32)
        · skip
          refine own_go (fun _ kk_ => XS.icmpYes X155.here hx rfl (pc0 := 311) (pc' := 320) rfl (hb hby at_311) rfl (teq hc156).1 (by decide) (by decide) kk_) ?_
          refine own_go (fun _ kk_ => XS.iload X155.here hx rfl (hb hby at_320) rfl kk_) ?_
          show own_Fin p.tables e below _ (T155.setTop (mkF m 322 #[.val (.int ksl), .val (.long tl), .second, .val (.long ul), .second, .val (.int mode), .val (.int line), .val (.int colu), .val (.int kx), .val (.ref kd), .val (.int lt_), .val (.int a0_), .val (.int a1_), .val (.int a2_), .val (.int lu_), .val (.int b0_), .val (.int b1_), .val (.int b2_), .val (.int (mode &&& (3 : Int32))), .val (.ref xr135), .val (.ref b137), .val (.ref xr153), .val (.int z155), .unset] [(.int z155)]))
          by_cases hc157 : z155 = (0 : Int32)
          · skip
            refine own_go (fun _ kk_ => XS.ifYes X155.here hx rfl (pc0 := 322) (pc' := 329) rfl (hb hby at_322) rfl ((if0 _ _).trans (teq hc157).1) (by decide) (by decide) kk_) ?_
            refine own_go (fun _ kk_ => XS.iconst X155.here hx rfl (hb hby at_329) kk_) ?_
            refine own_go (fun _ kk_ => XS.istore X155.here hx rfl (hb hby at_330) rfl (l' := #[.val (.int ksl), .val (.long tl), .second, .val (.long ul), .second, .val (.int mode), .val (.int line), .val (.int colu), .val (.int kx), .val (.ref kd), .val (.int lt_), .val (.int a0_), .val (.int a1_), .val (.int a2_), .val (.int lu_), .val (.int b0_), .val (.int b1_), .val (.int b2_), .val (.int (mode &&& (3 : Int32))), .val (.ref xr135), .val (.ref b137), .val (.ref xr153), .val (.int z155), .val (.int (0 : Int32))]) rfl kk_) ?_
            refine own_go (fun _ kk_ => XS.aload X155.here hx rfl (hb hby at_332) rfl rfl kk_) ?_
            refine own_go (fun _ kk_ => XS.aload X155.here hx rfl (hb hby at_334) rfl rfl kk_) ?_
            show own_Fin p.tables e below _ (T155.setTop (mkF m 336 #[.val (.int ksl), .val (.long tl), .second, .val (.long ul), .second, .val (.int mode), .val (.int line), .val (.int colu), .val (.int kx), .val (.ref kd), .val (.int lt_), .val (.int a0_), .val (.int a1_), .val (.int a2_), .val (.int lu_), .val (.int b0_), .val (.int b1_), .val (.int b2_), .val (.int (mode &&& (3 : Int32))), .val (.ref xr135), .val (.ref b137), .val (.ref xr153), .val (.int z155), .val (.int (0 : Int32))] [(.ref xr153), (.ref b137)]))
            obtain ⟨cq158, kq158, qa158, qb158, qc158⟩ := isOf hZ e155 A137
            obtain ⟨_, _, ⟨T158, L158, k158, n158⟩, -, X158, ⟨Lc158, hQ158, l158, y158, z158⟩, st158⟩ := X155.virtualBack hx (y := (⟨"com/example/obra/obra/Token", "is", "(Ljava/lang/String;)Z"⟩ : MethodName)) (z := (⟨"com/example/obra/obra/Token", "is", "(Ljava/lang/String;)Z"⟩ : MethodName)) hown (mvT hZ (hw _ (List.mem_of_getElem? (i := 52) rfl))) (mvT hZ (hw _ (List.mem_of_getElem? (i := 53) rfl))) (own_notface (args := #[]) (mvT hZ (hw _ (List.mem_of_getElem? (i := 55) rfl))) rfl) (mvT hZ (hw _ (List.mem_of_getElem? (i := 55) rfl))) (mvT hZ (hw _ (List.mem_of_getElem? (i := 54) rfl))) (by decide) (backOf (W := 0) (rm_isS l Z a0 hw [] b137 xr153 tr153 (own_mk lt_ b0_ b1_ b2_) kd xr135 tr135 (own_mk lt_ a0_ a1_ a2_) kk ks gc T153.heap n0 (Nat.le_trans Z0 K154.1) G141_kind G141_text SS135 SS153 S_kk S_ks S_C hcs O0) hZ (hw _ (List.mem_of_getElem? (i := 56) rfl)) (hw _ (List.mem_of_getElem? (i := 34) rfl)) (by decide) (by decide)) qa158 qc158 (g := (mkF m 336 #[.val (.int ksl), .val (.long tl), .second, .val (.long ul), .second, .val (.int mode), .val (.int line), .val (.int colu), .val (.int kx), .val (.ref kd), .val (.int lt_), .val (.int a0_), .val (.int a1_), .val (.int a2_), .val (.int lu_), .val (.int b0_), .val (.int b1_), .val (.int b2_), .val (.int (mode &&& (3 : Int32))), .val (.ref xr135), .val (.ref b137), .val (.ref xr153), .val (.int z155), .val (.int (0 : Int32))] [(.ref xr153), (.ref b137)])) rfl (by rw [hml]; rfl) (Steps.refl _) (argsL := [(.ref xr153)]) (rest := []) (lenOf pd_15 rfl) rfl (by show 2 * 0 + _ ≤ _; exact Nat.le_of_eq rfl) (hb hby at_336) (fun _ _ => ⟨rfl, e155, (by decide : 13 + 0 ≤ _), (by decide : 28 + 0 ≤ _)⟩)
            dsimp only [Pt.U, Pt.locs, Pt.cells, Pt.slots] at X158 l158 y158 z158 st158 hQ158
            subst l158 y158 z158
            obtain ⟨z158, rfl, N158q, e158, hz158⟩ := hQ158
            have N158 := Fr.app N155 N158q
            refine own_go (fun _ kk_ => st158.trans kk_) ?_
            refine own_go (fun _ kk_ => XS.iload X158.here hx rfl (hb hby at_339) rfl kk_) ?_
            show own_Fin p.tables e below _ (T158.setTop (mkF m 341 #[.val (.int ksl), .val (.long tl), .second, .val (.long ul), .second, .val (.int mode), .val (.int line), .val (.int colu), .val (.int kx), .val (.ref kd), .val (.int lt_), .val (.int a0_), .val (.int a1_), .val (.int a2_), .val (.int lu_), .val (.int b0_), .val (.int b1_), .val (.int b2_), .val (.int (mode &&& (3 : Int32))), .val (.ref xr135), .val (.ref b137), .val (.ref xr153), .val (.int z155), .val (.int (0 : Int32))] [(.int (0 : Int32)), (.int z158)]))
            have hfin : z158 = (0 : Int32) := own_f0 hz158 (fun q => (fun q => absurd ((own_mk_same r_lt_ r_lt_).mp q) (hsm155.elim (fun u => absurd (hc157.symm.trans u.1) (by decide)) (fun u => u.2))) q.2)
            refine own_go (fun _ kk_ => XS.icmpNo X158.here hx rfl (hb hby at_341) rfl (teq hfin).2 kk_) ?_
            refine own_go (fun _ kk_ => XS.iconst X158.here hx rfl (hb hby at_344) kk_) ?_
            refine own_go (fun _ kk_ => XS.goto X158.here hx rfl (pc0 := 345) (pc' := 349) rfl (hb hby at_345) (by decide) (by decide) kk_) ?_
            show own_Fin p.tables e below _ (T158.setTop (mkF m 349 #[.val (.int ksl), .val (.long tl), .second, .val (.long ul), .second, .val (.int mode), .val (.int line), .val (.int colu), .val (.int kx), .val (.ref kd), .val (.int lt_), .val (.int a0_), .val (.int a1_), .val (.int a2_), .val (.int lu_), .val (.int b0_), .val (.int b1_), .val (.int b2_), .val (.int (mode &&& (3 : Int32))), .val (.ref xr135), .val (.ref b137), .val (.ref xr153), .val (.int z155), .val (.int (0 : Int32))] [(.int (1 : Int32))]))
            have CRz : CHr Z consts_1 s.vm s.heap T158.vm T158.heap := by
              rw [hh, e158]
              exact CR.trans (CHv.at X158 hZ hEL CH)
            refine own_retW X158 hx Bd hS (show _ ≤ T158.heap.size by rw [e158]; exact hk) (t := .boolean) Bd.returns rfl (Or.inl ⟨rfl, by simp, _, rfl⟩) (hb hby at_349) CRz ?_ (by decide) (by decide)
            show (Q_rm_law Z ksl tl ul mode line colu gc kn kk ku ks ke h0 n0) (some (.int (1 : Int32))) T158.heap _
            rw [e158]
            exact ⟨rfl, N158⟩
          · skip
            refine own_go (fun _ kk_ => XS.ifNo X155.here hx rfl (hb hby at_322) rfl ((if0 _ _).trans (feq hc157).1) kk_) ?_
            refine own_go (fun _ kk_ => XS.iconst X155.here hx rfl (hb hby at_325) kk_) ?_
            refine own_go (fun _ kk_ => XS.goto X155.here hx rfl (pc0 := 326) (pc' := 330) rfl (hb hby at_326) (by decide) (by decide) kk_) ?_
            refine own_go (fun _ kk_ => XS.istore X155.here hx rfl (hb hby at_330) rfl (l' := #[.val (.int ksl), .val (.long tl), .second, .val (.long ul), .second, .val (.int mode), .val (.int line), .val (.int colu), .val (.int kx), .val (.ref kd), .val (.int lt_), .val (.int a0_), .val (.int a1_), .val (.int a2_), .val (.int lu_), .val (.int b0_), .val (.int b1_), .val (.int b2_), .val (.int (mode &&& (3 : Int32))), .val (.ref xr135), .val (.ref b137), .val (.ref xr153), .val (.int z155), .val (.int (1 : Int32))]) rfl kk_) ?_
            refine own_go (fun _ kk_ => XS.aload X155.here hx rfl (hb hby at_332) rfl rfl kk_) ?_
            refine own_go (fun _ kk_ => XS.aload X155.here hx rfl (hb hby at_334) rfl rfl kk_) ?_
            show own_Fin p.tables e below _ (T155.setTop (mkF m 336 #[.val (.int ksl), .val (.long tl), .second, .val (.long ul), .second, .val (.int mode), .val (.int line), .val (.int colu), .val (.int kx), .val (.ref kd), .val (.int lt_), .val (.int a0_), .val (.int a1_), .val (.int a2_), .val (.int lu_), .val (.int b0_), .val (.int b1_), .val (.int b2_), .val (.int (mode &&& (3 : Int32))), .val (.ref xr135), .val (.ref b137), .val (.ref xr153), .val (.int z155), .val (.int (1 : Int32))] [(.ref xr153), (.ref b137)]))
            obtain ⟨cq159, kq159, qa159, qb159, qc159⟩ := isOf hZ e155 A137
            obtain ⟨_, _, ⟨T159, L159, k159, n159⟩, -, X159, ⟨Lc159, hQ159, l159, y159, z159⟩, st159⟩ := X155.virtualBack hx (y := (⟨"com/example/obra/obra/Token", "is", "(Ljava/lang/String;)Z"⟩ : MethodName)) (z := (⟨"com/example/obra/obra/Token", "is", "(Ljava/lang/String;)Z"⟩ : MethodName)) hown (mvT hZ (hw _ (List.mem_of_getElem? (i := 52) rfl))) (mvT hZ (hw _ (List.mem_of_getElem? (i := 53) rfl))) (own_notface (args := #[]) (mvT hZ (hw _ (List.mem_of_getElem? (i := 55) rfl))) rfl) (mvT hZ (hw _ (List.mem_of_getElem? (i := 55) rfl))) (mvT hZ (hw _ (List.mem_of_getElem? (i := 54) rfl))) (by decide) (backOf (W := 0) (rm_isS l Z a0 hw [] b137 xr153 tr153 (own_mk lt_ b0_ b1_ b2_) kd xr135 tr135 (own_mk lt_ a0_ a1_ a2_) kk ks gc T153.heap n0 (Nat.le_trans Z0 K154.1) G141_kind G141_text SS135 SS153 S_kk S_ks S_C hcs O0) hZ (hw _ (List.mem_of_getElem? (i := 56) rfl)) (hw _ (List.mem_of_getElem? (i := 34) rfl)) (by decide) (by decide)) qa159 qc159 (g := (mkF m 336 #[.val (.int ksl), .val (.long tl), .second, .val (.long ul), .second, .val (.int mode), .val (.int line), .val (.int colu), .val (.int kx), .val (.ref kd), .val (.int lt_), .val (.int a0_), .val (.int a1_), .val (.int a2_), .val (.int lu_), .val (.int b0_), .val (.int b1_), .val (.int b2_), .val (.int (mode &&& (3 : Int32))), .val (.ref xr135), .val (.ref b137), .val (.ref xr153), .val (.int z155), .val (.int (1 : Int32))] [(.ref xr153), (.ref b137)])) rfl (by rw [hml]; rfl) (Steps.refl _) (argsL := [(.ref xr153)]) (rest := []) (lenOf pd_15 rfl) rfl (by show 2 * 0 + _ ≤ _; exact Nat.le_of_eq rfl) (hb hby at_336) (fun _ _ => ⟨rfl, e155, (by decide : 13 + 0 ≤ _), (by decide : 28 + 0 ≤ _)⟩)
            dsimp only [Pt.U, Pt.locs, Pt.cells, Pt.slots] at X159 l159 y159 z159 st159 hQ159
            subst l159 y159 z159
            obtain ⟨z159, rfl, N159q, e159, hz159⟩ := hQ159
            have N159 := Fr.app N155 N159q
            refine own_go (fun _ kk_ => st159.trans kk_) ?_
            refine own_go (fun _ kk_ => XS.iload X159.here hx rfl (hb hby at_339) rfl kk_) ?_
            show own_Fin p.tables e below _ (T159.setTop (mkF m 341 #[.val (.int ksl), .val (.long tl), .second, .val (.long ul), .second, .val (.int mode), .val (.int line), .val (.int colu), .val (.int kx), .val (.ref kd), .val (.int lt_), .val (.int a0_), .val (.int a1_), .val (.int a2_), .val (.int lu_), .val (.int b0_), .val (.int b1_), .val (.int b2_), .val (.int (mode &&& (3 : Int32))), .val (.ref xr135), .val (.ref b137), .val (.ref xr153), .val (.int z155), .val (.int (1 : Int32))] [(.int (1 : Int32)), (.int z159)]))
            have hfin : z159 = (1 : Int32) := own_f1 hz159 (hkd.elim (fun q => q.2) (fun q => absurd (Or.inl hc156) q.1)) ((own_mk_same r_lt_ r_lt_).mpr (hsm155.elim (fun u => u.2) (fun u => absurd u.1 hc157)))
            refine own_go (fun _ kk_ => XS.icmpNo X159.here hx rfl (hb hby at_341) rfl (teq hfin).2 kk_) ?_
            refine own_go (fun _ kk_ => XS.iconst X159.here hx rfl (hb hby at_344) kk_) ?_
            refine own_go (fun _ kk_ => XS.goto X159.here hx rfl (pc0 := 345) (pc' := 349) rfl (hb hby at_345) (by decide) (by decide) kk_) ?_
            show own_Fin p.tables e below _ (T159.setTop (mkF m 349 #[.val (.int ksl), .val (.long tl), .second, .val (.long ul), .second, .val (.int mode), .val (.int line), .val (.int colu), .val (.int kx), .val (.ref kd), .val (.int lt_), .val (.int a0_), .val (.int a1_), .val (.int a2_), .val (.int lu_), .val (.int b0_), .val (.int b1_), .val (.int b2_), .val (.int (mode &&& (3 : Int32))), .val (.ref xr135), .val (.ref b137), .val (.ref xr153), .val (.int z155), .val (.int (1 : Int32))] [(.int (1 : Int32))]))
            have CRz : CHr Z consts_1 s.vm s.heap T159.vm T159.heap := by
              rw [hh, e159]
              exact CR.trans (CHv.at X159 hZ hEL CH)
            refine own_retW X159 hx Bd hS (show _ ≤ T159.heap.size by rw [e159]; exact hk) (t := .boolean) Bd.returns rfl (Or.inl ⟨rfl, by simp, _, rfl⟩) (hb hby at_349) CRz ?_ (by decide) (by decide)
            show (Q_rm_law Z ksl tl ul mode line colu gc kn kk ku ks ke h0 n0) (some (.int (1 : Int32))) T159.heap _
            rw [e159]
            exact ⟨rfl, N159⟩
        · skip
          refine own_go (fun _ kk_ => XS.icmpNo X155.here hx rfl (hb hby at_311) rfl (feq hc156).1 kk_) ?_
          refine own_go (fun _ kk_ => XS.iload X155.here hx rfl (hb hby at_314) rfl kk_) ?_
          refine own_go (fun _ kk_ => XS.iconst X155.here hx rfl (hb hby at_316) kk_) ?_
          show own_Fin p.tables e below _ (T155.setTop (mkF m 317 #[.val (.int ksl), .val (.long tl), .second, .val (.long ul), .second, .val (.int mode), .val (.int line), .val (.int colu), .val (.int kx), .val (.ref kd), .val (.int lt_), .val (.int a0_), .val (.int a1_), .val (.int a2_), .val (.int lu_), .val (.int b0_), .val (.int b1_), .val (.int b2_), .val (.int (mode &&& (3 : Int32))), .val (.ref xr135), .val (.ref b137), .val (.ref xr153), .val (.int z155), .unset] [(.int (3 : Int32)), (.int kx)]))
          by_cases hc160 : kx = (3 : Int32)
          · skip
            refine own_go (fun _ kk_ => XS.icmpNo X155.here hx rfl (hb hby at_317) rfl (teq hc160).2 kk_) ?_
            refine own_go (fun _ kk_ => XS.iload X155.here hx rfl (hb hby at_320) rfl kk_) ?_
            show own_Fin p.tables e below _ (T155.setTop (mkF m 322 #[.val (.int ksl), .val (.long tl), .second, .val (.long ul), .second, .val (.int mode), .val (.int line), .val (.int colu), .val (.int kx), .val (.ref kd), .val (.int lt_), .val (.int a0_), .val (.int a1_), .val (.int a2_), .val (.int lu_), .val (.int b0_), .val (.int b1_), .val (.int b2_), .val (.int (mode &&& (3 : Int32))), .val (.ref xr135), .val (.ref b137), .val (.ref xr153), .val (.int z155), .unset] [(.int z155)]))
            by_cases hc161 : z155 = (0 : Int32)
            · skip
              refine own_go (fun _ kk_ => XS.ifYes X155.here hx rfl (pc0 := 322) (pc' := 329) rfl (hb hby at_322) rfl ((if0 _ _).trans (teq hc161).1) (by decide) (by decide) kk_) ?_
              refine own_go (fun _ kk_ => XS.iconst X155.here hx rfl (hb hby at_329) kk_) ?_
              refine own_go (fun _ kk_ => XS.istore X155.here hx rfl (hb hby at_330) rfl (l' := #[.val (.int ksl), .val (.long tl), .second, .val (.long ul), .second, .val (.int mode), .val (.int line), .val (.int colu), .val (.int kx), .val (.ref kd), .val (.int lt_), .val (.int a0_), .val (.int a1_), .val (.int a2_), .val (.int lu_), .val (.int b0_), .val (.int b1_), .val (.int b2_), .val (.int (mode &&& (3 : Int32))), .val (.ref xr135), .val (.ref b137), .val (.ref xr153), .val (.int z155), .val (.int (0 : Int32))]) rfl kk_) ?_
              refine own_go (fun _ kk_ => XS.aload X155.here hx rfl (hb hby at_332) rfl rfl kk_) ?_
              refine own_go (fun _ kk_ => XS.aload X155.here hx rfl (hb hby at_334) rfl rfl kk_) ?_
              show own_Fin p.tables e below _ (T155.setTop (mkF m 336 #[.val (.int ksl), .val (.long tl), .second, .val (.long ul), .second, .val (.int mode), .val (.int line), .val (.int colu), .val (.int kx), .val (.ref kd), .val (.int lt_), .val (.int a0_), .val (.int a1_), .val (.int a2_), .val (.int lu_), .val (.int b0_), .val (.int b1_), .val (.int b2_), .val (.int (mode &&& (3 : Int32))), .val (.ref xr135), .val (.ref b137), .val (.ref xr153), .val (.int z155), .val (.int (0 : Int32))] [(.ref xr153), (.ref b137)]))
              obtain ⟨cq162, kq162, qa162, qb162, qc162⟩ := isOf hZ e155 A137
              obtain ⟨_, _, ⟨T162, L162, k162, n162⟩, -, X162, ⟨Lc162, hQ162, l162, y162, z162⟩, st162⟩ := X155.virtualBack hx (y := (⟨"com/example/obra/obra/Token", "is", "(Ljava/lang/String;)Z"⟩ : MethodName)) (z := (⟨"com/example/obra/obra/Token", "is", "(Ljava/lang/String;)Z"⟩ : MethodName)) hown (mvT hZ (hw _ (List.mem_of_getElem? (i := 52) rfl))) (mvT hZ (hw _ (List.mem_of_getElem? (i := 53) rfl))) (own_notface (args := #[]) (mvT hZ (hw _ (List.mem_of_getElem? (i := 55) rfl))) rfl) (mvT hZ (hw _ (List.mem_of_getElem? (i := 55) rfl))) (mvT hZ (hw _ (List.mem_of_getElem? (i := 54) rfl))) (by decide) (backOf (W := 0) (rm_isS l Z a0 hw [] b137 xr153 tr153 (own_mk lt_ b0_ b1_ b2_) kd xr135 tr135 (own_mk lt_ a0_ a1_ a2_) kk ks gc T153.heap n0 (Nat.le_trans Z0 K154.1) G141_kind G141_text SS135 SS153 S_kk S_ks S_C hcs O0) hZ (hw _ (List.mem_of_getElem? (i := 56) rfl)) (hw _ (List.mem_of_getElem? (i := 34) rfl)) (by decide) (by decide)) qa162 qc162 (g := (mkF m 336 #[.val (.int ksl), .val (.long tl), .second, .val (.long ul), .second, .val (.int mode), .val (.int line), .val (.int colu), .val (.int kx), .val (.ref kd), .val (.int lt_), .val (.int a0_), .val (.int a1_), .val (.int a2_), .val (.int lu_), .val (.int b0_), .val (.int b1_), .val (.int b2_), .val (.int (mode &&& (3 : Int32))), .val (.ref xr135), .val (.ref b137), .val (.ref xr153), .val (.int z155), .val (.int (0 : Int32))] [(.ref xr153), (.ref b137)])) rfl (by rw [hml]; rfl) (Steps.refl _) (argsL := [(.ref xr153)]) (rest := []) (lenOf pd_15 rfl) rfl (by show 2 * 0 + _ ≤ _; exact Nat.le_of_eq rfl) (hb hby at_336) (fun _ _ => ⟨rfl, e155, (by decide : 13 + 0 ≤ _), (by decide : 28 + 0 ≤ _)⟩)
              dsimp only [Pt.U, Pt.locs, Pt.cells, Pt.slots] at X162 l162 y162 z162 st162 hQ162
              subst l162 y162 z162
              obtain ⟨z162, rfl, N162q, e162, hz162⟩ := hQ162
              have N162 := Fr.app N155 N162q
              refine own_go (fun _ kk_ => st162.trans kk_) ?_
              refine own_go (fun _ kk_ => XS.iload X162.here hx rfl (hb hby at_339) rfl kk_) ?_
              show own_Fin p.tables e below _ (T162.setTop (mkF m 341 #[.val (.int ksl), .val (.long tl), .second, .val (.long ul), .second, .val (.int mode), .val (.int line), .val (.int colu), .val (.int kx), .val (.ref kd), .val (.int lt_), .val (.int a0_), .val (.int a1_), .val (.int a2_), .val (.int lu_), .val (.int b0_), .val (.int b1_), .val (.int b2_), .val (.int (mode &&& (3 : Int32))), .val (.ref xr135), .val (.ref b137), .val (.ref xr153), .val (.int z155), .val (.int (0 : Int32))] [(.int (0 : Int32)), (.int z162)]))
              have hfin : z162 = (0 : Int32) := own_f0 hz162 (fun q => (fun q => absurd ((own_mk_same r_lt_ r_lt_).mp q) (hsm155.elim (fun u => absurd (hc161.symm.trans u.1) (by decide)) (fun u => u.2))) q.2)
              refine own_go (fun _ kk_ => XS.icmpNo X162.here hx rfl (hb hby at_341) rfl (teq hfin).2 kk_) ?_
              refine own_go (fun _ kk_ => XS.iconst X162.here hx rfl (hb hby at_344) kk_) ?_
              refine own_go (fun _ kk_ => XS.goto X162.here hx rfl (pc0 := 345) (pc' := 349) rfl (hb hby at_345) (by decide) (by decide) kk_) ?_
              show own_Fin p.tables e below _ (T162.setTop (mkF m 349 #[.val (.int ksl), .val (.long tl), .second, .val (.long ul), .second, .val (.int mode), .val (.int line), .val (.int colu), .val (.int kx), .val (.ref kd), .val (.int lt_), .val (.int a0_), .val (.int a1_), .val (.int a2_), .val (.int lu_), .val (.int b0_), .val (.int b1_), .val (.int b2_), .val (.int (mode &&& (3 : Int32))), .val (.ref xr135), .val (.ref b137), .val (.ref xr153), .val (.int z155), .val (.int (0 : Int32))] [(.int (1 : Int32))]))
              have CRz : CHr Z consts_1 s.vm s.heap T162.vm T162.heap := by
                rw [hh, e162]
                exact CR.trans (CHv.at X162 hZ hEL CH)
              refine own_retW X162 hx Bd hS (show _ ≤ T162.heap.size by rw [e162]; exact hk) (t := .boolean) Bd.returns rfl (Or.inl ⟨rfl, by simp, _, rfl⟩) (hb hby at_349) CRz ?_ (by decide) (by decide)
              show (Q_rm_law Z ksl tl ul mode line colu gc kn kk ku ks ke h0 n0) (some (.int (1 : Int32))) T162.heap _
              rw [e162]
              exact ⟨rfl, N162⟩
            · skip
              refine own_go (fun _ kk_ => XS.ifNo X155.here hx rfl (hb hby at_322) rfl ((if0 _ _).trans (feq hc161).1) kk_) ?_
              refine own_go (fun _ kk_ => XS.iconst X155.here hx rfl (hb hby at_325) kk_) ?_
              refine own_go (fun _ kk_ => XS.goto X155.here hx rfl (pc0 := 326) (pc' := 330) rfl (hb hby at_326) (by decide) (by decide) kk_) ?_
              refine own_go (fun _ kk_ => XS.istore X155.here hx rfl (hb hby at_330) rfl (l' := #[.val (.int ksl), .val (.long tl), .second, .val (.long ul), .second, .val (.int mode), .val (.int line), .val (.int colu), .val (.int kx), .val (.ref kd), .val (.int lt_), .val (.int a0_), .val (.int a1_), .val (.int a2_), .val (.int lu_), .val (.int b0_), .val (.int b1_), .val (.int b2_), .val (.int (mode &&& (3 : Int32))), .val (.ref xr135), .val (.ref b137), .val (.ref xr153), .val (.int z155), .val (.int (1 : Int32))]) rfl kk_) ?_
              refine own_go (fun _ kk_ => XS.aload X155.here hx rfl (hb hby at_332) rfl rfl kk_) ?_
              refine own_go (fun _ kk_ => XS.aload X155.here hx rfl (hb hby at_334) rfl rfl kk_) ?_
              show own_Fin p.tables e below _ (T155.setTop (mkF m 336 #[.val (.int ksl), .val (.long tl), .second, .val (.long ul), .second, .val (.int mode), .val (.int line), .val (.int colu), .val (.int kx), .val (.ref kd), .val (.int lt_), .val (.int a0_), .val (.int a1_), .val (.int a2_), .val (.int lu_), .val (.int b0_), .val (.int b1_), .val (.int b2_), .val (.int (mode &&& (3 : Int32))), .val (.ref xr135), .val (.ref b137), .val (.ref xr153), .val (.int z155), .val (.int (1 : Int32))] [(.ref xr153), (.ref b137)]))
              obtain ⟨cq163, kq163, qa163, qb163, qc163⟩ := isOf hZ e155 A137
              obtain ⟨_, _, ⟨T163, L163, k163, n163⟩, -, X163, ⟨Lc163, hQ163, l163, y163, z163⟩, st163⟩ := X155.virtualBack hx (y := (⟨"com/example/obra/obra/Token", "is", "(Ljava/lang/String;)Z"⟩ : MethodName)) (z := (⟨"com/example/obra/obra/Token", "is", "(Ljava/lang/String;)Z"⟩ : MethodName)) hown (mvT hZ (hw _ (List.mem_of_getElem? (i := 52) rfl))) (mvT hZ (hw _ (List.mem_of_getElem? (i := 53) rfl))) (own_notface (args := #[]) (mvT hZ (hw _ (List.mem_of_getElem? (i := 55) rfl))) rfl) (mvT hZ (hw _ (List.mem_of_getElem? (i := 55) rfl))) (mvT hZ (hw _ (List.mem_of_getElem? (i := 54) rfl))) (by decide) (backOf (W := 0) (rm_isS l Z a0 hw [] b137 xr153 tr153 (own_mk lt_ b0_ b1_ b2_) kd xr135 tr135 (own_mk lt_ a0_ a1_ a2_) kk ks gc T153.heap n0 (Nat.le_trans Z0 K154.1) G141_kind G141_text SS135 SS153 S_kk S_ks S_C hcs O0) hZ (hw _ (List.mem_of_getElem? (i := 56) rfl)) (hw _ (List.mem_of_getElem? (i := 34) rfl)) (by decide) (by decide)) qa163 qc163 (g := (mkF m 336 #[.val (.int ksl), .val (.long tl), .second, .val (.long ul), .second, .val (.int mode), .val (.int line), .val (.int colu), .val (.int kx), .val (.ref kd), .val (.int lt_), .val (.int a0_), .val (.int a1_), .val (.int a2_), .val (.int lu_), .val (.int b0_), .val (.int b1_), .val (.int b2_), .val (.int (mode &&& (3 : Int32))), .val (.ref xr135), .val (.ref b137), .val (.ref xr153), .val (.int z155), .val (.int (1 : Int32))] [(.ref xr153), (.ref b137)])) rfl (by rw [hml]; rfl) (Steps.refl _) (argsL := [(.ref xr153)]) (rest := []) (lenOf pd_15 rfl) rfl (by show 2 * 0 + _ ≤ _; exact Nat.le_of_eq rfl) (hb hby at_336) (fun _ _ => ⟨rfl, e155, (by decide : 13 + 0 ≤ _), (by decide : 28 + 0 ≤ _)⟩)
              dsimp only [Pt.U, Pt.locs, Pt.cells, Pt.slots] at X163 l163 y163 z163 st163 hQ163
              subst l163 y163 z163
              obtain ⟨z163, rfl, N163q, e163, hz163⟩ := hQ163
              have N163 := Fr.app N155 N163q
              refine own_go (fun _ kk_ => st163.trans kk_) ?_
              refine own_go (fun _ kk_ => XS.iload X163.here hx rfl (hb hby at_339) rfl kk_) ?_
              show own_Fin p.tables e below _ (T163.setTop (mkF m 341 #[.val (.int ksl), .val (.long tl), .second, .val (.long ul), .second, .val (.int mode), .val (.int line), .val (.int colu), .val (.int kx), .val (.ref kd), .val (.int lt_), .val (.int a0_), .val (.int a1_), .val (.int a2_), .val (.int lu_), .val (.int b0_), .val (.int b1_), .val (.int b2_), .val (.int (mode &&& (3 : Int32))), .val (.ref xr135), .val (.ref b137), .val (.ref xr153), .val (.int z155), .val (.int (1 : Int32))] [(.int (1 : Int32)), (.int z163)]))
              have hfin : z163 = (1 : Int32) := own_f1 hz163 (hkd.elim (fun q => q.2) (fun q => absurd (Or.inr hc160) q.1)) ((own_mk_same r_lt_ r_lt_).mpr (hsm155.elim (fun u => u.2) (fun u => absurd u.1 hc161)))
              refine own_go (fun _ kk_ => XS.icmpNo X163.here hx rfl (hb hby at_341) rfl (teq hfin).2 kk_) ?_
              refine own_go (fun _ kk_ => XS.iconst X163.here hx rfl (hb hby at_344) kk_) ?_
              refine own_go (fun _ kk_ => XS.goto X163.here hx rfl (pc0 := 345) (pc' := 349) rfl (hb hby at_345) (by decide) (by decide) kk_) ?_
              show own_Fin p.tables e below _ (T163.setTop (mkF m 349 #[.val (.int ksl), .val (.long tl), .second, .val (.long ul), .second, .val (.int mode), .val (.int line), .val (.int colu), .val (.int kx), .val (.ref kd), .val (.int lt_), .val (.int a0_), .val (.int a1_), .val (.int a2_), .val (.int lu_), .val (.int b0_), .val (.int b1_), .val (.int b2_), .val (.int (mode &&& (3 : Int32))), .val (.ref xr135), .val (.ref b137), .val (.ref xr153), .val (.int z155), .val (.int (1 : Int32))] [(.int (1 : Int32))]))
              have CRz : CHr Z consts_1 s.vm s.heap T163.vm T163.heap := by
                rw [hh, e163]
                exact CR.trans (CHv.at X163 hZ hEL CH)
              refine own_retW X163 hx Bd hS (show _ ≤ T163.heap.size by rw [e163]; exact hk) (t := .boolean) Bd.returns rfl (Or.inl ⟨rfl, by simp, _, rfl⟩) (hb hby at_349) CRz ?_ (by decide) (by decide)
              show (Q_rm_law Z ksl tl ul mode line colu gc kn kk ku ks ke h0 n0) (some (.int (1 : Int32))) T163.heap _
              rw [e163]
              exact ⟨rfl, N163⟩
          · skip
            refine own_go (fun _ kk_ => XS.icmpYes X155.here hx rfl (pc0 := 317) (pc' := 329) rfl (hb hby at_317) rfl (feq hc160).2 (by decide) (by decide) kk_) ?_
            refine own_go (fun _ kk_ => XS.iconst X155.here hx rfl (hb hby at_329) kk_) ?_
            refine own_go (fun _ kk_ => XS.istore X155.here hx rfl (hb hby at_330) rfl (l' := #[.val (.int ksl), .val (.long tl), .second, .val (.long ul), .second, .val (.int mode), .val (.int line), .val (.int colu), .val (.int kx), .val (.ref kd), .val (.int lt_), .val (.int a0_), .val (.int a1_), .val (.int a2_), .val (.int lu_), .val (.int b0_), .val (.int b1_), .val (.int b2_), .val (.int (mode &&& (3 : Int32))), .val (.ref xr135), .val (.ref b137), .val (.ref xr153), .val (.int z155), .val (.int (0 : Int32))]) rfl kk_) ?_
            refine own_go (fun _ kk_ => XS.aload X155.here hx rfl (hb hby at_332) rfl rfl kk_) ?_
            refine own_go (fun _ kk_ => XS.aload X155.here hx rfl (hb hby at_334) rfl rfl kk_) ?_
            show own_Fin p.tables e below _ (T155.setTop (mkF m 336 #[.val (.int ksl), .val (.long tl), .second, .val (.long ul), .second, .val (.int mode), .val (.int line), .val (.int colu), .val (.int kx), .val (.ref kd), .val (.int lt_), .val (.int a0_), .val (.int a1_), .val (.int a2_), .val (.int lu_), .val (.int b0_), .val (.int b1_), .val (.int b2_), .val (.int (mode &&& (3 : Int32))), .val (.ref xr135), .val (.ref b137), .val (.ref xr153), .val (.int z155), .val (.int (0 : Int32))] [(.ref xr153), (.ref b137)]))
            obtain ⟨cq164, kq164, qa164, qb164, qc164⟩ := isOf hZ e155 A137
            obtain ⟨_, _, ⟨T164, L164, k164, n164⟩, -, X164, ⟨Lc164, hQ164, l164, y164, z164⟩, st164⟩ := X155.virtualBack hx (y := (⟨"com/example/obra/obra/Token", "is", "(Ljava/lang/String;)Z"⟩ : MethodName)) (z := (⟨"com/example/obra/obra/Token", "is", "(Ljava/lang/String;)Z"⟩ : MethodName)) hown (mvT hZ (hw _ (List.mem_of_getElem? (i := 52) rfl))) (mvT hZ (hw _ (List.mem_of_getElem? (i := 53) rfl))) (own_notface (args := #[]) (mvT hZ (hw _ (List.mem_of_getElem? (i := 55) rfl))) rfl) (mvT hZ (hw _ (List.mem_of_getElem? (i := 55) rfl))) (mvT hZ (hw _ (List.mem_of_getElem? (i := 54) rfl))) (by decide) (backOf (W := 0) (rm_isS l Z a0 hw [] b137 xr153 tr153 (own_mk lt_ b0_ b1_ b2_) kd xr135 tr135 (own_mk lt_ a0_ a1_ a2_) kk ks gc T153.heap n0 (Nat.le_trans Z0 K154.1) G141_kind G141_text SS135 SS153 S_kk S_ks S_C hcs O0) hZ (hw _ (List.mem_of_getElem? (i := 56) rfl)) (hw _ (List.mem_of_getElem? (i := 34) rfl)) (by decide) (by decide)) qa164 qc164 (g := (mkF m 336 #[.val (.int ksl), .val (.long tl), .second, .val (.long ul), .second, .val (.int mode), .val (.int line), .val (.int colu), .val (.int kx), .val (.ref kd), .val (.int lt_), .val (.int a0_), .val (.int a1_), .val (.int a2_), .val (.int lu_), .val (.int b0_), .val (.int b1_), .val (.int b2_), .val (.int (mode &&& (3 : Int32))), .val (.ref xr135), .val (.ref b137), .val (.ref xr153), .val (.int z155), .val (.int (0 : Int32))] [(.ref xr153), (.ref b137)])) rfl (by rw [hml]; rfl) (Steps.refl _) (argsL := [(.ref xr153)]) (rest := []) (lenOf pd_15 rfl) rfl (by show 2 * 0 + _ ≤ _; exact Nat.le_of_eq rfl) (hb hby at_336) (fun _ _ => ⟨rfl, e155, (by decide : 13 + 0 ≤ _), (by decide : 28 + 0 ≤ _)⟩)
            dsimp only [Pt.U, Pt.locs, Pt.cells, Pt.slots] at X164 l164 y164 z164 st164 hQ164
            subst l164 y164 z164
            obtain ⟨z164, rfl, N164q, e164, hz164⟩ := hQ164
            have N164 := Fr.app N155 N164q
            refine own_go (fun _ kk_ => st164.trans kk_) ?_
            refine own_go (fun _ kk_ => XS.iload X164.here hx rfl (hb hby at_339) rfl kk_) ?_
            show own_Fin p.tables e below _ (T164.setTop (mkF m 341 #[.val (.int ksl), .val (.long tl), .second, .val (.long ul), .second, .val (.int mode), .val (.int line), .val (.int colu), .val (.int kx), .val (.ref kd), .val (.int lt_), .val (.int a0_), .val (.int a1_), .val (.int a2_), .val (.int lu_), .val (.int b0_), .val (.int b1_), .val (.int b2_), .val (.int (mode &&& (3 : Int32))), .val (.ref xr135), .val (.ref b137), .val (.ref xr153), .val (.int z155), .val (.int (0 : Int32))] [(.int (0 : Int32)), (.int z164)]))
            have hfin : z164 = (0 : Int32) := own_f0 hz164 (fun q => (hkd.elim (fun q => absurd q.1 (by simp [hc156, hc160])) (fun q => q.2)) q.1)
            refine own_go (fun _ kk_ => XS.icmpNo X164.here hx rfl (hb hby at_341) rfl (teq hfin).2 kk_) ?_
            refine own_go (fun _ kk_ => XS.iconst X164.here hx rfl (hb hby at_344) kk_) ?_
            refine own_go (fun _ kk_ => XS.goto X164.here hx rfl (pc0 := 345) (pc' := 349) rfl (hb hby at_345) (by decide) (by decide) kk_) ?_
            show own_Fin p.tables e below _ (T164.setTop (mkF m 349 #[.val (.int ksl), .val (.long tl), .second, .val (.long ul), .second, .val (.int mode), .val (.int line), .val (.int colu), .val (.int kx), .val (.ref kd), .val (.int lt_), .val (.int a0_), .val (.int a1_), .val (.int a2_), .val (.int lu_), .val (.int b0_), .val (.int b1_), .val (.int b2_), .val (.int (mode &&& (3 : Int32))), .val (.ref xr135), .val (.ref b137), .val (.ref xr153), .val (.int z155), .val (.int (0 : Int32))] [(.int (1 : Int32))]))
            have CRz : CHr Z consts_1 s.vm s.heap T164.vm T164.heap := by
              rw [hh, e164]
              exact CR.trans (CHv.at X164 hZ hEL CH)
            refine own_retW X164 hx Bd hS (show _ ≤ T164.heap.size by rw [e164]; exact hk) (t := .boolean) Bd.returns rfl (Or.inl ⟨rfl, by simp, _, rfl⟩) (hb hby at_349) CRz ?_ (by decide) (by decide)
            show (Q_rm_law Z ksl tl ul mode line colu gc kn kk ku ks ke h0 n0) (some (.int (1 : Int32))) T164.heap _
            rw [e164]
            exact ⟨rfl, N164⟩
      · skip
        refine own_go (fun _ kk_ => XS.icmpYes X141.here hx rfl (pc0 := 219) (pc' := 259) rfl (hb hby at_219) rfl (feq hc152).2 (by decide) (by decide) kk_) ?_
        refine own_go (fun _ kk_ => XS.iload X141.here hx rfl (hb hby at_259) rfl kk_) ?_
        refine own_go (fun _ kk_ => XS.iconst X141.here hx rfl (hb hby at_261) kk_) ?_
        show own_Fin p.tables e below _ (T141.setTop (mkF m 262 #[.val (.int ksl), .val (.long tl), .second, .val (.long ul), .second, .val (.int mode), .val (.int line), .val (.int colu), .val (.int kx), .val (.ref kd), .val (.int lt_), .val (.int a0_), .val (.int a1_), .val (.int a2_), .val (.int lu_), .val (.int b0_), .val (.int b1_), .val (.int b2_), .val (.int (mode &&& (3 : Int32))), .val (.ref xr135), .val (.ref b137), .unset, .unset, .unset] [(.int (2 : Int32)), (.int (mode &&& (3 : Int32)))]))
        by_cases hc165 : (mode &&& (3 : Int32)) = (2 : Int32)
        · skip
          refine own_go (fun _ kk_ => XS.icmpNo X141.here hx rfl (hb hby at_262) rfl (teq hc165).2 kk_) ?_
          refine own_go (fun _ kk_ => XS.iload X141.here hx rfl (hb hby at_265) rfl kk_) ?_
          refine own_go (fun _ kk_ => XS.iload X141.here hx rfl (hb hby at_267) rfl kk_) ?_
          refine own_go (fun _ kk_ => XS.iload X141.here hx rfl (hb hby at_269) rfl kk_) ?_
          refine own_go (fun _ kk_ => XS.iload X141.here hx rfl (hb hby at_271) rfl kk_) ?_
          show own_Fin p.tables e below _ (T141.setTop (mkF m 273 #[.val (.int ksl), .val (.long tl), .second, .val (.long ul), .second, .val (.int mode), .val (.int line), .val (.int colu), .val (.int kx), .val (.ref kd), .val (.int lt_), .val (.int a0_), .val (.int a1_), .val (.int a2_), .val (.int lu_), .val (.int b0_), .val (.int b1_), .val (.int b2_), .val (.int (mode &&& (3 : Int32))), .val (.ref xr135), .val (.ref b137), .unset, .unset, .unset] [(.int b2_), (.int b1_), (.int b0_), (.int lu_)]))
          obtain ⟨_, _, ⟨T166, L166, k166, n166⟩, -, X166, hSn166, hgr166, ⟨Lc166, hQ166, l166, y166, z166, CR166⟩, st166⟩ := callSS X141 hx (y := (⟨"com/example/obra/obra/TokenIsPinLaw", "mk", "(ICCC)Ljava/lang/String;"⟩ : MethodName)) hown (mvT hZ (hw _ (List.mem_of_getElem? (i := 6) rfl))) (mvT hZ (hw _ (List.mem_of_getElem? (i := 7) rfl))) (mvT hZ (hw _ (List.mem_of_getElem? (i := 8) rfl))) (mvT hZ (hw _ (List.mem_of_getElem? (i := 9) rfl))) (by decide) (backOfSH (s := s) (W := 0) (rm_mk l Z a0 hw [] hEL lu_ b0_ b1_ b2_ gc T141.heap n0 (Nat.le_trans Z0 K143.1) hb0_ hb1_ hb2_ S_C hcs O0) hZ (hw _ (List.mem_of_getElem? (i := 9) rfl)) (hw _ (List.mem_of_getElem? (i := 8) rfl)) (by decide) (by decide) hEL CH) (g := (mkF m 273 #[.val (.int ksl), .val (.long tl), .second, .val (.long ul), .second, .val (.int mode), .val (.int line), .val (.int colu), .val (.int kx), .val (.ref kd), .val (.int lt_), .val (.int a0_), .val (.int a1_), .val (.int a2_), .val (.int lu_), .val (.int b0_), .val (.int b1_), .val (.int b2_), .val (.int (mode &&& (3 : Int32))), .val (.ref xr135), .val (.ref b137), .unset, .unset, .unset] [(.int b2_), (.int b1_), (.int b0_), (.int lu_)])) rfl (by rw [hml]; rfl) (argsL := [(.int lu_), (.int b0_), (.int b1_), (.int b2_)]) (rest := []) (lenOf pd_13 rfl) rfl (by show 2 * 0 + _ ≤ _; exact Nat.le_of_eq rfl) (hb hby at_273) (fun _ _ => ⟨rfl, rfl, (by decide : 7 + 6 ≤ _), (by decide : 16 + 12 ≤ _)⟩)
          dsimp only [Pt.U, Pt.locs, Pt.cells, Pt.slots] at X166 l166 y166 z166 st166 hQ166 hSn166 hgr166 CR166
          subst l166 y166 z166
          replace hS := foldS hS hk hSn166 hgr166
          replace hk : T166.heap.size ≤ T166.heap.size := Nat.le_refl _
          replace hZ : Z.Warmed39 (s.setVm T166.vm).vm := State.Warmed39.trans (t := s.setVm T135.vm) hZ hSn166.1
          replace hown : (s.setVm T166.vm).vm.findClass "com/example/obra/obra/TokenIsPinLaw" = some m.cls := by rw [show (s.setVm T166.vm).vm = T166.vm from rfl, hSn166.1.alike.findClass]; exact hown
          replace X166 : Stand p l e room_1 (s.setVm T166.vm) m #[(.int ksl), (.long tl), (.long ul), (.int mode), (.int line), (.int colu)] below meth c T166 _ _ _ := X166
          replace S_b137 := CR166.safe A137.lt S_b137
          replace CR := CR.trans CR166
          replace CH := CR166.1
          obtain ⟨xr166, tr166, rfl, N166q, KK166, SS166⟩ := hQ166
          have N166 := Fr.app N141 N166q
          replace O0 := O0.keep KK166 all0
          replace SS135 := SS135.keep KK166 nin0 nin0
          replace A137 := A137.keep KK166
          replace G141_kind := G141_kind.keep KK166 nin0
          replace G141_text := G141_text.keep KK166 nin0
          replace G141_line := G141_line.keep KK166 nin0
          replace G141_column := G141_column.keep KK166 nin0
          have K167 := K143.trans KK166 all0
          refine own_go (fun _ kk_ => st166.trans kk_) ?_
          refine own_go (fun _ kk_ => XS.astore X166.here hx rfl (hb hby at_276) rfl rfl (l' := #[.val (.int ksl), .val (.long tl), .second, .val (.long ul), .second, .val (.int mode), .val (.int line), .val (.int colu), .val (.int kx), .val (.ref kd), .val (.int lt_), .val (.int a0_), .val (.int a1_), .val (.int a2_), .val (.int lu_), .val (.int b0_), .val (.int b1_), .val (.int b2_), .val (.int (mode &&& (3 : Int32))), .val (.ref xr135), .val (.ref b137), .val (.ref xr166), .unset, .unset]) rfl kk_) ?_
          refine own_go (fun _ kk_ => XS.iload X166.here hx rfl (hb hby at_278) rfl kk_) ?_
          refine own_go (fun _ kk_ => XS.iload X166.here hx rfl (hb hby at_280) rfl kk_) ?_
          refine own_go (fun _ kk_ => XS.iload X166.here hx rfl (hb hby at_282) rfl kk_) ?_
          refine own_go (fun _ kk_ => XS.iload X166.here hx rfl (hb hby at_284) rfl kk_) ?_
          refine own_go (fun _ kk_ => XS.iload X166.here hx rfl (hb hby at_286) rfl kk_) ?_
          refine own_go (fun _ kk_ => XS.iload X166.here hx rfl (hb hby at_288) rfl kk_) ?_
          refine own_go (fun _ kk_ => XS.iload X166.here hx rfl (hb hby at_290) rfl kk_) ?_
          refine own_go (fun _ kk_ => XS.iload X166.here hx rfl (hb hby at_292) rfl kk_) ?_
          show own_Fin p.tables e below _ (T166.setTop (mkF m 294 #[.val (.int ksl), .val (.long tl), .second, .val (.long ul), .second, .val (.int mode), .val (.int line), .val (.int colu), .val (.int kx), .val (.ref kd), .val (.int lt_), .val (.int a0_), .val (.int a1_), .val (.int a2_), .val (.int lu_), .val (.int b0_), .val (.int b1_), .val (.int b2_), .val (.int (mode &&& (3 : Int32))), .val (.ref xr135), .val (.ref b137), .val (.ref xr166), .unset, .unset] [(.int b2_), (.int b1_), (.int b0_), (.int lu_), (.int a2_), (.int a1_), (.int a0_), (.int lt_)]))
          obtain ⟨_, _, ⟨T168, L168, k168, n168⟩, -, X168, ⟨Lc168, hQ168, l168, y168, z168⟩, st168⟩ := Jvm.LawKit.callS X166 hx (y := (⟨"com/example/obra/obra/TokenIsPinLaw", "same", "(ICCCICCC)Z"⟩ : MethodName)) hown (mvT hZ (hw _ (List.mem_of_getElem? (i := 76) rfl))) (mvT hZ (hw _ (List.mem_of_getElem? (i := 77) rfl))) (mvT hZ (hw _ (List.mem_of_getElem? (i := 8) rfl))) (mvT hZ (hw _ (List.mem_of_getElem? (i := 78) rfl))) (by decide) (backOf (W := 0) (rm_sm l Z a0 hw [] lt_ a0_ a1_ a2_ lu_ b0_ b1_ b2_ T166.heap n0 (Nat.le_trans Z0 K167.1)) hZ (hw _ (List.mem_of_getElem? (i := 78) rfl)) (hw _ (List.mem_of_getElem? (i := 8) rfl)) (by decide) (by decide)) (g := (mkF m 294 #[.val (.int ksl), .val (.long tl), .second, .val (.long ul), .second, .val (.int mode), .val (.int line), .val (.int colu), .val (.int kx), .val (.ref kd), .val (.int lt_), .val (.int a0_), .val (.int a1_), .val (.int a2_), .val (.int lu_), .val (.int b0_), .val (.int b1_), .val (.int b2_), .val (.int (mode &&& (3 : Int32))), .val (.ref xr135), .val (.ref b137), .val (.ref xr166), .unset, .unset] [(.int b2_), (.int b1_), (.int b0_), (.int lu_), (.int a2_), (.int a1_), (.int a0_), (.int lt_)])) rfl (by rw [hml]; rfl) (argsL := [(.int lt_), (.int a0_), (.int a1_), (.int a2_), (.int lu_), (.int b0_), (.int b1_), (.int b2_)]) (rest := []) (lenOf pd_16 rfl) rfl (by show 2 * 0 + _ ≤ _; exact Nat.le_of_eq rfl) (hb hby at_294) (fun _ _ => ⟨rfl, rfl, (by decide : 13 + 0 ≤ _), (by decide : 28 + 0 ≤ _)⟩)
          dsimp only [Pt.U, Pt.locs, Pt.cells, Pt.slots] at X168 l168 y168 z168 st168 hQ168
          subst l168 y168 z168
          obtain ⟨z168, rfl, N168q, e168, hsm168⟩ := hQ168
          have N168 := Fr.app N166 N168q
          refine own_go st168 ?_
          refine own_go (fun _ kk_ => XS.istore X168.here hx rfl (hb hby at_297) rfl (l' := #[.val (.int ksl), .val (.long tl), .second, .val (.long ul), .second, .val (.int mode), .val (.int line), .val (.int colu), .val (.int kx), .val (.ref kd), .val (.int lt_), .val (.int a0_), .val (.int a1_), .val (.int a2_), .val (.int lu_), .val (.int b0_), .val (.int b1_), .val (.int b2_), .val (.int (mode &&& (3 : Int32))), .val (.ref xr135), .val (.ref b137), .val (.ref xr166), .val (.int z168), .unset]) rfl kk_) ?_
          refine own_go (fun _ kk_ => XS.goto X168.here hx rfl (pc0 := 299) (pc' := 308) rfl (hb hby at_299) (by decide) (by decide) kk_) ?_
          refine own_go (fun _ kk_ => XS.iload X168.here hx rfl (hb hby at_308) rfl kk_) ?_
          refine own_go (fun _ kk_ => XS.iconst X168.here hx rfl (hb hby at_310) kk_) ?_
          show own_Fin p.tables e below _ (T168.setTop (mkF m 311 #[.val (.int ksl), .val (.long tl), .second, .val (.long ul), .second, .val (.int mode), .val (.int line), .val (.int colu), .val (.int kx), .val (.ref kd), .val (.int lt_), .val (.int a0_), .val (.int a1_), .val (.int a2_), .val (.int lu_), .val (.int b0_), .val (.int b1_), .val (.int b2_), .val (.int (mode &&& (3 : Int32))), .val (.ref xr135), .val (.ref b137), .val (.ref xr166), .val (.int z168), .unset] [(.int (1 : Int32)), (.int kx)]))
          by_cases hc169 : kx = (1 : Int32)
          · skip
            refine own_go (fun _ kk_ => XS.icmpYes X168.here hx rfl (pc0 := 311) (pc' := 320) rfl (hb hby at_311) rfl (teq hc169).1 (by decide) (by decide) kk_) ?_
            refine own_go (fun _ kk_ => XS.iload X168.here hx rfl (hb hby at_320) rfl kk_) ?_
            show own_Fin p.tables e below _ (T168.setTop (mkF m 322 #[.val (.int ksl), .val (.long tl), .second, .val (.long ul), .second, .val (.int mode), .val (.int line), .val (.int colu), .val (.int kx), .val (.ref kd), .val (.int lt_), .val (.int a0_), .val (.int a1_), .val (.int a2_), .val (.int lu_), .val (.int b0_), .val (.int b1_), .val (.int b2_), .val (.int (mode &&& (3 : Int32))), .val (.ref xr135), .val (.ref b137), .val (.ref xr166), .val (.int z168), .unset] [(.int z168)]))
            by_cases hc170 : z168 = (0 : Int32)
            · skip
              refine own_go (fun _ kk_ => XS.ifYes X168.here hx rfl (pc0 := 322) (pc' := 329) rfl (hb hby at_322) rfl ((if0 _ _).trans (teq hc170).1) (by decide) (by decide) kk_) ?_
              refine own_go (fun _ kk_ => XS.iconst X168.here hx rfl (hb hby at_329) kk_) ?_
              refine own_go (fun _ kk_ => XS.istore X168.here hx rfl (hb hby at_330) rfl (l' := #[.val (.int ksl), .val (.long tl), .second, .val (.long ul), .second, .val (.int mode), .val (.int line), .val (.int colu), .val (.int kx), .val (.ref kd), .val (.int lt_), .val (.int a0_), .val (.int a1_), .val (.int a2_), .val (.int lu_), .val (.int b0_), .val (.int b1_), .val (.int b2_), .val (.int (mode &&& (3 : Int32))), .val (.ref xr135), .val (.ref b137), .val (.ref xr166), .val (.int z168), .val (.int (0 : Int32))]) rfl kk_) ?_
              refine own_go (fun _ kk_ => XS.aload X168.here hx rfl (hb hby at_332) rfl rfl kk_) ?_
              refine own_go (fun _ kk_ => XS.aload X168.here hx rfl (hb hby at_334) rfl rfl kk_) ?_
              show own_Fin p.tables e below _ (T168.setTop (mkF m 336 #[.val (.int ksl), .val (.long tl), .second, .val (.long ul), .second, .val (.int mode), .val (.int line), .val (.int colu), .val (.int kx), .val (.ref kd), .val (.int lt_), .val (.int a0_), .val (.int a1_), .val (.int a2_), .val (.int lu_), .val (.int b0_), .val (.int b1_), .val (.int b2_), .val (.int (mode &&& (3 : Int32))), .val (.ref xr135), .val (.ref b137), .val (.ref xr166), .val (.int z168), .val (.int (0 : Int32))] [(.ref xr166), (.ref b137)]))
              obtain ⟨cq171, kq171, qa171, qb171, qc171⟩ := isOf hZ e168 A137
              obtain ⟨_, _, ⟨T171, L171, k171, n171⟩, -, X171, ⟨Lc171, hQ171, l171, y171, z171⟩, st171⟩ := X168.virtualBack hx (y := (⟨"com/example/obra/obra/Token", "is", "(Ljava/lang/String;)Z"⟩ : MethodName)) (z := (⟨"com/example/obra/obra/Token", "is", "(Ljava/lang/String;)Z"⟩ : MethodName)) hown (mvT hZ (hw _ (List.mem_of_getElem? (i := 52) rfl))) (mvT hZ (hw _ (List.mem_of_getElem? (i := 53) rfl))) (own_notface (args := #[]) (mvT hZ (hw _ (List.mem_of_getElem? (i := 55) rfl))) rfl) (mvT hZ (hw _ (List.mem_of_getElem? (i := 55) rfl))) (mvT hZ (hw _ (List.mem_of_getElem? (i := 54) rfl))) (by decide) (backOf (W := 0) (rm_isS l Z a0 hw [] b137 xr166 tr166 (own_mk lu_ b0_ b1_ b2_) kd xr135 tr135 (own_mk lt_ a0_ a1_ a2_) kk ks gc T166.heap n0 (Nat.le_trans Z0 K167.1) G141_kind G141_text SS135 SS166 S_kk S_ks S_C hcs O0) hZ (hw _ (List.mem_of_getElem? (i := 56) rfl)) (hw _ (List.mem_of_getElem? (i := 34) rfl)) (by decide) (by decide)) qa171 qc171 (g := (mkF m 336 #[.val (.int ksl), .val (.long tl), .second, .val (.long ul), .second, .val (.int mode), .val (.int line), .val (.int colu), .val (.int kx), .val (.ref kd), .val (.int lt_), .val (.int a0_), .val (.int a1_), .val (.int a2_), .val (.int lu_), .val (.int b0_), .val (.int b1_), .val (.int b2_), .val (.int (mode &&& (3 : Int32))), .val (.ref xr135), .val (.ref b137), .val (.ref xr166), .val (.int z168), .val (.int (0 : Int32))] [(.ref xr166), (.ref b137)])) rfl (by rw [hml]; rfl) (Steps.refl _) (argsL := [(.ref xr166)]) (rest := []) (lenOf pd_15 rfl) rfl (by show 2 * 0 + _ ≤ _; exact Nat.le_of_eq rfl) (hb hby at_336) (fun _ _ => ⟨rfl, e168, (by decide : 13 + 0 ≤ _), (by decide : 28 + 0 ≤ _)⟩)
              dsimp only [Pt.U, Pt.locs, Pt.cells, Pt.slots] at X171 l171 y171 z171 st171 hQ171
              subst l171 y171 z171
              obtain ⟨z171, rfl, N171q, e171, hz171⟩ := hQ171
              have N171 := Fr.app N168 N171q
              refine own_go (fun _ kk_ => st171.trans kk_) ?_
              refine own_go (fun _ kk_ => XS.iload X171.here hx rfl (hb hby at_339) rfl kk_) ?_
              show own_Fin p.tables e below _ (T171.setTop (mkF m 341 #[.val (.int ksl), .val (.long tl), .second, .val (.long ul), .second, .val (.int mode), .val (.int line), .val (.int colu), .val (.int kx), .val (.ref kd), .val (.int lt_), .val (.int a0_), .val (.int a1_), .val (.int a2_), .val (.int lu_), .val (.int b0_), .val (.int b1_), .val (.int b2_), .val (.int (mode &&& (3 : Int32))), .val (.ref xr135), .val (.ref b137), .val (.ref xr166), .val (.int z168), .val (.int (0 : Int32))] [(.int (0 : Int32)), (.int z171)]))
              have hfin : z171 = (0 : Int32) := own_f0 hz171 (fun q => (fun q => absurd ((own_mk_same r_lt_ r_lu_).mp q) (hsm168.elim (fun u => absurd (hc170.symm.trans u.1) (by decide)) (fun u => u.2))) q.2)
              refine own_go (fun _ kk_ => XS.icmpNo X171.here hx rfl (hb hby at_341) rfl (teq hfin).2 kk_) ?_
              refine own_go (fun _ kk_ => XS.iconst X171.here hx rfl (hb hby at_344) kk_) ?_
              refine own_go (fun _ kk_ => XS.goto X171.here hx rfl (pc0 := 345) (pc' := 349) rfl (hb hby at_345) (by decide) (by decide) kk_) ?_
              show own_Fin p.tables e below _ (T171.setTop (mkF m 349 #[.val (.int ksl), .val (.long tl), .second, .val (.long ul), .second, .val (.int mode), .val (.int line), .val (.int colu), .val (.int kx), .val (.ref kd), .val (.int lt_), .val (.int a0_), .val (.int a1_), .val (.int a2_), .val (.int lu_), .val (.int b0_), .val (.int b1_), .val (.int b2_), .val (.int (mode &&& (3 : Int32))), .val (.ref xr135), .val (.ref b137), .val (.ref xr166), .val (.int z168), .val (.int (0 : Int32))] [(.int (1 : Int32))]))
              have CRz : CHr Z consts_1 s.vm s.heap T171.vm T171.heap := by
                rw [hh, e171]
                exact CR.trans (CHv.at X171 hZ hEL CH)
              refine own_retW X171 hx Bd hS (show _ ≤ T171.heap.size by rw [e171]; exact hk) (t := .boolean) Bd.returns rfl (Or.inl ⟨rfl, by simp, _, rfl⟩) (hb hby at_349) CRz ?_ (by decide) (by decide)
              show (Q_rm_law Z ksl tl ul mode line colu gc kn kk ku ks ke h0 n0) (some (.int (1 : Int32))) T171.heap _
              rw [e171]
              exact ⟨rfl, N171⟩
            · skip
              refine own_go (fun _ kk_ => XS.ifNo X168.here hx rfl (hb hby at_322) rfl ((if0 _ _).trans (feq hc170).1) kk_) ?_
              refine own_go (fun _ kk_ => XS.iconst X168.here hx rfl (hb hby at_325) kk_) ?_
              refine own_go (fun _ kk_ => XS.goto X168.here hx rfl (pc0 := 326) (pc' := 330) rfl (hb hby at_326) (by decide) (by decide) kk_) ?_
              refine own_go (fun _ kk_ => XS.istore X168.here hx rfl (hb hby at_330) rfl (l' := #[.val (.int ksl), .val (.long tl), .second, .val (.long ul), .second, .val (.int mode), .val (.int line), .val (.int colu), .val (.int kx), .val (.ref kd), .val (.int lt_), .val (.int a0_), .val (.int a1_), .val (.int a2_), .val (.int lu_), .val (.int b0_), .val (.int b1_), .val (.int b2_), .val (.int (mode &&& (3 : Int32))), .val (.ref xr135), .val (.ref b137), .val (.ref xr166), .val (.int z168), .val (.int (1 : Int32))]) rfl kk_) ?_
              refine own_go (fun _ kk_ => XS.aload X168.here hx rfl (hb hby at_332) rfl rfl kk_) ?_
              refine own_go (fun _ kk_ => XS.aload X168.here hx rfl (hb hby at_334) rfl rfl kk_) ?_
              show own_Fin p.tables e below _ (T168.setTop (mkF m 336 #[.val (.int ksl), .val (.long tl), .second, .val (.long ul), .second, .val (.int mode), .val (.int line), .val (.int colu), .val (.int kx), .val (.ref kd), .val (.int lt_), .val (.int a0_), .val (.int a1_), .val (.int a2_), .val (.int lu_), .val (.int b0_), .val (.int b1_), .val (.int b2_), .val (.int (mode &&& (3 : Int32))), .val (.ref xr135), .val (.ref b137), .val (.ref xr166), .val (.int z168), .val (.int (1 : Int32))] [(.ref xr166), (.ref b137)]))
              obtain ⟨cq172, kq172, qa172, qb172, qc172⟩ := isOf hZ e168 A137
              obtain ⟨_, _, ⟨T172, L172, k172, n172⟩, -, X172, ⟨Lc172, hQ172, l172, y172, z172⟩, st172⟩ := X168.virtualBack hx (y := (⟨"com/example/obra/obra/Token", "is", "(Ljava/lang/String;)Z"⟩ : MethodName)) (z := (⟨"com/example/obra/obra/Token", "is", "(Ljava/lang/String;)Z"⟩ : MethodName)) hown (mvT hZ (hw _ (List.mem_of_getElem? (i := 52) rfl))) (mvT hZ (hw _ (List.mem_of_getElem? (i := 53) rfl))) (own_notface (args := #[]) (mvT hZ (hw _ (List.mem_of_getElem? (i := 55) rfl))) rfl) (mvT hZ (hw _ (List.mem_of_getElem? (i := 55) rfl))) (mvT hZ (hw _ (List.mem_of_getElem? (i := 54) rfl))) (by decide) (backOf (W := 0) (rm_isS l Z a0 hw [] b137 xr166 tr166 (own_mk lu_ b0_ b1_ b2_) kd xr135 tr135 (own_mk lt_ a0_ a1_ a2_) kk ks gc T166.heap n0 (Nat.le_trans Z0 K167.1) G141_kind G141_text SS135 SS166 S_kk S_ks S_C hcs O0) hZ (hw _ (List.mem_of_getElem? (i := 56) rfl)) (hw _ (List.mem_of_getElem? (i := 34) rfl)) (by decide) (by decide)) qa172 qc172 (g := (mkF m 336 #[.val (.int ksl), .val (.long tl), .second, .val (.long ul), .second, .val (.int mode), .val (.int line), .val (.int colu), .val (.int kx), .val (.ref kd), .val (.int lt_), .val (.int a0_), .val (.int a1_), .val (.int a2_), .val (.int lu_), .val (.int b0_), .val (.int b1_), .val (.int b2_), .val (.int (mode &&& (3 : Int32))), .val (.ref xr135), .val (.ref b137), .val (.ref xr166), .val (.int z168), .val (.int (1 : Int32))] [(.ref xr166), (.ref b137)])) rfl (by rw [hml]; rfl) (Steps.refl _) (argsL := [(.ref xr166)]) (rest := []) (lenOf pd_15 rfl) rfl (by show 2 * 0 + _ ≤ _; exact Nat.le_of_eq rfl) (hb hby at_336) (fun _ _ => ⟨rfl, e168, (by decide : 13 + 0 ≤ _), (by decide : 28 + 0 ≤ _)⟩)
              dsimp only [Pt.U, Pt.locs, Pt.cells, Pt.slots] at X172 l172 y172 z172 st172 hQ172
              subst l172 y172 z172
              obtain ⟨z172, rfl, N172q, e172, hz172⟩ := hQ172
              have N172 := Fr.app N168 N172q
              refine own_go (fun _ kk_ => st172.trans kk_) ?_
              refine own_go (fun _ kk_ => XS.iload X172.here hx rfl (hb hby at_339) rfl kk_) ?_
              show own_Fin p.tables e below _ (T172.setTop (mkF m 341 #[.val (.int ksl), .val (.long tl), .second, .val (.long ul), .second, .val (.int mode), .val (.int line), .val (.int colu), .val (.int kx), .val (.ref kd), .val (.int lt_), .val (.int a0_), .val (.int a1_), .val (.int a2_), .val (.int lu_), .val (.int b0_), .val (.int b1_), .val (.int b2_), .val (.int (mode &&& (3 : Int32))), .val (.ref xr135), .val (.ref b137), .val (.ref xr166), .val (.int z168), .val (.int (1 : Int32))] [(.int (1 : Int32)), (.int z172)]))
              have hfin : z172 = (1 : Int32) := own_f1 hz172 (hkd.elim (fun q => q.2) (fun q => absurd (Or.inl hc169) q.1)) ((own_mk_same r_lt_ r_lu_).mpr (hsm168.elim (fun u => u.2) (fun u => absurd u.1 hc170)))
              refine own_go (fun _ kk_ => XS.icmpNo X172.here hx rfl (hb hby at_341) rfl (teq hfin).2 kk_) ?_
              refine own_go (fun _ kk_ => XS.iconst X172.here hx rfl (hb hby at_344) kk_) ?_
              refine own_go (fun _ kk_ => XS.goto X172.here hx rfl (pc0 := 345) (pc' := 349) rfl (hb hby at_345) (by decide) (by decide) kk_) ?_
              show own_Fin p.tables e below _ (T172.setTop (mkF m 349 #[.val (.int ksl), .val (.long tl), .second, .val (.long ul), .second, .val (.int mode), .val (.int line), .val (.int colu), .val (.int kx), .val (.ref kd), .val (.int lt_), .val (.int a0_), .val (.int a1_), .val (.int a2_), .val (.int lu_), .val (.int b0_), .val (.int b1_), .val (.int b2_), .val (.int (mode &&& (3 : Int32))), .val (.ref xr135), .val (.ref b137), .val (.ref xr166), .val (.int z168), .val (.int (1 : Int32))] [(.int (1 : Int32))]))
              have CRz : CHr Z consts_1 s.vm s.heap T172.vm T172.heap := by
                rw [hh, e172]
                exact CR.trans (CHv.at X172 hZ hEL CH)
              refine own_retW X172 hx Bd hS (show _ ≤ T172.heap.size by rw [e172]; exact hk) (t := .boolean) Bd.returns rfl (Or.inl ⟨rfl, by simp, _, rfl⟩) (hb hby at_349) CRz ?_ (by decide) (by decide)
              show (Q_rm_law Z ksl tl ul mode line colu gc kn kk ku ks ke h0 n0) (some (.int (1 : Int32))) T172.heap _
              rw [e172]
              exact ⟨rfl, N172⟩
          · skip
            refine own_go (fun _ kk_ => XS.icmpNo X168.here hx rfl (hb hby at_311) rfl (feq hc169).1 kk_) ?_
            refine own_go (fun _ kk_ => XS.iload X168.here hx rfl (hb hby at_314) rfl kk_) ?_
            refine own_go (fun _ kk_ => XS.iconst X168.here hx rfl (hb hby at_316) kk_) ?_
            show own_Fin p.tables e below _ (T168.setTop (mkF m 317 #[.val (.int ksl), .val (.long tl), .second, .val (.long ul), .second, .val (.int mode), .val (.int line), .val (.int colu), .val (.int kx), .val (.ref kd), .val (.int lt_), .val (.int a0_), .val (.int a1_), .val (.int a2_), .val (.int lu_), .val (.int b0_), .val (.int b1_), .val (.int b2_), .val (.int (mode &&& (3 : Int32))), .val (.ref xr135), .val (.ref b137), .val (.ref xr166), .val (.int z168), .unset] [(.int (3 : Int32)), (.int kx)]))
            by_cases hc173 : kx = (3 : Int32)
            · skip
              refine own_go (fun _ kk_ => XS.icmpNo X168.here hx rfl (hb hby at_317) rfl (teq hc173).2 kk_) ?_
              refine own_go (fun _ kk_ => XS.iload X168.here hx rfl (hb hby at_320) rfl kk_) ?_
              show own_Fin p.tables e below _ (T168.setTop (mkF m 322 #[.val (.int ksl), .val (.long tl), .second, .val (.long ul), .second, .val (.int mode), .val (.int line), .val (.int colu), .val (.int kx), .val (.ref kd), .val (.int lt_), .val (.int a0_), .val (.int a1_), .val (.int a2_), .val (.int lu_), .val (.int b0_), .val (.int b1_), .val (.int b2_), .val (.int (mode &&& (3 : Int32))), .val (.ref xr135), .val (.ref b137), .val (.ref xr166), .val (.int z168), .unset] [(.int z168)]))
              by_cases hc174 : z168 = (0 : Int32)
              · skip
                refine own_go (fun _ kk_ => XS.ifYes X168.here hx rfl (pc0 := 322) (pc' := 329) rfl (hb hby at_322) rfl ((if0 _ _).trans (teq hc174).1) (by decide) (by decide) kk_) ?_
                refine own_go (fun _ kk_ => XS.iconst X168.here hx rfl (hb hby at_329) kk_) ?_
                refine own_go (fun _ kk_ => XS.istore X168.here hx rfl (hb hby at_330) rfl (l' := #[.val (.int ksl), .val (.long tl), .second, .val (.long ul), .second, .val (.int mode), .val (.int line), .val (.int colu), .val (.int kx), .val (.ref kd), .val (.int lt_), .val (.int a0_), .val (.int a1_), .val (.int a2_), .val (.int lu_), .val (.int b0_), .val (.int b1_), .val (.int b2_), .val (.int (mode &&& (3 : Int32))), .val (.ref xr135), .val (.ref b137), .val (.ref xr166), .val (.int z168), .val (.int (0 : Int32))]) rfl kk_) ?_
                refine own_go (fun _ kk_ => XS.aload X168.here hx rfl (hb hby at_332) rfl rfl kk_) ?_
                refine own_go (fun _ kk_ => XS.aload X168.here hx rfl (hb hby at_334) rfl rfl kk_) ?_
                show own_Fin p.tables e below _ (T168.setTop (mkF m 336 #[.val (.int ksl), .val (.long tl), .second, .val (.long ul), .second, .val (.int mode), .val (.int line), .val (.int colu), .val (.int kx), .val (.ref kd), .val (.int lt_), .val (.int a0_), .val (.int a1_), .val (.int a2_), .val (.int lu_), .val (.int b0_), .val (.int b1_), .val (.int b2_), .val (.int (mode &&& (3 : Int32))), .val (.ref xr135), .val (.ref b137), .val (.ref xr166), .val (.int z168), .val (.int (0 : Int32))] [(.ref xr166), (.ref b137)]))
                obtain ⟨cq175, kq175, qa175, qb175, qc175⟩ := isOf hZ e168 A137
                obtain ⟨_, _, ⟨T175, L175, k175, n175⟩, -, X175, ⟨Lc175, hQ175, l175, y175, z175⟩, st175⟩ := X168.virtualBack hx (y := (⟨"com/example/obra/obra/Token", "is", "(Ljava/lang/String;)Z"⟩ : MethodName)) (z := (⟨"com/example/obra/obra/Token", "is", "(Ljava/lang/String;)Z"⟩ : MethodName)) hown (mvT hZ (hw _ (List.mem_of_getElem? (i := 52) rfl))) (mvT hZ (hw _ (List.mem_of_getElem? (i := 53) rfl))) (own_notface (args := #[]) (mvT hZ (hw _ (List.mem_of_getElem? (i := 55) rfl))) rfl) (mvT hZ (hw _ (List.mem_of_getElem? (i := 55) rfl))) (mvT hZ (hw _ (List.mem_of_getElem? (i := 54) rfl))) (by decide) (backOf (W := 0) (rm_isS l Z a0 hw [] b137 xr166 tr166 (own_mk lu_ b0_ b1_ b2_) kd xr135 tr135 (own_mk lt_ a0_ a1_ a2_) kk ks gc T166.heap n0 (Nat.le_trans Z0 K167.1) G141_kind G141_text SS135 SS166 S_kk S_ks S_C hcs O0) hZ (hw _ (List.mem_of_getElem? (i := 56) rfl)) (hw _ (List.mem_of_getElem? (i := 34) rfl)) (by decide) (by decide)) qa175 qc175 (g := (mkF m 336 #[.val (.int ksl), .val (.long tl), .second, .val (.long ul), .second, .val (.int mode), .val (.int line), .val (.int colu), .val (.int kx), .val (.ref kd), .val (.int lt_), .val (.int a0_), .val (.int a1_), .val (.int a2_), .val (.int lu_), .val (.int b0_), .val (.int b1_), .val (.int b2_), .val (.int (mode &&& (3 : Int32))), .val (.ref xr135), .val (.ref b137), .val (.ref xr166), .val (.int z168), .val (.int (0 : Int32))] [(.ref xr166), (.ref b137)])) rfl (by rw [hml]; rfl) (Steps.refl _) (argsL := [(.ref xr166)]) (rest := []) (lenOf pd_15 rfl) rfl (by show 2 * 0 + _ ≤ _; exact Nat.le_of_eq rfl) (hb hby at_336) (fun _ _ => ⟨rfl, e168, (by decide : 13 + 0 ≤ _), (by decide : 28 + 0 ≤ _)⟩)
                dsimp only [Pt.U, Pt.locs, Pt.cells, Pt.slots] at X175 l175 y175 z175 st175 hQ175
                subst l175 y175 z175
                obtain ⟨z175, rfl, N175q, e175, hz175⟩ := hQ175
                have N175 := Fr.app N168 N175q
                refine own_go (fun _ kk_ => st175.trans kk_) ?_
                refine own_go (fun _ kk_ => XS.iload X175.here hx rfl (hb hby at_339) rfl kk_) ?_
                show own_Fin p.tables e below _ (T175.setTop (mkF m 341 #[.val (.int ksl), .val (.long tl), .second, .val (.long ul), .second, .val (.int mode), .val (.int line), .val (.int colu), .val (.int kx), .val (.ref kd), .val (.int lt_), .val (.int a0_), .val (.int a1_), .val (.int a2_), .val (.int lu_), .val (.int b0_), .val (.int b1_), .val (.int b2_), .val (.int (mode &&& (3 : Int32))), .val (.ref xr135), .val (.ref b137), .val (.ref xr166), .val (.int z168), .val (.int (0 : Int32))] [(.int (0 : Int32)), (.int z175)]))
                have hfin : z175 = (0 : Int32) := own_f0 hz175 (fun q => (fun q => absurd ((own_mk_same r_lt_ r_lu_).mp q) (hsm168.elim (fun u => absurd (hc174.symm.trans u.1) (by decide)) (fun u => u.2))) q.2)
                refine own_go (fun _ kk_ => XS.icmpNo X175.here hx rfl (hb hby at_341) rfl (teq hfin).2 kk_) ?_
                refine own_go (fun _ kk_ => XS.iconst X175.here hx rfl (hb hby at_344) kk_) ?_
                refine own_go (fun _ kk_ => XS.goto X175.here hx rfl (pc0 := 345) (pc' := 349) rfl (hb hby at_345) (by decide) (by decide) kk_) ?_
                show own_Fin p.tables e below _ (T175.setTop (mkF m 349 #[.val (.int ksl), .val (.long tl), .second, .val (.long ul), .second, .val (.int mode), .val (.int line), .val (.int colu), .val (.int kx), .val (.ref kd), .val (.int lt_), .val (.int a0_), .val (.int a1_), .val (.int a2_), .val (.int lu_), .val (.int b0_), .val (.int b1_), .val (.int b2_), .val (.int (mode &&& (3 : Int32))), .val (.ref xr135), .val (.ref b137), .val (.ref xr166), .val (.int z168), .val (.int (0 : Int32))] [(.int (1 : Int32))]))
                have CRz : CHr Z consts_1 s.vm s.heap T175.vm T175.heap := by
                  rw [hh, e175]
                  exact CR.trans (CHv.at X175 hZ hEL CH)
                refine own_retW X175 hx Bd hS (show _ ≤ T175.heap.size by rw [e175]; exact hk) (t := .boolean) Bd.returns rfl (Or.inl ⟨rfl, by simp, _, rfl⟩) (hb hby at_349) CRz ?_ (by decide) (by decide)
                show (Q_rm_law Z ksl tl ul mode line colu gc kn kk ku ks ke h0 n0) (some (.int (1 : Int32))) T175.heap _
                rw [e175]
                exact ⟨rfl, N175⟩
              · skip
                refine own_go (fun _ kk_ => XS.ifNo X168.here hx rfl (hb hby at_322) rfl ((if0 _ _).trans (feq hc174).1) kk_) ?_
                refine own_go (fun _ kk_ => XS.iconst X168.here hx rfl (hb hby at_325) kk_) ?_
                refine own_go (fun _ kk_ => XS.goto X168.here hx rfl (pc0 := 326) (pc' := 330) rfl (hb hby at_326) (by decide) (by decide) kk_) ?_
                refine own_go (fun _ kk_ => XS.istore X168.here hx rfl (hb hby at_330) rfl (l' := #[.val (.int ksl), .val (.long tl), .second, .val (.long ul), .second, .val (.int mode), .val (.int line), .val (.int colu), .val (.int kx), .val (.ref kd), .val (.int lt_), .val (.int a0_), .val (.int a1_), .val (.int a2_), .val (.int lu_), .val (.int b0_), .val (.int b1_), .val (.int b2_), .val (.int (mode &&& (3 : Int32))), .val (.ref xr135), .val (.ref b137), .val (.ref xr166), .val (.int z168), .val (.int (1 : Int32))]) rfl kk_) ?_
                refine own_go (fun _ kk_ => XS.aload X168.here hx rfl (hb hby at_332) rfl rfl kk_) ?_
                refine own_go (fun _ kk_ => XS.aload X168.here hx rfl (hb hby at_334) rfl rfl kk_) ?_
                show own_Fin p.tables e below _ (T168.setTop (mkF m 336 #[.val (.int ksl), .val (.long tl), .second, .val (.long ul), .second, .val (.int mode), .val (.int line), .val (.int colu), .val (.int kx), .val (.ref kd), .val (.int lt_), .val (.int a0_), .val (.int a1_), .val (.int a2_), .val (.int lu_), .val (.int b0_), .val (.int b1_), .val (.int b2_), .val (.int (mode &&& (3 : Int32))), .val (.ref xr135), .val (.ref b137), .val (.ref xr166), .val (.int z168), .val (.int (1 : Int32))] [(.ref xr166), (.ref b137)]))
                obtain ⟨cq176, kq176, qa176, qb176, qc176⟩ := isOf hZ e168 A137
                obtain ⟨_, _, ⟨T176, L176, k176, n176⟩, -, X176, ⟨Lc176, hQ176, l176, y176, z176⟩, st176⟩ := X168.virtualBack hx (y := (⟨"com/example/obra/obra/Token", "is", "(Ljava/lang/String;)Z"⟩ : MethodName)) (z := (⟨"com/example/obra/obra/Token", "is", "(Ljava/lang/String;)Z"⟩ : MethodName)) hown (mvT hZ (hw _ (List.mem_of_getElem? (i := 52) rfl))) (mvT hZ (hw _ (List.mem_of_getElem? (i := 53) rfl))) (own_notface (args := #[]) (mvT hZ (hw _ (List.mem_of_getElem? (i := 55) rfl))) rfl) (mvT hZ (hw _ (List.mem_of_getElem? (i := 55) rfl))) (mvT hZ (hw _ (List.mem_of_getElem? (i := 54) rfl))) (by decide) (backOf (W := 0) (rm_isS l Z a0 hw [] b137 xr166 tr166 (own_mk lu_ b0_ b1_ b2_) kd xr135 tr135 (own_mk lt_ a0_ a1_ a2_) kk ks gc T166.heap n0 (Nat.le_trans Z0 K167.1) G141_kind G141_text SS135 SS166 S_kk S_ks S_C hcs O0) hZ (hw _ (List.mem_of_getElem? (i := 56) rfl)) (hw _ (List.mem_of_getElem? (i := 34) rfl)) (by decide) (by decide)) qa176 qc176 (g := (mkF m 336 #[.val (.int ksl), .val (.long tl), .second, .val (.long ul), .second, .val (.int mode), .val (.int line), .val (.int colu), .val (.int kx), .val (.ref kd), .val (.int lt_), .val (.int a0_), .val (.int a1_), .val (.int a2_), .val (.int lu_), .val (.int b0_), .val (.int b1_), .val (.int b2_), .val (.int (mode &&& (3 : Int32))), .val (.ref xr135), .val (.ref b137), .val (.ref xr166), .val (.int z168), .val (.int (1 : Int32))] [(.ref xr166), (.ref b137)])) rfl (by rw [hml]; rfl) (Steps.refl _) (argsL := [(.ref xr166)]) (rest := []) (lenOf pd_15 rfl) rfl (by show 2 * 0 + _ ≤ _; exact Nat.le_of_eq rfl) (hb hby at_336) (fun _ _ => ⟨rfl, e168, (by decide : 13 + 0 ≤ _), (by decide : 28 + 0 ≤ _)⟩)
                dsimp only [Pt.U, Pt.locs, Pt.cells, Pt.slots] at X176 l176 y176 z176 st176 hQ176
                subst l176 y176 z176
                obtain ⟨z176, rfl, N176q, e176, hz176⟩ := hQ176
                have N176 := Fr.app N168 N176q
                refine own_go (fun _ kk_ => st176.trans kk_) ?_
                refine own_go (fun _ kk_ => XS.iload X176.here hx rfl (hb hby at_339) rfl kk_) ?_
                show own_Fin p.tables e below _ (T176.setTop (mkF m 341 #[.val (.int ksl), .val (.long tl), .second, .val (.long ul), .second, .val (.int mode), .val (.int line), .val (.int colu), .val (.int kx), .val (.ref kd), .val (.int lt_), .val (.int a0_), .val (.int a1_), .val (.int a2_), .val (.int lu_), .val (.int b0_), .val (.int b1_), .val (.int b2_), .val (.int (mode &&& (3 : Int32))), .val (.ref xr135), .val (.ref b137), .val (.ref xr166), .val (.int z168), .val (.int (1 : Int32))] [(.int (1 : Int32)), (.int z176)]))
                have hfin : z176 = (1 : Int32) := own_f1 hz176 (hkd.elim (fun q => q.2) (fun q => absurd (Or.inr hc173) q.1)) ((own_mk_same r_lt_ r_lu_).mpr (hsm168.elim (fun u => u.2) (fun u => absurd u.1 hc174)))
                refine own_go (fun _ kk_ => XS.icmpNo X176.here hx rfl (hb hby at_341) rfl (teq hfin).2 kk_) ?_
                refine own_go (fun _ kk_ => XS.iconst X176.here hx rfl (hb hby at_344) kk_) ?_
                refine own_go (fun _ kk_ => XS.goto X176.here hx rfl (pc0 := 345) (pc' := 349) rfl (hb hby at_345) (by decide) (by decide) kk_) ?_
                show own_Fin p.tables e below _ (T176.setTop (mkF m 349 #[.val (.int ksl), .val (.long tl), .second, .val (.long ul), .second, .val (.int mode), .val (.int line), .val (.int colu), .val (.int kx), .val (.ref kd), .val (.int lt_), .val (.int a0_), .val (.int a1_), .val (.int a2_), .val (.int lu_), .val (.int b0_), .val (.int b1_), .val (.int b2_), .val (.int (mode &&& (3 : Int32))), .val (.ref xr135), .val (.ref b137), .val (.ref xr166), .val (.int z168), .val (.int (1 : Int32))] [(.int (1 : Int32))]))
                have CRz : CHr Z consts_1 s.vm s.heap T176.vm T176.heap := by
                  rw [hh, e176]
                  exact CR.trans (CHv.at X176 hZ hEL CH)
                refine own_retW X176 hx Bd hS (show _ ≤ T176.heap.size by rw [e176]; exact hk) (t := .boolean) Bd.returns rfl (Or.inl ⟨rfl, by simp, _, rfl⟩) (hb hby at_349) CRz ?_ (by decide) (by decide)
                show (Q_rm_law Z ksl tl ul mode line colu gc kn kk ku ks ke h0 n0) (some (.int (1 : Int32))) T176.heap _
                rw [e176]
                exact ⟨rfl, N176⟩
            · skip
              refine own_go (fun _ kk_ => XS.icmpYes X168.here hx rfl (pc0 := 317) (pc' := 329) rfl (hb hby at_317) rfl (feq hc173).2 (by decide) (by decide) kk_) ?_
              refine own_go (fun _ kk_ => XS.iconst X168.here hx rfl (hb hby at_329) kk_) ?_
              refine own_go (fun _ kk_ => XS.istore X168.here hx rfl (hb hby at_330) rfl (l' := #[.val (.int ksl), .val (.long tl), .second, .val (.long ul), .second, .val (.int mode), .val (.int line), .val (.int colu), .val (.int kx), .val (.ref kd), .val (.int lt_), .val (.int a0_), .val (.int a1_), .val (.int a2_), .val (.int lu_), .val (.int b0_), .val (.int b1_), .val (.int b2_), .val (.int (mode &&& (3 : Int32))), .val (.ref xr135), .val (.ref b137), .val (.ref xr166), .val (.int z168), .val (.int (0 : Int32))]) rfl kk_) ?_
              refine own_go (fun _ kk_ => XS.aload X168.here hx rfl (hb hby at_332) rfl rfl kk_) ?_
              refine own_go (fun _ kk_ => XS.aload X168.here hx rfl (hb hby at_334) rfl rfl kk_) ?_
              show own_Fin p.tables e below _ (T168.setTop (mkF m 336 #[.val (.int ksl), .val (.long tl), .second, .val (.long ul), .second, .val (.int mode), .val (.int line), .val (.int colu), .val (.int kx), .val (.ref kd), .val (.int lt_), .val (.int a0_), .val (.int a1_), .val (.int a2_), .val (.int lu_), .val (.int b0_), .val (.int b1_), .val (.int b2_), .val (.int (mode &&& (3 : Int32))), .val (.ref xr135), .val (.ref b137), .val (.ref xr166), .val (.int z168), .val (.int (0 : Int32))] [(.ref xr166), (.ref b137)]))
              obtain ⟨cq177, kq177, qa177, qb177, qc177⟩ := isOf hZ e168 A137
              obtain ⟨_, _, ⟨T177, L177, k177, n177⟩, -, X177, ⟨Lc177, hQ177, l177, y177, z177⟩, st177⟩ := X168.virtualBack hx (y := (⟨"com/example/obra/obra/Token", "is", "(Ljava/lang/String;)Z"⟩ : MethodName)) (z := (⟨"com/example/obra/obra/Token", "is", "(Ljava/lang/String;)Z"⟩ : MethodName)) hown (mvT hZ (hw _ (List.mem_of_getElem? (i := 52) rfl))) (mvT hZ (hw _ (List.mem_of_getElem? (i := 53) rfl))) (own_notface (args := #[]) (mvT hZ (hw _ (List.mem_of_getElem? (i := 55) rfl))) rfl) (mvT hZ (hw _ (List.mem_of_getElem? (i := 55) rfl))) (mvT hZ (hw _ (List.mem_of_getElem? (i := 54) rfl))) (by decide) (backOf (W := 0) (rm_isS l Z a0 hw [] b137 xr166 tr166 (own_mk lu_ b0_ b1_ b2_) kd xr135 tr135 (own_mk lt_ a0_ a1_ a2_) kk ks gc T166.heap n0 (Nat.le_trans Z0 K167.1) G141_kind G141_text SS135 SS166 S_kk S_ks S_C hcs O0) hZ (hw _ (List.mem_of_getElem? (i := 56) rfl)) (hw _ (List.mem_of_getElem? (i := 34) rfl)) (by decide) (by decide)) qa177 qc177 (g := (mkF m 336 #[.val (.int ksl), .val (.long tl), .second, .val (.long ul), .second, .val (.int mode), .val (.int line), .val (.int colu), .val (.int kx), .val (.ref kd), .val (.int lt_), .val (.int a0_), .val (.int a1_), .val (.int a2_), .val (.int lu_), .val (.int b0_), .val (.int b1_), .val (.int b2_), .val (.int (mode &&& (3 : Int32))), .val (.ref xr135), .val (.ref b137), .val (.ref xr166), .val (.int z168), .val (.int (0 : Int32))] [(.ref xr166), (.ref b137)])) rfl (by rw [hml]; rfl) (Steps.refl _) (argsL := [(.ref xr166)]) (rest := []) (lenOf pd_15 rfl) rfl (by show 2 * 0 + _ ≤ _; exact Nat.le_of_eq rfl) (hb hby at_336) (fun _ _ => ⟨rfl, e168, (by decide : 13 + 0 ≤ _), (by decide : 28 + 0 ≤ _)⟩)
              dsimp only [Pt.U, Pt.locs, Pt.cells, Pt.slots] at X177 l177 y177 z177 st177 hQ177
              subst l177 y177 z177
              obtain ⟨z177, rfl, N177q, e177, hz177⟩ := hQ177
              have N177 := Fr.app N168 N177q
              refine own_go (fun _ kk_ => st177.trans kk_) ?_
              refine own_go (fun _ kk_ => XS.iload X177.here hx rfl (hb hby at_339) rfl kk_) ?_
              show own_Fin p.tables e below _ (T177.setTop (mkF m 341 #[.val (.int ksl), .val (.long tl), .second, .val (.long ul), .second, .val (.int mode), .val (.int line), .val (.int colu), .val (.int kx), .val (.ref kd), .val (.int lt_), .val (.int a0_), .val (.int a1_), .val (.int a2_), .val (.int lu_), .val (.int b0_), .val (.int b1_), .val (.int b2_), .val (.int (mode &&& (3 : Int32))), .val (.ref xr135), .val (.ref b137), .val (.ref xr166), .val (.int z168), .val (.int (0 : Int32))] [(.int (0 : Int32)), (.int z177)]))
              have hfin : z177 = (0 : Int32) := own_f0 hz177 (fun q => (hkd.elim (fun q => absurd q.1 (by simp [hc169, hc173])) (fun q => q.2)) q.1)
              refine own_go (fun _ kk_ => XS.icmpNo X177.here hx rfl (hb hby at_341) rfl (teq hfin).2 kk_) ?_
              refine own_go (fun _ kk_ => XS.iconst X177.here hx rfl (hb hby at_344) kk_) ?_
              refine own_go (fun _ kk_ => XS.goto X177.here hx rfl (pc0 := 345) (pc' := 349) rfl (hb hby at_345) (by decide) (by decide) kk_) ?_
              show own_Fin p.tables e below _ (T177.setTop (mkF m 349 #[.val (.int ksl), .val (.long tl), .second, .val (.long ul), .second, .val (.int mode), .val (.int line), .val (.int colu), .val (.int kx), .val (.ref kd), .val (.int lt_), .val (.int a0_), .val (.int a1_), .val (.int a2_), .val (.int lu_), .val (.int b0_), .val (.int b1_), .val (.int b2_), .val (.int (mode &&& (3 : Int32))), .val (.ref xr135), .val (.ref b137), .val (.ref xr166), .val (.int z168), .val (.int (0 : Int32))] [(.int (1 : Int32))]))
              have CRz : CHr Z consts_1 s.vm s.heap T177.vm T177.heap := by
                rw [hh, e177]
                exact CR.trans (CHv.at X177 hZ hEL CH)
              refine own_retW X177 hx Bd hS (show _ ≤ T177.heap.size by rw [e177]; exact hk) (t := .boolean) Bd.returns rfl (Or.inl ⟨rfl, by simp, _, rfl⟩) (hb hby at_349) CRz ?_ (by decide) (by decide)
              show (Q_rm_law Z ksl tl ul mode line colu gc kn kk ku ks ke h0 n0) (some (.int (1 : Int32))) T177.heap _
              rw [e177]
              exact ⟨rfl, N177⟩
        · skip
          refine own_go (fun _ kk_ => XS.icmpYes X141.here hx rfl (pc0 := 262) (pc' := 302) rfl (hb hby at_262) rfl (feq hc165).2 (by decide) (by decide) kk_) ?_
          refine own_go (fun _ kk_ => XS.aconstNull X141.here hx rfl (hb hby at_302) kk_) ?_
          refine own_go (fun _ kk_ => XS.astore X141.here hx rfl (hb hby at_303) rfl rfl (l' := #[.val (.int ksl), .val (.long tl), .second, .val (.long ul), .second, .val (.int mode), .val (.int line), .val (.int colu), .val (.int kx), .val (.ref kd), .val (.int lt_), .val (.int a0_), .val (.int a1_), .val (.int a2_), .val (.int lu_), .val (.int b0_), .val (.int b1_), .val (.int b2_), .val (.int (mode &&& (3 : Int32))), .val (.ref xr135), .val (.ref b137), .val .null, .unset, .unset]) rfl kk_) ?_
          refine own_go (fun _ kk_ => XS.iconst X141.here hx rfl (hb hby at_305) kk_) ?_
          refine own_go (fun _ kk_ => XS.istore X141.here hx rfl (hb hby at_306) rfl (l' := #[.val (.int ksl), .val (.long tl), .second, .val (.long ul), .second, .val (.int mode), .val (.int line), .val (.int colu), .val (.int kx), .val (.ref kd), .val (.int lt_), .val (.int a0_), .val (.int a1_), .val (.int a2_), .val (.int lu_), .val (.int b0_), .val (.int b1_), .val (.int b2_), .val (.int (mode &&& (3 : Int32))), .val (.ref xr135), .val (.ref b137), .val .null, .val (.int (0 : Int32)), .unset]) rfl kk_) ?_
          refine own_go (fun _ kk_ => XS.iload X141.here hx rfl (hb hby at_308) rfl kk_) ?_
          refine own_go (fun _ kk_ => XS.iconst X141.here hx rfl (hb hby at_310) kk_) ?_
          show own_Fin p.tables e below _ (T141.setTop (mkF m 311 #[.val (.int ksl), .val (.long tl), .second, .val (.long ul), .second, .val (.int mode), .val (.int line), .val (.int colu), .val (.int kx), .val (.ref kd), .val (.int lt_), .val (.int a0_), .val (.int a1_), .val (.int a2_), .val (.int lu_), .val (.int b0_), .val (.int b1_), .val (.int b2_), .val (.int (mode &&& (3 : Int32))), .val (.ref xr135), .val (.ref b137), .val .null, .val (.int (0 : Int32)), .unset] [(.int (1 : Int32)), (.int kx)]))
          by_cases hc178 : kx = (1 : Int32)
          · skip
            refine own_go (fun _ kk_ => XS.icmpYes X141.here hx rfl (pc0 := 311) (pc' := 320) rfl (hb hby at_311) rfl (teq hc178).1 (by decide) (by decide) kk_) ?_
            refine own_go (fun _ kk_ => XS.iload X141.here hx rfl (hb hby at_320) rfl kk_) ?_
            show own_Fin p.tables e below _ (T141.setTop (mkF m 322 #[.val (.int ksl), .val (.long tl), .second, .val (.long ul), .second, .val (.int mode), .val (.int line), .val (.int colu), .val (.int kx), .val (.ref kd), .val (.int lt_), .val (.int a0_), .val (.int a1_), .val (.int a2_), .val (.int lu_), .val (.int b0_), .val (.int b1_), .val (.int b2_), .val (.int (mode &&& (3 : Int32))), .val (.ref xr135), .val (.ref b137), .val .null, .val (.int (0 : Int32)), .unset] [(.int (0 : Int32))]))
            refine own_go (fun _ kk_ => XS.ifYes X141.here hx rfl (pc0 := 322) (pc' := 329) rfl (hb hby at_322) rfl ((if0 _ _).trans (teq (by decide : (0 : Int32) = (0 : Int32))).1) (by decide) (by decide) kk_) ?_
            refine own_go (fun _ kk_ => XS.iconst X141.here hx rfl (hb hby at_329) kk_) ?_
            refine own_go (fun _ kk_ => XS.istore X141.here hx rfl (hb hby at_330) rfl (l' := #[.val (.int ksl), .val (.long tl), .second, .val (.long ul), .second, .val (.int mode), .val (.int line), .val (.int colu), .val (.int kx), .val (.ref kd), .val (.int lt_), .val (.int a0_), .val (.int a1_), .val (.int a2_), .val (.int lu_), .val (.int b0_), .val (.int b1_), .val (.int b2_), .val (.int (mode &&& (3 : Int32))), .val (.ref xr135), .val (.ref b137), .val .null, .val (.int (0 : Int32)), .val (.int (0 : Int32))]) rfl kk_) ?_
            refine own_go (fun _ kk_ => XS.aload X141.here hx rfl (hb hby at_332) rfl rfl kk_) ?_
            refine own_go (fun _ kk_ => XS.aload X141.here hx rfl (hb hby at_334) rfl rfl kk_) ?_
            show own_Fin p.tables e below _ (T141.setTop (mkF m 336 #[.val (.int ksl), .val (.long tl), .second, .val (.long ul), .second, .val (.int mode), .val (.int line), .val (.int colu), .val (.int kx), .val (.ref kd), .val (.int lt_), .val (.int a0_), .val (.int a1_), .val (.int a2_), .val (.int lu_), .val (.int b0_), .val (.int b1_), .val (.int b2_), .val (.int (mode &&& (3 : Int32))), .val (.ref xr135), .val (.ref b137), .val .null, .val (.int (0 : Int32)), .val (.int (0 : Int32))] [.null, (.ref b137)]))
            obtain ⟨cq179, kq179, qa179, qb179, qc179⟩ := isOf hZ rfl A137
            obtain ⟨_, _, ⟨T179, L179, k179, n179⟩, -, X179, ⟨Lc179, hQ179, l179, y179, z179⟩, st179⟩ := X141.virtualBack hx (y := (⟨"com/example/obra/obra/Token", "is", "(Ljava/lang/String;)Z"⟩ : MethodName)) (z := (⟨"com/example/obra/obra/Token", "is", "(Ljava/lang/String;)Z"⟩ : MethodName)) hown (mvT hZ (hw _ (List.mem_of_getElem? (i := 52) rfl))) (mvT hZ (hw _ (List.mem_of_getElem? (i := 53) rfl))) (own_notface (args := #[]) (mvT hZ (hw _ (List.mem_of_getElem? (i := 55) rfl))) rfl) (mvT hZ (hw _ (List.mem_of_getElem? (i := 55) rfl))) (mvT hZ (hw _ (List.mem_of_getElem? (i := 54) rfl))) (by decide) (backOf (W := 0) (rm_isN l Z a0 hw [] b137  kd xr135 tr135 (own_mk lt_ a0_ a1_ a2_) kk ks gc T141.heap n0 (Nat.le_trans Z0 K143.1) G141_kind G141_text SS135  S_kk S_ks S_C hcs O0) hZ (hw _ (List.mem_of_getElem? (i := 56) rfl)) (hw _ (List.mem_of_getElem? (i := 34) rfl)) (by decide) (by decide)) qa179 qc179 (g := (mkF m 336 #[.val (.int ksl), .val (.long tl), .second, .val (.long ul), .second, .val (.int mode), .val (.int line), .val (.int colu), .val (.int kx), .val (.ref kd), .val (.int lt_), .val (.int a0_), .val (.int a1_), .val (.int a2_), .val (.int lu_), .val (.int b0_), .val (.int b1_), .val (.int b2_), .val (.int (mode &&& (3 : Int32))), .val (.ref xr135), .val (.ref b137), .val .null, .val (.int (0 : Int32)), .val (.int (0 : Int32))] [.null, (.ref b137)])) rfl (by rw [hml]; rfl) (Steps.refl _) (argsL := [.null]) (rest := []) (lenOf pd_15 rfl) rfl (by show 2 * 0 + _ ≤ _; exact Nat.le_of_eq rfl) (hb hby at_336) (fun _ _ => ⟨rfl, rfl, (by decide : 7 + 0 ≤ _), (by decide : 16 + 0 ≤ _)⟩)
            dsimp only [Pt.U, Pt.locs, Pt.cells, Pt.slots] at X179 l179 y179 z179 st179 hQ179
            subst l179 y179 z179
            obtain ⟨rfl, N179q, e179⟩ := hQ179
            have N179 := Fr.app N141 N179q
            refine own_go (fun _ kk_ => st179.trans kk_) ?_
            refine own_go (fun _ kk_ => XS.iload X179.here hx rfl (hb hby at_339) rfl kk_) ?_
            show own_Fin p.tables e below _ (T179.setTop (mkF m 341 #[.val (.int ksl), .val (.long tl), .second, .val (.long ul), .second, .val (.int mode), .val (.int line), .val (.int colu), .val (.int kx), .val (.ref kd), .val (.int lt_), .val (.int a0_), .val (.int a1_), .val (.int a2_), .val (.int lu_), .val (.int b0_), .val (.int b1_), .val (.int b2_), .val (.int (mode &&& (3 : Int32))), .val (.ref xr135), .val (.ref b137), .val .null, .val (.int (0 : Int32)), .val (.int (0 : Int32))] [(.int (0 : Int32)), (.int (0 : Int32))]))
            refine own_go (fun _ kk_ => XS.icmpNo X179.here hx rfl (hb hby at_341) rfl (teq (by decide : (0 : Int32) = (0 : Int32))).2 kk_) ?_
            refine own_go (fun _ kk_ => XS.iconst X179.here hx rfl (hb hby at_344) kk_) ?_
            refine own_go (fun _ kk_ => XS.goto X179.here hx rfl (pc0 := 345) (pc' := 349) rfl (hb hby at_345) (by decide) (by decide) kk_) ?_
            show own_Fin p.tables e below _ (T179.setTop (mkF m 349 #[.val (.int ksl), .val (.long tl), .second, .val (.long ul), .second, .val (.int mode), .val (.int line), .val (.int colu), .val (.int kx), .val (.ref kd), .val (.int lt_), .val (.int a0_), .val (.int a1_), .val (.int a2_), .val (.int lu_), .val (.int b0_), .val (.int b1_), .val (.int b2_), .val (.int (mode &&& (3 : Int32))), .val (.ref xr135), .val (.ref b137), .val .null, .val (.int (0 : Int32)), .val (.int (0 : Int32))] [(.int (1 : Int32))]))
            have CRz : CHr Z consts_1 s.vm s.heap T179.vm T179.heap := by
              rw [hh, e179]
              exact CR.trans (CHv.at X179 hZ hEL CH)
            refine own_retW X179 hx Bd hS (show _ ≤ T179.heap.size by rw [e179]; exact hk) (t := .boolean) Bd.returns rfl (Or.inl ⟨rfl, by simp, _, rfl⟩) (hb hby at_349) CRz ?_ (by decide) (by decide)
            show (Q_rm_law Z ksl tl ul mode line colu gc kn kk ku ks ke h0 n0) (some (.int (1 : Int32))) T179.heap _
            rw [e179]
            exact ⟨rfl, N179⟩
          · skip
            refine own_go (fun _ kk_ => XS.icmpNo X141.here hx rfl (hb hby at_311) rfl (feq hc178).1 kk_) ?_
            refine own_go (fun _ kk_ => XS.iload X141.here hx rfl (hb hby at_314) rfl kk_) ?_
            refine own_go (fun _ kk_ => XS.iconst X141.here hx rfl (hb hby at_316) kk_) ?_
            show own_Fin p.tables e below _ (T141.setTop (mkF m 317 #[.val (.int ksl), .val (.long tl), .second, .val (.long ul), .second, .val (.int mode), .val (.int line), .val (.int colu), .val (.int kx), .val (.ref kd), .val (.int lt_), .val (.int a0_), .val (.int a1_), .val (.int a2_), .val (.int lu_), .val (.int b0_), .val (.int b1_), .val (.int b2_), .val (.int (mode &&& (3 : Int32))), .val (.ref xr135), .val (.ref b137), .val .null, .val (.int (0 : Int32)), .unset] [(.int (3 : Int32)), (.int kx)]))
            by_cases hc180 : kx = (3 : Int32)
            · skip
              refine own_go (fun _ kk_ => XS.icmpNo X141.here hx rfl (hb hby at_317) rfl (teq hc180).2 kk_) ?_
              refine own_go (fun _ kk_ => XS.iload X141.here hx rfl (hb hby at_320) rfl kk_) ?_
              show own_Fin p.tables e below _ (T141.setTop (mkF m 322 #[.val (.int ksl), .val (.long tl), .second, .val (.long ul), .second, .val (.int mode), .val (.int line), .val (.int colu), .val (.int kx), .val (.ref kd), .val (.int lt_), .val (.int a0_), .val (.int a1_), .val (.int a2_), .val (.int lu_), .val (.int b0_), .val (.int b1_), .val (.int b2_), .val (.int (mode &&& (3 : Int32))), .val (.ref xr135), .val (.ref b137), .val .null, .val (.int (0 : Int32)), .unset] [(.int (0 : Int32))]))
              refine own_go (fun _ kk_ => XS.ifYes X141.here hx rfl (pc0 := 322) (pc' := 329) rfl (hb hby at_322) rfl ((if0 _ _).trans (teq (by decide : (0 : Int32) = (0 : Int32))).1) (by decide) (by decide) kk_) ?_
              refine own_go (fun _ kk_ => XS.iconst X141.here hx rfl (hb hby at_329) kk_) ?_
              refine own_go (fun _ kk_ => XS.istore X141.here hx rfl (hb hby at_330) rfl (l' := #[.val (.int ksl), .val (.long tl), .second, .val (.long ul), .second, .val (.int mode), .val (.int line), .val (.int colu), .val (.int kx), .val (.ref kd), .val (.int lt_), .val (.int a0_), .val (.int a1_), .val (.int a2_), .val (.int lu_), .val (.int b0_), .val (.int b1_), .val (.int b2_), .val (.int (mode &&& (3 : Int32))), .val (.ref xr135), .val (.ref b137), .val .null, .val (.int (0 : Int32)), .val (.int (0 : Int32))]) rfl kk_) ?_
              refine own_go (fun _ kk_ => XS.aload X141.here hx rfl (hb hby at_332) rfl rfl kk_) ?_
              refine own_go (fun _ kk_ => XS.aload X141.here hx rfl (hb hby at_334) rfl rfl kk_) ?_
              show own_Fin p.tables e below _ (T141.setTop (mkF m 336 #[.val (.int ksl), .val (.long tl), .second, .val (.long ul), .second, .val (.int mode), .val (.int line), .val (.int colu), .val (.int kx), .val (.ref kd), .val (.int lt_), .val (.int a0_), .val (.int a1_), .val (.int a2_), .val (.int lu_), .val (.int b0_), .val (.int b1_), .val (.int b2_), .val (.int (mode &&& (3 : Int32))), .val (.ref xr135), .val (.ref b137), .val .null, .val (.int (0 : Int32)), .val (.int (0 : Int32))] [.null, (.ref b137)]))
              obtain ⟨cq181, kq181, qa181, qb181, qc181⟩ := isOf hZ rfl A137
              obtain ⟨_, _, ⟨T181, L181, k181, n181⟩, -, X181, ⟨Lc181, hQ181, l181, y181, z181⟩, st181⟩ := X141.virtualBack hx (y := (⟨"com/example/obra/obra/Token", "is", "(Ljava/lang/String;)Z"⟩ : MethodName)) (z := (⟨"com/example/obra/obra/Token", "is", "(Ljava/lang/String;)Z"⟩ : MethodName)) hown (mvT hZ (hw _ (List.mem_of_getElem? (i := 52) rfl))) (mvT hZ (hw _ (List.mem_of_getElem? (i := 53) rfl))) (own_notface (args := #[]) (mvT hZ (hw _ (List.mem_of_getElem? (i := 55) rfl))) rfl) (mvT hZ (hw _ (List.mem_of_getElem? (i := 55) rfl))) (mvT hZ (hw _ (List.mem_of_getElem? (i := 54) rfl))) (by decide) (backOf (W := 0) (rm_isN l Z a0 hw [] b137  kd xr135 tr135 (own_mk lt_ a0_ a1_ a2_) kk ks gc T141.heap n0 (Nat.le_trans Z0 K143.1) G141_kind G141_text SS135  S_kk S_ks S_C hcs O0) hZ (hw _ (List.mem_of_getElem? (i := 56) rfl)) (hw _ (List.mem_of_getElem? (i := 34) rfl)) (by decide) (by decide)) qa181 qc181 (g := (mkF m 336 #[.val (.int ksl), .val (.long tl), .second, .val (.long ul), .second, .val (.int mode), .val (.int line), .val (.int colu), .val (.int kx), .val (.ref kd), .val (.int lt_), .val (.int a0_), .val (.int a1_), .val (.int a2_), .val (.int lu_), .val (.int b0_), .val (.int b1_), .val (.int b2_), .val (.int (mode &&& (3 : Int32))), .val (.ref xr135), .val (.ref b137), .val .null, .val (.int (0 : Int32)), .val (.int (0 : Int32))] [.null, (.ref b137)])) rfl (by rw [hml]; rfl) (Steps.refl _) (argsL := [.null]) (rest := []) (lenOf pd_15 rfl) rfl (by show 2 * 0 + _ ≤ _; exact Nat.le_of_eq rfl) (hb hby at_336) (fun _ _ => ⟨rfl, rfl, (by decide : 7 + 0 ≤ _), (by decide : 16 + 0 ≤ _)⟩)
              dsimp only [Pt.U, Pt.locs, Pt.cells, Pt.slots] at X181 l181 y181 z181 st181 hQ181
              subst l181 y181 z181
              obtain ⟨rfl, N181q, e181⟩ := hQ181
              have N181 := Fr.app N141 N181q
              refine own_go (fun _ kk_ => st181.trans kk_) ?_
              refine own_go (fun _ kk_ => XS.iload X181.here hx rfl (hb hby at_339) rfl kk_) ?_
              show own_Fin p.tables e below _ (T181.setTop (mkF m 341 #[.val (.int ksl), .val (.long tl), .second, .val (.long ul), .second, .val (.int mode), .val (.int line), .val (.int colu), .val (.int kx), .val (.ref kd), .val (.int lt_), .val (.int a0_), .val (.int a1_), .val (.int a2_), .val (.int lu_), .val (.int b0_), .val (.int b1_), .val (.int b2_), .val (.int (mode &&& (3 : Int32))), .val (.ref xr135), .val (.ref b137), .val .null, .val (.int (0 : Int32)), .val (.int (0 : Int32))] [(.int (0 : Int32)), (.int (0 : Int32))]))
              refine own_go (fun _ kk_ => XS.icmpNo X181.here hx rfl (hb hby at_341) rfl (teq (by decide : (0 : Int32) = (0 : Int32))).2 kk_) ?_
              refine own_go (fun _ kk_ => XS.iconst X181.here hx rfl (hb hby at_344) kk_) ?_
              refine own_go (fun _ kk_ => XS.goto X181.here hx rfl (pc0 := 345) (pc' := 349) rfl (hb hby at_345) (by decide) (by decide) kk_) ?_
              show own_Fin p.tables e below _ (T181.setTop (mkF m 349 #[.val (.int ksl), .val (.long tl), .second, .val (.long ul), .second, .val (.int mode), .val (.int line), .val (.int colu), .val (.int kx), .val (.ref kd), .val (.int lt_), .val (.int a0_), .val (.int a1_), .val (.int a2_), .val (.int lu_), .val (.int b0_), .val (.int b1_), .val (.int b2_), .val (.int (mode &&& (3 : Int32))), .val (.ref xr135), .val (.ref b137), .val .null, .val (.int (0 : Int32)), .val (.int (0 : Int32))] [(.int (1 : Int32))]))
              have CRz : CHr Z consts_1 s.vm s.heap T181.vm T181.heap := by
                rw [hh, e181]
                exact CR.trans (CHv.at X181 hZ hEL CH)
              refine own_retW X181 hx Bd hS (show _ ≤ T181.heap.size by rw [e181]; exact hk) (t := .boolean) Bd.returns rfl (Or.inl ⟨rfl, by simp, _, rfl⟩) (hb hby at_349) CRz ?_ (by decide) (by decide)
              show (Q_rm_law Z ksl tl ul mode line colu gc kn kk ku ks ke h0 n0) (some (.int (1 : Int32))) T181.heap _
              rw [e181]
              exact ⟨rfl, N181⟩
            · skip
              refine own_go (fun _ kk_ => XS.icmpYes X141.here hx rfl (pc0 := 317) (pc' := 329) rfl (hb hby at_317) rfl (feq hc180).2 (by decide) (by decide) kk_) ?_
              refine own_go (fun _ kk_ => XS.iconst X141.here hx rfl (hb hby at_329) kk_) ?_
              refine own_go (fun _ kk_ => XS.istore X141.here hx rfl (hb hby at_330) rfl (l' := #[.val (.int ksl), .val (.long tl), .second, .val (.long ul), .second, .val (.int mode), .val (.int line), .val (.int colu), .val (.int kx), .val (.ref kd), .val (.int lt_), .val (.int a0_), .val (.int a1_), .val (.int a2_), .val (.int lu_), .val (.int b0_), .val (.int b1_), .val (.int b2_), .val (.int (mode &&& (3 : Int32))), .val (.ref xr135), .val (.ref b137), .val .null, .val (.int (0 : Int32)), .val (.int (0 : Int32))]) rfl kk_) ?_
              refine own_go (fun _ kk_ => XS.aload X141.here hx rfl (hb hby at_332) rfl rfl kk_) ?_
              refine own_go (fun _ kk_ => XS.aload X141.here hx rfl (hb hby at_334) rfl rfl kk_) ?_
              show own_Fin p.tables e below _ (T141.setTop (mkF m 336 #[.val (.int ksl), .val (.long tl), .second, .val (.long ul), .second, .val (.int mode), .val (.int line), .val (.int colu), .val (.int kx), .val (.ref kd), .val (.int lt_), .val (.int a0_), .val (.int a1_), .val (.int a2_), .val (.int lu_), .val (.int b0_), .val (.int b1_), .val (.int b2_), .val (.int (mode &&& (3 : Int32))), .val (.ref xr135), .val (.ref b137), .val .null, .val (.int (0 : Int32)), .val (.int (0 : Int32))] [.null, (.ref b137)]))
              obtain ⟨cq182, kq182, qa182, qb182, qc182⟩ := isOf hZ rfl A137
              obtain ⟨_, _, ⟨T182, L182, k182, n182⟩, -, X182, ⟨Lc182, hQ182, l182, y182, z182⟩, st182⟩ := X141.virtualBack hx (y := (⟨"com/example/obra/obra/Token", "is", "(Ljava/lang/String;)Z"⟩ : MethodName)) (z := (⟨"com/example/obra/obra/Token", "is", "(Ljava/lang/String;)Z"⟩ : MethodName)) hown (mvT hZ (hw _ (List.mem_of_getElem? (i := 52) rfl))) (mvT hZ (hw _ (List.mem_of_getElem? (i := 53) rfl))) (own_notface (args := #[]) (mvT hZ (hw _ (List.mem_of_getElem? (i := 55) rfl))) rfl) (mvT hZ (hw _ (List.mem_of_getElem? (i := 55) rfl))) (mvT hZ (hw _ (List.mem_of_getElem? (i := 54) rfl))) (by decide) (backOf (W := 0) (rm_isN l Z a0 hw [] b137  kd xr135 tr135 (own_mk lt_ a0_ a1_ a2_) kk ks gc T141.heap n0 (Nat.le_trans Z0 K143.1) G141_kind G141_text SS135  S_kk S_ks S_C hcs O0) hZ (hw _ (List.mem_of_getElem? (i := 56) rfl)) (hw _ (List.mem_of_getElem? (i := 34) rfl)) (by decide) (by decide)) qa182 qc182 (g := (mkF m 336 #[.val (.int ksl), .val (.long tl), .second, .val (.long ul), .second, .val (.int mode), .val (.int line), .val (.int colu), .val (.int kx), .val (.ref kd), .val (.int lt_), .val (.int a0_), .val (.int a1_), .val (.int a2_), .val (.int lu_), .val (.int b0_), .val (.int b1_), .val (.int b2_), .val (.int (mode &&& (3 : Int32))), .val (.ref xr135), .val (.ref b137), .val .null, .val (.int (0 : Int32)), .val (.int (0 : Int32))] [.null, (.ref b137)])) rfl (by rw [hml]; rfl) (Steps.refl _) (argsL := [.null]) (rest := []) (lenOf pd_15 rfl) rfl (by show 2 * 0 + _ ≤ _; exact Nat.le_of_eq rfl) (hb hby at_336) (fun _ _ => ⟨rfl, rfl, (by decide : 7 + 0 ≤ _), (by decide : 16 + 0 ≤ _)⟩)
              dsimp only [Pt.U, Pt.locs, Pt.cells, Pt.slots] at X182 l182 y182 z182 st182 hQ182
              subst l182 y182 z182
              obtain ⟨rfl, N182q, e182⟩ := hQ182
              have N182 := Fr.app N141 N182q
              refine own_go (fun _ kk_ => st182.trans kk_) ?_
              refine own_go (fun _ kk_ => XS.iload X182.here hx rfl (hb hby at_339) rfl kk_) ?_
              show own_Fin p.tables e below _ (T182.setTop (mkF m 341 #[.val (.int ksl), .val (.long tl), .second, .val (.long ul), .second, .val (.int mode), .val (.int line), .val (.int colu), .val (.int kx), .val (.ref kd), .val (.int lt_), .val (.int a0_), .val (.int a1_), .val (.int a2_), .val (.int lu_), .val (.int b0_), .val (.int b1_), .val (.int b2_), .val (.int (mode &&& (3 : Int32))), .val (.ref xr135), .val (.ref b137), .val .null, .val (.int (0 : Int32)), .val (.int (0 : Int32))] [(.int (0 : Int32)), (.int (0 : Int32))]))
              refine own_go (fun _ kk_ => XS.icmpNo X182.here hx rfl (hb hby at_341) rfl (teq (by decide : (0 : Int32) = (0 : Int32))).2 kk_) ?_
              refine own_go (fun _ kk_ => XS.iconst X182.here hx rfl (hb hby at_344) kk_) ?_
              refine own_go (fun _ kk_ => XS.goto X182.here hx rfl (pc0 := 345) (pc' := 349) rfl (hb hby at_345) (by decide) (by decide) kk_) ?_
              show own_Fin p.tables e below _ (T182.setTop (mkF m 349 #[.val (.int ksl), .val (.long tl), .second, .val (.long ul), .second, .val (.int mode), .val (.int line), .val (.int colu), .val (.int kx), .val (.ref kd), .val (.int lt_), .val (.int a0_), .val (.int a1_), .val (.int a2_), .val (.int lu_), .val (.int b0_), .val (.int b1_), .val (.int b2_), .val (.int (mode &&& (3 : Int32))), .val (.ref xr135), .val (.ref b137), .val .null, .val (.int (0 : Int32)), .val (.int (0 : Int32))] [(.int (1 : Int32))]))
              have CRz : CHr Z consts_1 s.vm s.heap T182.vm T182.heap := by
                rw [hh, e182]
                exact CR.trans (CHv.at X182 hZ hEL CH)
              refine own_retW X182 hx Bd hS (show _ ≤ T182.heap.size by rw [e182]; exact hk) (t := .boolean) Bd.returns rfl (Or.inl ⟨rfl, by simp, _, rfl⟩) (hb hby at_349) CRz ?_ (by decide) (by decide)
              show (Q_rm_law Z ksl tl ul mode line colu gc kn kk ku ks ke h0 n0) (some (.int (1 : Int32))) T182.heap _
              rw [e182]
              exact ⟨rfl, N182⟩
  refine own_go (fun _ kk_ => XS.istore X0.here hx rfl (hb hby at_6) rfl (l' := #[.val (.int ksl), .val (.long tl), .second, .val (.long ul), .second, .val (.int mode), .val (.int line), .val (.int colu), .val (.int kx), .unset, .unset, .unset, .unset, .unset, .unset, .unset, .unset, .unset, .unset, .unset, .unset, .unset, .unset, .unset]) rfl kk_) ?_
  refine own_go (fun _ kk_ => XS.iload X0.here hx rfl (hb hby at_8) rfl kk_) ?_
  show own_Fin p.tables e below _ (s₁.setTop (mkF m 10 #[.val (.int ksl), .val (.long tl), .second, .val (.long ul), .second, .val (.int mode), .val (.int line), .val (.int colu), .val (.int kx), .unset, .unset, .unset, .unset, .unset, .unset, .unset, .unset, .unset, .unset, .unset, .unset, .unset, .unset, .unset] [(.int kx)]))
  by_cases hc183 : kx = (0 : Int32)
  · skip
    refine own_go (fun _ kk_ => XS.ifNo X0.here hx rfl (hb hby at_10) rfl ((if0 _ _).trans (teq hc183).2) kk_) ?_
    show own_Fin p.tables e below _ (s₁.setTop (mkF m 13 #[.val (.int ksl), .val (.long tl), .second, .val (.long ul), .second, .val (.int mode), .val (.int line), .val (.int colu), .val (.int kx), .unset, .unset, .unset, .unset, .unset, .unset, .unset, .unset, .unset, .unset, .unset, .unset, .unset, .unset, .unset] []))
    obtain ⟨T184, X184, e184, st184⟩ := getS2 X0 hx hZ hown (host := "") (Or.inl (hw _ (List.mem_of_getElem? (i := 1) rfl))) Via.refl e0 (S_kn.ext O0.2) (g := (mkF m 13 #[.val (.int ksl), .val (.long tl), .second, .val (.long ul), .second, .val (.int mode), .val (.int line), .val (.int colu), .val (.int kx), .unset, .unset, .unset, .unset, .unset, .unset, .unset, .unset, .unset, .unset, .unset, .unset, .unset, .unset, .unset] [])) rfl (hb hby at_13)
    refine own_go st184 ?_
    refine own_go (fun _ kk_ => XS.astore X184.here hx rfl (hb hby at_16) rfl rfl (l' := #[.val (.int ksl), .val (.long tl), .second, .val (.long ul), .second, .val (.int mode), .val (.int line), .val (.int colu), .val (.int kx), .val (.ref kn), .unset, .unset, .unset, .unset, .unset, .unset, .unset, .unset, .unset, .unset, .unset, .unset, .unset, .unset]) rfl kk_) ?_
    refine own_go (fun _ kk_ => XS.goto X184.here hx rfl (pc0 := 18) (pc' := 68) rfl (hb hby at_18) (by decide) (by decide) kk_) ?_
    show own_Fin p.tables e below _ (T184.setTop (mkF m 68 #[.val (.int ksl), .val (.long tl), .second, .val (.long ul), .second, .val (.int mode), .val (.int line), .val (.int colu), .val (.int kx), .val (.ref kn), .unset, .unset, .unset, .unset, .unset, .unset, .unset, .unset, .unset, .unset, .unset, .unset, .unset, .unset] []))
    exact tail _ X184 e184 kn (Or.inr ⟨by simp [hc183], by simp [n_kn_kk, n_kn_ks]⟩)
  · skip
    refine own_go (fun _ kk_ => XS.ifYes X0.here hx rfl (pc0 := 10) (pc' := 21) rfl (hb hby at_10) rfl ((if0 _ _).trans (feq hc183).2) (by decide) (by decide) kk_) ?_
    refine own_go (fun _ kk_ => XS.iload X0.here hx rfl (hb hby at_21) rfl kk_) ?_
    refine own_go (fun _ kk_ => XS.iconst X0.here hx rfl (hb hby at_23) kk_) ?_
    show own_Fin p.tables e below _ (s₁.setTop (mkF m 24 #[.val (.int ksl), .val (.long tl), .second, .val (.long ul), .second, .val (.int mode), .val (.int line), .val (.int colu), .val (.int kx), .unset, .unset, .unset, .unset, .unset, .unset, .unset, .unset, .unset, .unset, .unset, .unset, .unset, .unset, .unset] [(.int (1 : Int32)), (.int kx)]))
    by_cases hc185 : kx = (1 : Int32)
    · skip
      refine own_go (fun _ kk_ => XS.icmpNo X0.here hx rfl (hb hby at_24) rfl (teq hc185).2 kk_) ?_
      show own_Fin p.tables e below _ (s₁.setTop (mkF m 27 #[.val (.int ksl), .val (.long tl), .second, .val (.long ul), .second, .val (.int mode), .val (.int line), .val (.int colu), .val (.int kx), .unset, .unset, .unset, .unset, .unset, .unset, .unset, .unset, .unset, .unset, .unset, .unset, .unset, .unset, .unset] []))
      obtain ⟨T186, X186, e186, st186⟩ := getS2 X0 hx hZ hown (host := "") (Or.inl (hw _ (List.mem_of_getElem? (i := 85) rfl))) Via.refl e0 (S_kk.ext O0.2) (g := (mkF m 27 #[.val (.int ksl), .val (.long tl), .second, .val (.long ul), .second, .val (.int mode), .val (.int line), .val (.int colu), .val (.int kx), .unset, .unset, .unset, .unset, .unset, .unset, .unset, .unset, .unset, .unset, .unset, .unset, .unset, .unset, .unset] [])) rfl (hb hby at_27)
      refine own_go st186 ?_
      refine own_go (fun _ kk_ => XS.astore X186.here hx rfl (hb hby at_30) rfl rfl (l' := #[.val (.int ksl), .val (.long tl), .second, .val (.long ul), .second, .val (.int mode), .val (.int line), .val (.int colu), .val (.int kx), .val (.ref kk), .unset, .unset, .unset, .unset, .unset, .unset, .unset, .unset, .unset, .unset, .unset, .unset, .unset, .unset]) rfl kk_) ?_
      refine own_go (fun _ kk_ => XS.goto X186.here hx rfl (pc0 := 32) (pc' := 68) rfl (hb hby at_32) (by decide) (by decide) kk_) ?_
      show own_Fin p.tables e below _ (T186.setTop (mkF m 68 #[.val (.int ksl), .val (.long tl), .second, .val (.long ul), .second, .val (.int mode), .val (.int line), .val (.int colu), .val (.int kx), .val (.ref kk), .unset, .unset, .unset, .unset, .unset, .unset, .unset, .unset, .unset, .unset, .unset, .unset, .unset, .unset] []))
      exact tail _ X186 e186 kk (Or.inl ⟨by simp [hc183, hc185], by simp⟩)
    · skip
      refine own_go (fun _ kk_ => XS.icmpYes X0.here hx rfl (pc0 := 24) (pc' := 35) rfl (hb hby at_24) rfl (feq hc185).2 (by decide) (by decide) kk_) ?_
      refine own_go (fun _ kk_ => XS.iload X0.here hx rfl (hb hby at_35) rfl kk_) ?_
      refine own_go (fun _ kk_ => XS.iconst X0.here hx rfl (hb hby at_37) kk_) ?_
      show own_Fin p.tables e below _ (s₁.setTop (mkF m 38 #[.val (.int ksl), .val (.long tl), .second, .val (.long ul), .second, .val (.int mode), .val (.int line), .val (.int colu), .val (.int kx), .unset, .unset, .unset, .unset, .unset, .unset, .unset, .unset, .unset, .unset, .unset, .unset, .unset, .unset, .unset] [(.int (2 : Int32)), (.int kx)]))
      by_cases hc187 : kx = (2 : Int32)
      · skip
        refine own_go (fun _ kk_ => XS.icmpNo X0.here hx rfl (hb hby at_38) rfl (teq hc187).2 kk_) ?_
        show own_Fin p.tables e below _ (s₁.setTop (mkF m 41 #[.val (.int ksl), .val (.long tl), .second, .val (.long ul), .second, .val (.int mode), .val (.int line), .val (.int colu), .val (.int kx), .unset, .unset, .unset, .unset, .unset, .unset, .unset, .unset, .unset, .unset, .unset, .unset, .unset, .unset, .unset] []))
        obtain ⟨T188, X188, e188, st188⟩ := getS2 X0 hx hZ hown (host := "") (Or.inl (hw _ (List.mem_of_getElem? (i := 61) rfl))) Via.refl e0 (S_ku.ext O0.2) (g := (mkF m 41 #[.val (.int ksl), .val (.long tl), .second, .val (.long ul), .second, .val (.int mode), .val (.int line), .val (.int colu), .val (.int kx), .unset, .unset, .unset, .unset, .unset, .unset, .unset, .unset, .unset, .unset, .unset, .unset, .unset, .unset, .unset] [])) rfl (hb hby at_41)
        refine own_go st188 ?_
        refine own_go (fun _ kk_ => XS.astore X188.here hx rfl (hb hby at_44) rfl rfl (l' := #[.val (.int ksl), .val (.long tl), .second, .val (.long ul), .second, .val (.int mode), .val (.int line), .val (.int colu), .val (.int kx), .val (.ref ku), .unset, .unset, .unset, .unset, .unset, .unset, .unset, .unset, .unset, .unset, .unset, .unset, .unset, .unset]) rfl kk_) ?_
        refine own_go (fun _ kk_ => XS.goto X188.here hx rfl (pc0 := 46) (pc' := 68) rfl (hb hby at_46) (by decide) (by decide) kk_) ?_
        show own_Fin p.tables e below _ (T188.setTop (mkF m 68 #[.val (.int ksl), .val (.long tl), .second, .val (.long ul), .second, .val (.int mode), .val (.int line), .val (.int colu), .val (.int kx), .val (.ref ku), .unset, .unset, .unset, .unset, .unset, .unset, .unset, .unset, .unset, .unset, .unset, .unset, .unset, .unset] []))
        exact tail _ X188 e188 ku (Or.inr ⟨by simp [hc183, hc185, hc187], by simp [n_ku_kk, n_ku_ks]⟩)
      · skip
        refine own_go (fun _ kk_ => XS.icmpYes X0.here hx rfl (pc0 := 38) (pc' := 49) rfl (hb hby at_38) rfl (feq hc187).2 (by decide) (by decide) kk_) ?_
        refine own_go (fun _ kk_ => XS.iload X0.here hx rfl (hb hby at_49) rfl kk_) ?_
        refine own_go (fun _ kk_ => XS.iconst X0.here hx rfl (hb hby at_51) kk_) ?_
        show own_Fin p.tables e below _ (s₁.setTop (mkF m 52 #[.val (.int ksl), .val (.long tl), .second, .val (.long ul), .second, .val (.int mode), .val (.int line), .val (.int colu), .val (.int kx), .unset, .unset, .unset, .unset, .unset, .unset, .unset, .unset, .unset, .unset, .unset, .unset, .unset, .unset, .unset] [(.int (3 : Int32)), (.int kx)]))
        by_cases hc189 : kx = (3 : Int32)
        · skip
          refine own_go (fun _ kk_ => XS.icmpNo X0.here hx rfl (hb hby at_52) rfl (teq hc189).2 kk_) ?_
          show own_Fin p.tables e below _ (s₁.setTop (mkF m 55 #[.val (.int ksl), .val (.long tl), .second, .val (.long ul), .second, .val (.int mode), .val (.int line), .val (.int colu), .val (.int kx), .unset, .unset, .unset, .unset, .unset, .unset, .unset, .unset, .unset, .unset, .unset, .unset, .unset, .unset, .unset] []))
          obtain ⟨T190, X190, e190, st190⟩ := getS2 X0 hx hZ hown (host := "") (Or.inl (hw _ (List.mem_of_getElem? (i := 79) rfl))) Via.refl e0 (S_ks.ext O0.2) (g := (mkF m 55 #[.val (.int ksl), .val (.long tl), .second, .val (.long ul), .second, .val (.int mode), .val (.int line), .val (.int colu), .val (.int kx), .unset, .unset, .unset, .unset, .unset, .unset, .unset, .unset, .unset, .unset, .unset, .unset, .unset, .unset, .unset] [])) rfl (hb hby at_55)
          refine own_go st190 ?_
          refine own_go (fun _ kk_ => XS.astore X190.here hx rfl (hb hby at_58) rfl rfl (l' := #[.val (.int ksl), .val (.long tl), .second, .val (.long ul), .second, .val (.int mode), .val (.int line), .val (.int colu), .val (.int kx), .val (.ref ks), .unset, .unset, .unset, .unset, .unset, .unset, .unset, .unset, .unset, .unset, .unset, .unset, .unset, .unset]) rfl kk_) ?_
          refine own_go (fun _ kk_ => XS.goto X190.here hx rfl (pc0 := 60) (pc' := 68) rfl (hb hby at_60) (by decide) (by decide) kk_) ?_
          show own_Fin p.tables e below _ (T190.setTop (mkF m 68 #[.val (.int ksl), .val (.long tl), .second, .val (.long ul), .second, .val (.int mode), .val (.int line), .val (.int colu), .val (.int kx), .val (.ref ks), .unset, .unset, .unset, .unset, .unset, .unset, .unset, .unset, .unset, .unset, .unset, .unset, .unset, .unset] []))
          exact tail _ X190 e190 ks (Or.inl ⟨by simp [hc183, hc185, hc187, hc189], by simp⟩)
        · skip
          refine own_go (fun _ kk_ => XS.icmpYes X0.here hx rfl (pc0 := 52) (pc' := 63) rfl (hb hby at_52) rfl (feq hc189).2 (by decide) (by decide) kk_) ?_
          show own_Fin p.tables e below _ (s₁.setTop (mkF m 63 #[.val (.int ksl), .val (.long tl), .second, .val (.long ul), .second, .val (.int mode), .val (.int line), .val (.int colu), .val (.int kx), .unset, .unset, .unset, .unset, .unset, .unset, .unset, .unset, .unset, .unset, .unset, .unset, .unset, .unset, .unset] []))
          obtain ⟨T191, X191, e191, st191⟩ := getS2 X0 hx hZ hown (host := "") (Or.inl (hw _ (List.mem_of_getElem? (i := 74) rfl))) Via.refl e0 (S_ke.ext O0.2) (g := (mkF m 63 #[.val (.int ksl), .val (.long tl), .second, .val (.long ul), .second, .val (.int mode), .val (.int line), .val (.int colu), .val (.int kx), .unset, .unset, .unset, .unset, .unset, .unset, .unset, .unset, .unset, .unset, .unset, .unset, .unset, .unset, .unset] [])) rfl (hb hby at_63)
          refine own_go st191 ?_
          refine own_go (fun _ kk_ => XS.astore X191.here hx rfl (hb hby at_66) rfl rfl (l' := #[.val (.int ksl), .val (.long tl), .second, .val (.long ul), .second, .val (.int mode), .val (.int line), .val (.int colu), .val (.int kx), .val (.ref ke), .unset, .unset, .unset, .unset, .unset, .unset, .unset, .unset, .unset, .unset, .unset, .unset, .unset, .unset]) rfl kk_) ?_
          show own_Fin p.tables e below _ (T191.setTop (mkF m 68 #[.val (.int ksl), .val (.long tl), .second, .val (.long ul), .second, .val (.int mode), .val (.int line), .val (.int colu), .val (.int kx), .val (.ref ke), .unset, .unset, .unset, .unset, .unset, .unset, .unset, .unset, .unset, .unset, .unset, .unset, .unset, .unset] []))
          exact tail _ X191 e191 ke (Or.inr ⟨by simp [hc183, hc185, hc187, hc189], by simp [n_ke_kk, n_ke_ks]⟩)
section OwnStart
variable {args : Array Value} {s : State}
theorem own_eqL {t : Term} {c : Int64} (h : (Jvm.Cond.eq t (.long c)).value args s none s [] = some true) : t.eval args s none [] s = some (.long c) := by
  obtain ⟨x, y, hx, hy, k1, -⟩ := cmp_v (Or.inl h)
  cases Option.some.inj (hy.symm.trans (long_at c))
  cases x <;> simp [Kin, Value.isRef] at k1
  have q := gotT (eq_L hx hy) h
  rw [hx, q]
theorem own_eqI {t : Term} {c : Int32} (h : (Jvm.Cond.eq t (.int c)).value args s none s [] = some true) : t.eval args s none [] s = some (.int c) := by
  obtain ⟨x, y, hx, hy, k1, -⟩ := cmp_v (Or.inl h)
  cases Option.some.inj (hy.symm.trans (Term.int_eval c))
  cases x <;> simp [Kin, Value.isRef] at k1
  have q := gotT (Cond.eq_ints hx hy) h
  rw [hx, q]
theorem own_eqR {t u : Term} {a : Addr} (hu : u.eval args s none [] s = some (.ref a)) (h : (Jvm.Cond.eq t u).value args s none s [] = some true) : t.eval args s none [] s = some (.ref a) := by
  obtain ⟨x, y, hx, hy, k1, -⟩ := cmp_v (Or.inl h)
  cases Option.some.inj (hy.symm.trans hu)
  have hr : x.isRef = true := by cases x <;> simp [Kin, Value.isRef] at k1 ⊢
  have q := gotT (eq_R hx hy hr rfl) h
  rw [hx, q]
theorem own_arr {t : Term} {a : Addr} {ty : FieldType} {N : Int32} (ev : t.eval args s none [] s = some (.ref a)) (h1 : (Jvm.Cond.arrayOf t ty).value args s none s [] = some true) (h2 : (Jvm.Cond.eq (Term.length t) (.int N)).value args s none s [] = some true) :
    ∃ cl, Arr s s.heap a cl ty ∧ s.arrayAt? a = some cl ∧ cl.slots.size < 2 ^ 31 ∧ cl.slots.size.toInt32 = N := by
  obtain ⟨cl, A⟩ := Arr.start ev h1
  have aa : s.arrayAt? a = some cl := A.fin (hal := Vm.Alike.refl _)
  have hlen := own_eqI h2
  simp only [Term.eval, ev, Option.bind_eq_bind, Option.bind_some, aa] at hlen
  split at hlen
  · rename_i q; exact ⟨cl, A, aa, q, by simpa using hlen⟩
  · cases hlen
theorem own_elL {t : Term} {a : Addr} {cl : Cell} {j : Int32} {c : Int64} (ev : t.eval args s none [] s = some (.ref a)) (aa : s.arrayAt? a = some cl) (hj : ¬ j < 0) (h : (Jvm.Cond.eq (Term.elem t (.int j)) (.long c)).value args s none s [] = some true) : cl.slots[j.toNatClampNeg]? = some (.long c) := by
  have q := own_eqL h
  rwa [elem_f ev (Term.int_eval j) aa hj] at q
theorem own_elI {t : Term} {a : Addr} {cl : Cell} {j : Int32} {c : Int32} (ev : t.eval args s none [] s = some (.ref a)) (aa : s.arrayAt? a = some cl) (hj : ¬ j < 0) (h : (Jvm.Cond.eq (Term.elem t (.int j)) (.int c)).value args s none s [] = some true) : cl.slots[j.toNatClampNeg]? = some (.int c) := by
  have q := own_eqI h
  rwa [elem_f ev (Term.int_eval j) aa hj] at q
theorem own_elR {t u : Term} {a b : Addr} {cl : Cell} {j : Int32} (ev : t.eval args s none [] s = some (.ref a)) (aa : s.arrayAt? a = some cl) (hj : ¬ j < 0) (hu : u.eval args s none [] s = some (.ref b)) (h : (Jvm.Cond.eq (Term.elem t (.int j)) u).value args s none s [] = some true) : cl.slots[j.toNatClampNeg]? = some (.ref b) := by
  have q := own_eqR hu h
  rwa [elem_f ev (Term.int_eval j) aa hj] at q
end OwnStart
set_option maxRecDepth 65536 in
set_option maxHeartbeats 40000000 in
theorem comes_1 {Post : Tables → Env → Array Value → State → Outcome → State → Prop} (hpost : ∀ tb e args s v u, (limb_1_1.after args s (.returned v) u = true ∧ limb_1_2.after args s (.returned v) u = true ∧ True) → ReturnedEndW s (.returned v) u (Jvm.fieldLocs frame_1_writes args s ++ Jvm.arrayLocs frame_1_arrays args s ++ Jvm.staticLocs frame_1_statics s) 24 1152 → Post tb e args s (.returned v) u) :
    ArmFor flags0 classFile x code maxLocals ret World_1 tables_1 room_1 Calls_1 rest_1 Pre_1 Post := by
  intro l hfl _ _ p e ha hc hk s m args below hf hA hF happ hP
  obtain ⟨hcalls, hrest, hpre⟩ := hP
  obtain ⟨-, -, -, hnamed, -, -, -, hat⟩ := (Spec.applies_iff hf).mp happ
  obtain ⟨hg, hn⟩ := and_e (Cond.before_iff.mp (show (Jvm.Cond.and given_1 narrow_1).before args s = true from hpre))
  obtain ⟨h1, hg⟩ := and_e hg
  obtain ⟨g0, hg⟩ := and_e hg
  obtain ⟨g1, hg⟩ := and_e hg
  obtain ⟨g2, hg⟩ := and_e hg
  obtain ⟨g3, hg⟩ := and_e hg
  obtain ⟨g4, hg⟩ := and_e hg
  obtain ⟨w0, w1, w2, w3, w4, w5, rfl⟩ : ∃ w0 w1 w2 w3 w4 w5 : Value, args = #[w0, w1, w2, w3, w4, w5] := by
    have hs : args.size = 6 := by simpa [Cond.value, given_1] using h1
    obtain ⟨L⟩ := args
    match L, hs with
    | [w0, w1, w2, w3, w4, w5], _ => exact ⟨w0, w1, w2, w3, w4, w5, rfl⟩
  have hw := fun d (hd : d ∈ tables_1) => atoms_spec (ws := Jvm.Cond.code x code maxLocals ret :: tables_1) hat d (List.mem_cons_of_mem _ hd)
  obtain ⟨hsets, hown0⟩ := atoms_of _ (rest_1_c_eq ▸ (show rest_1_c.before _ s = true from hrest))
  have hfit : Fit s := fun {y c} hc i hi => by
    obtain ⟨ha, rfl⟩ := Array.getElem?_eq_some_iff.mp hc
    have q := List.all_eq_true.mp ((Array.all_eq_true_iff_forall_mem.mp hF) _ (Array.getElem_mem ha)) i (List.mem_range.mpr hi)
    simpa [Array.getElem?_eq_getElem hi] using q
  obtain ⟨i0, e0⟩ := is_v g0
  obtain rfl : w0 = (.int i0) := Option.some.inj e0
  obtain ⟨i1, e1⟩ := isL_v g1
  obtain rfl : w1 = (.long i1) := Option.some.inj e1
  obtain ⟨i2, e2⟩ := isL_v g2
  obtain rfl : w2 = (.long i2) := Option.some.inj e2
  obtain ⟨i3, e3⟩ := is_v g3
  obtain rfl : w3 = (.int i3) := Option.some.inj e3
  obtain ⟨i4, e4⟩ := is_v g4
  obtain rfl : w4 = (.int i4) := Option.some.inj e4
  obtain ⟨i5, e5⟩ := is_v hg
  obtain rfl : w5 = (.int i5) := Option.some.inj e5
  have n5 := not_v (Cond.before_iff.mp (hsets _ (List.mem_of_getElem? (i := 2) rfl)))
  obtain ⟨gc, e10⟩ := is_v (Cond.before_iff.mp (hsets _ (List.mem_of_getElem? (i := 1) rfl)))
  have SC : Sta s s.heap "java/lang/String" "COMPACT_STRINGS" "Z" (.int gc) := Sta.start e10 (Or.inl (hsets _ (List.mem_of_getElem? (i := 0) rfl)))
  have hcs : ¬ (gc = (0 : Int32)) := gotF (Cond.eq_ints e10 (Term.int_eval (0))) n5
  obtain ⟨gs, e14, hgs⟩ := isR_v (Cond.before_iff.mp (hsets _ (List.mem_of_getElem? (i := 8) rfl)))
  have SF : Sta s s.heap "jdk/internal/util/Preconditions" "SIOOBE_FORMATTER" "Ljava/util/function/BiFunction;" gs := Sta.start e14 (Or.inl (hsets _ (List.mem_of_getElem? (i := 7) rfl)))
  obtain ⟨p0, hn⟩ := and_e hn
  obtain ⟨p1, hn⟩ := and_e hn
  obtain ⟨p2, hn⟩ := and_e hn
  obtain ⟨p3, hn⟩ := and_e hn
  obtain ⟨p4, hn⟩ := and_e hn
  obtain ⟨p5, hn⟩ := and_e hn
  obtain ⟨p6, hn⟩ := and_e hn
  obtain ⟨p7, hn⟩ := and_e hn
  obtain ⟨p8, hn⟩ := and_e hn
  obtain ⟨kn, en⟩ := exa_v p0
  obtain ⟨kk, ek⟩ := exa_v p1
  obtain ⟨ks, es⟩ := exa_v p4
  obtain ⟨ku, eu⟩ := exa_v p6
  obtain ⟨ke, ee⟩ := exa_v p8
  have hini := hw _ (List.mem_of_getElem? (i := 2) rfl)
  have Skn := Sta.start en (Or.inr ⟨hini, hw _ (List.mem_of_getElem? (i := 3) rfl)⟩)
  have Skk := Sta.start ek (Or.inr ⟨hini, hw _ (List.mem_of_getElem? (i := 58) rfl)⟩)
  have Sks := Sta.start es (Or.inr ⟨hini, hw _ (List.mem_of_getElem? (i := 60) rfl)⟩)
  have Sku := Sta.start eu (Or.inr ⟨hini, hw _ (List.mem_of_getElem? (i := 62) rfl)⟩)
  have Ske := Sta.start ee (Or.inr ⟨hini, hw _ (List.mem_of_getElem? (i := 75) rfl)⟩)
  have on := own_eqI p2
  rw [fld_at en] at on
  have ok := own_eqI p3
  rw [fld_at ek] at ok
  have os := own_eqI p5
  rw [fld_at es] at os
  have ou := own_eqI p7
  rw [fld_at eu] at ou
  have oe := own_eqI hn
  rw [fld_at ee] at oe
  have Fn := Fld.start on
  have Fk := Fld.start ok
  have Fs := Fld.start os
  have Fu := Fld.start ou
  have Fe := Fld.start oe
  have hEL : EW s _ consts_1 := (EW.cons (hw _ (List.mem_of_getElem? (i := 24) rfl)) (by decide) EW.nil)
  have CH0 := CHv.start hEL (fun p hp => hcalls.1 p hp) (hsets _ (List.mem_of_getElem? (i := 2) rfl)) (hw _ (List.mem_of_getElem? (i := 25) rfl)) (hw _ (List.mem_of_getElem? (i := 11) rfl))
  obtain ⟨n, o, h1, h2, h3, _, L, rfl, ⟨rfl, N⟩, -, hq⟩ := rm_law l s _ hw tables_1 hEL i0 i1 i2 i3 i4 i5 gc kn kk ku ks ke s.heap s.heap.size (Nat.le_refl _) Skn Skk Sku Sks Ske (Fn.ne Fk (by decide)) (Fn.ne Fs (by decide)) (Fu.ne Fk (by decide)) (Fu.ne Fs (by decide)) (Fe.ne Fk (by decide)) (Fe.ne Fs (by decide)) SC hcs (Old.start s) p e ha hc hk s m _ below hf ((Spec.applies_iff_loose hf).mp happ).1 ⟨rfl, State.Warmed39.refl s, rfl, CH0⟩ trivial
  refine ⟨n, _, h1, h2, h3, hpost _ _ _ _ _ _ ⟨Cond.after_iff.mpr rfl, Cond.after_iff.mpr (eq_i res_at (Term.int_eval (1)) rfl), trivial⟩ ⟨hq.1, hq.2.1, hq.2.2.1, (hq.2.2.2.sift fun y hy => Or.inr (N y hy)).mono (by decide) (by decide)⟩⟩
theorem main_1_1 : Claimed_1_1 := comes_1 fun _ _ _ _ _ _ h hF => ⟨h.1, hF⟩
theorem main_1_2 : Claimed_1_2 := comes_1 fun _ _ _ _ _ _ h hF => ⟨h.2.1, hF⟩
end Jvm.Pilot.@@N@@
namespace Jvm.Pilot.@@N@@
open Jvm Jvm.ClassFile Sem Op Lib Jvm.Free Jvm.Stand Jvm.Pilot.@@N@@.Jvm.D
/-! MADE BY PROGRAM (witnessworld.py) out of the Statement's table words and the real class files: 23 classes; the members and pool entries that the words name. The judged class is class 1, her method 3. -/
namespace start1
open Jvm.ClassFile
def u (s : String) : CpInfo := .utf8 (stringToUtf16 s)
/-- a pool by its gaps: so many unusable entries, then the entry; so many at the end -/
def gap : Nat → List CpInfo → List CpInfo
  | 0, r => r
  | n + 1, r => .unusable :: gap n r
def poolList (es : List (Nat × CpInfo)) (last : Nat) : List CpInfo := es.foldr (fun e r => gap e.1 (e.2 :: r)) (gap last [])
def pool (es : List (Nat × CpInfo)) (last : Nat) : Array CpInfo := ⟨poolList es last⟩
def fileOf (pool : Array CpInfo) (this : Nat) (attrs : Array Attribute := #[]) (ms : Array MethodInfo := #[]) (fl : Nat := 33) (sup : Nat := 0) (ifs : Array Nat := #[]) (fds : Array FieldInfo := #[]) : ClassFile where
  minorVersion := 0
  majorVersion := 65
  constantPool := pool
  accessFlags := fl
  thisClass := this
  superClass := sup
  interfaces := ifs
  fields := fds
  methods := ms
  attributes := attrs
def plain (name : String) (sup : Option ClassId) : Class where
  name := name
  kind := .ordinary
  loader := none
  accessFlags := 33
  super := sup
  interfaces := #[]
  cf := none
  fields := #[]
  methods := #[]
  instanceTypes := #[]
  staticTypes := #[]
  resolved := #[]
  callSites := []
  init := .initialized
  statics := none
  mirror := none

def pool0 : Array CpInfo := pool [(5, u "<init>"), (0, u "()V"), (1, .class_ 10), (1, u "java/lang/Object")] 113

def k0c0 : Code := { maxStack := 0, maxLocals := 1, code := object_method_1_code, exceptionTable := #[], attributes := #[] }
def k0m0 : Method := { name := "<init>", desc := "()V", sig := { parameters := [], returnType := none }, accessFlags := 1, code := some k0c0 }
/-- java/lang/Object -/
def k0 : Class := { plain "java/lang/Object" none with
  accessFlags := 33
  interfaces := #[]
  cf := some (fileOf pool0 8 #[] #[{ accessFlags := 1, nameIndex := 5, descriptorIndex := 6, attributes := #[] }] 33 0 #[] #[])
  fields := #[]
  methods := #[k0m0]
  instanceTypes := #[]
  staticTypes := #[]
  resolved := Array.replicate 124 none
  statics := none }

def pool1 : Array CpInfo := pool [(2, .class_ 4), (1, u "java/lang/Object"), (0, u "<init>"), (0, u "()V"), (0, .class_ 8), (0, u "java/lang/String"), (0, .methodref 7 10), (0, .nameAndType 5 11), (0, u "([C)V"), (0, .methodref 7 13), (0, .nameAndType 14 15), (0, u "valueOf"), (0, u "(C)Ljava/lang/String;"), (0, .integer 2147483647), (0, .fieldref 18 19), (0, .class_ 20), (0, .nameAndType 21 22), (0, u "com/example/obra/obra/Token$Kind"), (0, u "NAME"), (0, u "Lcom/example/obra/obra/Token$Kind;"), (0, .fieldref 18 24), (0, .nameAndType 25 22), (0, u "KEYWORD"), (0, .fieldref 18 27), (0, .nameAndType 28 22), (0, u "NUMBER"), (0, .fieldref 18 30), (0, .nameAndType 31 22), (0, u "SYMBOL"), (0, .fieldref 18 33), (0, .nameAndType 34 22), (0, u "END"), (0, .long 3), (1, .long 255), (1, .methodref 40 41), (0, .class_ 42), (0, .nameAndType 43 44), (0, u "com/example/obra/obra/TokenIsPinLaw"), (0, u "mk"), (0, u "(ICCC)Ljava/lang/String;"), (0, .class_ 46), (0, u "com/example/obra/obra/Token"), (0, .methodref 45 48), (0, .nameAndType 5 49), (0, u "(Lcom/example/obra/obra/Token$Kind;Ljava/lang/String;II)V"), (0, .methodref 40 51), (0, .nameAndType 52 53), (0, u "same"), (0, u "(ICCCICCC)Z"), (0, .methodref 45 55), (0, .nameAndType 56 57), (0, u "is"), (0, u "(Ljava/lang/String;)Z"), (3, u "law"), (0, u "(IJJIII)Z")] 4

def k1m0 : Method := { name := "<init>", desc := "()V", sig := { parameters := [], returnType := none }, accessFlags := 1, code := none }
def k1c1 : Code := { maxStack := 6, maxLocals := 4, code := method_2_code, exceptionTable := #[], attributes := #[] }
def k1m1 : Method := { name := "mk", desc := "(ICCC)Ljava/lang/String;", sig := { parameters := [.int, .char, .char, .char], returnType := some (.object "java/lang/String") }, accessFlags := 10, code := some k1c1 }
def k1c2 : Code := { maxStack := 2, maxLocals := 8, code := method_3_code, exceptionTable := #[], attributes := #[] }
def k1m2 : Method := { name := "same", desc := "(ICCCICCC)Z", sig := { parameters := [.int, .char, .char, .char, .int, .char, .char, .char], returnType := some .boolean }, accessFlags := 10, code := some k1c2 }
def k1c3 : Code := { maxStack := 8, maxLocals := 24, code := code, exceptionTable := #[], attributes := #[] }
def k1m3 : Method := { name := "law", desc := "(IJJIII)Z", sig := { parameters := [.int, .long, .long, .int, .int, .int], returnType := some .boolean }, accessFlags := 9, code := some k1c3 }
/-- com/example/obra/obra/TokenIsPinLaw -/
def k1 : Class := { plain "com/example/obra/obra/TokenIsPinLaw" (some 0) with
  accessFlags := 49
  interfaces := #[]
  cf := some (fileOf pool1 40 #[] #[{ accessFlags := 1, nameIndex := 5, descriptorIndex := 6, attributes := #[] }, { accessFlags := 10, nameIndex := 43, descriptorIndex := 44, attributes := #[] }, { accessFlags := 10, nameIndex := 52, descriptorIndex := 53, attributes := #[] }, { accessFlags := 9, nameIndex := 61, descriptorIndex := 62, attributes := #[] }] 49 2 #[] #[])
  fields := #[]
  methods := #[k1m0, k1m1, k1m2, k1m3]
  instanceTypes := #[]
  staticTypes := #[]
  resolved := Array.replicate 67 none
  statics := none }

def pool2 : Array CpInfo := pool [(1, .class_ 2), (0, u "java/lang/constant/Constable"), (0, .class_ 4), (0, u "java/lang/Object")] 6

/-- java/lang/constant/Constable -/
def k2 : Class := { plain "java/lang/constant/Constable" (some 0) with
  accessFlags := 1537
  interfaces := #[]
  cf := some (fileOf pool2 1 #[] #[] 1537 3 #[] #[])
  fields := #[]
  methods := #[]
  instanceTypes := #[]
  staticTypes := #[]
  resolved := Array.replicate 11 none
  statics := none }

def pool3 : Array CpInfo := pool [(1, .class_ 2), (0, u "java/lang/Comparable"), (0, .class_ 4), (0, u "java/lang/Object")] 7

/-- java/lang/Comparable -/
def k3 : Class := { plain "java/lang/Comparable" (some 0) with
  accessFlags := 1537
  interfaces := #[]
  cf := some (fileOf pool3 1 #[] #[] 1537 3 #[] #[])
  fields := #[]
  methods := #[]
  instanceTypes := #[]
  staticTypes := #[]
  resolved := Array.replicate 12 none
  statics := none }

def pool4 : Array CpInfo := pool [(1, .class_ 2), (0, u "java/io/Serializable"), (0, .class_ 4), (0, u "java/lang/Object")] 2

/-- java/io/Serializable -/
def k4 : Class := { plain "java/io/Serializable" (some 0) with
  accessFlags := 1537
  interfaces := #[]
  cf := some (fileOf pool4 1 #[] #[] 1537 3 #[] #[])
  fields := #[]
  methods := #[]
  instanceTypes := #[]
  staticTypes := #[]
  resolved := Array.replicate 7 none
  statics := none }

def pool5 : Array CpInfo := pool [(2, .class_ 4), (1, u "java/lang/Enum"), (0, u "name"), (0, u "Ljava/lang/String;"), (2, u "ordinal"), (0, u "I"), (1, .class_ 14), (1, u "java/lang/Object"), (4, u "hash"), (86, .class_ 108), (1, u "java/lang/Enum$EnumDesc"), (2, .class_ 112), (0, u "java/lang/constant/Constable"), (0, .class_ 114), (0, u "java/lang/Comparable"), (0, .class_ 116), (0, u "java/io/Serializable")] 87

/-- java/lang/Enum -/
def k5 : Class := { plain "java/lang/Enum" (some 0) with
  accessFlags := 1057
  interfaces := #[2, 3, 4]
  cf := some (fileOf pool5 2 #[.nestMembers #[106]] #[] 1057 12 #[111, 113, 115] #[{ accessFlags := 18, nameIndex := 5, descriptorIndex := 6, attributes := #[] }, { accessFlags := 18, nameIndex := 9, descriptorIndex := 10, attributes := #[] }, { accessFlags := 2, nameIndex := 19, descriptorIndex := 10, attributes := #[] }])
  fields := #[{ name := "name", type := (.object "java/lang/String"), accessFlags := 18, slot := 0, constantValue := 0 }, { name := "ordinal", type := .int, accessFlags := 18, slot := 1, constantValue := 0 }, { name := "hash", type := .int, accessFlags := 2, slot := 2, constantValue := 0 }]
  methods := #[]
  instanceTypes := #[(.object "java/lang/String"), .int, .int]
  staticTypes := #[]
  resolved := Array.replicate 204 none
  statics := none }

def pool6 : Array CpInfo := pool [(1, .class_ 2), (0, u "com/example/obra/obra/Token$Kind"), (2, u "NAME"), (0, u "Lcom/example/obra/obra/Token$Kind;"), (2, u "KEYWORD"), (2, u "NUMBER"), (2, u "SYMBOL"), (2, u "END"), (2, u "$VALUES"), (0, u "[Lcom/example/obra/obra/Token$Kind;"), (6, .class_ 31), (1, u "java/lang/Enum"), (28, .class_ 61), (0, u "com/example/obra/obra/Token")] 2

/-- com/example/obra/obra/Token$Kind -/
def k6 : Class := { plain "com/example/obra/obra/Token$Kind" (some 5) with
  accessFlags := 16432
  interfaces := #[]
  cf := some (fileOf pool6 1 #[.nestHost 60] #[] 16432 29 #[] #[{ accessFlags := 16409, nameIndex := 5, descriptorIndex := 6, attributes := #[] }, { accessFlags := 16409, nameIndex := 9, descriptorIndex := 6, attributes := #[] }, { accessFlags := 16409, nameIndex := 12, descriptorIndex := 6, attributes := #[] }, { accessFlags := 16409, nameIndex := 15, descriptorIndex := 6, attributes := #[] }, { accessFlags := 16409, nameIndex := 18, descriptorIndex := 6, attributes := #[] }, { accessFlags := 4122, nameIndex := 21, descriptorIndex := 22, attributes := #[] }])
  fields := #[{ name := "NAME", type := (.object "com/example/obra/obra/Token$Kind"), accessFlags := 16409, slot := 0, constantValue := 0 }, { name := "KEYWORD", type := (.object "com/example/obra/obra/Token$Kind"), accessFlags := 16409, slot := 1, constantValue := 0 }, { name := "NUMBER", type := (.object "com/example/obra/obra/Token$Kind"), accessFlags := 16409, slot := 2, constantValue := 0 }, { name := "SYMBOL", type := (.object "com/example/obra/obra/Token$Kind"), accessFlags := 16409, slot := 3, constantValue := 0 }, { name := "END", type := (.object "com/example/obra/obra/Token$Kind"), accessFlags := 16409, slot := 4, constantValue := 0 }, { name := "$VALUES", type := (.array (.object "com/example/obra/obra/Token$Kind")), accessFlags := 4122, slot := 5, constantValue := 0 }]
  methods := #[]
  instanceTypes := #[(.object "java/lang/String"), .int, .int]
  staticTypes := #[(.object "com/example/obra/obra/Token$Kind"), (.object "com/example/obra/obra/Token$Kind"), (.object "com/example/obra/obra/Token$Kind"), (.object "com/example/obra/obra/Token$Kind"), (.object "com/example/obra/obra/Token$Kind"), (.array (.object "com/example/obra/obra/Token$Kind"))]
  resolved := Array.replicate 64 none
  statics := some 0 }

def pool7 : Array CpInfo := pool [(2, .class_ 4), (1, u "java/lang/CharSequence"), (42, .class_ 48), (0, u "java/lang/CharSequence$1CodePointIterator"), (10, .class_ 60), (0, u "java/lang/CharSequence$1CharIterator"), (5, .class_ 67), (0, u "java/lang/Object")] 63

/-- java/lang/CharSequence -/
def k7 : Class := { plain "java/lang/CharSequence" (some 0) with
  accessFlags := 1537
  interfaces := #[]
  cf := some (fileOf pool7 2 #[.nestMembers #[47, 59]] #[] 1537 66 #[] #[])
  fields := #[]
  methods := #[]
  instanceTypes := #[]
  staticTypes := #[]
  resolved := Array.replicate 131 none
  statics := none }

def pool8 : Array CpInfo := pool [(1, .class_ 2), (0, u "java/lang/constant/ConstantDesc"), (0, .class_ 4), (0, u "java/lang/Object")] 32

/-- java/lang/constant/ConstantDesc -/
def k8 : Class := { plain "java/lang/constant/ConstantDesc" (some 0) with
  accessFlags := 1537
  interfaces := #[]
  cf := some (fileOf pool8 1 #[] #[] 1537 3 #[] #[])
  fields := #[]
  methods := #[]
  instanceTypes := #[]
  staticTypes := #[]
  resolved := Array.replicate 37 none
  statics := none }

def pool9 : Array CpInfo := pool [(1, .methodref 2 3), (0, .class_ 4), (0, .nameAndType 5 6), (0, u "java/lang/Object"), (0, u "<init>"), (0, u "()V"), (0, .string 8), (0, u ""), (0, .fieldref 10 11), (0, .class_ 12), (0, .nameAndType 13 14), (0, u "java/lang/String"), (0, u "value"), (0, u "[B"), (0, .fieldref 10 16), (0, .nameAndType 17 18), (0, u "coder"), (0, u "B"), (2, u "hash"), (0, u "I"), (2, u "hashIsZero"), (0, u "Z"), (0, .methodref 10 28), (0, .nameAndType 5 29), (0, u "([CIILjava/lang/Void;)V"), (8, .fieldref 10 39), (0, .nameAndType 40 26), (0, u "COMPACT_STRINGS"), (1, .class_ 44), (1, u "java/lang/StringUTF16"), (0, u "compress"), (1, .methodref 42 48), (0, .nameAndType 49 50), (0, u "coderFromArrayLen"), (0, u "([BI)B"), (2, u "toBytes"), (53, .class_ 109), (1, u "java/lang/StringLatin1"), (67, .methodref 42 178), (0, .nameAndType 45 179), (0, u "([CII)[B"), (29, .methodref 10 210), (0, .nameAndType 5 211), (0, u "([BB)V"), (157, u "(C)Z"), (171, .methodref 107 542), (0, .nameAndType 543 544), (0, u "equals"), (0, u "([B[B)Z"), (28, u "(Ljava/lang/Object;)Z"), (1, .class_ 576), (0, u "java/lang/CharSequence"), (22, u "CASE_INSENSITIVE_ORDER"), (0, u "Ljava/util/Comparator;"), (181, u "valueOf"), (0, u "(C)Ljava/lang/String;"), (226, u "([C)V"), (4, .methodref 107 1016), (0, .nameAndType 1017 369), (0, u "canEncode"), (0, .methodref 107 1019), (0, .nameAndType 53 1020), (0, u "(C)[B"), (80, u "serialPersistentFields"), (0, u "[Ljava/io/ObjectStreamField;"), (0, .class_ 1104), (0, u "java/lang/String$CaseInsensitiveComparator"), (1, .class_ 1107), (0, u "java/io/Serializable"), (0, .class_ 1109), (0, u "java/lang/Comparable"), (0, .class_ 1111), (0, u "java/lang/constant/Constable"), (0, .class_ 1113), (0, u "java/lang/constant/ConstantDesc"), (2, u "serialVersionUID"), (0, u "J"), (3, u "REPL"), (0, u "C"), (2, u "LATIN1"), (1, u "UTF16")] 323

def k9m0 : Method := { name := "<init>", desc := "()V", sig := { parameters := [], returnType := none }, accessFlags := 1, code := none }
def k9c1 : Code := { maxStack := 5, maxLocals := 2, code := jdk_42_method_3_code, exceptionTable := #[], attributes := #[] }
def k9m1 : Method := { name := "<init>", desc := "([C)V", sig := { parameters := [(.array .char)], returnType := none }, accessFlags := 1, code := some k9c1 }
def k9c2 : Code := { maxStack := 2, maxLocals := 3, code := jdk_42_method_66_code, exceptionTable := #[], attributes := #[] }
def k9m2 : Method := { name := "equals", desc := "(Ljava/lang/Object;)Z", sig := { parameters := [(.object "java/lang/Object")], returnType := some .boolean }, accessFlags := 1, code := some k9c2 }
def k9c3 : Code := { maxStack := 4, maxLocals := 1, code := jdk_42_method_139_code, exceptionTable := #[], attributes := #[] }
def k9m3 : Method := { name := "valueOf", desc := "(C)Ljava/lang/String;", sig := { parameters := [.char], returnType := some (.object "java/lang/String") }, accessFlags := 9, code := some k9c3 }
def k9c4 : Code := { maxStack := 4, maxLocals := 6, code := jdk_42_method_149_code, exceptionTable := #[], attributes := #[] }
def k9m4 : Method := { name := "<init>", desc := "([CIILjava/lang/Void;)V", sig := { parameters := [(.array .char), .int, .int, (.object "java/lang/Void")], returnType := none }, accessFlags := 2, code := some k9c4 }
def k9c5 : Code := { maxStack := 2, maxLocals := 3, code := jdk_42_method_151_code, exceptionTable := #[], attributes := #[] }
def k9m5 : Method := { name := "<init>", desc := "([BB)V", sig := { parameters := [(.array .byte), .byte], returnType := none }, accessFlags := 0, code := some k9c5 }
/-- java/lang/String -/
def k9 : Class := { plain "java/lang/String" (some 0) with
  accessFlags := 49
  interfaces := #[4, 3, 7, 2, 8]
  cf := some (fileOf pool9 10 #[.nestMembers #[1103]] #[{ accessFlags := 1, nameIndex := 5, descriptorIndex := 6, attributes := #[] }, { accessFlags := 1, nameIndex := 5, descriptorIndex := 1010, attributes := #[] }, { accessFlags := 1, nameIndex := 543, descriptorIndex := 573, attributes := #[] }, { accessFlags := 9, nameIndex := 782, descriptorIndex := 783, attributes := #[] }, { accessFlags := 2, nameIndex := 5, descriptorIndex := 29, attributes := #[] }, { accessFlags := 0, nameIndex := 5, descriptorIndex := 211, attributes := #[] }] 49 2 #[1106, 1108, 575, 1110, 1112] #[{ accessFlags := 18, nameIndex := 13, descriptorIndex := 14, attributes := #[] }, { accessFlags := 18, nameIndex := 17, descriptorIndex := 18, attributes := #[] }, { accessFlags := 2, nameIndex := 21, descriptorIndex := 22, attributes := #[] }, { accessFlags := 2, nameIndex := 25, descriptorIndex := 26, attributes := #[] }, { accessFlags := 26, nameIndex := 1116, descriptorIndex := 1117, attributes := #[] }, { accessFlags := 24, nameIndex := 40, descriptorIndex := 26, attributes := #[] }, { accessFlags := 26, nameIndex := 1101, descriptorIndex := 1102, attributes := #[] }, { accessFlags := 26, nameIndex := 1121, descriptorIndex := 1122, attributes := #[] }, { accessFlags := 25, nameIndex := 599, descriptorIndex := 600, attributes := #[] }, { accessFlags := 24, nameIndex := 1125, descriptorIndex := 18, attributes := #[] }, { accessFlags := 24, nameIndex := 1127, descriptorIndex := 18, attributes := #[] }])
  fields := #[{ name := "value", type := (.array .byte), accessFlags := 18, slot := 0, constantValue := 0 }, { name := "coder", type := .byte, accessFlags := 18, slot := 1, constantValue := 0 }, { name := "hash", type := .int, accessFlags := 2, slot := 2, constantValue := 0 }, { name := "hashIsZero", type := .boolean, accessFlags := 2, slot := 3, constantValue := 0 }, { name := "serialVersionUID", type := .long, accessFlags := 26, slot := 0, constantValue := 0 }, { name := "COMPACT_STRINGS", type := .boolean, accessFlags := 24, slot := 1, constantValue := 0 }, { name := "serialPersistentFields", type := (.array (.object "java/io/ObjectStreamField")), accessFlags := 26, slot := 2, constantValue := 0 }, { name := "REPL", type := .char, accessFlags := 26, slot := 3, constantValue := 0 }, { name := "CASE_INSENSITIVE_ORDER", type := (.object "java/util/Comparator"), accessFlags := 25, slot := 4, constantValue := 0 }, { name := "LATIN1", type := .byte, accessFlags := 24, slot := 5, constantValue := 0 }, { name := "UTF16", type := .byte, accessFlags := 24, slot := 6, constantValue := 0 }]
  methods := #[k9m0, k9m1, k9m2, k9m3, k9m4, k9m5]
  instanceTypes := #[(.array .byte), .byte, .int, .boolean]
  staticTypes := #[.long, .boolean, (.array (.object "java/io/ObjectStreamField")), .char, (.object "java/util/Comparator"), .byte, .byte]
  resolved := Array.replicate 1451 none
  statics := some 1 }

def pool10 : Array CpInfo := pool [(1, .methodref 2 3), (0, .class_ 4), (0, .nameAndType 5 6), (0, u "java/lang/Object"), (0, u "<init>"), (0, u "()V"), (0, .class_ 8), (0, u "java/lang/Record")] 13

def k10c0 : Code := { maxStack := 1, maxLocals := 1, code := jdk_30_method_1_code, exceptionTable := #[], attributes := #[] }
def k10m0 : Method := { name := "<init>", desc := "()V", sig := { parameters := [], returnType := none }, accessFlags := 4, code := some k10c0 }
/-- java/lang/Record -/
def k10 : Class := { plain "java/lang/Record" (some 0) with
  accessFlags := 1057
  interfaces := #[]
  cf := some (fileOf pool10 7 #[] #[{ accessFlags := 4, nameIndex := 5, descriptorIndex := 6, attributes := #[] }] 1057 2 #[] #[])
  fields := #[]
  methods := #[k10m0]
  instanceTypes := #[]
  staticTypes := #[]
  resolved := Array.replicate 22 none
  statics := none }

def pool11 : Array CpInfo := pool [(1, .methodref 2 3), (0, .class_ 4), (0, .nameAndType 5 6), (0, u "java/lang/Record"), (0, u "<init>"), (0, u "()V"), (0, .fieldref 8 9), (0, .class_ 10), (0, .nameAndType 11 12), (0, u "com/example/obra/obra/Token"), (0, u "kind"), (0, u "Lcom/example/obra/obra/Token$Kind;"), (0, .fieldref 8 14), (0, .nameAndType 15 16), (0, u "text"), (0, u "Ljava/lang/String;"), (0, .fieldref 8 18), (0, .nameAndType 19 20), (0, u "line"), (0, u "I"), (0, .fieldref 8 22), (0, .nameAndType 23 20), (0, u "column"), (0, .fieldref 25 26), (0, .class_ 27), (0, .nameAndType 28 12), (0, u "com/example/obra/obra/Token$Kind"), (0, u "KEYWORD"), (0, .fieldref 25 30), (0, .nameAndType 31 12), (0, u "SYMBOL"), (0, .methodref 33 34), (0, .class_ 35), (0, .nameAndType 36 37), (0, u "java/lang/String"), (0, u "equals"), (0, u "(Ljava/lang/Object;)Z"), (20, u "(Lcom/example/obra/obra/Token$Kind;Ljava/lang/String;II)V"), (3, u "is"), (0, u "(Ljava/lang/String;)Z")] 38

def k11c0 : Code := { maxStack := 2, maxLocals := 5, code := prog_84_method_1_code, exceptionTable := #[], attributes := #[] }
def k11m0 : Method := { name := "<init>", desc := "(Lcom/example/obra/obra/Token$Kind;Ljava/lang/String;II)V", sig := { parameters := [(.object "com/example/obra/obra/Token$Kind"), (.object "java/lang/String"), .int, .int], returnType := none }, accessFlags := 0, code := some k11c0 }
def k11c1 : Code := { maxStack := 2, maxLocals := 2, code := prog_84_method_2_code, exceptionTable := #[], attributes := #[] }
def k11m1 : Method := { name := "is", desc := "(Ljava/lang/String;)Z", sig := { parameters := [(.object "java/lang/String")], returnType := some .boolean }, accessFlags := 0, code := some k11c1 }
/-- com/example/obra/obra/Token -/
def k11 : Class := { plain "com/example/obra/obra/Token" (some 10) with
  accessFlags := 48
  interfaces := #[]
  cf := some (fileOf pool11 8 #[.nestMembers #[25]] #[{ accessFlags := 0, nameIndex := 5, descriptorIndex := 58, attributes := #[] }, { accessFlags := 0, nameIndex := 62, descriptorIndex := 63, attributes := #[] }] 48 2 #[] #[{ accessFlags := 18, nameIndex := 11, descriptorIndex := 12, attributes := #[] }, { accessFlags := 18, nameIndex := 15, descriptorIndex := 16, attributes := #[] }, { accessFlags := 18, nameIndex := 19, descriptorIndex := 20, attributes := #[] }, { accessFlags := 18, nameIndex := 23, descriptorIndex := 20, attributes := #[] }])
  fields := #[{ name := "kind", type := (.object "com/example/obra/obra/Token$Kind"), accessFlags := 18, slot := 0, constantValue := 0 }, { name := "text", type := (.object "java/lang/String"), accessFlags := 18, slot := 1, constantValue := 0 }, { name := "line", type := .int, accessFlags := 18, slot := 2, constantValue := 0 }, { name := "column", type := .int, accessFlags := 18, slot := 3, constantValue := 0 }]
  methods := #[k11m0, k11m1]
  instanceTypes := #[(.object "com/example/obra/obra/Token$Kind"), (.object "java/lang/String"), .int, .int]
  staticTypes := #[]
  resolved := Array.replicate 102 none
  statics := none }

def pool12 : Array CpInfo := pool [(6, .class_ 8), (1, u "java/lang/Object"), (0, u "<init>"), (0, u "()V"), (1, .class_ 14), (1, u "java/lang/StringUTF16"), (31, u "$assertionsDisabled"), (0, u "Z"), (13, u "HI_BYTE_SHIFT"), (0, u "I"), (2, u "LO_BYTE_SHIFT"), (49, .methodref 12 116), (0, .nameAndType 117 118), (0, u "compress"), (0, u "([CI[BII)I"), (3, u "([CII)[B"), (138, u "coderFromArrayLen"), (0, u "([BI)B"), (106, .class_ 371), (1, u "java/lang/StringUTF16$LinesSpliterator"), (58, u "MAX_LENGTH"), (196, .class_ 628), (0, u "java/lang/StringUTF16$CodePointsSpliterator"), (0, .class_ 630), (0, u "java/lang/StringUTF16$CharsSpliterator")] 4

def k12m0 : Method := { name := "<init>", desc := "()V", sig := { parameters := [], returnType := none }, accessFlags := 0, code := none }
def k12c1 : Code := { maxStack := 2, maxLocals := 2, code := jdk_52_method_15_code, exceptionTable := #[], attributes := #[] }
def k12m1 : Method := { name := "coderFromArrayLen", desc := "([BI)B", sig := { parameters := [(.array .byte), .int], returnType := some .byte }, accessFlags := 8, code := some k12c1 }
def k12c2 : Code := { maxStack := 5, maxLocals := 6, code := jdk_52_method_16_code, exceptionTable := #[], attributes := #[] }
def k12m2 : Method := { name := "compress", desc := "([CII)[B", sig := { parameters := [(.array .char), .int, .int], returnType := some (.array .byte) }, accessFlags := 9, code := some k12c2 }
def k12c3 : Code := { maxStack := 3, maxLocals := 7, code := jdk_52_method_21_code, exceptionTable := #[], attributes := #[] }
def k12m3 : Method := { name := "compress", desc := "([CI[BII)I", sig := { parameters := [(.array .char), .int, (.array .byte), .int, .int], returnType := some .int }, accessFlags := 9, code := some k12c3 }
/-- java/lang/StringUTF16 -/
def k12 : Class := { plain "java/lang/StringUTF16" (some 0) with
  accessFlags := 48
  interfaces := #[]
  cf := some (fileOf pool12 12 #[.nestMembers #[627, 629, 369]] #[{ accessFlags := 0, nameIndex := 9, descriptorIndex := 10, attributes := #[] }, { accessFlags := 8, nameIndex := 261, descriptorIndex := 262, attributes := #[] }, { accessFlags := 9, nameIndex := 117, descriptorIndex := 122, attributes := #[] }, { accessFlags := 9, nameIndex := 117, descriptorIndex := 118, attributes := #[] }] 48 6 #[] #[{ accessFlags := 26, nameIndex := 61, descriptorIndex := 62, attributes := #[] }, { accessFlags := 26, nameIndex := 65, descriptorIndex := 62, attributes := #[] }, { accessFlags := 24, nameIndex := 430, descriptorIndex := 62, attributes := #[] }, { accessFlags := 4120, nameIndex := 46, descriptorIndex := 47, attributes := #[] }])
  fields := #[{ name := "HI_BYTE_SHIFT", type := .int, accessFlags := 26, slot := 0, constantValue := 0 }, { name := "LO_BYTE_SHIFT", type := .int, accessFlags := 26, slot := 1, constantValue := 0 }, { name := "MAX_LENGTH", type := .int, accessFlags := 24, slot := 2, constantValue := 0 }, { name := "$assertionsDisabled", type := .boolean, accessFlags := 4120, slot := 3, constantValue := 0 }]
  methods := #[k12m0, k12m1, k12m2, k12m3]
  instanceTypes := #[]
  staticTypes := #[.int, .int, .int, .boolean]
  resolved := Array.replicate 635 none
  statics := none }

def pool13 : Array CpInfo := pool [(4, .class_ 6), (1, u "java/lang/Object"), (0, u "<init>"), (0, u "()V"), (5, .class_ 16), (1, u "java/lang/StringLatin1"), (73, u "canEncode"), (14, u "(C)Z"), (15, u "$assertionsDisabled"), (0, u "Z"), (98, .class_ 223), (1, u "java/lang/StringLatin1$LinesSpliterator"), (57, u "equals"), (0, u "([B[B)Z"), (97, u "toBytes"), (1, u "(C)[B"), (7, .class_ 391), (0, u "java/lang/StringLatin1$CharsSpliterator")] 3

def k13m0 : Method := { name := "<init>", desc := "()V", sig := { parameters := [], returnType := none }, accessFlags := 0, code := none }
def k13c1 : Code := { maxStack := 2, maxLocals := 1, code := jdk_43_method_3_code, exceptionTable := #[], attributes := #[] }
def k13m1 : Method := { name := "canEncode", desc := "(C)Z", sig := { parameters := [.char], returnType := some .boolean }, accessFlags := 9, code := some k13c1 }
def k13c2 : Code := { maxStack := 3, maxLocals := 3, code := jdk_43_method_13_code, exceptionTable := #[], attributes := #[] }
def k13m2 : Method := { name := "equals", desc := "([B[B)Z", sig := { parameters := [(.array .byte), (.array .byte)], returnType := some .boolean }, accessFlags := 9, code := some k13c2 }
def k13c3 : Code := { maxStack := 4, maxLocals := 1, code := jdk_43_method_46_code, exceptionTable := #[], attributes := #[] }
def k13m3 : Method := { name := "toBytes", desc := "(C)[B", sig := { parameters := [.char], returnType := some (.array .byte) }, accessFlags := 9, code := some k13c3 }
/-- java/lang/StringLatin1 -/
def k13 : Class := { plain "java/lang/StringLatin1" (some 0) with
  accessFlags := 48
  interfaces := #[]
  cf := some (fileOf pool13 14 #[.nestMembers #[390, 221]] #[{ accessFlags := 0, nameIndex := 7, descriptorIndex := 8, attributes := #[] }, { accessFlags := 9, nameIndex := 90, descriptorIndex := 105, attributes := #[] }, { accessFlags := 9, nameIndex := 281, descriptorIndex := 282, attributes := #[] }, { accessFlags := 9, nameIndex := 380, descriptorIndex := 382, attributes := #[] }] 48 4 #[] #[{ accessFlags := 4120, nameIndex := 121, descriptorIndex := 122, attributes := #[] }])
  fields := #[{ name := "$assertionsDisabled", type := .boolean, accessFlags := 4120, slot := 0, constantValue := 0 }]
  methods := #[k13m0, k13m1, k13m2, k13m3]
  instanceTypes := #[]
  staticTypes := #[.boolean]
  resolved := Array.replicate 395 none
  statics := none }

def pool14 : Array CpInfo := pool [(2, .class_ 4), (1, u "java/lang/Object"), (0, u "<init>"), (0, u "()V"), (17, .class_ 26), (1, u "jdk/internal/util/Preconditions"), (28, .class_ 56), (0, u "jdk/internal/util/Preconditions$4"), (57, .class_ 115), (0, u "jdk/internal/util/Preconditions$1"), (7, u "SIOOBE_FORMATTER"), (0, u "Ljava/util/function/BiFunction;"), (0, .class_ 126), (0, u "jdk/internal/util/Preconditions$2"), (3, u "AIOOBE_FORMATTER"), (0, .class_ 132), (0, u "jdk/internal/util/Preconditions$3"), (3, u "IOOBE_FORMATTER")] 57

def k14m0 : Method := { name := "<init>", desc := "()V", sig := { parameters := [], returnType := none }, accessFlags := 1, code := none }
/-- jdk/internal/util/Preconditions -/
def k14 : Class := { plain "jdk/internal/util/Preconditions" (some 0) with
  accessFlags := 33
  interfaces := #[]
  cf := some (fileOf pool14 24 #[.nestMembers #[55, 131, 125, 114]] #[{ accessFlags := 1, nameIndex := 5, descriptorIndex := 6, attributes := #[] }] 33 2 #[] #[{ accessFlags := 25, nameIndex := 123, descriptorIndex := 124, attributes := #[] }, { accessFlags := 25, nameIndex := 130, descriptorIndex := 124, attributes := #[] }, { accessFlags := 25, nameIndex := 136, descriptorIndex := 124, attributes := #[] }])
  fields := #[{ name := "SIOOBE_FORMATTER", type := (.object "java/util/function/BiFunction"), accessFlags := 25, slot := 0, constantValue := 0 }, { name := "AIOOBE_FORMATTER", type := (.object "java/util/function/BiFunction"), accessFlags := 25, slot := 1, constantValue := 0 }, { name := "IOOBE_FORMATTER", type := (.object "java/util/function/BiFunction"), accessFlags := 25, slot := 2, constantValue := 0 }]
  methods := #[k14m0]
  instanceTypes := #[]
  staticTypes := #[(.object "java/util/function/BiFunction"), (.object "java/util/function/BiFunction"), (.object "java/util/function/BiFunction")]
  resolved := Array.replicate 194 none
  statics := some 2 }

def pool15 : Array CpInfo := pool [(9, u "<init>"), (6, .class_ 18), (1, u "java/lang/Object"), (0, u "()V"), (1, .class_ 23), (1, u "jdk/internal/util/ArraysSupport"), (0, u "LOG2_ARRAY_LONG_INDEX_SCALE"), (0, u "I"), (2, u "U"), (0, u "Ljdk/internal/misc/Unsafe;"), (8, u "BIG_ENDIAN"), (0, u "Z"), (8, u "LOG2_BYTE_BIT_SIZE"), (4, u "LOG2_ARRAY_INT_INDEX_SCALE"), (54, u "JLA"), (0, u "Ljdk/internal/access/JavaLangAccess;"), (11, u "LOG2_ARRAY_BOOLEAN_INDEX_SCALE"), (9, u "LOG2_ARRAY_BYTE_INDEX_SCALE"), (5, u "LOG2_ARRAY_CHAR_INDEX_SCALE"), (5, u "LOG2_ARRAY_SHORT_INDEX_SCALE"), (18, u "LOG2_ARRAY_FLOAT_INDEX_SCALE"), (24, u "LOG2_ARRAY_DOUBLE_INDEX_SCALE"), (89, u "T_BOOLEAN"), (2, u "T_CHAR"), (1, u "T_FLOAT"), (1, u "T_DOUBLE"), (1, u "T_BYTE"), (1, u "T_SHORT"), (1, u "T_INT"), (1, u "T_LONG"), (1, u "SOFT_MAX_ARRAY_LENGTH")] 83

def k15m0 : Method := { name := "<init>", desc := "()V", sig := { parameters := [], returnType := none }, accessFlags := 2, code := none }
/-- jdk/internal/util/ArraysSupport -/
def k15 : Class := { plain "jdk/internal/util/ArraysSupport" (some 0) with
  accessFlags := 33
  interfaces := #[]
  cf := some (fileOf pool15 21 #[] #[{ accessFlags := 2, nameIndex := 9, descriptorIndex := 19, attributes := #[] }] 33 16 #[] #[{ accessFlags := 24, nameIndex := 28, descriptorIndex := 29, attributes := #[] }, { accessFlags := 26, nameIndex := 38, descriptorIndex := 39, attributes := #[] }, { accessFlags := 25, nameIndex := 121, descriptorIndex := 25, attributes := #[] }, { accessFlags := 25, nameIndex := 131, descriptorIndex := 25, attributes := #[] }, { accessFlags := 25, nameIndex := 137, descriptorIndex := 25, attributes := #[] }, { accessFlags := 25, nameIndex := 143, descriptorIndex := 25, attributes := #[] }, { accessFlags := 25, nameIndex := 53, descriptorIndex := 25, attributes := #[] }, { accessFlags := 25, nameIndex := 24, descriptorIndex := 25, attributes := #[] }, { accessFlags := 25, nameIndex := 162, descriptorIndex := 25, attributes := #[] }, { accessFlags := 25, nameIndex := 187, descriptorIndex := 25, attributes := #[] }, { accessFlags := 26, nameIndex := 48, descriptorIndex := 25, attributes := #[] }, { accessFlags := 25, nameIndex := 277, descriptorIndex := 25, attributes := #[] }, { accessFlags := 25, nameIndex := 280, descriptorIndex := 25, attributes := #[] }, { accessFlags := 25, nameIndex := 282, descriptorIndex := 25, attributes := #[] }, { accessFlags := 25, nameIndex := 284, descriptorIndex := 25, attributes := #[] }, { accessFlags := 25, nameIndex := 286, descriptorIndex := 25, attributes := #[] }, { accessFlags := 25, nameIndex := 288, descriptorIndex := 25, attributes := #[] }, { accessFlags := 25, nameIndex := 290, descriptorIndex := 25, attributes := #[] }, { accessFlags := 25, nameIndex := 292, descriptorIndex := 25, attributes := #[] }, { accessFlags := 26, nameIndex := 108, descriptorIndex := 109, attributes := #[] }, { accessFlags := 25, nameIndex := 294, descriptorIndex := 25, attributes := #[] }])
  fields := #[{ name := "U", type := (.object "jdk/internal/misc/Unsafe"), accessFlags := 24, slot := 0, constantValue := 0 }, { name := "BIG_ENDIAN", type := .boolean, accessFlags := 26, slot := 1, constantValue := 0 }, { name := "LOG2_ARRAY_BOOLEAN_INDEX_SCALE", type := .int, accessFlags := 25, slot := 2, constantValue := 0 }, { name := "LOG2_ARRAY_BYTE_INDEX_SCALE", type := .int, accessFlags := 25, slot := 3, constantValue := 0 }, { name := "LOG2_ARRAY_CHAR_INDEX_SCALE", type := .int, accessFlags := 25, slot := 4, constantValue := 0 }, { name := "LOG2_ARRAY_SHORT_INDEX_SCALE", type := .int, accessFlags := 25, slot := 5, constantValue := 0 }, { name := "LOG2_ARRAY_INT_INDEX_SCALE", type := .int, accessFlags := 25, slot := 6, constantValue := 0 }, { name := "LOG2_ARRAY_LONG_INDEX_SCALE", type := .int, accessFlags := 25, slot := 7, constantValue := 0 }, { name := "LOG2_ARRAY_FLOAT_INDEX_SCALE", type := .int, accessFlags := 25, slot := 8, constantValue := 0 }, { name := "LOG2_ARRAY_DOUBLE_INDEX_SCALE", type := .int, accessFlags := 25, slot := 9, constantValue := 0 }, { name := "LOG2_BYTE_BIT_SIZE", type := .int, accessFlags := 26, slot := 10, constantValue := 0 }, { name := "T_BOOLEAN", type := .int, accessFlags := 25, slot := 11, constantValue := 0 }, { name := "T_CHAR", type := .int, accessFlags := 25, slot := 12, constantValue := 0 }, { name := "T_FLOAT", type := .int, accessFlags := 25, slot := 13, constantValue := 0 }, { name := "T_DOUBLE", type := .int, accessFlags := 25, slot := 14, constantValue := 0 }, { name := "T_BYTE", type := .int, accessFlags := 25, slot := 15, constantValue := 0 }, { name := "T_SHORT", type := .int, accessFlags := 25, slot := 16, constantValue := 0 }, { name := "T_INT", type := .int, accessFlags := 25, slot := 17, constantValue := 0 }, { name := "T_LONG", type := .int, accessFlags := 25, slot := 18, constantValue := 0 }, { name := "JLA", type := (.object "jdk/internal/access/JavaLangAccess"), accessFlags := 26, slot := 19, constantValue := 0 }, { name := "SOFT_MAX_ARRAY_LENGTH", type := .int, accessFlags := 25, slot := 20, constantValue := 0 }]
  methods := #[k15m0]
  instanceTypes := #[]
  staticTypes := #[(.object "jdk/internal/misc/Unsafe"), .boolean, .int, .int, .int, .int, .int, .int, .int, .int, .int, .int, .int, .int, .int, .int, .int, .int, .int, (.object "jdk/internal/access/JavaLangAccess"), .int]
  resolved := Array.replicate 378 none
  statics := none }

def pool16 : Array CpInfo := pool [(1, u "java/lang/Cloneable"), (0, .class_ 1), (0, u "java/lang/Object"), (0, .class_ 3)] 3

/-- java/lang/Cloneable -/
def k16 : Class := { plain "java/lang/Cloneable" (some 0) with
  accessFlags := 1537
  interfaces := #[]
  cf := some (fileOf pool16 2 #[] #[] 1537 4 #[] #[])
  fields := #[]
  methods := #[]
  instanceTypes := #[]
  staticTypes := #[]
  resolved := Array.replicate 8 none
  statics := none }

/-- the primitive byte -/
def k17 : Class := { plain "byte" none with kind := .primitive 'B', accessFlags := 0x411 }
/-- [B -/
def k18 : Class := { plain "[B" (some 0) with kind := .array 17 .byte, interfaces := #[16, 4], accessFlags := 1041 }

/-- the primitive char -/
def k19 : Class := { plain "char" none with kind := .primitive 'C', accessFlags := 0x411 }
/-- [C -/
def k20 : Class := { plain "[C" (some 0) with kind := .array 19 .char, interfaces := #[16, 4], accessFlags := 1041 }

/-- the primitive int -/
def k21 : Class := { plain "int" none with kind := .primitive 'I', accessFlags := 0x411 }
/-- [I -/
def k22 : Class := { plain "[I" (some 0) with kind := .array 21 .int, interfaces := #[16, 4], accessFlags := 1041 }

def heap : Heap := #[{ cls := 6, slots := #[.ref 3, .ref 4, .ref 5, .ref 6, .ref 7, .null], vm := .statics 6 },
  { cls := 9, slots := #[.long 0, .int 1, .null, .int 0, .null, .int 0, .int 0], vm := .statics 9 },
  { cls := 14, slots := #[.null, .null, .null], vm := .statics 14 },
  { cls := 6, slots := #[.null, .int 0, .int 0], vm := .none },
  { cls := 6, slots := #[.null, .int 1, .int 0], vm := .none },
  { cls := 6, slots := #[.null, .int 2, .int 0], vm := .none },
  { cls := 6, slots := #[.null, .int 3, .int 0], vm := .none },
  { cls := 6, slots := #[.null, .int 4, .int 0], vm := .none }]
def classes : Array Class := #[k0, k1, k2, k3, k4, k5, k6, k7, k8, k9, k10, k11, k12, k13, k14, k15, k16, k17, k18, k19, k20, k21, k22]
def interned : List (Array UInt16 × Addr) := []
def slotsUsed : Nat := 31
def theMethod : MethodId := ⟨1, 3⟩
def args0 : Array Value := #[.int 1, .long 1, .long 1, .int 1, .int 1, .int 1]
def aboutOver (below : List Frame) : State where
  vm := { classes := classes, interned := interned.toArray }
  heap := heap
  slotsUsed := slotsUsed
  threads := #[{ frames := .invoking theMethod args0 :: below }]
def below0 : List Frame := [.native { method := ⟨0, 0⟩, args := #[] }]
def about1 : State := aboutOver below0
def p0 : Program := .bare "" "" ""
def e0 : Env := launch0.env 0 0 0
theorem w_frames : about1.frames = Frame.invoking theMethod args0 :: below0 := rfl
set_option maxRecDepth 65536 in
theorem w_args : argsFit about1.vm theMethod args0 = true := by decide +kernel
set_option maxRecDepth 65536 in
theorem w_heap : heapFits about1 = true := by decide +kernel
set_option maxRecDepth 65536 in
theorem w_runnable : about1.curStatus? = some .runnable := by decide +kernel
set_option maxRecDepth 65536 in
theorem w_alone : about1.alone = true := by decide +kernel
set_option maxRecDepth 65536 in
theorem w_named : about1.methodNamed? x = some theMethod := by decide +kernel
set_option maxRecDepth 65536 in
theorem w_hears : about1.hears theMethod below0 = true := by decide +kernel
set_option maxRecDepth 65536 in
theorem w_ripe : about1.ripe theMethod args0 below0 = true := by decide +kernel
theorem w_running : about1.status = .running := rfl
set_option maxRecDepth 65536 in
theorem w_room : about1.hasRoom e0.platform room_1 = true :=
  launch0.hasRoom_least _ room_1 (by decide +kernel) (by decide +kernel) (by decide +kernel) (by decide +kernel) (by decide +kernel) (by decide +kernel)
theorem allAtoms_all (ts : List Jvm.Cond) (a : Array Jvm.Value) (st : Jvm.State) : (allAtoms ts).before a st = ts.all (fun c => c.before a st) := by
  induction ts with
  | nil => rfl
  | cons c t ih =>
    show (Jvm.Cond.and c (allAtoms t)).before a st = _
    rw [Jvm.Cond.before_and, ih, List.all_cons]
def words1 : List Jvm.Cond := Jvm.Cond.code x code maxLocals ret :: tables_1
/-- a 'code' word, met by the world's own term for the bytes: nothing is compared byte by byte -/
theorem code_word {y : MethodName} {bytes : ByteArray} {mx : Nat} {rt : Option FieldType} {a : Array Value} {s : State} {m : MethodId} {meth : Method} {c : Code} (h1 : s.methodNamed? y = some m) (h2 : s.vm.method? m = some meth) (h3 : meth.code = some c) (h4 : c.code = bytes)
    (h5 : (c.maxLocals == mx && c.exceptionTable.isEmpty && decide (c.maxStack ≤ mostOperands) && decide (meth.sig.returnType = rt) && !meth.locks && decide (parseMethodDescriptor y.desc = some meth.sig)) = true) : (Jvm.Cond.code y bytes mx rt).before a s = true := by
  simp only [Bool.and_eq_true, beq_iff_eq, Bool.not_eq_true', decide_eq_true_eq] at h5
  obtain ⟨⟨⟨⟨⟨g1, g2⟩, g3⟩, g4⟩, g5⟩, g6⟩ := h5
  simp [Cond.before, Cond.holds, Cond.value, h1, h2, h3, h4, g1, g2, g3, g4, g5, g6]
def isCode : Jvm.Cond → Bool
  | .code _ _ _ _ => true
  | _ => false
theorem all_split {L : List Jvm.Cond} {P : Jvm.Cond → Bool} (h1 : L.all (fun c => isCode c || P c) = true) (h2 : ∀ c ∈ L.filter isCode, P c = true) : L.all P = true := by
  refine List.all_eq_true.mpr fun c hc => ?_
  have h := List.all_eq_true.mp h1 c hc
  rcases Bool.eq_false_or_eq_true (isCode c) with hi | hi
  · exact h2 c (List.mem_filter.mpr ⟨hc, hi⟩)
  · simpa [hi] using h
set_option maxRecDepth 65536 in
theorem w_c0 : (Jvm.Cond.code x code maxLocals ret).before args0 about1 = true := code_word (m := ⟨1, 3⟩) (meth := k1m3) (c := k1c3) (by decide +kernel) rfl rfl rfl (by decide +kernel)
set_option maxRecDepth 65536 in
theorem w_c1 : (Jvm.Cond.code ({ cls := "com/example/obra/obra/TokenIsPinLaw", name := "mk", desc := "(ICCC)Ljava/lang/String;" } : Jvm.MethodName) method_2_code (4 : Nat) (Option.some (Jvm.ClassFile.FieldType.object "java/lang/String"))).before args0 about1 = true := code_word (m := ⟨1, 1⟩) (meth := k1m1) (c := k1c1) (by decide +kernel) rfl rfl rfl (by decide +kernel)
set_option maxRecDepth 65536 in
theorem w_c2 : (Jvm.Cond.code ({ cls := "java/lang/String", name := "<init>", desc := "([C)V" } : Jvm.MethodName) jdk_42_method_3_code (2 : Nat) (Option.none : Option Jvm.ClassFile.FieldType)).before args0 about1 = true := code_word (m := ⟨9, 1⟩) (meth := k9m1) (c := k9c1) (by decide +kernel) rfl rfl rfl (by decide +kernel)
set_option maxRecDepth 65536 in
theorem w_c3 : (Jvm.Cond.code ({ cls := "java/lang/String", name := "<init>", desc := "([CIILjava/lang/Void;)V" } : Jvm.MethodName) jdk_42_method_149_code (6 : Nat) (Option.none : Option Jvm.ClassFile.FieldType)).before args0 about1 = true := code_word (m := ⟨9, 4⟩) (meth := k9m4) (c := k9c4) (by decide +kernel) rfl rfl rfl (by decide +kernel)
set_option maxRecDepth 65536 in
theorem w_c4 : (Jvm.Cond.code ({ cls := "java/lang/Object", name := "<init>", desc := "()V" } : Jvm.MethodName) object_method_1_code (1 : Nat) (Option.none : Option Jvm.ClassFile.FieldType)).before args0 about1 = true := code_word (m := ⟨0, 0⟩) (meth := k0m0) (c := k0c0) (by decide +kernel) rfl rfl rfl (by decide +kernel)
set_option maxRecDepth 65536 in
theorem w_c5 : (Jvm.Cond.code ({ cls := "com/example/obra/obra/Token", name := "<init>", desc := "(Lcom/example/obra/obra/Token$Kind;Ljava/lang/String;II)V" } : Jvm.MethodName) prog_84_method_1_code (5 : Nat) (Option.none : Option Jvm.ClassFile.FieldType)).before args0 about1 = true := code_word (m := ⟨11, 0⟩) (meth := k11m0) (c := k11c0) (by decide +kernel) rfl rfl rfl (by decide +kernel)
set_option maxRecDepth 65536 in
theorem w_c6 : (Jvm.Cond.code ({ cls := "java/lang/Record", name := "<init>", desc := "()V" } : Jvm.MethodName) jdk_30_method_1_code (1 : Nat) (Option.none : Option Jvm.ClassFile.FieldType)).before args0 about1 = true := code_word (m := ⟨10, 0⟩) (meth := k10m0) (c := k10c0) (by decide +kernel) rfl rfl rfl (by decide +kernel)
set_option maxRecDepth 65536 in
theorem w_c7 : (Jvm.Cond.code ({ cls := "com/example/obra/obra/Token", name := "is", desc := "(Ljava/lang/String;)Z" } : Jvm.MethodName) prog_84_method_2_code (2 : Nat) (Option.some Jvm.ClassFile.FieldType.boolean)).before args0 about1 = true := code_word (m := ⟨11, 1⟩) (meth := k11m1) (c := k11c1) (by decide +kernel) rfl rfl rfl (by decide +kernel)
set_option maxRecDepth 65536 in
theorem w_c8 : (Jvm.Cond.code ({ cls := "java/lang/StringUTF16", name := "compress", desc := "([CII)[B" } : Jvm.MethodName) jdk_52_method_16_code (6 : Nat) (Option.some (Jvm.ClassFile.FieldType.array Jvm.ClassFile.FieldType.byte))).before args0 about1 = true := code_word (m := ⟨12, 2⟩) (meth := k12m2) (c := k12c2) (by decide +kernel) rfl rfl rfl (by decide +kernel)
set_option maxRecDepth 65536 in
theorem w_c9 : (Jvm.Cond.code ({ cls := "java/lang/StringUTF16", name := "compress", desc := "([CI[BII)I" } : Jvm.MethodName) jdk_52_method_21_code (7 : Nat) (Option.some Jvm.ClassFile.FieldType.int)).before args0 about1 = true := code_word (m := ⟨12, 3⟩) (meth := k12m3) (c := k12c3) (by decide +kernel) rfl rfl rfl (by decide +kernel)
set_option maxRecDepth 65536 in
theorem w_c10 : (Jvm.Cond.code ({ cls := "java/lang/StringUTF16", name := "coderFromArrayLen", desc := "([BI)B" } : Jvm.MethodName) jdk_52_method_15_code (2 : Nat) (Option.some Jvm.ClassFile.FieldType.byte)).before args0 about1 = true := code_word (m := ⟨12, 1⟩) (meth := k12m1) (c := k12c1) (by decide +kernel) rfl rfl rfl (by decide +kernel)
set_option maxRecDepth 65536 in
theorem w_c11 : (Jvm.Cond.code ({ cls := "com/example/obra/obra/TokenIsPinLaw", name := "same", desc := "(ICCCICCC)Z" } : Jvm.MethodName) method_3_code (8 : Nat) (Option.some Jvm.ClassFile.FieldType.boolean)).before args0 about1 = true := code_word (m := ⟨1, 2⟩) (meth := k1m2) (c := k1c2) (by decide +kernel) rfl rfl rfl (by decide +kernel)
set_option maxRecDepth 65536 in
theorem w_c12 : (Jvm.Cond.code ({ cls := "java/lang/String", name := "equals", desc := "(Ljava/lang/Object;)Z" } : Jvm.MethodName) jdk_42_method_66_code (3 : Nat) (Option.some Jvm.ClassFile.FieldType.boolean)).before args0 about1 = true := code_word (m := ⟨9, 2⟩) (meth := k9m2) (c := k9c2) (by decide +kernel) rfl rfl rfl (by decide +kernel)
set_option maxRecDepth 65536 in
theorem w_c13 : (Jvm.Cond.code ({ cls := "java/lang/StringLatin1", name := "equals", desc := "([B[B)Z" } : Jvm.MethodName) jdk_43_method_13_code (3 : Nat) (Option.some Jvm.ClassFile.FieldType.boolean)).before args0 about1 = true := code_word (m := ⟨13, 2⟩) (meth := k13m2) (c := k13c2) (by decide +kernel) rfl rfl rfl (by decide +kernel)
set_option maxRecDepth 65536 in
theorem w_c14 : (Jvm.Cond.code ({ cls := "java/lang/String", name := "valueOf", desc := "(C)Ljava/lang/String;" } : Jvm.MethodName) jdk_42_method_139_code (1 : Nat) (Option.some (Jvm.ClassFile.FieldType.object "java/lang/String"))).before args0 about1 = true := code_word (m := ⟨9, 3⟩) (meth := k9m3) (c := k9c3) (by decide +kernel) rfl rfl rfl (by decide +kernel)
set_option maxRecDepth 65536 in
theorem w_c15 : (Jvm.Cond.code ({ cls := "java/lang/StringLatin1", name := "canEncode", desc := "(C)Z" } : Jvm.MethodName) jdk_43_method_3_code (1 : Nat) (Option.some Jvm.ClassFile.FieldType.boolean)).before args0 about1 = true := code_word (m := ⟨13, 1⟩) (meth := k13m1) (c := k13c1) (by decide +kernel) rfl rfl rfl (by decide +kernel)
set_option maxRecDepth 65536 in
theorem w_c16 : (Jvm.Cond.code ({ cls := "java/lang/StringLatin1", name := "toBytes", desc := "(C)[B" } : Jvm.MethodName) jdk_43_method_46_code (1 : Nat) (Option.some (Jvm.ClassFile.FieldType.array Jvm.ClassFile.FieldType.byte))).before args0 about1 = true := code_word (m := ⟨13, 3⟩) (meth := k13m3) (c := k13c3) (by decide +kernel) rfl rfl rfl (by decide +kernel)
set_option maxRecDepth 65536 in
theorem w_c17 : (Jvm.Cond.code ({ cls := "java/lang/String", name := "<init>", desc := "([BB)V" } : Jvm.MethodName) jdk_42_method_151_code (3 : Nat) (Option.none : Option Jvm.ClassFile.FieldType)).before args0 about1 = true := code_word (m := ⟨9, 5⟩) (meth := k9m5) (c := k9c5) (by decide +kernel) rfl rfl rfl (by decide +kernel)
def codes1 : List Jvm.Cond := [Jvm.Cond.code x code maxLocals ret, Jvm.Cond.code ({ cls := "com/example/obra/obra/TokenIsPinLaw", name := "mk", desc := "(ICCC)Ljava/lang/String;" } : Jvm.MethodName) method_2_code (4 : Nat) (Option.some (Jvm.ClassFile.FieldType.object "java/lang/String")), Jvm.Cond.code ({ cls := "java/lang/String", name := "<init>", desc := "([C)V" } : Jvm.MethodName) jdk_42_method_3_code (2 : Nat) (Option.none : Option Jvm.ClassFile.FieldType), Jvm.Cond.code ({ cls := "java/lang/String", name := "<init>", desc := "([CIILjava/lang/Void;)V" } : Jvm.MethodName) jdk_42_method_149_code (6 : Nat) (Option.none : Option Jvm.ClassFile.FieldType), Jvm.Cond.code ({ cls := "java/lang/Object", name := "<init>", desc := "()V" } : Jvm.MethodName) object_method_1_code (1 : Nat) (Option.none : Option Jvm.ClassFile.FieldType), Jvm.Cond.code ({ cls := "com/example/obra/obra/Token", name := "<init>", desc := "(Lcom/example/obra/obra/Token$Kind;Ljava/lang/String;II)V" } : Jvm.MethodName) prog_84_method_1_code (5 : Nat) (Option.none : Option Jvm.ClassFile.FieldType), Jvm.Cond.code ({ cls := "java/lang/Record", name := "<init>", desc := "()V" } : Jvm.MethodName) jdk_30_method_1_code (1 : Nat) (Option.none : Option Jvm.ClassFile.FieldType), Jvm.Cond.code ({ cls := "com/example/obra/obra/Token", name := "is", desc := "(Ljava/lang/String;)Z" } : Jvm.MethodName) prog_84_method_2_code (2 : Nat) (Option.some Jvm.ClassFile.FieldType.boolean), Jvm.Cond.code ({ cls := "java/lang/StringUTF16", name := "compress", desc := "([CII)[B" } : Jvm.MethodName) jdk_52_method_16_code (6 : Nat) (Option.some (Jvm.ClassFile.FieldType.array Jvm.ClassFile.FieldType.byte)), Jvm.Cond.code ({ cls := "java/lang/StringUTF16", name := "compress", desc := "([CI[BII)I" } : Jvm.MethodName) jdk_52_method_21_code (7 : Nat) (Option.some Jvm.ClassFile.FieldType.int), Jvm.Cond.code ({ cls := "java/lang/StringUTF16", name := "coderFromArrayLen", desc := "([BI)B" } : Jvm.MethodName) jdk_52_method_15_code (2 : Nat) (Option.some Jvm.ClassFile.FieldType.byte), Jvm.Cond.code ({ cls := "com/example/obra/obra/TokenIsPinLaw", name := "same", desc := "(ICCCICCC)Z" } : Jvm.MethodName) method_3_code (8 : Nat) (Option.some Jvm.ClassFile.FieldType.boolean), Jvm.Cond.code ({ cls := "java/lang/String", name := "equals", desc := "(Ljava/lang/Object;)Z" } : Jvm.MethodName) jdk_42_method_66_code (3 : Nat) (Option.some Jvm.ClassFile.FieldType.boolean), Jvm.Cond.code ({ cls := "java/lang/StringLatin1", name := "equals", desc := "([B[B)Z" } : Jvm.MethodName) jdk_43_method_13_code (3 : Nat) (Option.some Jvm.ClassFile.FieldType.boolean), Jvm.Cond.code ({ cls := "java/lang/String", name := "valueOf", desc := "(C)Ljava/lang/String;" } : Jvm.MethodName) jdk_42_method_139_code (1 : Nat) (Option.some (Jvm.ClassFile.FieldType.object "java/lang/String")), Jvm.Cond.code ({ cls := "java/lang/StringLatin1", name := "canEncode", desc := "(C)Z" } : Jvm.MethodName) jdk_43_method_3_code (1 : Nat) (Option.some Jvm.ClassFile.FieldType.boolean), Jvm.Cond.code ({ cls := "java/lang/StringLatin1", name := "toBytes", desc := "(C)[B" } : Jvm.MethodName) jdk_43_method_46_code (1 : Nat) (Option.some (Jvm.ClassFile.FieldType.array Jvm.ClassFile.FieldType.byte)), Jvm.Cond.code ({ cls := "java/lang/String", name := "<init>", desc := "([BB)V" } : Jvm.MethodName) jdk_42_method_151_code (3 : Nat) (Option.none : Option Jvm.ClassFile.FieldType)]
set_option maxRecDepth 65536 in
theorem codes_eq : words1.filter isCode = codes1 := rfl
theorem w_codes : ∀ c ∈ words1.filter isCode, c.before args0 about1 = true := by
  rw [codes_eq]
  intro c hc
  simp only [codes1, List.mem_cons, List.not_mem_nil, or_false] at hc
  rcases hc with rfl | rfl | rfl | rfl | rfl | rfl | rfl | rfl | rfl | rfl | rfl | rfl | rfl | rfl | rfl | rfl | rfl | rfl
  · exact w_c0
  · exact w_c1
  · exact w_c2
  · exact w_c3
  · exact w_c4
  · exact w_c5
  · exact w_c6
  · exact w_c7
  · exact w_c8
  · exact w_c9
  · exact w_c10
  · exact w_c11
  · exact w_c12
  · exact w_c13
  · exact w_c14
  · exact w_c15
  · exact w_c16
  · exact w_c17
set_option maxRecDepth 65536 in
theorem w_t1 : (words1.take 24).all (fun c => isCode c || c.before args0 about1) = true := by decide +kernel
set_option maxRecDepth 65536 in
theorem w_t2 : ((words1.drop 24).take 24).all (fun c => isCode c || c.before args0 about1) = true := by decide +kernel
set_option maxRecDepth 65536 in
theorem w_t3 : (((words1.drop 24).drop 24).take 24).all (fun c => isCode c || c.before args0 about1) = true := by decide +kernel
set_option maxRecDepth 65536 in
theorem w_t4 : ((((words1.drop 24).drop 24).drop 24).take 24).all (fun c => isCode c || c.before args0 about1) = true := by decide +kernel
set_option maxRecDepth 65536 in
theorem w_t5 : ((((words1.drop 24).drop 24).drop 24).drop 24).all (fun c => isCode c || c.before args0 about1) = true := by decide +kernel
theorem w_tables : (allAtoms (Jvm.Cond.code x code maxLocals ret :: tables_1)).before args0 about1 = true := by
  rw [allAtoms_all]
  show words1.all (fun c => c.before args0 about1) = true
  refine all_split ?_ w_codes
  rw [← List.take_append_drop 24 words1, List.all_append, w_t1, ← List.take_append_drop 24 (words1.drop 24), List.all_append, w_t2, ← List.take_append_drop 24 ((words1.drop 24).drop 24), List.all_append, w_t3, ← List.take_append_drop 24 (((words1.drop 24).drop 24).drop 24), List.all_append, w_t4, w_t5]
  rfl
set_option maxRecDepth 65536 in
theorem w_rest : rest_1_c.before args0 about1 = true := by decide +kernel
set_option maxRecDepth 65536 in
theorem w_case : (Jvm.Cond.and given_1 narrow_1).before args0 about1 = true := by decide +kernel
set_option maxRecDepth 65536 in
theorem w_consts : constsHeld consts_1 about1 := Jvm.Lit.constsHeldB_iff.mp (by decide +kernel)
theorem w_applies : (headSpec (Jvm.Cond.code x code maxLocals ret :: tables_1) room_1).applies x e0.platform about1 = true :=
  (Spec.applies_iff w_frames).mpr ⟨w_running, w_runnable, w_alone, w_named, w_hears, w_ripe, w_room, w_tables⟩
theorem atStart : AtStart classFile x code maxLocals ret World_1 tables_1 room_1 Calls_1 rest_1 Pre_1 launch0 p0 e0 about1 theMethod args0 below0 :=
  ⟨lists_1, trivial, launch0.admits_env _ _ _, launch0.least_env, fairChoices_fair.cas, fairChoices_fair.clock, w_frames, w_args, w_heap, w_applies, ⟨w_consts, trivial⟩, w_rest, w_case⟩
end start1
theorem witness_1 : WitnessClaimed_1 := ⟨start1.p0, start1.e0, start1.about1, start1.theMethod, start1.args0, start1.below0, start1.atStart⟩
end Jvm.Pilot.@@N@@
