import JvmDerived
import JvmDerived.Pilot.@@N@@Statement
import JvmDerived.Pilot.@@N@@Code
set_option linter.unusedVariables false
set_option linter.unusedSimpArgs false
namespace Jvm.Pilot.@@N@@
namespace StrChars
open Jvm Sem ClassFile Op Lib Jvm.Stand Jvm.Free.XT Jvm.Free.ALB Jvm.Free.JM Jvm.Free
open Jvm.Lib.Cold (StaticIs)
def lo8 (x : Int32) : Int32 := x.toInt8.toInt32
theorem lo8_mask {x : Int32} (h0 : ¬ x < 0) (h1 : ¬ 255 < x) : lo8 x &&& 255 = x := by
  have t : ∀ k : Fin 256, lo8 (Int32.ofNat k.val) &&& 255 = Int32.ofNat k.val := by decide +kernel
  rw [Int32.lt_iff_toInt_lt] at h0 h1
  have e0 : (0 : Int32).toInt = 0 := rfl
  have e1 : (255 : Int32).toInt = 255 := rfl
  obtain ⟨k, hk⟩ : ∃ k : Nat, x.toInt = k := ⟨x.toInt.toNat, by omega⟩
  have hx : x = Int32.ofNat k := Int32.toInt_inj.mp (by rw [hk, Int32.toInt_ofNat_small (by omega)])
  rw [hx]
  exact t ⟨k, by omega⟩
end StrChars
namespace StrChars
open Jvm Sem ClassFile Op Lib Jvm.Stand Jvm.Free.XT Jvm.Free.ALB Jvm.Free.JM Jvm.Free
open Jvm.Lib.Cold (StaticIs)
def hi8 (x : Int32) : Int32 := lo8 (x >>> ((8 : Int32) &&& 31))
def pairCh (u v : Int32) : Int32 := (((u &&& 255) <<< ((0 : Int32) &&& 31)) ||| ((v &&& 255) <<< ((8 : Int32) &&& 31))).toUInt32.toUInt16.toUInt32.toInt32
theorem shr0 (c : Int32) : c >>> ((0 : Int32) &&& 31) = c := by
  have e : ((0 : Int32) &&& 31) = 0 := by decide
  rw [e]
  apply Int32.toBitVec_inj.mp
  rw [Int32.toBitVec_shiftRight]
  have e1 : ((0 : Int32).toBitVec.smod 32) = 0#32 := by decide
  rw [e1, BitVec.sshiftRight_eq']
  exact BitVec.sshiftRight_zero
theorem lo8_and (x : Int32) : (lo8 x &&& 255).toBitVec.toNat = x.toBitVec.toNat % 256 := by
  have h : (lo8 x).toBitVec = (x.toBitVec.signExtend 8).signExtend 32 := by rw [lo8, Int8.toBitVec_toInt32, Int32.toBitVec_toInt8]
  rw [Int32.toBitVec_and, BitVec.toNat_and, h]
  have e : ((x.toBitVec.signExtend 8).signExtend 32).toNat % 256 = x.toBitVec.toNat % 256 := by
    rw [BitVec.toNat_signExtend]
    have hlt := x.toBitVec.isLt
    simp only [BitVec.toNat_setWidth, BitVec.toNat_signExtend]
    split <;> split <;> omega
  rw [← e]
  exact Nat.and_two_pow_sub_one_eq_mod _ 8
theorem pair_says {c : Int32} (h0 : ¬ c < 0) (h1 : ¬ 65535 < c) : pairCh (lo8 c) (hi8 c) = c := by
  rw [Int32.lt_iff_toInt_lt] at h0 h1
  have e0 : (0 : Int32).toInt = 0 := rfl
  have e1 : (65535 : Int32).toInt = 65535 := rfl
  have hc : c.toInt = c.toBitVec.toNat := by
    have := c.toBitVec.isLt
    have e : c.toInt = c.toBitVec.toInt := rfl
    rw [e] at h0 h1
    rw [e]
    rw [BitVec.toInt_eq_toNat_cond] at h0 h1 ⊢
    split at h0 <;> split <;> omega
  have hn : c.toBitVec.toNat < 65536 := by omega
  have a1 := lo8_and c
  have a2 : (hi8 c &&& 255).toBitVec.toNat = c.toBitVec.toNat / 256 := by
    rw [hi8, lo8_and]
    have e : ((8 : Int32) &&& 31) = 8 := by decide
    rw [e, Int32.toBitVec_shiftRight]
    have e2 : ((8 : Int32).toBitVec.smod 32) = 8#32 := by decide
    rw [e2, BitVec.sshiftRight_eq', BitVec.toNat_sshiftRight_of_msb_false (by rw [BitVec.msb_eq_false_iff_two_mul_lt]; omega)]
    show c.toBitVec.toNat >>> 8 % 256 = _
    rw [Nat.shiftRight_eq_div_pow]
    omega
  unfold pairCh
  apply Int32.toBitVec_inj.mp
  apply BitVec.eq_of_toNat_eq
  have f0 : ((0 : Int32) &&& 31) = 0 := by decide
  have f8 : ((8 : Int32) &&& 31) = 8 := by decide
  rw [f0, f8]
  have g : (((lo8 c &&& 255) <<< (0 : Int32)) ||| ((hi8 c &&& 255) <<< (8 : Int32))).toBitVec.toNat = c.toBitVec.toNat := by
    rw [Int32.toBitVec_or, Int32.toBitVec_shiftLeft, Int32.toBitVec_shiftLeft]
    have s0 : ((0 : Int32).toBitVec.smod 32) = 0#32 := by decide
    have s8 : ((8 : Int32).toBitVec.smod 32) = 8#32 := by decide
    rw [s0, s8, BitVec.toNat_or]
    simp only [BitVec.shiftLeft_eq', BitVec.toNat_shiftLeft, a1, a2]
    show (c.toBitVec.toNat % 256) <<< 0 % 2 ^ 32 ||| (c.toBitVec.toNat / 256) <<< 8 % 2 ^ 32 = _
    rw [Nat.shiftLeft_zero, Nat.mod_eq_of_lt (show c.toBitVec.toNat % 256 < 2 ^ 32 by omega), Nat.mod_eq_of_lt (show (c.toBitVec.toNat / 256) <<< 8 < 2 ^ 32 by rw [Nat.shiftLeft_eq]; omega), Nat.or_comm, ← Nat.shiftLeft_add_eq_or_of_lt (by omega), Nat.shiftLeft_eq]
    omega
  show BitVec.toNat (((((lo8 c &&& 255) <<< (0 : Int32)) ||| ((hi8 c &&& 255) <<< (8 : Int32))).toBitVec.setWidth 16).setWidth 32) = _
  rw [BitVec.toNat_setWidth, BitVec.toNat_setWidth, g]
  omega
end StrChars
namespace StrChars
open Jvm Sem ClassFile Op Lib Jvm.Stand Jvm.Free.XT Jvm.Free.ALB Jvm.Free.JM Jvm.Free
open Jvm.Lib.Cold (StaticIs)
theorem shr1 {n : Nat} (h : 2 * n < 2 ^ 31) : Int32.ofNat (2 * n) >>> ((1 : Int32) &&& 31) = Int32.ofNat n := by
  have e : ((1 : Int32) &&& 31) = 1 := by decide
  rw [e]
  apply Int32.toBitVec_inj.mp
  rw [Int32.toBitVec_shiftRight]
  have e1 : ((1 : Int32).toBitVec.smod 32) = 1#32 := by decide
  have hm : (BitVec.ofNat 32 (2 * n)).toNat = 2 * n := by rw [BitVec.toNat_ofNat, Nat.mod_eq_of_lt (by omega)]
  rw [e1, BitVec.sshiftRight_eq']
  apply BitVec.eq_of_toNat_eq
  show ((BitVec.ofNat 32 (2 * n)).sshiftRight 1).toNat = (BitVec.ofNat 32 n).toNat
  rw [BitVec.toNat_sshiftRight_of_msb_false (by rw [BitVec.msb_eq_false_iff_two_mul_lt, hm]; omega), hm, BitVec.toNat_ofNat, Nat.shiftRight_eq_div_pow]
  omega
def chr8 (u : Int32) : Int32 := (u &&& 255).toUInt32.toUInt16.toUInt32.toInt32
theorem chr8_lo8 {c : Int32} (h0 : ¬ c < 0) (h1 : ¬ 255 < c) : chr8 (lo8 c) = c := by
  have t : ∀ k : Fin 256, (Int32.ofNat k.val).toUInt32.toUInt16.toUInt32.toInt32 = Int32.ofNat k.val := by decide +kernel
  unfold chr8
  rw [lo8_mask h0 h1]
  rw [Int32.lt_iff_toInt_lt] at h0 h1
  have e0 : (0 : Int32).toInt = 0 := rfl
  have e1 : (255 : Int32).toInt = 255 := rfl
  obtain ⟨k, hk⟩ : ∃ k : Nat, c.toInt = k := ⟨c.toInt.toNat, by omega⟩
  have hx : c = Int32.ofNat k := Int32.toInt_inj.mp (by rw [hk, Int32.toInt_ofNat_small (by omega)])
  rw [hx]
  exact t ⟨k, by omega⟩
theorem narrow_ch {c : Int32} (h0 : ¬ c < 0) (h1 : ¬ 65535 < c) : narrow .char (.int c) = .int c := by
  have q : narrow .char (.int (pairCh (lo8 c) (hi8 c))) = .int (pairCh (lo8 c) (hi8 c)) := narrow_c _
  rwa [pair_says h0 h1] at q
end StrChars
namespace StrChars.Road
open Jvm Sem ClassFile Op Lib Jvm.Stand Jvm.Free Jvm.Free.XT
open Jvm.Lib.Cold (StaticIs)
def wideBytes : List Int32 → List Value
  | [] => []
  | c :: cs => .int (lo8 c) :: .int (hi8 c) :: wideBytes cs
def CodA (cs : List Int32) (cd N2 : Int32) (vs : List Value) : Prop := (cd = 0 ∧ N2 = Int32.ofNat cs.length ∧ vs = (cs.map fun c => Value.int (lo8 c)) ∧ ∀ c ∈ cs, ¬ 255 < c) ∨ (cd = 1 ∧ N2 = Int32.ofNat (2 * cs.length) ∧ vs = wideBytes cs ∧ ∃ c ∈ cs, 255 < c)
end StrChars.Road
namespace StrChars.Road
open Jvm Sem ClassFile Op Lib Jvm.Stand Jvm.Free Jvm.Free.XT
open Jvm.Lib.Cold (StaticIs)
theorem codOf {cs : List Int32} {n : Nat} (hn : cs.length = n) (hb : ∀ c ∈ cs, ¬ 255 < c) : CodA cs 0 (Int32.ofNat n) ((cs.map lo8).map Value.int) := Or.inl ⟨rfl, by rw [hn], by simp [List.map_map, Function.comp_def], hb⟩
end StrChars.Road
end Jvm.Pilot.@@N@@

namespace Jvm.Pilot.@@N@@
open Jvm Jvm.ClassFile Sem Op Lib Jvm.Free Jvm.Stand Jvm.LawKit Jvm.RoadKit Bundle Jvm.Pilot.@@N@@.Jvm.D
section OwnKit
variable {p : Program} {l : Launch} {e : Env} {R : Room} {s : State} {m : MethodId} {args : Array Value} {below : List Frame} {meth : Method} {c : Code} {T : State} {locs : List Loc} {cells slots : Nat} {Z : State} {h : Heap}
def own_Post (Q : Option Value → Heap → List Loc → Prop) (k n : Nat) (below : List Frame) (U : State) (t : State) (o : Outcome) : Prop :=
  t.status = .running ∧ Ended t below o ∧ ∃ v L, o = .returned v ∧ Q v t.heap L ∧ FrameEnd U o t L k n
def own_Fin (tb : Tables) (e : Env) (below : List Frame) (P : State → Outcome → Prop) (t0 : State) : Prop := ∃ t o, Steps tb e below t0 t ∧ P t o
theorem own_go {tb : Tables} {P : State → Outcome → Prop} {t0 t1 : State} (st : ∀ t, Steps tb e below t1 t → Steps tb e below t0 t) (q : own_Fin tb e below P t1) : own_Fin tb e below P t0 := by
  obtain ⟨t, o, h1, h2⟩ := q
  exact ⟨t, o, st _ h1, h2⟩
theorem own_retI {x : MethodName} {S : Spec} {code : ByteArray} {mx : Nat} {rt : Option FieldType} {s₁ : State} {Q : Option Value → Heap → List Loc → Prop} {kc kn : Nat} (X : Stand p l e R s m args below meth c T locs cells slots) (hx : p.tables.exec = Jvm.exec) (Bd : BodyLoose p l x S code mx rt e s m args below meth c s₁) {pc : Nat} {Ls : Array Slot} {z : Int32} {t : FieldType} {rest : List Value} (hret : meth.sig.returnType = some t) (hn : narrow t (.int z) = .int z)
    (ht : t = .int ∨ t = .boolean ∨ t = .byte ∨ t = .char ∨ t = .short) (hd : decode c.code pc = .ok (.ireturn, 1)) (hQ : Q (some (.int z)) T.heap locs) (hc : cells ≤ kc) (hs : slots ≤ kn) : own_Fin p.tables e below (own_Post Q kc kn below s) (T.setTop (mkF m pc Ls (.int z :: rest))) := by
  obtain ⟨fs, hr, hrun, hended, hW, hsame⟩ := X.leave (v := some (.int z)) (fun h => by rw [hret] at h; cases h) Bd.notSynchronized
  exact ⟨_, _, retOut X hx hret hn (Or.inl ⟨rfl, ht, z, rfl⟩) hd hr, hrun, hended, _, _, rfl, hQ, ⟨_, rfl⟩, hW, hsame.mono hc hs⟩
theorem own_retJ {x : MethodName} {S : Spec} {code : ByteArray} {mx : Nat} {rt : Option FieldType} {s₁ : State} {Q : Option Value → Heap → List Loc → Prop} {kc kn : Nat} (X : Stand p l e R s m args below meth c T locs cells slots) (hx : p.tables.exec = Jvm.exec) (Bd : BodyLoose p l x S code mx rt e s m args below meth c s₁) {pc : Nat} {Ls : Array Slot} {z : Int64} {rest : List Value} (hret : meth.sig.returnType = some .long)
    (hd : decode c.code pc = .ok (.lreturn, 1)) (hQ : Q (some (.long z)) T.heap locs) (hc : cells ≤ kc) (hs : slots ≤ kn) : own_Fin p.tables e below (own_Post Q kc kn below s) (T.setTop (mkF m pc Ls (.long z :: rest))) := by
  obtain ⟨fs, hr, hrun, hended, hW, hsame⟩ := X.leave (v := some (.long z)) (fun h => by rw [hret] at h; cases h) Bd.notSynchronized
  exact ⟨_, _, retOut X hx hret rfl (Or.inr (Or.inl ⟨rfl, rfl, z, rfl⟩)) hd hr, hrun, hended, _, _, rfl, hQ, ⟨_, rfl⟩, hW, hsame.mono hc hs⟩
theorem own_retA {x : MethodName} {S : Spec} {code : ByteArray} {mx : Nat} {rt : Option FieldType} {s₁ : State} {Q : Option Value → Heap → List Loc → Prop} {kc kn : Nat} (X : Stand p l e R s m args below meth c T locs cells slots) (hx : p.tables.exec = Jvm.exec) (Bd : BodyLoose p l x S code mx rt e s m args below meth c s₁) {pc : Nat} {Ls : Array Slot} {w : Value} {t : FieldType} {rest : List Value} (hret : meth.sig.returnType = some t) (ht : t.isReference = true) (hw : w.isRef = true) (hn : narrow t w = w)
    (hd : decode c.code pc = .ok (.areturn, 1)) (hQ : Q (some w) T.heap locs) (hc : cells ≤ kc) (hs : slots ≤ kn) : own_Fin p.tables e below (own_Post Q kc kn below s) (T.setTop (mkF m pc Ls (w :: rest))) := by
  obtain ⟨fs, hr, hrun, hended, hW, hsame⟩ := X.leave (v := some w) (fun h => by rw [hret] at h; cases h) Bd.notSynchronized
  exact ⟨_, _, retOut X hx hret hn (Or.inr (Or.inr (Or.inr (Or.inr ⟨rfl, ht, hw⟩)))) hd hr, hrun, hended, _, _, rfl, hQ, ⟨_, rfl⟩, hW, hsame.mono hc hs⟩
theorem own_ret0 {x : MethodName} {S : Spec} {code : ByteArray} {mx : Nat} {s₁ : State} {Q : Option Value → Heap → List Loc → Prop} {kc kn : Nat} (X : Stand p l e R s m args below meth c T locs cells slots) (hx : p.tables.exec = Jvm.exec) (Bd : BodyLoose p l x S code mx none e s m args below meth c s₁) {pc : Nat} {Ls : Array Slot}
    (hd : decode c.code pc = .ok (.return_, 1)) (hQ : Q none T.heap locs) (hc : cells ≤ kc) (hs : slots ≤ kn) : own_Fin p.tables e below (own_Post Q kc kn below s) (T.setTop (mkF m pc Ls [])) := by
  obtain ⟨fs, hr, hrun, hended, hW, hsame⟩ := X.leave (v := none) (fun _ => rfl) Bd.notSynchronized
  exact ⟨_, _, X.returnOut hx Bd.returns hd hr, hrun, hended, _, _, rfl, hQ, ⟨_, rfl⟩, hW, hsame.mono hc hs⟩
theorem own_alen {a : Addr} {k : ClassId} {ty : FieldType} {n : Int32} {vs : List Value} {d : Value} (X : Stand p l e R s m args below meth c T locs cells slots) (hx : p.tables.exec = Jvm.exec) (hZ : Z.Warmed39 s.vm) (eT : T.heap = h) (V : Arv Z h a k ty n vs d) {g : JFrame} (hg : g.method = m) {rest : List Value} (hs : g.stack = .ref a :: rest) (hd : decode c.code g.pc = .ok (.arraylength, 1)) (target : State)
    (q : Steps p.tables e below (T.setTop { g with pc := g.pc + 1, stack := .int n :: rest }) target) : Steps p.tables e below (T.setTop g) target := by
  obtain ⟨cl, A, -, S, M, -, -⟩ := V
  refine X.arraylength hx (by rw [eT]; exact A.1) (State.isArrayOf_alike hZ.alike A.2.1) hg hs hd _ ?_
  rw [len_of S M]; exact q
theorem own_laload {a : Addr} {k : ClassId} {n : Int32} {vs : List Value} {d : Value} (X : Stand p l e R s m args below meth c T locs cells slots) (hx : p.tables.exec = Jvm.exec) (hZ : Z.Warmed39 s.vm) (eT : T.heap = h) (V : Arv Z h a k .long n vs d) {j : Int32} (hj : ¬ j < 0 ∧ j < n) {v : Value} (hv : vs.getD j.toNatClampNeg d = v) {g : JFrame} (hg : g.method = m) {rest : List Value} (hs : g.stack = .int j :: .ref a :: rest) (hd : decode c.code g.pc = .ok (.laload, 1)) (target : State)
    (q : Steps p.tables e below (T.setTop { g with pc := g.pc + 1, stack := v :: rest }) target) : Steps p.tables e below (T.setTop g) target := by
  obtain ⟨cl, A, -, S, M, H, -⟩ := V
  exact X.laload hx (by rw [eT]; exact A.1) (State.isArrayOf_alike hZ.alike A.2.1) A.2.2 (inb_of S hj) (Has.at H (inb_of S hj) hv) hg hs hd _ q
theorem own_iaload {a : Addr} {k : ClassId} {n : Int32} {vs : List Value} {d : Value} (X : Stand p l e R s m args below meth c T locs cells slots) (hx : p.tables.exec = Jvm.exec) (hZ : Z.Warmed39 s.vm) (eT : T.heap = h) (V : Arv Z h a k .int n vs d) {j : Int32} (hj : ¬ j < 0 ∧ j < n) {v : Value} (hv : vs.getD j.toNatClampNeg d = v) {g : JFrame} (hg : g.method = m) {rest : List Value} (hs : g.stack = .int j :: .ref a :: rest) (hd : decode c.code g.pc = .ok (.iaload, 1)) (target : State)
    (q : Steps p.tables e below (T.setTop { g with pc := g.pc + 1, stack := v :: rest }) target) : Steps p.tables e below (T.setTop g) target := by
  obtain ⟨cl, A, -, S, M, H, -⟩ := V
  exact X.iaload hx (by rw [eT]; exact A.1) (State.isArrayOf_alike hZ.alike A.2.1) A.2.2 (inb_of S hj) (Has.at H (inb_of S hj) hv) hg hs hd _ q
theorem own_caload {a : Addr} {k : ClassId} {n : Int32} {vs : List Value} {d : Value} (X : Stand p l e R s m args below meth c T locs cells slots) (hx : p.tables.exec = Jvm.exec) (hZ : Z.Warmed39 s.vm) (eT : T.heap = h) (V : Arv Z h a k .char n vs d) {j : Int32} (hj : ¬ j < 0 ∧ j < n) {v : Value} (hv : vs.getD j.toNatClampNeg d = v) {g : JFrame} (hg : g.method = m) {rest : List Value} (hs : g.stack = .int j :: .ref a :: rest) (hd : decode c.code g.pc = .ok (.caload, 1)) (target : State)
    (q : Steps p.tables e below (T.setTop { g with pc := g.pc + 1, stack := v :: rest }) target) : Steps p.tables e below (T.setTop g) target := by
  obtain ⟨cl, A, -, S, M, H, -⟩ := V
  exact X.caload hx (by rw [eT]; exact A.1) (State.isArrayOf_alike hZ.alike A.2.1) A.2.2 (inb_of S hj) (Has.at H (inb_of S hj) hv) hg hs hd _ q
theorem own_baload {a : Addr} {k : ClassId} {n : Int32} {vs : List Value} {d : Value} (X : Stand p l e R s m args below meth c T locs cells slots) (hx : p.tables.exec = Jvm.exec) (hZ : Z.Warmed39 s.vm) (eT : T.heap = h) (V : Arv Z h a k .byte n vs d) {j : Int32} (hj : ¬ j < 0 ∧ j < n) {v : Value} (hv : vs.getD j.toNatClampNeg d = v) {g : JFrame} (hg : g.method = m) {rest : List Value} (hs : g.stack = .int j :: .ref a :: rest) (hd : decode c.code g.pc = .ok (.baload, 1)) (target : State)
    (q : Steps p.tables e below (T.setTop { g with pc := g.pc + 1, stack := v :: rest }) target) : Steps p.tables e below (T.setTop g) target := by
  obtain ⟨cl, A, -, S, M, H, -⟩ := V
  exact X.baloadBytes hx (by rw [eT]; exact A.1) (State.isArrayOf_alike hZ.alike A.2.1) A.2.2 (inb_of S hj) (Has.at H (inb_of S hj) hv) hg hs hd _ q
theorem own_aaload {a : Addr} {k : ClassId} {ty : FieldType} {n : Int32} {vs : List Value} {d : Value} (X : Stand p l e R s m args below meth c T locs cells slots) (hx : p.tables.exec = Jvm.exec) (hZ : Z.Warmed39 s.vm) (eT : T.heap = h) (V : Arv Z h a k ty n vs d) {j : Int32} (hj : ¬ j < 0 ∧ j < n) {v : Value} (hr : ty.isReference = true) (hv : vs.getD j.toNatClampNeg d = v) {g : JFrame} (hg : g.method = m) {rest : List Value} (hs : g.stack = .int j :: .ref a :: rest) (hd : decode c.code g.pc = .ok (.aaload, 1)) (target : State)
    (q : Steps p.tables e below (T.setTop { g with pc := g.pc + 1, stack := v :: rest }) target) : Steps p.tables e below (T.setTop g) target := by
  obtain ⟨cl, A, -, S, M, H, -⟩ := V
  exact X.aaload hx (by rw [eT]; exact A.1) (State.isArrayOf_alike hZ.alike A.2.1) hr A.2.2 (inb_of S hj) (Has.at H (inb_of S hj) hv) hg hs hd _ q
theorem own_stJ {a : Addr} {k : ClassId} {n : Int32} {vs : List Value} {d : Value} (X : Stand p l e R s m args below meth c T locs cells slots) (hx : p.tables.exec = Jvm.exec) (hZ : Z.Warmed39 s.vm) (eT : T.heap = h) (V : Arv Z h a k .long n vs d) {j : Int32} (hj : ¬ j < 0 ∧ j < n) {i : Nat} (hji : j.toNatClampNeg = i) (hi : i < vs.length) {x : Int64} {g : JFrame} (hg : g.method = m) {rest : List Value} (hs : g.stack = .long x :: .int j :: .ref a :: rest) (hd : decode c.code g.pc = .ok (.lastore, 1)) :
    ∃ T' h', Stand p l e R s m args below meth c T' (locs ++ [⟨a, j.toNatClampNeg⟩]) cells slots ∧ T'.heap = h' ∧ Wr h h' a j.toNatClampNeg (.long x) ∧ Arv Z h' a k .long n (vs.set i (.long x)) d ∧ ∀ target, Steps p.tables e below (T'.setTop { g with pc := g.pc + 1, stack := rest }) target → Steps p.tables e below (T.setTop g) target := by
  obtain ⟨cl, A, q1, S, M, H, G⟩ := V
  obtain ⟨T', h', X', e', W, st⟩ := stJ X hx hZ eT A (j := j) (inb_of S hj) hg hs hd
  exact ⟨T', h', X', e', W, Arv.set A q1 S M H G rfl W i hji hi, st⟩
theorem own_stC {a : Addr} {k : ClassId} {n : Int32} {vs : List Value} {d : Value} (X : Stand p l e R s m args below meth c T locs cells slots) (hx : p.tables.exec = Jvm.exec) (hZ : Z.Warmed39 s.vm) (eT : T.heap = h) (V : Arv Z h a k .char n vs d) {j : Int32} (hj : ¬ j < 0 ∧ j < n) {i : Nat} (hji : j.toNatClampNeg = i) (hi : i < vs.length) {x : Int32} {g : JFrame} (hg : g.method = m) {rest : List Value} (hs : g.stack = .int x :: .int j :: .ref a :: rest) (hd : decode c.code g.pc = .ok (.castore, 1)) :
    ∃ T' h', Stand p l e R s m args below meth c T' (locs ++ [⟨a, j.toNatClampNeg⟩]) cells slots ∧ T'.heap = h' ∧ Wr h h' a j.toNatClampNeg (.int (nar .char x)) ∧ Arv Z h' a k .char n (vs.set i (.int (nar .char x))) d ∧ ∀ target, Steps p.tables e below (T'.setTop { g with pc := g.pc + 1, stack := rest }) target → Steps p.tables e below (T.setTop g) target := by
  obtain ⟨cl, A, q1, S, M, H, G⟩ := V
  obtain ⟨T', h', X', e', W, st⟩ := stC X hx hZ eT A (j := j) (inb_of S hj) hg hs hd
  exact ⟨T', h', X', e', W, Arv.set A q1 S M H G (fits_nar_char _) W i hji hi, st⟩
theorem own_stB {a : Addr} {k : ClassId} {n : Int32} {vs : List Value} {d : Value} (X : Stand p l e R s m args below meth c T locs cells slots) (hx : p.tables.exec = Jvm.exec) (hZ : Z.Warmed39 s.vm) (eT : T.heap = h) (V : Arv Z h a k .byte n vs d) {j : Int32} (hj : ¬ j < 0 ∧ j < n) {i : Nat} (hji : j.toNatClampNeg = i) (hi : i < vs.length) {x : Int32} {g : JFrame} (hg : g.method = m) {rest : List Value} (hs : g.stack = .int x :: .int j :: .ref a :: rest) (hd : decode c.code g.pc = .ok (.bastore, 1)) :
    ∃ T' h', Stand p l e R s m args below meth c T' (locs ++ [⟨a, j.toNatClampNeg⟩]) cells slots ∧ T'.heap = h' ∧ Wr h h' a j.toNatClampNeg (.int (x.toInt8.toInt32)) ∧ Arv Z h' a k .byte n (vs.set i (.int (x.toInt8.toInt32))) d ∧ ∀ target, Steps p.tables e below (T'.setTop { g with pc := g.pc + 1, stack := rest }) target → Steps p.tables e below (T.setTop g) target := by
  obtain ⟨cl, A, q1, S, M, H, G⟩ := V
  obtain ⟨T', h', X', e', W, st⟩ := stB X hx hZ eT A (j := j) (inb_of S hj) hg hs hd
  exact ⟨T', h', X', e', W, Arv.set A q1 S M H G (fits_nar_byte _) W i hji hi, st⟩
theorem own_notface {C : String} {y z y' : MethodName} (hsel : (Jvm.Cond.selects C y z).before args s = true) (hc : y'.cls = z.cls) : NotFace s y' := fun r0 h0 => by
  obtain ⟨c2, r2, m2, q1, q2, q3, q4, kP, hkP, hkPi⟩ := Cond.selects_spec hsel
  have f1 := findClass_of_methodNamed h0
  have f2 := findClass_of_methodNamed q3
  rw [hc, f2] at f1
  rw [← Option.some.inj f1]
  exact ⟨kP, hkP, hkPi⟩
end OwnKit
theorem own_up (cs : List Int32) (h : ∀ c ∈ cs, ¬ c < 0 ∧ ¬ (255 : Int32) < c) : ∀ c ∈ cs, ¬ c < 0 ∧ ¬ (65535 : Int32) < c := fun c hc => ⟨(h c hc).1, fun q => (h c hc).2 (by rw [Int32.lt_iff_toInt_lt] at q ⊢; have e1 : (65535 : Int32).toInt = 65535 := rfl; have e2 : (255 : Int32).toInt = 255 := rfl; omega)⟩
theorem own_eqv {v : Option Value} {P : Prop} (h : (v = some (.int 1) ∧ P) ∨ (v = some (.int 0) ∧ ¬ P)) : ∃ z : Int32, v = some (.int z) ∧ ((z = 1 ∧ P) ∨ (z = 0 ∧ ¬ P)) := by
  rcases h with ⟨h1, h2⟩ | ⟨h1, h2⟩
  · exact ⟨1, h1, Or.inl ⟨rfl, h2⟩⟩
  · exact ⟨0, h1, Or.inr ⟨rfl, h2⟩⟩
def own_Str (Z : State) (h : Heap) (x t : Addr) (cs : List Int32) : Prop := ∃ (k : ClassId) (N cd : Int32) (vs : List Value), Exa Z h x "java/lang/String" ∧ Fld Z h x "java/lang/String" "value" "[B" (.ref t) ∧ Fld Z h x "java/lang/String" "coder" "B" (.int cd) ∧ Arv Z h t k .byte N vs (.int 0) ∧ StrChars.Road.CodA cs cd N vs ∧ (∀ c ∈ cs, ¬ c < 0 ∧ ¬ (65535 : Int32) < c) ∧ cs.length ≤ 4000
section OwnStr
variable {Z : State} {h h' : Heap} {x t a : Addr} {cs ds : List Int32} {sl : Nat} {v : Value} {ws : List Addr}
theorem own_Str.lt (F : own_Str Z h x t cs) : x < h.size := by obtain ⟨_, _, _, _, E, -⟩ := F; exact E.lt
theorem own_Str.ltt (F : own_Str Z h x t cs) : t < h.size := by obtain ⟨_, _, _, _, -, -, -, K, -⟩ := F; exact K.lt
theorem own_Str.exa (F : own_Str Z h x t cs) : Exa Z h x "java/lang/String" := by obtain ⟨_, _, _, _, E, -⟩ := F; exact E
theorem own_Str.ext (F : own_Str Z h x t cs) (E : Ext h h') : own_Str Z h' x t cs := by obtain ⟨k, N, cd, vs, f1, f2, f3, f4, r⟩ := F; exact ⟨k, N, cd, vs, f1.ext E, f2.ext E, f3.ext E, f4.ext E, r⟩
theorem own_Str.other (F : own_Str Z h x t cs) (W : Wr h h' a sl v) (n1 : x ≠ a) (n2 : t ≠ a) : own_Str Z h' x t cs := by obtain ⟨k, N, cd, vs, f1, f2, f3, f4, r⟩ := F; exact ⟨k, N, cd, vs, f1.wr W, f2.other W (Or.inl n1), f3.other W (Or.inl n1), f4.other W n2, r⟩
theorem own_Str.keep (F : own_Str Z h x t cs) (K : Keep h h' ws) (n1 : x ∉ ws) (n2 : t ∉ ws) : own_Str Z h' x t cs := by obtain ⟨k, N, cd, vs, f1, f2, f3, f4, r⟩ := F; exact ⟨k, N, cd, vs, f1.keep K, f2.keep K n1, f3.keep K n1, f4.keep K n2, r⟩
end OwnStr
theorem own_w {a0 : Array Value} {Z : State} {c : Jvm.Cond} (hw : ∀ d ∈ tables_1, d.before a0 Z = true) (i : Nat) (h : tables_1[i]? = some c) : c.before a0 Z = true := hw c (List.mem_of_getElem? h)
theorem own_s {args : Array Value} {s : State} {L : List Jvm.Cond} {c : Jvm.Cond} (hw : ∀ d ∈ L, d.before args s = true) (i : Nat) (h : L[i]? = some c) : c.value args s none s [] = some true := Cond.before_iff.mp (hw c (List.mem_of_getElem? h))
theorem own_m {α : Type} {L : List α} {c : α} (i : Nat) (h : L[i]? = some c) : c ∈ L := List.mem_of_getElem? h
theorem own_b8 {x : Int32} : x.toInt8.toInt32.toInt8.toInt32 = x.toInt8.toInt32 := by simp
theorem own_and255 (x : Int32) : ¬ (x &&& 255) < 0 ∧ ¬ (255 : Int32) < (x &&& 255) := by
  have t : ∀ k : Fin 256, ¬ (Int32.ofNat k.val) < 0 ∧ ¬ (255 : Int32) < Int32.ofNat k.val := by decide +kernel
  have h : (x &&& 255).toBitVec.toNat < 256 := by
    simp only [Int32.toBitVec_and, BitVec.toNat_and]
    exact Nat.lt_succ_of_le Nat.and_le_right
  have e : (x &&& 255) = Int32.ofNat (x &&& 255).toBitVec.toNat := by
    apply Int32.toBitVec_inj.mp
    show _ = BitVec.ofNat 32 _
    rw [BitVec.ofNat_toNat]; simp
  rw [e]
  exact t ⟨_, h⟩
theorem own_nar255 {x : Int32} : nar .char (x &&& 255) = x &&& 255 := i2c_mask x
theorem own_and_max (x : Int32) : 0 ≤ (x &&& 2147483647).toInt := by
  have e : (2147483647 : Int32).toBitVec.msb = false := by decide
  have h : (x &&& 2147483647).toBitVec.msb = false := by rw [Int32.toBitVec_and, BitVec.msb_and, e, Bool.and_false]
  have := BitVec.toInt_eq_toNat_of_msb h
  show 0 ≤ (x &&& 2147483647).toBitVec.toInt
  omega
theorem own_mod9 (x : Int32) : (x &&& 2147483647) % 9 = 0 ∨ (x &&& 2147483647) % 9 = 1 ∨ (x &&& 2147483647) % 9 = 2 ∨ (x &&& 2147483647) % 9 = 3 ∨ (x &&& 2147483647) % 9 = 4 ∨ (x &&& 2147483647) % 9 = 5 ∨ (x &&& 2147483647) % 9 = 6 ∨ (x &&& 2147483647) % 9 = 7 ∨ (x &&& 2147483647) % 9 = 8 := by
  have e : ((x &&& 2147483647) % 9).toInt = (x &&& 2147483647).toInt.tmod 9 := by rw [Int32.toInt_mod]; rfl
  have h0 := own_and_max x
  rw [Int.tmod_eq_emod_of_nonneg h0] at e
  simp only [← Int32.toInt_inj]
  have : (0 : Int32).toInt = 0 ∧ (1 : Int32).toInt = 1 ∧ (2 : Int32).toInt = 2 ∧ (3 : Int32).toInt = 3 ∧ (4 : Int32).toInt = 4 ∧ (5 : Int32).toInt = 5 ∧ (6 : Int32).toInt = 6 ∧ (7 : Int32).toInt = 7 ∧ (8 : Int32).toInt = 8 := by decide
  omega
theorem own_f1 {z : Int32} {PK PC : Prop} (hz : (z = 1 ∧ PK ∧ PC) ∨ (z = 0 ∧ ¬ (PK ∧ PC))) (h1 : PK) (h2 : PC) : z = 1 := hz.elim (fun q => q.1) (fun q => absurd ⟨h1, h2⟩ q.2)
theorem own_f0 {z : Int32} {PK PC : Prop} (hz : (z = 1 ∧ PK ∧ PC) ∨ (z = 0 ∧ ¬ (PK ∧ PC))) (h : ¬ (PK ∧ PC)) : z = 0 := hz.elim (fun q => absurd q.2 h) (fun q => q.1)
theorem own_fin256 {P : Int32 → Prop} (h : ∀ k : Fin 256, P (Int32.ofNat k.val)) {c : Int32} (hc : ¬ c < 0 ∧ ¬ (255 : Int32) < c) : P c := by
  have h1 : 0 ≤ c.toInt := by have := hc.1; rw [Int32.lt_iff_toInt_lt] at this; simpa using this
  have h2 : c.toInt ≤ 255 := by have := hc.2; rw [Int32.lt_iff_toInt_lt] at this; have e : (255 : Int32).toInt = 255 := rfl; omega
  have e : c = Int32.ofNat c.toInt.toNat := by
    apply Int32.toInt_inj.mp
    rw [Int32.toInt_ofNat_of_lt (by omega)]; omega
  rw [e]
  exact h ⟨c.toInt.toNat, by omega⟩
theorem own_narb {c : Int32} (hc : ¬ c < 0 ∧ ¬ (255 : Int32) < c) : nar .char c = c := own_fin256 (P := fun c => nar .char c = c) (by decide +kernel) hc
def own_mk (ln c0 c1 c2 : Int32) : List Int32 := if ln = 0 then [] else if ln = 1 then [c0] else if ln = 2 then [c0, c1] else [c0, c1, c2]
def own_same (l1 a0 a1 a2 l2 b0 b1 b2 : Int32) : Prop := l1 = l2 ∧ (l1 < 1 ∨ a0 = b0) ∧ (l1 < 2 ∨ a1 = b1) ∧ (l1 < 3 ∨ a2 = b2)
theorem own_mk_same {l1 a0 a1 a2 l2 b0 b1 b2 : Int32} (h1 : l1 = 0 ∨ l1 = 1 ∨ l1 = 2 ∨ l1 = 3) (h2 : l2 = 0 ∨ l2 = 1 ∨ l2 = 2 ∨ l2 = 3) : (own_mk l1 a0 a1 a2 = own_mk l2 b0 b1 b2) ↔ own_same l1 a0 a1 a2 l2 b0 b1 b2 := by
  rcases h1 with rfl | rfl | rfl | rfl <;> rcases h2 with rfl | rfl | rfl | rfl <;> simp [own_mk, own_same] <;> decide
theorem own_and3 (x : Int64) : (x &&& 3).toInt32 = 0 ∨ (x &&& 3).toInt32 = 1 ∨ (x &&& 3).toInt32 = 2 ∨ (x &&& 3).toInt32 = 3 := by
  have t : ∀ k : Fin 4, (Int64.ofNat k.val).toInt32 = 0 ∨ (Int64.ofNat k.val).toInt32 = 1 ∨ (Int64.ofNat k.val).toInt32 = 2 ∨ (Int64.ofNat k.val).toInt32 = 3 := by decide +kernel
  have h : (x &&& 3).toBitVec.toNat < 4 := by
    simp only [Int64.toBitVec_and, BitVec.toNat_and]
    exact Nat.lt_succ_of_le Nat.and_le_right
  have e : (x &&& 3) = Int64.ofNat (x &&& 3).toBitVec.toNat := by
    apply Int64.toBitVec_inj.mp
    show _ = BitVec.ofNat 64 _
    rw [BitVec.ofNat_toNat]; simp
  rw [e]
  exact t ⟨_, h⟩
theorem own_ch255 (x : Int64) : ¬ (x &&& 255).toInt32.toUInt32.toUInt16.toUInt32.toInt32 < 0 ∧ ¬ (255 : Int32) < (x &&& 255).toInt32.toUInt32.toUInt16.toUInt32.toInt32 := by
  have t : ∀ k : Fin 256, ¬ (Int64.ofNat k.val).toInt32.toUInt32.toUInt16.toUInt32.toInt32 < 0 ∧ ¬ (255 : Int32) < (Int64.ofNat k.val).toInt32.toUInt32.toUInt16.toUInt32.toInt32 := by decide +kernel
  have h : (x &&& 255).toBitVec.toNat < 256 := by
    simp only [Int64.toBitVec_and, BitVec.toNat_and]
    exact Nat.lt_succ_of_le Nat.and_le_right
  have e : (x &&& 255) = Int64.ofNat (x &&& 255).toBitVec.toNat := by
    apply Int64.toBitVec_inj.mp
    show _ = BitVec.ofNat 64 _
    rw [BitVec.ofNat_toNat]; simp
  rw [e]
  exact t ⟨_, h⟩
theorem own_ch16 (x : Int32) : ¬ x.toUInt32.toUInt16.toUInt32.toInt32 < 0 ∧ ¬ (65535 : Int32) < x.toUInt32.toUInt16.toUInt32.toInt32 := by
  have hn : (x.toUInt32.toUInt16.toUInt32.toInt32).toBitVec.toNat < 65536 := by
    show BitVec.toNat ((x.toBitVec.setWidth 16).setWidth 32) < 65536
    rw [BitVec.toNat_setWidth, BitVec.toNat_setWidth]
    omega
  generalize x.toUInt32.toUInt16.toUInt32.toInt32 = c at hn
  have hc : c.toInt = c.toBitVec.toNat := by
    have e : c.toInt = c.toBitVec.toInt := rfl
    rw [e, BitVec.toInt_eq_toNat_cond]
    split <;> omega
  rw [Int32.lt_iff_toInt_lt, Int32.lt_iff_toInt_lt]
  have e0 : (0 : Int32).toInt = 0 := rfl
  have e1 : (65535 : Int32).toInt = 65535 := rfl
  omega
theorem own_narch {c : Int32} (h : ¬ c < 0 ∧ ¬ (65535 : Int32) < c) : nar .char c = c := Value.int.inj (show Value.int (nar .char c) = .int c from StrChars.narrow_ch h.1 h.2)
theorem own_refcat {v : Value} (h : v.isRef = true) : v.category = 1 := by cases v <;> first | rfl | simp [Value.isRef] at h
def own_hex (c : Int32) : Prop := (¬ c < 48 ∧ ¬ (57 : Int32) < c) ∨ (¬ c < 97 ∧ ¬ (102 : Int32) < c) ∨ (¬ c < 65 ∧ ¬ (70 : Int32) < c)
instance (c : Int32) : Decidable (own_hex c) := by unfold own_hex; infer_instance
def own_digs : List Int32 := [-1, -1, -1, -1, -1, -1, -1, -1, -1, -1, -1, -1, -1, -1, -1, -1, -1, -1, -1, -1, -1, -1, -1, -1, -1, -1, -1, -1, -1, -1, -1, -1, -1, -1, -1, -1, -1, -1, -1, -1, -1, -1, -1, -1, -1, -1, -1, -1, 0, 1, 2, 3, 4, 5, 6, 7, 8, 9, -1, -1, -1, -1, -1, -1, -1, 10, 11, 12, 13, 14, 15, -1, -1, -1, -1, -1, -1, -1, -1, -1, -1, -1, -1, -1, -1, -1, -1, -1, -1, -1, -1, -1, -1, -1, -1, -1, -1, 10, 11, 12, 13, 14, 15, -1, -1, -1, -1, -1, -1, -1, -1, -1, -1, -1, -1, -1, -1, -1, -1, -1, -1, -1, -1, -1, -1, -1, -1, -1, -1, -1, -1, -1, -1, -1, -1, -1, -1, -1, -1, -1, -1, -1, -1, -1, -1, -1, -1, -1, -1, -1, -1, -1, -1, -1, -1, -1, -1, -1, -1, -1, -1, -1, -1, -1, -1, -1, -1, -1, -1, -1, -1, -1, -1, -1, -1, -1, -1, -1, -1, -1, -1, -1, -1, -1, -1, -1, -1, -1, -1, -1, -1, -1, -1, -1, -1, -1, -1, -1, -1, -1, -1, -1, -1, -1, -1, -1, -1, -1, -1, -1, -1, -1, -1, -1, -1, -1, -1, -1, -1, -1, -1, -1, -1, -1, -1, -1, -1, -1, -1, -1, -1, -1, -1, -1, -1, -1, -1, -1, -1, -1, -1, -1, -1, -1, -1, -1, -1, -1, -1, -1, -1, -1, -1, -1, -1, -1]
def own_dvs : List Value := own_digs.map Value.int
def own_dig (c : Int32) : Int32 := own_digs.getD c.toNatClampNeg 0
theorem own_dgv (c : Int32) : own_dvs.getD c.toNatClampNeg (.int (0 : Int32)) = .int (own_dig c) := by
  rw [own_dvs, own_dig, List.getD_eq_getElem?_getD, List.getD_eq_getElem?_getD, List.getElem?_map]
  cases own_digs[c.toNatClampNeg]? <;> rfl
theorem own_dec {c : Int32} (hc : ¬ c < 0 ∧ ¬ (255 : Int32) < c) : own_dig c < 0 ↔ ¬ own_hex c := own_fin256 (P := fun c => own_dig c < 0 ↔ ¬ own_hex c) (by decide +kernel) hc
theorem own_hex8 {c : Int32} (h : own_hex c) : (c.toUInt32 >>> ((8 : Int32) &&& 31).toUInt32).toInt32 = (0 : Int32) := by
  have hc : ¬ c < 0 ∧ ¬ (255 : Int32) < c := by
    simp only [own_hex, Int32.lt_iff_toInt_lt] at h ⊢
    have e : (48 : Int32).toInt = 48 ∧ (57 : Int32).toInt = 57 ∧ (97 : Int32).toInt = 97 ∧ (102 : Int32).toInt = 102 ∧ (65 : Int32).toInt = 65 ∧ (70 : Int32).toInt = 70 ∧ (0 : Int32).toInt = 0 ∧ (255 : Int32).toInt = 255 := by decide
    omega
  exact own_fin256 (P := fun c => (c.toUInt32 >>> ((8 : Int32) &&& 31).toUInt32).toInt32 = (0 : Int32)) (by decide +kernel) hc
theorem own_sm {c : Int32} (h0 : ¬ c < 0) (h : (c.toUInt32 >>> ((8 : Int32) &&& 31).toUInt32).toInt32 = (0 : Int32)) : ¬ (255 : Int32) < c := by
  have q : (c.toUInt32 >>> ((8 : Int32) &&& 31).toUInt32).toNat = 0 := by
    exact congrArg (fun z : Int32 => z.toUInt32.toNat) h
  have e : ((8 : Int32) &&& 31).toUInt32 = 8 := by decide
  rw [e, UInt32.toNat_shiftRight] at q
  have e8 : (8 : UInt32).toNat % 32 = 8 := by decide
  rw [e8, Nat.shiftRight_eq_div_pow] at q
  have hn : c.toUInt32.toNat < 256 := by omega
  have hn' : c.toBitVec.toNat < 256 := hn
  have hc : c.toInt = c.toBitVec.toNat := by
    have e : c.toInt = c.toBitVec.toInt := rfl
    rw [e, BitVec.toInt_eq_toNat_cond]
    split <;> omega
  rw [Int32.lt_iff_toInt_lt]
  have e1 : (255 : Int32).toInt = 255 := rfl
  omega
theorem own_inb {c : Int32} (h0 : ¬ c < 0) (h : (c.toUInt32 >>> ((8 : Int32) &&& 31).toUInt32).toInt32 = (0 : Int32)) : ¬ c < 0 ∧ c < (256 : Int32) := by
  refine ⟨h0, ?_⟩
  have q := own_sm h0 h
  rw [Int32.lt_iff_toInt_lt] at q ⊢
  have e1 : (255 : Int32).toInt = 255 := rfl
  have e2 : (256 : Int32).toInt = 256 := rfl
  omega
theorem own_take {cs ds : List Int32} {P : Int32 → Prop} (n : Nat) (h : ∀ c ∈ cs, P c) (e : ds = cs.take n := by rfl) : ∀ c ∈ ds, P c := fun c hc => h c (List.mem_of_mem_take (e ▸ hc))
theorem own_and3i (x : Int32) : (x &&& (3 : Int32)) = 0 ∨ (x &&& (3 : Int32)) = 1 ∨ (x &&& (3 : Int32)) = 2 ∨ (x &&& (3 : Int32)) = 3 := by
  have t : ∀ k : Fin 4, Int32.ofNat k.val = 0 ∨ Int32.ofNat k.val = 1 ∨ Int32.ofNat k.val = 2 ∨ Int32.ofNat k.val = 3 := by decide +kernel
  have h : (x &&& 3).toBitVec.toNat < 4 := by
    simp only [Int32.toBitVec_and, BitVec.toNat_and]
    exact Nat.lt_succ_of_le Nat.and_le_right
  have e : (x &&& 3) = Int32.ofNat (x &&& 3).toBitVec.toNat := by
    apply Int32.toBitVec_inj.mp
    show _ = BitVec.ofNat 32 _
    rw [BitVec.ofNat_toNat]; simp
  rw [e]
  exact t ⟨_, h⟩
theorem own_mod1 (x : Int32) : (x &&& (2147483647 : Int32)) % (1 : Int32) = 0 := by
  have e : ((x &&& 2147483647) % 1).toInt = (x &&& 2147483647).toInt.tmod 1 := by rw [Int32.toInt_mod]; rfl
  have h0 := own_and_max x
  rw [Int.tmod_eq_emod_of_nonneg h0] at e
  simp only [← Int32.toInt_inj]
  have : (0 : Int32).toInt = 0 ∧ (1 : Int32).toInt = 1 ∧ (2 : Int32).toInt = 2 ∧ (3 : Int32).toInt = 3 := by decide
  omega
theorem own_mod2 (x : Int32) : (x &&& (2147483647 : Int32)) % (2 : Int32) = 0 ∨ (x &&& (2147483647 : Int32)) % (2 : Int32) = 1 := by
  have e : ((x &&& 2147483647) % 2).toInt = (x &&& 2147483647).toInt.tmod 2 := by rw [Int32.toInt_mod]; rfl
  have h0 := own_and_max x
  rw [Int.tmod_eq_emod_of_nonneg h0] at e
  simp only [← Int32.toInt_inj]
  have : (0 : Int32).toInt = 0 ∧ (1 : Int32).toInt = 1 ∧ (2 : Int32).toInt = 2 ∧ (3 : Int32).toInt = 3 := by decide
  omega
theorem own_mod3 (x : Int32) : (x &&& (2147483647 : Int32)) % (3 : Int32) = 0 ∨ (x &&& (2147483647 : Int32)) % (3 : Int32) = 1 ∨ (x &&& (2147483647 : Int32)) % (3 : Int32) = 2 := by
  have e : ((x &&& 2147483647) % 3).toInt = (x &&& 2147483647).toInt.tmod 3 := by rw [Int32.toInt_mod]; rfl
  have h0 := own_and_max x
  rw [Int.tmod_eq_emod_of_nonneg h0] at e
  simp only [← Int32.toInt_inj]
  have : (0 : Int32).toInt = 0 ∧ (1 : Int32).toInt = 1 ∧ (2 : Int32).toInt = 2 ∧ (3 : Int32).toInt = 3 := by decide
  omega
theorem own_mod4 (x : Int32) : (x &&& (2147483647 : Int32)) % (4 : Int32) = 0 ∨ (x &&& (2147483647 : Int32)) % (4 : Int32) = 1 ∨ (x &&& (2147483647 : Int32)) % (4 : Int32) = 2 ∨ (x &&& (2147483647 : Int32)) % (4 : Int32) = 3 := by
  have e : ((x &&& 2147483647) % 4).toInt = (x &&& 2147483647).toInt.tmod 4 := by rw [Int32.toInt_mod]; rfl
  have h0 := own_and_max x
  rw [Int.tmod_eq_emod_of_nonneg h0] at e
  simp only [← Int32.toInt_inj]
  have : (0 : Int32).toInt = 0 ∧ (1 : Int32).toInt = 1 ∧ (2 : Int32).toInt = 2 ∧ (3 : Int32).toInt = 3 := by decide
  omega
theorem pn_0 : plainName "java/lang/StringUTF16" = true := by first | (simp [plainName, overriddenIn]; done) | decide +kernel
theorem d16_0 : decode jdk_52_method_3_code 0 = .ok (.iload_n 0, 1) := by decide +kernel
theorem d16_1 : decode jdk_52_method_3_code 1 = .ok (.ifCond .ge 11, 3) := by decide +kernel
theorem d16_12 : decode jdk_52_method_3_code 12 = .ok (.iload_n 0, 1) := by decide +kernel
theorem d16_13 : decode jdk_52_method_3_code 13 = .ok (.ldc 20, 2) := by decide +kernel
theorem d16_15 : decode jdk_52_method_3_code 15 = .ok (.if_icmp .lt 40, 3) := by decide +kernel
theorem d16_55 : decode jdk_52_method_3_code 55 = .ok (.iload_n 0, 1) := by decide +kernel
theorem d16_56 : decode jdk_52_method_3_code 56 = .ok (.iconst 1, 1) := by decide +kernel
theorem d16_57 : decode jdk_52_method_3_code 57 = .ok (.ishl, 1) := by decide +kernel
theorem d16_58 : decode jdk_52_method_3_code 58 = .ok (.ireturn, 1) := by decide +kernel
theorem d15_0 : decode jdk_52_method_2_code 0 = .ok (.iload_n 0, 1) := by decide +kernel
theorem d15_1 : decode jdk_52_method_2_code 1 = .ok (.invokestatic 11, 3) := by decide +kernel
theorem pd_1 : parseMethodDescriptor "(I)I" = some ⟨[.int], some .int⟩ := by decide +kernel
theorem d15_4 : decode jdk_52_method_2_code 4 = .ok (.newarray .byte, 2) := by decide +kernel
theorem d15_6 : decode jdk_52_method_2_code 6 = .ok (.areturn, 1) := by decide +kernel
theorem d17_0 : decode jdk_52_method_4_code 0 = .ok (.getstatic 44, 3) := by decide +kernel
theorem d17_3 : decode jdk_52_method_4_code 3 = .ok (.ifCond .ne 25, 3) := by decide +kernel
theorem d17_28 : decode jdk_52_method_4_code 28 = .ok (.iload_n 1, 1) := by decide +kernel
theorem d17_29 : decode jdk_52_method_4_code 29 = .ok (.iconst 1, 1) := by decide +kernel
theorem d17_30 : decode jdk_52_method_4_code 30 = .ok (.ishl, 1) := by decide +kernel
theorem d17_31 : decode jdk_52_method_4_code 31 = .ok (.istore_n 1, 1) := by decide +kernel
theorem d17_32 : decode jdk_52_method_4_code 32 = .ok (.aload_n 0, 1) := by decide +kernel
theorem d17_33 : decode jdk_52_method_4_code 33 = .ok (.iload_n 1, 1) := by decide +kernel
theorem d17_34 : decode jdk_52_method_4_code 34 = .ok (.iinc 1 1, 3) := by decide +kernel
theorem d17_37 : decode jdk_52_method_4_code 37 = .ok (.iload_n 2, 1) := by decide +kernel
theorem d17_38 : decode jdk_52_method_4_code 38 = .ok (.getstatic 59, 3) := by decide +kernel
theorem d17_41 : decode jdk_52_method_4_code 41 = .ok (.ishr, 1) := by decide +kernel
theorem d17_42 : decode jdk_52_method_4_code 42 = .ok (.i2b, 1) := by decide +kernel
theorem d17_43 : decode jdk_52_method_4_code 43 = .ok (.bastore, 1) := by decide +kernel
theorem d17_44 : decode jdk_52_method_4_code 44 = .ok (.aload_n 0, 1) := by decide +kernel
theorem d17_45 : decode jdk_52_method_4_code 45 = .ok (.iload_n 1, 1) := by decide +kernel
theorem d17_46 : decode jdk_52_method_4_code 46 = .ok (.iload_n 2, 1) := by decide +kernel
theorem d17_47 : decode jdk_52_method_4_code 47 = .ok (.getstatic 63, 3) := by decide +kernel
theorem d17_50 : decode jdk_52_method_4_code 50 = .ok (.ishr, 1) := by decide +kernel
theorem d17_51 : decode jdk_52_method_4_code 51 = .ok (.i2b, 1) := by decide +kernel
theorem d17_52 : decode jdk_52_method_4_code 52 = .ok (.bastore, 1) := by decide +kernel
theorem d17_53 : decode jdk_52_method_4_code 53 = .ok (.return_, 1) := by decide +kernel
theorem d18_0 : decode jdk_52_method_5_code 0 = .ok (.getstatic 44, 3) := by decide +kernel
theorem d18_3 : decode jdk_52_method_5_code 3 = .ok (.ifCond .ne 25, 3) := by decide +kernel
theorem d18_28 : decode jdk_52_method_5_code 28 = .ok (.iload_n 1, 1) := by decide +kernel
theorem d18_29 : decode jdk_52_method_5_code 29 = .ok (.iconst 1, 1) := by decide +kernel
theorem d18_30 : decode jdk_52_method_5_code 30 = .ok (.ishl, 1) := by decide +kernel
theorem d18_31 : decode jdk_52_method_5_code 31 = .ok (.istore_n 1, 1) := by decide +kernel
theorem d18_32 : decode jdk_52_method_5_code 32 = .ok (.aload_n 0, 1) := by decide +kernel
theorem d18_33 : decode jdk_52_method_5_code 33 = .ok (.iload_n 1, 1) := by decide +kernel
theorem d18_34 : decode jdk_52_method_5_code 34 = .ok (.iinc 1 1, 3) := by decide +kernel
theorem d18_37 : decode jdk_52_method_5_code 37 = .ok (.baload, 1) := by decide +kernel
theorem d18_38 : decode jdk_52_method_5_code 38 = .ok (.sipush 255, 3) := by decide +kernel
theorem d18_41 : decode jdk_52_method_5_code 41 = .ok (.iand, 1) := by decide +kernel
theorem d18_42 : decode jdk_52_method_5_code 42 = .ok (.getstatic 59, 3) := by decide +kernel
theorem d18_45 : decode jdk_52_method_5_code 45 = .ok (.ishl, 1) := by decide +kernel
theorem d18_46 : decode jdk_52_method_5_code 46 = .ok (.aload_n 0, 1) := by decide +kernel
theorem d18_47 : decode jdk_52_method_5_code 47 = .ok (.iload_n 1, 1) := by decide +kernel
theorem d18_48 : decode jdk_52_method_5_code 48 = .ok (.baload, 1) := by decide +kernel
theorem d18_49 : decode jdk_52_method_5_code 49 = .ok (.sipush 255, 3) := by decide +kernel
theorem d18_52 : decode jdk_52_method_5_code 52 = .ok (.iand, 1) := by decide +kernel
theorem d18_53 : decode jdk_52_method_5_code 53 = .ok (.getstatic 63, 3) := by decide +kernel
theorem d18_56 : decode jdk_52_method_5_code 56 = .ok (.ishl, 1) := by decide +kernel
theorem d18_57 : decode jdk_52_method_5_code 57 = .ok (.ior, 1) := by decide +kernel
theorem d18_58 : decode jdk_52_method_5_code 58 = .ok (.i2c, 1) := by decide +kernel
theorem d18_59 : decode jdk_52_method_5_code 59 = .ok (.ireturn, 1) := by decide +kernel
theorem d14_0 : decode jdk_52_method_14_code 0 = .ok (.iload_n 2, 1) := by decide +kernel
theorem d14_1 : decode jdk_52_method_14_code 1 = .ok (.invokestatic 107, 3) := by decide +kernel
theorem pd_2 : parseMethodDescriptor "(I)[B" = some ⟨[.int], some (.array .byte)⟩ := by decide +kernel
theorem d14_4 : decode jdk_52_method_14_code 4 = .ok (.astore_n 3, 1) := by decide +kernel
theorem d14_5 : decode jdk_52_method_14_code 5 = .ok (.iconst 0, 1) := by decide +kernel
theorem d14_6 : decode jdk_52_method_14_code 6 = .ok (.istore 4, 2) := by decide +kernel
theorem d14_8 : decode jdk_52_method_14_code 8 = .ok (.iload 4, 2) := by decide +kernel
theorem d14_10 : decode jdk_52_method_14_code 10 = .ok (.iload_n 2, 1) := by decide +kernel
theorem d14_11 : decode jdk_52_method_14_code 11 = .ok (.if_icmp .ge 21, 3) := by decide +kernel
theorem d14_14 : decode jdk_52_method_14_code 14 = .ok (.aload_n 3, 1) := by decide +kernel
theorem d14_15 : decode jdk_52_method_14_code 15 = .ok (.iload 4, 2) := by decide +kernel
theorem d14_17 : decode jdk_52_method_14_code 17 = .ok (.aload_n 0, 1) := by decide +kernel
theorem d14_18 : decode jdk_52_method_14_code 18 = .ok (.iload_n 1, 1) := by decide +kernel
theorem d14_19 : decode jdk_52_method_14_code 19 = .ok (.caload, 1) := by decide +kernel
theorem d14_20 : decode jdk_52_method_14_code 20 = .ok (.invokestatic 111, 3) := by decide +kernel
theorem pd_3 : parseMethodDescriptor "([BII)V" = some ⟨[(.array .byte), .int, .int], none⟩ := by decide +kernel
theorem d14_23 : decode jdk_52_method_14_code 23 = .ok (.iinc 1 1, 3) := by decide +kernel
theorem d14_26 : decode jdk_52_method_14_code 26 = .ok (.iinc 4 1, 3) := by decide +kernel
theorem d14_29 : decode jdk_52_method_14_code 29 = .ok (.goto (-21), 3) := by decide +kernel
theorem d14_32 : decode jdk_52_method_14_code 32 = .ok (.aload_n 3, 1) := by decide +kernel
theorem d14_33 : decode jdk_52_method_14_code 33 = .ok (.areturn, 1) := by decide +kernel
theorem d6_0 : decode jdk_52_method_21_code 0 = .ok (.iconst 0, 1) := by decide +kernel
theorem d6_1 : decode jdk_52_method_21_code 1 = .ok (.istore 5, 2) := by decide +kernel
theorem d6_3 : decode jdk_52_method_21_code 3 = .ok (.iload 5, 2) := by decide +kernel
theorem d6_5 : decode jdk_52_method_21_code 5 = .ok (.iload 4, 2) := by decide +kernel
theorem d6_7 : decode jdk_52_method_21_code 7 = .ok (.if_icmp .ge 37, 3) := by decide +kernel
theorem d6_10 : decode jdk_52_method_21_code 10 = .ok (.aload_n 0, 1) := by decide +kernel
theorem d6_11 : decode jdk_52_method_21_code 11 = .ok (.iload_n 1, 1) := by decide +kernel
theorem d6_12 : decode jdk_52_method_21_code 12 = .ok (.caload, 1) := by decide +kernel
theorem d6_13 : decode jdk_52_method_21_code 13 = .ok (.istore 6, 2) := by decide +kernel
theorem d6_15 : decode jdk_52_method_21_code 15 = .ok (.iload 6, 2) := by decide +kernel
theorem d6_17 : decode jdk_52_method_21_code 17 = .ok (.sipush 255, 3) := by decide +kernel
theorem d6_20 : decode jdk_52_method_21_code 20 = .ok (.if_icmp .le 6, 3) := by decide +kernel
theorem d6_23 : decode jdk_52_method_21_code 23 = .ok (.iload 5, 2) := by decide +kernel
theorem d6_25 : decode jdk_52_method_21_code 25 = .ok (.ireturn, 1) := by decide +kernel
theorem d6_26 : decode jdk_52_method_21_code 26 = .ok (.aload_n 2, 1) := by decide +kernel
theorem d6_27 : decode jdk_52_method_21_code 27 = .ok (.iload_n 3, 1) := by decide +kernel
theorem d6_28 : decode jdk_52_method_21_code 28 = .ok (.iload 6, 2) := by decide +kernel
theorem d6_30 : decode jdk_52_method_21_code 30 = .ok (.i2b, 1) := by decide +kernel
theorem d6_31 : decode jdk_52_method_21_code 31 = .ok (.bastore, 1) := by decide +kernel
theorem d6_32 : decode jdk_52_method_21_code 32 = .ok (.iinc 1 1, 3) := by decide +kernel
theorem d6_35 : decode jdk_52_method_21_code 35 = .ok (.iinc 3 1, 3) := by decide +kernel
theorem d6_38 : decode jdk_52_method_21_code 38 = .ok (.iinc 5 1, 3) := by decide +kernel
theorem d6_41 : decode jdk_52_method_21_code 41 = .ok (.goto (-38), 3) := by decide +kernel
theorem d6_44 : decode jdk_52_method_21_code 44 = .ok (.iload 4, 2) := by decide +kernel
theorem d6_46 : decode jdk_52_method_21_code 46 = .ok (.ireturn, 1) := by decide +kernel
theorem d5_0 : decode jdk_52_method_16_code 0 = .ok (.iload_n 2, 1) := by decide +kernel
theorem d5_1 : decode jdk_52_method_16_code 1 = .ok (.newarray .byte, 2) := by decide +kernel
theorem d5_3 : decode jdk_52_method_16_code 3 = .ok (.astore_n 3, 1) := by decide +kernel
theorem d5_4 : decode jdk_52_method_16_code 4 = .ok (.aload_n 0, 1) := by decide +kernel
theorem d5_5 : decode jdk_52_method_16_code 5 = .ok (.iload_n 1, 1) := by decide +kernel
theorem d5_6 : decode jdk_52_method_16_code 6 = .ok (.aload_n 3, 1) := by decide +kernel
theorem d5_7 : decode jdk_52_method_16_code 7 = .ok (.iconst 0, 1) := by decide +kernel
theorem d5_8 : decode jdk_52_method_16_code 8 = .ok (.iload_n 2, 1) := by decide +kernel
theorem d5_9 : decode jdk_52_method_16_code 9 = .ok (.invokestatic 115, 3) := by decide +kernel
theorem pd_4 : parseMethodDescriptor "([CI[BII)I" = some ⟨[(.array .char), .int, (.array .byte), .int, .int], some .int⟩ := by decide +kernel
theorem d5_12 : decode jdk_52_method_16_code 12 = .ok (.istore 4, 2) := by decide +kernel
theorem d5_14 : decode jdk_52_method_16_code 14 = .ok (.iload 4, 2) := by decide +kernel
theorem d5_16 : decode jdk_52_method_16_code 16 = .ok (.iload_n 2, 1) := by decide +kernel
theorem d5_17 : decode jdk_52_method_16_code 17 = .ok (.if_icmp .eq 40, 3) := by decide +kernel
theorem d5_20 : decode jdk_52_method_16_code 20 = .ok (.aload_n 0, 1) := by decide +kernel
theorem d5_21 : decode jdk_52_method_16_code 21 = .ok (.iload_n 1, 1) := by decide +kernel
theorem d5_22 : decode jdk_52_method_16_code 22 = .ok (.iload_n 2, 1) := by decide +kernel
theorem d5_23 : decode jdk_52_method_16_code 23 = .ok (.invokestatic 119, 3) := by decide +kernel
theorem pd_5 : parseMethodDescriptor "([CII)[B" = some ⟨[(.array .char), .int, .int], some (.array .byte)⟩ := by decide +kernel
theorem d5_26 : decode jdk_52_method_16_code 26 = .ok (.astore 5, 2) := by decide +kernel
theorem d5_28 : decode jdk_52_method_16_code 28 = .ok (.aload 5, 2) := by decide +kernel
theorem d5_30 : decode jdk_52_method_16_code 30 = .ok (.iload 4, 2) := by decide +kernel
theorem d5_32 : decode jdk_52_method_16_code 32 = .ok (.invokestatic 71, 3) := by decide +kernel
theorem pd_6 : parseMethodDescriptor "([BI)C" = some ⟨[(.array .byte), .int], some .char⟩ := by decide +kernel
theorem d5_35 : decode jdk_52_method_16_code 35 = .ok (.sipush 255, 3) := by decide +kernel
theorem d5_38 : decode jdk_52_method_16_code 38 = .ok (.if_icmp .gt 16, 3) := by decide +kernel
theorem d5_54 : decode jdk_52_method_16_code 54 = .ok (.aload 5, 2) := by decide +kernel
theorem d5_56 : decode jdk_52_method_16_code 56 = .ok (.areturn, 1) := by decide +kernel
theorem d5_57 : decode jdk_52_method_16_code 57 = .ok (.aload_n 3, 1) := by decide +kernel
theorem d5_58 : decode jdk_52_method_16_code 58 = .ok (.areturn, 1) := by decide +kernel
theorem d7_0 : decode jdk_52_method_15_code 0 = .ok (.iload_n 1, 1) := by decide +kernel
theorem d7_1 : decode jdk_52_method_15_code 1 = .ok (.aload_n 0, 1) := by decide +kernel
theorem d7_2 : decode jdk_52_method_15_code 2 = .ok (.arraylength, 1) := by decide +kernel
theorem d7_3 : decode jdk_52_method_15_code 3 = .ok (.isub, 1) := by decide +kernel
theorem d7_4 : decode jdk_52_method_15_code 4 = .ok (.bipush 31, 2) := by decide +kernel
theorem d7_6 : decode jdk_52_method_15_code 6 = .ok (.iushr, 1) := by decide +kernel
theorem d7_7 : decode jdk_52_method_15_code 7 = .ok (.i2b, 1) := by decide +kernel
theorem d7_8 : decode jdk_52_method_15_code 8 = .ok (.ireturn, 1) := by decide +kernel
theorem pn_7 : plainName "java/lang/String" = true := by first | (simp [plainName, overriddenIn]; done) | decide +kernel
theorem d3_0 : decode jdk_42_method_149_code 0 = .ok (.aload_n 0, 1) := by decide +kernel
theorem d3_1 : decode jdk_42_method_149_code 1 = .ok (.invokespecial 1, 3) := by decide +kernel
theorem d3_4 : decode jdk_42_method_149_code 4 = .ok (.iload_n 3, 1) := by decide +kernel
theorem d3_5 : decode jdk_42_method_149_code 5 = .ok (.ifCond .ne 22, 3) := by decide +kernel
theorem d3_27 : decode jdk_42_method_149_code 27 = .ok (.getstatic 38, 3) := by decide +kernel
theorem d3_30 : decode jdk_42_method_149_code 30 = .ok (.ifCond .eq 28, 3) := by decide +kernel
theorem d3_33 : decode jdk_42_method_149_code 33 = .ok (.aload_n 1, 1) := by decide +kernel
theorem d3_34 : decode jdk_42_method_149_code 34 = .ok (.iload_n 2, 1) := by decide +kernel
theorem d3_35 : decode jdk_42_method_149_code 35 = .ok (.iload_n 3, 1) := by decide +kernel
theorem d3_36 : decode jdk_42_method_149_code 36 = .ok (.invokestatic 177, 3) := by decide +kernel
theorem d3_39 : decode jdk_42_method_149_code 39 = .ok (.astore 5, 2) := by decide +kernel
theorem d3_41 : decode jdk_42_method_149_code 41 = .ok (.aload_n 0, 1) := by decide +kernel
theorem d3_42 : decode jdk_42_method_149_code 42 = .ok (.aload 5, 2) := by decide +kernel
theorem d3_44 : decode jdk_42_method_149_code 44 = .ok (.iload_n 3, 1) := by decide +kernel
theorem d3_45 : decode jdk_42_method_149_code 45 = .ok (.invokestatic 47, 3) := by decide +kernel
theorem pd_8 : parseMethodDescriptor "([BI)B" = some ⟨[(.array .byte), .int], some .byte⟩ := by decide +kernel
theorem d3_48 : decode jdk_42_method_149_code 48 = .ok (.putfield 15, 3) := by decide +kernel
theorem d3_51 : decode jdk_42_method_149_code 51 = .ok (.aload_n 0, 1) := by decide +kernel
theorem d3_52 : decode jdk_42_method_149_code 52 = .ok (.aload 5, 2) := by decide +kernel
theorem d3_54 : decode jdk_42_method_149_code 54 = .ok (.putfield 9, 3) := by decide +kernel
theorem d3_57 : decode jdk_42_method_149_code 57 = .ok (.return_, 1) := by decide +kernel
theorem d2_0 : decode jdk_42_method_3_code 0 = .ok (.aload_n 0, 1) := by decide +kernel
theorem d2_1 : decode jdk_42_method_3_code 1 = .ok (.aload_n 1, 1) := by decide +kernel
theorem d2_2 : decode jdk_42_method_3_code 2 = .ok (.iconst 0, 1) := by decide +kernel
theorem d2_3 : decode jdk_42_method_3_code 3 = .ok (.aload_n 1, 1) := by decide +kernel
theorem d2_4 : decode jdk_42_method_3_code 4 = .ok (.arraylength, 1) := by decide +kernel
theorem d2_5 : decode jdk_42_method_3_code 5 = .ok (.aconst_null, 1) := by decide +kernel
theorem d2_6 : decode jdk_42_method_3_code 6 = .ok (.invokespecial 27, 3) := by decide +kernel
theorem pd_9 : parseMethodDescriptor "([CIILjava/lang/Void;)V" = some ⟨[(.array .char), .int, .int, (.object "java/lang/Void")], none⟩ := by decide +kernel
theorem d2_9 : decode jdk_42_method_3_code 9 = .ok (.return_, 1) := by decide +kernel
theorem pn_10 : plainName "jdk/internal/util/Preconditions" = true := by first | (simp [plainName, overriddenIn]; done) | decide +kernel
theorem d13_0 : decode jdk_41_method_11_code 0 = .ok (.iload_n 0, 1) := by decide +kernel
theorem d13_1 : decode jdk_41_method_11_code 1 = .ok (.ifCond .lt 8, 3) := by decide +kernel
theorem d13_4 : decode jdk_41_method_11_code 4 = .ok (.iload_n 0, 1) := by decide +kernel
theorem d13_5 : decode jdk_41_method_11_code 5 = .ok (.iload_n 1, 1) := by decide +kernel
theorem d13_6 : decode jdk_41_method_11_code 6 = .ok (.if_icmp .lt 10, 3) := by decide +kernel
theorem d13_16 : decode jdk_41_method_11_code 16 = .ok (.iload_n 0, 1) := by decide +kernel
theorem d13_17 : decode jdk_41_method_11_code 17 = .ok (.ireturn, 1) := by decide +kernel
theorem d12_0 : decode jdk_42_method_155_code 0 = .ok (.iload_n 0, 1) := by decide +kernel
theorem d12_1 : decode jdk_42_method_155_code 1 = .ok (.iload_n 1, 1) := by decide +kernel
theorem d12_2 : decode jdk_42_method_155_code 2 = .ok (.getstatic 1053, 3) := by decide +kernel
theorem d12_5 : decode jdk_42_method_155_code 5 = .ok (.invokestatic 1059, 3) := by decide +kernel
theorem pd_11 : parseMethodDescriptor "(IILjava/util/function/BiFunction;)I" = some ⟨[.int, .int, (.object "java/util/function/BiFunction")], some .int⟩ := by decide +kernel
theorem d12_8 : decode jdk_42_method_155_code 8 = .ok (.pop, 1) := by decide +kernel
theorem d12_9 : decode jdk_42_method_155_code 9 = .ok (.return_, 1) := by decide +kernel
theorem d21_0 : decode jdk_52_method_6_code 0 = .ok (.aload_n 0, 1) := by decide +kernel
theorem d21_1 : decode jdk_52_method_6_code 1 = .ok (.arraylength, 1) := by decide +kernel
theorem d21_2 : decode jdk_52_method_6_code 2 = .ok (.iconst 1, 1) := by decide +kernel
theorem d21_3 : decode jdk_52_method_6_code 3 = .ok (.ishr, 1) := by decide +kernel
theorem d21_4 : decode jdk_52_method_6_code 4 = .ok (.ireturn, 1) := by decide +kernel
theorem d20_0 : decode jdk_52_method_91_code 0 = .ok (.iload_n 0, 1) := by decide +kernel
theorem d20_1 : decode jdk_52_method_91_code 1 = .ok (.aload_n 1, 1) := by decide +kernel
theorem d20_2 : decode jdk_52_method_91_code 2 = .ok (.invokestatic 48, 3) := by decide +kernel
theorem pd_12 : parseMethodDescriptor "([B)I" = some ⟨[(.array .byte)], some .int⟩ := by decide +kernel
theorem d20_5 : decode jdk_52_method_91_code 5 = .ok (.invokestatic 414, 3) := by decide +kernel
theorem pd_13 : parseMethodDescriptor "(II)V" = some ⟨[.int, .int], none⟩ := by decide +kernel
theorem d20_8 : decode jdk_52_method_91_code 8 = .ok (.return_, 1) := by decide +kernel
theorem d19_0 : decode jdk_52_method_83_code 0 = .ok (.iload_n 1, 1) := by decide +kernel
theorem d19_1 : decode jdk_52_method_83_code 1 = .ok (.aload_n 0, 1) := by decide +kernel
theorem d19_2 : decode jdk_52_method_83_code 2 = .ok (.invokestatic 67, 3) := by decide +kernel
theorem pd_14 : parseMethodDescriptor "(I[B)V" = some ⟨[.int, (.array .byte)], none⟩ := by decide +kernel
theorem d19_5 : decode jdk_52_method_83_code 5 = .ok (.aload_n 0, 1) := by decide +kernel
theorem d19_6 : decode jdk_52_method_83_code 6 = .ok (.iload_n 1, 1) := by decide +kernel
theorem d19_7 : decode jdk_52_method_83_code 7 = .ok (.invokestatic 71, 3) := by decide +kernel
theorem d19_10 : decode jdk_52_method_83_code 10 = .ok (.ireturn, 1) := by decide +kernel
theorem pn_15 : plainName "java/lang/StringLatin1" = true := by first | (simp [plainName, overriddenIn]; done) | decide +kernel
theorem d11_0 : decode jdk_43_method_2_code 0 = .ok (.iload_n 1, 1) := by decide +kernel
theorem d11_1 : decode jdk_43_method_2_code 1 = .ok (.aload_n 0, 1) := by decide +kernel
theorem d11_2 : decode jdk_43_method_2_code 2 = .ok (.arraylength, 1) := by decide +kernel
theorem d11_3 : decode jdk_43_method_2_code 3 = .ok (.invokestatic 9, 3) := by decide +kernel
theorem d11_6 : decode jdk_43_method_2_code 6 = .ok (.aload_n 0, 1) := by decide +kernel
theorem d11_7 : decode jdk_43_method_2_code 7 = .ok (.iload_n 1, 1) := by decide +kernel
theorem d11_8 : decode jdk_43_method_2_code 8 = .ok (.baload, 1) := by decide +kernel
theorem d11_9 : decode jdk_43_method_2_code 9 = .ok (.sipush 255, 3) := by decide +kernel
theorem d11_12 : decode jdk_43_method_2_code 12 = .ok (.iand, 1) := by decide +kernel
theorem d11_13 : decode jdk_43_method_2_code 13 = .ok (.i2c, 1) := by decide +kernel
theorem d11_14 : decode jdk_43_method_2_code 14 = .ok (.ireturn, 1) := by decide +kernel
theorem d10_0 : decode jdk_42_method_154_code 0 = .ok (.getstatic 38, 3) := by decide +kernel
theorem d10_3 : decode jdk_42_method_154_code 3 = .ok (.ifCond .eq 14, 3) := by decide +kernel
theorem d10_6 : decode jdk_42_method_154_code 6 = .ok (.aload_n 0, 1) := by decide +kernel
theorem d10_7 : decode jdk_42_method_154_code 7 = .ok (.getfield 15, 3) := by decide +kernel
theorem d10_10 : decode jdk_42_method_154_code 10 = .ok (.ifCond .ne 7, 3) := by decide +kernel
theorem d10_13 : decode jdk_42_method_154_code 13 = .ok (.iconst 1, 1) := by decide +kernel
theorem d10_14 : decode jdk_42_method_154_code 14 = .ok (.goto 4, 3) := by decide +kernel
theorem d10_18 : decode jdk_42_method_154_code 18 = .ok (.ireturn, 1) := by decide +kernel
theorem d10_17 : decode jdk_42_method_154_code 17 = .ok (.iconst 0, 1) := by decide +kernel
theorem d9_0 : decode jdk_42_method_56_code 0 = .ok (.aload_n 0, 1) := by decide +kernel
theorem d9_1 : decode jdk_42_method_56_code 1 = .ok (.invokevirtual 492, 3) := by decide +kernel
theorem pd_16 : parseMethodDescriptor "()Z" = some ⟨[], some .boolean⟩ := by decide +kernel
theorem d9_4 : decode jdk_42_method_56_code 4 = .ok (.ifCond .eq 12, 3) := by decide +kernel
theorem d9_7 : decode jdk_42_method_56_code 7 = .ok (.aload_n 0, 1) := by decide +kernel
theorem d9_8 : decode jdk_42_method_56_code 8 = .ok (.getfield 9, 3) := by decide +kernel
theorem d9_11 : decode jdk_42_method_56_code 11 = .ok (.iload_n 1, 1) := by decide +kernel
theorem d9_12 : decode jdk_42_method_56_code 12 = .ok (.invokestatic 495, 3) := by decide +kernel
theorem d9_15 : decode jdk_42_method_56_code 15 = .ok (.ireturn, 1) := by decide +kernel
theorem d9_16 : decode jdk_42_method_56_code 16 = .ok (.aload_n 0, 1) := by decide +kernel
theorem d9_17 : decode jdk_42_method_56_code 17 = .ok (.getfield 9, 3) := by decide +kernel
theorem d9_20 : decode jdk_42_method_56_code 20 = .ok (.iload_n 1, 1) := by decide +kernel
theorem d9_21 : decode jdk_42_method_56_code 21 = .ok (.invokestatic 498, 3) := by decide +kernel
theorem d9_24 : decode jdk_42_method_56_code 24 = .ok (.ireturn, 1) := by decide +kernel
theorem d23_0 : decode jdk_42_method_152_code 0 = .ok (.getstatic 38, 3) := by decide +kernel
theorem d23_3 : decode jdk_42_method_152_code 3 = .ok (.ifCond .eq 10, 3) := by decide +kernel
theorem d23_6 : decode jdk_42_method_152_code 6 = .ok (.aload_n 0, 1) := by decide +kernel
theorem d23_7 : decode jdk_42_method_152_code 7 = .ok (.getfield 15, 3) := by decide +kernel
theorem d23_10 : decode jdk_42_method_152_code 10 = .ok (.goto 4, 3) := by decide +kernel
theorem d23_14 : decode jdk_42_method_152_code 14 = .ok (.ireturn, 1) := by decide +kernel
theorem d22_0 : decode jdk_42_method_54_code 0 = .ok (.aload_n 0, 1) := by decide +kernel
theorem d22_1 : decode jdk_42_method_54_code 1 = .ok (.getfield 9, 3) := by decide +kernel
theorem d22_4 : decode jdk_42_method_54_code 4 = .ok (.arraylength, 1) := by decide +kernel
theorem d22_5 : decode jdk_42_method_54_code 5 = .ok (.aload_n 0, 1) := by decide +kernel
theorem d22_6 : decode jdk_42_method_54_code 6 = .ok (.invokevirtual 335, 3) := by decide +kernel
theorem pd_17 : parseMethodDescriptor "()B" = some ⟨[], some .byte⟩ := by decide +kernel
theorem d22_9 : decode jdk_42_method_54_code 9 = .ok (.ishr, 1) := by decide +kernel
theorem d22_10 : decode jdk_42_method_54_code 10 = .ok (.ireturn, 1) := by decide +kernel
theorem pn_18 : plainName "java/util/HexFormat" = true := by first | (simp [plainName, overriddenIn]; done) | decide +kernel
theorem d25_0 : decode jdk_2580_method_35_code 0 = .ok (.iload_n 0, 1) := by decide +kernel
theorem d25_1 : decode jdk_2580_method_35_code 1 = .ok (.bipush 8, 2) := by decide +kernel
theorem d25_3 : decode jdk_2580_method_35_code 3 = .ok (.iushr, 1) := by decide +kernel
theorem d25_4 : decode jdk_2580_method_35_code 4 = .ok (.ifCond .ne 15, 3) := by decide +kernel
theorem d25_7 : decode jdk_2580_method_35_code 7 = .ok (.getstatic 267, 3) := by decide +kernel
theorem d25_10 : decode jdk_2580_method_35_code 10 = .ok (.iload_n 0, 1) := by decide +kernel
theorem d25_11 : decode jdk_2580_method_35_code 11 = .ok (.baload, 1) := by decide +kernel
theorem d25_12 : decode jdk_2580_method_35_code 12 = .ok (.ifCond .lt 7, 3) := by decide +kernel
theorem d25_19 : decode jdk_2580_method_35_code 19 = .ok (.iconst 0, 1) := by decide +kernel
theorem d25_20 : decode jdk_2580_method_35_code 20 = .ok (.ireturn, 1) := by decide +kernel
theorem d25_15 : decode jdk_2580_method_35_code 15 = .ok (.iconst 1, 1) := by decide +kernel
theorem d25_16 : decode jdk_2580_method_35_code 16 = .ok (.goto 4, 3) := by decide +kernel
theorem pn_19 : plainName "com/example/iron_satchel/ironsatchel/PercentEncodingIsEscapeAtPinLaw" = true := by first | (simp [plainName, overriddenIn]; done) | decide +kernel
theorem d24_0 : decode method_4_code 0 = .ok (.iload_n 0, 1) := by decide +kernel
theorem d24_1 : decode method_4_code 1 = .ok (.bipush 48, 2) := by decide +kernel
theorem d24_3 : decode method_4_code 3 = .ok (.if_icmp .lt 11, 3) := by decide +kernel
theorem d24_14 : decode method_4_code 14 = .ok (.iload_n 0, 1) := by decide +kernel
theorem d24_15 : decode method_4_code 15 = .ok (.bipush 97, 2) := by decide +kernel
theorem d24_17 : decode method_4_code 17 = .ok (.if_icmp .lt 11, 3) := by decide +kernel
theorem d24_28 : decode method_4_code 28 = .ok (.iload_n 0, 1) := by decide +kernel
theorem d24_29 : decode method_4_code 29 = .ok (.bipush 65, 2) := by decide +kernel
theorem d24_31 : decode method_4_code 31 = .ok (.if_icmp .lt 13, 3) := by decide +kernel
theorem d24_44 : decode method_4_code 44 = .ok (.iconst 0, 1) := by decide +kernel
theorem d24_45 : decode method_4_code 45 = .ok (.ireturn, 1) := by decide +kernel
theorem d24_34 : decode method_4_code 34 = .ok (.iload_n 0, 1) := by decide +kernel
theorem d24_35 : decode method_4_code 35 = .ok (.bipush 70, 2) := by decide +kernel
theorem d24_37 : decode method_4_code 37 = .ok (.if_icmp .gt 7, 3) := by decide +kernel
theorem d24_40 : decode method_4_code 40 = .ok (.iconst 1, 1) := by decide +kernel
theorem d24_41 : decode method_4_code 41 = .ok (.goto 4, 3) := by decide +kernel
theorem d24_20 : decode method_4_code 20 = .ok (.iload_n 0, 1) := by decide +kernel
theorem d24_21 : decode method_4_code 21 = .ok (.bipush 102, 2) := by decide +kernel
theorem d24_23 : decode method_4_code 23 = .ok (.if_icmp .gt 5, 3) := by decide +kernel
theorem d24_26 : decode method_4_code 26 = .ok (.iconst 1, 1) := by decide +kernel
theorem d24_27 : decode method_4_code 27 = .ok (.ireturn, 1) := by decide +kernel
theorem d24_6 : decode method_4_code 6 = .ok (.iload_n 0, 1) := by decide +kernel
theorem d24_7 : decode method_4_code 7 = .ok (.bipush 57, 2) := by decide +kernel
theorem d24_9 : decode method_4_code 9 = .ok (.if_icmp .gt 5, 3) := by decide +kernel
theorem d24_12 : decode method_4_code 12 = .ok (.iconst 1, 1) := by decide +kernel
theorem d24_13 : decode method_4_code 13 = .ok (.ireturn, 1) := by decide +kernel
theorem d1_0 : decode method_3_code 0 = .ok (.iload_n 1, 1) := by decide +kernel
theorem d1_1 : decode method_3_code 1 = .ok (.iconst 1, 1) := by decide +kernel
theorem d1_2 : decode method_3_code 2 = .ok (.if_icmp .ne 20, 3) := by decide +kernel
theorem d1_5 : decode method_3_code 5 = .ok (.new 25, 3) := by decide +kernel
theorem d1_8 : decode method_3_code 8 = .ok (.dup, 1) := by decide +kernel
theorem d1_9 : decode method_3_code 9 = .ok (.iconst 1, 1) := by decide +kernel
theorem d1_10 : decode method_3_code 10 = .ok (.newarray .char, 2) := by decide +kernel
theorem d1_12 : decode method_3_code 12 = .ok (.dup, 1) := by decide +kernel
theorem d1_13 : decode method_3_code 13 = .ok (.iconst 0, 1) := by decide +kernel
theorem d1_14 : decode method_3_code 14 = .ok (.aload_n 0, 1) := by decide +kernel
theorem d1_15 : decode method_3_code 15 = .ok (.iconst 0, 1) := by decide +kernel
theorem d1_16 : decode method_3_code 16 = .ok (.caload, 1) := by decide +kernel
theorem d1_17 : decode method_3_code 17 = .ok (.castore, 1) := by decide +kernel
theorem d1_18 : decode method_3_code 18 = .ok (.invokespecial 27, 3) := by decide +kernel
theorem pd_20 : parseMethodDescriptor "([C)V" = some ⟨[(.array .char)], none⟩ := by decide +kernel
theorem d1_21 : decode method_3_code 21 = .ok (.areturn, 1) := by decide +kernel
theorem d1_22 : decode method_3_code 22 = .ok (.iload_n 1, 1) := by decide +kernel
theorem d1_23 : decode method_3_code 23 = .ok (.iconst 2, 1) := by decide +kernel
theorem d1_24 : decode method_3_code 24 = .ok (.if_icmp .ne 26, 3) := by decide +kernel
theorem d1_27 : decode method_3_code 27 = .ok (.new 25, 3) := by decide +kernel
theorem d1_30 : decode method_3_code 30 = .ok (.dup, 1) := by decide +kernel
theorem d1_31 : decode method_3_code 31 = .ok (.iconst 2, 1) := by decide +kernel
theorem d1_32 : decode method_3_code 32 = .ok (.newarray .char, 2) := by decide +kernel
theorem d1_34 : decode method_3_code 34 = .ok (.dup, 1) := by decide +kernel
theorem d1_35 : decode method_3_code 35 = .ok (.iconst 0, 1) := by decide +kernel
theorem d1_36 : decode method_3_code 36 = .ok (.aload_n 0, 1) := by decide +kernel
theorem d1_37 : decode method_3_code 37 = .ok (.iconst 0, 1) := by decide +kernel
theorem d1_38 : decode method_3_code 38 = .ok (.caload, 1) := by decide +kernel
theorem d1_39 : decode method_3_code 39 = .ok (.castore, 1) := by decide +kernel
theorem d1_40 : decode method_3_code 40 = .ok (.dup, 1) := by decide +kernel
theorem d1_41 : decode method_3_code 41 = .ok (.iconst 1, 1) := by decide +kernel
theorem d1_42 : decode method_3_code 42 = .ok (.aload_n 0, 1) := by decide +kernel
theorem d1_43 : decode method_3_code 43 = .ok (.iconst 1, 1) := by decide +kernel
theorem d1_44 : decode method_3_code 44 = .ok (.caload, 1) := by decide +kernel
theorem d1_45 : decode method_3_code 45 = .ok (.castore, 1) := by decide +kernel
theorem d1_46 : decode method_3_code 46 = .ok (.invokespecial 27, 3) := by decide +kernel
theorem d1_49 : decode method_3_code 49 = .ok (.areturn, 1) := by decide +kernel
theorem d1_50 : decode method_3_code 50 = .ok (.iload_n 1, 1) := by decide +kernel
theorem d1_51 : decode method_3_code 51 = .ok (.iconst 3, 1) := by decide +kernel
theorem d1_52 : decode method_3_code 52 = .ok (.if_icmp .ne 32, 3) := by decide +kernel
theorem d1_55 : decode method_3_code 55 = .ok (.new 25, 3) := by decide +kernel
theorem d1_58 : decode method_3_code 58 = .ok (.dup, 1) := by decide +kernel
theorem d1_59 : decode method_3_code 59 = .ok (.iconst 3, 1) := by decide +kernel
theorem d1_60 : decode method_3_code 60 = .ok (.newarray .char, 2) := by decide +kernel
theorem d1_62 : decode method_3_code 62 = .ok (.dup, 1) := by decide +kernel
theorem d1_63 : decode method_3_code 63 = .ok (.iconst 0, 1) := by decide +kernel
theorem d1_64 : decode method_3_code 64 = .ok (.aload_n 0, 1) := by decide +kernel
theorem d1_65 : decode method_3_code 65 = .ok (.iconst 0, 1) := by decide +kernel
theorem d1_66 : decode method_3_code 66 = .ok (.caload, 1) := by decide +kernel
theorem d1_67 : decode method_3_code 67 = .ok (.castore, 1) := by decide +kernel
theorem d1_68 : decode method_3_code 68 = .ok (.dup, 1) := by decide +kernel
theorem d1_69 : decode method_3_code 69 = .ok (.iconst 1, 1) := by decide +kernel
theorem d1_70 : decode method_3_code 70 = .ok (.aload_n 0, 1) := by decide +kernel
theorem d1_71 : decode method_3_code 71 = .ok (.iconst 1, 1) := by decide +kernel
theorem d1_72 : decode method_3_code 72 = .ok (.caload, 1) := by decide +kernel
theorem d1_73 : decode method_3_code 73 = .ok (.castore, 1) := by decide +kernel
theorem d1_74 : decode method_3_code 74 = .ok (.dup, 1) := by decide +kernel
theorem d1_75 : decode method_3_code 75 = .ok (.iconst 2, 1) := by decide +kernel
theorem d1_76 : decode method_3_code 76 = .ok (.aload_n 0, 1) := by decide +kernel
theorem d1_77 : decode method_3_code 77 = .ok (.iconst 2, 1) := by decide +kernel
theorem d1_78 : decode method_3_code 78 = .ok (.caload, 1) := by decide +kernel
theorem d1_79 : decode method_3_code 79 = .ok (.castore, 1) := by decide +kernel
theorem d1_80 : decode method_3_code 80 = .ok (.invokespecial 27, 3) := by decide +kernel
theorem d1_83 : decode method_3_code 83 = .ok (.areturn, 1) := by decide +kernel
theorem d1_84 : decode method_3_code 84 = .ok (.new 25, 3) := by decide +kernel
theorem d1_87 : decode method_3_code 87 = .ok (.dup, 1) := by decide +kernel
theorem d1_88 : decode method_3_code 88 = .ok (.iconst 4, 1) := by decide +kernel
theorem d1_89 : decode method_3_code 89 = .ok (.newarray .char, 2) := by decide +kernel
theorem d1_91 : decode method_3_code 91 = .ok (.dup, 1) := by decide +kernel
theorem d1_92 : decode method_3_code 92 = .ok (.iconst 0, 1) := by decide +kernel
theorem d1_93 : decode method_3_code 93 = .ok (.aload_n 0, 1) := by decide +kernel
theorem d1_94 : decode method_3_code 94 = .ok (.iconst 0, 1) := by decide +kernel
theorem d1_95 : decode method_3_code 95 = .ok (.caload, 1) := by decide +kernel
theorem d1_96 : decode method_3_code 96 = .ok (.castore, 1) := by decide +kernel
theorem d1_97 : decode method_3_code 97 = .ok (.dup, 1) := by decide +kernel
theorem d1_98 : decode method_3_code 98 = .ok (.iconst 1, 1) := by decide +kernel
theorem d1_99 : decode method_3_code 99 = .ok (.aload_n 0, 1) := by decide +kernel
theorem d1_100 : decode method_3_code 100 = .ok (.iconst 1, 1) := by decide +kernel
theorem d1_101 : decode method_3_code 101 = .ok (.caload, 1) := by decide +kernel
theorem d1_102 : decode method_3_code 102 = .ok (.castore, 1) := by decide +kernel
theorem d1_103 : decode method_3_code 103 = .ok (.dup, 1) := by decide +kernel
theorem d1_104 : decode method_3_code 104 = .ok (.iconst 2, 1) := by decide +kernel
theorem d1_105 : decode method_3_code 105 = .ok (.aload_n 0, 1) := by decide +kernel
theorem d1_106 : decode method_3_code 106 = .ok (.iconst 2, 1) := by decide +kernel
theorem d1_107 : decode method_3_code 107 = .ok (.caload, 1) := by decide +kernel
theorem d1_108 : decode method_3_code 108 = .ok (.castore, 1) := by decide +kernel
theorem d1_109 : decode method_3_code 109 = .ok (.dup, 1) := by decide +kernel
theorem d1_110 : decode method_3_code 110 = .ok (.iconst 3, 1) := by decide +kernel
theorem d1_111 : decode method_3_code 111 = .ok (.aload_n 0, 1) := by decide +kernel
theorem d1_112 : decode method_3_code 112 = .ok (.iconst 3, 1) := by decide +kernel
theorem d1_113 : decode method_3_code 113 = .ok (.caload, 1) := by decide +kernel
theorem d1_114 : decode method_3_code 114 = .ok (.castore, 1) := by decide +kernel
theorem d1_115 : decode method_3_code 115 = .ok (.invokespecial 27, 3) := by decide +kernel
theorem d1_118 : decode method_3_code 118 = .ok (.areturn, 1) := by decide +kernel
theorem pn_21 : plainName "com/example/iron_satchel/ironsatchel/PercentEncoding" = true := by first | (simp [plainName, overriddenIn]; done) | decide +kernel
theorem d8_0 : decode prog_13_method_3_code 0 = .ok (.aload_n 0, 1) := by decide +kernel
theorem d8_1 : decode prog_13_method_3_code 1 = .ok (.iload_n 1, 1) := by decide +kernel
theorem d8_2 : decode prog_13_method_3_code 2 = .ok (.invokevirtual 13, 3) := by decide +kernel
theorem pd_22 : parseMethodDescriptor "(I)C" = some ⟨[.int], some .char⟩ := by decide +kernel
theorem d8_5 : decode prog_13_method_3_code 5 = .ok (.bipush 37, 2) := by decide +kernel
theorem d8_7 : decode prog_13_method_3_code 7 = .ok (.if_icmp .ne 43, 3) := by decide +kernel
theorem d8_10 : decode prog_13_method_3_code 10 = .ok (.iload_n 1, 1) := by decide +kernel
theorem d8_11 : decode prog_13_method_3_code 11 = .ok (.iconst 2, 1) := by decide +kernel
theorem d8_12 : decode prog_13_method_3_code 12 = .ok (.iadd, 1) := by decide +kernel
theorem d8_13 : decode prog_13_method_3_code 13 = .ok (.aload_n 0, 1) := by decide +kernel
theorem d8_14 : decode prog_13_method_3_code 14 = .ok (.invokevirtual 7, 3) := by decide +kernel
theorem pd_23 : parseMethodDescriptor "()I" = some ⟨[], some .int⟩ := by decide +kernel
theorem d8_17 : decode prog_13_method_3_code 17 = .ok (.if_icmp .ge 33, 3) := by decide +kernel
theorem d8_50 : decode prog_13_method_3_code 50 = .ok (.iconst 0, 1) := by decide +kernel
theorem d8_51 : decode prog_13_method_3_code 51 = .ok (.ireturn, 1) := by decide +kernel
theorem d8_20 : decode prog_13_method_3_code 20 = .ok (.aload_n 0, 1) := by decide +kernel
theorem d8_21 : decode prog_13_method_3_code 21 = .ok (.iload_n 1, 1) := by decide +kernel
theorem d8_22 : decode prog_13_method_3_code 22 = .ok (.iconst 1, 1) := by decide +kernel
theorem d8_23 : decode prog_13_method_3_code 23 = .ok (.iadd, 1) := by decide +kernel
theorem d8_24 : decode prog_13_method_3_code 24 = .ok (.invokevirtual 13, 3) := by decide +kernel
theorem d8_27 : decode prog_13_method_3_code 27 = .ok (.invokestatic 52, 3) := by decide +kernel
theorem pd_24 : parseMethodDescriptor "(I)Z" = some ⟨[.int], some .boolean⟩ := by decide +kernel
theorem d8_30 : decode prog_13_method_3_code 30 = .ok (.ifCond .eq 20, 3) := by decide +kernel
theorem d8_33 : decode prog_13_method_3_code 33 = .ok (.aload_n 0, 1) := by decide +kernel
theorem d8_34 : decode prog_13_method_3_code 34 = .ok (.iload_n 1, 1) := by decide +kernel
theorem d8_35 : decode prog_13_method_3_code 35 = .ok (.iconst 2, 1) := by decide +kernel
theorem d8_36 : decode prog_13_method_3_code 36 = .ok (.iadd, 1) := by decide +kernel
theorem d8_37 : decode prog_13_method_3_code 37 = .ok (.invokevirtual 13, 3) := by decide +kernel
theorem d8_40 : decode prog_13_method_3_code 40 = .ok (.invokestatic 52, 3) := by decide +kernel
theorem d8_43 : decode prog_13_method_3_code 43 = .ok (.ifCond .eq 7, 3) := by decide +kernel
theorem d8_46 : decode prog_13_method_3_code 46 = .ok (.iconst 1, 1) := by decide +kernel
theorem d8_47 : decode prog_13_method_3_code 47 = .ok (.goto 4, 3) := by decide +kernel
theorem pd_25 : parseMethodDescriptor "([CI)Ljava/lang/String;" = some ⟨[(.array .char), .int], some (.object "java/lang/String")⟩ := by decide +kernel
theorem pd_26 : parseMethodDescriptor "(Ljava/lang/String;I)Z" = some ⟨[(.object "java/lang/String"), .int], some .boolean⟩ := by decide +kernel
theorem pd_27 : parseMethodDescriptor "(C)Z" = some ⟨[.char], some .boolean⟩ := by decide +kernel
def Q_rm_nbl1 (Z : State) (h0 : Heap) (n0 : Nat) (v : Option Value) (h : Heap) (L : List Loc) : Prop := v = some (.int (2 : Int32)) ∧ Fr n0 L ∧ h = h0
theorem ef_rm_nbl1 (m : MethodId) : entryFrame m #[(.int (1 : Int32))] 1 = mkF m 0 #[.val (.int (1 : Int32))] [] := by first | (simp [entryFrame, mkF, argsToLocals, Value.category]; done) | rfl
set_option maxRecDepth 65536 in
set_option maxHeartbeats 40000000 in
theorem rm_nbl1 (l : Launch) (Z : State) (a0 : Array Value) (hw : ∀ d ∈ tables_1, d.before a0 Z = true) (ws : List Jvm.Cond) (h0 : Heap) (n0 : Nat) (Z0 : n0 ≤ h0.size) :
    MetFree l (⟨"java/lang/StringUTF16", "newBytesLength", "(I)I"⟩ : MethodName) (head1 (Jvm.Cond.code (⟨"java/lang/StringUTF16", "newBytesLength", "(I)I"⟩ : MethodName) jdk_52_method_3_code 1 (some .int) :: ws) ({ frames := 0, cells := 0, slots := 0, locals := 0 } : Room)) (fun a_ U_ => a_ = #[(.int (1 : Int32))] ∧ Z.Warmed39 U_.vm ∧ U_.heap = h0) (fun _ _ _ _ _ => True) (fun _ U_ o_ V_ => ∃ v_ L_, o_ = .returned v_ ∧ (Q_rm_nbl1 Z  h0 n0) v_ V_.heap L_ ∧ FrameEnd U_ o_ V_ L_ ({ frames := 0, cells := 0, slots := 0, locals := 0 } : Room).cells ({ frames := 0, cells := 0, slots := 0, locals := 0 } : Room).slots) := by
  refine MetFree.of_bodySF (plainFor_of_name pn_0) hisR ?_
  intro p e s m args below meth c s₁ Bd hml0 hP hK
  obtain ⟨rfl, hZ, hh⟩ := hP
  have hx := Bd.exec
  have hby := Bd.bytes
  have hml : c.maxLocals = 1 := hml0
  have hown : s.vm.findClass "java/lang/StringUTF16" = some m.cls := findClass_of_methodNamed Bd.named
  have hnm := (name_of_methodNamed Bd.named Bd.method).1
  have X0 : Stand p l e ({ frames := 0, cells := 0, slots := 0, locals := 0 } : Room) s m #[(.int (1 : Int32))] below meth c s₁ [] 0 0 := Stand.of_body Bd
  have e0 : s₁.heap = h0 := by rw [← hh, Bd.state]; rfl
  have N0 := Fr.nil n0
  have K0 : Keep h0 h0 [] := Keep.refl _ _
  show own_Fin p.tables e below (own_Post (Q_rm_nbl1 Z  h0 n0) ({ frames := 0, cells := 0, slots := 0, locals := 0 } : Room).cells ({ frames := 0, cells := 0, slots := 0, locals := 0 } : Room).slots below s) _
  refine own_go (fun _ q => castTop (ef_rm_nbl1 m ) q) ?_
  refine own_go (fun _ q => XS.iloadN X0.here hx rfl (hb hby d16_0) rfl q) ?_
  show own_Fin _ _ _ _ (s₁.setTop (mkF m 1 #[.val (.int (1 : Int32))] [(.int (1 : Int32))]))
  refine own_go (fun _ q => XS.ifYes X0.here hx rfl (pc0 := 1) (pc' := 12) rfl (hb hby d16_1) rfl ((if0 _ _).trans (flt (by decide : ¬ (1 : Int32) < (0 : Int32))).2.1) (by decide) (by decide) q) ?_
  refine own_go (fun _ q => XS.iloadN X0.here hx rfl (hb hby d16_12) rfl q) ?_
  show own_Fin _ _ _ _ (s₁.setTop (mkF m 13 #[.val (.int (1 : Int32))] [(.int (1 : Int32))]))
  refine own_go (fun _ q => Jvm.Stand.ldcI X0 hx hown (mvT hZ (own_w hw 71 rfl)) (g := (mkF m 13 #[.val (.int (1 : Int32))] [(.int (1 : Int32))])) rfl (hb hby d16_13) q) ?_
  show own_Fin _ _ _ _ (s₁.setTop (mkF m 15 #[.val (.int (1 : Int32))] [(.int (1073741823 : Int32)), (.int (1 : Int32))]))
  refine own_go (fun _ q => XS.icmpYes X0.here hx rfl (pc0 := 15) (pc' := 55) rfl (hb hby d16_15) rfl (tlt (by decide : (1 : Int32) < (1073741823 : Int32))).1 (by decide) (by decide) q) ?_
  refine own_go (fun _ q => XS.iloadN X0.here hx rfl (hb hby d16_55) rfl q) ?_
  refine own_go (fun _ q => XS.iconst X0.here hx rfl (hb hby d16_56) q) ?_
  show own_Fin _ _ _ _ (s₁.setTop (mkF m 57 #[.val (.int (1 : Int32))] [(.int (1 : Int32)), (.int (1 : Int32))]))
  refine own_go (fun _ q => XS.ishl X0.here hx rfl (hb hby d16_57) rfl q) ?_
  show own_Fin _ _ _ _ (s₁.setTop (mkF m 58 #[.val (.int (1 : Int32))] [(.int (2 : Int32))]))
  refine own_retI X0 hx Bd (t := .int) Bd.returns rfl (by simp) (hb hby d16_58) ?_ (by decide) (by decide)
  show (Q_rm_nbl1 Z  h0 n0) (some (.int (2 : Int32))) s₁.heap _
  rw [e0]
  exact ⟨rfl, N0, rfl⟩
def Q_rm_nbl2 (Z : State) (h0 : Heap) (n0 : Nat) (v : Option Value) (h : Heap) (L : List Loc) : Prop := v = some (.int (4 : Int32)) ∧ Fr n0 L ∧ h = h0
theorem ef_rm_nbl2 (m : MethodId) : entryFrame m #[(.int (2 : Int32))] 1 = mkF m 0 #[.val (.int (2 : Int32))] [] := by first | (simp [entryFrame, mkF, argsToLocals, Value.category]; done) | rfl
set_option maxRecDepth 65536 in
set_option maxHeartbeats 40000000 in
theorem rm_nbl2 (l : Launch) (Z : State) (a0 : Array Value) (hw : ∀ d ∈ tables_1, d.before a0 Z = true) (ws : List Jvm.Cond) (h0 : Heap) (n0 : Nat) (Z0 : n0 ≤ h0.size) :
    MetFree l (⟨"java/lang/StringUTF16", "newBytesLength", "(I)I"⟩ : MethodName) (head1 (Jvm.Cond.code (⟨"java/lang/StringUTF16", "newBytesLength", "(I)I"⟩ : MethodName) jdk_52_method_3_code 1 (some .int) :: ws) ({ frames := 0, cells := 0, slots := 0, locals := 0 } : Room)) (fun a_ U_ => a_ = #[(.int (2 : Int32))] ∧ Z.Warmed39 U_.vm ∧ U_.heap = h0) (fun _ _ _ _ _ => True) (fun _ U_ o_ V_ => ∃ v_ L_, o_ = .returned v_ ∧ (Q_rm_nbl2 Z  h0 n0) v_ V_.heap L_ ∧ FrameEnd U_ o_ V_ L_ ({ frames := 0, cells := 0, slots := 0, locals := 0 } : Room).cells ({ frames := 0, cells := 0, slots := 0, locals := 0 } : Room).slots) := by
  refine MetFree.of_bodySF (plainFor_of_name pn_0) hisR ?_
  intro p e s m args below meth c s₁ Bd hml0 hP hK
  obtain ⟨rfl, hZ, hh⟩ := hP
  have hx := Bd.exec
  have hby := Bd.bytes
  have hml : c.maxLocals = 1 := hml0
  have hown : s.vm.findClass "java/lang/StringUTF16" = some m.cls := findClass_of_methodNamed Bd.named
  have hnm := (name_of_methodNamed Bd.named Bd.method).1
  have X0 : Stand p l e ({ frames := 0, cells := 0, slots := 0, locals := 0 } : Room) s m #[(.int (2 : Int32))] below meth c s₁ [] 0 0 := Stand.of_body Bd
  have e0 : s₁.heap = h0 := by rw [← hh, Bd.state]; rfl
  have N0 := Fr.nil n0
  have K0 : Keep h0 h0 [] := Keep.refl _ _
  show own_Fin p.tables e below (own_Post (Q_rm_nbl2 Z  h0 n0) ({ frames := 0, cells := 0, slots := 0, locals := 0 } : Room).cells ({ frames := 0, cells := 0, slots := 0, locals := 0 } : Room).slots below s) _
  refine own_go (fun _ q => castTop (ef_rm_nbl2 m ) q) ?_
  refine own_go (fun _ q => XS.iloadN X0.here hx rfl (hb hby d16_0) rfl q) ?_
  show own_Fin _ _ _ _ (s₁.setTop (mkF m 1 #[.val (.int (2 : Int32))] [(.int (2 : Int32))]))
  refine own_go (fun _ q => XS.ifYes X0.here hx rfl (pc0 := 1) (pc' := 12) rfl (hb hby d16_1) rfl ((if0 _ _).trans (flt (by decide : ¬ (2 : Int32) < (0 : Int32))).2.1) (by decide) (by decide) q) ?_
  refine own_go (fun _ q => XS.iloadN X0.here hx rfl (hb hby d16_12) rfl q) ?_
  show own_Fin _ _ _ _ (s₁.setTop (mkF m 13 #[.val (.int (2 : Int32))] [(.int (2 : Int32))]))
  refine own_go (fun _ q => Jvm.Stand.ldcI X0 hx hown (mvT hZ (own_w hw 71 rfl)) (g := (mkF m 13 #[.val (.int (2 : Int32))] [(.int (2 : Int32))])) rfl (hb hby d16_13) q) ?_
  show own_Fin _ _ _ _ (s₁.setTop (mkF m 15 #[.val (.int (2 : Int32))] [(.int (1073741823 : Int32)), (.int (2 : Int32))]))
  refine own_go (fun _ q => XS.icmpYes X0.here hx rfl (pc0 := 15) (pc' := 55) rfl (hb hby d16_15) rfl (tlt (by decide : (2 : Int32) < (1073741823 : Int32))).1 (by decide) (by decide) q) ?_
  refine own_go (fun _ q => XS.iloadN X0.here hx rfl (hb hby d16_55) rfl q) ?_
  refine own_go (fun _ q => XS.iconst X0.here hx rfl (hb hby d16_56) q) ?_
  show own_Fin _ _ _ _ (s₁.setTop (mkF m 57 #[.val (.int (2 : Int32))] [(.int (1 : Int32)), (.int (2 : Int32))]))
  refine own_go (fun _ q => XS.ishl X0.here hx rfl (hb hby d16_57) rfl q) ?_
  show own_Fin _ _ _ _ (s₁.setTop (mkF m 58 #[.val (.int (2 : Int32))] [(.int (4 : Int32))]))
  refine own_retI X0 hx Bd (t := .int) Bd.returns rfl (by simp) (hb hby d16_58) ?_ (by decide) (by decide)
  show (Q_rm_nbl2 Z  h0 n0) (some (.int (4 : Int32))) s₁.heap _
  rw [e0]
  exact ⟨rfl, N0, rfl⟩
def Q_rm_nbl3 (Z : State) (h0 : Heap) (n0 : Nat) (v : Option Value) (h : Heap) (L : List Loc) : Prop := v = some (.int (6 : Int32)) ∧ Fr n0 L ∧ h = h0
theorem ef_rm_nbl3 (m : MethodId) : entryFrame m #[(.int (3 : Int32))] 1 = mkF m 0 #[.val (.int (3 : Int32))] [] := by first | (simp [entryFrame, mkF, argsToLocals, Value.category]; done) | rfl
set_option maxRecDepth 65536 in
set_option maxHeartbeats 40000000 in
theorem rm_nbl3 (l : Launch) (Z : State) (a0 : Array Value) (hw : ∀ d ∈ tables_1, d.before a0 Z = true) (ws : List Jvm.Cond) (h0 : Heap) (n0 : Nat) (Z0 : n0 ≤ h0.size) :
    MetFree l (⟨"java/lang/StringUTF16", "newBytesLength", "(I)I"⟩ : MethodName) (head1 (Jvm.Cond.code (⟨"java/lang/StringUTF16", "newBytesLength", "(I)I"⟩ : MethodName) jdk_52_method_3_code 1 (some .int) :: ws) ({ frames := 0, cells := 0, slots := 0, locals := 0 } : Room)) (fun a_ U_ => a_ = #[(.int (3 : Int32))] ∧ Z.Warmed39 U_.vm ∧ U_.heap = h0) (fun _ _ _ _ _ => True) (fun _ U_ o_ V_ => ∃ v_ L_, o_ = .returned v_ ∧ (Q_rm_nbl3 Z  h0 n0) v_ V_.heap L_ ∧ FrameEnd U_ o_ V_ L_ ({ frames := 0, cells := 0, slots := 0, locals := 0 } : Room).cells ({ frames := 0, cells := 0, slots := 0, locals := 0 } : Room).slots) := by
  refine MetFree.of_bodySF (plainFor_of_name pn_0) hisR ?_
  intro p e s m args below meth c s₁ Bd hml0 hP hK
  obtain ⟨rfl, hZ, hh⟩ := hP
  have hx := Bd.exec
  have hby := Bd.bytes
  have hml : c.maxLocals = 1 := hml0
  have hown : s.vm.findClass "java/lang/StringUTF16" = some m.cls := findClass_of_methodNamed Bd.named
  have hnm := (name_of_methodNamed Bd.named Bd.method).1
  have X0 : Stand p l e ({ frames := 0, cells := 0, slots := 0, locals := 0 } : Room) s m #[(.int (3 : Int32))] below meth c s₁ [] 0 0 := Stand.of_body Bd
  have e0 : s₁.heap = h0 := by rw [← hh, Bd.state]; rfl
  have N0 := Fr.nil n0
  have K0 : Keep h0 h0 [] := Keep.refl _ _
  show own_Fin p.tables e below (own_Post (Q_rm_nbl3 Z  h0 n0) ({ frames := 0, cells := 0, slots := 0, locals := 0 } : Room).cells ({ frames := 0, cells := 0, slots := 0, locals := 0 } : Room).slots below s) _
  refine own_go (fun _ q => castTop (ef_rm_nbl3 m ) q) ?_
  refine own_go (fun _ q => XS.iloadN X0.here hx rfl (hb hby d16_0) rfl q) ?_
  show own_Fin _ _ _ _ (s₁.setTop (mkF m 1 #[.val (.int (3 : Int32))] [(.int (3 : Int32))]))
  refine own_go (fun _ q => XS.ifYes X0.here hx rfl (pc0 := 1) (pc' := 12) rfl (hb hby d16_1) rfl ((if0 _ _).trans (flt (by decide : ¬ (3 : Int32) < (0 : Int32))).2.1) (by decide) (by decide) q) ?_
  refine own_go (fun _ q => XS.iloadN X0.here hx rfl (hb hby d16_12) rfl q) ?_
  show own_Fin _ _ _ _ (s₁.setTop (mkF m 13 #[.val (.int (3 : Int32))] [(.int (3 : Int32))]))
  refine own_go (fun _ q => Jvm.Stand.ldcI X0 hx hown (mvT hZ (own_w hw 71 rfl)) (g := (mkF m 13 #[.val (.int (3 : Int32))] [(.int (3 : Int32))])) rfl (hb hby d16_13) q) ?_
  show own_Fin _ _ _ _ (s₁.setTop (mkF m 15 #[.val (.int (3 : Int32))] [(.int (1073741823 : Int32)), (.int (3 : Int32))]))
  refine own_go (fun _ q => XS.icmpYes X0.here hx rfl (pc0 := 15) (pc' := 55) rfl (hb hby d16_15) rfl (tlt (by decide : (3 : Int32) < (1073741823 : Int32))).1 (by decide) (by decide) q) ?_
  refine own_go (fun _ q => XS.iloadN X0.here hx rfl (hb hby d16_55) rfl q) ?_
  refine own_go (fun _ q => XS.iconst X0.here hx rfl (hb hby d16_56) q) ?_
  show own_Fin _ _ _ _ (s₁.setTop (mkF m 57 #[.val (.int (3 : Int32))] [(.int (1 : Int32)), (.int (3 : Int32))]))
  refine own_go (fun _ q => XS.ishl X0.here hx rfl (hb hby d16_57) rfl q) ?_
  show own_Fin _ _ _ _ (s₁.setTop (mkF m 58 #[.val (.int (3 : Int32))] [(.int (6 : Int32))]))
  refine own_retI X0 hx Bd (t := .int) Bd.returns rfl (by simp) (hb hby d16_58) ?_ (by decide) (by decide)
  show (Q_rm_nbl3 Z  h0 n0) (some (.int (6 : Int32))) s₁.heap _
  rw [e0]
  exact ⟨rfl, N0, rfl⟩
def Q_rm_nbl4 (Z : State) (h0 : Heap) (n0 : Nat) (v : Option Value) (h : Heap) (L : List Loc) : Prop := v = some (.int (8 : Int32)) ∧ Fr n0 L ∧ h = h0
theorem ef_rm_nbl4 (m : MethodId) : entryFrame m #[(.int (4 : Int32))] 1 = mkF m 0 #[.val (.int (4 : Int32))] [] := by first | (simp [entryFrame, mkF, argsToLocals, Value.category]; done) | rfl
set_option maxRecDepth 65536 in
set_option maxHeartbeats 40000000 in
theorem rm_nbl4 (l : Launch) (Z : State) (a0 : Array Value) (hw : ∀ d ∈ tables_1, d.before a0 Z = true) (ws : List Jvm.Cond) (h0 : Heap) (n0 : Nat) (Z0 : n0 ≤ h0.size) :
    MetFree l (⟨"java/lang/StringUTF16", "newBytesLength", "(I)I"⟩ : MethodName) (head1 (Jvm.Cond.code (⟨"java/lang/StringUTF16", "newBytesLength", "(I)I"⟩ : MethodName) jdk_52_method_3_code 1 (some .int) :: ws) ({ frames := 0, cells := 0, slots := 0, locals := 0 } : Room)) (fun a_ U_ => a_ = #[(.int (4 : Int32))] ∧ Z.Warmed39 U_.vm ∧ U_.heap = h0) (fun _ _ _ _ _ => True) (fun _ U_ o_ V_ => ∃ v_ L_, o_ = .returned v_ ∧ (Q_rm_nbl4 Z  h0 n0) v_ V_.heap L_ ∧ FrameEnd U_ o_ V_ L_ ({ frames := 0, cells := 0, slots := 0, locals := 0 } : Room).cells ({ frames := 0, cells := 0, slots := 0, locals := 0 } : Room).slots) := by
  refine MetFree.of_bodySF (plainFor_of_name pn_0) hisR ?_
  intro p e s m args below meth c s₁ Bd hml0 hP hK
  obtain ⟨rfl, hZ, hh⟩ := hP
  have hx := Bd.exec
  have hby := Bd.bytes
  have hml : c.maxLocals = 1 := hml0
  have hown : s.vm.findClass "java/lang/StringUTF16" = some m.cls := findClass_of_methodNamed Bd.named
  have hnm := (name_of_methodNamed Bd.named Bd.method).1
  have X0 : Stand p l e ({ frames := 0, cells := 0, slots := 0, locals := 0 } : Room) s m #[(.int (4 : Int32))] below meth c s₁ [] 0 0 := Stand.of_body Bd
  have e0 : s₁.heap = h0 := by rw [← hh, Bd.state]; rfl
  have N0 := Fr.nil n0
  have K0 : Keep h0 h0 [] := Keep.refl _ _
  show own_Fin p.tables e below (own_Post (Q_rm_nbl4 Z  h0 n0) ({ frames := 0, cells := 0, slots := 0, locals := 0 } : Room).cells ({ frames := 0, cells := 0, slots := 0, locals := 0 } : Room).slots below s) _
  refine own_go (fun _ q => castTop (ef_rm_nbl4 m ) q) ?_
  refine own_go (fun _ q => XS.iloadN X0.here hx rfl (hb hby d16_0) rfl q) ?_
  show own_Fin _ _ _ _ (s₁.setTop (mkF m 1 #[.val (.int (4 : Int32))] [(.int (4 : Int32))]))
  refine own_go (fun _ q => XS.ifYes X0.here hx rfl (pc0 := 1) (pc' := 12) rfl (hb hby d16_1) rfl ((if0 _ _).trans (flt (by decide : ¬ (4 : Int32) < (0 : Int32))).2.1) (by decide) (by decide) q) ?_
  refine own_go (fun _ q => XS.iloadN X0.here hx rfl (hb hby d16_12) rfl q) ?_
  show own_Fin _ _ _ _ (s₁.setTop (mkF m 13 #[.val (.int (4 : Int32))] [(.int (4 : Int32))]))
  refine own_go (fun _ q => Jvm.Stand.ldcI X0 hx hown (mvT hZ (own_w hw 71 rfl)) (g := (mkF m 13 #[.val (.int (4 : Int32))] [(.int (4 : Int32))])) rfl (hb hby d16_13) q) ?_
  show own_Fin _ _ _ _ (s₁.setTop (mkF m 15 #[.val (.int (4 : Int32))] [(.int (1073741823 : Int32)), (.int (4 : Int32))]))
  refine own_go (fun _ q => XS.icmpYes X0.here hx rfl (pc0 := 15) (pc' := 55) rfl (hb hby d16_15) rfl (tlt (by decide : (4 : Int32) < (1073741823 : Int32))).1 (by decide) (by decide) q) ?_
  refine own_go (fun _ q => XS.iloadN X0.here hx rfl (hb hby d16_55) rfl q) ?_
  refine own_go (fun _ q => XS.iconst X0.here hx rfl (hb hby d16_56) q) ?_
  show own_Fin _ _ _ _ (s₁.setTop (mkF m 57 #[.val (.int (4 : Int32))] [(.int (1 : Int32)), (.int (4 : Int32))]))
  refine own_go (fun _ q => XS.ishl X0.here hx rfl (hb hby d16_57) rfl q) ?_
  show own_Fin _ _ _ _ (s₁.setTop (mkF m 58 #[.val (.int (4 : Int32))] [(.int (8 : Int32))]))
  refine own_retI X0 hx Bd (t := .int) Bd.returns rfl (by simp) (hb hby d16_58) ?_ (by decide) (by decide)
  show (Q_rm_nbl4 Z  h0 n0) (some (.int (8 : Int32))) s₁.heap _
  rw [e0]
  exact ⟨rfl, N0, rfl⟩
def Q_rm_nbf1 (Z : State) (h0 : Heap) (n0 : Nat) (v : Option Value) (h : Heap) (L : List Loc) : Prop := ∃ (r : Addr) (k : ClassId), v = some (.ref r) ∧ Fr n0 L ∧ Keep h0 h [] ∧ h0.size ≤ r ∧ Arv Z h r k .byte (2 : Int32) [(.int (0 : Int32)), (.int (0 : Int32))] (.int (0 : Int32))
theorem ef_rm_nbf1 (m : MethodId) : entryFrame m #[(.int (1 : Int32))] 1 = mkF m 0 #[.val (.int (1 : Int32))] [] := by first | (simp [entryFrame, mkF, argsToLocals, Value.category]; done) | rfl
set_option maxRecDepth 65536 in
set_option maxHeartbeats 40000000 in
theorem rm_nbf1 (l : Launch) (Z : State) (a0 : Array Value) (hw : ∀ d ∈ tables_1, d.before a0 Z = true) (ws : List Jvm.Cond) (h0 : Heap) (n0 : Nat) (Z0 : n0 ≤ h0.size) :
    MetFree l (⟨"java/lang/StringUTF16", "newBytesFor", "(I)[B"⟩ : MethodName) (head1 (Jvm.Cond.code (⟨"java/lang/StringUTF16", "newBytesFor", "(I)[B"⟩ : MethodName) jdk_52_method_2_code 1 (some (.array .byte)) :: ws) ({ frames := 1, cells := 1, slots := 2, locals := 12 } : Room)) (fun a_ U_ => a_ = #[(.int (1 : Int32))] ∧ Z.Warmed39 U_.vm ∧ U_.heap = h0) (fun _ _ _ _ _ => True) (fun _ U_ o_ V_ => ∃ v_ L_, o_ = .returned v_ ∧ (Q_rm_nbf1 Z  h0 n0) v_ V_.heap L_ ∧ FrameEnd U_ o_ V_ L_ ({ frames := 1, cells := 1, slots := 2, locals := 12 } : Room).cells ({ frames := 1, cells := 1, slots := 2, locals := 12 } : Room).slots) := by
  refine MetFree.of_bodySF (plainFor_of_name pn_0) hisR ?_
  intro p e s m args below meth c s₁ Bd hml0 hP hK
  obtain ⟨rfl, hZ, hh⟩ := hP
  have hx := Bd.exec
  have hby := Bd.bytes
  have hml : c.maxLocals = 1 := hml0
  have hown : s.vm.findClass "java/lang/StringUTF16" = some m.cls := findClass_of_methodNamed Bd.named
  have hnm := (name_of_methodNamed Bd.named Bd.method).1
  have X0 : Stand p l e ({ frames := 1, cells := 1, slots := 2, locals := 12 } : Room) s m #[(.int (1 : Int32))] below meth c s₁ [] 0 0 := Stand.of_body Bd
  have e0 : s₁.heap = h0 := by rw [← hh, Bd.state]; rfl
  have N0 := Fr.nil n0
  have K0 : Keep h0 h0 [] := Keep.refl _ _
  show own_Fin p.tables e below (own_Post (Q_rm_nbf1 Z  h0 n0) ({ frames := 1, cells := 1, slots := 2, locals := 12 } : Room).cells ({ frames := 1, cells := 1, slots := 2, locals := 12 } : Room).slots below s) _
  refine own_go (fun _ q => castTop (ef_rm_nbf1 m ) q) ?_
  refine own_go (fun _ q => XS.iloadN X0.here hx rfl (hb hby d15_0) rfl q) ?_
  show own_Fin _ _ _ _ (s₁.setTop (mkF m 1 #[.val (.int (1 : Int32))] [(.int (1 : Int32))]))
  obtain ⟨_, _, ⟨T1, L1, k1, n1⟩, -, X1, ⟨Lc1, hQ1, l1, y1, z1⟩, st1⟩ := Jvm.LawKit.callS X0 hx (y := (⟨"java/lang/StringUTF16", "newBytesLength", "(I)I"⟩ : MethodName)) hown (mvT hZ (own_w hw 68 rfl)) (mvT hZ (own_w hw 69 rfl)) (mvT hZ (own_w hw 23 rfl)) (mvT hZ (own_w hw 70 rfl)) (by decide) (backOf (W := 0) (rm_nbl1 l Z a0 hw [] h0 n0 (Nat.le_trans Z0 K0.1)) hZ (own_w hw 70 rfl) (own_w hw 23 rfl) (by decide) (by decide)) (g := (mkF m 1 #[.val (.int (1 : Int32))] [(.int (1 : Int32))])) rfl (by rw [hml]; rfl) (argsL := [(.int (1 : Int32))]) (rest := []) (lenOf pd_1 rfl) rfl (by show 2 * 0 + _ ≤ _; exact Nat.le_of_eq rfl) (hb hby d15_1) (fun _ _ => ⟨rfl, e0, (by decide : 0 + 0 ≤ _), (by decide : 0 + 0 ≤ _)⟩)
  dsimp only [Pt.U, Pt.locs, Pt.cells, Pt.slots] at X1 l1 y1 z1 st1 hQ1
  subst l1 y1 z1
  obtain ⟨rfl, N1q, e1⟩ := hQ1
  have N1 := Fr.app N0 N1q
  refine own_go st1 ?_
  show own_Fin _ _ _ _ (T1.setTop (mkF m 4 #[.val (.int (1 : Int32))] [(.int (2 : Int32))]))
  obtain ⟨T2, h2, k2, X2, e2, E2, A2, st2⟩ := newP X1 hx hZ (own_w hw 25 rfl) e1 (g := (mkF m 4 #[.val (.int (1 : Int32))] [(.int (2 : Int32))])) rfl (hb hby d15_4) rfl (by decide) (cap := 2) (by decide) (by decide) (by decide) (by decide)
  obtain ⟨b2, g2⟩ : ∃ z, z = h0.size := ⟨_, rfl⟩
  rw [← g2] at A2 st2
  have sz_b2 : h0.size ≤ b2 := Nat.le_trans K0.1 (Nat.le_of_eq g2.symm)
  have g_b2 : n0 ≤ b2 := Nat.le_trans Z0 sz_b2
  have K3 := K0.ext E2
  have V2 : Arv Z h2 b2 k2 .byte (2 : Int32) [(.int (0 : Int32)), (.int (0 : Int32))] (.int (0 : Int32)) := (Arv.new A2 (by decide)).pad (pad_rep [] (.int (0 : Int32)) 2)
  refine own_go st2 ?_
  show own_Fin _ _ _ _ (T2.setTop (mkF m 6 #[.val (.int (1 : Int32))] [(.ref b2)]))
  refine own_retA X2 hx Bd (t := (.array .byte)) Bd.returns rfl rfl rfl (hb hby d15_6) ?_ (by decide) (by decide)
  show (Q_rm_nbf1 Z  h0 n0) (some (.ref b2)) T2.heap _
  rw [e2]
  exact ⟨_, _, rfl, N1, K3, sz_b2, V2⟩
def Q_rm_nbf2 (Z : State) (h0 : Heap) (n0 : Nat) (v : Option Value) (h : Heap) (L : List Loc) : Prop := ∃ (r : Addr) (k : ClassId), v = some (.ref r) ∧ Fr n0 L ∧ Keep h0 h [] ∧ h0.size ≤ r ∧ Arv Z h r k .byte (4 : Int32) [(.int (0 : Int32)), (.int (0 : Int32)), (.int (0 : Int32)), (.int (0 : Int32))] (.int (0 : Int32))
theorem ef_rm_nbf2 (m : MethodId) : entryFrame m #[(.int (2 : Int32))] 1 = mkF m 0 #[.val (.int (2 : Int32))] [] := by first | (simp [entryFrame, mkF, argsToLocals, Value.category]; done) | rfl
set_option maxRecDepth 65536 in
set_option maxHeartbeats 40000000 in
theorem rm_nbf2 (l : Launch) (Z : State) (a0 : Array Value) (hw : ∀ d ∈ tables_1, d.before a0 Z = true) (ws : List Jvm.Cond) (h0 : Heap) (n0 : Nat) (Z0 : n0 ≤ h0.size) :
    MetFree l (⟨"java/lang/StringUTF16", "newBytesFor", "(I)[B"⟩ : MethodName) (head1 (Jvm.Cond.code (⟨"java/lang/StringUTF16", "newBytesFor", "(I)[B"⟩ : MethodName) jdk_52_method_2_code 1 (some (.array .byte)) :: ws) ({ frames := 1, cells := 1, slots := 4, locals := 12 } : Room)) (fun a_ U_ => a_ = #[(.int (2 : Int32))] ∧ Z.Warmed39 U_.vm ∧ U_.heap = h0) (fun _ _ _ _ _ => True) (fun _ U_ o_ V_ => ∃ v_ L_, o_ = .returned v_ ∧ (Q_rm_nbf2 Z  h0 n0) v_ V_.heap L_ ∧ FrameEnd U_ o_ V_ L_ ({ frames := 1, cells := 1, slots := 4, locals := 12 } : Room).cells ({ frames := 1, cells := 1, slots := 4, locals := 12 } : Room).slots) := by
  refine MetFree.of_bodySF (plainFor_of_name pn_0) hisR ?_
  intro p e s m args below meth c s₁ Bd hml0 hP hK
  obtain ⟨rfl, hZ, hh⟩ := hP
  have hx := Bd.exec
  have hby := Bd.bytes
  have hml : c.maxLocals = 1 := hml0
  have hown : s.vm.findClass "java/lang/StringUTF16" = some m.cls := findClass_of_methodNamed Bd.named
  have hnm := (name_of_methodNamed Bd.named Bd.method).1
  have X0 : Stand p l e ({ frames := 1, cells := 1, slots := 4, locals := 12 } : Room) s m #[(.int (2 : Int32))] below meth c s₁ [] 0 0 := Stand.of_body Bd
  have e0 : s₁.heap = h0 := by rw [← hh, Bd.state]; rfl
  have N0 := Fr.nil n0
  have K0 : Keep h0 h0 [] := Keep.refl _ _
  show own_Fin p.tables e below (own_Post (Q_rm_nbf2 Z  h0 n0) ({ frames := 1, cells := 1, slots := 4, locals := 12 } : Room).cells ({ frames := 1, cells := 1, slots := 4, locals := 12 } : Room).slots below s) _
  refine own_go (fun _ q => castTop (ef_rm_nbf2 m ) q) ?_
  refine own_go (fun _ q => XS.iloadN X0.here hx rfl (hb hby d15_0) rfl q) ?_
  show own_Fin _ _ _ _ (s₁.setTop (mkF m 1 #[.val (.int (2 : Int32))] [(.int (2 : Int32))]))
  obtain ⟨_, _, ⟨T4, L4, k4, n4⟩, -, X4, ⟨Lc4, hQ4, l4, y4, z4⟩, st4⟩ := Jvm.LawKit.callS X0 hx (y := (⟨"java/lang/StringUTF16", "newBytesLength", "(I)I"⟩ : MethodName)) hown (mvT hZ (own_w hw 68 rfl)) (mvT hZ (own_w hw 69 rfl)) (mvT hZ (own_w hw 23 rfl)) (mvT hZ (own_w hw 70 rfl)) (by decide) (backOf (W := 0) (rm_nbl2 l Z a0 hw [] h0 n0 (Nat.le_trans Z0 K0.1)) hZ (own_w hw 70 rfl) (own_w hw 23 rfl) (by decide) (by decide)) (g := (mkF m 1 #[.val (.int (2 : Int32))] [(.int (2 : Int32))])) rfl (by rw [hml]; rfl) (argsL := [(.int (2 : Int32))]) (rest := []) (lenOf pd_1 rfl) rfl (by show 2 * 0 + _ ≤ _; exact Nat.le_of_eq rfl) (hb hby d15_1) (fun _ _ => ⟨rfl, e0, (by decide : 0 + 0 ≤ _), (by decide : 0 + 0 ≤ _)⟩)
  dsimp only [Pt.U, Pt.locs, Pt.cells, Pt.slots] at X4 l4 y4 z4 st4 hQ4
  subst l4 y4 z4
  obtain ⟨rfl, N4q, e4⟩ := hQ4
  have N4 := Fr.app N0 N4q
  refine own_go st4 ?_
  show own_Fin _ _ _ _ (T4.setTop (mkF m 4 #[.val (.int (2 : Int32))] [(.int (4 : Int32))]))
  obtain ⟨T5, h5, k5, X5, e5, E5, A5, st5⟩ := newP X4 hx hZ (own_w hw 25 rfl) e4 (g := (mkF m 4 #[.val (.int (2 : Int32))] [(.int (4 : Int32))])) rfl (hb hby d15_4) rfl (by decide) (cap := 4) (by decide) (by decide) (by decide) (by decide)
  obtain ⟨b5, g5⟩ : ∃ z, z = h0.size := ⟨_, rfl⟩
  rw [← g5] at A5 st5
  have sz_b5 : h0.size ≤ b5 := Nat.le_trans K0.1 (Nat.le_of_eq g5.symm)
  have g_b5 : n0 ≤ b5 := Nat.le_trans Z0 sz_b5
  have K6 := K0.ext E5
  have V5 : Arv Z h5 b5 k5 .byte (4 : Int32) [(.int (0 : Int32)), (.int (0 : Int32)), (.int (0 : Int32)), (.int (0 : Int32))] (.int (0 : Int32)) := (Arv.new A5 (by decide)).pad (pad_rep [] (.int (0 : Int32)) 4)
  refine own_go st5 ?_
  show own_Fin _ _ _ _ (T5.setTop (mkF m 6 #[.val (.int (2 : Int32))] [(.ref b5)]))
  refine own_retA X5 hx Bd (t := (.array .byte)) Bd.returns rfl rfl rfl (hb hby d15_6) ?_ (by decide) (by decide)
  show (Q_rm_nbf2 Z  h0 n0) (some (.ref b5)) T5.heap _
  rw [e5]
  exact ⟨_, _, rfl, N4, K6, sz_b5, V5⟩
def Q_rm_nbf3 (Z : State) (h0 : Heap) (n0 : Nat) (v : Option Value) (h : Heap) (L : List Loc) : Prop := ∃ (r : Addr) (k : ClassId), v = some (.ref r) ∧ Fr n0 L ∧ Keep h0 h [] ∧ h0.size ≤ r ∧ Arv Z h r k .byte (6 : Int32) [(.int (0 : Int32)), (.int (0 : Int32)), (.int (0 : Int32)), (.int (0 : Int32)), (.int (0 : Int32)), (.int (0 : Int32))] (.int (0 : Int32))
theorem ef_rm_nbf3 (m : MethodId) : entryFrame m #[(.int (3 : Int32))] 1 = mkF m 0 #[.val (.int (3 : Int32))] [] := by first | (simp [entryFrame, mkF, argsToLocals, Value.category]; done) | rfl
set_option maxRecDepth 65536 in
set_option maxHeartbeats 40000000 in
theorem rm_nbf3 (l : Launch) (Z : State) (a0 : Array Value) (hw : ∀ d ∈ tables_1, d.before a0 Z = true) (ws : List Jvm.Cond) (h0 : Heap) (n0 : Nat) (Z0 : n0 ≤ h0.size) :
    MetFree l (⟨"java/lang/StringUTF16", "newBytesFor", "(I)[B"⟩ : MethodName) (head1 (Jvm.Cond.code (⟨"java/lang/StringUTF16", "newBytesFor", "(I)[B"⟩ : MethodName) jdk_52_method_2_code 1 (some (.array .byte)) :: ws) ({ frames := 1, cells := 1, slots := 6, locals := 12 } : Room)) (fun a_ U_ => a_ = #[(.int (3 : Int32))] ∧ Z.Warmed39 U_.vm ∧ U_.heap = h0) (fun _ _ _ _ _ => True) (fun _ U_ o_ V_ => ∃ v_ L_, o_ = .returned v_ ∧ (Q_rm_nbf3 Z  h0 n0) v_ V_.heap L_ ∧ FrameEnd U_ o_ V_ L_ ({ frames := 1, cells := 1, slots := 6, locals := 12 } : Room).cells ({ frames := 1, cells := 1, slots := 6, locals := 12 } : Room).slots) := by
  refine MetFree.of_bodySF (plainFor_of_name pn_0) hisR ?_
  intro p e s m args below meth c s₁ Bd hml0 hP hK
  obtain ⟨rfl, hZ, hh⟩ := hP
  have hx := Bd.exec
  have hby := Bd.bytes
  have hml : c.maxLocals = 1 := hml0
  have hown : s.vm.findClass "java/lang/StringUTF16" = some m.cls := findClass_of_methodNamed Bd.named
  have hnm := (name_of_methodNamed Bd.named Bd.method).1
  have X0 : Stand p l e ({ frames := 1, cells := 1, slots := 6, locals := 12 } : Room) s m #[(.int (3 : Int32))] below meth c s₁ [] 0 0 := Stand.of_body Bd
  have e0 : s₁.heap = h0 := by rw [← hh, Bd.state]; rfl
  have N0 := Fr.nil n0
  have K0 : Keep h0 h0 [] := Keep.refl _ _
  show own_Fin p.tables e below (own_Post (Q_rm_nbf3 Z  h0 n0) ({ frames := 1, cells := 1, slots := 6, locals := 12 } : Room).cells ({ frames := 1, cells := 1, slots := 6, locals := 12 } : Room).slots below s) _
  refine own_go (fun _ q => castTop (ef_rm_nbf3 m ) q) ?_
  refine own_go (fun _ q => XS.iloadN X0.here hx rfl (hb hby d15_0) rfl q) ?_
  show own_Fin _ _ _ _ (s₁.setTop (mkF m 1 #[.val (.int (3 : Int32))] [(.int (3 : Int32))]))
  obtain ⟨_, _, ⟨T7, L7, k7, n7⟩, -, X7, ⟨Lc7, hQ7, l7, y7, z7⟩, st7⟩ := Jvm.LawKit.callS X0 hx (y := (⟨"java/lang/StringUTF16", "newBytesLength", "(I)I"⟩ : MethodName)) hown (mvT hZ (own_w hw 68 rfl)) (mvT hZ (own_w hw 69 rfl)) (mvT hZ (own_w hw 23 rfl)) (mvT hZ (own_w hw 70 rfl)) (by decide) (backOf (W := 0) (rm_nbl3 l Z a0 hw [] h0 n0 (Nat.le_trans Z0 K0.1)) hZ (own_w hw 70 rfl) (own_w hw 23 rfl) (by decide) (by decide)) (g := (mkF m 1 #[.val (.int (3 : Int32))] [(.int (3 : Int32))])) rfl (by rw [hml]; rfl) (argsL := [(.int (3 : Int32))]) (rest := []) (lenOf pd_1 rfl) rfl (by show 2 * 0 + _ ≤ _; exact Nat.le_of_eq rfl) (hb hby d15_1) (fun _ _ => ⟨rfl, e0, (by decide : 0 + 0 ≤ _), (by decide : 0 + 0 ≤ _)⟩)
  dsimp only [Pt.U, Pt.locs, Pt.cells, Pt.slots] at X7 l7 y7 z7 st7 hQ7
  subst l7 y7 z7
  obtain ⟨rfl, N7q, e7⟩ := hQ7
  have N7 := Fr.app N0 N7q
  refine own_go st7 ?_
  show own_Fin _ _ _ _ (T7.setTop (mkF m 4 #[.val (.int (3 : Int32))] [(.int (6 : Int32))]))
  obtain ⟨T8, h8, k8, X8, e8, E8, A8, st8⟩ := newP X7 hx hZ (own_w hw 25 rfl) e7 (g := (mkF m 4 #[.val (.int (3 : Int32))] [(.int (6 : Int32))])) rfl (hb hby d15_4) rfl (by decide) (cap := 6) (by decide) (by decide) (by decide) (by decide)
  obtain ⟨b8, g8⟩ : ∃ z, z = h0.size := ⟨_, rfl⟩
  rw [← g8] at A8 st8
  have sz_b8 : h0.size ≤ b8 := Nat.le_trans K0.1 (Nat.le_of_eq g8.symm)
  have g_b8 : n0 ≤ b8 := Nat.le_trans Z0 sz_b8
  have K9 := K0.ext E8
  have V8 : Arv Z h8 b8 k8 .byte (6 : Int32) [(.int (0 : Int32)), (.int (0 : Int32)), (.int (0 : Int32)), (.int (0 : Int32)), (.int (0 : Int32)), (.int (0 : Int32))] (.int (0 : Int32)) := (Arv.new A8 (by decide)).pad (pad_rep [] (.int (0 : Int32)) 6)
  refine own_go st8 ?_
  show own_Fin _ _ _ _ (T8.setTop (mkF m 6 #[.val (.int (3 : Int32))] [(.ref b8)]))
  refine own_retA X8 hx Bd (t := (.array .byte)) Bd.returns rfl rfl rfl (hb hby d15_6) ?_ (by decide) (by decide)
  show (Q_rm_nbf3 Z  h0 n0) (some (.ref b8)) T8.heap _
  rw [e8]
  exact ⟨_, _, rfl, N7, K9, sz_b8, V8⟩
def Q_rm_nbf4 (Z : State) (h0 : Heap) (n0 : Nat) (v : Option Value) (h : Heap) (L : List Loc) : Prop := ∃ (r : Addr) (k : ClassId), v = some (.ref r) ∧ Fr n0 L ∧ Keep h0 h [] ∧ h0.size ≤ r ∧ Arv Z h r k .byte (8 : Int32) [(.int (0 : Int32)), (.int (0 : Int32)), (.int (0 : Int32)), (.int (0 : Int32)), (.int (0 : Int32)), (.int (0 : Int32)), (.int (0 : Int32)), (.int (0 : Int32))] (.int (0 : Int32))
theorem ef_rm_nbf4 (m : MethodId) : entryFrame m #[(.int (4 : Int32))] 1 = mkF m 0 #[.val (.int (4 : Int32))] [] := by first | (simp [entryFrame, mkF, argsToLocals, Value.category]; done) | rfl
set_option maxRecDepth 65536 in
set_option maxHeartbeats 40000000 in
theorem rm_nbf4 (l : Launch) (Z : State) (a0 : Array Value) (hw : ∀ d ∈ tables_1, d.before a0 Z = true) (ws : List Jvm.Cond) (h0 : Heap) (n0 : Nat) (Z0 : n0 ≤ h0.size) :
    MetFree l (⟨"java/lang/StringUTF16", "newBytesFor", "(I)[B"⟩ : MethodName) (head1 (Jvm.Cond.code (⟨"java/lang/StringUTF16", "newBytesFor", "(I)[B"⟩ : MethodName) jdk_52_method_2_code 1 (some (.array .byte)) :: ws) ({ frames := 1, cells := 1, slots := 8, locals := 12 } : Room)) (fun a_ U_ => a_ = #[(.int (4 : Int32))] ∧ Z.Warmed39 U_.vm ∧ U_.heap = h0) (fun _ _ _ _ _ => True) (fun _ U_ o_ V_ => ∃ v_ L_, o_ = .returned v_ ∧ (Q_rm_nbf4 Z  h0 n0) v_ V_.heap L_ ∧ FrameEnd U_ o_ V_ L_ ({ frames := 1, cells := 1, slots := 8, locals := 12 } : Room).cells ({ frames := 1, cells := 1, slots := 8, locals := 12 } : Room).slots) := by
  refine MetFree.of_bodySF (plainFor_of_name pn_0) hisR ?_
  intro p e s m args below meth c s₁ Bd hml0 hP hK
  obtain ⟨rfl, hZ, hh⟩ := hP
  have hx := Bd.exec
  have hby := Bd.bytes
  have hml : c.maxLocals = 1 := hml0
  have hown : s.vm.findClass "java/lang/StringUTF16" = some m.cls := findClass_of_methodNamed Bd.named
  have hnm := (name_of_methodNamed Bd.named Bd.method).1
  have X0 : Stand p l e ({ frames := 1, cells := 1, slots := 8, locals := 12 } : Room) s m #[(.int (4 : Int32))] below meth c s₁ [] 0 0 := Stand.of_body Bd
  have e0 : s₁.heap = h0 := by rw [← hh, Bd.state]; rfl
  have N0 := Fr.nil n0
  have K0 : Keep h0 h0 [] := Keep.refl _ _
  show own_Fin p.tables e below (own_Post (Q_rm_nbf4 Z  h0 n0) ({ frames := 1, cells := 1, slots := 8, locals := 12 } : Room).cells ({ frames := 1, cells := 1, slots := 8, locals := 12 } : Room).slots below s) _
  refine own_go (fun _ q => castTop (ef_rm_nbf4 m ) q) ?_
  refine own_go (fun _ q => XS.iloadN X0.here hx rfl (hb hby d15_0) rfl q) ?_
  show own_Fin _ _ _ _ (s₁.setTop (mkF m 1 #[.val (.int (4 : Int32))] [(.int (4 : Int32))]))
  obtain ⟨_, _, ⟨T10, L10, k10, n10⟩, -, X10, ⟨Lc10, hQ10, l10, y10, z10⟩, st10⟩ := Jvm.LawKit.callS X0 hx (y := (⟨"java/lang/StringUTF16", "newBytesLength", "(I)I"⟩ : MethodName)) hown (mvT hZ (own_w hw 68 rfl)) (mvT hZ (own_w hw 69 rfl)) (mvT hZ (own_w hw 23 rfl)) (mvT hZ (own_w hw 70 rfl)) (by decide) (backOf (W := 0) (rm_nbl4 l Z a0 hw [] h0 n0 (Nat.le_trans Z0 K0.1)) hZ (own_w hw 70 rfl) (own_w hw 23 rfl) (by decide) (by decide)) (g := (mkF m 1 #[.val (.int (4 : Int32))] [(.int (4 : Int32))])) rfl (by rw [hml]; rfl) (argsL := [(.int (4 : Int32))]) (rest := []) (lenOf pd_1 rfl) rfl (by show 2 * 0 + _ ≤ _; exact Nat.le_of_eq rfl) (hb hby d15_1) (fun _ _ => ⟨rfl, e0, (by decide : 0 + 0 ≤ _), (by decide : 0 + 0 ≤ _)⟩)
  dsimp only [Pt.U, Pt.locs, Pt.cells, Pt.slots] at X10 l10 y10 z10 st10 hQ10
  subst l10 y10 z10
  obtain ⟨rfl, N10q, e10⟩ := hQ10
  have N10 := Fr.app N0 N10q
  refine own_go st10 ?_
  show own_Fin _ _ _ _ (T10.setTop (mkF m 4 #[.val (.int (4 : Int32))] [(.int (8 : Int32))]))
  obtain ⟨T11, h11, k11, X11, e11, E11, A11, st11⟩ := newP X10 hx hZ (own_w hw 25 rfl) e10 (g := (mkF m 4 #[.val (.int (4 : Int32))] [(.int (8 : Int32))])) rfl (hb hby d15_4) rfl (by decide) (cap := 8) (by decide) (by decide) (by decide) (by decide)
  obtain ⟨b11, g11⟩ : ∃ z, z = h0.size := ⟨_, rfl⟩
  rw [← g11] at A11 st11
  have sz_b11 : h0.size ≤ b11 := Nat.le_trans K0.1 (Nat.le_of_eq g11.symm)
  have g_b11 : n0 ≤ b11 := Nat.le_trans Z0 sz_b11
  have K12 := K0.ext E11
  have V11 : Arv Z h11 b11 k11 .byte (8 : Int32) [(.int (0 : Int32)), (.int (0 : Int32)), (.int (0 : Int32)), (.int (0 : Int32)), (.int (0 : Int32)), (.int (0 : Int32)), (.int (0 : Int32)), (.int (0 : Int32))] (.int (0 : Int32)) := (Arv.new A11 (by decide)).pad (pad_rep [] (.int (0 : Int32)) 8)
  refine own_go st11 ?_
  show own_Fin _ _ _ _ (T11.setTop (mkF m 6 #[.val (.int (4 : Int32))] [(.ref b11)]))
  refine own_retA X11 hx Bd (t := (.array .byte)) Bd.returns rfl rfl rfl (hb hby d15_6) ?_ (by decide) (by decide)
  show (Q_rm_nbf4 Z  h0 n0) (some (.ref b11)) T11.heap _
  rw [e11]
  exact ⟨_, _, rfl, N10, K12, sz_b11, V11⟩
def Q_rm_pc (Z : State) (bb : Addr) (kb : ClassId) (ii : Int32) (chx : Int32) (nn : Int32) (vs : List Value) (k1 : Nat) (k2 : Nat) (h0 : Heap) (n0 : Nat) (v : Option Value) (h : Heap) (L : List Loc) : Prop := v = none ∧ Fr n0 L ∧ Keep h0 h [bb] ∧ Arv Z h bb kb .byte nn ((vs.set k1 (.int (chx.toInt8.toInt32))).set k2 (.int ((chx >>> ((8 : Int32) &&& 31)).toInt8.toInt32))) (.int (0 : Int32))
theorem ef_rm_pc (m : MethodId) (bb : Addr) (ii : Int32) (chx : Int32) (nn : Int32) : entryFrame m #[(.ref bb), (.int ii), (.int chx)] 3 = mkF m 0 #[.val (.ref bb), .val (.int ii), .val (.int chx)] [] := by first | (simp [entryFrame, mkF, argsToLocals, Value.category]; done) | rfl
set_option maxRecDepth 65536 in
set_option maxHeartbeats 40000000 in
theorem rm_pc (l : Launch) (Z : State) (a0 : Array Value) (hw : ∀ d ∈ tables_1, d.before a0 Z = true) (ws : List Jvm.Cond) (bb : Addr) (kb : ClassId) (ii : Int32) (chx : Int32) (nn : Int32) (vs : List Value) (k1 : Nat) (k2 : Nat) (h0 : Heap) (n0 : Nat) (Z0 : n0 ≤ h0.size) (V_bb : Arv Z h0 bb kb .byte nn vs (.int (0 : Int32))) (g_bb : n0 ≤ bb) (hj1 : ¬ (ii <<< ((1 : Int32) &&& 31)) < 0 ∧ (ii <<< ((1 : Int32) &&& 31)) < nn) (hj2 : ¬ ((ii <<< ((1 : Int32) &&& 31)) + (1 : Int32)) < 0 ∧ ((ii <<< ((1 : Int32) &&& 31)) + (1 : Int32)) < nn) (hk1 : (ii <<< ((1 : Int32) &&& 31)).toNatClampNeg = k1) (hk2 : ((ii <<< ((1 : Int32) &&& 31)) + (1 : Int32)).toNatClampNeg = k2) (hl1 : k1 < vs.length) (hl2 : k2 < vs.length) (O0 : Old Z n0 h0) (S_A : Sta Z Z.heap "java/lang/StringUTF16" "$assertionsDisabled" "Z" (.int (1 : Int32))) (S_H : Sta Z Z.heap "java/lang/StringUTF16" "HI_BYTE_SHIFT" "I" (.int (0 : Int32))) (S_L : Sta Z Z.heap "java/lang/StringUTF16" "LO_BYTE_SHIFT" "I" (.int (8 : Int32))) :
    MetFree l (⟨"java/lang/StringUTF16", "putChar", "([BII)V"⟩ : MethodName) (head1 (Jvm.Cond.code (⟨"java/lang/StringUTF16", "putChar", "([BII)V"⟩ : MethodName) jdk_52_method_4_code 3 none :: ws) ({ frames := 0, cells := 0, slots := 0, locals := 0 } : Room)) (fun a_ U_ => a_ = #[(.ref bb), (.int ii), (.int chx)] ∧ Z.Warmed39 U_.vm ∧ U_.heap = h0) (fun _ _ _ _ _ => True) (fun _ U_ o_ V_ => ∃ v_ L_, o_ = .returned v_ ∧ (Q_rm_pc Z bb kb ii chx nn vs k1 k2 h0 n0) v_ V_.heap L_ ∧ FrameEnd U_ o_ V_ L_ ({ frames := 0, cells := 0, slots := 0, locals := 0 } : Room).cells ({ frames := 0, cells := 0, slots := 0, locals := 0 } : Room).slots) := by
  refine MetFree.of_bodySF (plainFor_of_name pn_0) hisR ?_
  intro p e s m args below meth c s₁ Bd hml0 hP hK
  obtain ⟨rfl, hZ, hh⟩ := hP
  have hx := Bd.exec
  have hby := Bd.bytes
  have hml : c.maxLocals = 3 := hml0
  have hown : s.vm.findClass "java/lang/StringUTF16" = some m.cls := findClass_of_methodNamed Bd.named
  have hnm := (name_of_methodNamed Bd.named Bd.method).1
  have X0 : Stand p l e ({ frames := 0, cells := 0, slots := 0, locals := 0 } : Room) s m #[(.ref bb), (.int ii), (.int chx)] below meth c s₁ [] 0 0 := Stand.of_body Bd
  have e0 : s₁.heap = h0 := by rw [← hh, Bd.state]; rfl
  have N0 := Fr.nil n0
  have K0 : Keep h0 h0 [bb] := Keep.refl _ _
  show own_Fin p.tables e below (own_Post (Q_rm_pc Z bb kb ii chx nn vs k1 k2 h0 n0) ({ frames := 0, cells := 0, slots := 0, locals := 0 } : Room).cells ({ frames := 0, cells := 0, slots := 0, locals := 0 } : Room).slots below s) _
  refine own_go (fun _ q => castTop (ef_rm_pc m bb ii chx nn) q) ?_
  show own_Fin _ _ _ _ (s₁.setTop (mkF m 0 #[.val (.ref bb), .val (.int ii), .val (.int chx)] []))
  obtain ⟨T13, X13, e13, st13⟩ := getS2 X0 hx hZ hown (host := "") (Or.inl (own_w hw 75 rfl)) Via.refl e0 (S_A.ext O0.2) (g := (mkF m 0 #[.val (.ref bb), .val (.int ii), .val (.int chx)] [])) rfl (hb hby d17_0)
  refine own_go st13 ?_
  show own_Fin _ _ _ _ (T13.setTop (mkF m 3 #[.val (.ref bb), .val (.int ii), .val (.int chx)] [(.int (1 : Int32))]))
  refine own_go (fun _ q => XS.ifYes X13.here hx rfl (pc0 := 3) (pc' := 28) rfl (hb hby d17_3) rfl ((if0 _ _).trans (feq (by decide : ¬ (1 : Int32) = (0 : Int32))).2) (by decide) (by decide) q) ?_
  refine own_go (fun _ q => XS.iloadN X13.here hx rfl (hb hby d17_28) rfl q) ?_
  refine own_go (fun _ q => XS.iconst X13.here hx rfl (hb hby d17_29) q) ?_
  show own_Fin _ _ _ _ (T13.setTop (mkF m 30 #[.val (.ref bb), .val (.int ii), .val (.int chx)] [(.int (1 : Int32)), (.int ii)]))
  refine own_go (fun _ q => XS.ishl X13.here hx rfl (hb hby d17_30) rfl q) ?_
  refine own_go (fun _ q => XS.istoreN X13.here hx rfl (hb hby d17_31) rfl (l' := #[.val (.ref bb), .val (.int (ii <<< ((1 : Int32) &&& 31))), .val (.int chx)]) rfl q) ?_
  refine own_go (fun _ q => XS.aloadN X13.here hx rfl (hb hby d17_32) rfl rfl q) ?_
  refine own_go (fun _ q => XS.iloadN X13.here hx rfl (hb hby d17_33) rfl q) ?_
  show own_Fin _ _ _ _ (T13.setTop (mkF m 34 #[.val (.ref bb), .val (.int (ii <<< ((1 : Int32) &&& 31))), .val (.int chx)] [(.int (ii <<< ((1 : Int32) &&& 31))), (.ref bb)]))
  refine own_go (fun _ q => XS.iinc X13.here hx rfl (hb hby d17_34) rfl (l' := #[.val (.ref bb), .val (.int ((ii <<< ((1 : Int32) &&& 31)) + (1 : Int32))), .val (.int chx)]) rfl q) ?_
  refine own_go (fun _ q => XS.iloadN X13.here hx rfl (hb hby d17_37) rfl q) ?_
  show own_Fin _ _ _ _ (T13.setTop (mkF m 38 #[.val (.ref bb), .val (.int ((ii <<< ((1 : Int32) &&& 31)) + (1 : Int32))), .val (.int chx)] [(.int chx), (.int (ii <<< ((1 : Int32) &&& 31))), (.ref bb)]))
  obtain ⟨T14, X14, e14, st14⟩ := getS2 X13 hx hZ hown (host := "") (Or.inl (own_w hw 76 rfl)) Via.refl e13 (S_H.ext O0.2) (g := (mkF m 38 #[.val (.ref bb), .val (.int ((ii <<< ((1 : Int32) &&& 31)) + (1 : Int32))), .val (.int chx)] [(.int chx), (.int (ii <<< ((1 : Int32) &&& 31))), (.ref bb)])) rfl (hb hby d17_38)
  refine own_go st14 ?_
  show own_Fin _ _ _ _ (T14.setTop (mkF m 41 #[.val (.ref bb), .val (.int ((ii <<< ((1 : Int32) &&& 31)) + (1 : Int32))), .val (.int chx)] [(.int (0 : Int32)), (.int chx), (.int (ii <<< ((1 : Int32) &&& 31))), (.ref bb)]))
  refine own_go (fun _ q => XS.ishr X14.here hx rfl (hb hby d17_41) rfl q) ?_
  show own_Fin _ _ _ _ (T14.setTop (mkF m 42 #[.val (.ref bb), .val (.int ((ii <<< ((1 : Int32) &&& 31)) + (1 : Int32))), .val (.int chx)] [(.int (chx >>> ((0 : Int32) &&& 31))), (.int (ii <<< ((1 : Int32) &&& 31))), (.ref bb)]))
  rw [StrChars.shr0]
  show own_Fin _ _ _ _ (T14.setTop (mkF m 42 #[.val (.ref bb), .val (.int ((ii <<< ((1 : Int32) &&& 31)) + (1 : Int32))), .val (.int chx)] [(.int chx), (.int (ii <<< ((1 : Int32) &&& 31))), (.ref bb)]))
  refine own_go (fun _ q => XS.i2b X14.here hx rfl (hb hby d17_42) rfl q) ?_
  show own_Fin _ _ _ _ (T14.setTop (mkF m 43 #[.val (.ref bb), .val (.int ((ii <<< ((1 : Int32) &&& 31)) + (1 : Int32))), .val (.int chx)] [(.int (chx.toInt8.toInt32)), (.int (ii <<< ((1 : Int32) &&& 31))), (.ref bb)]))
  obtain ⟨T15, h15, X15, e15, W15, V15, st15⟩ := own_stB X14 hx hZ e14 V_bb hj1 (i := k1) hk1 hl1 (g := (mkF m 43 #[.val (.ref bb), .val (.int ((ii <<< ((1 : Int32) &&& 31)) + (1 : Int32))), .val (.int chx)] [(.int (chx.toInt8.toInt32)), (.int (ii <<< ((1 : Int32) &&& 31))), (.ref bb)])) rfl rfl (hb hby d17_43)
  rw [own_b8] at V15
  replace V_bb : Arv Z h15 bb kb .byte nn (vs.set k1 (.int (chx.toInt8.toInt32))) (.int (0 : Int32)) := V15
  have N15 := Fr.snoc X15 N0 g_bb
  refine own_go st15 ?_
  replace O0 := O0.wr W15 g_bb
  have K16 := K0.wr W15 (Or.inl (by simp))
  refine own_go (fun _ q => XS.aloadN X15.here hx rfl (hb hby d17_44) rfl rfl q) ?_
  refine own_go (fun _ q => XS.iloadN X15.here hx rfl (hb hby d17_45) rfl q) ?_
  refine own_go (fun _ q => XS.iloadN X15.here hx rfl (hb hby d17_46) rfl q) ?_
  show own_Fin _ _ _ _ (T15.setTop (mkF m 47 #[.val (.ref bb), .val (.int ((ii <<< ((1 : Int32) &&& 31)) + (1 : Int32))), .val (.int chx)] [(.int chx), (.int ((ii <<< ((1 : Int32) &&& 31)) + (1 : Int32))), (.ref bb)]))
  obtain ⟨T17, X17, e17, st17⟩ := getS2 X15 hx hZ hown (host := "") (Or.inl (own_w hw 77 rfl)) Via.refl e15 (S_L.ext O0.2) (g := (mkF m 47 #[.val (.ref bb), .val (.int ((ii <<< ((1 : Int32) &&& 31)) + (1 : Int32))), .val (.int chx)] [(.int chx), (.int ((ii <<< ((1 : Int32) &&& 31)) + (1 : Int32))), (.ref bb)])) rfl (hb hby d17_47)
  refine own_go st17 ?_
  show own_Fin _ _ _ _ (T17.setTop (mkF m 50 #[.val (.ref bb), .val (.int ((ii <<< ((1 : Int32) &&& 31)) + (1 : Int32))), .val (.int chx)] [(.int (8 : Int32)), (.int chx), (.int ((ii <<< ((1 : Int32) &&& 31)) + (1 : Int32))), (.ref bb)]))
  refine own_go (fun _ q => XS.ishr X17.here hx rfl (hb hby d17_50) rfl q) ?_
  show own_Fin _ _ _ _ (T17.setTop (mkF m 51 #[.val (.ref bb), .val (.int ((ii <<< ((1 : Int32) &&& 31)) + (1 : Int32))), .val (.int chx)] [(.int (chx >>> ((8 : Int32) &&& 31))), (.int ((ii <<< ((1 : Int32) &&& 31)) + (1 : Int32))), (.ref bb)]))
  refine own_go (fun _ q => XS.i2b X17.here hx rfl (hb hby d17_51) rfl q) ?_
  show own_Fin _ _ _ _ (T17.setTop (mkF m 52 #[.val (.ref bb), .val (.int ((ii <<< ((1 : Int32) &&& 31)) + (1 : Int32))), .val (.int chx)] [(.int ((chx >>> ((8 : Int32) &&& 31)).toInt8.toInt32)), (.int ((ii <<< ((1 : Int32) &&& 31)) + (1 : Int32))), (.ref bb)]))
  obtain ⟨T18, h18, X18, e18, W18, V18, st18⟩ := own_stB X17 hx hZ e17 V_bb hj2 (i := k2) hk2 (by rw [List.length_set]; exact hl2) (g := (mkF m 52 #[.val (.ref bb), .val (.int ((ii <<< ((1 : Int32) &&& 31)) + (1 : Int32))), .val (.int chx)] [(.int ((chx >>> ((8 : Int32) &&& 31)).toInt8.toInt32)), (.int ((ii <<< ((1 : Int32) &&& 31)) + (1 : Int32))), (.ref bb)])) rfl rfl (hb hby d17_52)
  rw [own_b8] at V18
  replace V_bb : Arv Z h18 bb kb .byte nn ((vs.set k1 (.int (chx.toInt8.toInt32))).set k2 (.int ((chx >>> ((8 : Int32) &&& 31)).toInt8.toInt32))) (.int (0 : Int32)) := V18
  have N18 := Fr.snoc X18 N15 g_bb
  refine own_go st18 ?_
  replace O0 := O0.wr W18 g_bb
  have K19 := K16.wr W18 (Or.inl (by simp))
  show own_Fin _ _ _ _ (T18.setTop (mkF m 53 #[.val (.ref bb), .val (.int ((ii <<< ((1 : Int32) &&& 31)) + (1 : Int32))), .val (.int chx)] []))
  refine own_ret0 X18 hx Bd (hb hby d17_53) ?_ (by decide) (by decide)
  show (Q_rm_pc Z bb kb ii chx nn vs k1 k2 h0 n0) none T18.heap _
  rw [e18]
  exact ⟨rfl, N18, K19, V_bb⟩
def Q_rm_gc (Z : State) (bb : Addr) (kb : ClassId) (ii : Int32) (chx : Int32) (nn : Int32) (vs : List Value) (h0 : Heap) (n0 : Nat) (v : Option Value) (h : Heap) (L : List Loc) : Prop := v = some (.int chx) ∧ Fr n0 L ∧ h = h0
theorem ef_rm_gc (m : MethodId) (bb : Addr) (ii : Int32) (chx : Int32) (nn : Int32) : entryFrame m #[(.ref bb), (.int ii)] 2 = mkF m 0 #[.val (.ref bb), .val (.int ii)] [] := by first | (simp [entryFrame, mkF, argsToLocals, Value.category]; done) | rfl
set_option maxRecDepth 65536 in
set_option maxHeartbeats 40000000 in
theorem rm_gc (l : Launch) (Z : State) (a0 : Array Value) (hw : ∀ d ∈ tables_1, d.before a0 Z = true) (ws : List Jvm.Cond) (bb : Addr) (kb : ClassId) (ii : Int32) (chx : Int32) (nn : Int32) (vs : List Value) (h0 : Heap) (n0 : Nat) (Z0 : n0 ≤ h0.size) (V_bb : Arv Z h0 bb kb .byte nn vs (.int (0 : Int32))) (hj1 : ¬ (ii <<< ((1 : Int32) &&& 31)) < 0 ∧ (ii <<< ((1 : Int32) &&& 31)) < nn) (hj2 : ¬ ((ii <<< ((1 : Int32) &&& 31)) + (1 : Int32)) < 0 ∧ ((ii <<< ((1 : Int32) &&& 31)) + (1 : Int32)) < nn) (hv1 : vs.getD (ii <<< ((1 : Int32) &&& 31)).toNatClampNeg (.int (0 : Int32)) = .int (chx.toInt8.toInt32)) (hv2 : vs.getD ((ii <<< ((1 : Int32) &&& 31)) + (1 : Int32)).toNatClampNeg (.int (0 : Int32)) = .int ((chx >>> ((8 : Int32) &&& 31)).toInt8.toInt32)) (hbx : ¬ chx < 0 ∧ ¬ (65535 : Int32) < chx) (O0 : Old Z n0 h0) (S_A : Sta Z Z.heap "java/lang/StringUTF16" "$assertionsDisabled" "Z" (.int (1 : Int32))) (S_H : Sta Z Z.heap "java/lang/StringUTF16" "HI_BYTE_SHIFT" "I" (.int (0 : Int32))) (S_L : Sta Z Z.heap "java/lang/StringUTF16" "LO_BYTE_SHIFT" "I" (.int (8 : Int32))) :
    MetFree l (⟨"java/lang/StringUTF16", "getChar", "([BI)C"⟩ : MethodName) (head1 (Jvm.Cond.code (⟨"java/lang/StringUTF16", "getChar", "([BI)C"⟩ : MethodName) jdk_52_method_5_code 2 (some .char) :: ws) ({ frames := 0, cells := 0, slots := 0, locals := 0 } : Room)) (fun a_ U_ => a_ = #[(.ref bb), (.int ii)] ∧ Z.Warmed39 U_.vm ∧ U_.heap = h0) (fun _ _ _ _ _ => True) (fun _ U_ o_ V_ => ∃ v_ L_, o_ = .returned v_ ∧ (Q_rm_gc Z bb kb ii chx nn vs h0 n0) v_ V_.heap L_ ∧ FrameEnd U_ o_ V_ L_ ({ frames := 0, cells := 0, slots := 0, locals := 0 } : Room).cells ({ frames := 0, cells := 0, slots := 0, locals := 0 } : Room).slots) := by
  refine MetFree.of_bodySF (plainFor_of_name pn_0) hisR ?_
  intro p e s m args below meth c s₁ Bd hml0 hP hK
  obtain ⟨rfl, hZ, hh⟩ := hP
  have hx := Bd.exec
  have hby := Bd.bytes
  have hml : c.maxLocals = 2 := hml0
  have hown : s.vm.findClass "java/lang/StringUTF16" = some m.cls := findClass_of_methodNamed Bd.named
  have hnm := (name_of_methodNamed Bd.named Bd.method).1
  have X0 : Stand p l e ({ frames := 0, cells := 0, slots := 0, locals := 0 } : Room) s m #[(.ref bb), (.int ii)] below meth c s₁ [] 0 0 := Stand.of_body Bd
  have e0 : s₁.heap = h0 := by rw [← hh, Bd.state]; rfl
  have N0 := Fr.nil n0
  have K0 : Keep h0 h0 [] := Keep.refl _ _
  show own_Fin p.tables e below (own_Post (Q_rm_gc Z bb kb ii chx nn vs h0 n0) ({ frames := 0, cells := 0, slots := 0, locals := 0 } : Room).cells ({ frames := 0, cells := 0, slots := 0, locals := 0 } : Room).slots below s) _
  refine own_go (fun _ q => castTop (ef_rm_gc m bb ii chx nn) q) ?_
  show own_Fin _ _ _ _ (s₁.setTop (mkF m 0 #[.val (.ref bb), .val (.int ii)] []))
  obtain ⟨T20, X20, e20, st20⟩ := getS2 X0 hx hZ hown (host := "") (Or.inl (own_w hw 75 rfl)) Via.refl e0 (S_A.ext O0.2) (g := (mkF m 0 #[.val (.ref bb), .val (.int ii)] [])) rfl (hb hby d18_0)
  refine own_go st20 ?_
  show own_Fin _ _ _ _ (T20.setTop (mkF m 3 #[.val (.ref bb), .val (.int ii)] [(.int (1 : Int32))]))
  refine own_go (fun _ q => XS.ifYes X20.here hx rfl (pc0 := 3) (pc' := 28) rfl (hb hby d18_3) rfl ((if0 _ _).trans (feq (by decide : ¬ (1 : Int32) = (0 : Int32))).2) (by decide) (by decide) q) ?_
  refine own_go (fun _ q => XS.iloadN X20.here hx rfl (hb hby d18_28) rfl q) ?_
  refine own_go (fun _ q => XS.iconst X20.here hx rfl (hb hby d18_29) q) ?_
  show own_Fin _ _ _ _ (T20.setTop (mkF m 30 #[.val (.ref bb), .val (.int ii)] [(.int (1 : Int32)), (.int ii)]))
  refine own_go (fun _ q => XS.ishl X20.here hx rfl (hb hby d18_30) rfl q) ?_
  refine own_go (fun _ q => XS.istoreN X20.here hx rfl (hb hby d18_31) rfl (l' := #[.val (.ref bb), .val (.int (ii <<< ((1 : Int32) &&& 31)))]) rfl q) ?_
  refine own_go (fun _ q => XS.aloadN X20.here hx rfl (hb hby d18_32) rfl rfl q) ?_
  refine own_go (fun _ q => XS.iloadN X20.here hx rfl (hb hby d18_33) rfl q) ?_
  show own_Fin _ _ _ _ (T20.setTop (mkF m 34 #[.val (.ref bb), .val (.int (ii <<< ((1 : Int32) &&& 31)))] [(.int (ii <<< ((1 : Int32) &&& 31))), (.ref bb)]))
  refine own_go (fun _ q => XS.iinc X20.here hx rfl (hb hby d18_34) rfl (l' := #[.val (.ref bb), .val (.int ((ii <<< ((1 : Int32) &&& 31)) + (1 : Int32)))]) rfl q) ?_
  show own_Fin _ _ _ _ (T20.setTop (mkF m 37 #[.val (.ref bb), .val (.int ((ii <<< ((1 : Int32) &&& 31)) + (1 : Int32)))] [(.int (ii <<< ((1 : Int32) &&& 31))), (.ref bb)]))
  refine own_go (fun _ q => own_baload X20 hx hZ e20 V_bb hj1 (v := (.int (chx.toInt8.toInt32))) (hv1) (g := (mkF m 37 #[.val (.ref bb), .val (.int ((ii <<< ((1 : Int32) &&& 31)) + (1 : Int32)))] [(.int (ii <<< ((1 : Int32) &&& 31))), (.ref bb)])) rfl rfl (hb hby d18_37) _ q) ?_
  refine own_go (fun _ q => XS.sipush X20.here hx rfl (hb hby d18_38) q) ?_
  show own_Fin _ _ _ _ (T20.setTop (mkF m 41 #[.val (.ref bb), .val (.int ((ii <<< ((1 : Int32) &&& 31)) + (1 : Int32)))] [(.int (255 : Int32)), (.int (chx.toInt8.toInt32))]))
  refine own_go (fun _ q => XS.iand X20.here hx rfl (hb hby d18_41) rfl q) ?_
  show own_Fin _ _ _ _ (T20.setTop (mkF m 42 #[.val (.ref bb), .val (.int ((ii <<< ((1 : Int32) &&& 31)) + (1 : Int32)))] [(.int ((chx.toInt8.toInt32) &&& (255 : Int32)))]))
  obtain ⟨T21, X21, e21, st21⟩ := getS2 X20 hx hZ hown (host := "") (Or.inl (own_w hw 76 rfl)) Via.refl e20 (S_H.ext O0.2) (g := (mkF m 42 #[.val (.ref bb), .val (.int ((ii <<< ((1 : Int32) &&& 31)) + (1 : Int32)))] [(.int ((chx.toInt8.toInt32) &&& (255 : Int32)))])) rfl (hb hby d18_42)
  refine own_go st21 ?_
  show own_Fin _ _ _ _ (T21.setTop (mkF m 45 #[.val (.ref bb), .val (.int ((ii <<< ((1 : Int32) &&& 31)) + (1 : Int32)))] [(.int (0 : Int32)), (.int ((chx.toInt8.toInt32) &&& (255 : Int32)))]))
  refine own_go (fun _ q => XS.ishl X21.here hx rfl (hb hby d18_45) rfl q) ?_
  refine own_go (fun _ q => XS.aloadN X21.here hx rfl (hb hby d18_46) rfl rfl q) ?_
  refine own_go (fun _ q => XS.iloadN X21.here hx rfl (hb hby d18_47) rfl q) ?_
  show own_Fin _ _ _ _ (T21.setTop (mkF m 48 #[.val (.ref bb), .val (.int ((ii <<< ((1 : Int32) &&& 31)) + (1 : Int32)))] [(.int ((ii <<< ((1 : Int32) &&& 31)) + (1 : Int32))), (.ref bb), (.int (((chx.toInt8.toInt32) &&& (255 : Int32)) <<< ((0 : Int32) &&& 31)))]))
  refine own_go (fun _ q => own_baload X21 hx hZ e21 V_bb hj2 (v := (.int ((chx >>> ((8 : Int32) &&& 31)).toInt8.toInt32))) (hv2) (g := (mkF m 48 #[.val (.ref bb), .val (.int ((ii <<< ((1 : Int32) &&& 31)) + (1 : Int32)))] [(.int ((ii <<< ((1 : Int32) &&& 31)) + (1 : Int32))), (.ref bb), (.int (((chx.toInt8.toInt32) &&& (255 : Int32)) <<< ((0 : Int32) &&& 31)))])) rfl rfl (hb hby d18_48) _ q) ?_
  refine own_go (fun _ q => XS.sipush X21.here hx rfl (hb hby d18_49) q) ?_
  show own_Fin _ _ _ _ (T21.setTop (mkF m 52 #[.val (.ref bb), .val (.int ((ii <<< ((1 : Int32) &&& 31)) + (1 : Int32)))] [(.int (255 : Int32)), (.int ((chx >>> ((8 : Int32) &&& 31)).toInt8.toInt32)), (.int (((chx.toInt8.toInt32) &&& (255 : Int32)) <<< ((0 : Int32) &&& 31)))]))
  refine own_go (fun _ q => XS.iand X21.here hx rfl (hb hby d18_52) rfl q) ?_
  show own_Fin _ _ _ _ (T21.setTop (mkF m 53 #[.val (.ref bb), .val (.int ((ii <<< ((1 : Int32) &&& 31)) + (1 : Int32)))] [(.int (((chx >>> ((8 : Int32) &&& 31)).toInt8.toInt32) &&& (255 : Int32))), (.int (((chx.toInt8.toInt32) &&& (255 : Int32)) <<< ((0 : Int32) &&& 31)))]))
  obtain ⟨T22, X22, e22, st22⟩ := getS2 X21 hx hZ hown (host := "") (Or.inl (own_w hw 77 rfl)) Via.refl e21 (S_L.ext O0.2) (g := (mkF m 53 #[.val (.ref bb), .val (.int ((ii <<< ((1 : Int32) &&& 31)) + (1 : Int32)))] [(.int (((chx >>> ((8 : Int32) &&& 31)).toInt8.toInt32) &&& (255 : Int32))), (.int (((chx.toInt8.toInt32) &&& (255 : Int32)) <<< ((0 : Int32) &&& 31)))])) rfl (hb hby d18_53)
  refine own_go st22 ?_
  show own_Fin _ _ _ _ (T22.setTop (mkF m 56 #[.val (.ref bb), .val (.int ((ii <<< ((1 : Int32) &&& 31)) + (1 : Int32)))] [(.int (8 : Int32)), (.int (((chx >>> ((8 : Int32) &&& 31)).toInt8.toInt32) &&& (255 : Int32))), (.int (((chx.toInt8.toInt32) &&& (255 : Int32)) <<< ((0 : Int32) &&& 31)))]))
  refine own_go (fun _ q => XS.ishl X22.here hx rfl (hb hby d18_56) rfl q) ?_
  show own_Fin _ _ _ _ (T22.setTop (mkF m 57 #[.val (.ref bb), .val (.int ((ii <<< ((1 : Int32) &&& 31)) + (1 : Int32)))] [(.int ((((chx >>> ((8 : Int32) &&& 31)).toInt8.toInt32) &&& (255 : Int32)) <<< ((8 : Int32) &&& 31))), (.int (((chx.toInt8.toInt32) &&& (255 : Int32)) <<< ((0 : Int32) &&& 31)))]))
  refine own_go (fun _ q => XS.ior X22.here hx rfl (hb hby d18_57) rfl q) ?_
  show own_Fin _ _ _ _ (T22.setTop (mkF m 58 #[.val (.ref bb), .val (.int ((ii <<< ((1 : Int32) &&& 31)) + (1 : Int32)))] [(.int ((((chx.toInt8.toInt32) &&& (255 : Int32)) <<< ((0 : Int32) &&& 31)) ||| ((((chx >>> ((8 : Int32) &&& 31)).toInt8.toInt32) &&& (255 : Int32)) <<< ((8 : Int32) &&& 31))))]))
  refine own_go (fun _ q => XS.i2c X22.here hx rfl (hb hby d18_58) rfl q) ?_
  show own_Fin _ _ _ _ (T22.setTop (mkF m 59 #[.val (.ref bb), .val (.int ((ii <<< ((1 : Int32) &&& 31)) + (1 : Int32)))] [(.int (((((chx.toInt8.toInt32) &&& (255 : Int32)) <<< ((0 : Int32) &&& 31)) ||| ((((chx >>> ((8 : Int32) &&& 31)).toInt8.toInt32) &&& (255 : Int32)) <<< ((8 : Int32) &&& 31))).toUInt32.toUInt16.toUInt32.toInt32))]))
  rw [show (((((chx.toInt8.toInt32) &&& (255 : Int32)) <<< ((0 : Int32) &&& 31)) ||| ((((chx >>> ((8 : Int32) &&& 31)).toInt8.toInt32) &&& (255 : Int32)) <<< ((8 : Int32) &&& 31))).toUInt32.toUInt16.toUInt32.toInt32) = chx from StrChars.pair_says hbx.1 hbx.2]
  show own_Fin _ _ _ _ (T22.setTop (mkF m 59 #[.val (.ref bb), .val (.int ((ii <<< ((1 : Int32) &&& 31)) + (1 : Int32)))] [(.int chx)]))
  refine own_retI X22 hx Bd (t := .char) Bd.returns (StrChars.narrow_ch hbx.1 hbx.2) (by simp) (hb hby d18_59) ?_ (by decide) (by decide)
  show (Q_rm_gc Z bb kb ii chx nn vs h0 n0) (some (.int chx)) T22.heap _
  rw [e22]
  exact ⟨rfl, N0, rfl⟩
def Q_rm_tob1 (Z : State) (bb : Addr) (kb : ClassId) (ch0 : Int32) (h0 : Heap) (n0 : Nat) (v : Option Value) (h : Heap) (L : List Loc) : Prop := ∃ (r : Addr) (k : ClassId), v = some (.ref r) ∧ Fr n0 L ∧ Keep h0 h [] ∧ h0.size ≤ r ∧ Arv Z h r k .byte (2 : Int32) [(.int (ch0.toInt8.toInt32)), (.int ((ch0 >>> ((8 : Int32) &&& 31)).toInt8.toInt32))] (.int (0 : Int32))
theorem ef_rm_tob1 (m : MethodId) (bb : Addr) (ch0 : Int32) : entryFrame m #[(.ref bb), (.int (0 : Int32)), (.int (1 : Int32))] 5 = mkF m 0 #[.val (.ref bb), .val (.int (0 : Int32)), .val (.int (1 : Int32)), .unset, .unset] [] := by first | (simp [entryFrame, mkF, argsToLocals, Value.category]; done) | rfl
set_option maxRecDepth 65536 in
set_option maxHeartbeats 40000000 in
theorem rm_tob1 (l : Launch) (Z : State) (a0 : Array Value) (hw : ∀ d ∈ tables_1, d.before a0 Z = true) (ws : List Jvm.Cond) (bb : Addr) (kb : ClassId) (ch0 : Int32) (h0 : Heap) (n0 : Nat) (Z0 : n0 ≤ h0.size) (V_bb : Arv Z h0 bb kb .char (1 : Int32) [(.int ch0)] (.int (0 : Int32))) (O0 : Old Z n0 h0) (S_A : Sta Z Z.heap "java/lang/StringUTF16" "$assertionsDisabled" "Z" (.int (1 : Int32))) (S_H : Sta Z Z.heap "java/lang/StringUTF16" "HI_BYTE_SHIFT" "I" (.int (0 : Int32))) (S_L : Sta Z Z.heap "java/lang/StringUTF16" "LO_BYTE_SHIFT" "I" (.int (8 : Int32))) :
    MetFree l (⟨"java/lang/StringUTF16", "toBytes", "([CII)[B"⟩ : MethodName) (head1 (Jvm.Cond.code (⟨"java/lang/StringUTF16", "toBytes", "([CII)[B"⟩ : MethodName) jdk_52_method_14_code 5 (some (.array .byte)) :: ws) ({ frames := 2, cells := 1, slots := 2, locals := 24 } : Room)) (fun a_ U_ => a_ = #[(.ref bb), (.int (0 : Int32)), (.int (1 : Int32))] ∧ Z.Warmed39 U_.vm ∧ U_.heap = h0) (fun _ _ _ _ _ => True) (fun _ U_ o_ V_ => ∃ v_ L_, o_ = .returned v_ ∧ (Q_rm_tob1 Z bb kb ch0 h0 n0) v_ V_.heap L_ ∧ FrameEnd U_ o_ V_ L_ ({ frames := 2, cells := 1, slots := 2, locals := 24 } : Room).cells ({ frames := 2, cells := 1, slots := 2, locals := 24 } : Room).slots) := by
  refine MetFree.of_bodySF (plainFor_of_name pn_0) hisR ?_
  intro p e s m args below meth c s₁ Bd hml0 hP hK
  obtain ⟨rfl, hZ, hh⟩ := hP
  have hx := Bd.exec
  have hby := Bd.bytes
  have hml : c.maxLocals = 5 := hml0
  have hown : s.vm.findClass "java/lang/StringUTF16" = some m.cls := findClass_of_methodNamed Bd.named
  have hnm := (name_of_methodNamed Bd.named Bd.method).1
  have X0 : Stand p l e ({ frames := 2, cells := 1, slots := 2, locals := 24 } : Room) s m #[(.ref bb), (.int (0 : Int32)), (.int (1 : Int32))] below meth c s₁ [] 0 0 := Stand.of_body Bd
  have e0 : s₁.heap = h0 := by rw [← hh, Bd.state]; rfl
  have N0 := Fr.nil n0
  have K0 : Keep h0 h0 [] := Keep.refl _ _
  show own_Fin p.tables e below (own_Post (Q_rm_tob1 Z bb kb ch0 h0 n0) ({ frames := 2, cells := 1, slots := 2, locals := 24 } : Room).cells ({ frames := 2, cells := 1, slots := 2, locals := 24 } : Room).slots below s) _
  refine own_go (fun _ q => castTop (ef_rm_tob1 m bb ch0) q) ?_
  refine own_go (fun _ q => XS.iloadN X0.here hx rfl (hb hby d14_0) rfl q) ?_
  show own_Fin _ _ _ _ (s₁.setTop (mkF m 1 #[.val (.ref bb), .val (.int (0 : Int32)), .val (.int (1 : Int32)), .unset, .unset] [(.int (1 : Int32))]))
  obtain ⟨_, _, ⟨T23, L23, k23, n23⟩, -, X23, ⟨Lc23, hQ23, l23, y23, z23⟩, st23⟩ := Jvm.LawKit.callS X0 hx (y := (⟨"java/lang/StringUTF16", "newBytesFor", "(I)[B"⟩ : MethodName)) hown (mvT hZ (own_w hw 65 rfl)) (mvT hZ (own_w hw 66 rfl)) (mvT hZ (own_w hw 23 rfl)) (mvT hZ (own_w hw 67 rfl)) (by decide) (backOf (W := 0) (rm_nbf1 l Z a0 hw [] h0 n0 (Nat.le_trans Z0 K0.1)) hZ (own_w hw 67 rfl) (own_w hw 23 rfl) (by decide) (by decide)) (g := (mkF m 1 #[.val (.ref bb), .val (.int (0 : Int32)), .val (.int (1 : Int32)), .unset, .unset] [(.int (1 : Int32))])) rfl (by rw [hml]; rfl) (argsL := [(.int (1 : Int32))]) (rest := []) (lenOf pd_2 rfl) rfl (by show 2 * 0 + _ ≤ _; exact Nat.le_of_eq rfl) (hb hby d14_1) (fun _ _ => ⟨rfl, e0, (by decide : 0 + 1 ≤ _), (by decide : 0 + 2 ≤ _)⟩)
  dsimp only [Pt.U, Pt.locs, Pt.cells, Pt.slots] at X23 l23 y23 z23 st23 hQ23
  subst l23 y23 z23
  obtain ⟨r23, kk23, rfl, N23q, KK23, sz23, V23⟩ := hQ23
  have N23 := Fr.app N0 N23q
  have sz_r23 : h0.size ≤ r23 := Nat.le_trans K0.1 sz23
  have g_r23 : n0 ≤ r23 := Nat.le_trans Z0 sz_r23
  have ne24 : bb ≠ r23 := Nat.ne_of_lt (Nat.lt_of_lt_of_le V_bb.lt sz23)
  replace V_bb := V_bb.keep KK23 nin0
  replace O0 := O0.keep KK23 all0
  have K25 := K0.trans KK23 all0
  refine own_go st23 ?_
  refine own_go (fun _ q => XS.astoreN X23.here hx rfl (hb hby d14_4) rfl rfl (l' := #[.val (.ref bb), .val (.int (0 : Int32)), .val (.int (1 : Int32)), .val (.ref r23), .unset]) rfl q) ?_
  refine own_go (fun _ q => XS.iconst X23.here hx rfl (hb hby d14_5) q) ?_
  refine own_go (fun _ q => XS.istore X23.here hx rfl (hb hby d14_6) rfl (l' := #[.val (.ref bb), .val (.int (0 : Int32)), .val (.int (1 : Int32)), .val (.ref r23), .val (.int (0 : Int32))]) rfl q) ?_
  refine own_go (fun _ q => XS.iload X23.here hx rfl (hb hby d14_8) rfl q) ?_
  refine own_go (fun _ q => XS.iloadN X23.here hx rfl (hb hby d14_10) rfl q) ?_
  show own_Fin _ _ _ _ (T23.setTop (mkF m 11 #[.val (.ref bb), .val (.int (0 : Int32)), .val (.int (1 : Int32)), .val (.ref r23), .val (.int (0 : Int32))] [(.int (1 : Int32)), (.int (0 : Int32))]))
  refine own_go (fun _ q => XS.icmpNo X23.here hx rfl (hb hby d14_11) rfl (tlt (by decide : (0 : Int32) < (1 : Int32))).2.1 q) ?_
  refine own_go (fun _ q => XS.aloadN X23.here hx rfl (hb hby d14_14) rfl rfl q) ?_
  refine own_go (fun _ q => XS.iload X23.here hx rfl (hb hby d14_15) rfl q) ?_
  refine own_go (fun _ q => XS.aloadN X23.here hx rfl (hb hby d14_17) rfl rfl q) ?_
  refine own_go (fun _ q => XS.iloadN X23.here hx rfl (hb hby d14_18) rfl q) ?_
  show own_Fin _ _ _ _ (T23.setTop (mkF m 19 #[.val (.ref bb), .val (.int (0 : Int32)), .val (.int (1 : Int32)), .val (.ref r23), .val (.int (0 : Int32))] [(.int (0 : Int32)), (.ref bb), (.int (0 : Int32)), (.ref r23)]))
  refine own_go (fun _ q => own_caload X23 hx hZ rfl V_bb (by decide) (v := (.int ch0)) (rfl) (g := (mkF m 19 #[.val (.ref bb), .val (.int (0 : Int32)), .val (.int (1 : Int32)), .val (.ref r23), .val (.int (0 : Int32))] [(.int (0 : Int32)), (.ref bb), (.int (0 : Int32)), (.ref r23)])) rfl rfl (hb hby d14_19) _ q) ?_
  show own_Fin _ _ _ _ (T23.setTop (mkF m 20 #[.val (.ref bb), .val (.int (0 : Int32)), .val (.int (1 : Int32)), .val (.ref r23), .val (.int (0 : Int32))] [(.int ch0), (.int (0 : Int32)), (.ref r23)]))
  obtain ⟨_, _, ⟨T26, L26, k26, n26⟩, -, X26, ⟨Lc26, hQ26, l26, y26, z26⟩, st26⟩ := Jvm.LawKit.callS X23 hx (y := (⟨"java/lang/StringUTF16", "putChar", "([BII)V"⟩ : MethodName)) hown (mvT hZ (own_w hw 72 rfl)) (mvT hZ (own_w hw 73 rfl)) (mvT hZ (own_w hw 23 rfl)) (mvT hZ (own_w hw 74 rfl)) (by decide) (backOf (W := 0) (rm_pc l Z a0 hw [] r23 kk23 (0 : Int32) ch0 (2 : Int32) [(.int (0 : Int32)), (.int (0 : Int32))] 0 1 T23.heap n0 (Nat.le_trans Z0 K25.1) V23 g_r23 (by decide) (by decide) rfl rfl (Nat.le_of_ble_eq_true rfl) (Nat.le_of_ble_eq_true rfl) O0 S_A S_H S_L) hZ (own_w hw 74 rfl) (own_w hw 23 rfl) (by decide) (by decide)) (g := (mkF m 20 #[.val (.ref bb), .val (.int (0 : Int32)), .val (.int (1 : Int32)), .val (.ref r23), .val (.int (0 : Int32))] [(.int ch0), (.int (0 : Int32)), (.ref r23)])) rfl (by rw [hml]; rfl) (argsL := [(.ref r23), (.int (0 : Int32)), (.int ch0)]) (rest := []) (lenOf pd_3 rfl) rfl (by show 2 * 0 + _ ≤ _; exact Nat.le_of_eq rfl) (hb hby d14_20) (fun _ _ => ⟨rfl, rfl, (by decide : 1 + 0 ≤ _), (by decide : 2 + 0 ≤ _)⟩)
  dsimp only [Pt.U, Pt.locs, Pt.cells, Pt.slots] at X26 l26 y26 z26 st26 hQ26
  subst l26 y26 z26
  obtain ⟨rfl, N26q, KK26, V26⟩ := hQ26
  replace V26 : Arv Z _ r23 kk23 .byte (2 : Int32) [(.int (ch0.toInt8.toInt32)), (.int ((ch0 >>> ((8 : Int32) &&& 31)).toInt8.toInt32))] (.int (0 : Int32)) := V26
  have N26 := Fr.app N23 N26q
  replace V_bb := V_bb.keep KK26 (ninS ne24 nin0)
  replace O0 := O0.keep KK26 (allS g_r23 (all0))
  have K27 := K25.trans KK26 (allS (Or.inr sz_r23) all0)
  refine own_go st26 ?_
  show own_Fin _ _ _ _ (T26.setTop (mkF m 23 #[.val (.ref bb), .val (.int (0 : Int32)), .val (.int (1 : Int32)), .val (.ref r23), .val (.int (0 : Int32))] []))
  refine own_go (fun _ q => XS.iinc X26.here hx rfl (hb hby d14_23) rfl (l' := #[.val (.ref bb), .val (.int (1 : Int32)), .val (.int (1 : Int32)), .val (.ref r23), .val (.int (0 : Int32))]) rfl q) ?_
  show own_Fin _ _ _ _ (T26.setTop (mkF m 26 #[.val (.ref bb), .val (.int (1 : Int32)), .val (.int (1 : Int32)), .val (.ref r23), .val (.int (0 : Int32))] []))
  refine own_go (fun _ q => XS.iinc X26.here hx rfl (hb hby d14_26) rfl (l' := #[.val (.ref bb), .val (.int (1 : Int32)), .val (.int (1 : Int32)), .val (.ref r23), .val (.int (1 : Int32))]) rfl q) ?_
  refine own_go (fun _ q => XS.goto X26.here hx rfl (pc0 := 29) (pc' := 8) rfl (hb hby d14_29) (by decide) (by decide) q) ?_
  refine own_go (fun _ q => XS.iload X26.here hx rfl (hb hby d14_8) rfl q) ?_
  refine own_go (fun _ q => XS.iloadN X26.here hx rfl (hb hby d14_10) rfl q) ?_
  show own_Fin _ _ _ _ (T26.setTop (mkF m 11 #[.val (.ref bb), .val (.int (1 : Int32)), .val (.int (1 : Int32)), .val (.ref r23), .val (.int (1 : Int32))] [(.int (1 : Int32)), (.int (1 : Int32))]))
  refine own_go (fun _ q => XS.icmpYes X26.here hx rfl (pc0 := 11) (pc' := 32) rfl (hb hby d14_11) rfl (flt (by decide : ¬ (1 : Int32) < (1 : Int32))).2.1 (by decide) (by decide) q) ?_
  refine own_go (fun _ q => XS.aloadN X26.here hx rfl (hb hby d14_32) rfl rfl q) ?_
  show own_Fin _ _ _ _ (T26.setTop (mkF m 33 #[.val (.ref bb), .val (.int (1 : Int32)), .val (.int (1 : Int32)), .val (.ref r23), .val (.int (1 : Int32))] [(.ref r23)]))
  refine own_retA X26 hx Bd (t := (.array .byte)) Bd.returns rfl rfl rfl (hb hby d14_33) ?_ (by decide) (by decide)
  show (Q_rm_tob1 Z bb kb ch0 h0 n0) (some (.ref r23)) T26.heap _
  exact ⟨_, _, rfl, N26, K27, sz_r23, V26⟩
def Q_rm_tob2 (Z : State) (bb : Addr) (kb : ClassId) (ch0 : Int32) (ch1 : Int32) (h0 : Heap) (n0 : Nat) (v : Option Value) (h : Heap) (L : List Loc) : Prop := ∃ (r : Addr) (k : ClassId), v = some (.ref r) ∧ Fr n0 L ∧ Keep h0 h [] ∧ h0.size ≤ r ∧ Arv Z h r k .byte (4 : Int32) [(.int (ch0.toInt8.toInt32)), (.int ((ch0 >>> ((8 : Int32) &&& 31)).toInt8.toInt32)), (.int (ch1.toInt8.toInt32)), (.int ((ch1 >>> ((8 : Int32) &&& 31)).toInt8.toInt32))] (.int (0 : Int32))
theorem ef_rm_tob2 (m : MethodId) (bb : Addr) (ch0 : Int32) (ch1 : Int32) : entryFrame m #[(.ref bb), (.int (0 : Int32)), (.int (2 : Int32))] 5 = mkF m 0 #[.val (.ref bb), .val (.int (0 : Int32)), .val (.int (2 : Int32)), .unset, .unset] [] := by first | (simp [entryFrame, mkF, argsToLocals, Value.category]; done) | rfl
set_option maxRecDepth 65536 in
set_option maxHeartbeats 40000000 in
theorem rm_tob2 (l : Launch) (Z : State) (a0 : Array Value) (hw : ∀ d ∈ tables_1, d.before a0 Z = true) (ws : List Jvm.Cond) (bb : Addr) (kb : ClassId) (ch0 : Int32) (ch1 : Int32) (h0 : Heap) (n0 : Nat) (Z0 : n0 ≤ h0.size) (V_bb : Arv Z h0 bb kb .char (2 : Int32) [(.int ch0), (.int ch1)] (.int (0 : Int32))) (O0 : Old Z n0 h0) (S_A : Sta Z Z.heap "java/lang/StringUTF16" "$assertionsDisabled" "Z" (.int (1 : Int32))) (S_H : Sta Z Z.heap "java/lang/StringUTF16" "HI_BYTE_SHIFT" "I" (.int (0 : Int32))) (S_L : Sta Z Z.heap "java/lang/StringUTF16" "LO_BYTE_SHIFT" "I" (.int (8 : Int32))) :
    MetFree l (⟨"java/lang/StringUTF16", "toBytes", "([CII)[B"⟩ : MethodName) (head1 (Jvm.Cond.code (⟨"java/lang/StringUTF16", "toBytes", "([CII)[B"⟩ : MethodName) jdk_52_method_14_code 5 (some (.array .byte)) :: ws) ({ frames := 2, cells := 1, slots := 4, locals := 24 } : Room)) (fun a_ U_ => a_ = #[(.ref bb), (.int (0 : Int32)), (.int (2 : Int32))] ∧ Z.Warmed39 U_.vm ∧ U_.heap = h0) (fun _ _ _ _ _ => True) (fun _ U_ o_ V_ => ∃ v_ L_, o_ = .returned v_ ∧ (Q_rm_tob2 Z bb kb ch0 ch1 h0 n0) v_ V_.heap L_ ∧ FrameEnd U_ o_ V_ L_ ({ frames := 2, cells := 1, slots := 4, locals := 24 } : Room).cells ({ frames := 2, cells := 1, slots := 4, locals := 24 } : Room).slots) := by
  refine MetFree.of_bodySF (plainFor_of_name pn_0) hisR ?_
  intro p e s m args below meth c s₁ Bd hml0 hP hK
  obtain ⟨rfl, hZ, hh⟩ := hP
  have hx := Bd.exec
  have hby := Bd.bytes
  have hml : c.maxLocals = 5 := hml0
  have hown : s.vm.findClass "java/lang/StringUTF16" = some m.cls := findClass_of_methodNamed Bd.named
  have hnm := (name_of_methodNamed Bd.named Bd.method).1
  have X0 : Stand p l e ({ frames := 2, cells := 1, slots := 4, locals := 24 } : Room) s m #[(.ref bb), (.int (0 : Int32)), (.int (2 : Int32))] below meth c s₁ [] 0 0 := Stand.of_body Bd
  have e0 : s₁.heap = h0 := by rw [← hh, Bd.state]; rfl
  have N0 := Fr.nil n0
  have K0 : Keep h0 h0 [] := Keep.refl _ _
  show own_Fin p.tables e below (own_Post (Q_rm_tob2 Z bb kb ch0 ch1 h0 n0) ({ frames := 2, cells := 1, slots := 4, locals := 24 } : Room).cells ({ frames := 2, cells := 1, slots := 4, locals := 24 } : Room).slots below s) _
  refine own_go (fun _ q => castTop (ef_rm_tob2 m bb ch0 ch1) q) ?_
  refine own_go (fun _ q => XS.iloadN X0.here hx rfl (hb hby d14_0) rfl q) ?_
  show own_Fin _ _ _ _ (s₁.setTop (mkF m 1 #[.val (.ref bb), .val (.int (0 : Int32)), .val (.int (2 : Int32)), .unset, .unset] [(.int (2 : Int32))]))
  obtain ⟨_, _, ⟨T28, L28, k28, n28⟩, -, X28, ⟨Lc28, hQ28, l28, y28, z28⟩, st28⟩ := Jvm.LawKit.callS X0 hx (y := (⟨"java/lang/StringUTF16", "newBytesFor", "(I)[B"⟩ : MethodName)) hown (mvT hZ (own_w hw 65 rfl)) (mvT hZ (own_w hw 66 rfl)) (mvT hZ (own_w hw 23 rfl)) (mvT hZ (own_w hw 67 rfl)) (by decide) (backOf (W := 0) (rm_nbf2 l Z a0 hw [] h0 n0 (Nat.le_trans Z0 K0.1)) hZ (own_w hw 67 rfl) (own_w hw 23 rfl) (by decide) (by decide)) (g := (mkF m 1 #[.val (.ref bb), .val (.int (0 : Int32)), .val (.int (2 : Int32)), .unset, .unset] [(.int (2 : Int32))])) rfl (by rw [hml]; rfl) (argsL := [(.int (2 : Int32))]) (rest := []) (lenOf pd_2 rfl) rfl (by show 2 * 0 + _ ≤ _; exact Nat.le_of_eq rfl) (hb hby d14_1) (fun _ _ => ⟨rfl, e0, (by decide : 0 + 1 ≤ _), (by decide : 0 + 4 ≤ _)⟩)
  dsimp only [Pt.U, Pt.locs, Pt.cells, Pt.slots] at X28 l28 y28 z28 st28 hQ28
  subst l28 y28 z28
  obtain ⟨r28, kk28, rfl, N28q, KK28, sz28, V28⟩ := hQ28
  have N28 := Fr.app N0 N28q
  have sz_r28 : h0.size ≤ r28 := Nat.le_trans K0.1 sz28
  have g_r28 : n0 ≤ r28 := Nat.le_trans Z0 sz_r28
  have ne29 : bb ≠ r28 := Nat.ne_of_lt (Nat.lt_of_lt_of_le V_bb.lt sz28)
  replace V_bb := V_bb.keep KK28 nin0
  replace O0 := O0.keep KK28 all0
  have K30 := K0.trans KK28 all0
  refine own_go st28 ?_
  refine own_go (fun _ q => XS.astoreN X28.here hx rfl (hb hby d14_4) rfl rfl (l' := #[.val (.ref bb), .val (.int (0 : Int32)), .val (.int (2 : Int32)), .val (.ref r28), .unset]) rfl q) ?_
  refine own_go (fun _ q => XS.iconst X28.here hx rfl (hb hby d14_5) q) ?_
  refine own_go (fun _ q => XS.istore X28.here hx rfl (hb hby d14_6) rfl (l' := #[.val (.ref bb), .val (.int (0 : Int32)), .val (.int (2 : Int32)), .val (.ref r28), .val (.int (0 : Int32))]) rfl q) ?_
  refine own_go (fun _ q => XS.iload X28.here hx rfl (hb hby d14_8) rfl q) ?_
  refine own_go (fun _ q => XS.iloadN X28.here hx rfl (hb hby d14_10) rfl q) ?_
  show own_Fin _ _ _ _ (T28.setTop (mkF m 11 #[.val (.ref bb), .val (.int (0 : Int32)), .val (.int (2 : Int32)), .val (.ref r28), .val (.int (0 : Int32))] [(.int (2 : Int32)), (.int (0 : Int32))]))
  refine own_go (fun _ q => XS.icmpNo X28.here hx rfl (hb hby d14_11) rfl (tlt (by decide : (0 : Int32) < (2 : Int32))).2.1 q) ?_
  refine own_go (fun _ q => XS.aloadN X28.here hx rfl (hb hby d14_14) rfl rfl q) ?_
  refine own_go (fun _ q => XS.iload X28.here hx rfl (hb hby d14_15) rfl q) ?_
  refine own_go (fun _ q => XS.aloadN X28.here hx rfl (hb hby d14_17) rfl rfl q) ?_
  refine own_go (fun _ q => XS.iloadN X28.here hx rfl (hb hby d14_18) rfl q) ?_
  show own_Fin _ _ _ _ (T28.setTop (mkF m 19 #[.val (.ref bb), .val (.int (0 : Int32)), .val (.int (2 : Int32)), .val (.ref r28), .val (.int (0 : Int32))] [(.int (0 : Int32)), (.ref bb), (.int (0 : Int32)), (.ref r28)]))
  refine own_go (fun _ q => own_caload X28 hx hZ rfl V_bb (by decide) (v := (.int ch0)) (rfl) (g := (mkF m 19 #[.val (.ref bb), .val (.int (0 : Int32)), .val (.int (2 : Int32)), .val (.ref r28), .val (.int (0 : Int32))] [(.int (0 : Int32)), (.ref bb), (.int (0 : Int32)), (.ref r28)])) rfl rfl (hb hby d14_19) _ q) ?_
  show own_Fin _ _ _ _ (T28.setTop (mkF m 20 #[.val (.ref bb), .val (.int (0 : Int32)), .val (.int (2 : Int32)), .val (.ref r28), .val (.int (0 : Int32))] [(.int ch0), (.int (0 : Int32)), (.ref r28)]))
  obtain ⟨_, _, ⟨T31, L31, k31, n31⟩, -, X31, ⟨Lc31, hQ31, l31, y31, z31⟩, st31⟩ := Jvm.LawKit.callS X28 hx (y := (⟨"java/lang/StringUTF16", "putChar", "([BII)V"⟩ : MethodName)) hown (mvT hZ (own_w hw 72 rfl)) (mvT hZ (own_w hw 73 rfl)) (mvT hZ (own_w hw 23 rfl)) (mvT hZ (own_w hw 74 rfl)) (by decide) (backOf (W := 0) (rm_pc l Z a0 hw [] r28 kk28 (0 : Int32) ch0 (4 : Int32) [(.int (0 : Int32)), (.int (0 : Int32)), (.int (0 : Int32)), (.int (0 : Int32))] 0 1 T28.heap n0 (Nat.le_trans Z0 K30.1) V28 g_r28 (by decide) (by decide) rfl rfl (Nat.le_of_ble_eq_true rfl) (Nat.le_of_ble_eq_true rfl) O0 S_A S_H S_L) hZ (own_w hw 74 rfl) (own_w hw 23 rfl) (by decide) (by decide)) (g := (mkF m 20 #[.val (.ref bb), .val (.int (0 : Int32)), .val (.int (2 : Int32)), .val (.ref r28), .val (.int (0 : Int32))] [(.int ch0), (.int (0 : Int32)), (.ref r28)])) rfl (by rw [hml]; rfl) (argsL := [(.ref r28), (.int (0 : Int32)), (.int ch0)]) (rest := []) (lenOf pd_3 rfl) rfl (by show 2 * 0 + _ ≤ _; exact Nat.le_of_eq rfl) (hb hby d14_20) (fun _ _ => ⟨rfl, rfl, (by decide : 1 + 0 ≤ _), (by decide : 4 + 0 ≤ _)⟩)
  dsimp only [Pt.U, Pt.locs, Pt.cells, Pt.slots] at X31 l31 y31 z31 st31 hQ31
  subst l31 y31 z31
  obtain ⟨rfl, N31q, KK31, V31⟩ := hQ31
  replace V31 : Arv Z _ r28 kk28 .byte (4 : Int32) [(.int (ch0.toInt8.toInt32)), (.int ((ch0 >>> ((8 : Int32) &&& 31)).toInt8.toInt32)), (.int (0 : Int32)), (.int (0 : Int32))] (.int (0 : Int32)) := V31
  have N31 := Fr.app N28 N31q
  replace V_bb := V_bb.keep KK31 (ninS ne29 nin0)
  replace O0 := O0.keep KK31 (allS g_r28 (all0))
  have K32 := K30.trans KK31 (allS (Or.inr sz_r28) all0)
  refine own_go st31 ?_
  show own_Fin _ _ _ _ (T31.setTop (mkF m 23 #[.val (.ref bb), .val (.int (0 : Int32)), .val (.int (2 : Int32)), .val (.ref r28), .val (.int (0 : Int32))] []))
  refine own_go (fun _ q => XS.iinc X31.here hx rfl (hb hby d14_23) rfl (l' := #[.val (.ref bb), .val (.int (1 : Int32)), .val (.int (2 : Int32)), .val (.ref r28), .val (.int (0 : Int32))]) rfl q) ?_
  show own_Fin _ _ _ _ (T31.setTop (mkF m 26 #[.val (.ref bb), .val (.int (1 : Int32)), .val (.int (2 : Int32)), .val (.ref r28), .val (.int (0 : Int32))] []))
  refine own_go (fun _ q => XS.iinc X31.here hx rfl (hb hby d14_26) rfl (l' := #[.val (.ref bb), .val (.int (1 : Int32)), .val (.int (2 : Int32)), .val (.ref r28), .val (.int (1 : Int32))]) rfl q) ?_
  refine own_go (fun _ q => XS.goto X31.here hx rfl (pc0 := 29) (pc' := 8) rfl (hb hby d14_29) (by decide) (by decide) q) ?_
  refine own_go (fun _ q => XS.iload X31.here hx rfl (hb hby d14_8) rfl q) ?_
  refine own_go (fun _ q => XS.iloadN X31.here hx rfl (hb hby d14_10) rfl q) ?_
  show own_Fin _ _ _ _ (T31.setTop (mkF m 11 #[.val (.ref bb), .val (.int (1 : Int32)), .val (.int (2 : Int32)), .val (.ref r28), .val (.int (1 : Int32))] [(.int (2 : Int32)), (.int (1 : Int32))]))
  refine own_go (fun _ q => XS.icmpNo X31.here hx rfl (hb hby d14_11) rfl (tlt (by decide : (1 : Int32) < (2 : Int32))).2.1 q) ?_
  refine own_go (fun _ q => XS.aloadN X31.here hx rfl (hb hby d14_14) rfl rfl q) ?_
  refine own_go (fun _ q => XS.iload X31.here hx rfl (hb hby d14_15) rfl q) ?_
  refine own_go (fun _ q => XS.aloadN X31.here hx rfl (hb hby d14_17) rfl rfl q) ?_
  refine own_go (fun _ q => XS.iloadN X31.here hx rfl (hb hby d14_18) rfl q) ?_
  show own_Fin _ _ _ _ (T31.setTop (mkF m 19 #[.val (.ref bb), .val (.int (1 : Int32)), .val (.int (2 : Int32)), .val (.ref r28), .val (.int (1 : Int32))] [(.int (1 : Int32)), (.ref bb), (.int (1 : Int32)), (.ref r28)]))
  refine own_go (fun _ q => own_caload X31 hx hZ rfl V_bb (by decide) (v := (.int ch1)) (rfl) (g := (mkF m 19 #[.val (.ref bb), .val (.int (1 : Int32)), .val (.int (2 : Int32)), .val (.ref r28), .val (.int (1 : Int32))] [(.int (1 : Int32)), (.ref bb), (.int (1 : Int32)), (.ref r28)])) rfl rfl (hb hby d14_19) _ q) ?_
  show own_Fin _ _ _ _ (T31.setTop (mkF m 20 #[.val (.ref bb), .val (.int (1 : Int32)), .val (.int (2 : Int32)), .val (.ref r28), .val (.int (1 : Int32))] [(.int ch1), (.int (1 : Int32)), (.ref r28)]))
  obtain ⟨_, _, ⟨T33, L33, k33, n33⟩, -, X33, ⟨Lc33, hQ33, l33, y33, z33⟩, st33⟩ := Jvm.LawKit.callS X31 hx (y := (⟨"java/lang/StringUTF16", "putChar", "([BII)V"⟩ : MethodName)) hown (mvT hZ (own_w hw 72 rfl)) (mvT hZ (own_w hw 73 rfl)) (mvT hZ (own_w hw 23 rfl)) (mvT hZ (own_w hw 74 rfl)) (by decide) (backOf (W := 0) (rm_pc l Z a0 hw [] r28 kk28 (1 : Int32) ch1 (4 : Int32) [(.int (ch0.toInt8.toInt32)), (.int ((ch0 >>> ((8 : Int32) &&& 31)).toInt8.toInt32)), (.int (0 : Int32)), (.int (0 : Int32))] 2 3 T31.heap n0 (Nat.le_trans Z0 K32.1) V31 g_r28 (by decide) (by decide) rfl rfl (Nat.le_of_ble_eq_true rfl) (Nat.le_of_ble_eq_true rfl) O0 S_A S_H S_L) hZ (own_w hw 74 rfl) (own_w hw 23 rfl) (by decide) (by decide)) (g := (mkF m 20 #[.val (.ref bb), .val (.int (1 : Int32)), .val (.int (2 : Int32)), .val (.ref r28), .val (.int (1 : Int32))] [(.int ch1), (.int (1 : Int32)), (.ref r28)])) rfl (by rw [hml]; rfl) (argsL := [(.ref r28), (.int (1 : Int32)), (.int ch1)]) (rest := []) (lenOf pd_3 rfl) rfl (by show 2 * 0 + _ ≤ _; exact Nat.le_of_eq rfl) (hb hby d14_20) (fun _ _ => ⟨rfl, rfl, (by decide : 1 + 0 ≤ _), (by decide : 4 + 0 ≤ _)⟩)
  dsimp only [Pt.U, Pt.locs, Pt.cells, Pt.slots] at X33 l33 y33 z33 st33 hQ33
  subst l33 y33 z33
  obtain ⟨rfl, N33q, KK33, V33⟩ := hQ33
  replace V33 : Arv Z _ r28 kk28 .byte (4 : Int32) [(.int (ch0.toInt8.toInt32)), (.int ((ch0 >>> ((8 : Int32) &&& 31)).toInt8.toInt32)), (.int (ch1.toInt8.toInt32)), (.int ((ch1 >>> ((8 : Int32) &&& 31)).toInt8.toInt32))] (.int (0 : Int32)) := V33
  have N33 := Fr.app N31 N33q
  replace V_bb := V_bb.keep KK33 (ninS ne29 nin0)
  replace O0 := O0.keep KK33 (allS g_r28 (all0))
  have K34 := K32.trans KK33 (allS (Or.inr sz_r28) all0)
  refine own_go st33 ?_
  show own_Fin _ _ _ _ (T33.setTop (mkF m 23 #[.val (.ref bb), .val (.int (1 : Int32)), .val (.int (2 : Int32)), .val (.ref r28), .val (.int (1 : Int32))] []))
  refine own_go (fun _ q => XS.iinc X33.here hx rfl (hb hby d14_23) rfl (l' := #[.val (.ref bb), .val (.int (2 : Int32)), .val (.int (2 : Int32)), .val (.ref r28), .val (.int (1 : Int32))]) rfl q) ?_
  show own_Fin _ _ _ _ (T33.setTop (mkF m 26 #[.val (.ref bb), .val (.int (2 : Int32)), .val (.int (2 : Int32)), .val (.ref r28), .val (.int (1 : Int32))] []))
  refine own_go (fun _ q => XS.iinc X33.here hx rfl (hb hby d14_26) rfl (l' := #[.val (.ref bb), .val (.int (2 : Int32)), .val (.int (2 : Int32)), .val (.ref r28), .val (.int (2 : Int32))]) rfl q) ?_
  refine own_go (fun _ q => XS.goto X33.here hx rfl (pc0 := 29) (pc' := 8) rfl (hb hby d14_29) (by decide) (by decide) q) ?_
  refine own_go (fun _ q => XS.iload X33.here hx rfl (hb hby d14_8) rfl q) ?_
  refine own_go (fun _ q => XS.iloadN X33.here hx rfl (hb hby d14_10) rfl q) ?_
  show own_Fin _ _ _ _ (T33.setTop (mkF m 11 #[.val (.ref bb), .val (.int (2 : Int32)), .val (.int (2 : Int32)), .val (.ref r28), .val (.int (2 : Int32))] [(.int (2 : Int32)), (.int (2 : Int32))]))
  refine own_go (fun _ q => XS.icmpYes X33.here hx rfl (pc0 := 11) (pc' := 32) rfl (hb hby d14_11) rfl (flt (by decide : ¬ (2 : Int32) < (2 : Int32))).2.1 (by decide) (by decide) q) ?_
  refine own_go (fun _ q => XS.aloadN X33.here hx rfl (hb hby d14_32) rfl rfl q) ?_
  show own_Fin _ _ _ _ (T33.setTop (mkF m 33 #[.val (.ref bb), .val (.int (2 : Int32)), .val (.int (2 : Int32)), .val (.ref r28), .val (.int (2 : Int32))] [(.ref r28)]))
  refine own_retA X33 hx Bd (t := (.array .byte)) Bd.returns rfl rfl rfl (hb hby d14_33) ?_ (by decide) (by decide)
  show (Q_rm_tob2 Z bb kb ch0 ch1 h0 n0) (some (.ref r28)) T33.heap _
  exact ⟨_, _, rfl, N33, K34, sz_r28, V33⟩
def Q_rm_tob3 (Z : State) (bb : Addr) (kb : ClassId) (ch0 : Int32) (ch1 : Int32) (ch2 : Int32) (h0 : Heap) (n0 : Nat) (v : Option Value) (h : Heap) (L : List Loc) : Prop := ∃ (r : Addr) (k : ClassId), v = some (.ref r) ∧ Fr n0 L ∧ Keep h0 h [] ∧ h0.size ≤ r ∧ Arv Z h r k .byte (6 : Int32) [(.int (ch0.toInt8.toInt32)), (.int ((ch0 >>> ((8 : Int32) &&& 31)).toInt8.toInt32)), (.int (ch1.toInt8.toInt32)), (.int ((ch1 >>> ((8 : Int32) &&& 31)).toInt8.toInt32)), (.int (ch2.toInt8.toInt32)), (.int ((ch2 >>> ((8 : Int32) &&& 31)).toInt8.toInt32))] (.int (0 : Int32))
theorem ef_rm_tob3 (m : MethodId) (bb : Addr) (ch0 : Int32) (ch1 : Int32) (ch2 : Int32) : entryFrame m #[(.ref bb), (.int (0 : Int32)), (.int (3 : Int32))] 5 = mkF m 0 #[.val (.ref bb), .val (.int (0 : Int32)), .val (.int (3 : Int32)), .unset, .unset] [] := by first | (simp [entryFrame, mkF, argsToLocals, Value.category]; done) | rfl
set_option maxRecDepth 65536 in
set_option maxHeartbeats 40000000 in
theorem rm_tob3 (l : Launch) (Z : State) (a0 : Array Value) (hw : ∀ d ∈ tables_1, d.before a0 Z = true) (ws : List Jvm.Cond) (bb : Addr) (kb : ClassId) (ch0 : Int32) (ch1 : Int32) (ch2 : Int32) (h0 : Heap) (n0 : Nat) (Z0 : n0 ≤ h0.size) (V_bb : Arv Z h0 bb kb .char (3 : Int32) [(.int ch0), (.int ch1), (.int ch2)] (.int (0 : Int32))) (O0 : Old Z n0 h0) (S_A : Sta Z Z.heap "java/lang/StringUTF16" "$assertionsDisabled" "Z" (.int (1 : Int32))) (S_H : Sta Z Z.heap "java/lang/StringUTF16" "HI_BYTE_SHIFT" "I" (.int (0 : Int32))) (S_L : Sta Z Z.heap "java/lang/StringUTF16" "LO_BYTE_SHIFT" "I" (.int (8 : Int32))) :
    MetFree l (⟨"java/lang/StringUTF16", "toBytes", "([CII)[B"⟩ : MethodName) (head1 (Jvm.Cond.code (⟨"java/lang/StringUTF16", "toBytes", "([CII)[B"⟩ : MethodName) jdk_52_method_14_code 5 (some (.array .byte)) :: ws) ({ frames := 2, cells := 1, slots := 6, locals := 24 } : Room)) (fun a_ U_ => a_ = #[(.ref bb), (.int (0 : Int32)), (.int (3 : Int32))] ∧ Z.Warmed39 U_.vm ∧ U_.heap = h0) (fun _ _ _ _ _ => True) (fun _ U_ o_ V_ => ∃ v_ L_, o_ = .returned v_ ∧ (Q_rm_tob3 Z bb kb ch0 ch1 ch2 h0 n0) v_ V_.heap L_ ∧ FrameEnd U_ o_ V_ L_ ({ frames := 2, cells := 1, slots := 6, locals := 24 } : Room).cells ({ frames := 2, cells := 1, slots := 6, locals := 24 } : Room).slots) := by
  refine MetFree.of_bodySF (plainFor_of_name pn_0) hisR ?_
  intro p e s m args below meth c s₁ Bd hml0 hP hK
  obtain ⟨rfl, hZ, hh⟩ := hP
  have hx := Bd.exec
  have hby := Bd.bytes
  have hml : c.maxLocals = 5 := hml0
  have hown : s.vm.findClass "java/lang/StringUTF16" = some m.cls := findClass_of_methodNamed Bd.named
  have hnm := (name_of_methodNamed Bd.named Bd.method).1
  have X0 : Stand p l e ({ frames := 2, cells := 1, slots := 6, locals := 24 } : Room) s m #[(.ref bb), (.int (0 : Int32)), (.int (3 : Int32))] below meth c s₁ [] 0 0 := Stand.of_body Bd
  have e0 : s₁.heap = h0 := by rw [← hh, Bd.state]; rfl
  have N0 := Fr.nil n0
  have K0 : Keep h0 h0 [] := Keep.refl _ _
  show own_Fin p.tables e below (own_Post (Q_rm_tob3 Z bb kb ch0 ch1 ch2 h0 n0) ({ frames := 2, cells := 1, slots := 6, locals := 24 } : Room).cells ({ frames := 2, cells := 1, slots := 6, locals := 24 } : Room).slots below s) _
  refine own_go (fun _ q => castTop (ef_rm_tob3 m bb ch0 ch1 ch2) q) ?_
  refine own_go (fun _ q => XS.iloadN X0.here hx rfl (hb hby d14_0) rfl q) ?_
  show own_Fin _ _ _ _ (s₁.setTop (mkF m 1 #[.val (.ref bb), .val (.int (0 : Int32)), .val (.int (3 : Int32)), .unset, .unset] [(.int (3 : Int32))]))
  obtain ⟨_, _, ⟨T35, L35, k35, n35⟩, -, X35, ⟨Lc35, hQ35, l35, y35, z35⟩, st35⟩ := Jvm.LawKit.callS X0 hx (y := (⟨"java/lang/StringUTF16", "newBytesFor", "(I)[B"⟩ : MethodName)) hown (mvT hZ (own_w hw 65 rfl)) (mvT hZ (own_w hw 66 rfl)) (mvT hZ (own_w hw 23 rfl)) (mvT hZ (own_w hw 67 rfl)) (by decide) (backOf (W := 0) (rm_nbf3 l Z a0 hw [] h0 n0 (Nat.le_trans Z0 K0.1)) hZ (own_w hw 67 rfl) (own_w hw 23 rfl) (by decide) (by decide)) (g := (mkF m 1 #[.val (.ref bb), .val (.int (0 : Int32)), .val (.int (3 : Int32)), .unset, .unset] [(.int (3 : Int32))])) rfl (by rw [hml]; rfl) (argsL := [(.int (3 : Int32))]) (rest := []) (lenOf pd_2 rfl) rfl (by show 2 * 0 + _ ≤ _; exact Nat.le_of_eq rfl) (hb hby d14_1) (fun _ _ => ⟨rfl, e0, (by decide : 0 + 1 ≤ _), (by decide : 0 + 6 ≤ _)⟩)
  dsimp only [Pt.U, Pt.locs, Pt.cells, Pt.slots] at X35 l35 y35 z35 st35 hQ35
  subst l35 y35 z35
  obtain ⟨r35, kk35, rfl, N35q, KK35, sz35, V35⟩ := hQ35
  have N35 := Fr.app N0 N35q
  have sz_r35 : h0.size ≤ r35 := Nat.le_trans K0.1 sz35
  have g_r35 : n0 ≤ r35 := Nat.le_trans Z0 sz_r35
  have ne36 : bb ≠ r35 := Nat.ne_of_lt (Nat.lt_of_lt_of_le V_bb.lt sz35)
  replace V_bb := V_bb.keep KK35 nin0
  replace O0 := O0.keep KK35 all0
  have K37 := K0.trans KK35 all0
  refine own_go st35 ?_
  refine own_go (fun _ q => XS.astoreN X35.here hx rfl (hb hby d14_4) rfl rfl (l' := #[.val (.ref bb), .val (.int (0 : Int32)), .val (.int (3 : Int32)), .val (.ref r35), .unset]) rfl q) ?_
  refine own_go (fun _ q => XS.iconst X35.here hx rfl (hb hby d14_5) q) ?_
  refine own_go (fun _ q => XS.istore X35.here hx rfl (hb hby d14_6) rfl (l' := #[.val (.ref bb), .val (.int (0 : Int32)), .val (.int (3 : Int32)), .val (.ref r35), .val (.int (0 : Int32))]) rfl q) ?_
  refine own_go (fun _ q => XS.iload X35.here hx rfl (hb hby d14_8) rfl q) ?_
  refine own_go (fun _ q => XS.iloadN X35.here hx rfl (hb hby d14_10) rfl q) ?_
  show own_Fin _ _ _ _ (T35.setTop (mkF m 11 #[.val (.ref bb), .val (.int (0 : Int32)), .val (.int (3 : Int32)), .val (.ref r35), .val (.int (0 : Int32))] [(.int (3 : Int32)), (.int (0 : Int32))]))
  refine own_go (fun _ q => XS.icmpNo X35.here hx rfl (hb hby d14_11) rfl (tlt (by decide : (0 : Int32) < (3 : Int32))).2.1 q) ?_
  refine own_go (fun _ q => XS.aloadN X35.here hx rfl (hb hby d14_14) rfl rfl q) ?_
  refine own_go (fun _ q => XS.iload X35.here hx rfl (hb hby d14_15) rfl q) ?_
  refine own_go (fun _ q => XS.aloadN X35.here hx rfl (hb hby d14_17) rfl rfl q) ?_
  refine own_go (fun _ q => XS.iloadN X35.here hx rfl (hb hby d14_18) rfl q) ?_
  show own_Fin _ _ _ _ (T35.setTop (mkF m 19 #[.val (.ref bb), .val (.int (0 : Int32)), .val (.int (3 : Int32)), .val (.ref r35), .val (.int (0 : Int32))] [(.int (0 : Int32)), (.ref bb), (.int (0 : Int32)), (.ref r35)]))
  refine own_go (fun _ q => own_caload X35 hx hZ rfl V_bb (by decide) (v := (.int ch0)) (rfl) (g := (mkF m 19 #[.val (.ref bb), .val (.int (0 : Int32)), .val (.int (3 : Int32)), .val (.ref r35), .val (.int (0 : Int32))] [(.int (0 : Int32)), (.ref bb), (.int (0 : Int32)), (.ref r35)])) rfl rfl (hb hby d14_19) _ q) ?_
  show own_Fin _ _ _ _ (T35.setTop (mkF m 20 #[.val (.ref bb), .val (.int (0 : Int32)), .val (.int (3 : Int32)), .val (.ref r35), .val (.int (0 : Int32))] [(.int ch0), (.int (0 : Int32)), (.ref r35)]))
  obtain ⟨_, _, ⟨T38, L38, k38, n38⟩, -, X38, ⟨Lc38, hQ38, l38, y38, z38⟩, st38⟩ := Jvm.LawKit.callS X35 hx (y := (⟨"java/lang/StringUTF16", "putChar", "([BII)V"⟩ : MethodName)) hown (mvT hZ (own_w hw 72 rfl)) (mvT hZ (own_w hw 73 rfl)) (mvT hZ (own_w hw 23 rfl)) (mvT hZ (own_w hw 74 rfl)) (by decide) (backOf (W := 0) (rm_pc l Z a0 hw [] r35 kk35 (0 : Int32) ch0 (6 : Int32) [(.int (0 : Int32)), (.int (0 : Int32)), (.int (0 : Int32)), (.int (0 : Int32)), (.int (0 : Int32)), (.int (0 : Int32))] 0 1 T35.heap n0 (Nat.le_trans Z0 K37.1) V35 g_r35 (by decide) (by decide) rfl rfl (Nat.le_of_ble_eq_true rfl) (Nat.le_of_ble_eq_true rfl) O0 S_A S_H S_L) hZ (own_w hw 74 rfl) (own_w hw 23 rfl) (by decide) (by decide)) (g := (mkF m 20 #[.val (.ref bb), .val (.int (0 : Int32)), .val (.int (3 : Int32)), .val (.ref r35), .val (.int (0 : Int32))] [(.int ch0), (.int (0 : Int32)), (.ref r35)])) rfl (by rw [hml]; rfl) (argsL := [(.ref r35), (.int (0 : Int32)), (.int ch0)]) (rest := []) (lenOf pd_3 rfl) rfl (by show 2 * 0 + _ ≤ _; exact Nat.le_of_eq rfl) (hb hby d14_20) (fun _ _ => ⟨rfl, rfl, (by decide : 1 + 0 ≤ _), (by decide : 6 + 0 ≤ _)⟩)
  dsimp only [Pt.U, Pt.locs, Pt.cells, Pt.slots] at X38 l38 y38 z38 st38 hQ38
  subst l38 y38 z38
  obtain ⟨rfl, N38q, KK38, V38⟩ := hQ38
  replace V38 : Arv Z _ r35 kk35 .byte (6 : Int32) [(.int (ch0.toInt8.toInt32)), (.int ((ch0 >>> ((8 : Int32) &&& 31)).toInt8.toInt32)), (.int (0 : Int32)), (.int (0 : Int32)), (.int (0 : Int32)), (.int (0 : Int32))] (.int (0 : Int32)) := V38
  have N38 := Fr.app N35 N38q
  replace V_bb := V_bb.keep KK38 (ninS ne36 nin0)
  replace O0 := O0.keep KK38 (allS g_r35 (all0))
  have K39 := K37.trans KK38 (allS (Or.inr sz_r35) all0)
  refine own_go st38 ?_
  show own_Fin _ _ _ _ (T38.setTop (mkF m 23 #[.val (.ref bb), .val (.int (0 : Int32)), .val (.int (3 : Int32)), .val (.ref r35), .val (.int (0 : Int32))] []))
  refine own_go (fun _ q => XS.iinc X38.here hx rfl (hb hby d14_23) rfl (l' := #[.val (.ref bb), .val (.int (1 : Int32)), .val (.int (3 : Int32)), .val (.ref r35), .val (.int (0 : Int32))]) rfl q) ?_
  show own_Fin _ _ _ _ (T38.setTop (mkF m 26 #[.val (.ref bb), .val (.int (1 : Int32)), .val (.int (3 : Int32)), .val (.ref r35), .val (.int (0 : Int32))] []))
  refine own_go (fun _ q => XS.iinc X38.here hx rfl (hb hby d14_26) rfl (l' := #[.val (.ref bb), .val (.int (1 : Int32)), .val (.int (3 : Int32)), .val (.ref r35), .val (.int (1 : Int32))]) rfl q) ?_
  refine own_go (fun _ q => XS.goto X38.here hx rfl (pc0 := 29) (pc' := 8) rfl (hb hby d14_29) (by decide) (by decide) q) ?_
  refine own_go (fun _ q => XS.iload X38.here hx rfl (hb hby d14_8) rfl q) ?_
  refine own_go (fun _ q => XS.iloadN X38.here hx rfl (hb hby d14_10) rfl q) ?_
  show own_Fin _ _ _ _ (T38.setTop (mkF m 11 #[.val (.ref bb), .val (.int (1 : Int32)), .val (.int (3 : Int32)), .val (.ref r35), .val (.int (1 : Int32))] [(.int (3 : Int32)), (.int (1 : Int32))]))
  refine own_go (fun _ q => XS.icmpNo X38.here hx rfl (hb hby d14_11) rfl (tlt (by decide : (1 : Int32) < (3 : Int32))).2.1 q) ?_
  refine own_go (fun _ q => XS.aloadN X38.here hx rfl (hb hby d14_14) rfl rfl q) ?_
  refine own_go (fun _ q => XS.iload X38.here hx rfl (hb hby d14_15) rfl q) ?_
  refine own_go (fun _ q => XS.aloadN X38.here hx rfl (hb hby d14_17) rfl rfl q) ?_
  refine own_go (fun _ q => XS.iloadN X38.here hx rfl (hb hby d14_18) rfl q) ?_
  show own_Fin _ _ _ _ (T38.setTop (mkF m 19 #[.val (.ref bb), .val (.int (1 : Int32)), .val (.int (3 : Int32)), .val (.ref r35), .val (.int (1 : Int32))] [(.int (1 : Int32)), (.ref bb), (.int (1 : Int32)), (.ref r35)]))
  refine own_go (fun _ q => own_caload X38 hx hZ rfl V_bb (by decide) (v := (.int ch1)) (rfl) (g := (mkF m 19 #[.val (.ref bb), .val (.int (1 : Int32)), .val (.int (3 : Int32)), .val (.ref r35), .val (.int (1 : Int32))] [(.int (1 : Int32)), (.ref bb), (.int (1 : Int32)), (.ref r35)])) rfl rfl (hb hby d14_19) _ q) ?_
  show own_Fin _ _ _ _ (T38.setTop (mkF m 20 #[.val (.ref bb), .val (.int (1 : Int32)), .val (.int (3 : Int32)), .val (.ref r35), .val (.int (1 : Int32))] [(.int ch1), (.int (1 : Int32)), (.ref r35)]))
  obtain ⟨_, _, ⟨T40, L40, k40, n40⟩, -, X40, ⟨Lc40, hQ40, l40, y40, z40⟩, st40⟩ := Jvm.LawKit.callS X38 hx (y := (⟨"java/lang/StringUTF16", "putChar", "([BII)V"⟩ : MethodName)) hown (mvT hZ (own_w hw 72 rfl)) (mvT hZ (own_w hw 73 rfl)) (mvT hZ (own_w hw 23 rfl)) (mvT hZ (own_w hw 74 rfl)) (by decide) (backOf (W := 0) (rm_pc l Z a0 hw [] r35 kk35 (1 : Int32) ch1 (6 : Int32) [(.int (ch0.toInt8.toInt32)), (.int ((ch0 >>> ((8 : Int32) &&& 31)).toInt8.toInt32)), (.int (0 : Int32)), (.int (0 : Int32)), (.int (0 : Int32)), (.int (0 : Int32))] 2 3 T38.heap n0 (Nat.le_trans Z0 K39.1) V38 g_r35 (by decide) (by decide) rfl rfl (Nat.le_of_ble_eq_true rfl) (Nat.le_of_ble_eq_true rfl) O0 S_A S_H S_L) hZ (own_w hw 74 rfl) (own_w hw 23 rfl) (by decide) (by decide)) (g := (mkF m 20 #[.val (.ref bb), .val (.int (1 : Int32)), .val (.int (3 : Int32)), .val (.ref r35), .val (.int (1 : Int32))] [(.int ch1), (.int (1 : Int32)), (.ref r35)])) rfl (by rw [hml]; rfl) (argsL := [(.ref r35), (.int (1 : Int32)), (.int ch1)]) (rest := []) (lenOf pd_3 rfl) rfl (by show 2 * 0 + _ ≤ _; exact Nat.le_of_eq rfl) (hb hby d14_20) (fun _ _ => ⟨rfl, rfl, (by decide : 1 + 0 ≤ _), (by decide : 6 + 0 ≤ _)⟩)
  dsimp only [Pt.U, Pt.locs, Pt.cells, Pt.slots] at X40 l40 y40 z40 st40 hQ40
  subst l40 y40 z40
  obtain ⟨rfl, N40q, KK40, V40⟩ := hQ40
  replace V40 : Arv Z _ r35 kk35 .byte (6 : Int32) [(.int (ch0.toInt8.toInt32)), (.int ((ch0 >>> ((8 : Int32) &&& 31)).toInt8.toInt32)), (.int (ch1.toInt8.toInt32)), (.int ((ch1 >>> ((8 : Int32) &&& 31)).toInt8.toInt32)), (.int (0 : Int32)), (.int (0 : Int32))] (.int (0 : Int32)) := V40
  have N40 := Fr.app N38 N40q
  replace V_bb := V_bb.keep KK40 (ninS ne36 nin0)
  replace O0 := O0.keep KK40 (allS g_r35 (all0))
  have K41 := K39.trans KK40 (allS (Or.inr sz_r35) all0)
  refine own_go st40 ?_
  show own_Fin _ _ _ _ (T40.setTop (mkF m 23 #[.val (.ref bb), .val (.int (1 : Int32)), .val (.int (3 : Int32)), .val (.ref r35), .val (.int (1 : Int32))] []))
  refine own_go (fun _ q => XS.iinc X40.here hx rfl (hb hby d14_23) rfl (l' := #[.val (.ref bb), .val (.int (2 : Int32)), .val (.int (3 : Int32)), .val (.ref r35), .val (.int (1 : Int32))]) rfl q) ?_
  show own_Fin _ _ _ _ (T40.setTop (mkF m 26 #[.val (.ref bb), .val (.int (2 : Int32)), .val (.int (3 : Int32)), .val (.ref r35), .val (.int (1 : Int32))] []))
  refine own_go (fun _ q => XS.iinc X40.here hx rfl (hb hby d14_26) rfl (l' := #[.val (.ref bb), .val (.int (2 : Int32)), .val (.int (3 : Int32)), .val (.ref r35), .val (.int (2 : Int32))]) rfl q) ?_
  refine own_go (fun _ q => XS.goto X40.here hx rfl (pc0 := 29) (pc' := 8) rfl (hb hby d14_29) (by decide) (by decide) q) ?_
  refine own_go (fun _ q => XS.iload X40.here hx rfl (hb hby d14_8) rfl q) ?_
  refine own_go (fun _ q => XS.iloadN X40.here hx rfl (hb hby d14_10) rfl q) ?_
  show own_Fin _ _ _ _ (T40.setTop (mkF m 11 #[.val (.ref bb), .val (.int (2 : Int32)), .val (.int (3 : Int32)), .val (.ref r35), .val (.int (2 : Int32))] [(.int (3 : Int32)), (.int (2 : Int32))]))
  refine own_go (fun _ q => XS.icmpNo X40.here hx rfl (hb hby d14_11) rfl (tlt (by decide : (2 : Int32) < (3 : Int32))).2.1 q) ?_
  refine own_go (fun _ q => XS.aloadN X40.here hx rfl (hb hby d14_14) rfl rfl q) ?_
  refine own_go (fun _ q => XS.iload X40.here hx rfl (hb hby d14_15) rfl q) ?_
  refine own_go (fun _ q => XS.aloadN X40.here hx rfl (hb hby d14_17) rfl rfl q) ?_
  refine own_go (fun _ q => XS.iloadN X40.here hx rfl (hb hby d14_18) rfl q) ?_
  show own_Fin _ _ _ _ (T40.setTop (mkF m 19 #[.val (.ref bb), .val (.int (2 : Int32)), .val (.int (3 : Int32)), .val (.ref r35), .val (.int (2 : Int32))] [(.int (2 : Int32)), (.ref bb), (.int (2 : Int32)), (.ref r35)]))
  refine own_go (fun _ q => own_caload X40 hx hZ rfl V_bb (by decide) (v := (.int ch2)) (rfl) (g := (mkF m 19 #[.val (.ref bb), .val (.int (2 : Int32)), .val (.int (3 : Int32)), .val (.ref r35), .val (.int (2 : Int32))] [(.int (2 : Int32)), (.ref bb), (.int (2 : Int32)), (.ref r35)])) rfl rfl (hb hby d14_19) _ q) ?_
  show own_Fin _ _ _ _ (T40.setTop (mkF m 20 #[.val (.ref bb), .val (.int (2 : Int32)), .val (.int (3 : Int32)), .val (.ref r35), .val (.int (2 : Int32))] [(.int ch2), (.int (2 : Int32)), (.ref r35)]))
  obtain ⟨_, _, ⟨T42, L42, k42, n42⟩, -, X42, ⟨Lc42, hQ42, l42, y42, z42⟩, st42⟩ := Jvm.LawKit.callS X40 hx (y := (⟨"java/lang/StringUTF16", "putChar", "([BII)V"⟩ : MethodName)) hown (mvT hZ (own_w hw 72 rfl)) (mvT hZ (own_w hw 73 rfl)) (mvT hZ (own_w hw 23 rfl)) (mvT hZ (own_w hw 74 rfl)) (by decide) (backOf (W := 0) (rm_pc l Z a0 hw [] r35 kk35 (2 : Int32) ch2 (6 : Int32) [(.int (ch0.toInt8.toInt32)), (.int ((ch0 >>> ((8 : Int32) &&& 31)).toInt8.toInt32)), (.int (ch1.toInt8.toInt32)), (.int ((ch1 >>> ((8 : Int32) &&& 31)).toInt8.toInt32)), (.int (0 : Int32)), (.int (0 : Int32))] 4 5 T40.heap n0 (Nat.le_trans Z0 K41.1) V40 g_r35 (by decide) (by decide) rfl rfl (Nat.le_of_ble_eq_true rfl) (Nat.le_of_ble_eq_true rfl) O0 S_A S_H S_L) hZ (own_w hw 74 rfl) (own_w hw 23 rfl) (by decide) (by decide)) (g := (mkF m 20 #[.val (.ref bb), .val (.int (2 : Int32)), .val (.int (3 : Int32)), .val (.ref r35), .val (.int (2 : Int32))] [(.int ch2), (.int (2 : Int32)), (.ref r35)])) rfl (by rw [hml]; rfl) (argsL := [(.ref r35), (.int (2 : Int32)), (.int ch2)]) (rest := []) (lenOf pd_3 rfl) rfl (by show 2 * 0 + _ ≤ _; exact Nat.le_of_eq rfl) (hb hby d14_20) (fun _ _ => ⟨rfl, rfl, (by decide : 1 + 0 ≤ _), (by decide : 6 + 0 ≤ _)⟩)
  dsimp only [Pt.U, Pt.locs, Pt.cells, Pt.slots] at X42 l42 y42 z42 st42 hQ42
  subst l42 y42 z42
  obtain ⟨rfl, N42q, KK42, V42⟩ := hQ42
  replace V42 : Arv Z _ r35 kk35 .byte (6 : Int32) [(.int (ch0.toInt8.toInt32)), (.int ((ch0 >>> ((8 : Int32) &&& 31)).toInt8.toInt32)), (.int (ch1.toInt8.toInt32)), (.int ((ch1 >>> ((8 : Int32) &&& 31)).toInt8.toInt32)), (.int (ch2.toInt8.toInt32)), (.int ((ch2 >>> ((8 : Int32) &&& 31)).toInt8.toInt32))] (.int (0 : Int32)) := V42
  have N42 := Fr.app N40 N42q
  replace V_bb := V_bb.keep KK42 (ninS ne36 nin0)
  replace O0 := O0.keep KK42 (allS g_r35 (all0))
  have K43 := K41.trans KK42 (allS (Or.inr sz_r35) all0)
  refine own_go st42 ?_
  show own_Fin _ _ _ _ (T42.setTop (mkF m 23 #[.val (.ref bb), .val (.int (2 : Int32)), .val (.int (3 : Int32)), .val (.ref r35), .val (.int (2 : Int32))] []))
  refine own_go (fun _ q => XS.iinc X42.here hx rfl (hb hby d14_23) rfl (l' := #[.val (.ref bb), .val (.int (3 : Int32)), .val (.int (3 : Int32)), .val (.ref r35), .val (.int (2 : Int32))]) rfl q) ?_
  show own_Fin _ _ _ _ (T42.setTop (mkF m 26 #[.val (.ref bb), .val (.int (3 : Int32)), .val (.int (3 : Int32)), .val (.ref r35), .val (.int (2 : Int32))] []))
  refine own_go (fun _ q => XS.iinc X42.here hx rfl (hb hby d14_26) rfl (l' := #[.val (.ref bb), .val (.int (3 : Int32)), .val (.int (3 : Int32)), .val (.ref r35), .val (.int (3 : Int32))]) rfl q) ?_
  refine own_go (fun _ q => XS.goto X42.here hx rfl (pc0 := 29) (pc' := 8) rfl (hb hby d14_29) (by decide) (by decide) q) ?_
  refine own_go (fun _ q => XS.iload X42.here hx rfl (hb hby d14_8) rfl q) ?_
  refine own_go (fun _ q => XS.iloadN X42.here hx rfl (hb hby d14_10) rfl q) ?_
  show own_Fin _ _ _ _ (T42.setTop (mkF m 11 #[.val (.ref bb), .val (.int (3 : Int32)), .val (.int (3 : Int32)), .val (.ref r35), .val (.int (3 : Int32))] [(.int (3 : Int32)), (.int (3 : Int32))]))
  refine own_go (fun _ q => XS.icmpYes X42.here hx rfl (pc0 := 11) (pc' := 32) rfl (hb hby d14_11) rfl (flt (by decide : ¬ (3 : Int32) < (3 : Int32))).2.1 (by decide) (by decide) q) ?_
  refine own_go (fun _ q => XS.aloadN X42.here hx rfl (hb hby d14_32) rfl rfl q) ?_
  show own_Fin _ _ _ _ (T42.setTop (mkF m 33 #[.val (.ref bb), .val (.int (3 : Int32)), .val (.int (3 : Int32)), .val (.ref r35), .val (.int (3 : Int32))] [(.ref r35)]))
  refine own_retA X42 hx Bd (t := (.array .byte)) Bd.returns rfl rfl rfl (hb hby d14_33) ?_ (by decide) (by decide)
  show (Q_rm_tob3 Z bb kb ch0 ch1 ch2 h0 n0) (some (.ref r35)) T42.heap _
  exact ⟨_, _, rfl, N42, K43, sz_r35, V42⟩
def Q_rm_tob4 (Z : State) (bb : Addr) (kb : ClassId) (ch0 : Int32) (ch1 : Int32) (ch2 : Int32) (ch3 : Int32) (h0 : Heap) (n0 : Nat) (v : Option Value) (h : Heap) (L : List Loc) : Prop := ∃ (r : Addr) (k : ClassId), v = some (.ref r) ∧ Fr n0 L ∧ Keep h0 h [] ∧ h0.size ≤ r ∧ Arv Z h r k .byte (8 : Int32) [(.int (ch0.toInt8.toInt32)), (.int ((ch0 >>> ((8 : Int32) &&& 31)).toInt8.toInt32)), (.int (ch1.toInt8.toInt32)), (.int ((ch1 >>> ((8 : Int32) &&& 31)).toInt8.toInt32)), (.int (ch2.toInt8.toInt32)), (.int ((ch2 >>> ((8 : Int32) &&& 31)).toInt8.toInt32)), (.int (ch3.toInt8.toInt32)), (.int ((ch3 >>> ((8 : Int32) &&& 31)).toInt8.toInt32))] (.int (0 : Int32))
theorem ef_rm_tob4 (m : MethodId) (bb : Addr) (ch0 : Int32) (ch1 : Int32) (ch2 : Int32) (ch3 : Int32) : entryFrame m #[(.ref bb), (.int (0 : Int32)), (.int (4 : Int32))] 5 = mkF m 0 #[.val (.ref bb), .val (.int (0 : Int32)), .val (.int (4 : Int32)), .unset, .unset] [] := by first | (simp [entryFrame, mkF, argsToLocals, Value.category]; done) | rfl
set_option maxRecDepth 65536 in
set_option maxHeartbeats 40000000 in
theorem rm_tob4 (l : Launch) (Z : State) (a0 : Array Value) (hw : ∀ d ∈ tables_1, d.before a0 Z = true) (ws : List Jvm.Cond) (bb : Addr) (kb : ClassId) (ch0 : Int32) (ch1 : Int32) (ch2 : Int32) (ch3 : Int32) (h0 : Heap) (n0 : Nat) (Z0 : n0 ≤ h0.size) (V_bb : Arv Z h0 bb kb .char (4 : Int32) [(.int ch0), (.int ch1), (.int ch2), (.int ch3)] (.int (0 : Int32))) (O0 : Old Z n0 h0) (S_A : Sta Z Z.heap "java/lang/StringUTF16" "$assertionsDisabled" "Z" (.int (1 : Int32))) (S_H : Sta Z Z.heap "java/lang/StringUTF16" "HI_BYTE_SHIFT" "I" (.int (0 : Int32))) (S_L : Sta Z Z.heap "java/lang/StringUTF16" "LO_BYTE_SHIFT" "I" (.int (8 : Int32))) :
    MetFree l (⟨"java/lang/StringUTF16", "toBytes", "([CII)[B"⟩ : MethodName) (head1 (Jvm.Cond.code (⟨"java/lang/StringUTF16", "toBytes", "([CII)[B"⟩ : MethodName) jdk_52_method_14_code 5 (some (.array .byte)) :: ws) ({ frames := 2, cells := 1, slots := 8, locals := 24 } : Room)) (fun a_ U_ => a_ = #[(.ref bb), (.int (0 : Int32)), (.int (4 : Int32))] ∧ Z.Warmed39 U_.vm ∧ U_.heap = h0) (fun _ _ _ _ _ => True) (fun _ U_ o_ V_ => ∃ v_ L_, o_ = .returned v_ ∧ (Q_rm_tob4 Z bb kb ch0 ch1 ch2 ch3 h0 n0) v_ V_.heap L_ ∧ FrameEnd U_ o_ V_ L_ ({ frames := 2, cells := 1, slots := 8, locals := 24 } : Room).cells ({ frames := 2, cells := 1, slots := 8, locals := 24 } : Room).slots) := by
  refine MetFree.of_bodySF (plainFor_of_name pn_0) hisR ?_
  intro p e s m args below meth c s₁ Bd hml0 hP hK
  obtain ⟨rfl, hZ, hh⟩ := hP
  have hx := Bd.exec
  have hby := Bd.bytes
  have hml : c.maxLocals = 5 := hml0
  have hown : s.vm.findClass "java/lang/StringUTF16" = some m.cls := findClass_of_methodNamed Bd.named
  have hnm := (name_of_methodNamed Bd.named Bd.method).1
  have X0 : Stand p l e ({ frames := 2, cells := 1, slots := 8, locals := 24 } : Room) s m #[(.ref bb), (.int (0 : Int32)), (.int (4 : Int32))] below meth c s₁ [] 0 0 := Stand.of_body Bd
  have e0 : s₁.heap = h0 := by rw [← hh, Bd.state]; rfl
  have N0 := Fr.nil n0
  have K0 : Keep h0 h0 [] := Keep.refl _ _
  show own_Fin p.tables e below (own_Post (Q_rm_tob4 Z bb kb ch0 ch1 ch2 ch3 h0 n0) ({ frames := 2, cells := 1, slots := 8, locals := 24 } : Room).cells ({ frames := 2, cells := 1, slots := 8, locals := 24 } : Room).slots below s) _
  refine own_go (fun _ q => castTop (ef_rm_tob4 m bb ch0 ch1 ch2 ch3) q) ?_
  refine own_go (fun _ q => XS.iloadN X0.here hx rfl (hb hby d14_0) rfl q) ?_
  show own_Fin _ _ _ _ (s₁.setTop (mkF m 1 #[.val (.ref bb), .val (.int (0 : Int32)), .val (.int (4 : Int32)), .unset, .unset] [(.int (4 : Int32))]))
  obtain ⟨_, _, ⟨T44, L44, k44, n44⟩, -, X44, ⟨Lc44, hQ44, l44, y44, z44⟩, st44⟩ := Jvm.LawKit.callS X0 hx (y := (⟨"java/lang/StringUTF16", "newBytesFor", "(I)[B"⟩ : MethodName)) hown (mvT hZ (own_w hw 65 rfl)) (mvT hZ (own_w hw 66 rfl)) (mvT hZ (own_w hw 23 rfl)) (mvT hZ (own_w hw 67 rfl)) (by decide) (backOf (W := 0) (rm_nbf4 l Z a0 hw [] h0 n0 (Nat.le_trans Z0 K0.1)) hZ (own_w hw 67 rfl) (own_w hw 23 rfl) (by decide) (by decide)) (g := (mkF m 1 #[.val (.ref bb), .val (.int (0 : Int32)), .val (.int (4 : Int32)), .unset, .unset] [(.int (4 : Int32))])) rfl (by rw [hml]; rfl) (argsL := [(.int (4 : Int32))]) (rest := []) (lenOf pd_2 rfl) rfl (by show 2 * 0 + _ ≤ _; exact Nat.le_of_eq rfl) (hb hby d14_1) (fun _ _ => ⟨rfl, e0, (by decide : 0 + 1 ≤ _), (by decide : 0 + 8 ≤ _)⟩)
  dsimp only [Pt.U, Pt.locs, Pt.cells, Pt.slots] at X44 l44 y44 z44 st44 hQ44
  subst l44 y44 z44
  obtain ⟨r44, kk44, rfl, N44q, KK44, sz44, V44⟩ := hQ44
  have N44 := Fr.app N0 N44q
  have sz_r44 : h0.size ≤ r44 := Nat.le_trans K0.1 sz44
  have g_r44 : n0 ≤ r44 := Nat.le_trans Z0 sz_r44
  have ne45 : bb ≠ r44 := Nat.ne_of_lt (Nat.lt_of_lt_of_le V_bb.lt sz44)
  replace V_bb := V_bb.keep KK44 nin0
  replace O0 := O0.keep KK44 all0
  have K46 := K0.trans KK44 all0
  refine own_go st44 ?_
  refine own_go (fun _ q => XS.astoreN X44.here hx rfl (hb hby d14_4) rfl rfl (l' := #[.val (.ref bb), .val (.int (0 : Int32)), .val (.int (4 : Int32)), .val (.ref r44), .unset]) rfl q) ?_
  refine own_go (fun _ q => XS.iconst X44.here hx rfl (hb hby d14_5) q) ?_
  refine own_go (fun _ q => XS.istore X44.here hx rfl (hb hby d14_6) rfl (l' := #[.val (.ref bb), .val (.int (0 : Int32)), .val (.int (4 : Int32)), .val (.ref r44), .val (.int (0 : Int32))]) rfl q) ?_
  refine own_go (fun _ q => XS.iload X44.here hx rfl (hb hby d14_8) rfl q) ?_
  refine own_go (fun _ q => XS.iloadN X44.here hx rfl (hb hby d14_10) rfl q) ?_
  show own_Fin _ _ _ _ (T44.setTop (mkF m 11 #[.val (.ref bb), .val (.int (0 : Int32)), .val (.int (4 : Int32)), .val (.ref r44), .val (.int (0 : Int32))] [(.int (4 : Int32)), (.int (0 : Int32))]))
  refine own_go (fun _ q => XS.icmpNo X44.here hx rfl (hb hby d14_11) rfl (tlt (by decide : (0 : Int32) < (4 : Int32))).2.1 q) ?_
  refine own_go (fun _ q => XS.aloadN X44.here hx rfl (hb hby d14_14) rfl rfl q) ?_
  refine own_go (fun _ q => XS.iload X44.here hx rfl (hb hby d14_15) rfl q) ?_
  refine own_go (fun _ q => XS.aloadN X44.here hx rfl (hb hby d14_17) rfl rfl q) ?_
  refine own_go (fun _ q => XS.iloadN X44.here hx rfl (hb hby d14_18) rfl q) ?_
  show own_Fin _ _ _ _ (T44.setTop (mkF m 19 #[.val (.ref bb), .val (.int (0 : Int32)), .val (.int (4 : Int32)), .val (.ref r44), .val (.int (0 : Int32))] [(.int (0 : Int32)), (.ref bb), (.int (0 : Int32)), (.ref r44)]))
  refine own_go (fun _ q => own_caload X44 hx hZ rfl V_bb (by decide) (v := (.int ch0)) (rfl) (g := (mkF m 19 #[.val (.ref bb), .val (.int (0 : Int32)), .val (.int (4 : Int32)), .val (.ref r44), .val (.int (0 : Int32))] [(.int (0 : Int32)), (.ref bb), (.int (0 : Int32)), (.ref r44)])) rfl rfl (hb hby d14_19) _ q) ?_
  show own_Fin _ _ _ _ (T44.setTop (mkF m 20 #[.val (.ref bb), .val (.int (0 : Int32)), .val (.int (4 : Int32)), .val (.ref r44), .val (.int (0 : Int32))] [(.int ch0), (.int (0 : Int32)), (.ref r44)]))
  obtain ⟨_, _, ⟨T47, L47, k47, n47⟩, -, X47, ⟨Lc47, hQ47, l47, y47, z47⟩, st47⟩ := Jvm.LawKit.callS X44 hx (y := (⟨"java/lang/StringUTF16", "putChar", "([BII)V"⟩ : MethodName)) hown (mvT hZ (own_w hw 72 rfl)) (mvT hZ (own_w hw 73 rfl)) (mvT hZ (own_w hw 23 rfl)) (mvT hZ (own_w hw 74 rfl)) (by decide) (backOf (W := 0) (rm_pc l Z a0 hw [] r44 kk44 (0 : Int32) ch0 (8 : Int32) [(.int (0 : Int32)), (.int (0 : Int32)), (.int (0 : Int32)), (.int (0 : Int32)), (.int (0 : Int32)), (.int (0 : Int32)), (.int (0 : Int32)), (.int (0 : Int32))] 0 1 T44.heap n0 (Nat.le_trans Z0 K46.1) V44 g_r44 (by decide) (by decide) rfl rfl (Nat.le_of_ble_eq_true rfl) (Nat.le_of_ble_eq_true rfl) O0 S_A S_H S_L) hZ (own_w hw 74 rfl) (own_w hw 23 rfl) (by decide) (by decide)) (g := (mkF m 20 #[.val (.ref bb), .val (.int (0 : Int32)), .val (.int (4 : Int32)), .val (.ref r44), .val (.int (0 : Int32))] [(.int ch0), (.int (0 : Int32)), (.ref r44)])) rfl (by rw [hml]; rfl) (argsL := [(.ref r44), (.int (0 : Int32)), (.int ch0)]) (rest := []) (lenOf pd_3 rfl) rfl (by show 2 * 0 + _ ≤ _; exact Nat.le_of_eq rfl) (hb hby d14_20) (fun _ _ => ⟨rfl, rfl, (by decide : 1 + 0 ≤ _), (by decide : 8 + 0 ≤ _)⟩)
  dsimp only [Pt.U, Pt.locs, Pt.cells, Pt.slots] at X47 l47 y47 z47 st47 hQ47
  subst l47 y47 z47
  obtain ⟨rfl, N47q, KK47, V47⟩ := hQ47
  replace V47 : Arv Z _ r44 kk44 .byte (8 : Int32) [(.int (ch0.toInt8.toInt32)), (.int ((ch0 >>> ((8 : Int32) &&& 31)).toInt8.toInt32)), (.int (0 : Int32)), (.int (0 : Int32)), (.int (0 : Int32)), (.int (0 : Int32)), (.int (0 : Int32)), (.int (0 : Int32))] (.int (0 : Int32)) := V47
  have N47 := Fr.app N44 N47q
  replace V_bb := V_bb.keep KK47 (ninS ne45 nin0)
  replace O0 := O0.keep KK47 (allS g_r44 (all0))
  have K48 := K46.trans KK47 (allS (Or.inr sz_r44) all0)
  refine own_go st47 ?_
  show own_Fin _ _ _ _ (T47.setTop (mkF m 23 #[.val (.ref bb), .val (.int (0 : Int32)), .val (.int (4 : Int32)), .val (.ref r44), .val (.int (0 : Int32))] []))
  refine own_go (fun _ q => XS.iinc X47.here hx rfl (hb hby d14_23) rfl (l' := #[.val (.ref bb), .val (.int (1 : Int32)), .val (.int (4 : Int32)), .val (.ref r44), .val (.int (0 : Int32))]) rfl q) ?_
  show own_Fin _ _ _ _ (T47.setTop (mkF m 26 #[.val (.ref bb), .val (.int (1 : Int32)), .val (.int (4 : Int32)), .val (.ref r44), .val (.int (0 : Int32))] []))
  refine own_go (fun _ q => XS.iinc X47.here hx rfl (hb hby d14_26) rfl (l' := #[.val (.ref bb), .val (.int (1 : Int32)), .val (.int (4 : Int32)), .val (.ref r44), .val (.int (1 : Int32))]) rfl q) ?_
  refine own_go (fun _ q => XS.goto X47.here hx rfl (pc0 := 29) (pc' := 8) rfl (hb hby d14_29) (by decide) (by decide) q) ?_
  refine own_go (fun _ q => XS.iload X47.here hx rfl (hb hby d14_8) rfl q) ?_
  refine own_go (fun _ q => XS.iloadN X47.here hx rfl (hb hby d14_10) rfl q) ?_
  show own_Fin _ _ _ _ (T47.setTop (mkF m 11 #[.val (.ref bb), .val (.int (1 : Int32)), .val (.int (4 : Int32)), .val (.ref r44), .val (.int (1 : Int32))] [(.int (4 : Int32)), (.int (1 : Int32))]))
  refine own_go (fun _ q => XS.icmpNo X47.here hx rfl (hb hby d14_11) rfl (tlt (by decide : (1 : Int32) < (4 : Int32))).2.1 q) ?_
  refine own_go (fun _ q => XS.aloadN X47.here hx rfl (hb hby d14_14) rfl rfl q) ?_
  refine own_go (fun _ q => XS.iload X47.here hx rfl (hb hby d14_15) rfl q) ?_
  refine own_go (fun _ q => XS.aloadN X47.here hx rfl (hb hby d14_17) rfl rfl q) ?_
  refine own_go (fun _ q => XS.iloadN X47.here hx rfl (hb hby d14_18) rfl q) ?_
  show own_Fin _ _ _ _ (T47.setTop (mkF m 19 #[.val (.ref bb), .val (.int (1 : Int32)), .val (.int (4 : Int32)), .val (.ref r44), .val (.int (1 : Int32))] [(.int (1 : Int32)), (.ref bb), (.int (1 : Int32)), (.ref r44)]))
  refine own_go (fun _ q => own_caload X47 hx hZ rfl V_bb (by decide) (v := (.int ch1)) (rfl) (g := (mkF m 19 #[.val (.ref bb), .val (.int (1 : Int32)), .val (.int (4 : Int32)), .val (.ref r44), .val (.int (1 : Int32))] [(.int (1 : Int32)), (.ref bb), (.int (1 : Int32)), (.ref r44)])) rfl rfl (hb hby d14_19) _ q) ?_
  show own_Fin _ _ _ _ (T47.setTop (mkF m 20 #[.val (.ref bb), .val (.int (1 : Int32)), .val (.int (4 : Int32)), .val (.ref r44), .val (.int (1 : Int32))] [(.int ch1), (.int (1 : Int32)), (.ref r44)]))
  obtain ⟨_, _, ⟨T49, L49, k49, n49⟩, -, X49, ⟨Lc49, hQ49, l49, y49, z49⟩, st49⟩ := Jvm.LawKit.callS X47 hx (y := (⟨"java/lang/StringUTF16", "putChar", "([BII)V"⟩ : MethodName)) hown (mvT hZ (own_w hw 72 rfl)) (mvT hZ (own_w hw 73 rfl)) (mvT hZ (own_w hw 23 rfl)) (mvT hZ (own_w hw 74 rfl)) (by decide) (backOf (W := 0) (rm_pc l Z a0 hw [] r44 kk44 (1 : Int32) ch1 (8 : Int32) [(.int (ch0.toInt8.toInt32)), (.int ((ch0 >>> ((8 : Int32) &&& 31)).toInt8.toInt32)), (.int (0 : Int32)), (.int (0 : Int32)), (.int (0 : Int32)), (.int (0 : Int32)), (.int (0 : Int32)), (.int (0 : Int32))] 2 3 T47.heap n0 (Nat.le_trans Z0 K48.1) V47 g_r44 (by decide) (by decide) rfl rfl (Nat.le_of_ble_eq_true rfl) (Nat.le_of_ble_eq_true rfl) O0 S_A S_H S_L) hZ (own_w hw 74 rfl) (own_w hw 23 rfl) (by decide) (by decide)) (g := (mkF m 20 #[.val (.ref bb), .val (.int (1 : Int32)), .val (.int (4 : Int32)), .val (.ref r44), .val (.int (1 : Int32))] [(.int ch1), (.int (1 : Int32)), (.ref r44)])) rfl (by rw [hml]; rfl) (argsL := [(.ref r44), (.int (1 : Int32)), (.int ch1)]) (rest := []) (lenOf pd_3 rfl) rfl (by show 2 * 0 + _ ≤ _; exact Nat.le_of_eq rfl) (hb hby d14_20) (fun _ _ => ⟨rfl, rfl, (by decide : 1 + 0 ≤ _), (by decide : 8 + 0 ≤ _)⟩)
  dsimp only [Pt.U, Pt.locs, Pt.cells, Pt.slots] at X49 l49 y49 z49 st49 hQ49
  subst l49 y49 z49
  obtain ⟨rfl, N49q, KK49, V49⟩ := hQ49
  replace V49 : Arv Z _ r44 kk44 .byte (8 : Int32) [(.int (ch0.toInt8.toInt32)), (.int ((ch0 >>> ((8 : Int32) &&& 31)).toInt8.toInt32)), (.int (ch1.toInt8.toInt32)), (.int ((ch1 >>> ((8 : Int32) &&& 31)).toInt8.toInt32)), (.int (0 : Int32)), (.int (0 : Int32)), (.int (0 : Int32)), (.int (0 : Int32))] (.int (0 : Int32)) := V49
  have N49 := Fr.app N47 N49q
  replace V_bb := V_bb.keep KK49 (ninS ne45 nin0)
  replace O0 := O0.keep KK49 (allS g_r44 (all0))
  have K50 := K48.trans KK49 (allS (Or.inr sz_r44) all0)
  refine own_go st49 ?_
  show own_Fin _ _ _ _ (T49.setTop (mkF m 23 #[.val (.ref bb), .val (.int (1 : Int32)), .val (.int (4 : Int32)), .val (.ref r44), .val (.int (1 : Int32))] []))
  refine own_go (fun _ q => XS.iinc X49.here hx rfl (hb hby d14_23) rfl (l' := #[.val (.ref bb), .val (.int (2 : Int32)), .val (.int (4 : Int32)), .val (.ref r44), .val (.int (1 : Int32))]) rfl q) ?_
  show own_Fin _ _ _ _ (T49.setTop (mkF m 26 #[.val (.ref bb), .val (.int (2 : Int32)), .val (.int (4 : Int32)), .val (.ref r44), .val (.int (1 : Int32))] []))
  refine own_go (fun _ q => XS.iinc X49.here hx rfl (hb hby d14_26) rfl (l' := #[.val (.ref bb), .val (.int (2 : Int32)), .val (.int (4 : Int32)), .val (.ref r44), .val (.int (2 : Int32))]) rfl q) ?_
  refine own_go (fun _ q => XS.goto X49.here hx rfl (pc0 := 29) (pc' := 8) rfl (hb hby d14_29) (by decide) (by decide) q) ?_
  refine own_go (fun _ q => XS.iload X49.here hx rfl (hb hby d14_8) rfl q) ?_
  refine own_go (fun _ q => XS.iloadN X49.here hx rfl (hb hby d14_10) rfl q) ?_
  show own_Fin _ _ _ _ (T49.setTop (mkF m 11 #[.val (.ref bb), .val (.int (2 : Int32)), .val (.int (4 : Int32)), .val (.ref r44), .val (.int (2 : Int32))] [(.int (4 : Int32)), (.int (2 : Int32))]))
  refine own_go (fun _ q => XS.icmpNo X49.here hx rfl (hb hby d14_11) rfl (tlt (by decide : (2 : Int32) < (4 : Int32))).2.1 q) ?_
  refine own_go (fun _ q => XS.aloadN X49.here hx rfl (hb hby d14_14) rfl rfl q) ?_
  refine own_go (fun _ q => XS.iload X49.here hx rfl (hb hby d14_15) rfl q) ?_
  refine own_go (fun _ q => XS.aloadN X49.here hx rfl (hb hby d14_17) rfl rfl q) ?_
  refine own_go (fun _ q => XS.iloadN X49.here hx rfl (hb hby d14_18) rfl q) ?_
  show own_Fin _ _ _ _ (T49.setTop (mkF m 19 #[.val (.ref bb), .val (.int (2 : Int32)), .val (.int (4 : Int32)), .val (.ref r44), .val (.int (2 : Int32))] [(.int (2 : Int32)), (.ref bb), (.int (2 : Int32)), (.ref r44)]))
  refine own_go (fun _ q => own_caload X49 hx hZ rfl V_bb (by decide) (v := (.int ch2)) (rfl) (g := (mkF m 19 #[.val (.ref bb), .val (.int (2 : Int32)), .val (.int (4 : Int32)), .val (.ref r44), .val (.int (2 : Int32))] [(.int (2 : Int32)), (.ref bb), (.int (2 : Int32)), (.ref r44)])) rfl rfl (hb hby d14_19) _ q) ?_
  show own_Fin _ _ _ _ (T49.setTop (mkF m 20 #[.val (.ref bb), .val (.int (2 : Int32)), .val (.int (4 : Int32)), .val (.ref r44), .val (.int (2 : Int32))] [(.int ch2), (.int (2 : Int32)), (.ref r44)]))
  obtain ⟨_, _, ⟨T51, L51, k51, n51⟩, -, X51, ⟨Lc51, hQ51, l51, y51, z51⟩, st51⟩ := Jvm.LawKit.callS X49 hx (y := (⟨"java/lang/StringUTF16", "putChar", "([BII)V"⟩ : MethodName)) hown (mvT hZ (own_w hw 72 rfl)) (mvT hZ (own_w hw 73 rfl)) (mvT hZ (own_w hw 23 rfl)) (mvT hZ (own_w hw 74 rfl)) (by decide) (backOf (W := 0) (rm_pc l Z a0 hw [] r44 kk44 (2 : Int32) ch2 (8 : Int32) [(.int (ch0.toInt8.toInt32)), (.int ((ch0 >>> ((8 : Int32) &&& 31)).toInt8.toInt32)), (.int (ch1.toInt8.toInt32)), (.int ((ch1 >>> ((8 : Int32) &&& 31)).toInt8.toInt32)), (.int (0 : Int32)), (.int (0 : Int32)), (.int (0 : Int32)), (.int (0 : Int32))] 4 5 T49.heap n0 (Nat.le_trans Z0 K50.1) V49 g_r44 (by decide) (by decide) rfl rfl (Nat.le_of_ble_eq_true rfl) (Nat.le_of_ble_eq_true rfl) O0 S_A S_H S_L) hZ (own_w hw 74 rfl) (own_w hw 23 rfl) (by decide) (by decide)) (g := (mkF m 20 #[.val (.ref bb), .val (.int (2 : Int32)), .val (.int (4 : Int32)), .val (.ref r44), .val (.int (2 : Int32))] [(.int ch2), (.int (2 : Int32)), (.ref r44)])) rfl (by rw [hml]; rfl) (argsL := [(.ref r44), (.int (2 : Int32)), (.int ch2)]) (rest := []) (lenOf pd_3 rfl) rfl (by show 2 * 0 + _ ≤ _; exact Nat.le_of_eq rfl) (hb hby d14_20) (fun _ _ => ⟨rfl, rfl, (by decide : 1 + 0 ≤ _), (by decide : 8 + 0 ≤ _)⟩)
  dsimp only [Pt.U, Pt.locs, Pt.cells, Pt.slots] at X51 l51 y51 z51 st51 hQ51
  subst l51 y51 z51
  obtain ⟨rfl, N51q, KK51, V51⟩ := hQ51
  replace V51 : Arv Z _ r44 kk44 .byte (8 : Int32) [(.int (ch0.toInt8.toInt32)), (.int ((ch0 >>> ((8 : Int32) &&& 31)).toInt8.toInt32)), (.int (ch1.toInt8.toInt32)), (.int ((ch1 >>> ((8 : Int32) &&& 31)).toInt8.toInt32)), (.int (ch2.toInt8.toInt32)), (.int ((ch2 >>> ((8 : Int32) &&& 31)).toInt8.toInt32)), (.int (0 : Int32)), (.int (0 : Int32))] (.int (0 : Int32)) := V51
  have N51 := Fr.app N49 N51q
  replace V_bb := V_bb.keep KK51 (ninS ne45 nin0)
  replace O0 := O0.keep KK51 (allS g_r44 (all0))
  have K52 := K50.trans KK51 (allS (Or.inr sz_r44) all0)
  refine own_go st51 ?_
  show own_Fin _ _ _ _ (T51.setTop (mkF m 23 #[.val (.ref bb), .val (.int (2 : Int32)), .val (.int (4 : Int32)), .val (.ref r44), .val (.int (2 : Int32))] []))
  refine own_go (fun _ q => XS.iinc X51.here hx rfl (hb hby d14_23) rfl (l' := #[.val (.ref bb), .val (.int (3 : Int32)), .val (.int (4 : Int32)), .val (.ref r44), .val (.int (2 : Int32))]) rfl q) ?_
  show own_Fin _ _ _ _ (T51.setTop (mkF m 26 #[.val (.ref bb), .val (.int (3 : Int32)), .val (.int (4 : Int32)), .val (.ref r44), .val (.int (2 : Int32))] []))
  refine own_go (fun _ q => XS.iinc X51.here hx rfl (hb hby d14_26) rfl (l' := #[.val (.ref bb), .val (.int (3 : Int32)), .val (.int (4 : Int32)), .val (.ref r44), .val (.int (3 : Int32))]) rfl q) ?_
  refine own_go (fun _ q => XS.goto X51.here hx rfl (pc0 := 29) (pc' := 8) rfl (hb hby d14_29) (by decide) (by decide) q) ?_
  refine own_go (fun _ q => XS.iload X51.here hx rfl (hb hby d14_8) rfl q) ?_
  refine own_go (fun _ q => XS.iloadN X51.here hx rfl (hb hby d14_10) rfl q) ?_
  show own_Fin _ _ _ _ (T51.setTop (mkF m 11 #[.val (.ref bb), .val (.int (3 : Int32)), .val (.int (4 : Int32)), .val (.ref r44), .val (.int (3 : Int32))] [(.int (4 : Int32)), (.int (3 : Int32))]))
  refine own_go (fun _ q => XS.icmpNo X51.here hx rfl (hb hby d14_11) rfl (tlt (by decide : (3 : Int32) < (4 : Int32))).2.1 q) ?_
  refine own_go (fun _ q => XS.aloadN X51.here hx rfl (hb hby d14_14) rfl rfl q) ?_
  refine own_go (fun _ q => XS.iload X51.here hx rfl (hb hby d14_15) rfl q) ?_
  refine own_go (fun _ q => XS.aloadN X51.here hx rfl (hb hby d14_17) rfl rfl q) ?_
  refine own_go (fun _ q => XS.iloadN X51.here hx rfl (hb hby d14_18) rfl q) ?_
  show own_Fin _ _ _ _ (T51.setTop (mkF m 19 #[.val (.ref bb), .val (.int (3 : Int32)), .val (.int (4 : Int32)), .val (.ref r44), .val (.int (3 : Int32))] [(.int (3 : Int32)), (.ref bb), (.int (3 : Int32)), (.ref r44)]))
  refine own_go (fun _ q => own_caload X51 hx hZ rfl V_bb (by decide) (v := (.int ch3)) (rfl) (g := (mkF m 19 #[.val (.ref bb), .val (.int (3 : Int32)), .val (.int (4 : Int32)), .val (.ref r44), .val (.int (3 : Int32))] [(.int (3 : Int32)), (.ref bb), (.int (3 : Int32)), (.ref r44)])) rfl rfl (hb hby d14_19) _ q) ?_
  show own_Fin _ _ _ _ (T51.setTop (mkF m 20 #[.val (.ref bb), .val (.int (3 : Int32)), .val (.int (4 : Int32)), .val (.ref r44), .val (.int (3 : Int32))] [(.int ch3), (.int (3 : Int32)), (.ref r44)]))
  obtain ⟨_, _, ⟨T53, L53, k53, n53⟩, -, X53, ⟨Lc53, hQ53, l53, y53, z53⟩, st53⟩ := Jvm.LawKit.callS X51 hx (y := (⟨"java/lang/StringUTF16", "putChar", "([BII)V"⟩ : MethodName)) hown (mvT hZ (own_w hw 72 rfl)) (mvT hZ (own_w hw 73 rfl)) (mvT hZ (own_w hw 23 rfl)) (mvT hZ (own_w hw 74 rfl)) (by decide) (backOf (W := 0) (rm_pc l Z a0 hw [] r44 kk44 (3 : Int32) ch3 (8 : Int32) [(.int (ch0.toInt8.toInt32)), (.int ((ch0 >>> ((8 : Int32) &&& 31)).toInt8.toInt32)), (.int (ch1.toInt8.toInt32)), (.int ((ch1 >>> ((8 : Int32) &&& 31)).toInt8.toInt32)), (.int (ch2.toInt8.toInt32)), (.int ((ch2 >>> ((8 : Int32) &&& 31)).toInt8.toInt32)), (.int (0 : Int32)), (.int (0 : Int32))] 6 7 T51.heap n0 (Nat.le_trans Z0 K52.1) V51 g_r44 (by decide) (by decide) rfl rfl (Nat.le_of_ble_eq_true rfl) (Nat.le_of_ble_eq_true rfl) O0 S_A S_H S_L) hZ (own_w hw 74 rfl) (own_w hw 23 rfl) (by decide) (by decide)) (g := (mkF m 20 #[.val (.ref bb), .val (.int (3 : Int32)), .val (.int (4 : Int32)), .val (.ref r44), .val (.int (3 : Int32))] [(.int ch3), (.int (3 : Int32)), (.ref r44)])) rfl (by rw [hml]; rfl) (argsL := [(.ref r44), (.int (3 : Int32)), (.int ch3)]) (rest := []) (lenOf pd_3 rfl) rfl (by show 2 * 0 + _ ≤ _; exact Nat.le_of_eq rfl) (hb hby d14_20) (fun _ _ => ⟨rfl, rfl, (by decide : 1 + 0 ≤ _), (by decide : 8 + 0 ≤ _)⟩)
  dsimp only [Pt.U, Pt.locs, Pt.cells, Pt.slots] at X53 l53 y53 z53 st53 hQ53
  subst l53 y53 z53
  obtain ⟨rfl, N53q, KK53, V53⟩ := hQ53
  replace V53 : Arv Z _ r44 kk44 .byte (8 : Int32) [(.int (ch0.toInt8.toInt32)), (.int ((ch0 >>> ((8 : Int32) &&& 31)).toInt8.toInt32)), (.int (ch1.toInt8.toInt32)), (.int ((ch1 >>> ((8 : Int32) &&& 31)).toInt8.toInt32)), (.int (ch2.toInt8.toInt32)), (.int ((ch2 >>> ((8 : Int32) &&& 31)).toInt8.toInt32)), (.int (ch3.toInt8.toInt32)), (.int ((ch3 >>> ((8 : Int32) &&& 31)).toInt8.toInt32))] (.int (0 : Int32)) := V53
  have N53 := Fr.app N51 N53q
  replace V_bb := V_bb.keep KK53 (ninS ne45 nin0)
  replace O0 := O0.keep KK53 (allS g_r44 (all0))
  have K54 := K52.trans KK53 (allS (Or.inr sz_r44) all0)
  refine own_go st53 ?_
  show own_Fin _ _ _ _ (T53.setTop (mkF m 23 #[.val (.ref bb), .val (.int (3 : Int32)), .val (.int (4 : Int32)), .val (.ref r44), .val (.int (3 : Int32))] []))
  refine own_go (fun _ q => XS.iinc X53.here hx rfl (hb hby d14_23) rfl (l' := #[.val (.ref bb), .val (.int (4 : Int32)), .val (.int (4 : Int32)), .val (.ref r44), .val (.int (3 : Int32))]) rfl q) ?_
  show own_Fin _ _ _ _ (T53.setTop (mkF m 26 #[.val (.ref bb), .val (.int (4 : Int32)), .val (.int (4 : Int32)), .val (.ref r44), .val (.int (3 : Int32))] []))
  refine own_go (fun _ q => XS.iinc X53.here hx rfl (hb hby d14_26) rfl (l' := #[.val (.ref bb), .val (.int (4 : Int32)), .val (.int (4 : Int32)), .val (.ref r44), .val (.int (4 : Int32))]) rfl q) ?_
  refine own_go (fun _ q => XS.goto X53.here hx rfl (pc0 := 29) (pc' := 8) rfl (hb hby d14_29) (by decide) (by decide) q) ?_
  refine own_go (fun _ q => XS.iload X53.here hx rfl (hb hby d14_8) rfl q) ?_
  refine own_go (fun _ q => XS.iloadN X53.here hx rfl (hb hby d14_10) rfl q) ?_
  show own_Fin _ _ _ _ (T53.setTop (mkF m 11 #[.val (.ref bb), .val (.int (4 : Int32)), .val (.int (4 : Int32)), .val (.ref r44), .val (.int (4 : Int32))] [(.int (4 : Int32)), (.int (4 : Int32))]))
  refine own_go (fun _ q => XS.icmpYes X53.here hx rfl (pc0 := 11) (pc' := 32) rfl (hb hby d14_11) rfl (flt (by decide : ¬ (4 : Int32) < (4 : Int32))).2.1 (by decide) (by decide) q) ?_
  refine own_go (fun _ q => XS.aloadN X53.here hx rfl (hb hby d14_32) rfl rfl q) ?_
  show own_Fin _ _ _ _ (T53.setTop (mkF m 33 #[.val (.ref bb), .val (.int (4 : Int32)), .val (.int (4 : Int32)), .val (.ref r44), .val (.int (4 : Int32))] [(.ref r44)]))
  refine own_retA X53 hx Bd (t := (.array .byte)) Bd.returns rfl rfl rfl (hb hby d14_33) ?_ (by decide) (by decide)
  show (Q_rm_tob4 Z bb kb ch0 ch1 ch2 ch3 h0 n0) (some (.ref r44)) T53.heap _
  exact ⟨_, _, rfl, N53, K54, sz_r44, V53⟩
def Q_rm_c5_1 (Z : State) (bb : Addr) (kb : ClassId) (dd : Addr) (kd : ClassId) (ch0 : Int32) (h0 : Heap) (n0 : Nat) (v : Option Value) (h : Heap) (L : List Loc) : Prop := Fr n0 L ∧ Keep h0 h [dd] ∧ ((v = some (.int (0 : Int32)) ∧ (255 : Int32) < ch0) ∨ (v = some (.int (1 : Int32)) ∧ (∀ c ∈ ([ch0] : List Int32), ¬ (255 : Int32) < c) ∧ Arv Z h dd kd .byte (1 : Int32) [(.int (ch0.toInt8.toInt32))] (.int (0 : Int32))))
theorem ef_rm_c5_1 (m : MethodId) (bb : Addr) (dd : Addr) (ch0 : Int32) : entryFrame m #[(.ref bb), (.int (0 : Int32)), (.ref dd), (.int (0 : Int32)), (.int (1 : Int32))] 7 = mkF m 0 #[.val (.ref bb), .val (.int (0 : Int32)), .val (.ref dd), .val (.int (0 : Int32)), .val (.int (1 : Int32)), .unset, .unset] [] := by first | (simp [entryFrame, mkF, argsToLocals, Value.category]; done) | rfl
set_option maxRecDepth 65536 in
set_option maxHeartbeats 40000000 in
theorem rm_c5_1 (l : Launch) (Z : State) (a0 : Array Value) (hw : ∀ d ∈ tables_1, d.before a0 Z = true) (ws : List Jvm.Cond) (bb : Addr) (kb : ClassId) (dd : Addr) (kd : ClassId) (ch0 : Int32) (h0 : Heap) (n0 : Nat) (Z0 : n0 ≤ h0.size) (V_bb : Arv Z h0 bb kb .char (1 : Int32) [(.int ch0)] (.int (0 : Int32))) (V_dd : Arv Z h0 dd kd .byte (1 : Int32) [(.int (0 : Int32))] (.int (0 : Int32))) (g_dd : n0 ≤ dd) (neb : bb ≠ dd) :
    MetFree l (⟨"java/lang/StringUTF16", "compress", "([CI[BII)I"⟩ : MethodName) (head1 (Jvm.Cond.code (⟨"java/lang/StringUTF16", "compress", "([CI[BII)I"⟩ : MethodName) jdk_52_method_21_code 7 (some .int) :: ws) ({ frames := 0, cells := 0, slots := 0, locals := 0 } : Room)) (fun a_ U_ => a_ = #[(.ref bb), (.int (0 : Int32)), (.ref dd), (.int (0 : Int32)), (.int (1 : Int32))] ∧ Z.Warmed39 U_.vm ∧ U_.heap = h0) (fun _ _ _ _ _ => True) (fun _ U_ o_ V_ => ∃ v_ L_, o_ = .returned v_ ∧ (Q_rm_c5_1 Z bb kb dd kd ch0 h0 n0) v_ V_.heap L_ ∧ FrameEnd U_ o_ V_ L_ ({ frames := 0, cells := 0, slots := 0, locals := 0 } : Room).cells ({ frames := 0, cells := 0, slots := 0, locals := 0 } : Room).slots) := by
  refine MetFree.of_bodySF (plainFor_of_name pn_0) hisR ?_
  intro p e s m args below meth c s₁ Bd hml0 hP hK
  obtain ⟨rfl, hZ, hh⟩ := hP
  have hx := Bd.exec
  have hby := Bd.bytes
  have hml : c.maxLocals = 7 := hml0
  have hown : s.vm.findClass "java/lang/StringUTF16" = some m.cls := findClass_of_methodNamed Bd.named
  have hnm := (name_of_methodNamed Bd.named Bd.method).1
  have X0 : Stand p l e ({ frames := 0, cells := 0, slots := 0, locals := 0 } : Room) s m #[(.ref bb), (.int (0 : Int32)), (.ref dd), (.int (0 : Int32)), (.int (1 : Int32))] below meth c s₁ [] 0 0 := Stand.of_body Bd
  have e0 : s₁.heap = h0 := by rw [← hh, Bd.state]; rfl
  have N0 := Fr.nil n0
  have K0 : Keep h0 h0 [dd] := Keep.refl _ _
  show own_Fin p.tables e below (own_Post (Q_rm_c5_1 Z bb kb dd kd ch0 h0 n0) ({ frames := 0, cells := 0, slots := 0, locals := 0 } : Room).cells ({ frames := 0, cells := 0, slots := 0, locals := 0 } : Room).slots below s) _
  refine own_go (fun _ q => castTop (ef_rm_c5_1 m bb dd ch0) q) ?_
  refine own_go (fun _ q => XS.iconst X0.here hx rfl (hb hby d6_0) q) ?_
  refine own_go (fun _ q => XS.istore X0.here hx rfl (hb hby d6_1) rfl (l' := #[.val (.ref bb), .val (.int (0 : Int32)), .val (.ref dd), .val (.int (0 : Int32)), .val (.int (1 : Int32)), .val (.int (0 : Int32)), .unset]) rfl q) ?_
  refine own_go (fun _ q => XS.iload X0.here hx rfl (hb hby d6_3) rfl q) ?_
  refine own_go (fun _ q => XS.iload X0.here hx rfl (hb hby d6_5) rfl q) ?_
  show own_Fin _ _ _ _ (s₁.setTop (mkF m 7 #[.val (.ref bb), .val (.int (0 : Int32)), .val (.ref dd), .val (.int (0 : Int32)), .val (.int (1 : Int32)), .val (.int (0 : Int32)), .unset] [(.int (1 : Int32)), (.int (0 : Int32))]))
  refine own_go (fun _ q => XS.icmpNo X0.here hx rfl (hb hby d6_7) rfl (tlt (by decide : (0 : Int32) < (1 : Int32))).2.1 q) ?_
  refine own_go (fun _ q => XS.aloadN X0.here hx rfl (hb hby d6_10) rfl rfl q) ?_
  refine own_go (fun _ q => XS.iloadN X0.here hx rfl (hb hby d6_11) rfl q) ?_
  show own_Fin _ _ _ _ (s₁.setTop (mkF m 12 #[.val (.ref bb), .val (.int (0 : Int32)), .val (.ref dd), .val (.int (0 : Int32)), .val (.int (1 : Int32)), .val (.int (0 : Int32)), .unset] [(.int (0 : Int32)), (.ref bb)]))
  refine own_go (fun _ q => own_caload X0 hx hZ e0 V_bb (by decide) (v := (.int ch0)) (rfl) (g := (mkF m 12 #[.val (.ref bb), .val (.int (0 : Int32)), .val (.ref dd), .val (.int (0 : Int32)), .val (.int (1 : Int32)), .val (.int (0 : Int32)), .unset] [(.int (0 : Int32)), (.ref bb)])) rfl rfl (hb hby d6_12) _ q) ?_
  refine own_go (fun _ q => XS.istore X0.here hx rfl (hb hby d6_13) rfl (l' := #[.val (.ref bb), .val (.int (0 : Int32)), .val (.ref dd), .val (.int (0 : Int32)), .val (.int (1 : Int32)), .val (.int (0 : Int32)), .val (.int ch0)]) rfl q) ?_
  refine own_go (fun _ q => XS.iload X0.here hx rfl (hb hby d6_15) rfl q) ?_
  refine own_go (fun _ q => XS.sipush X0.here hx rfl (hb hby d6_17) q) ?_
  show own_Fin _ _ _ _ (s₁.setTop (mkF m 20 #[.val (.ref bb), .val (.int (0 : Int32)), .val (.ref dd), .val (.int (0 : Int32)), .val (.int (1 : Int32)), .val (.int (0 : Int32)), .val (.int ch0)] [(.int (255 : Int32)), (.int ch0)]))
  by_cases hc55 : (255 : Int32) < ch0
  · skip
    refine own_go (fun _ q => XS.icmpNo X0.here hx rfl (hb hby d6_20) rfl (tlt hc55).2.2.2 q) ?_
    refine own_go (fun _ q => XS.iload X0.here hx rfl (hb hby d6_23) rfl q) ?_
    show own_Fin _ _ _ _ (s₁.setTop (mkF m 25 #[.val (.ref bb), .val (.int (0 : Int32)), .val (.ref dd), .val (.int (0 : Int32)), .val (.int (1 : Int32)), .val (.int (0 : Int32)), .val (.int ch0)] [(.int (0 : Int32))]))
    refine own_retI X0 hx Bd (t := .int) Bd.returns rfl (by simp) (hb hby d6_25) ?_ (by decide) (by decide)
    show (Q_rm_c5_1 Z bb kb dd kd ch0 h0 n0) (some (.int (0 : Int32))) s₁.heap _
    rw [e0]
    exact ⟨N0, K0, Or.inl (⟨rfl, hc55⟩)⟩
  · skip
    refine own_go (fun _ q => XS.icmpYes X0.here hx rfl (pc0 := 20) (pc' := 26) rfl (hb hby d6_20) rfl (flt hc55).2.2.2 (by decide) (by decide) q) ?_
    refine own_go (fun _ q => XS.aloadN X0.here hx rfl (hb hby d6_26) rfl rfl q) ?_
    refine own_go (fun _ q => XS.iloadN X0.here hx rfl (hb hby d6_27) rfl q) ?_
    refine own_go (fun _ q => XS.iload X0.here hx rfl (hb hby d6_28) rfl q) ?_
    show own_Fin _ _ _ _ (s₁.setTop (mkF m 30 #[.val (.ref bb), .val (.int (0 : Int32)), .val (.ref dd), .val (.int (0 : Int32)), .val (.int (1 : Int32)), .val (.int (0 : Int32)), .val (.int ch0)] [(.int ch0), (.int (0 : Int32)), (.ref dd)]))
    refine own_go (fun _ q => XS.i2b X0.here hx rfl (hb hby d6_30) rfl q) ?_
    show own_Fin _ _ _ _ (s₁.setTop (mkF m 31 #[.val (.ref bb), .val (.int (0 : Int32)), .val (.ref dd), .val (.int (0 : Int32)), .val (.int (1 : Int32)), .val (.int (0 : Int32)), .val (.int ch0)] [(.int (ch0.toInt8.toInt32)), (.int (0 : Int32)), (.ref dd)]))
    obtain ⟨T56, h56, X56, e56, W56, V56, st56⟩ := own_stB X0 hx hZ e0 V_dd (by decide) (i := 0) rfl (Nat.le_of_ble_eq_true rfl) (g := (mkF m 31 #[.val (.ref bb), .val (.int (0 : Int32)), .val (.ref dd), .val (.int (0 : Int32)), .val (.int (1 : Int32)), .val (.int (0 : Int32)), .val (.int ch0)] [(.int (ch0.toInt8.toInt32)), (.int (0 : Int32)), (.ref dd)])) rfl rfl (hb hby d6_31)
    rw [own_b8] at V56
    replace V_dd : Arv Z h56 dd kd .byte (1 : Int32) [(.int (ch0.toInt8.toInt32))] (.int (0 : Int32)) := V56
    have N56 := Fr.snoc X56 N0 g_dd
    refine own_go st56 ?_
    replace V_bb := V_bb.other W56 neb
    have K57 := K0.wr W56 (Or.inl (by simp))
    show own_Fin _ _ _ _ (T56.setTop (mkF m 32 #[.val (.ref bb), .val (.int (0 : Int32)), .val (.ref dd), .val (.int (0 : Int32)), .val (.int (1 : Int32)), .val (.int (0 : Int32)), .val (.int ch0)] []))
    refine own_go (fun _ q => XS.iinc X56.here hx rfl (hb hby d6_32) rfl (l' := #[.val (.ref bb), .val (.int (1 : Int32)), .val (.ref dd), .val (.int (0 : Int32)), .val (.int (1 : Int32)), .val (.int (0 : Int32)), .val (.int ch0)]) rfl q) ?_
    show own_Fin _ _ _ _ (T56.setTop (mkF m 35 #[.val (.ref bb), .val (.int (1 : Int32)), .val (.ref dd), .val (.int (0 : Int32)), .val (.int (1 : Int32)), .val (.int (0 : Int32)), .val (.int ch0)] []))
    refine own_go (fun _ q => XS.iinc X56.here hx rfl (hb hby d6_35) rfl (l' := #[.val (.ref bb), .val (.int (1 : Int32)), .val (.ref dd), .val (.int (1 : Int32)), .val (.int (1 : Int32)), .val (.int (0 : Int32)), .val (.int ch0)]) rfl q) ?_
    show own_Fin _ _ _ _ (T56.setTop (mkF m 38 #[.val (.ref bb), .val (.int (1 : Int32)), .val (.ref dd), .val (.int (1 : Int32)), .val (.int (1 : Int32)), .val (.int (0 : Int32)), .val (.int ch0)] []))
    refine own_go (fun _ q => XS.iinc X56.here hx rfl (hb hby d6_38) rfl (l' := #[.val (.ref bb), .val (.int (1 : Int32)), .val (.ref dd), .val (.int (1 : Int32)), .val (.int (1 : Int32)), .val (.int (1 : Int32)), .val (.int ch0)]) rfl q) ?_
    refine own_go (fun _ q => XS.goto X56.here hx rfl (pc0 := 41) (pc' := 3) rfl (hb hby d6_41) (by decide) (by decide) q) ?_
    refine own_go (fun _ q => XS.iload X56.here hx rfl (hb hby d6_3) rfl q) ?_
    refine own_go (fun _ q => XS.iload X56.here hx rfl (hb hby d6_5) rfl q) ?_
    show own_Fin _ _ _ _ (T56.setTop (mkF m 7 #[.val (.ref bb), .val (.int (1 : Int32)), .val (.ref dd), .val (.int (1 : Int32)), .val (.int (1 : Int32)), .val (.int (1 : Int32)), .val (.int ch0)] [(.int (1 : Int32)), (.int (1 : Int32))]))
    refine own_go (fun _ q => XS.icmpYes X56.here hx rfl (pc0 := 7) (pc' := 44) rfl (hb hby d6_7) rfl (flt (by decide : ¬ (1 : Int32) < (1 : Int32))).2.1 (by decide) (by decide) q) ?_
    refine own_go (fun _ q => XS.iload X56.here hx rfl (hb hby d6_44) rfl q) ?_
    show own_Fin _ _ _ _ (T56.setTop (mkF m 46 #[.val (.ref bb), .val (.int (1 : Int32)), .val (.ref dd), .val (.int (1 : Int32)), .val (.int (1 : Int32)), .val (.int (1 : Int32)), .val (.int ch0)] [(.int (1 : Int32))]))
    refine own_retI X56 hx Bd (t := .int) Bd.returns rfl (by simp) (hb hby d6_46) ?_ (by decide) (by decide)
    show (Q_rm_c5_1 Z bb kb dd kd ch0 h0 n0) (some (.int (1 : Int32))) T56.heap _
    rw [e56]
    refine ⟨N56, K57, Or.inr ((⟨rfl, ?_, V_dd⟩))⟩
    intro c hc
    simp only [List.mem_cons, List.not_mem_nil, or_false] at hc
    rcases hc with rfl
    · exact hc55
def Q_rm_c5_2 (Z : State) (bb : Addr) (kb : ClassId) (dd : Addr) (kd : ClassId) (ch0 : Int32) (ch1 : Int32) (h0 : Heap) (n0 : Nat) (v : Option Value) (h : Heap) (L : List Loc) : Prop := Fr n0 L ∧ Keep h0 h [dd] ∧ ((v = some (.int (0 : Int32)) ∧ (255 : Int32) < ch0) ∨ (v = some (.int (1 : Int32)) ∧ (255 : Int32) < ch1) ∨ (v = some (.int (2 : Int32)) ∧ (∀ c ∈ ([ch0, ch1] : List Int32), ¬ (255 : Int32) < c) ∧ Arv Z h dd kd .byte (2 : Int32) [(.int (ch0.toInt8.toInt32)), (.int (ch1.toInt8.toInt32))] (.int (0 : Int32))))
theorem ef_rm_c5_2 (m : MethodId) (bb : Addr) (dd : Addr) (ch0 : Int32) (ch1 : Int32) : entryFrame m #[(.ref bb), (.int (0 : Int32)), (.ref dd), (.int (0 : Int32)), (.int (2 : Int32))] 7 = mkF m 0 #[.val (.ref bb), .val (.int (0 : Int32)), .val (.ref dd), .val (.int (0 : Int32)), .val (.int (2 : Int32)), .unset, .unset] [] := by first | (simp [entryFrame, mkF, argsToLocals, Value.category]; done) | rfl
set_option maxRecDepth 65536 in
set_option maxHeartbeats 40000000 in
theorem rm_c5_2 (l : Launch) (Z : State) (a0 : Array Value) (hw : ∀ d ∈ tables_1, d.before a0 Z = true) (ws : List Jvm.Cond) (bb : Addr) (kb : ClassId) (dd : Addr) (kd : ClassId) (ch0 : Int32) (ch1 : Int32) (h0 : Heap) (n0 : Nat) (Z0 : n0 ≤ h0.size) (V_bb : Arv Z h0 bb kb .char (2 : Int32) [(.int ch0), (.int ch1)] (.int (0 : Int32))) (V_dd : Arv Z h0 dd kd .byte (2 : Int32) [(.int (0 : Int32)), (.int (0 : Int32))] (.int (0 : Int32))) (g_dd : n0 ≤ dd) (neb : bb ≠ dd) :
    MetFree l (⟨"java/lang/StringUTF16", "compress", "([CI[BII)I"⟩ : MethodName) (head1 (Jvm.Cond.code (⟨"java/lang/StringUTF16", "compress", "([CI[BII)I"⟩ : MethodName) jdk_52_method_21_code 7 (some .int) :: ws) ({ frames := 0, cells := 0, slots := 0, locals := 0 } : Room)) (fun a_ U_ => a_ = #[(.ref bb), (.int (0 : Int32)), (.ref dd), (.int (0 : Int32)), (.int (2 : Int32))] ∧ Z.Warmed39 U_.vm ∧ U_.heap = h0) (fun _ _ _ _ _ => True) (fun _ U_ o_ V_ => ∃ v_ L_, o_ = .returned v_ ∧ (Q_rm_c5_2 Z bb kb dd kd ch0 ch1 h0 n0) v_ V_.heap L_ ∧ FrameEnd U_ o_ V_ L_ ({ frames := 0, cells := 0, slots := 0, locals := 0 } : Room).cells ({ frames := 0, cells := 0, slots := 0, locals := 0 } : Room).slots) := by
  refine MetFree.of_bodySF (plainFor_of_name pn_0) hisR ?_
  intro p e s m args below meth c s₁ Bd hml0 hP hK
  obtain ⟨rfl, hZ, hh⟩ := hP
  have hx := Bd.exec
  have hby := Bd.bytes
  have hml : c.maxLocals = 7 := hml0
  have hown : s.vm.findClass "java/lang/StringUTF16" = some m.cls := findClass_of_methodNamed Bd.named
  have hnm := (name_of_methodNamed Bd.named Bd.method).1
  have X0 : Stand p l e ({ frames := 0, cells := 0, slots := 0, locals := 0 } : Room) s m #[(.ref bb), (.int (0 : Int32)), (.ref dd), (.int (0 : Int32)), (.int (2 : Int32))] below meth c s₁ [] 0 0 := Stand.of_body Bd
  have e0 : s₁.heap = h0 := by rw [← hh, Bd.state]; rfl
  have N0 := Fr.nil n0
  have K0 : Keep h0 h0 [dd] := Keep.refl _ _
  show own_Fin p.tables e below (own_Post (Q_rm_c5_2 Z bb kb dd kd ch0 ch1 h0 n0) ({ frames := 0, cells := 0, slots := 0, locals := 0 } : Room).cells ({ frames := 0, cells := 0, slots := 0, locals := 0 } : Room).slots below s) _
  refine own_go (fun _ q => castTop (ef_rm_c5_2 m bb dd ch0 ch1) q) ?_
  refine own_go (fun _ q => XS.iconst X0.here hx rfl (hb hby d6_0) q) ?_
  refine own_go (fun _ q => XS.istore X0.here hx rfl (hb hby d6_1) rfl (l' := #[.val (.ref bb), .val (.int (0 : Int32)), .val (.ref dd), .val (.int (0 : Int32)), .val (.int (2 : Int32)), .val (.int (0 : Int32)), .unset]) rfl q) ?_
  refine own_go (fun _ q => XS.iload X0.here hx rfl (hb hby d6_3) rfl q) ?_
  refine own_go (fun _ q => XS.iload X0.here hx rfl (hb hby d6_5) rfl q) ?_
  show own_Fin _ _ _ _ (s₁.setTop (mkF m 7 #[.val (.ref bb), .val (.int (0 : Int32)), .val (.ref dd), .val (.int (0 : Int32)), .val (.int (2 : Int32)), .val (.int (0 : Int32)), .unset] [(.int (2 : Int32)), (.int (0 : Int32))]))
  refine own_go (fun _ q => XS.icmpNo X0.here hx rfl (hb hby d6_7) rfl (tlt (by decide : (0 : Int32) < (2 : Int32))).2.1 q) ?_
  refine own_go (fun _ q => XS.aloadN X0.here hx rfl (hb hby d6_10) rfl rfl q) ?_
  refine own_go (fun _ q => XS.iloadN X0.here hx rfl (hb hby d6_11) rfl q) ?_
  show own_Fin _ _ _ _ (s₁.setTop (mkF m 12 #[.val (.ref bb), .val (.int (0 : Int32)), .val (.ref dd), .val (.int (0 : Int32)), .val (.int (2 : Int32)), .val (.int (0 : Int32)), .unset] [(.int (0 : Int32)), (.ref bb)]))
  refine own_go (fun _ q => own_caload X0 hx hZ e0 V_bb (by decide) (v := (.int ch0)) (rfl) (g := (mkF m 12 #[.val (.ref bb), .val (.int (0 : Int32)), .val (.ref dd), .val (.int (0 : Int32)), .val (.int (2 : Int32)), .val (.int (0 : Int32)), .unset] [(.int (0 : Int32)), (.ref bb)])) rfl rfl (hb hby d6_12) _ q) ?_
  refine own_go (fun _ q => XS.istore X0.here hx rfl (hb hby d6_13) rfl (l' := #[.val (.ref bb), .val (.int (0 : Int32)), .val (.ref dd), .val (.int (0 : Int32)), .val (.int (2 : Int32)), .val (.int (0 : Int32)), .val (.int ch0)]) rfl q) ?_
  refine own_go (fun _ q => XS.iload X0.here hx rfl (hb hby d6_15) rfl q) ?_
  refine own_go (fun _ q => XS.sipush X0.here hx rfl (hb hby d6_17) q) ?_
  show own_Fin _ _ _ _ (s₁.setTop (mkF m 20 #[.val (.ref bb), .val (.int (0 : Int32)), .val (.ref dd), .val (.int (0 : Int32)), .val (.int (2 : Int32)), .val (.int (0 : Int32)), .val (.int ch0)] [(.int (255 : Int32)), (.int ch0)]))
  by_cases hc58 : (255 : Int32) < ch0
  · skip
    refine own_go (fun _ q => XS.icmpNo X0.here hx rfl (hb hby d6_20) rfl (tlt hc58).2.2.2 q) ?_
    refine own_go (fun _ q => XS.iload X0.here hx rfl (hb hby d6_23) rfl q) ?_
    show own_Fin _ _ _ _ (s₁.setTop (mkF m 25 #[.val (.ref bb), .val (.int (0 : Int32)), .val (.ref dd), .val (.int (0 : Int32)), .val (.int (2 : Int32)), .val (.int (0 : Int32)), .val (.int ch0)] [(.int (0 : Int32))]))
    refine own_retI X0 hx Bd (t := .int) Bd.returns rfl (by simp) (hb hby d6_25) ?_ (by decide) (by decide)
    show (Q_rm_c5_2 Z bb kb dd kd ch0 ch1 h0 n0) (some (.int (0 : Int32))) s₁.heap _
    rw [e0]
    exact ⟨N0, K0, Or.inl (⟨rfl, hc58⟩)⟩
  · skip
    refine own_go (fun _ q => XS.icmpYes X0.here hx rfl (pc0 := 20) (pc' := 26) rfl (hb hby d6_20) rfl (flt hc58).2.2.2 (by decide) (by decide) q) ?_
    refine own_go (fun _ q => XS.aloadN X0.here hx rfl (hb hby d6_26) rfl rfl q) ?_
    refine own_go (fun _ q => XS.iloadN X0.here hx rfl (hb hby d6_27) rfl q) ?_
    refine own_go (fun _ q => XS.iload X0.here hx rfl (hb hby d6_28) rfl q) ?_
    show own_Fin _ _ _ _ (s₁.setTop (mkF m 30 #[.val (.ref bb), .val (.int (0 : Int32)), .val (.ref dd), .val (.int (0 : Int32)), .val (.int (2 : Int32)), .val (.int (0 : Int32)), .val (.int ch0)] [(.int ch0), (.int (0 : Int32)), (.ref dd)]))
    refine own_go (fun _ q => XS.i2b X0.here hx rfl (hb hby d6_30) rfl q) ?_
    show own_Fin _ _ _ _ (s₁.setTop (mkF m 31 #[.val (.ref bb), .val (.int (0 : Int32)), .val (.ref dd), .val (.int (0 : Int32)), .val (.int (2 : Int32)), .val (.int (0 : Int32)), .val (.int ch0)] [(.int (ch0.toInt8.toInt32)), (.int (0 : Int32)), (.ref dd)]))
    obtain ⟨T59, h59, X59, e59, W59, V59, st59⟩ := own_stB X0 hx hZ e0 V_dd (by decide) (i := 0) rfl (Nat.le_of_ble_eq_true rfl) (g := (mkF m 31 #[.val (.ref bb), .val (.int (0 : Int32)), .val (.ref dd), .val (.int (0 : Int32)), .val (.int (2 : Int32)), .val (.int (0 : Int32)), .val (.int ch0)] [(.int (ch0.toInt8.toInt32)), (.int (0 : Int32)), (.ref dd)])) rfl rfl (hb hby d6_31)
    rw [own_b8] at V59
    replace V_dd : Arv Z h59 dd kd .byte (2 : Int32) [(.int (ch0.toInt8.toInt32)), (.int (0 : Int32))] (.int (0 : Int32)) := V59
    have N59 := Fr.snoc X59 N0 g_dd
    refine own_go st59 ?_
    replace V_bb := V_bb.other W59 neb
    have K60 := K0.wr W59 (Or.inl (by simp))
    show own_Fin _ _ _ _ (T59.setTop (mkF m 32 #[.val (.ref bb), .val (.int (0 : Int32)), .val (.ref dd), .val (.int (0 : Int32)), .val (.int (2 : Int32)), .val (.int (0 : Int32)), .val (.int ch0)] []))
    refine own_go (fun _ q => XS.iinc X59.here hx rfl (hb hby d6_32) rfl (l' := #[.val (.ref bb), .val (.int (1 : Int32)), .val (.ref dd), .val (.int (0 : Int32)), .val (.int (2 : Int32)), .val (.int (0 : Int32)), .val (.int ch0)]) rfl q) ?_
    show own_Fin _ _ _ _ (T59.setTop (mkF m 35 #[.val (.ref bb), .val (.int (1 : Int32)), .val (.ref dd), .val (.int (0 : Int32)), .val (.int (2 : Int32)), .val (.int (0 : Int32)), .val (.int ch0)] []))
    refine own_go (fun _ q => XS.iinc X59.here hx rfl (hb hby d6_35) rfl (l' := #[.val (.ref bb), .val (.int (1 : Int32)), .val (.ref dd), .val (.int (1 : Int32)), .val (.int (2 : Int32)), .val (.int (0 : Int32)), .val (.int ch0)]) rfl q) ?_
    show own_Fin _ _ _ _ (T59.setTop (mkF m 38 #[.val (.ref bb), .val (.int (1 : Int32)), .val (.ref dd), .val (.int (1 : Int32)), .val (.int (2 : Int32)), .val (.int (0 : Int32)), .val (.int ch0)] []))
    refine own_go (fun _ q => XS.iinc X59.here hx rfl (hb hby d6_38) rfl (l' := #[.val (.ref bb), .val (.int (1 : Int32)), .val (.ref dd), .val (.int (1 : Int32)), .val (.int (2 : Int32)), .val (.int (1 : Int32)), .val (.int ch0)]) rfl q) ?_
    refine own_go (fun _ q => XS.goto X59.here hx rfl (pc0 := 41) (pc' := 3) rfl (hb hby d6_41) (by decide) (by decide) q) ?_
    refine own_go (fun _ q => XS.iload X59.here hx rfl (hb hby d6_3) rfl q) ?_
    refine own_go (fun _ q => XS.iload X59.here hx rfl (hb hby d6_5) rfl q) ?_
    show own_Fin _ _ _ _ (T59.setTop (mkF m 7 #[.val (.ref bb), .val (.int (1 : Int32)), .val (.ref dd), .val (.int (1 : Int32)), .val (.int (2 : Int32)), .val (.int (1 : Int32)), .val (.int ch0)] [(.int (2 : Int32)), (.int (1 : Int32))]))
    refine own_go (fun _ q => XS.icmpNo X59.here hx rfl (hb hby d6_7) rfl (tlt (by decide : (1 : Int32) < (2 : Int32))).2.1 q) ?_
    refine own_go (fun _ q => XS.aloadN X59.here hx rfl (hb hby d6_10) rfl rfl q) ?_
    refine own_go (fun _ q => XS.iloadN X59.here hx rfl (hb hby d6_11) rfl q) ?_
    show own_Fin _ _ _ _ (T59.setTop (mkF m 12 #[.val (.ref bb), .val (.int (1 : Int32)), .val (.ref dd), .val (.int (1 : Int32)), .val (.int (2 : Int32)), .val (.int (1 : Int32)), .val (.int ch0)] [(.int (1 : Int32)), (.ref bb)]))
    refine own_go (fun _ q => own_caload X59 hx hZ e59 V_bb (by decide) (v := (.int ch1)) (rfl) (g := (mkF m 12 #[.val (.ref bb), .val (.int (1 : Int32)), .val (.ref dd), .val (.int (1 : Int32)), .val (.int (2 : Int32)), .val (.int (1 : Int32)), .val (.int ch0)] [(.int (1 : Int32)), (.ref bb)])) rfl rfl (hb hby d6_12) _ q) ?_
    refine own_go (fun _ q => XS.istore X59.here hx rfl (hb hby d6_13) rfl (l' := #[.val (.ref bb), .val (.int (1 : Int32)), .val (.ref dd), .val (.int (1 : Int32)), .val (.int (2 : Int32)), .val (.int (1 : Int32)), .val (.int ch1)]) rfl q) ?_
    refine own_go (fun _ q => XS.iload X59.here hx rfl (hb hby d6_15) rfl q) ?_
    refine own_go (fun _ q => XS.sipush X59.here hx rfl (hb hby d6_17) q) ?_
    show own_Fin _ _ _ _ (T59.setTop (mkF m 20 #[.val (.ref bb), .val (.int (1 : Int32)), .val (.ref dd), .val (.int (1 : Int32)), .val (.int (2 : Int32)), .val (.int (1 : Int32)), .val (.int ch1)] [(.int (255 : Int32)), (.int ch1)]))
    by_cases hc61 : (255 : Int32) < ch1
    · skip
      refine own_go (fun _ q => XS.icmpNo X59.here hx rfl (hb hby d6_20) rfl (tlt hc61).2.2.2 q) ?_
      refine own_go (fun _ q => XS.iload X59.here hx rfl (hb hby d6_23) rfl q) ?_
      show own_Fin _ _ _ _ (T59.setTop (mkF m 25 #[.val (.ref bb), .val (.int (1 : Int32)), .val (.ref dd), .val (.int (1 : Int32)), .val (.int (2 : Int32)), .val (.int (1 : Int32)), .val (.int ch1)] [(.int (1 : Int32))]))
      refine own_retI X59 hx Bd (t := .int) Bd.returns rfl (by simp) (hb hby d6_25) ?_ (by decide) (by decide)
      show (Q_rm_c5_2 Z bb kb dd kd ch0 ch1 h0 n0) (some (.int (1 : Int32))) T59.heap _
      rw [e59]
      exact ⟨N59, K60, Or.inr (Or.inl (⟨rfl, hc61⟩))⟩
    · skip
      refine own_go (fun _ q => XS.icmpYes X59.here hx rfl (pc0 := 20) (pc' := 26) rfl (hb hby d6_20) rfl (flt hc61).2.2.2 (by decide) (by decide) q) ?_
      refine own_go (fun _ q => XS.aloadN X59.here hx rfl (hb hby d6_26) rfl rfl q) ?_
      refine own_go (fun _ q => XS.iloadN X59.here hx rfl (hb hby d6_27) rfl q) ?_
      refine own_go (fun _ q => XS.iload X59.here hx rfl (hb hby d6_28) rfl q) ?_
      show own_Fin _ _ _ _ (T59.setTop (mkF m 30 #[.val (.ref bb), .val (.int (1 : Int32)), .val (.ref dd), .val (.int (1 : Int32)), .val (.int (2 : Int32)), .val (.int (1 : Int32)), .val (.int ch1)] [(.int ch1), (.int (1 : Int32)), (.ref dd)]))
      refine own_go (fun _ q => XS.i2b X59.here hx rfl (hb hby d6_30) rfl q) ?_
      show own_Fin _ _ _ _ (T59.setTop (mkF m 31 #[.val (.ref bb), .val (.int (1 : Int32)), .val (.ref dd), .val (.int (1 : Int32)), .val (.int (2 : Int32)), .val (.int (1 : Int32)), .val (.int ch1)] [(.int (ch1.toInt8.toInt32)), (.int (1 : Int32)), (.ref dd)]))
      obtain ⟨T62, h62, X62, e62, W62, V62, st62⟩ := own_stB X59 hx hZ e59 V_dd (by decide) (i := 1) rfl (Nat.le_of_ble_eq_true rfl) (g := (mkF m 31 #[.val (.ref bb), .val (.int (1 : Int32)), .val (.ref dd), .val (.int (1 : Int32)), .val (.int (2 : Int32)), .val (.int (1 : Int32)), .val (.int ch1)] [(.int (ch1.toInt8.toInt32)), (.int (1 : Int32)), (.ref dd)])) rfl rfl (hb hby d6_31)
      rw [own_b8] at V62
      replace V_dd : Arv Z h62 dd kd .byte (2 : Int32) [(.int (ch0.toInt8.toInt32)), (.int (ch1.toInt8.toInt32))] (.int (0 : Int32)) := V62
      have N62 := Fr.snoc X62 N59 g_dd
      refine own_go st62 ?_
      replace V_bb := V_bb.other W62 neb
      have K63 := K60.wr W62 (Or.inl (by simp))
      show own_Fin _ _ _ _ (T62.setTop (mkF m 32 #[.val (.ref bb), .val (.int (1 : Int32)), .val (.ref dd), .val (.int (1 : Int32)), .val (.int (2 : Int32)), .val (.int (1 : Int32)), .val (.int ch1)] []))
      refine own_go (fun _ q => XS.iinc X62.here hx rfl (hb hby d6_32) rfl (l' := #[.val (.ref bb), .val (.int (2 : Int32)), .val (.ref dd), .val (.int (1 : Int32)), .val (.int (2 : Int32)), .val (.int (1 : Int32)), .val (.int ch1)]) rfl q) ?_
      show own_Fin _ _ _ _ (T62.setTop (mkF m 35 #[.val (.ref bb), .val (.int (2 : Int32)), .val (.ref dd), .val (.int (1 : Int32)), .val (.int (2 : Int32)), .val (.int (1 : Int32)), .val (.int ch1)] []))
      refine own_go (fun _ q => XS.iinc X62.here hx rfl (hb hby d6_35) rfl (l' := #[.val (.ref bb), .val (.int (2 : Int32)), .val (.ref dd), .val (.int (2 : Int32)), .val (.int (2 : Int32)), .val (.int (1 : Int32)), .val (.int ch1)]) rfl q) ?_
      show own_Fin _ _ _ _ (T62.setTop (mkF m 38 #[.val (.ref bb), .val (.int (2 : Int32)), .val (.ref dd), .val (.int (2 : Int32)), .val (.int (2 : Int32)), .val (.int (1 : Int32)), .val (.int ch1)] []))
      refine own_go (fun _ q => XS.iinc X62.here hx rfl (hb hby d6_38) rfl (l' := #[.val (.ref bb), .val (.int (2 : Int32)), .val (.ref dd), .val (.int (2 : Int32)), .val (.int (2 : Int32)), .val (.int (2 : Int32)), .val (.int ch1)]) rfl q) ?_
      refine own_go (fun _ q => XS.goto X62.here hx rfl (pc0 := 41) (pc' := 3) rfl (hb hby d6_41) (by decide) (by decide) q) ?_
      refine own_go (fun _ q => XS.iload X62.here hx rfl (hb hby d6_3) rfl q) ?_
      refine own_go (fun _ q => XS.iload X62.here hx rfl (hb hby d6_5) rfl q) ?_
      show own_Fin _ _ _ _ (T62.setTop (mkF m 7 #[.val (.ref bb), .val (.int (2 : Int32)), .val (.ref dd), .val (.int (2 : Int32)), .val (.int (2 : Int32)), .val (.int (2 : Int32)), .val (.int ch1)] [(.int (2 : Int32)), (.int (2 : Int32))]))
      refine own_go (fun _ q => XS.icmpYes X62.here hx rfl (pc0 := 7) (pc' := 44) rfl (hb hby d6_7) rfl (flt (by decide : ¬ (2 : Int32) < (2 : Int32))).2.1 (by decide) (by decide) q) ?_
      refine own_go (fun _ q => XS.iload X62.here hx rfl (hb hby d6_44) rfl q) ?_
      show own_Fin _ _ _ _ (T62.setTop (mkF m 46 #[.val (.ref bb), .val (.int (2 : Int32)), .val (.ref dd), .val (.int (2 : Int32)), .val (.int (2 : Int32)), .val (.int (2 : Int32)), .val (.int ch1)] [(.int (2 : Int32))]))
      refine own_retI X62 hx Bd (t := .int) Bd.returns rfl (by simp) (hb hby d6_46) ?_ (by decide) (by decide)
      show (Q_rm_c5_2 Z bb kb dd kd ch0 ch1 h0 n0) (some (.int (2 : Int32))) T62.heap _
      rw [e62]
      refine ⟨N62, K63, Or.inr (Or.inr ((⟨rfl, ?_, V_dd⟩)))⟩
      intro c hc
      simp only [List.mem_cons, List.not_mem_nil, or_false] at hc
      rcases hc with rfl | rfl
      · exact hc58
      · exact hc61
def Q_rm_c5_3 (Z : State) (bb : Addr) (kb : ClassId) (dd : Addr) (kd : ClassId) (ch0 : Int32) (ch1 : Int32) (ch2 : Int32) (h0 : Heap) (n0 : Nat) (v : Option Value) (h : Heap) (L : List Loc) : Prop := Fr n0 L ∧ Keep h0 h [dd] ∧ ((v = some (.int (0 : Int32)) ∧ (255 : Int32) < ch0) ∨ (v = some (.int (1 : Int32)) ∧ (255 : Int32) < ch1) ∨ (v = some (.int (2 : Int32)) ∧ (255 : Int32) < ch2) ∨ (v = some (.int (3 : Int32)) ∧ (∀ c ∈ ([ch0, ch1, ch2] : List Int32), ¬ (255 : Int32) < c) ∧ Arv Z h dd kd .byte (3 : Int32) [(.int (ch0.toInt8.toInt32)), (.int (ch1.toInt8.toInt32)), (.int (ch2.toInt8.toInt32))] (.int (0 : Int32))))
theorem ef_rm_c5_3 (m : MethodId) (bb : Addr) (dd : Addr) (ch0 : Int32) (ch1 : Int32) (ch2 : Int32) : entryFrame m #[(.ref bb), (.int (0 : Int32)), (.ref dd), (.int (0 : Int32)), (.int (3 : Int32))] 7 = mkF m 0 #[.val (.ref bb), .val (.int (0 : Int32)), .val (.ref dd), .val (.int (0 : Int32)), .val (.int (3 : Int32)), .unset, .unset] [] := by first | (simp [entryFrame, mkF, argsToLocals, Value.category]; done) | rfl
set_option maxRecDepth 65536 in
set_option maxHeartbeats 40000000 in
theorem rm_c5_3 (l : Launch) (Z : State) (a0 : Array Value) (hw : ∀ d ∈ tables_1, d.before a0 Z = true) (ws : List Jvm.Cond) (bb : Addr) (kb : ClassId) (dd : Addr) (kd : ClassId) (ch0 : Int32) (ch1 : Int32) (ch2 : Int32) (h0 : Heap) (n0 : Nat) (Z0 : n0 ≤ h0.size) (V_bb : Arv Z h0 bb kb .char (3 : Int32) [(.int ch0), (.int ch1), (.int ch2)] (.int (0 : Int32))) (V_dd : Arv Z h0 dd kd .byte (3 : Int32) [(.int (0 : Int32)), (.int (0 : Int32)), (.int (0 : Int32))] (.int (0 : Int32))) (g_dd : n0 ≤ dd) (neb : bb ≠ dd) :
    MetFree l (⟨"java/lang/StringUTF16", "compress", "([CI[BII)I"⟩ : MethodName) (head1 (Jvm.Cond.code (⟨"java/lang/StringUTF16", "compress", "([CI[BII)I"⟩ : MethodName) jdk_52_method_21_code 7 (some .int) :: ws) ({ frames := 0, cells := 0, slots := 0, locals := 0 } : Room)) (fun a_ U_ => a_ = #[(.ref bb), (.int (0 : Int32)), (.ref dd), (.int (0 : Int32)), (.int (3 : Int32))] ∧ Z.Warmed39 U_.vm ∧ U_.heap = h0) (fun _ _ _ _ _ => True) (fun _ U_ o_ V_ => ∃ v_ L_, o_ = .returned v_ ∧ (Q_rm_c5_3 Z bb kb dd kd ch0 ch1 ch2 h0 n0) v_ V_.heap L_ ∧ FrameEnd U_ o_ V_ L_ ({ frames := 0, cells := 0, slots := 0, locals := 0 } : Room).cells ({ frames := 0, cells := 0, slots := 0, locals := 0 } : Room).slots) := by
  refine MetFree.of_bodySF (plainFor_of_name pn_0) hisR ?_
  intro p e s m args below meth c s₁ Bd hml0 hP hK
  obtain ⟨rfl, hZ, hh⟩ := hP
  have hx := Bd.exec
  have hby := Bd.bytes
  have hml : c.maxLocals = 7 := hml0
  have hown : s.vm.findClass "java/lang/StringUTF16" = some m.cls := findClass_of_methodNamed Bd.named
  have hnm := (name_of_methodNamed Bd.named Bd.method).1
  have X0 : Stand p l e ({ frames := 0, cells := 0, slots := 0, locals := 0 } : Room) s m #[(.ref bb), (.int (0 : Int32)), (.ref dd), (.int (0 : Int32)), (.int (3 : Int32))] below meth c s₁ [] 0 0 := Stand.of_body Bd
  have e0 : s₁.heap = h0 := by rw [← hh, Bd.state]; rfl
  have N0 := Fr.nil n0
  have K0 : Keep h0 h0 [dd] := Keep.refl _ _
  show own_Fin p.tables e below (own_Post (Q_rm_c5_3 Z bb kb dd kd ch0 ch1 ch2 h0 n0) ({ frames := 0, cells := 0, slots := 0, locals := 0 } : Room).cells ({ frames := 0, cells := 0, slots := 0, locals := 0 } : Room).slots below s) _
  refine own_go (fun _ q => castTop (ef_rm_c5_3 m bb dd ch0 ch1 ch2) q) ?_
  refine own_go (fun _ q => XS.iconst X0.here hx rfl (hb hby d6_0) q) ?_
  refine own_go (fun _ q => XS.istore X0.here hx rfl (hb hby d6_1) rfl (l' := #[.val (.ref bb), .val (.int (0 : Int32)), .val (.ref dd), .val (.int (0 : Int32)), .val (.int (3 : Int32)), .val (.int (0 : Int32)), .unset]) rfl q) ?_
  refine own_go (fun _ q => XS.iload X0.here hx rfl (hb hby d6_3) rfl q) ?_
  refine own_go (fun _ q => XS.iload X0.here hx rfl (hb hby d6_5) rfl q) ?_
  show own_Fin _ _ _ _ (s₁.setTop (mkF m 7 #[.val (.ref bb), .val (.int (0 : Int32)), .val (.ref dd), .val (.int (0 : Int32)), .val (.int (3 : Int32)), .val (.int (0 : Int32)), .unset] [(.int (3 : Int32)), (.int (0 : Int32))]))
  refine own_go (fun _ q => XS.icmpNo X0.here hx rfl (hb hby d6_7) rfl (tlt (by decide : (0 : Int32) < (3 : Int32))).2.1 q) ?_
  refine own_go (fun _ q => XS.aloadN X0.here hx rfl (hb hby d6_10) rfl rfl q) ?_
  refine own_go (fun _ q => XS.iloadN X0.here hx rfl (hb hby d6_11) rfl q) ?_
  show own_Fin _ _ _ _ (s₁.setTop (mkF m 12 #[.val (.ref bb), .val (.int (0 : Int32)), .val (.ref dd), .val (.int (0 : Int32)), .val (.int (3 : Int32)), .val (.int (0 : Int32)), .unset] [(.int (0 : Int32)), (.ref bb)]))
  refine own_go (fun _ q => own_caload X0 hx hZ e0 V_bb (by decide) (v := (.int ch0)) (rfl) (g := (mkF m 12 #[.val (.ref bb), .val (.int (0 : Int32)), .val (.ref dd), .val (.int (0 : Int32)), .val (.int (3 : Int32)), .val (.int (0 : Int32)), .unset] [(.int (0 : Int32)), (.ref bb)])) rfl rfl (hb hby d6_12) _ q) ?_
  refine own_go (fun _ q => XS.istore X0.here hx rfl (hb hby d6_13) rfl (l' := #[.val (.ref bb), .val (.int (0 : Int32)), .val (.ref dd), .val (.int (0 : Int32)), .val (.int (3 : Int32)), .val (.int (0 : Int32)), .val (.int ch0)]) rfl q) ?_
  refine own_go (fun _ q => XS.iload X0.here hx rfl (hb hby d6_15) rfl q) ?_
  refine own_go (fun _ q => XS.sipush X0.here hx rfl (hb hby d6_17) q) ?_
  show own_Fin _ _ _ _ (s₁.setTop (mkF m 20 #[.val (.ref bb), .val (.int (0 : Int32)), .val (.ref dd), .val (.int (0 : Int32)), .val (.int (3 : Int32)), .val (.int (0 : Int32)), .val (.int ch0)] [(.int (255 : Int32)), (.int ch0)]))
  by_cases hc64 : (255 : Int32) < ch0
  · skip
    refine own_go (fun _ q => XS.icmpNo X0.here hx rfl (hb hby d6_20) rfl (tlt hc64).2.2.2 q) ?_
    refine own_go (fun _ q => XS.iload X0.here hx rfl (hb hby d6_23) rfl q) ?_
    show own_Fin _ _ _ _ (s₁.setTop (mkF m 25 #[.val (.ref bb), .val (.int (0 : Int32)), .val (.ref dd), .val (.int (0 : Int32)), .val (.int (3 : Int32)), .val (.int (0 : Int32)), .val (.int ch0)] [(.int (0 : Int32))]))
    refine own_retI X0 hx Bd (t := .int) Bd.returns rfl (by simp) (hb hby d6_25) ?_ (by decide) (by decide)
    show (Q_rm_c5_3 Z bb kb dd kd ch0 ch1 ch2 h0 n0) (some (.int (0 : Int32))) s₁.heap _
    rw [e0]
    exact ⟨N0, K0, Or.inl (⟨rfl, hc64⟩)⟩
  · skip
    refine own_go (fun _ q => XS.icmpYes X0.here hx rfl (pc0 := 20) (pc' := 26) rfl (hb hby d6_20) rfl (flt hc64).2.2.2 (by decide) (by decide) q) ?_
    refine own_go (fun _ q => XS.aloadN X0.here hx rfl (hb hby d6_26) rfl rfl q) ?_
    refine own_go (fun _ q => XS.iloadN X0.here hx rfl (hb hby d6_27) rfl q) ?_
    refine own_go (fun _ q => XS.iload X0.here hx rfl (hb hby d6_28) rfl q) ?_
    show own_Fin _ _ _ _ (s₁.setTop (mkF m 30 #[.val (.ref bb), .val (.int (0 : Int32)), .val (.ref dd), .val (.int (0 : Int32)), .val (.int (3 : Int32)), .val (.int (0 : Int32)), .val (.int ch0)] [(.int ch0), (.int (0 : Int32)), (.ref dd)]))
    refine own_go (fun _ q => XS.i2b X0.here hx rfl (hb hby d6_30) rfl q) ?_
    show own_Fin _ _ _ _ (s₁.setTop (mkF m 31 #[.val (.ref bb), .val (.int (0 : Int32)), .val (.ref dd), .val (.int (0 : Int32)), .val (.int (3 : Int32)), .val (.int (0 : Int32)), .val (.int ch0)] [(.int (ch0.toInt8.toInt32)), (.int (0 : Int32)), (.ref dd)]))
    obtain ⟨T65, h65, X65, e65, W65, V65, st65⟩ := own_stB X0 hx hZ e0 V_dd (by decide) (i := 0) rfl (Nat.le_of_ble_eq_true rfl) (g := (mkF m 31 #[.val (.ref bb), .val (.int (0 : Int32)), .val (.ref dd), .val (.int (0 : Int32)), .val (.int (3 : Int32)), .val (.int (0 : Int32)), .val (.int ch0)] [(.int (ch0.toInt8.toInt32)), (.int (0 : Int32)), (.ref dd)])) rfl rfl (hb hby d6_31)
    rw [own_b8] at V65
    replace V_dd : Arv Z h65 dd kd .byte (3 : Int32) [(.int (ch0.toInt8.toInt32)), (.int (0 : Int32)), (.int (0 : Int32))] (.int (0 : Int32)) := V65
    have N65 := Fr.snoc X65 N0 g_dd
    refine own_go st65 ?_
    replace V_bb := V_bb.other W65 neb
    have K66 := K0.wr W65 (Or.inl (by simp))
    show own_Fin _ _ _ _ (T65.setTop (mkF m 32 #[.val (.ref bb), .val (.int (0 : Int32)), .val (.ref dd), .val (.int (0 : Int32)), .val (.int (3 : Int32)), .val (.int (0 : Int32)), .val (.int ch0)] []))
    refine own_go (fun _ q => XS.iinc X65.here hx rfl (hb hby d6_32) rfl (l' := #[.val (.ref bb), .val (.int (1 : Int32)), .val (.ref dd), .val (.int (0 : Int32)), .val (.int (3 : Int32)), .val (.int (0 : Int32)), .val (.int ch0)]) rfl q) ?_
    show own_Fin _ _ _ _ (T65.setTop (mkF m 35 #[.val (.ref bb), .val (.int (1 : Int32)), .val (.ref dd), .val (.int (0 : Int32)), .val (.int (3 : Int32)), .val (.int (0 : Int32)), .val (.int ch0)] []))
    refine own_go (fun _ q => XS.iinc X65.here hx rfl (hb hby d6_35) rfl (l' := #[.val (.ref bb), .val (.int (1 : Int32)), .val (.ref dd), .val (.int (1 : Int32)), .val (.int (3 : Int32)), .val (.int (0 : Int32)), .val (.int ch0)]) rfl q) ?_
    show own_Fin _ _ _ _ (T65.setTop (mkF m 38 #[.val (.ref bb), .val (.int (1 : Int32)), .val (.ref dd), .val (.int (1 : Int32)), .val (.int (3 : Int32)), .val (.int (0 : Int32)), .val (.int ch0)] []))
    refine own_go (fun _ q => XS.iinc X65.here hx rfl (hb hby d6_38) rfl (l' := #[.val (.ref bb), .val (.int (1 : Int32)), .val (.ref dd), .val (.int (1 : Int32)), .val (.int (3 : Int32)), .val (.int (1 : Int32)), .val (.int ch0)]) rfl q) ?_
    refine own_go (fun _ q => XS.goto X65.here hx rfl (pc0 := 41) (pc' := 3) rfl (hb hby d6_41) (by decide) (by decide) q) ?_
    refine own_go (fun _ q => XS.iload X65.here hx rfl (hb hby d6_3) rfl q) ?_
    refine own_go (fun _ q => XS.iload X65.here hx rfl (hb hby d6_5) rfl q) ?_
    show own_Fin _ _ _ _ (T65.setTop (mkF m 7 #[.val (.ref bb), .val (.int (1 : Int32)), .val (.ref dd), .val (.int (1 : Int32)), .val (.int (3 : Int32)), .val (.int (1 : Int32)), .val (.int ch0)] [(.int (3 : Int32)), (.int (1 : Int32))]))
    refine own_go (fun _ q => XS.icmpNo X65.here hx rfl (hb hby d6_7) rfl (tlt (by decide : (1 : Int32) < (3 : Int32))).2.1 q) ?_
    refine own_go (fun _ q => XS.aloadN X65.here hx rfl (hb hby d6_10) rfl rfl q) ?_
    refine own_go (fun _ q => XS.iloadN X65.here hx rfl (hb hby d6_11) rfl q) ?_
    show own_Fin _ _ _ _ (T65.setTop (mkF m 12 #[.val (.ref bb), .val (.int (1 : Int32)), .val (.ref dd), .val (.int (1 : Int32)), .val (.int (3 : Int32)), .val (.int (1 : Int32)), .val (.int ch0)] [(.int (1 : Int32)), (.ref bb)]))
    refine own_go (fun _ q => own_caload X65 hx hZ e65 V_bb (by decide) (v := (.int ch1)) (rfl) (g := (mkF m 12 #[.val (.ref bb), .val (.int (1 : Int32)), .val (.ref dd), .val (.int (1 : Int32)), .val (.int (3 : Int32)), .val (.int (1 : Int32)), .val (.int ch0)] [(.int (1 : Int32)), (.ref bb)])) rfl rfl (hb hby d6_12) _ q) ?_
    refine own_go (fun _ q => XS.istore X65.here hx rfl (hb hby d6_13) rfl (l' := #[.val (.ref bb), .val (.int (1 : Int32)), .val (.ref dd), .val (.int (1 : Int32)), .val (.int (3 : Int32)), .val (.int (1 : Int32)), .val (.int ch1)]) rfl q) ?_
    refine own_go (fun _ q => XS.iload X65.here hx rfl (hb hby d6_15) rfl q) ?_
    refine own_go (fun _ q => XS.sipush X65.here hx rfl (hb hby d6_17) q) ?_
    show own_Fin _ _ _ _ (T65.setTop (mkF m 20 #[.val (.ref bb), .val (.int (1 : Int32)), .val (.ref dd), .val (.int (1 : Int32)), .val (.int (3 : Int32)), .val (.int (1 : Int32)), .val (.int ch1)] [(.int (255 : Int32)), (.int ch1)]))
    by_cases hc67 : (255 : Int32) < ch1
    · skip
      refine own_go (fun _ q => XS.icmpNo X65.here hx rfl (hb hby d6_20) rfl (tlt hc67).2.2.2 q) ?_
      refine own_go (fun _ q => XS.iload X65.here hx rfl (hb hby d6_23) rfl q) ?_
      show own_Fin _ _ _ _ (T65.setTop (mkF m 25 #[.val (.ref bb), .val (.int (1 : Int32)), .val (.ref dd), .val (.int (1 : Int32)), .val (.int (3 : Int32)), .val (.int (1 : Int32)), .val (.int ch1)] [(.int (1 : Int32))]))
      refine own_retI X65 hx Bd (t := .int) Bd.returns rfl (by simp) (hb hby d6_25) ?_ (by decide) (by decide)
      show (Q_rm_c5_3 Z bb kb dd kd ch0 ch1 ch2 h0 n0) (some (.int (1 : Int32))) T65.heap _
      rw [e65]
      exact ⟨N65, K66, Or.inr (Or.inl (⟨rfl, hc67⟩))⟩
    · skip
      refine own_go (fun _ q => XS.icmpYes X65.here hx rfl (pc0 := 20) (pc' := 26) rfl (hb hby d6_20) rfl (flt hc67).2.2.2 (by decide) (by decide) q) ?_
      refine own_go (fun _ q => XS.aloadN X65.here hx rfl (hb hby d6_26) rfl rfl q) ?_
      refine own_go (fun _ q => XS.iloadN X65.here hx rfl (hb hby d6_27) rfl q) ?_
      refine own_go (fun _ q => XS.iload X65.here hx rfl (hb hby d6_28) rfl q) ?_
      show own_Fin _ _ _ _ (T65.setTop (mkF m 30 #[.val (.ref bb), .val (.int (1 : Int32)), .val (.ref dd), .val (.int (1 : Int32)), .val (.int (3 : Int32)), .val (.int (1 : Int32)), .val (.int ch1)] [(.int ch1), (.int (1 : Int32)), (.ref dd)]))
      refine own_go (fun _ q => XS.i2b X65.here hx rfl (hb hby d6_30) rfl q) ?_
      show own_Fin _ _ _ _ (T65.setTop (mkF m 31 #[.val (.ref bb), .val (.int (1 : Int32)), .val (.ref dd), .val (.int (1 : Int32)), .val (.int (3 : Int32)), .val (.int (1 : Int32)), .val (.int ch1)] [(.int (ch1.toInt8.toInt32)), (.int (1 : Int32)), (.ref dd)]))
      obtain ⟨T68, h68, X68, e68, W68, V68, st68⟩ := own_stB X65 hx hZ e65 V_dd (by decide) (i := 1) rfl (Nat.le_of_ble_eq_true rfl) (g := (mkF m 31 #[.val (.ref bb), .val (.int (1 : Int32)), .val (.ref dd), .val (.int (1 : Int32)), .val (.int (3 : Int32)), .val (.int (1 : Int32)), .val (.int ch1)] [(.int (ch1.toInt8.toInt32)), (.int (1 : Int32)), (.ref dd)])) rfl rfl (hb hby d6_31)
      rw [own_b8] at V68
      replace V_dd : Arv Z h68 dd kd .byte (3 : Int32) [(.int (ch0.toInt8.toInt32)), (.int (ch1.toInt8.toInt32)), (.int (0 : Int32))] (.int (0 : Int32)) := V68
      have N68 := Fr.snoc X68 N65 g_dd
      refine own_go st68 ?_
      replace V_bb := V_bb.other W68 neb
      have K69 := K66.wr W68 (Or.inl (by simp))
      show own_Fin _ _ _ _ (T68.setTop (mkF m 32 #[.val (.ref bb), .val (.int (1 : Int32)), .val (.ref dd), .val (.int (1 : Int32)), .val (.int (3 : Int32)), .val (.int (1 : Int32)), .val (.int ch1)] []))
      refine own_go (fun _ q => XS.iinc X68.here hx rfl (hb hby d6_32) rfl (l' := #[.val (.ref bb), .val (.int (2 : Int32)), .val (.ref dd), .val (.int (1 : Int32)), .val (.int (3 : Int32)), .val (.int (1 : Int32)), .val (.int ch1)]) rfl q) ?_
      show own_Fin _ _ _ _ (T68.setTop (mkF m 35 #[.val (.ref bb), .val (.int (2 : Int32)), .val (.ref dd), .val (.int (1 : Int32)), .val (.int (3 : Int32)), .val (.int (1 : Int32)), .val (.int ch1)] []))
      refine own_go (fun _ q => XS.iinc X68.here hx rfl (hb hby d6_35) rfl (l' := #[.val (.ref bb), .val (.int (2 : Int32)), .val (.ref dd), .val (.int (2 : Int32)), .val (.int (3 : Int32)), .val (.int (1 : Int32)), .val (.int ch1)]) rfl q) ?_
      show own_Fin _ _ _ _ (T68.setTop (mkF m 38 #[.val (.ref bb), .val (.int (2 : Int32)), .val (.ref dd), .val (.int (2 : Int32)), .val (.int (3 : Int32)), .val (.int (1 : Int32)), .val (.int ch1)] []))
      refine own_go (fun _ q => XS.iinc X68.here hx rfl (hb hby d6_38) rfl (l' := #[.val (.ref bb), .val (.int (2 : Int32)), .val (.ref dd), .val (.int (2 : Int32)), .val (.int (3 : Int32)), .val (.int (2 : Int32)), .val (.int ch1)]) rfl q) ?_
      refine own_go (fun _ q => XS.goto X68.here hx rfl (pc0 := 41) (pc' := 3) rfl (hb hby d6_41) (by decide) (by decide) q) ?_
      refine own_go (fun _ q => XS.iload X68.here hx rfl (hb hby d6_3) rfl q) ?_
      refine own_go (fun _ q => XS.iload X68.here hx rfl (hb hby d6_5) rfl q) ?_
      show own_Fin _ _ _ _ (T68.setTop (mkF m 7 #[.val (.ref bb), .val (.int (2 : Int32)), .val (.ref dd), .val (.int (2 : Int32)), .val (.int (3 : Int32)), .val (.int (2 : Int32)), .val (.int ch1)] [(.int (3 : Int32)), (.int (2 : Int32))]))
      refine own_go (fun _ q => XS.icmpNo X68.here hx rfl (hb hby d6_7) rfl (tlt (by decide : (2 : Int32) < (3 : Int32))).2.1 q) ?_
      refine own_go (fun _ q => XS.aloadN X68.here hx rfl (hb hby d6_10) rfl rfl q) ?_
      refine own_go (fun _ q => XS.iloadN X68.here hx rfl (hb hby d6_11) rfl q) ?_
      show own_Fin _ _ _ _ (T68.setTop (mkF m 12 #[.val (.ref bb), .val (.int (2 : Int32)), .val (.ref dd), .val (.int (2 : Int32)), .val (.int (3 : Int32)), .val (.int (2 : Int32)), .val (.int ch1)] [(.int (2 : Int32)), (.ref bb)]))
      refine own_go (fun _ q => own_caload X68 hx hZ e68 V_bb (by decide) (v := (.int ch2)) (rfl) (g := (mkF m 12 #[.val (.ref bb), .val (.int (2 : Int32)), .val (.ref dd), .val (.int (2 : Int32)), .val (.int (3 : Int32)), .val (.int (2 : Int32)), .val (.int ch1)] [(.int (2 : Int32)), (.ref bb)])) rfl rfl (hb hby d6_12) _ q) ?_
      refine own_go (fun _ q => XS.istore X68.here hx rfl (hb hby d6_13) rfl (l' := #[.val (.ref bb), .val (.int (2 : Int32)), .val (.ref dd), .val (.int (2 : Int32)), .val (.int (3 : Int32)), .val (.int (2 : Int32)), .val (.int ch2)]) rfl q) ?_
      refine own_go (fun _ q => XS.iload X68.here hx rfl (hb hby d6_15) rfl q) ?_
      refine own_go (fun _ q => XS.sipush X68.here hx rfl (hb hby d6_17) q) ?_
      show own_Fin _ _ _ _ (T68.setTop (mkF m 20 #[.val (.ref bb), .val (.int (2 : Int32)), .val (.ref dd), .val (.int (2 : Int32)), .val (.int (3 : Int32)), .val (.int (2 : Int32)), .val (.int ch2)] [(.int (255 : Int32)), (.int ch2)]))
      by_cases hc70 : (255 : Int32) < ch2
      · skip
        refine own_go (fun _ q => XS.icmpNo X68.here hx rfl (hb hby d6_20) rfl (tlt hc70).2.2.2 q) ?_
        refine own_go (fun _ q => XS.iload X68.here hx rfl (hb hby d6_23) rfl q) ?_
        show own_Fin _ _ _ _ (T68.setTop (mkF m 25 #[.val (.ref bb), .val (.int (2 : Int32)), .val (.ref dd), .val (.int (2 : Int32)), .val (.int (3 : Int32)), .val (.int (2 : Int32)), .val (.int ch2)] [(.int (2 : Int32))]))
        refine own_retI X68 hx Bd (t := .int) Bd.returns rfl (by simp) (hb hby d6_25) ?_ (by decide) (by decide)
        show (Q_rm_c5_3 Z bb kb dd kd ch0 ch1 ch2 h0 n0) (some (.int (2 : Int32))) T68.heap _
        rw [e68]
        exact ⟨N68, K69, Or.inr (Or.inr (Or.inl (⟨rfl, hc70⟩)))⟩
      · skip
        refine own_go (fun _ q => XS.icmpYes X68.here hx rfl (pc0 := 20) (pc' := 26) rfl (hb hby d6_20) rfl (flt hc70).2.2.2 (by decide) (by decide) q) ?_
        refine own_go (fun _ q => XS.aloadN X68.here hx rfl (hb hby d6_26) rfl rfl q) ?_
        refine own_go (fun _ q => XS.iloadN X68.here hx rfl (hb hby d6_27) rfl q) ?_
        refine own_go (fun _ q => XS.iload X68.here hx rfl (hb hby d6_28) rfl q) ?_
        show own_Fin _ _ _ _ (T68.setTop (mkF m 30 #[.val (.ref bb), .val (.int (2 : Int32)), .val (.ref dd), .val (.int (2 : Int32)), .val (.int (3 : Int32)), .val (.int (2 : Int32)), .val (.int ch2)] [(.int ch2), (.int (2 : Int32)), (.ref dd)]))
        refine own_go (fun _ q => XS.i2b X68.here hx rfl (hb hby d6_30) rfl q) ?_
        show own_Fin _ _ _ _ (T68.setTop (mkF m 31 #[.val (.ref bb), .val (.int (2 : Int32)), .val (.ref dd), .val (.int (2 : Int32)), .val (.int (3 : Int32)), .val (.int (2 : Int32)), .val (.int ch2)] [(.int (ch2.toInt8.toInt32)), (.int (2 : Int32)), (.ref dd)]))
        obtain ⟨T71, h71, X71, e71, W71, V71, st71⟩ := own_stB X68 hx hZ e68 V_dd (by decide) (i := 2) rfl (Nat.le_of_ble_eq_true rfl) (g := (mkF m 31 #[.val (.ref bb), .val (.int (2 : Int32)), .val (.ref dd), .val (.int (2 : Int32)), .val (.int (3 : Int32)), .val (.int (2 : Int32)), .val (.int ch2)] [(.int (ch2.toInt8.toInt32)), (.int (2 : Int32)), (.ref dd)])) rfl rfl (hb hby d6_31)
        rw [own_b8] at V71
        replace V_dd : Arv Z h71 dd kd .byte (3 : Int32) [(.int (ch0.toInt8.toInt32)), (.int (ch1.toInt8.toInt32)), (.int (ch2.toInt8.toInt32))] (.int (0 : Int32)) := V71
        have N71 := Fr.snoc X71 N68 g_dd
        refine own_go st71 ?_
        replace V_bb := V_bb.other W71 neb
        have K72 := K69.wr W71 (Or.inl (by simp))
        show own_Fin _ _ _ _ (T71.setTop (mkF m 32 #[.val (.ref bb), .val (.int (2 : Int32)), .val (.ref dd), .val (.int (2 : Int32)), .val (.int (3 : Int32)), .val (.int (2 : Int32)), .val (.int ch2)] []))
        refine own_go (fun _ q => XS.iinc X71.here hx rfl (hb hby d6_32) rfl (l' := #[.val (.ref bb), .val (.int (3 : Int32)), .val (.ref dd), .val (.int (2 : Int32)), .val (.int (3 : Int32)), .val (.int (2 : Int32)), .val (.int ch2)]) rfl q) ?_
        show own_Fin _ _ _ _ (T71.setTop (mkF m 35 #[.val (.ref bb), .val (.int (3 : Int32)), .val (.ref dd), .val (.int (2 : Int32)), .val (.int (3 : Int32)), .val (.int (2 : Int32)), .val (.int ch2)] []))
        refine own_go (fun _ q => XS.iinc X71.here hx rfl (hb hby d6_35) rfl (l' := #[.val (.ref bb), .val (.int (3 : Int32)), .val (.ref dd), .val (.int (3 : Int32)), .val (.int (3 : Int32)), .val (.int (2 : Int32)), .val (.int ch2)]) rfl q) ?_
        show own_Fin _ _ _ _ (T71.setTop (mkF m 38 #[.val (.ref bb), .val (.int (3 : Int32)), .val (.ref dd), .val (.int (3 : Int32)), .val (.int (3 : Int32)), .val (.int (2 : Int32)), .val (.int ch2)] []))
        refine own_go (fun _ q => XS.iinc X71.here hx rfl (hb hby d6_38) rfl (l' := #[.val (.ref bb), .val (.int (3 : Int32)), .val (.ref dd), .val (.int (3 : Int32)), .val (.int (3 : Int32)), .val (.int (3 : Int32)), .val (.int ch2)]) rfl q) ?_
        refine own_go (fun _ q => XS.goto X71.here hx rfl (pc0 := 41) (pc' := 3) rfl (hb hby d6_41) (by decide) (by decide) q) ?_
        refine own_go (fun _ q => XS.iload X71.here hx rfl (hb hby d6_3) rfl q) ?_
        refine own_go (fun _ q => XS.iload X71.here hx rfl (hb hby d6_5) rfl q) ?_
        show own_Fin _ _ _ _ (T71.setTop (mkF m 7 #[.val (.ref bb), .val (.int (3 : Int32)), .val (.ref dd), .val (.int (3 : Int32)), .val (.int (3 : Int32)), .val (.int (3 : Int32)), .val (.int ch2)] [(.int (3 : Int32)), (.int (3 : Int32))]))
        refine own_go (fun _ q => XS.icmpYes X71.here hx rfl (pc0 := 7) (pc' := 44) rfl (hb hby d6_7) rfl (flt (by decide : ¬ (3 : Int32) < (3 : Int32))).2.1 (by decide) (by decide) q) ?_
        refine own_go (fun _ q => XS.iload X71.here hx rfl (hb hby d6_44) rfl q) ?_
        show own_Fin _ _ _ _ (T71.setTop (mkF m 46 #[.val (.ref bb), .val (.int (3 : Int32)), .val (.ref dd), .val (.int (3 : Int32)), .val (.int (3 : Int32)), .val (.int (3 : Int32)), .val (.int ch2)] [(.int (3 : Int32))]))
        refine own_retI X71 hx Bd (t := .int) Bd.returns rfl (by simp) (hb hby d6_46) ?_ (by decide) (by decide)
        show (Q_rm_c5_3 Z bb kb dd kd ch0 ch1 ch2 h0 n0) (some (.int (3 : Int32))) T71.heap _
        rw [e71]
        refine ⟨N71, K72, Or.inr (Or.inr (Or.inr ((⟨rfl, ?_, V_dd⟩))))⟩
        intro c hc
        simp only [List.mem_cons, List.not_mem_nil, or_false] at hc
        rcases hc with rfl | rfl | rfl
        · exact hc64
        · exact hc67
        · exact hc70
def Q_rm_c5_4 (Z : State) (bb : Addr) (kb : ClassId) (dd : Addr) (kd : ClassId) (ch0 : Int32) (ch1 : Int32) (ch2 : Int32) (ch3 : Int32) (h0 : Heap) (n0 : Nat) (v : Option Value) (h : Heap) (L : List Loc) : Prop := Fr n0 L ∧ Keep h0 h [dd] ∧ ((v = some (.int (0 : Int32)) ∧ (255 : Int32) < ch0) ∨ (v = some (.int (1 : Int32)) ∧ (255 : Int32) < ch1) ∨ (v = some (.int (2 : Int32)) ∧ (255 : Int32) < ch2) ∨ (v = some (.int (3 : Int32)) ∧ (255 : Int32) < ch3) ∨ (v = some (.int (4 : Int32)) ∧ (∀ c ∈ ([ch0, ch1, ch2, ch3] : List Int32), ¬ (255 : Int32) < c) ∧ Arv Z h dd kd .byte (4 : Int32) [(.int (ch0.toInt8.toInt32)), (.int (ch1.toInt8.toInt32)), (.int (ch2.toInt8.toInt32)), (.int (ch3.toInt8.toInt32))] (.int (0 : Int32))))
theorem ef_rm_c5_4 (m : MethodId) (bb : Addr) (dd : Addr) (ch0 : Int32) (ch1 : Int32) (ch2 : Int32) (ch3 : Int32) : entryFrame m #[(.ref bb), (.int (0 : Int32)), (.ref dd), (.int (0 : Int32)), (.int (4 : Int32))] 7 = mkF m 0 #[.val (.ref bb), .val (.int (0 : Int32)), .val (.ref dd), .val (.int (0 : Int32)), .val (.int (4 : Int32)), .unset, .unset] [] := by first | (simp [entryFrame, mkF, argsToLocals, Value.category]; done) | rfl
set_option maxRecDepth 65536 in
set_option maxHeartbeats 40000000 in
theorem rm_c5_4 (l : Launch) (Z : State) (a0 : Array Value) (hw : ∀ d ∈ tables_1, d.before a0 Z = true) (ws : List Jvm.Cond) (bb : Addr) (kb : ClassId) (dd : Addr) (kd : ClassId) (ch0 : Int32) (ch1 : Int32) (ch2 : Int32) (ch3 : Int32) (h0 : Heap) (n0 : Nat) (Z0 : n0 ≤ h0.size) (V_bb : Arv Z h0 bb kb .char (4 : Int32) [(.int ch0), (.int ch1), (.int ch2), (.int ch3)] (.int (0 : Int32))) (V_dd : Arv Z h0 dd kd .byte (4 : Int32) [(.int (0 : Int32)), (.int (0 : Int32)), (.int (0 : Int32)), (.int (0 : Int32))] (.int (0 : Int32))) (g_dd : n0 ≤ dd) (neb : bb ≠ dd) :
    MetFree l (⟨"java/lang/StringUTF16", "compress", "([CI[BII)I"⟩ : MethodName) (head1 (Jvm.Cond.code (⟨"java/lang/StringUTF16", "compress", "([CI[BII)I"⟩ : MethodName) jdk_52_method_21_code 7 (some .int) :: ws) ({ frames := 0, cells := 0, slots := 0, locals := 0 } : Room)) (fun a_ U_ => a_ = #[(.ref bb), (.int (0 : Int32)), (.ref dd), (.int (0 : Int32)), (.int (4 : Int32))] ∧ Z.Warmed39 U_.vm ∧ U_.heap = h0) (fun _ _ _ _ _ => True) (fun _ U_ o_ V_ => ∃ v_ L_, o_ = .returned v_ ∧ (Q_rm_c5_4 Z bb kb dd kd ch0 ch1 ch2 ch3 h0 n0) v_ V_.heap L_ ∧ FrameEnd U_ o_ V_ L_ ({ frames := 0, cells := 0, slots := 0, locals := 0 } : Room).cells ({ frames := 0, cells := 0, slots := 0, locals := 0 } : Room).slots) := by
  refine MetFree.of_bodySF (plainFor_of_name pn_0) hisR ?_
  intro p e s m args below meth c s₁ Bd hml0 hP hK
  obtain ⟨rfl, hZ, hh⟩ := hP
  have hx := Bd.exec
  have hby := Bd.bytes
  have hml : c.maxLocals = 7 := hml0
  have hown : s.vm.findClass "java/lang/StringUTF16" = some m.cls := findClass_of_methodNamed Bd.named
  have hnm := (name_of_methodNamed Bd.named Bd.method).1
  have X0 : Stand p l e ({ frames := 0, cells := 0, slots := 0, locals := 0 } : Room) s m #[(.ref bb), (.int (0 : Int32)), (.ref dd), (.int (0 : Int32)), (.int (4 : Int32))] below meth c s₁ [] 0 0 := Stand.of_body Bd
  have e0 : s₁.heap = h0 := by rw [← hh, Bd.state]; rfl
  have N0 := Fr.nil n0
  have K0 : Keep h0 h0 [dd] := Keep.refl _ _
  show own_Fin p.tables e below (own_Post (Q_rm_c5_4 Z bb kb dd kd ch0 ch1 ch2 ch3 h0 n0) ({ frames := 0, cells := 0, slots := 0, locals := 0 } : Room).cells ({ frames := 0, cells := 0, slots := 0, locals := 0 } : Room).slots below s) _
  refine own_go (fun _ q => castTop (ef_rm_c5_4 m bb dd ch0 ch1 ch2 ch3) q) ?_
  refine own_go (fun _ q => XS.iconst X0.here hx rfl (hb hby d6_0) q) ?_
  refine own_go (fun _ q => XS.istore X0.here hx rfl (hb hby d6_1) rfl (l' := #[.val (.ref bb), .val (.int (0 : Int32)), .val (.ref dd), .val (.int (0 : Int32)), .val (.int (4 : Int32)), .val (.int (0 : Int32)), .unset]) rfl q) ?_
  refine own_go (fun _ q => XS.iload X0.here hx rfl (hb hby d6_3) rfl q) ?_
  refine own_go (fun _ q => XS.iload X0.here hx rfl (hb hby d6_5) rfl q) ?_
  show own_Fin _ _ _ _ (s₁.setTop (mkF m 7 #[.val (.ref bb), .val (.int (0 : Int32)), .val (.ref dd), .val (.int (0 : Int32)), .val (.int (4 : Int32)), .val (.int (0 : Int32)), .unset] [(.int (4 : Int32)), (.int (0 : Int32))]))
  refine own_go (fun _ q => XS.icmpNo X0.here hx rfl (hb hby d6_7) rfl (tlt (by decide : (0 : Int32) < (4 : Int32))).2.1 q) ?_
  refine own_go (fun _ q => XS.aloadN X0.here hx rfl (hb hby d6_10) rfl rfl q) ?_
  refine own_go (fun _ q => XS.iloadN X0.here hx rfl (hb hby d6_11) rfl q) ?_
  show own_Fin _ _ _ _ (s₁.setTop (mkF m 12 #[.val (.ref bb), .val (.int (0 : Int32)), .val (.ref dd), .val (.int (0 : Int32)), .val (.int (4 : Int32)), .val (.int (0 : Int32)), .unset] [(.int (0 : Int32)), (.ref bb)]))
  refine own_go (fun _ q => own_caload X0 hx hZ e0 V_bb (by decide) (v := (.int ch0)) (rfl) (g := (mkF m 12 #[.val (.ref bb), .val (.int (0 : Int32)), .val (.ref dd), .val (.int (0 : Int32)), .val (.int (4 : Int32)), .val (.int (0 : Int32)), .unset] [(.int (0 : Int32)), (.ref bb)])) rfl rfl (hb hby d6_12) _ q) ?_
  refine own_go (fun _ q => XS.istore X0.here hx rfl (hb hby d6_13) rfl (l' := #[.val (.ref bb), .val (.int (0 : Int32)), .val (.ref dd), .val (.int (0 : Int32)), .val (.int (4 : Int32)), .val (.int (0 : Int32)), .val (.int ch0)]) rfl q) ?_
  refine own_go (fun _ q => XS.iload X0.here hx rfl (hb hby d6_15) rfl q) ?_
  refine own_go (fun _ q => XS.sipush X0.here hx rfl (hb hby d6_17) q) ?_
  show own_Fin _ _ _ _ (s₁.setTop (mkF m 20 #[.val (.ref bb), .val (.int (0 : Int32)), .val (.ref dd), .val (.int (0 : Int32)), .val (.int (4 : Int32)), .val (.int (0 : Int32)), .val (.int ch0)] [(.int (255 : Int32)), (.int ch0)]))
  by_cases hc73 : (255 : Int32) < ch0
  · skip
    refine own_go (fun _ q => XS.icmpNo X0.here hx rfl (hb hby d6_20) rfl (tlt hc73).2.2.2 q) ?_
    refine own_go (fun _ q => XS.iload X0.here hx rfl (hb hby d6_23) rfl q) ?_
    show own_Fin _ _ _ _ (s₁.setTop (mkF m 25 #[.val (.ref bb), .val (.int (0 : Int32)), .val (.ref dd), .val (.int (0 : Int32)), .val (.int (4 : Int32)), .val (.int (0 : Int32)), .val (.int ch0)] [(.int (0 : Int32))]))
    refine own_retI X0 hx Bd (t := .int) Bd.returns rfl (by simp) (hb hby d6_25) ?_ (by decide) (by decide)
    show (Q_rm_c5_4 Z bb kb dd kd ch0 ch1 ch2 ch3 h0 n0) (some (.int (0 : Int32))) s₁.heap _
    rw [e0]
    exact ⟨N0, K0, Or.inl (⟨rfl, hc73⟩)⟩
  · skip
    refine own_go (fun _ q => XS.icmpYes X0.here hx rfl (pc0 := 20) (pc' := 26) rfl (hb hby d6_20) rfl (flt hc73).2.2.2 (by decide) (by decide) q) ?_
    refine own_go (fun _ q => XS.aloadN X0.here hx rfl (hb hby d6_26) rfl rfl q) ?_
    refine own_go (fun _ q => XS.iloadN X0.here hx rfl (hb hby d6_27) rfl q) ?_
    refine own_go (fun _ q => XS.iload X0.here hx rfl (hb hby d6_28) rfl q) ?_
    show own_Fin _ _ _ _ (s₁.setTop (mkF m 30 #[.val (.ref bb), .val (.int (0 : Int32)), .val (.ref dd), .val (.int (0 : Int32)), .val (.int (4 : Int32)), .val (.int (0 : Int32)), .val (.int ch0)] [(.int ch0), (.int (0 : Int32)), (.ref dd)]))
    refine own_go (fun _ q => XS.i2b X0.here hx rfl (hb hby d6_30) rfl q) ?_
    show own_Fin _ _ _ _ (s₁.setTop (mkF m 31 #[.val (.ref bb), .val (.int (0 : Int32)), .val (.ref dd), .val (.int (0 : Int32)), .val (.int (4 : Int32)), .val (.int (0 : Int32)), .val (.int ch0)] [(.int (ch0.toInt8.toInt32)), (.int (0 : Int32)), (.ref dd)]))
    obtain ⟨T74, h74, X74, e74, W74, V74, st74⟩ := own_stB X0 hx hZ e0 V_dd (by decide) (i := 0) rfl (Nat.le_of_ble_eq_true rfl) (g := (mkF m 31 #[.val (.ref bb), .val (.int (0 : Int32)), .val (.ref dd), .val (.int (0 : Int32)), .val (.int (4 : Int32)), .val (.int (0 : Int32)), .val (.int ch0)] [(.int (ch0.toInt8.toInt32)), (.int (0 : Int32)), (.ref dd)])) rfl rfl (hb hby d6_31)
    rw [own_b8] at V74
    replace V_dd : Arv Z h74 dd kd .byte (4 : Int32) [(.int (ch0.toInt8.toInt32)), (.int (0 : Int32)), (.int (0 : Int32)), (.int (0 : Int32))] (.int (0 : Int32)) := V74
    have N74 := Fr.snoc X74 N0 g_dd
    refine own_go st74 ?_
    replace V_bb := V_bb.other W74 neb
    have K75 := K0.wr W74 (Or.inl (by simp))
    show own_Fin _ _ _ _ (T74.setTop (mkF m 32 #[.val (.ref bb), .val (.int (0 : Int32)), .val (.ref dd), .val (.int (0 : Int32)), .val (.int (4 : Int32)), .val (.int (0 : Int32)), .val (.int ch0)] []))
    refine own_go (fun _ q => XS.iinc X74.here hx rfl (hb hby d6_32) rfl (l' := #[.val (.ref bb), .val (.int (1 : Int32)), .val (.ref dd), .val (.int (0 : Int32)), .val (.int (4 : Int32)), .val (.int (0 : Int32)), .val (.int ch0)]) rfl q) ?_
    show own_Fin _ _ _ _ (T74.setTop (mkF m 35 #[.val (.ref bb), .val (.int (1 : Int32)), .val (.ref dd), .val (.int (0 : Int32)), .val (.int (4 : Int32)), .val (.int (0 : Int32)), .val (.int ch0)] []))
    refine own_go (fun _ q => XS.iinc X74.here hx rfl (hb hby d6_35) rfl (l' := #[.val (.ref bb), .val (.int (1 : Int32)), .val (.ref dd), .val (.int (1 : Int32)), .val (.int (4 : Int32)), .val (.int (0 : Int32)), .val (.int ch0)]) rfl q) ?_
    show own_Fin _ _ _ _ (T74.setTop (mkF m 38 #[.val (.ref bb), .val (.int (1 : Int32)), .val (.ref dd), .val (.int (1 : Int32)), .val (.int (4 : Int32)), .val (.int (0 : Int32)), .val (.int ch0)] []))
    refine own_go (fun _ q => XS.iinc X74.here hx rfl (hb hby d6_38) rfl (l' := #[.val (.ref bb), .val (.int (1 : Int32)), .val (.ref dd), .val (.int (1 : Int32)), .val (.int (4 : Int32)), .val (.int (1 : Int32)), .val (.int ch0)]) rfl q) ?_
    refine own_go (fun _ q => XS.goto X74.here hx rfl (pc0 := 41) (pc' := 3) rfl (hb hby d6_41) (by decide) (by decide) q) ?_
    refine own_go (fun _ q => XS.iload X74.here hx rfl (hb hby d6_3) rfl q) ?_
    refine own_go (fun _ q => XS.iload X74.here hx rfl (hb hby d6_5) rfl q) ?_
    show own_Fin _ _ _ _ (T74.setTop (mkF m 7 #[.val (.ref bb), .val (.int (1 : Int32)), .val (.ref dd), .val (.int (1 : Int32)), .val (.int (4 : Int32)), .val (.int (1 : Int32)), .val (.int ch0)] [(.int (4 : Int32)), (.int (1 : Int32))]))
    refine own_go (fun _ q => XS.icmpNo X74.here hx rfl (hb hby d6_7) rfl (tlt (by decide : (1 : Int32) < (4 : Int32))).2.1 q) ?_
    refine own_go (fun _ q => XS.aloadN X74.here hx rfl (hb hby d6_10) rfl rfl q) ?_
    refine own_go (fun _ q => XS.iloadN X74.here hx rfl (hb hby d6_11) rfl q) ?_
    show own_Fin _ _ _ _ (T74.setTop (mkF m 12 #[.val (.ref bb), .val (.int (1 : Int32)), .val (.ref dd), .val (.int (1 : Int32)), .val (.int (4 : Int32)), .val (.int (1 : Int32)), .val (.int ch0)] [(.int (1 : Int32)), (.ref bb)]))
    refine own_go (fun _ q => own_caload X74 hx hZ e74 V_bb (by decide) (v := (.int ch1)) (rfl) (g := (mkF m 12 #[.val (.ref bb), .val (.int (1 : Int32)), .val (.ref dd), .val (.int (1 : Int32)), .val (.int (4 : Int32)), .val (.int (1 : Int32)), .val (.int ch0)] [(.int (1 : Int32)), (.ref bb)])) rfl rfl (hb hby d6_12) _ q) ?_
    refine own_go (fun _ q => XS.istore X74.here hx rfl (hb hby d6_13) rfl (l' := #[.val (.ref bb), .val (.int (1 : Int32)), .val (.ref dd), .val (.int (1 : Int32)), .val (.int (4 : Int32)), .val (.int (1 : Int32)), .val (.int ch1)]) rfl q) ?_
    refine own_go (fun _ q => XS.iload X74.here hx rfl (hb hby d6_15) rfl q) ?_
    refine own_go (fun _ q => XS.sipush X74.here hx rfl (hb hby d6_17) q) ?_
    show own_Fin _ _ _ _ (T74.setTop (mkF m 20 #[.val (.ref bb), .val (.int (1 : Int32)), .val (.ref dd), .val (.int (1 : Int32)), .val (.int (4 : Int32)), .val (.int (1 : Int32)), .val (.int ch1)] [(.int (255 : Int32)), (.int ch1)]))
    by_cases hc76 : (255 : Int32) < ch1
    · skip
      refine own_go (fun _ q => XS.icmpNo X74.here hx rfl (hb hby d6_20) rfl (tlt hc76).2.2.2 q) ?_
      refine own_go (fun _ q => XS.iload X74.here hx rfl (hb hby d6_23) rfl q) ?_
      show own_Fin _ _ _ _ (T74.setTop (mkF m 25 #[.val (.ref bb), .val (.int (1 : Int32)), .val (.ref dd), .val (.int (1 : Int32)), .val (.int (4 : Int32)), .val (.int (1 : Int32)), .val (.int ch1)] [(.int (1 : Int32))]))
      refine own_retI X74 hx Bd (t := .int) Bd.returns rfl (by simp) (hb hby d6_25) ?_ (by decide) (by decide)
      show (Q_rm_c5_4 Z bb kb dd kd ch0 ch1 ch2 ch3 h0 n0) (some (.int (1 : Int32))) T74.heap _
      rw [e74]
      exact ⟨N74, K75, Or.inr (Or.inl (⟨rfl, hc76⟩))⟩
    · skip
      refine own_go (fun _ q => XS.icmpYes X74.here hx rfl (pc0 := 20) (pc' := 26) rfl (hb hby d6_20) rfl (flt hc76).2.2.2 (by decide) (by decide) q) ?_
      refine own_go (fun _ q => XS.aloadN X74.here hx rfl (hb hby d6_26) rfl rfl q) ?_
      refine own_go (fun _ q => XS.iloadN X74.here hx rfl (hb hby d6_27) rfl q) ?_
      refine own_go (fun _ q => XS.iload X74.here hx rfl (hb hby d6_28) rfl q) ?_
      show own_Fin _ _ _ _ (T74.setTop (mkF m 30 #[.val (.ref bb), .val (.int (1 : Int32)), .val (.ref dd), .val (.int (1 : Int32)), .val (.int (4 : Int32)), .val (.int (1 : Int32)), .val (.int ch1)] [(.int ch1), (.int (1 : Int32)), (.ref dd)]))
      refine own_go (fun _ q => XS.i2b X74.here hx rfl (hb hby d6_30) rfl q) ?_
      show own_Fin _ _ _ _ (T74.setTop (mkF m 31 #[.val (.ref bb), .val (.int (1 : Int32)), .val (.ref dd), .val (.int (1 : Int32)), .val (.int (4 : Int32)), .val (.int (1 : Int32)), .val (.int ch1)] [(.int (ch1.toInt8.toInt32)), (.int (1 : Int32)), (.ref dd)]))
      obtain ⟨T77, h77, X77, e77, W77, V77, st77⟩ := own_stB X74 hx hZ e74 V_dd (by decide) (i := 1) rfl (Nat.le_of_ble_eq_true rfl) (g := (mkF m 31 #[.val (.ref bb), .val (.int (1 : Int32)), .val (.ref dd), .val (.int (1 : Int32)), .val (.int (4 : Int32)), .val (.int (1 : Int32)), .val (.int ch1)] [(.int (ch1.toInt8.toInt32)), (.int (1 : Int32)), (.ref dd)])) rfl rfl (hb hby d6_31)
      rw [own_b8] at V77
      replace V_dd : Arv Z h77 dd kd .byte (4 : Int32) [(.int (ch0.toInt8.toInt32)), (.int (ch1.toInt8.toInt32)), (.int (0 : Int32)), (.int (0 : Int32))] (.int (0 : Int32)) := V77
      have N77 := Fr.snoc X77 N74 g_dd
      refine own_go st77 ?_
      replace V_bb := V_bb.other W77 neb
      have K78 := K75.wr W77 (Or.inl (by simp))
      show own_Fin _ _ _ _ (T77.setTop (mkF m 32 #[.val (.ref bb), .val (.int (1 : Int32)), .val (.ref dd), .val (.int (1 : Int32)), .val (.int (4 : Int32)), .val (.int (1 : Int32)), .val (.int ch1)] []))
      refine own_go (fun _ q => XS.iinc X77.here hx rfl (hb hby d6_32) rfl (l' := #[.val (.ref bb), .val (.int (2 : Int32)), .val (.ref dd), .val (.int (1 : Int32)), .val (.int (4 : Int32)), .val (.int (1 : Int32)), .val (.int ch1)]) rfl q) ?_
      show own_Fin _ _ _ _ (T77.setTop (mkF m 35 #[.val (.ref bb), .val (.int (2 : Int32)), .val (.ref dd), .val (.int (1 : Int32)), .val (.int (4 : Int32)), .val (.int (1 : Int32)), .val (.int ch1)] []))
      refine own_go (fun _ q => XS.iinc X77.here hx rfl (hb hby d6_35) rfl (l' := #[.val (.ref bb), .val (.int (2 : Int32)), .val (.ref dd), .val (.int (2 : Int32)), .val (.int (4 : Int32)), .val (.int (1 : Int32)), .val (.int ch1)]) rfl q) ?_
      show own_Fin _ _ _ _ (T77.setTop (mkF m 38 #[.val (.ref bb), .val (.int (2 : Int32)), .val (.ref dd), .val (.int (2 : Int32)), .val (.int (4 : Int32)), .val (.int (1 : Int32)), .val (.int ch1)] []))
      refine own_go (fun _ q => XS.iinc X77.here hx rfl (hb hby d6_38) rfl (l' := #[.val (.ref bb), .val (.int (2 : Int32)), .val (.ref dd), .val (.int (2 : Int32)), .val (.int (4 : Int32)), .val (.int (2 : Int32)), .val (.int ch1)]) rfl q) ?_
      refine own_go (fun _ q => XS.goto X77.here hx rfl (pc0 := 41) (pc' := 3) rfl (hb hby d6_41) (by decide) (by decide) q) ?_
      refine own_go (fun _ q => XS.iload X77.here hx rfl (hb hby d6_3) rfl q) ?_
      refine own_go (fun _ q => XS.iload X77.here hx rfl (hb hby d6_5) rfl q) ?_
      show own_Fin _ _ _ _ (T77.setTop (mkF m 7 #[.val (.ref bb), .val (.int (2 : Int32)), .val (.ref dd), .val (.int (2 : Int32)), .val (.int (4 : Int32)), .val (.int (2 : Int32)), .val (.int ch1)] [(.int (4 : Int32)), (.int (2 : Int32))]))
      refine own_go (fun _ q => XS.icmpNo X77.here hx rfl (hb hby d6_7) rfl (tlt (by decide : (2 : Int32) < (4 : Int32))).2.1 q) ?_
      refine own_go (fun _ q => XS.aloadN X77.here hx rfl (hb hby d6_10) rfl rfl q) ?_
      refine own_go (fun _ q => XS.iloadN X77.here hx rfl (hb hby d6_11) rfl q) ?_
      show own_Fin _ _ _ _ (T77.setTop (mkF m 12 #[.val (.ref bb), .val (.int (2 : Int32)), .val (.ref dd), .val (.int (2 : Int32)), .val (.int (4 : Int32)), .val (.int (2 : Int32)), .val (.int ch1)] [(.int (2 : Int32)), (.ref bb)]))
      refine own_go (fun _ q => own_caload X77 hx hZ e77 V_bb (by decide) (v := (.int ch2)) (rfl) (g := (mkF m 12 #[.val (.ref bb), .val (.int (2 : Int32)), .val (.ref dd), .val (.int (2 : Int32)), .val (.int (4 : Int32)), .val (.int (2 : Int32)), .val (.int ch1)] [(.int (2 : Int32)), (.ref bb)])) rfl rfl (hb hby d6_12) _ q) ?_
      refine own_go (fun _ q => XS.istore X77.here hx rfl (hb hby d6_13) rfl (l' := #[.val (.ref bb), .val (.int (2 : Int32)), .val (.ref dd), .val (.int (2 : Int32)), .val (.int (4 : Int32)), .val (.int (2 : Int32)), .val (.int ch2)]) rfl q) ?_
      refine own_go (fun _ q => XS.iload X77.here hx rfl (hb hby d6_15) rfl q) ?_
      refine own_go (fun _ q => XS.sipush X77.here hx rfl (hb hby d6_17) q) ?_
      show own_Fin _ _ _ _ (T77.setTop (mkF m 20 #[.val (.ref bb), .val (.int (2 : Int32)), .val (.ref dd), .val (.int (2 : Int32)), .val (.int (4 : Int32)), .val (.int (2 : Int32)), .val (.int ch2)] [(.int (255 : Int32)), (.int ch2)]))
      by_cases hc79 : (255 : Int32) < ch2
      · skip
        refine own_go (fun _ q => XS.icmpNo X77.here hx rfl (hb hby d6_20) rfl (tlt hc79).2.2.2 q) ?_
        refine own_go (fun _ q => XS.iload X77.here hx rfl (hb hby d6_23) rfl q) ?_
        show own_Fin _ _ _ _ (T77.setTop (mkF m 25 #[.val (.ref bb), .val (.int (2 : Int32)), .val (.ref dd), .val (.int (2 : Int32)), .val (.int (4 : Int32)), .val (.int (2 : Int32)), .val (.int ch2)] [(.int (2 : Int32))]))
        refine own_retI X77 hx Bd (t := .int) Bd.returns rfl (by simp) (hb hby d6_25) ?_ (by decide) (by decide)
        show (Q_rm_c5_4 Z bb kb dd kd ch0 ch1 ch2 ch3 h0 n0) (some (.int (2 : Int32))) T77.heap _
        rw [e77]
        exact ⟨N77, K78, Or.inr (Or.inr (Or.inl (⟨rfl, hc79⟩)))⟩
      · skip
        refine own_go (fun _ q => XS.icmpYes X77.here hx rfl (pc0 := 20) (pc' := 26) rfl (hb hby d6_20) rfl (flt hc79).2.2.2 (by decide) (by decide) q) ?_
        refine own_go (fun _ q => XS.aloadN X77.here hx rfl (hb hby d6_26) rfl rfl q) ?_
        refine own_go (fun _ q => XS.iloadN X77.here hx rfl (hb hby d6_27) rfl q) ?_
        refine own_go (fun _ q => XS.iload X77.here hx rfl (hb hby d6_28) rfl q) ?_
        show own_Fin _ _ _ _ (T77.setTop (mkF m 30 #[.val (.ref bb), .val (.int (2 : Int32)), .val (.ref dd), .val (.int (2 : Int32)), .val (.int (4 : Int32)), .val (.int (2 : Int32)), .val (.int ch2)] [(.int ch2), (.int (2 : Int32)), (.ref dd)]))
        refine own_go (fun _ q => XS.i2b X77.here hx rfl (hb hby d6_30) rfl q) ?_
        show own_Fin _ _ _ _ (T77.setTop (mkF m 31 #[.val (.ref bb), .val (.int (2 : Int32)), .val (.ref dd), .val (.int (2 : Int32)), .val (.int (4 : Int32)), .val (.int (2 : Int32)), .val (.int ch2)] [(.int (ch2.toInt8.toInt32)), (.int (2 : Int32)), (.ref dd)]))
        obtain ⟨T80, h80, X80, e80, W80, V80, st80⟩ := own_stB X77 hx hZ e77 V_dd (by decide) (i := 2) rfl (Nat.le_of_ble_eq_true rfl) (g := (mkF m 31 #[.val (.ref bb), .val (.int (2 : Int32)), .val (.ref dd), .val (.int (2 : Int32)), .val (.int (4 : Int32)), .val (.int (2 : Int32)), .val (.int ch2)] [(.int (ch2.toInt8.toInt32)), (.int (2 : Int32)), (.ref dd)])) rfl rfl (hb hby d6_31)
        rw [own_b8] at V80
        replace V_dd : Arv Z h80 dd kd .byte (4 : Int32) [(.int (ch0.toInt8.toInt32)), (.int (ch1.toInt8.toInt32)), (.int (ch2.toInt8.toInt32)), (.int (0 : Int32))] (.int (0 : Int32)) := V80
        have N80 := Fr.snoc X80 N77 g_dd
        refine own_go st80 ?_
        replace V_bb := V_bb.other W80 neb
        have K81 := K78.wr W80 (Or.inl (by simp))
        show own_Fin _ _ _ _ (T80.setTop (mkF m 32 #[.val (.ref bb), .val (.int (2 : Int32)), .val (.ref dd), .val (.int (2 : Int32)), .val (.int (4 : Int32)), .val (.int (2 : Int32)), .val (.int ch2)] []))
        refine own_go (fun _ q => XS.iinc X80.here hx rfl (hb hby d6_32) rfl (l' := #[.val (.ref bb), .val (.int (3 : Int32)), .val (.ref dd), .val (.int (2 : Int32)), .val (.int (4 : Int32)), .val (.int (2 : Int32)), .val (.int ch2)]) rfl q) ?_
        show own_Fin _ _ _ _ (T80.setTop (mkF m 35 #[.val (.ref bb), .val (.int (3 : Int32)), .val (.ref dd), .val (.int (2 : Int32)), .val (.int (4 : Int32)), .val (.int (2 : Int32)), .val (.int ch2)] []))
        refine own_go (fun _ q => XS.iinc X80.here hx rfl (hb hby d6_35) rfl (l' := #[.val (.ref bb), .val (.int (3 : Int32)), .val (.ref dd), .val (.int (3 : Int32)), .val (.int (4 : Int32)), .val (.int (2 : Int32)), .val (.int ch2)]) rfl q) ?_
        show own_Fin _ _ _ _ (T80.setTop (mkF m 38 #[.val (.ref bb), .val (.int (3 : Int32)), .val (.ref dd), .val (.int (3 : Int32)), .val (.int (4 : Int32)), .val (.int (2 : Int32)), .val (.int ch2)] []))
        refine own_go (fun _ q => XS.iinc X80.here hx rfl (hb hby d6_38) rfl (l' := #[.val (.ref bb), .val (.int (3 : Int32)), .val (.ref dd), .val (.int (3 : Int32)), .val (.int (4 : Int32)), .val (.int (3 : Int32)), .val (.int ch2)]) rfl q) ?_
        refine own_go (fun _ q => XS.goto X80.here hx rfl (pc0 := 41) (pc' := 3) rfl (hb hby d6_41) (by decide) (by decide) q) ?_
        refine own_go (fun _ q => XS.iload X80.here hx rfl (hb hby d6_3) rfl q) ?_
        refine own_go (fun _ q => XS.iload X80.here hx rfl (hb hby d6_5) rfl q) ?_
        show own_Fin _ _ _ _ (T80.setTop (mkF m 7 #[.val (.ref bb), .val (.int (3 : Int32)), .val (.ref dd), .val (.int (3 : Int32)), .val (.int (4 : Int32)), .val (.int (3 : Int32)), .val (.int ch2)] [(.int (4 : Int32)), (.int (3 : Int32))]))
        refine own_go (fun _ q => XS.icmpNo X80.here hx rfl (hb hby d6_7) rfl (tlt (by decide : (3 : Int32) < (4 : Int32))).2.1 q) ?_
        refine own_go (fun _ q => XS.aloadN X80.here hx rfl (hb hby d6_10) rfl rfl q) ?_
        refine own_go (fun _ q => XS.iloadN X80.here hx rfl (hb hby d6_11) rfl q) ?_
        show own_Fin _ _ _ _ (T80.setTop (mkF m 12 #[.val (.ref bb), .val (.int (3 : Int32)), .val (.ref dd), .val (.int (3 : Int32)), .val (.int (4 : Int32)), .val (.int (3 : Int32)), .val (.int ch2)] [(.int (3 : Int32)), (.ref bb)]))
        refine own_go (fun _ q => own_caload X80 hx hZ e80 V_bb (by decide) (v := (.int ch3)) (rfl) (g := (mkF m 12 #[.val (.ref bb), .val (.int (3 : Int32)), .val (.ref dd), .val (.int (3 : Int32)), .val (.int (4 : Int32)), .val (.int (3 : Int32)), .val (.int ch2)] [(.int (3 : Int32)), (.ref bb)])) rfl rfl (hb hby d6_12) _ q) ?_
        refine own_go (fun _ q => XS.istore X80.here hx rfl (hb hby d6_13) rfl (l' := #[.val (.ref bb), .val (.int (3 : Int32)), .val (.ref dd), .val (.int (3 : Int32)), .val (.int (4 : Int32)), .val (.int (3 : Int32)), .val (.int ch3)]) rfl q) ?_
        refine own_go (fun _ q => XS.iload X80.here hx rfl (hb hby d6_15) rfl q) ?_
        refine own_go (fun _ q => XS.sipush X80.here hx rfl (hb hby d6_17) q) ?_
        show own_Fin _ _ _ _ (T80.setTop (mkF m 20 #[.val (.ref bb), .val (.int (3 : Int32)), .val (.ref dd), .val (.int (3 : Int32)), .val (.int (4 : Int32)), .val (.int (3 : Int32)), .val (.int ch3)] [(.int (255 : Int32)), (.int ch3)]))
        by_cases hc82 : (255 : Int32) < ch3
        · skip
          refine own_go (fun _ q => XS.icmpNo X80.here hx rfl (hb hby d6_20) rfl (tlt hc82).2.2.2 q) ?_
          refine own_go (fun _ q => XS.iload X80.here hx rfl (hb hby d6_23) rfl q) ?_
          show own_Fin _ _ _ _ (T80.setTop (mkF m 25 #[.val (.ref bb), .val (.int (3 : Int32)), .val (.ref dd), .val (.int (3 : Int32)), .val (.int (4 : Int32)), .val (.int (3 : Int32)), .val (.int ch3)] [(.int (3 : Int32))]))
          refine own_retI X80 hx Bd (t := .int) Bd.returns rfl (by simp) (hb hby d6_25) ?_ (by decide) (by decide)
          show (Q_rm_c5_4 Z bb kb dd kd ch0 ch1 ch2 ch3 h0 n0) (some (.int (3 : Int32))) T80.heap _
          rw [e80]
          exact ⟨N80, K81, Or.inr (Or.inr (Or.inr (Or.inl (⟨rfl, hc82⟩))))⟩
        · skip
          refine own_go (fun _ q => XS.icmpYes X80.here hx rfl (pc0 := 20) (pc' := 26) rfl (hb hby d6_20) rfl (flt hc82).2.2.2 (by decide) (by decide) q) ?_
          refine own_go (fun _ q => XS.aloadN X80.here hx rfl (hb hby d6_26) rfl rfl q) ?_
          refine own_go (fun _ q => XS.iloadN X80.here hx rfl (hb hby d6_27) rfl q) ?_
          refine own_go (fun _ q => XS.iload X80.here hx rfl (hb hby d6_28) rfl q) ?_
          show own_Fin _ _ _ _ (T80.setTop (mkF m 30 #[.val (.ref bb), .val (.int (3 : Int32)), .val (.ref dd), .val (.int (3 : Int32)), .val (.int (4 : Int32)), .val (.int (3 : Int32)), .val (.int ch3)] [(.int ch3), (.int (3 : Int32)), (.ref dd)]))
          refine own_go (fun _ q => XS.i2b X80.here hx rfl (hb hby d6_30) rfl q) ?_
          show own_Fin _ _ _ _ (T80.setTop (mkF m 31 #[.val (.ref bb), .val (.int (3 : Int32)), .val (.ref dd), .val (.int (3 : Int32)), .val (.int (4 : Int32)), .val (.int (3 : Int32)), .val (.int ch3)] [(.int (ch3.toInt8.toInt32)), (.int (3 : Int32)), (.ref dd)]))
          obtain ⟨T83, h83, X83, e83, W83, V83, st83⟩ := own_stB X80 hx hZ e80 V_dd (by decide) (i := 3) rfl (Nat.le_of_ble_eq_true rfl) (g := (mkF m 31 #[.val (.ref bb), .val (.int (3 : Int32)), .val (.ref dd), .val (.int (3 : Int32)), .val (.int (4 : Int32)), .val (.int (3 : Int32)), .val (.int ch3)] [(.int (ch3.toInt8.toInt32)), (.int (3 : Int32)), (.ref dd)])) rfl rfl (hb hby d6_31)
          rw [own_b8] at V83
          replace V_dd : Arv Z h83 dd kd .byte (4 : Int32) [(.int (ch0.toInt8.toInt32)), (.int (ch1.toInt8.toInt32)), (.int (ch2.toInt8.toInt32)), (.int (ch3.toInt8.toInt32))] (.int (0 : Int32)) := V83
          have N83 := Fr.snoc X83 N80 g_dd
          refine own_go st83 ?_
          replace V_bb := V_bb.other W83 neb
          have K84 := K81.wr W83 (Or.inl (by simp))
          show own_Fin _ _ _ _ (T83.setTop (mkF m 32 #[.val (.ref bb), .val (.int (3 : Int32)), .val (.ref dd), .val (.int (3 : Int32)), .val (.int (4 : Int32)), .val (.int (3 : Int32)), .val (.int ch3)] []))
          refine own_go (fun _ q => XS.iinc X83.here hx rfl (hb hby d6_32) rfl (l' := #[.val (.ref bb), .val (.int (4 : Int32)), .val (.ref dd), .val (.int (3 : Int32)), .val (.int (4 : Int32)), .val (.int (3 : Int32)), .val (.int ch3)]) rfl q) ?_
          show own_Fin _ _ _ _ (T83.setTop (mkF m 35 #[.val (.ref bb), .val (.int (4 : Int32)), .val (.ref dd), .val (.int (3 : Int32)), .val (.int (4 : Int32)), .val (.int (3 : Int32)), .val (.int ch3)] []))
          refine own_go (fun _ q => XS.iinc X83.here hx rfl (hb hby d6_35) rfl (l' := #[.val (.ref bb), .val (.int (4 : Int32)), .val (.ref dd), .val (.int (4 : Int32)), .val (.int (4 : Int32)), .val (.int (3 : Int32)), .val (.int ch3)]) rfl q) ?_
          show own_Fin _ _ _ _ (T83.setTop (mkF m 38 #[.val (.ref bb), .val (.int (4 : Int32)), .val (.ref dd), .val (.int (4 : Int32)), .val (.int (4 : Int32)), .val (.int (3 : Int32)), .val (.int ch3)] []))
          refine own_go (fun _ q => XS.iinc X83.here hx rfl (hb hby d6_38) rfl (l' := #[.val (.ref bb), .val (.int (4 : Int32)), .val (.ref dd), .val (.int (4 : Int32)), .val (.int (4 : Int32)), .val (.int (4 : Int32)), .val (.int ch3)]) rfl q) ?_
          refine own_go (fun _ q => XS.goto X83.here hx rfl (pc0 := 41) (pc' := 3) rfl (hb hby d6_41) (by decide) (by decide) q) ?_
          refine own_go (fun _ q => XS.iload X83.here hx rfl (hb hby d6_3) rfl q) ?_
          refine own_go (fun _ q => XS.iload X83.here hx rfl (hb hby d6_5) rfl q) ?_
          show own_Fin _ _ _ _ (T83.setTop (mkF m 7 #[.val (.ref bb), .val (.int (4 : Int32)), .val (.ref dd), .val (.int (4 : Int32)), .val (.int (4 : Int32)), .val (.int (4 : Int32)), .val (.int ch3)] [(.int (4 : Int32)), (.int (4 : Int32))]))
          refine own_go (fun _ q => XS.icmpYes X83.here hx rfl (pc0 := 7) (pc' := 44) rfl (hb hby d6_7) rfl (flt (by decide : ¬ (4 : Int32) < (4 : Int32))).2.1 (by decide) (by decide) q) ?_
          refine own_go (fun _ q => XS.iload X83.here hx rfl (hb hby d6_44) rfl q) ?_
          show own_Fin _ _ _ _ (T83.setTop (mkF m 46 #[.val (.ref bb), .val (.int (4 : Int32)), .val (.ref dd), .val (.int (4 : Int32)), .val (.int (4 : Int32)), .val (.int (4 : Int32)), .val (.int ch3)] [(.int (4 : Int32))]))
          refine own_retI X83 hx Bd (t := .int) Bd.returns rfl (by simp) (hb hby d6_46) ?_ (by decide) (by decide)
          show (Q_rm_c5_4 Z bb kb dd kd ch0 ch1 ch2 ch3 h0 n0) (some (.int (4 : Int32))) T83.heap _
          rw [e83]
          refine ⟨N83, K84, Or.inr (Or.inr (Or.inr (Or.inr ((⟨rfl, ?_, V_dd⟩)))))⟩
          intro c hc
          simp only [List.mem_cons, List.not_mem_nil, or_false] at hc
          rcases hc with rfl | rfl | rfl | rfl
          · exact hc73
          · exact hc76
          · exact hc79
          · exact hc82
def Q_rm_c3_1 (Z : State) (bb : Addr) (kb : ClassId) (ch0 : Int32) (h0 : Heap) (n0 : Nat) (v : Option Value) (h : Heap) (L : List Loc) : Prop := ∃ (r : Addr) (k : ClassId), v = some (.ref r) ∧ Fr n0 L ∧ Keep h0 h [] ∧ h0.size ≤ r ∧ (((∀ c ∈ ([ch0] : List Int32), ¬ (255 : Int32) < c) ∧ Arv Z h r k .byte (1 : Int32) [(.int (ch0.toInt8.toInt32))] (.int (0 : Int32))) ∨ ((∃ c ∈ ([ch0] : List Int32), (255 : Int32) < c) ∧ Arv Z h r k .byte (2 : Int32) [(.int (ch0.toInt8.toInt32)), (.int ((ch0 >>> ((8 : Int32) &&& 31)).toInt8.toInt32))] (.int (0 : Int32))))
theorem ef_rm_c3_1 (m : MethodId) (bb : Addr) (ch0 : Int32) : entryFrame m #[(.ref bb), (.int (0 : Int32)), (.int (1 : Int32))] 6 = mkF m 0 #[.val (.ref bb), .val (.int (0 : Int32)), .val (.int (1 : Int32)), .unset, .unset, .unset] [] := by first | (simp [entryFrame, mkF, argsToLocals, Value.category]; done) | rfl
set_option maxRecDepth 65536 in
set_option maxHeartbeats 40000000 in
theorem rm_c3_1 (l : Launch) (Z : State) (a0 : Array Value) (hw : ∀ d ∈ tables_1, d.before a0 Z = true) (ws : List Jvm.Cond) (bb : Addr) (kb : ClassId) (ch0 : Int32) (h0 : Heap) (n0 : Nat) (Z0 : n0 ≤ h0.size) (V_bb : Arv Z h0 bb kb .char (1 : Int32) [(.int ch0)] (.int (0 : Int32))) (hbd : ∀ c ∈ ([ch0] : List Int32), ¬ c < 0 ∧ ¬ (65535 : Int32) < c) (O0 : Old Z n0 h0) (S_A : Sta Z Z.heap "java/lang/StringUTF16" "$assertionsDisabled" "Z" (.int (1 : Int32))) (S_H : Sta Z Z.heap "java/lang/StringUTF16" "HI_BYTE_SHIFT" "I" (.int (0 : Int32))) (S_L : Sta Z Z.heap "java/lang/StringUTF16" "LO_BYTE_SHIFT" "I" (.int (8 : Int32))) :
    MetFree l (⟨"java/lang/StringUTF16", "compress", "([CII)[B"⟩ : MethodName) (head1 (Jvm.Cond.code (⟨"java/lang/StringUTF16", "compress", "([CII)[B"⟩ : MethodName) jdk_52_method_16_code 6 (some (.array .byte)) :: ws) ({ frames := 3, cells := 2, slots := 3, locals := 40 } : Room)) (fun a_ U_ => a_ = #[(.ref bb), (.int (0 : Int32)), (.int (1 : Int32))] ∧ Z.Warmed39 U_.vm ∧ U_.heap = h0) (fun _ _ _ _ _ => True) (fun _ U_ o_ V_ => ∃ v_ L_, o_ = .returned v_ ∧ (Q_rm_c3_1 Z bb kb ch0 h0 n0) v_ V_.heap L_ ∧ FrameEnd U_ o_ V_ L_ ({ frames := 3, cells := 2, slots := 3, locals := 40 } : Room).cells ({ frames := 3, cells := 2, slots := 3, locals := 40 } : Room).slots) := by
  refine MetFree.of_bodySF (plainFor_of_name pn_0) hisR ?_
  intro p e s m args below meth c s₁ Bd hml0 hP hK
  obtain ⟨rfl, hZ, hh⟩ := hP
  have hx := Bd.exec
  have hby := Bd.bytes
  have hml : c.maxLocals = 6 := hml0
  have hown : s.vm.findClass "java/lang/StringUTF16" = some m.cls := findClass_of_methodNamed Bd.named
  have hnm := (name_of_methodNamed Bd.named Bd.method).1
  have X0 : Stand p l e ({ frames := 3, cells := 2, slots := 3, locals := 40 } : Room) s m #[(.ref bb), (.int (0 : Int32)), (.int (1 : Int32))] below meth c s₁ [] 0 0 := Stand.of_body Bd
  have e0 : s₁.heap = h0 := by rw [← hh, Bd.state]; rfl
  have N0 := Fr.nil n0
  have K0 : Keep h0 h0 [] := Keep.refl _ _
  show own_Fin p.tables e below (own_Post (Q_rm_c3_1 Z bb kb ch0 h0 n0) ({ frames := 3, cells := 2, slots := 3, locals := 40 } : Room).cells ({ frames := 3, cells := 2, slots := 3, locals := 40 } : Room).slots below s) _
  refine own_go (fun _ q => castTop (ef_rm_c3_1 m bb ch0) q) ?_
  refine own_go (fun _ q => XS.iloadN X0.here hx rfl (hb hby d5_0) rfl q) ?_
  show own_Fin _ _ _ _ (s₁.setTop (mkF m 1 #[.val (.ref bb), .val (.int (0 : Int32)), .val (.int (1 : Int32)), .unset, .unset, .unset] [(.int (1 : Int32))]))
  obtain ⟨T85, h85, k85, X85, e85, E85, A85, st85⟩ := newP X0 hx hZ (own_w hw 25 rfl) e0 (g := (mkF m 1 #[.val (.ref bb), .val (.int (0 : Int32)), .val (.int (1 : Int32)), .unset, .unset, .unset] [(.int (1 : Int32))])) rfl (hb hby d5_1) rfl (by decide) (cap := 1) (by decide) (by decide) (by decide) (by decide)
  obtain ⟨b85, g85⟩ : ∃ z, z = h0.size := ⟨_, rfl⟩
  rw [← g85] at A85 st85
  have sz_b85 : h0.size ≤ b85 := Nat.le_trans K0.1 (Nat.le_of_eq g85.symm)
  have g_b85 : n0 ≤ b85 := Nat.le_trans Z0 sz_b85
  have ne86 : bb ≠ b85 := Nat.ne_of_lt (Nat.lt_of_lt_of_le V_bb.lt (Nat.le_of_eq g85.symm))
  replace V_bb := V_bb.ext E85
  replace O0 := O0.ext E85
  have K87 := K0.ext E85
  have V85 : Arv Z h85 b85 k85 .byte (1 : Int32) [(.int (0 : Int32))] (.int (0 : Int32)) := (Arv.new A85 (by decide)).pad (pad_rep [] (.int (0 : Int32)) 1)
  refine own_go st85 ?_
  refine own_go (fun _ q => XS.astoreN X85.here hx rfl (hb hby d5_3) rfl rfl (l' := #[.val (.ref bb), .val (.int (0 : Int32)), .val (.int (1 : Int32)), .val (.ref b85), .unset, .unset]) rfl q) ?_
  refine own_go (fun _ q => XS.aloadN X85.here hx rfl (hb hby d5_4) rfl rfl q) ?_
  refine own_go (fun _ q => XS.iloadN X85.here hx rfl (hb hby d5_5) rfl q) ?_
  refine own_go (fun _ q => XS.aloadN X85.here hx rfl (hb hby d5_6) rfl rfl q) ?_
  refine own_go (fun _ q => XS.iconst X85.here hx rfl (hb hby d5_7) q) ?_
  refine own_go (fun _ q => XS.iloadN X85.here hx rfl (hb hby d5_8) rfl q) ?_
  show own_Fin _ _ _ _ (T85.setTop (mkF m 9 #[.val (.ref bb), .val (.int (0 : Int32)), .val (.int (1 : Int32)), .val (.ref b85), .unset, .unset] [(.int (1 : Int32)), (.int (0 : Int32)), (.ref b85), (.int (0 : Int32)), (.ref bb)]))
  obtain ⟨_, _, ⟨T88, L88, k88, n88⟩, -, X88, ⟨Lc88, hQ88, l88, y88, z88⟩, st88⟩ := Jvm.LawKit.callS X85 hx (y := (⟨"java/lang/StringUTF16", "compress", "([CI[BII)I"⟩ : MethodName)) hown (mvT hZ (own_w hw 26 rfl)) (mvT hZ (own_w hw 27 rfl)) (mvT hZ (own_w hw 23 rfl)) (mvT hZ (own_w hw 28 rfl)) (by decide) (backOf (W := 0) (rm_c5_1 l Z a0 hw [] bb kb b85 k85 ch0 h85 n0 (Nat.le_trans Z0 K87.1) V_bb V85 g_b85 ne86) hZ (own_w hw 28 rfl) (own_w hw 23 rfl) (by decide) (by decide)) (g := (mkF m 9 #[.val (.ref bb), .val (.int (0 : Int32)), .val (.int (1 : Int32)), .val (.ref b85), .unset, .unset] [(.int (1 : Int32)), (.int (0 : Int32)), (.ref b85), (.int (0 : Int32)), (.ref bb)])) rfl (by rw [hml]; rfl) (argsL := [(.ref bb), (.int (0 : Int32)), (.ref b85), (.int (0 : Int32)), (.int (1 : Int32))]) (rest := []) (lenOf pd_4 rfl) rfl (by show 2 * 0 + _ ≤ _; exact Nat.le_of_eq rfl) (hb hby d5_9) (fun _ _ => ⟨rfl, e85, (by decide : 1 + 0 ≤ _), (by decide : 1 + 0 ≤ _)⟩)
  dsimp only [Pt.U, Pt.locs, Pt.cells, Pt.slots] at X88 l88 y88 z88 st88 hQ88
  subst l88 y88 z88
  obtain ⟨N88q, KK88, hD88⟩ := hQ88
  have N88 := Fr.app N0 N88q
  replace V_bb := V_bb.keep KK88 (ninS ne86 nin0)
  replace O0 := O0.keep KK88 (allS g_b85 (all0))
  have K89 := K87.trans KK88 (allS (Or.inr sz_b85) all0)
  rcases hD88 with ⟨rfl, hbig88⟩ | ⟨rfl, hall88, VV88⟩
  · skip
    refine own_go st88 ?_
    refine own_go (fun _ q => XS.istore X88.here hx rfl (hb hby d5_12) rfl (l' := #[.val (.ref bb), .val (.int (0 : Int32)), .val (.int (1 : Int32)), .val (.ref b85), .val (.int (0 : Int32)), .unset]) rfl q) ?_
    refine own_go (fun _ q => XS.iload X88.here hx rfl (hb hby d5_14) rfl q) ?_
    refine own_go (fun _ q => XS.iloadN X88.here hx rfl (hb hby d5_16) rfl q) ?_
    show own_Fin _ _ _ _ (T88.setTop (mkF m 17 #[.val (.ref bb), .val (.int (0 : Int32)), .val (.int (1 : Int32)), .val (.ref b85), .val (.int (0 : Int32)), .unset] [(.int (1 : Int32)), (.int (0 : Int32))]))
    refine own_go (fun _ q => XS.icmpNo X88.here hx rfl (hb hby d5_17) rfl (feq (by decide : ¬ (0 : Int32) = (1 : Int32))).1 q) ?_
    refine own_go (fun _ q => XS.aloadN X88.here hx rfl (hb hby d5_20) rfl rfl q) ?_
    refine own_go (fun _ q => XS.iloadN X88.here hx rfl (hb hby d5_21) rfl q) ?_
    refine own_go (fun _ q => XS.iloadN X88.here hx rfl (hb hby d5_22) rfl q) ?_
    show own_Fin _ _ _ _ (T88.setTop (mkF m 23 #[.val (.ref bb), .val (.int (0 : Int32)), .val (.int (1 : Int32)), .val (.ref b85), .val (.int (0 : Int32)), .unset] [(.int (1 : Int32)), (.int (0 : Int32)), (.ref bb)]))
    obtain ⟨_, _, ⟨T90, L90, k90, n90⟩, -, X90, ⟨Lc90, hQ90, l90, y90, z90⟩, st90⟩ := Jvm.LawKit.callS X88 hx (y := (⟨"java/lang/StringUTF16", "toBytes", "([CII)[B"⟩ : MethodName)) hown (mvT hZ (own_w hw 62 rfl)) (mvT hZ (own_w hw 63 rfl)) (mvT hZ (own_w hw 23 rfl)) (mvT hZ (own_w hw 64 rfl)) (by decide) (backOf (W := 0) (rm_tob1 l Z a0 hw [] bb kb ch0 T88.heap n0 (Nat.le_trans Z0 K89.1) V_bb O0 S_A S_H S_L) hZ (own_w hw 64 rfl) (own_w hw 23 rfl) (by decide) (by decide)) (g := (mkF m 23 #[.val (.ref bb), .val (.int (0 : Int32)), .val (.int (1 : Int32)), .val (.ref b85), .val (.int (0 : Int32)), .unset] [(.int (1 : Int32)), (.int (0 : Int32)), (.ref bb)])) rfl (by rw [hml]; rfl) (argsL := [(.ref bb), (.int (0 : Int32)), (.int (1 : Int32))]) (rest := []) (lenOf pd_5 rfl) rfl (by show 2 * 0 + _ ≤ _; exact Nat.le_of_eq rfl) (hb hby d5_23) (fun _ _ => ⟨rfl, rfl, (by decide : 1 + 1 ≤ _), (by decide : 1 + 2 ≤ _)⟩)
    dsimp only [Pt.U, Pt.locs, Pt.cells, Pt.slots] at X90 l90 y90 z90 st90 hQ90
    subst l90 y90 z90
    obtain ⟨r90, kk90, rfl, N90q, KK90, sz90, V90⟩ := hQ90
    have N90 := Fr.app N88 N90q
    have sz_r90 : h0.size ≤ r90 := Nat.le_trans K89.1 sz90
    have g_r90 : n0 ≤ r90 := Nat.le_trans Z0 sz_r90
    have ne91 : bb ≠ r90 := Nat.ne_of_lt (Nat.lt_of_lt_of_le V_bb.lt sz90)
    replace V_bb := V_bb.keep KK90 nin0
    replace O0 := O0.keep KK90 all0
    have K92 := K89.trans KK90 all0
    refine own_go st90 ?_
    refine own_go (fun _ q => XS.astore X90.here hx rfl (hb hby d5_26) rfl rfl (l' := #[.val (.ref bb), .val (.int (0 : Int32)), .val (.int (1 : Int32)), .val (.ref b85), .val (.int (0 : Int32)), .val (.ref r90)]) rfl q) ?_
    refine own_go (fun _ q => XS.aload X90.here hx rfl (hb hby d5_28) rfl rfl q) ?_
    refine own_go (fun _ q => XS.iload X90.here hx rfl (hb hby d5_30) rfl q) ?_
    show own_Fin _ _ _ _ (T90.setTop (mkF m 32 #[.val (.ref bb), .val (.int (0 : Int32)), .val (.int (1 : Int32)), .val (.ref b85), .val (.int (0 : Int32)), .val (.ref r90)] [(.int (0 : Int32)), (.ref r90)]))
    obtain ⟨_, _, ⟨T93, L93, k93, n93⟩, -, X93, ⟨Lc93, hQ93, l93, y93, z93⟩, st93⟩ := Jvm.LawKit.callS X90 hx (y := (⟨"java/lang/StringUTF16", "getChar", "([BI)C"⟩ : MethodName)) hown (mvT hZ (own_w hw 78 rfl)) (mvT hZ (own_w hw 79 rfl)) (mvT hZ (own_w hw 23 rfl)) (mvT hZ (own_w hw 80 rfl)) (by decide) (backOf (W := 0) (rm_gc l Z a0 hw [] r90 kk90 (0 : Int32) ch0 (2 : Int32) [(.int (ch0.toInt8.toInt32)), (.int ((ch0 >>> ((8 : Int32) &&& 31)).toInt8.toInt32))] T90.heap n0 (Nat.le_trans Z0 K92.1) V90 (by decide) (by decide) rfl rfl (hbd _ (own_m 0 rfl)) O0 S_A S_H S_L) hZ (own_w hw 80 rfl) (own_w hw 23 rfl) (by decide) (by decide)) (g := (mkF m 32 #[.val (.ref bb), .val (.int (0 : Int32)), .val (.int (1 : Int32)), .val (.ref b85), .val (.int (0 : Int32)), .val (.ref r90)] [(.int (0 : Int32)), (.ref r90)])) rfl (by rw [hml]; rfl) (argsL := [(.ref r90), (.int (0 : Int32))]) (rest := []) (lenOf pd_6 rfl) rfl (by show 2 * 0 + _ ≤ _; exact Nat.le_of_eq rfl) (hb hby d5_32) (fun _ _ => ⟨rfl, rfl, (by decide : 2 + 0 ≤ _), (by decide : 3 + 0 ≤ _)⟩)
    dsimp only [Pt.U, Pt.locs, Pt.cells, Pt.slots] at X93 l93 y93 z93 st93 hQ93
    subst l93 y93 z93
    obtain ⟨rfl, N93q, e93⟩ := hQ93
    have N93 := Fr.app N90 N93q
    refine own_go st93 ?_
    refine own_go (fun _ q => XS.sipush X93.here hx rfl (hb hby d5_35) q) ?_
    show own_Fin _ _ _ _ (T93.setTop (mkF m 38 #[.val (.ref bb), .val (.int (0 : Int32)), .val (.int (1 : Int32)), .val (.ref b85), .val (.int (0 : Int32)), .val (.ref r90)] [(.int (255 : Int32)), (.int ch0)]))
    refine own_go (fun _ q => XS.icmpYes X93.here hx rfl (pc0 := 38) (pc' := 54) rfl (hb hby d5_38) rfl (tlt hbig88).2.2.1 (by decide) (by decide) q) ?_
    refine own_go (fun _ q => XS.aload X93.here hx rfl (hb hby d5_54) rfl rfl q) ?_
    show own_Fin _ _ _ _ (T93.setTop (mkF m 56 #[.val (.ref bb), .val (.int (0 : Int32)), .val (.int (1 : Int32)), .val (.ref b85), .val (.int (0 : Int32)), .val (.ref r90)] [(.ref r90)]))
    refine own_retA X93 hx Bd (t := (.array .byte)) Bd.returns rfl rfl rfl (hb hby d5_56) ?_ (by decide) (by decide)
    show (Q_rm_c3_1 Z bb kb ch0 h0 n0) (some (.ref r90)) T93.heap _
    rw [e93]
    exact ⟨_, _, rfl, N93, K92, sz_r90, Or.inr ⟨⟨_, own_m 0 rfl, hbig88⟩, V90⟩⟩
  · skip
    refine own_go st88 ?_
    refine own_go (fun _ q => XS.istore X88.here hx rfl (hb hby d5_12) rfl (l' := #[.val (.ref bb), .val (.int (0 : Int32)), .val (.int (1 : Int32)), .val (.ref b85), .val (.int (1 : Int32)), .unset]) rfl q) ?_
    refine own_go (fun _ q => XS.iload X88.here hx rfl (hb hby d5_14) rfl q) ?_
    refine own_go (fun _ q => XS.iloadN X88.here hx rfl (hb hby d5_16) rfl q) ?_
    show own_Fin _ _ _ _ (T88.setTop (mkF m 17 #[.val (.ref bb), .val (.int (0 : Int32)), .val (.int (1 : Int32)), .val (.ref b85), .val (.int (1 : Int32)), .unset] [(.int (1 : Int32)), (.int (1 : Int32))]))
    refine own_go (fun _ q => XS.icmpYes X88.here hx rfl (pc0 := 17) (pc' := 57) rfl (hb hby d5_17) rfl (teq (by decide : (1 : Int32) = (1 : Int32))).1 (by decide) (by decide) q) ?_
    refine own_go (fun _ q => XS.aloadN X88.here hx rfl (hb hby d5_57) rfl rfl q) ?_
    show own_Fin _ _ _ _ (T88.setTop (mkF m 58 #[.val (.ref bb), .val (.int (0 : Int32)), .val (.int (1 : Int32)), .val (.ref b85), .val (.int (1 : Int32)), .unset] [(.ref b85)]))
    refine own_retA X88 hx Bd (t := (.array .byte)) Bd.returns rfl rfl rfl (hb hby d5_58) ?_ (by decide) (by decide)
    show (Q_rm_c3_1 Z bb kb ch0 h0 n0) (some (.ref b85)) T88.heap _
    exact ⟨_, _, rfl, N88, K89, sz_b85, Or.inl ⟨hall88, VV88⟩⟩
def Q_rm_c3_2 (Z : State) (bb : Addr) (kb : ClassId) (ch0 : Int32) (ch1 : Int32) (h0 : Heap) (n0 : Nat) (v : Option Value) (h : Heap) (L : List Loc) : Prop := ∃ (r : Addr) (k : ClassId), v = some (.ref r) ∧ Fr n0 L ∧ Keep h0 h [] ∧ h0.size ≤ r ∧ (((∀ c ∈ ([ch0, ch1] : List Int32), ¬ (255 : Int32) < c) ∧ Arv Z h r k .byte (2 : Int32) [(.int (ch0.toInt8.toInt32)), (.int (ch1.toInt8.toInt32))] (.int (0 : Int32))) ∨ ((∃ c ∈ ([ch0, ch1] : List Int32), (255 : Int32) < c) ∧ Arv Z h r k .byte (4 : Int32) [(.int (ch0.toInt8.toInt32)), (.int ((ch0 >>> ((8 : Int32) &&& 31)).toInt8.toInt32)), (.int (ch1.toInt8.toInt32)), (.int ((ch1 >>> ((8 : Int32) &&& 31)).toInt8.toInt32))] (.int (0 : Int32))))
theorem ef_rm_c3_2 (m : MethodId) (bb : Addr) (ch0 : Int32) (ch1 : Int32) : entryFrame m #[(.ref bb), (.int (0 : Int32)), (.int (2 : Int32))] 6 = mkF m 0 #[.val (.ref bb), .val (.int (0 : Int32)), .val (.int (2 : Int32)), .unset, .unset, .unset] [] := by first | (simp [entryFrame, mkF, argsToLocals, Value.category]; done) | rfl
set_option maxRecDepth 65536 in
set_option maxHeartbeats 40000000 in
theorem rm_c3_2 (l : Launch) (Z : State) (a0 : Array Value) (hw : ∀ d ∈ tables_1, d.before a0 Z = true) (ws : List Jvm.Cond) (bb : Addr) (kb : ClassId) (ch0 : Int32) (ch1 : Int32) (h0 : Heap) (n0 : Nat) (Z0 : n0 ≤ h0.size) (V_bb : Arv Z h0 bb kb .char (2 : Int32) [(.int ch0), (.int ch1)] (.int (0 : Int32))) (hbd : ∀ c ∈ ([ch0, ch1] : List Int32), ¬ c < 0 ∧ ¬ (65535 : Int32) < c) (O0 : Old Z n0 h0) (S_A : Sta Z Z.heap "java/lang/StringUTF16" "$assertionsDisabled" "Z" (.int (1 : Int32))) (S_H : Sta Z Z.heap "java/lang/StringUTF16" "HI_BYTE_SHIFT" "I" (.int (0 : Int32))) (S_L : Sta Z Z.heap "java/lang/StringUTF16" "LO_BYTE_SHIFT" "I" (.int (8 : Int32))) :
    MetFree l (⟨"java/lang/StringUTF16", "compress", "([CII)[B"⟩ : MethodName) (head1 (Jvm.Cond.code (⟨"java/lang/StringUTF16", "compress", "([CII)[B"⟩ : MethodName) jdk_52_method_16_code 6 (some (.array .byte)) :: ws) ({ frames := 3, cells := 2, slots := 6, locals := 40 } : Room)) (fun a_ U_ => a_ = #[(.ref bb), (.int (0 : Int32)), (.int (2 : Int32))] ∧ Z.Warmed39 U_.vm ∧ U_.heap = h0) (fun _ _ _ _ _ => True) (fun _ U_ o_ V_ => ∃ v_ L_, o_ = .returned v_ ∧ (Q_rm_c3_2 Z bb kb ch0 ch1 h0 n0) v_ V_.heap L_ ∧ FrameEnd U_ o_ V_ L_ ({ frames := 3, cells := 2, slots := 6, locals := 40 } : Room).cells ({ frames := 3, cells := 2, slots := 6, locals := 40 } : Room).slots) := by
  refine MetFree.of_bodySF (plainFor_of_name pn_0) hisR ?_
  intro p e s m args below meth c s₁ Bd hml0 hP hK
  obtain ⟨rfl, hZ, hh⟩ := hP
  have hx := Bd.exec
  have hby := Bd.bytes
  have hml : c.maxLocals = 6 := hml0
  have hown : s.vm.findClass "java/lang/StringUTF16" = some m.cls := findClass_of_methodNamed Bd.named
  have hnm := (name_of_methodNamed Bd.named Bd.method).1
  have X0 : Stand p l e ({ frames := 3, cells := 2, slots := 6, locals := 40 } : Room) s m #[(.ref bb), (.int (0 : Int32)), (.int (2 : Int32))] below meth c s₁ [] 0 0 := Stand.of_body Bd
  have e0 : s₁.heap = h0 := by rw [← hh, Bd.state]; rfl
  have N0 := Fr.nil n0
  have K0 : Keep h0 h0 [] := Keep.refl _ _
  show own_Fin p.tables e below (own_Post (Q_rm_c3_2 Z bb kb ch0 ch1 h0 n0) ({ frames := 3, cells := 2, slots := 6, locals := 40 } : Room).cells ({ frames := 3, cells := 2, slots := 6, locals := 40 } : Room).slots below s) _
  refine own_go (fun _ q => castTop (ef_rm_c3_2 m bb ch0 ch1) q) ?_
  refine own_go (fun _ q => XS.iloadN X0.here hx rfl (hb hby d5_0) rfl q) ?_
  show own_Fin _ _ _ _ (s₁.setTop (mkF m 1 #[.val (.ref bb), .val (.int (0 : Int32)), .val (.int (2 : Int32)), .unset, .unset, .unset] [(.int (2 : Int32))]))
  obtain ⟨T94, h94, k94, X94, e94, E94, A94, st94⟩ := newP X0 hx hZ (own_w hw 25 rfl) e0 (g := (mkF m 1 #[.val (.ref bb), .val (.int (0 : Int32)), .val (.int (2 : Int32)), .unset, .unset, .unset] [(.int (2 : Int32))])) rfl (hb hby d5_1) rfl (by decide) (cap := 2) (by decide) (by decide) (by decide) (by decide)
  obtain ⟨b94, g94⟩ : ∃ z, z = h0.size := ⟨_, rfl⟩
  rw [← g94] at A94 st94
  have sz_b94 : h0.size ≤ b94 := Nat.le_trans K0.1 (Nat.le_of_eq g94.symm)
  have g_b94 : n0 ≤ b94 := Nat.le_trans Z0 sz_b94
  have ne95 : bb ≠ b94 := Nat.ne_of_lt (Nat.lt_of_lt_of_le V_bb.lt (Nat.le_of_eq g94.symm))
  replace V_bb := V_bb.ext E94
  replace O0 := O0.ext E94
  have K96 := K0.ext E94
  have V94 : Arv Z h94 b94 k94 .byte (2 : Int32) [(.int (0 : Int32)), (.int (0 : Int32))] (.int (0 : Int32)) := (Arv.new A94 (by decide)).pad (pad_rep [] (.int (0 : Int32)) 2)
  refine own_go st94 ?_
  refine own_go (fun _ q => XS.astoreN X94.here hx rfl (hb hby d5_3) rfl rfl (l' := #[.val (.ref bb), .val (.int (0 : Int32)), .val (.int (2 : Int32)), .val (.ref b94), .unset, .unset]) rfl q) ?_
  refine own_go (fun _ q => XS.aloadN X94.here hx rfl (hb hby d5_4) rfl rfl q) ?_
  refine own_go (fun _ q => XS.iloadN X94.here hx rfl (hb hby d5_5) rfl q) ?_
  refine own_go (fun _ q => XS.aloadN X94.here hx rfl (hb hby d5_6) rfl rfl q) ?_
  refine own_go (fun _ q => XS.iconst X94.here hx rfl (hb hby d5_7) q) ?_
  refine own_go (fun _ q => XS.iloadN X94.here hx rfl (hb hby d5_8) rfl q) ?_
  show own_Fin _ _ _ _ (T94.setTop (mkF m 9 #[.val (.ref bb), .val (.int (0 : Int32)), .val (.int (2 : Int32)), .val (.ref b94), .unset, .unset] [(.int (2 : Int32)), (.int (0 : Int32)), (.ref b94), (.int (0 : Int32)), (.ref bb)]))
  obtain ⟨_, _, ⟨T97, L97, k97, n97⟩, -, X97, ⟨Lc97, hQ97, l97, y97, z97⟩, st97⟩ := Jvm.LawKit.callS X94 hx (y := (⟨"java/lang/StringUTF16", "compress", "([CI[BII)I"⟩ : MethodName)) hown (mvT hZ (own_w hw 26 rfl)) (mvT hZ (own_w hw 27 rfl)) (mvT hZ (own_w hw 23 rfl)) (mvT hZ (own_w hw 28 rfl)) (by decide) (backOf (W := 0) (rm_c5_2 l Z a0 hw [] bb kb b94 k94 ch0 ch1 h94 n0 (Nat.le_trans Z0 K96.1) V_bb V94 g_b94 ne95) hZ (own_w hw 28 rfl) (own_w hw 23 rfl) (by decide) (by decide)) (g := (mkF m 9 #[.val (.ref bb), .val (.int (0 : Int32)), .val (.int (2 : Int32)), .val (.ref b94), .unset, .unset] [(.int (2 : Int32)), (.int (0 : Int32)), (.ref b94), (.int (0 : Int32)), (.ref bb)])) rfl (by rw [hml]; rfl) (argsL := [(.ref bb), (.int (0 : Int32)), (.ref b94), (.int (0 : Int32)), (.int (2 : Int32))]) (rest := []) (lenOf pd_4 rfl) rfl (by show 2 * 0 + _ ≤ _; exact Nat.le_of_eq rfl) (hb hby d5_9) (fun _ _ => ⟨rfl, e94, (by decide : 1 + 0 ≤ _), (by decide : 2 + 0 ≤ _)⟩)
  dsimp only [Pt.U, Pt.locs, Pt.cells, Pt.slots] at X97 l97 y97 z97 st97 hQ97
  subst l97 y97 z97
  obtain ⟨N97q, KK97, hD97⟩ := hQ97
  have N97 := Fr.app N0 N97q
  replace V_bb := V_bb.keep KK97 (ninS ne95 nin0)
  replace O0 := O0.keep KK97 (allS g_b94 (all0))
  have K98 := K96.trans KK97 (allS (Or.inr sz_b94) all0)
  rcases hD97 with ⟨rfl, hbig97⟩ | ⟨rfl, hbig97⟩ | ⟨rfl, hall97, VV97⟩
  · skip
    refine own_go st97 ?_
    refine own_go (fun _ q => XS.istore X97.here hx rfl (hb hby d5_12) rfl (l' := #[.val (.ref bb), .val (.int (0 : Int32)), .val (.int (2 : Int32)), .val (.ref b94), .val (.int (0 : Int32)), .unset]) rfl q) ?_
    refine own_go (fun _ q => XS.iload X97.here hx rfl (hb hby d5_14) rfl q) ?_
    refine own_go (fun _ q => XS.iloadN X97.here hx rfl (hb hby d5_16) rfl q) ?_
    show own_Fin _ _ _ _ (T97.setTop (mkF m 17 #[.val (.ref bb), .val (.int (0 : Int32)), .val (.int (2 : Int32)), .val (.ref b94), .val (.int (0 : Int32)), .unset] [(.int (2 : Int32)), (.int (0 : Int32))]))
    refine own_go (fun _ q => XS.icmpNo X97.here hx rfl (hb hby d5_17) rfl (feq (by decide : ¬ (0 : Int32) = (2 : Int32))).1 q) ?_
    refine own_go (fun _ q => XS.aloadN X97.here hx rfl (hb hby d5_20) rfl rfl q) ?_
    refine own_go (fun _ q => XS.iloadN X97.here hx rfl (hb hby d5_21) rfl q) ?_
    refine own_go (fun _ q => XS.iloadN X97.here hx rfl (hb hby d5_22) rfl q) ?_
    show own_Fin _ _ _ _ (T97.setTop (mkF m 23 #[.val (.ref bb), .val (.int (0 : Int32)), .val (.int (2 : Int32)), .val (.ref b94), .val (.int (0 : Int32)), .unset] [(.int (2 : Int32)), (.int (0 : Int32)), (.ref bb)]))
    obtain ⟨_, _, ⟨T99, L99, k99, n99⟩, -, X99, ⟨Lc99, hQ99, l99, y99, z99⟩, st99⟩ := Jvm.LawKit.callS X97 hx (y := (⟨"java/lang/StringUTF16", "toBytes", "([CII)[B"⟩ : MethodName)) hown (mvT hZ (own_w hw 62 rfl)) (mvT hZ (own_w hw 63 rfl)) (mvT hZ (own_w hw 23 rfl)) (mvT hZ (own_w hw 64 rfl)) (by decide) (backOf (W := 0) (rm_tob2 l Z a0 hw [] bb kb ch0 ch1 T97.heap n0 (Nat.le_trans Z0 K98.1) V_bb O0 S_A S_H S_L) hZ (own_w hw 64 rfl) (own_w hw 23 rfl) (by decide) (by decide)) (g := (mkF m 23 #[.val (.ref bb), .val (.int (0 : Int32)), .val (.int (2 : Int32)), .val (.ref b94), .val (.int (0 : Int32)), .unset] [(.int (2 : Int32)), (.int (0 : Int32)), (.ref bb)])) rfl (by rw [hml]; rfl) (argsL := [(.ref bb), (.int (0 : Int32)), (.int (2 : Int32))]) (rest := []) (lenOf pd_5 rfl) rfl (by show 2 * 0 + _ ≤ _; exact Nat.le_of_eq rfl) (hb hby d5_23) (fun _ _ => ⟨rfl, rfl, (by decide : 1 + 1 ≤ _), (by decide : 2 + 4 ≤ _)⟩)
    dsimp only [Pt.U, Pt.locs, Pt.cells, Pt.slots] at X99 l99 y99 z99 st99 hQ99
    subst l99 y99 z99
    obtain ⟨r99, kk99, rfl, N99q, KK99, sz99, V99⟩ := hQ99
    have N99 := Fr.app N97 N99q
    have sz_r99 : h0.size ≤ r99 := Nat.le_trans K98.1 sz99
    have g_r99 : n0 ≤ r99 := Nat.le_trans Z0 sz_r99
    have ne100 : bb ≠ r99 := Nat.ne_of_lt (Nat.lt_of_lt_of_le V_bb.lt sz99)
    replace V_bb := V_bb.keep KK99 nin0
    replace O0 := O0.keep KK99 all0
    have K101 := K98.trans KK99 all0
    refine own_go st99 ?_
    refine own_go (fun _ q => XS.astore X99.here hx rfl (hb hby d5_26) rfl rfl (l' := #[.val (.ref bb), .val (.int (0 : Int32)), .val (.int (2 : Int32)), .val (.ref b94), .val (.int (0 : Int32)), .val (.ref r99)]) rfl q) ?_
    refine own_go (fun _ q => XS.aload X99.here hx rfl (hb hby d5_28) rfl rfl q) ?_
    refine own_go (fun _ q => XS.iload X99.here hx rfl (hb hby d5_30) rfl q) ?_
    show own_Fin _ _ _ _ (T99.setTop (mkF m 32 #[.val (.ref bb), .val (.int (0 : Int32)), .val (.int (2 : Int32)), .val (.ref b94), .val (.int (0 : Int32)), .val (.ref r99)] [(.int (0 : Int32)), (.ref r99)]))
    obtain ⟨_, _, ⟨T102, L102, k102, n102⟩, -, X102, ⟨Lc102, hQ102, l102, y102, z102⟩, st102⟩ := Jvm.LawKit.callS X99 hx (y := (⟨"java/lang/StringUTF16", "getChar", "([BI)C"⟩ : MethodName)) hown (mvT hZ (own_w hw 78 rfl)) (mvT hZ (own_w hw 79 rfl)) (mvT hZ (own_w hw 23 rfl)) (mvT hZ (own_w hw 80 rfl)) (by decide) (backOf (W := 0) (rm_gc l Z a0 hw [] r99 kk99 (0 : Int32) ch0 (4 : Int32) [(.int (ch0.toInt8.toInt32)), (.int ((ch0 >>> ((8 : Int32) &&& 31)).toInt8.toInt32)), (.int (ch1.toInt8.toInt32)), (.int ((ch1 >>> ((8 : Int32) &&& 31)).toInt8.toInt32))] T99.heap n0 (Nat.le_trans Z0 K101.1) V99 (by decide) (by decide) rfl rfl (hbd _ (own_m 0 rfl)) O0 S_A S_H S_L) hZ (own_w hw 80 rfl) (own_w hw 23 rfl) (by decide) (by decide)) (g := (mkF m 32 #[.val (.ref bb), .val (.int (0 : Int32)), .val (.int (2 : Int32)), .val (.ref b94), .val (.int (0 : Int32)), .val (.ref r99)] [(.int (0 : Int32)), (.ref r99)])) rfl (by rw [hml]; rfl) (argsL := [(.ref r99), (.int (0 : Int32))]) (rest := []) (lenOf pd_6 rfl) rfl (by show 2 * 0 + _ ≤ _; exact Nat.le_of_eq rfl) (hb hby d5_32) (fun _ _ => ⟨rfl, rfl, (by decide : 2 + 0 ≤ _), (by decide : 6 + 0 ≤ _)⟩)
    dsimp only [Pt.U, Pt.locs, Pt.cells, Pt.slots] at X102 l102 y102 z102 st102 hQ102
    subst l102 y102 z102
    obtain ⟨rfl, N102q, e102⟩ := hQ102
    have N102 := Fr.app N99 N102q
    refine own_go st102 ?_
    refine own_go (fun _ q => XS.sipush X102.here hx rfl (hb hby d5_35) q) ?_
    show own_Fin _ _ _ _ (T102.setTop (mkF m 38 #[.val (.ref bb), .val (.int (0 : Int32)), .val (.int (2 : Int32)), .val (.ref b94), .val (.int (0 : Int32)), .val (.ref r99)] [(.int (255 : Int32)), (.int ch0)]))
    refine own_go (fun _ q => XS.icmpYes X102.here hx rfl (pc0 := 38) (pc' := 54) rfl (hb hby d5_38) rfl (tlt hbig97).2.2.1 (by decide) (by decide) q) ?_
    refine own_go (fun _ q => XS.aload X102.here hx rfl (hb hby d5_54) rfl rfl q) ?_
    show own_Fin _ _ _ _ (T102.setTop (mkF m 56 #[.val (.ref bb), .val (.int (0 : Int32)), .val (.int (2 : Int32)), .val (.ref b94), .val (.int (0 : Int32)), .val (.ref r99)] [(.ref r99)]))
    refine own_retA X102 hx Bd (t := (.array .byte)) Bd.returns rfl rfl rfl (hb hby d5_56) ?_ (by decide) (by decide)
    show (Q_rm_c3_2 Z bb kb ch0 ch1 h0 n0) (some (.ref r99)) T102.heap _
    rw [e102]
    exact ⟨_, _, rfl, N102, K101, sz_r99, Or.inr ⟨⟨_, own_m 0 rfl, hbig97⟩, V99⟩⟩
  · skip
    refine own_go st97 ?_
    refine own_go (fun _ q => XS.istore X97.here hx rfl (hb hby d5_12) rfl (l' := #[.val (.ref bb), .val (.int (0 : Int32)), .val (.int (2 : Int32)), .val (.ref b94), .val (.int (1 : Int32)), .unset]) rfl q) ?_
    refine own_go (fun _ q => XS.iload X97.here hx rfl (hb hby d5_14) rfl q) ?_
    refine own_go (fun _ q => XS.iloadN X97.here hx rfl (hb hby d5_16) rfl q) ?_
    show own_Fin _ _ _ _ (T97.setTop (mkF m 17 #[.val (.ref bb), .val (.int (0 : Int32)), .val (.int (2 : Int32)), .val (.ref b94), .val (.int (1 : Int32)), .unset] [(.int (2 : Int32)), (.int (1 : Int32))]))
    refine own_go (fun _ q => XS.icmpNo X97.here hx rfl (hb hby d5_17) rfl (feq (by decide : ¬ (1 : Int32) = (2 : Int32))).1 q) ?_
    refine own_go (fun _ q => XS.aloadN X97.here hx rfl (hb hby d5_20) rfl rfl q) ?_
    refine own_go (fun _ q => XS.iloadN X97.here hx rfl (hb hby d5_21) rfl q) ?_
    refine own_go (fun _ q => XS.iloadN X97.here hx rfl (hb hby d5_22) rfl q) ?_
    show own_Fin _ _ _ _ (T97.setTop (mkF m 23 #[.val (.ref bb), .val (.int (0 : Int32)), .val (.int (2 : Int32)), .val (.ref b94), .val (.int (1 : Int32)), .unset] [(.int (2 : Int32)), (.int (0 : Int32)), (.ref bb)]))
    obtain ⟨_, _, ⟨T103, L103, k103, n103⟩, -, X103, ⟨Lc103, hQ103, l103, y103, z103⟩, st103⟩ := Jvm.LawKit.callS X97 hx (y := (⟨"java/lang/StringUTF16", "toBytes", "([CII)[B"⟩ : MethodName)) hown (mvT hZ (own_w hw 62 rfl)) (mvT hZ (own_w hw 63 rfl)) (mvT hZ (own_w hw 23 rfl)) (mvT hZ (own_w hw 64 rfl)) (by decide) (backOf (W := 0) (rm_tob2 l Z a0 hw [] bb kb ch0 ch1 T97.heap n0 (Nat.le_trans Z0 K98.1) V_bb O0 S_A S_H S_L) hZ (own_w hw 64 rfl) (own_w hw 23 rfl) (by decide) (by decide)) (g := (mkF m 23 #[.val (.ref bb), .val (.int (0 : Int32)), .val (.int (2 : Int32)), .val (.ref b94), .val (.int (1 : Int32)), .unset] [(.int (2 : Int32)), (.int (0 : Int32)), (.ref bb)])) rfl (by rw [hml]; rfl) (argsL := [(.ref bb), (.int (0 : Int32)), (.int (2 : Int32))]) (rest := []) (lenOf pd_5 rfl) rfl (by show 2 * 0 + _ ≤ _; exact Nat.le_of_eq rfl) (hb hby d5_23) (fun _ _ => ⟨rfl, rfl, (by decide : 1 + 1 ≤ _), (by decide : 2 + 4 ≤ _)⟩)
    dsimp only [Pt.U, Pt.locs, Pt.cells, Pt.slots] at X103 l103 y103 z103 st103 hQ103
    subst l103 y103 z103
    obtain ⟨r103, kk103, rfl, N103q, KK103, sz103, V103⟩ := hQ103
    have N103 := Fr.app N97 N103q
    have sz_r103 : h0.size ≤ r103 := Nat.le_trans K98.1 sz103
    have g_r103 : n0 ≤ r103 := Nat.le_trans Z0 sz_r103
    have ne104 : bb ≠ r103 := Nat.ne_of_lt (Nat.lt_of_lt_of_le V_bb.lt sz103)
    replace V_bb := V_bb.keep KK103 nin0
    replace O0 := O0.keep KK103 all0
    have K105 := K98.trans KK103 all0
    refine own_go st103 ?_
    refine own_go (fun _ q => XS.astore X103.here hx rfl (hb hby d5_26) rfl rfl (l' := #[.val (.ref bb), .val (.int (0 : Int32)), .val (.int (2 : Int32)), .val (.ref b94), .val (.int (1 : Int32)), .val (.ref r103)]) rfl q) ?_
    refine own_go (fun _ q => XS.aload X103.here hx rfl (hb hby d5_28) rfl rfl q) ?_
    refine own_go (fun _ q => XS.iload X103.here hx rfl (hb hby d5_30) rfl q) ?_
    show own_Fin _ _ _ _ (T103.setTop (mkF m 32 #[.val (.ref bb), .val (.int (0 : Int32)), .val (.int (2 : Int32)), .val (.ref b94), .val (.int (1 : Int32)), .val (.ref r103)] [(.int (1 : Int32)), (.ref r103)]))
    obtain ⟨_, _, ⟨T106, L106, k106, n106⟩, -, X106, ⟨Lc106, hQ106, l106, y106, z106⟩, st106⟩ := Jvm.LawKit.callS X103 hx (y := (⟨"java/lang/StringUTF16", "getChar", "([BI)C"⟩ : MethodName)) hown (mvT hZ (own_w hw 78 rfl)) (mvT hZ (own_w hw 79 rfl)) (mvT hZ (own_w hw 23 rfl)) (mvT hZ (own_w hw 80 rfl)) (by decide) (backOf (W := 0) (rm_gc l Z a0 hw [] r103 kk103 (1 : Int32) ch1 (4 : Int32) [(.int (ch0.toInt8.toInt32)), (.int ((ch0 >>> ((8 : Int32) &&& 31)).toInt8.toInt32)), (.int (ch1.toInt8.toInt32)), (.int ((ch1 >>> ((8 : Int32) &&& 31)).toInt8.toInt32))] T103.heap n0 (Nat.le_trans Z0 K105.1) V103 (by decide) (by decide) rfl rfl (hbd _ (own_m 1 rfl)) O0 S_A S_H S_L) hZ (own_w hw 80 rfl) (own_w hw 23 rfl) (by decide) (by decide)) (g := (mkF m 32 #[.val (.ref bb), .val (.int (0 : Int32)), .val (.int (2 : Int32)), .val (.ref b94), .val (.int (1 : Int32)), .val (.ref r103)] [(.int (1 : Int32)), (.ref r103)])) rfl (by rw [hml]; rfl) (argsL := [(.ref r103), (.int (1 : Int32))]) (rest := []) (lenOf pd_6 rfl) rfl (by show 2 * 0 + _ ≤ _; exact Nat.le_of_eq rfl) (hb hby d5_32) (fun _ _ => ⟨rfl, rfl, (by decide : 2 + 0 ≤ _), (by decide : 6 + 0 ≤ _)⟩)
    dsimp only [Pt.U, Pt.locs, Pt.cells, Pt.slots] at X106 l106 y106 z106 st106 hQ106
    subst l106 y106 z106
    obtain ⟨rfl, N106q, e106⟩ := hQ106
    have N106 := Fr.app N103 N106q
    refine own_go st106 ?_
    refine own_go (fun _ q => XS.sipush X106.here hx rfl (hb hby d5_35) q) ?_
    show own_Fin _ _ _ _ (T106.setTop (mkF m 38 #[.val (.ref bb), .val (.int (0 : Int32)), .val (.int (2 : Int32)), .val (.ref b94), .val (.int (1 : Int32)), .val (.ref r103)] [(.int (255 : Int32)), (.int ch1)]))
    refine own_go (fun _ q => XS.icmpYes X106.here hx rfl (pc0 := 38) (pc' := 54) rfl (hb hby d5_38) rfl (tlt hbig97).2.2.1 (by decide) (by decide) q) ?_
    refine own_go (fun _ q => XS.aload X106.here hx rfl (hb hby d5_54) rfl rfl q) ?_
    show own_Fin _ _ _ _ (T106.setTop (mkF m 56 #[.val (.ref bb), .val (.int (0 : Int32)), .val (.int (2 : Int32)), .val (.ref b94), .val (.int (1 : Int32)), .val (.ref r103)] [(.ref r103)]))
    refine own_retA X106 hx Bd (t := (.array .byte)) Bd.returns rfl rfl rfl (hb hby d5_56) ?_ (by decide) (by decide)
    show (Q_rm_c3_2 Z bb kb ch0 ch1 h0 n0) (some (.ref r103)) T106.heap _
    rw [e106]
    exact ⟨_, _, rfl, N106, K105, sz_r103, Or.inr ⟨⟨_, own_m 1 rfl, hbig97⟩, V103⟩⟩
  · skip
    refine own_go st97 ?_
    refine own_go (fun _ q => XS.istore X97.here hx rfl (hb hby d5_12) rfl (l' := #[.val (.ref bb), .val (.int (0 : Int32)), .val (.int (2 : Int32)), .val (.ref b94), .val (.int (2 : Int32)), .unset]) rfl q) ?_
    refine own_go (fun _ q => XS.iload X97.here hx rfl (hb hby d5_14) rfl q) ?_
    refine own_go (fun _ q => XS.iloadN X97.here hx rfl (hb hby d5_16) rfl q) ?_
    show own_Fin _ _ _ _ (T97.setTop (mkF m 17 #[.val (.ref bb), .val (.int (0 : Int32)), .val (.int (2 : Int32)), .val (.ref b94), .val (.int (2 : Int32)), .unset] [(.int (2 : Int32)), (.int (2 : Int32))]))
    refine own_go (fun _ q => XS.icmpYes X97.here hx rfl (pc0 := 17) (pc' := 57) rfl (hb hby d5_17) rfl (teq (by decide : (2 : Int32) = (2 : Int32))).1 (by decide) (by decide) q) ?_
    refine own_go (fun _ q => XS.aloadN X97.here hx rfl (hb hby d5_57) rfl rfl q) ?_
    show own_Fin _ _ _ _ (T97.setTop (mkF m 58 #[.val (.ref bb), .val (.int (0 : Int32)), .val (.int (2 : Int32)), .val (.ref b94), .val (.int (2 : Int32)), .unset] [(.ref b94)]))
    refine own_retA X97 hx Bd (t := (.array .byte)) Bd.returns rfl rfl rfl (hb hby d5_58) ?_ (by decide) (by decide)
    show (Q_rm_c3_2 Z bb kb ch0 ch1 h0 n0) (some (.ref b94)) T97.heap _
    exact ⟨_, _, rfl, N97, K98, sz_b94, Or.inl ⟨hall97, VV97⟩⟩
def Q_rm_c3_3 (Z : State) (bb : Addr) (kb : ClassId) (ch0 : Int32) (ch1 : Int32) (ch2 : Int32) (h0 : Heap) (n0 : Nat) (v : Option Value) (h : Heap) (L : List Loc) : Prop := ∃ (r : Addr) (k : ClassId), v = some (.ref r) ∧ Fr n0 L ∧ Keep h0 h [] ∧ h0.size ≤ r ∧ (((∀ c ∈ ([ch0, ch1, ch2] : List Int32), ¬ (255 : Int32) < c) ∧ Arv Z h r k .byte (3 : Int32) [(.int (ch0.toInt8.toInt32)), (.int (ch1.toInt8.toInt32)), (.int (ch2.toInt8.toInt32))] (.int (0 : Int32))) ∨ ((∃ c ∈ ([ch0, ch1, ch2] : List Int32), (255 : Int32) < c) ∧ Arv Z h r k .byte (6 : Int32) [(.int (ch0.toInt8.toInt32)), (.int ((ch0 >>> ((8 : Int32) &&& 31)).toInt8.toInt32)), (.int (ch1.toInt8.toInt32)), (.int ((ch1 >>> ((8 : Int32) &&& 31)).toInt8.toInt32)), (.int (ch2.toInt8.toInt32)), (.int ((ch2 >>> ((8 : Int32) &&& 31)).toInt8.toInt32))] (.int (0 : Int32))))
theorem ef_rm_c3_3 (m : MethodId) (bb : Addr) (ch0 : Int32) (ch1 : Int32) (ch2 : Int32) : entryFrame m #[(.ref bb), (.int (0 : Int32)), (.int (3 : Int32))] 6 = mkF m 0 #[.val (.ref bb), .val (.int (0 : Int32)), .val (.int (3 : Int32)), .unset, .unset, .unset] [] := by first | (simp [entryFrame, mkF, argsToLocals, Value.category]; done) | rfl
set_option maxRecDepth 65536 in
set_option maxHeartbeats 40000000 in
theorem rm_c3_3 (l : Launch) (Z : State) (a0 : Array Value) (hw : ∀ d ∈ tables_1, d.before a0 Z = true) (ws : List Jvm.Cond) (bb : Addr) (kb : ClassId) (ch0 : Int32) (ch1 : Int32) (ch2 : Int32) (h0 : Heap) (n0 : Nat) (Z0 : n0 ≤ h0.size) (V_bb : Arv Z h0 bb kb .char (3 : Int32) [(.int ch0), (.int ch1), (.int ch2)] (.int (0 : Int32))) (hbd : ∀ c ∈ ([ch0, ch1, ch2] : List Int32), ¬ c < 0 ∧ ¬ (65535 : Int32) < c) (O0 : Old Z n0 h0) (S_A : Sta Z Z.heap "java/lang/StringUTF16" "$assertionsDisabled" "Z" (.int (1 : Int32))) (S_H : Sta Z Z.heap "java/lang/StringUTF16" "HI_BYTE_SHIFT" "I" (.int (0 : Int32))) (S_L : Sta Z Z.heap "java/lang/StringUTF16" "LO_BYTE_SHIFT" "I" (.int (8 : Int32))) :
    MetFree l (⟨"java/lang/StringUTF16", "compress", "([CII)[B"⟩ : MethodName) (head1 (Jvm.Cond.code (⟨"java/lang/StringUTF16", "compress", "([CII)[B"⟩ : MethodName) jdk_52_method_16_code 6 (some (.array .byte)) :: ws) ({ frames := 3, cells := 2, slots := 9, locals := 40 } : Room)) (fun a_ U_ => a_ = #[(.ref bb), (.int (0 : Int32)), (.int (3 : Int32))] ∧ Z.Warmed39 U_.vm ∧ U_.heap = h0) (fun _ _ _ _ _ => True) (fun _ U_ o_ V_ => ∃ v_ L_, o_ = .returned v_ ∧ (Q_rm_c3_3 Z bb kb ch0 ch1 ch2 h0 n0) v_ V_.heap L_ ∧ FrameEnd U_ o_ V_ L_ ({ frames := 3, cells := 2, slots := 9, locals := 40 } : Room).cells ({ frames := 3, cells := 2, slots := 9, locals := 40 } : Room).slots) := by
  refine MetFree.of_bodySF (plainFor_of_name pn_0) hisR ?_
  intro p e s m args below meth c s₁ Bd hml0 hP hK
  obtain ⟨rfl, hZ, hh⟩ := hP
  have hx := Bd.exec
  have hby := Bd.bytes
  have hml : c.maxLocals = 6 := hml0
  have hown : s.vm.findClass "java/lang/StringUTF16" = some m.cls := findClass_of_methodNamed Bd.named
  have hnm := (name_of_methodNamed Bd.named Bd.method).1
  have X0 : Stand p l e ({ frames := 3, cells := 2, slots := 9, locals := 40 } : Room) s m #[(.ref bb), (.int (0 : Int32)), (.int (3 : Int32))] below meth c s₁ [] 0 0 := Stand.of_body Bd
  have e0 : s₁.heap = h0 := by rw [← hh, Bd.state]; rfl
  have N0 := Fr.nil n0
  have K0 : Keep h0 h0 [] := Keep.refl _ _
  show own_Fin p.tables e below (own_Post (Q_rm_c3_3 Z bb kb ch0 ch1 ch2 h0 n0) ({ frames := 3, cells := 2, slots := 9, locals := 40 } : Room).cells ({ frames := 3, cells := 2, slots := 9, locals := 40 } : Room).slots below s) _
  refine own_go (fun _ q => castTop (ef_rm_c3_3 m bb ch0 ch1 ch2) q) ?_
  refine own_go (fun _ q => XS.iloadN X0.here hx rfl (hb hby d5_0) rfl q) ?_
  show own_Fin _ _ _ _ (s₁.setTop (mkF m 1 #[.val (.ref bb), .val (.int (0 : Int32)), .val (.int (3 : Int32)), .unset, .unset, .unset] [(.int (3 : Int32))]))
  obtain ⟨T107, h107, k107, X107, e107, E107, A107, st107⟩ := newP X0 hx hZ (own_w hw 25 rfl) e0 (g := (mkF m 1 #[.val (.ref bb), .val (.int (0 : Int32)), .val (.int (3 : Int32)), .unset, .unset, .unset] [(.int (3 : Int32))])) rfl (hb hby d5_1) rfl (by decide) (cap := 3) (by decide) (by decide) (by decide) (by decide)
  obtain ⟨b107, g107⟩ : ∃ z, z = h0.size := ⟨_, rfl⟩
  rw [← g107] at A107 st107
  have sz_b107 : h0.size ≤ b107 := Nat.le_trans K0.1 (Nat.le_of_eq g107.symm)
  have g_b107 : n0 ≤ b107 := Nat.le_trans Z0 sz_b107
  have ne108 : bb ≠ b107 := Nat.ne_of_lt (Nat.lt_of_lt_of_le V_bb.lt (Nat.le_of_eq g107.symm))
  replace V_bb := V_bb.ext E107
  replace O0 := O0.ext E107
  have K109 := K0.ext E107
  have V107 : Arv Z h107 b107 k107 .byte (3 : Int32) [(.int (0 : Int32)), (.int (0 : Int32)), (.int (0 : Int32))] (.int (0 : Int32)) := (Arv.new A107 (by decide)).pad (pad_rep [] (.int (0 : Int32)) 3)
  refine own_go st107 ?_
  refine own_go (fun _ q => XS.astoreN X107.here hx rfl (hb hby d5_3) rfl rfl (l' := #[.val (.ref bb), .val (.int (0 : Int32)), .val (.int (3 : Int32)), .val (.ref b107), .unset, .unset]) rfl q) ?_
  refine own_go (fun _ q => XS.aloadN X107.here hx rfl (hb hby d5_4) rfl rfl q) ?_
  refine own_go (fun _ q => XS.iloadN X107.here hx rfl (hb hby d5_5) rfl q) ?_
  refine own_go (fun _ q => XS.aloadN X107.here hx rfl (hb hby d5_6) rfl rfl q) ?_
  refine own_go (fun _ q => XS.iconst X107.here hx rfl (hb hby d5_7) q) ?_
  refine own_go (fun _ q => XS.iloadN X107.here hx rfl (hb hby d5_8) rfl q) ?_
  show own_Fin _ _ _ _ (T107.setTop (mkF m 9 #[.val (.ref bb), .val (.int (0 : Int32)), .val (.int (3 : Int32)), .val (.ref b107), .unset, .unset] [(.int (3 : Int32)), (.int (0 : Int32)), (.ref b107), (.int (0 : Int32)), (.ref bb)]))
  obtain ⟨_, _, ⟨T110, L110, k110, n110⟩, -, X110, ⟨Lc110, hQ110, l110, y110, z110⟩, st110⟩ := Jvm.LawKit.callS X107 hx (y := (⟨"java/lang/StringUTF16", "compress", "([CI[BII)I"⟩ : MethodName)) hown (mvT hZ (own_w hw 26 rfl)) (mvT hZ (own_w hw 27 rfl)) (mvT hZ (own_w hw 23 rfl)) (mvT hZ (own_w hw 28 rfl)) (by decide) (backOf (W := 0) (rm_c5_3 l Z a0 hw [] bb kb b107 k107 ch0 ch1 ch2 h107 n0 (Nat.le_trans Z0 K109.1) V_bb V107 g_b107 ne108) hZ (own_w hw 28 rfl) (own_w hw 23 rfl) (by decide) (by decide)) (g := (mkF m 9 #[.val (.ref bb), .val (.int (0 : Int32)), .val (.int (3 : Int32)), .val (.ref b107), .unset, .unset] [(.int (3 : Int32)), (.int (0 : Int32)), (.ref b107), (.int (0 : Int32)), (.ref bb)])) rfl (by rw [hml]; rfl) (argsL := [(.ref bb), (.int (0 : Int32)), (.ref b107), (.int (0 : Int32)), (.int (3 : Int32))]) (rest := []) (lenOf pd_4 rfl) rfl (by show 2 * 0 + _ ≤ _; exact Nat.le_of_eq rfl) (hb hby d5_9) (fun _ _ => ⟨rfl, e107, (by decide : 1 + 0 ≤ _), (by decide : 3 + 0 ≤ _)⟩)
  dsimp only [Pt.U, Pt.locs, Pt.cells, Pt.slots] at X110 l110 y110 z110 st110 hQ110
  subst l110 y110 z110
  obtain ⟨N110q, KK110, hD110⟩ := hQ110
  have N110 := Fr.app N0 N110q
  replace V_bb := V_bb.keep KK110 (ninS ne108 nin0)
  replace O0 := O0.keep KK110 (allS g_b107 (all0))
  have K111 := K109.trans KK110 (allS (Or.inr sz_b107) all0)
  rcases hD110 with ⟨rfl, hbig110⟩ | ⟨rfl, hbig110⟩ | ⟨rfl, hbig110⟩ | ⟨rfl, hall110, VV110⟩
  · skip
    refine own_go st110 ?_
    refine own_go (fun _ q => XS.istore X110.here hx rfl (hb hby d5_12) rfl (l' := #[.val (.ref bb), .val (.int (0 : Int32)), .val (.int (3 : Int32)), .val (.ref b107), .val (.int (0 : Int32)), .unset]) rfl q) ?_
    refine own_go (fun _ q => XS.iload X110.here hx rfl (hb hby d5_14) rfl q) ?_
    refine own_go (fun _ q => XS.iloadN X110.here hx rfl (hb hby d5_16) rfl q) ?_
    show own_Fin _ _ _ _ (T110.setTop (mkF m 17 #[.val (.ref bb), .val (.int (0 : Int32)), .val (.int (3 : Int32)), .val (.ref b107), .val (.int (0 : Int32)), .unset] [(.int (3 : Int32)), (.int (0 : Int32))]))
    refine own_go (fun _ q => XS.icmpNo X110.here hx rfl (hb hby d5_17) rfl (feq (by decide : ¬ (0 : Int32) = (3 : Int32))).1 q) ?_
    refine own_go (fun _ q => XS.aloadN X110.here hx rfl (hb hby d5_20) rfl rfl q) ?_
    refine own_go (fun _ q => XS.iloadN X110.here hx rfl (hb hby d5_21) rfl q) ?_
    refine own_go (fun _ q => XS.iloadN X110.here hx rfl (hb hby d5_22) rfl q) ?_
    show own_Fin _ _ _ _ (T110.setTop (mkF m 23 #[.val (.ref bb), .val (.int (0 : Int32)), .val (.int (3 : Int32)), .val (.ref b107), .val (.int (0 : Int32)), .unset] [(.int (3 : Int32)), (.int (0 : Int32)), (.ref bb)]))
    obtain ⟨_, _, ⟨T112, L112, k112, n112⟩, -, X112, ⟨Lc112, hQ112, l112, y112, z112⟩, st112⟩ := Jvm.LawKit.callS X110 hx (y := (⟨"java/lang/StringUTF16", "toBytes", "([CII)[B"⟩ : MethodName)) hown (mvT hZ (own_w hw 62 rfl)) (mvT hZ (own_w hw 63 rfl)) (mvT hZ (own_w hw 23 rfl)) (mvT hZ (own_w hw 64 rfl)) (by decide) (backOf (W := 0) (rm_tob3 l Z a0 hw [] bb kb ch0 ch1 ch2 T110.heap n0 (Nat.le_trans Z0 K111.1) V_bb O0 S_A S_H S_L) hZ (own_w hw 64 rfl) (own_w hw 23 rfl) (by decide) (by decide)) (g := (mkF m 23 #[.val (.ref bb), .val (.int (0 : Int32)), .val (.int (3 : Int32)), .val (.ref b107), .val (.int (0 : Int32)), .unset] [(.int (3 : Int32)), (.int (0 : Int32)), (.ref bb)])) rfl (by rw [hml]; rfl) (argsL := [(.ref bb), (.int (0 : Int32)), (.int (3 : Int32))]) (rest := []) (lenOf pd_5 rfl) rfl (by show 2 * 0 + _ ≤ _; exact Nat.le_of_eq rfl) (hb hby d5_23) (fun _ _ => ⟨rfl, rfl, (by decide : 1 + 1 ≤ _), (by decide : 3 + 6 ≤ _)⟩)
    dsimp only [Pt.U, Pt.locs, Pt.cells, Pt.slots] at X112 l112 y112 z112 st112 hQ112
    subst l112 y112 z112
    obtain ⟨r112, kk112, rfl, N112q, KK112, sz112, V112⟩ := hQ112
    have N112 := Fr.app N110 N112q
    have sz_r112 : h0.size ≤ r112 := Nat.le_trans K111.1 sz112
    have g_r112 : n0 ≤ r112 := Nat.le_trans Z0 sz_r112
    have ne113 : bb ≠ r112 := Nat.ne_of_lt (Nat.lt_of_lt_of_le V_bb.lt sz112)
    replace V_bb := V_bb.keep KK112 nin0
    replace O0 := O0.keep KK112 all0
    have K114 := K111.trans KK112 all0
    refine own_go st112 ?_
    refine own_go (fun _ q => XS.astore X112.here hx rfl (hb hby d5_26) rfl rfl (l' := #[.val (.ref bb), .val (.int (0 : Int32)), .val (.int (3 : Int32)), .val (.ref b107), .val (.int (0 : Int32)), .val (.ref r112)]) rfl q) ?_
    refine own_go (fun _ q => XS.aload X112.here hx rfl (hb hby d5_28) rfl rfl q) ?_
    refine own_go (fun _ q => XS.iload X112.here hx rfl (hb hby d5_30) rfl q) ?_
    show own_Fin _ _ _ _ (T112.setTop (mkF m 32 #[.val (.ref bb), .val (.int (0 : Int32)), .val (.int (3 : Int32)), .val (.ref b107), .val (.int (0 : Int32)), .val (.ref r112)] [(.int (0 : Int32)), (.ref r112)]))
    obtain ⟨_, _, ⟨T115, L115, k115, n115⟩, -, X115, ⟨Lc115, hQ115, l115, y115, z115⟩, st115⟩ := Jvm.LawKit.callS X112 hx (y := (⟨"java/lang/StringUTF16", "getChar", "([BI)C"⟩ : MethodName)) hown (mvT hZ (own_w hw 78 rfl)) (mvT hZ (own_w hw 79 rfl)) (mvT hZ (own_w hw 23 rfl)) (mvT hZ (own_w hw 80 rfl)) (by decide) (backOf (W := 0) (rm_gc l Z a0 hw [] r112 kk112 (0 : Int32) ch0 (6 : Int32) [(.int (ch0.toInt8.toInt32)), (.int ((ch0 >>> ((8 : Int32) &&& 31)).toInt8.toInt32)), (.int (ch1.toInt8.toInt32)), (.int ((ch1 >>> ((8 : Int32) &&& 31)).toInt8.toInt32)), (.int (ch2.toInt8.toInt32)), (.int ((ch2 >>> ((8 : Int32) &&& 31)).toInt8.toInt32))] T112.heap n0 (Nat.le_trans Z0 K114.1) V112 (by decide) (by decide) rfl rfl (hbd _ (own_m 0 rfl)) O0 S_A S_H S_L) hZ (own_w hw 80 rfl) (own_w hw 23 rfl) (by decide) (by decide)) (g := (mkF m 32 #[.val (.ref bb), .val (.int (0 : Int32)), .val (.int (3 : Int32)), .val (.ref b107), .val (.int (0 : Int32)), .val (.ref r112)] [(.int (0 : Int32)), (.ref r112)])) rfl (by rw [hml]; rfl) (argsL := [(.ref r112), (.int (0 : Int32))]) (rest := []) (lenOf pd_6 rfl) rfl (by show 2 * 0 + _ ≤ _; exact Nat.le_of_eq rfl) (hb hby d5_32) (fun _ _ => ⟨rfl, rfl, (by decide : 2 + 0 ≤ _), (by decide : 9 + 0 ≤ _)⟩)
    dsimp only [Pt.U, Pt.locs, Pt.cells, Pt.slots] at X115 l115 y115 z115 st115 hQ115
    subst l115 y115 z115
    obtain ⟨rfl, N115q, e115⟩ := hQ115
    have N115 := Fr.app N112 N115q
    refine own_go st115 ?_
    refine own_go (fun _ q => XS.sipush X115.here hx rfl (hb hby d5_35) q) ?_
    show own_Fin _ _ _ _ (T115.setTop (mkF m 38 #[.val (.ref bb), .val (.int (0 : Int32)), .val (.int (3 : Int32)), .val (.ref b107), .val (.int (0 : Int32)), .val (.ref r112)] [(.int (255 : Int32)), (.int ch0)]))
    refine own_go (fun _ q => XS.icmpYes X115.here hx rfl (pc0 := 38) (pc' := 54) rfl (hb hby d5_38) rfl (tlt hbig110).2.2.1 (by decide) (by decide) q) ?_
    refine own_go (fun _ q => XS.aload X115.here hx rfl (hb hby d5_54) rfl rfl q) ?_
    show own_Fin _ _ _ _ (T115.setTop (mkF m 56 #[.val (.ref bb), .val (.int (0 : Int32)), .val (.int (3 : Int32)), .val (.ref b107), .val (.int (0 : Int32)), .val (.ref r112)] [(.ref r112)]))
    refine own_retA X115 hx Bd (t := (.array .byte)) Bd.returns rfl rfl rfl (hb hby d5_56) ?_ (by decide) (by decide)
    show (Q_rm_c3_3 Z bb kb ch0 ch1 ch2 h0 n0) (some (.ref r112)) T115.heap _
    rw [e115]
    exact ⟨_, _, rfl, N115, K114, sz_r112, Or.inr ⟨⟨_, own_m 0 rfl, hbig110⟩, V112⟩⟩
  · skip
    refine own_go st110 ?_
    refine own_go (fun _ q => XS.istore X110.here hx rfl (hb hby d5_12) rfl (l' := #[.val (.ref bb), .val (.int (0 : Int32)), .val (.int (3 : Int32)), .val (.ref b107), .val (.int (1 : Int32)), .unset]) rfl q) ?_
    refine own_go (fun _ q => XS.iload X110.here hx rfl (hb hby d5_14) rfl q) ?_
    refine own_go (fun _ q => XS.iloadN X110.here hx rfl (hb hby d5_16) rfl q) ?_
    show own_Fin _ _ _ _ (T110.setTop (mkF m 17 #[.val (.ref bb), .val (.int (0 : Int32)), .val (.int (3 : Int32)), .val (.ref b107), .val (.int (1 : Int32)), .unset] [(.int (3 : Int32)), (.int (1 : Int32))]))
    refine own_go (fun _ q => XS.icmpNo X110.here hx rfl (hb hby d5_17) rfl (feq (by decide : ¬ (1 : Int32) = (3 : Int32))).1 q) ?_
    refine own_go (fun _ q => XS.aloadN X110.here hx rfl (hb hby d5_20) rfl rfl q) ?_
    refine own_go (fun _ q => XS.iloadN X110.here hx rfl (hb hby d5_21) rfl q) ?_
    refine own_go (fun _ q => XS.iloadN X110.here hx rfl (hb hby d5_22) rfl q) ?_
    show own_Fin _ _ _ _ (T110.setTop (mkF m 23 #[.val (.ref bb), .val (.int (0 : Int32)), .val (.int (3 : Int32)), .val (.ref b107), .val (.int (1 : Int32)), .unset] [(.int (3 : Int32)), (.int (0 : Int32)), (.ref bb)]))
    obtain ⟨_, _, ⟨T116, L116, k116, n116⟩, -, X116, ⟨Lc116, hQ116, l116, y116, z116⟩, st116⟩ := Jvm.LawKit.callS X110 hx (y := (⟨"java/lang/StringUTF16", "toBytes", "([CII)[B"⟩ : MethodName)) hown (mvT hZ (own_w hw 62 rfl)) (mvT hZ (own_w hw 63 rfl)) (mvT hZ (own_w hw 23 rfl)) (mvT hZ (own_w hw 64 rfl)) (by decide) (backOf (W := 0) (rm_tob3 l Z a0 hw [] bb kb ch0 ch1 ch2 T110.heap n0 (Nat.le_trans Z0 K111.1) V_bb O0 S_A S_H S_L) hZ (own_w hw 64 rfl) (own_w hw 23 rfl) (by decide) (by decide)) (g := (mkF m 23 #[.val (.ref bb), .val (.int (0 : Int32)), .val (.int (3 : Int32)), .val (.ref b107), .val (.int (1 : Int32)), .unset] [(.int (3 : Int32)), (.int (0 : Int32)), (.ref bb)])) rfl (by rw [hml]; rfl) (argsL := [(.ref bb), (.int (0 : Int32)), (.int (3 : Int32))]) (rest := []) (lenOf pd_5 rfl) rfl (by show 2 * 0 + _ ≤ _; exact Nat.le_of_eq rfl) (hb hby d5_23) (fun _ _ => ⟨rfl, rfl, (by decide : 1 + 1 ≤ _), (by decide : 3 + 6 ≤ _)⟩)
    dsimp only [Pt.U, Pt.locs, Pt.cells, Pt.slots] at X116 l116 y116 z116 st116 hQ116
    subst l116 y116 z116
    obtain ⟨r116, kk116, rfl, N116q, KK116, sz116, V116⟩ := hQ116
    have N116 := Fr.app N110 N116q
    have sz_r116 : h0.size ≤ r116 := Nat.le_trans K111.1 sz116
    have g_r116 : n0 ≤ r116 := Nat.le_trans Z0 sz_r116
    have ne117 : bb ≠ r116 := Nat.ne_of_lt (Nat.lt_of_lt_of_le V_bb.lt sz116)
    replace V_bb := V_bb.keep KK116 nin0
    replace O0 := O0.keep KK116 all0
    have K118 := K111.trans KK116 all0
    refine own_go st116 ?_
    refine own_go (fun _ q => XS.astore X116.here hx rfl (hb hby d5_26) rfl rfl (l' := #[.val (.ref bb), .val (.int (0 : Int32)), .val (.int (3 : Int32)), .val (.ref b107), .val (.int (1 : Int32)), .val (.ref r116)]) rfl q) ?_
    refine own_go (fun _ q => XS.aload X116.here hx rfl (hb hby d5_28) rfl rfl q) ?_
    refine own_go (fun _ q => XS.iload X116.here hx rfl (hb hby d5_30) rfl q) ?_
    show own_Fin _ _ _ _ (T116.setTop (mkF m 32 #[.val (.ref bb), .val (.int (0 : Int32)), .val (.int (3 : Int32)), .val (.ref b107), .val (.int (1 : Int32)), .val (.ref r116)] [(.int (1 : Int32)), (.ref r116)]))
    obtain ⟨_, _, ⟨T119, L119, k119, n119⟩, -, X119, ⟨Lc119, hQ119, l119, y119, z119⟩, st119⟩ := Jvm.LawKit.callS X116 hx (y := (⟨"java/lang/StringUTF16", "getChar", "([BI)C"⟩ : MethodName)) hown (mvT hZ (own_w hw 78 rfl)) (mvT hZ (own_w hw 79 rfl)) (mvT hZ (own_w hw 23 rfl)) (mvT hZ (own_w hw 80 rfl)) (by decide) (backOf (W := 0) (rm_gc l Z a0 hw [] r116 kk116 (1 : Int32) ch1 (6 : Int32) [(.int (ch0.toInt8.toInt32)), (.int ((ch0 >>> ((8 : Int32) &&& 31)).toInt8.toInt32)), (.int (ch1.toInt8.toInt32)), (.int ((ch1 >>> ((8 : Int32) &&& 31)).toInt8.toInt32)), (.int (ch2.toInt8.toInt32)), (.int ((ch2 >>> ((8 : Int32) &&& 31)).toInt8.toInt32))] T116.heap n0 (Nat.le_trans Z0 K118.1) V116 (by decide) (by decide) rfl rfl (hbd _ (own_m 1 rfl)) O0 S_A S_H S_L) hZ (own_w hw 80 rfl) (own_w hw 23 rfl) (by decide) (by decide)) (g := (mkF m 32 #[.val (.ref bb), .val (.int (0 : Int32)), .val (.int (3 : Int32)), .val (.ref b107), .val (.int (1 : Int32)), .val (.ref r116)] [(.int (1 : Int32)), (.ref r116)])) rfl (by rw [hml]; rfl) (argsL := [(.ref r116), (.int (1 : Int32))]) (rest := []) (lenOf pd_6 rfl) rfl (by show 2 * 0 + _ ≤ _; exact Nat.le_of_eq rfl) (hb hby d5_32) (fun _ _ => ⟨rfl, rfl, (by decide : 2 + 0 ≤ _), (by decide : 9 + 0 ≤ _)⟩)
    dsimp only [Pt.U, Pt.locs, Pt.cells, Pt.slots] at X119 l119 y119 z119 st119 hQ119
    subst l119 y119 z119
    obtain ⟨rfl, N119q, e119⟩ := hQ119
    have N119 := Fr.app N116 N119q
    refine own_go st119 ?_
    refine own_go (fun _ q => XS.sipush X119.here hx rfl (hb hby d5_35) q) ?_
    show own_Fin _ _ _ _ (T119.setTop (mkF m 38 #[.val (.ref bb), .val (.int (0 : Int32)), .val (.int (3 : Int32)), .val (.ref b107), .val (.int (1 : Int32)), .val (.ref r116)] [(.int (255 : Int32)), (.int ch1)]))
    refine own_go (fun _ q => XS.icmpYes X119.here hx rfl (pc0 := 38) (pc' := 54) rfl (hb hby d5_38) rfl (tlt hbig110).2.2.1 (by decide) (by decide) q) ?_
    refine own_go (fun _ q => XS.aload X119.here hx rfl (hb hby d5_54) rfl rfl q) ?_
    show own_Fin _ _ _ _ (T119.setTop (mkF m 56 #[.val (.ref bb), .val (.int (0 : Int32)), .val (.int (3 : Int32)), .val (.ref b107), .val (.int (1 : Int32)), .val (.ref r116)] [(.ref r116)]))
    refine own_retA X119 hx Bd (t := (.array .byte)) Bd.returns rfl rfl rfl (hb hby d5_56) ?_ (by decide) (by decide)
    show (Q_rm_c3_3 Z bb kb ch0 ch1 ch2 h0 n0) (some (.ref r116)) T119.heap _
    rw [e119]
    exact ⟨_, _, rfl, N119, K118, sz_r116, Or.inr ⟨⟨_, own_m 1 rfl, hbig110⟩, V116⟩⟩
  · skip
    refine own_go st110 ?_
    refine own_go (fun _ q => XS.istore X110.here hx rfl (hb hby d5_12) rfl (l' := #[.val (.ref bb), .val (.int (0 : Int32)), .val (.int (3 : Int32)), .val (.ref b107), .val (.int (2 : Int32)), .unset]) rfl q) ?_
    refine own_go (fun _ q => XS.iload X110.here hx rfl (hb hby d5_14) rfl q) ?_
    refine own_go (fun _ q => XS.iloadN X110.here hx rfl (hb hby d5_16) rfl q) ?_
    show own_Fin _ _ _ _ (T110.setTop (mkF m 17 #[.val (.ref bb), .val (.int (0 : Int32)), .val (.int (3 : Int32)), .val (.ref b107), .val (.int (2 : Int32)), .unset] [(.int (3 : Int32)), (.int (2 : Int32))]))
    refine own_go (fun _ q => XS.icmpNo X110.here hx rfl (hb hby d5_17) rfl (feq (by decide : ¬ (2 : Int32) = (3 : Int32))).1 q) ?_
    refine own_go (fun _ q => XS.aloadN X110.here hx rfl (hb hby d5_20) rfl rfl q) ?_
    refine own_go (fun _ q => XS.iloadN X110.here hx rfl (hb hby d5_21) rfl q) ?_
    refine own_go (fun _ q => XS.iloadN X110.here hx rfl (hb hby d5_22) rfl q) ?_
    show own_Fin _ _ _ _ (T110.setTop (mkF m 23 #[.val (.ref bb), .val (.int (0 : Int32)), .val (.int (3 : Int32)), .val (.ref b107), .val (.int (2 : Int32)), .unset] [(.int (3 : Int32)), (.int (0 : Int32)), (.ref bb)]))
    obtain ⟨_, _, ⟨T120, L120, k120, n120⟩, -, X120, ⟨Lc120, hQ120, l120, y120, z120⟩, st120⟩ := Jvm.LawKit.callS X110 hx (y := (⟨"java/lang/StringUTF16", "toBytes", "([CII)[B"⟩ : MethodName)) hown (mvT hZ (own_w hw 62 rfl)) (mvT hZ (own_w hw 63 rfl)) (mvT hZ (own_w hw 23 rfl)) (mvT hZ (own_w hw 64 rfl)) (by decide) (backOf (W := 0) (rm_tob3 l Z a0 hw [] bb kb ch0 ch1 ch2 T110.heap n0 (Nat.le_trans Z0 K111.1) V_bb O0 S_A S_H S_L) hZ (own_w hw 64 rfl) (own_w hw 23 rfl) (by decide) (by decide)) (g := (mkF m 23 #[.val (.ref bb), .val (.int (0 : Int32)), .val (.int (3 : Int32)), .val (.ref b107), .val (.int (2 : Int32)), .unset] [(.int (3 : Int32)), (.int (0 : Int32)), (.ref bb)])) rfl (by rw [hml]; rfl) (argsL := [(.ref bb), (.int (0 : Int32)), (.int (3 : Int32))]) (rest := []) (lenOf pd_5 rfl) rfl (by show 2 * 0 + _ ≤ _; exact Nat.le_of_eq rfl) (hb hby d5_23) (fun _ _ => ⟨rfl, rfl, (by decide : 1 + 1 ≤ _), (by decide : 3 + 6 ≤ _)⟩)
    dsimp only [Pt.U, Pt.locs, Pt.cells, Pt.slots] at X120 l120 y120 z120 st120 hQ120
    subst l120 y120 z120
    obtain ⟨r120, kk120, rfl, N120q, KK120, sz120, V120⟩ := hQ120
    have N120 := Fr.app N110 N120q
    have sz_r120 : h0.size ≤ r120 := Nat.le_trans K111.1 sz120
    have g_r120 : n0 ≤ r120 := Nat.le_trans Z0 sz_r120
    have ne121 : bb ≠ r120 := Nat.ne_of_lt (Nat.lt_of_lt_of_le V_bb.lt sz120)
    replace V_bb := V_bb.keep KK120 nin0
    replace O0 := O0.keep KK120 all0
    have K122 := K111.trans KK120 all0
    refine own_go st120 ?_
    refine own_go (fun _ q => XS.astore X120.here hx rfl (hb hby d5_26) rfl rfl (l' := #[.val (.ref bb), .val (.int (0 : Int32)), .val (.int (3 : Int32)), .val (.ref b107), .val (.int (2 : Int32)), .val (.ref r120)]) rfl q) ?_
    refine own_go (fun _ q => XS.aload X120.here hx rfl (hb hby d5_28) rfl rfl q) ?_
    refine own_go (fun _ q => XS.iload X120.here hx rfl (hb hby d5_30) rfl q) ?_
    show own_Fin _ _ _ _ (T120.setTop (mkF m 32 #[.val (.ref bb), .val (.int (0 : Int32)), .val (.int (3 : Int32)), .val (.ref b107), .val (.int (2 : Int32)), .val (.ref r120)] [(.int (2 : Int32)), (.ref r120)]))
    obtain ⟨_, _, ⟨T123, L123, k123, n123⟩, -, X123, ⟨Lc123, hQ123, l123, y123, z123⟩, st123⟩ := Jvm.LawKit.callS X120 hx (y := (⟨"java/lang/StringUTF16", "getChar", "([BI)C"⟩ : MethodName)) hown (mvT hZ (own_w hw 78 rfl)) (mvT hZ (own_w hw 79 rfl)) (mvT hZ (own_w hw 23 rfl)) (mvT hZ (own_w hw 80 rfl)) (by decide) (backOf (W := 0) (rm_gc l Z a0 hw [] r120 kk120 (2 : Int32) ch2 (6 : Int32) [(.int (ch0.toInt8.toInt32)), (.int ((ch0 >>> ((8 : Int32) &&& 31)).toInt8.toInt32)), (.int (ch1.toInt8.toInt32)), (.int ((ch1 >>> ((8 : Int32) &&& 31)).toInt8.toInt32)), (.int (ch2.toInt8.toInt32)), (.int ((ch2 >>> ((8 : Int32) &&& 31)).toInt8.toInt32))] T120.heap n0 (Nat.le_trans Z0 K122.1) V120 (by decide) (by decide) rfl rfl (hbd _ (own_m 2 rfl)) O0 S_A S_H S_L) hZ (own_w hw 80 rfl) (own_w hw 23 rfl) (by decide) (by decide)) (g := (mkF m 32 #[.val (.ref bb), .val (.int (0 : Int32)), .val (.int (3 : Int32)), .val (.ref b107), .val (.int (2 : Int32)), .val (.ref r120)] [(.int (2 : Int32)), (.ref r120)])) rfl (by rw [hml]; rfl) (argsL := [(.ref r120), (.int (2 : Int32))]) (rest := []) (lenOf pd_6 rfl) rfl (by show 2 * 0 + _ ≤ _; exact Nat.le_of_eq rfl) (hb hby d5_32) (fun _ _ => ⟨rfl, rfl, (by decide : 2 + 0 ≤ _), (by decide : 9 + 0 ≤ _)⟩)
    dsimp only [Pt.U, Pt.locs, Pt.cells, Pt.slots] at X123 l123 y123 z123 st123 hQ123
    subst l123 y123 z123
    obtain ⟨rfl, N123q, e123⟩ := hQ123
    have N123 := Fr.app N120 N123q
    refine own_go st123 ?_
    refine own_go (fun _ q => XS.sipush X123.here hx rfl (hb hby d5_35) q) ?_
    show own_Fin _ _ _ _ (T123.setTop (mkF m 38 #[.val (.ref bb), .val (.int (0 : Int32)), .val (.int (3 : Int32)), .val (.ref b107), .val (.int (2 : Int32)), .val (.ref r120)] [(.int (255 : Int32)), (.int ch2)]))
    refine own_go (fun _ q => XS.icmpYes X123.here hx rfl (pc0 := 38) (pc' := 54) rfl (hb hby d5_38) rfl (tlt hbig110).2.2.1 (by decide) (by decide) q) ?_
    refine own_go (fun _ q => XS.aload X123.here hx rfl (hb hby d5_54) rfl rfl q) ?_
    show own_Fin _ _ _ _ (T123.setTop (mkF m 56 #[.val (.ref bb), .val (.int (0 : Int32)), .val (.int (3 : Int32)), .val (.ref b107), .val (.int (2 : Int32)), .val (.ref r120)] [(.ref r120)]))
    refine own_retA X123 hx Bd (t := (.array .byte)) Bd.returns rfl rfl rfl (hb hby d5_56) ?_ (by decide) (by decide)
    show (Q_rm_c3_3 Z bb kb ch0 ch1 ch2 h0 n0) (some (.ref r120)) T123.heap _
    rw [e123]
    exact ⟨_, _, rfl, N123, K122, sz_r120, Or.inr ⟨⟨_, own_m 2 rfl, hbig110⟩, V120⟩⟩
  · skip
    refine own_go st110 ?_
    refine own_go (fun _ q => XS.istore X110.here hx rfl (hb hby d5_12) rfl (l' := #[.val (.ref bb), .val (.int (0 : Int32)), .val (.int (3 : Int32)), .val (.ref b107), .val (.int (3 : Int32)), .unset]) rfl q) ?_
    refine own_go (fun _ q => XS.iload X110.here hx rfl (hb hby d5_14) rfl q) ?_
    refine own_go (fun _ q => XS.iloadN X110.here hx rfl (hb hby d5_16) rfl q) ?_
    show own_Fin _ _ _ _ (T110.setTop (mkF m 17 #[.val (.ref bb), .val (.int (0 : Int32)), .val (.int (3 : Int32)), .val (.ref b107), .val (.int (3 : Int32)), .unset] [(.int (3 : Int32)), (.int (3 : Int32))]))
    refine own_go (fun _ q => XS.icmpYes X110.here hx rfl (pc0 := 17) (pc' := 57) rfl (hb hby d5_17) rfl (teq (by decide : (3 : Int32) = (3 : Int32))).1 (by decide) (by decide) q) ?_
    refine own_go (fun _ q => XS.aloadN X110.here hx rfl (hb hby d5_57) rfl rfl q) ?_
    show own_Fin _ _ _ _ (T110.setTop (mkF m 58 #[.val (.ref bb), .val (.int (0 : Int32)), .val (.int (3 : Int32)), .val (.ref b107), .val (.int (3 : Int32)), .unset] [(.ref b107)]))
    refine own_retA X110 hx Bd (t := (.array .byte)) Bd.returns rfl rfl rfl (hb hby d5_58) ?_ (by decide) (by decide)
    show (Q_rm_c3_3 Z bb kb ch0 ch1 ch2 h0 n0) (some (.ref b107)) T110.heap _
    exact ⟨_, _, rfl, N110, K111, sz_b107, Or.inl ⟨hall110, VV110⟩⟩
def Q_rm_c3_4 (Z : State) (bb : Addr) (kb : ClassId) (ch0 : Int32) (ch1 : Int32) (ch2 : Int32) (ch3 : Int32) (h0 : Heap) (n0 : Nat) (v : Option Value) (h : Heap) (L : List Loc) : Prop := ∃ (r : Addr) (k : ClassId), v = some (.ref r) ∧ Fr n0 L ∧ Keep h0 h [] ∧ h0.size ≤ r ∧ (((∀ c ∈ ([ch0, ch1, ch2, ch3] : List Int32), ¬ (255 : Int32) < c) ∧ Arv Z h r k .byte (4 : Int32) [(.int (ch0.toInt8.toInt32)), (.int (ch1.toInt8.toInt32)), (.int (ch2.toInt8.toInt32)), (.int (ch3.toInt8.toInt32))] (.int (0 : Int32))) ∨ ((∃ c ∈ ([ch0, ch1, ch2, ch3] : List Int32), (255 : Int32) < c) ∧ Arv Z h r k .byte (8 : Int32) [(.int (ch0.toInt8.toInt32)), (.int ((ch0 >>> ((8 : Int32) &&& 31)).toInt8.toInt32)), (.int (ch1.toInt8.toInt32)), (.int ((ch1 >>> ((8 : Int32) &&& 31)).toInt8.toInt32)), (.int (ch2.toInt8.toInt32)), (.int ((ch2 >>> ((8 : Int32) &&& 31)).toInt8.toInt32)), (.int (ch3.toInt8.toInt32)), (.int ((ch3 >>> ((8 : Int32) &&& 31)).toInt8.toInt32))] (.int (0 : Int32))))
theorem ef_rm_c3_4 (m : MethodId) (bb : Addr) (ch0 : Int32) (ch1 : Int32) (ch2 : Int32) (ch3 : Int32) : entryFrame m #[(.ref bb), (.int (0 : Int32)), (.int (4 : Int32))] 6 = mkF m 0 #[.val (.ref bb), .val (.int (0 : Int32)), .val (.int (4 : Int32)), .unset, .unset, .unset] [] := by first | (simp [entryFrame, mkF, argsToLocals, Value.category]; done) | rfl
set_option maxRecDepth 65536 in
set_option maxHeartbeats 40000000 in
theorem rm_c3_4 (l : Launch) (Z : State) (a0 : Array Value) (hw : ∀ d ∈ tables_1, d.before a0 Z = true) (ws : List Jvm.Cond) (bb : Addr) (kb : ClassId) (ch0 : Int32) (ch1 : Int32) (ch2 : Int32) (ch3 : Int32) (h0 : Heap) (n0 : Nat) (Z0 : n0 ≤ h0.size) (V_bb : Arv Z h0 bb kb .char (4 : Int32) [(.int ch0), (.int ch1), (.int ch2), (.int ch3)] (.int (0 : Int32))) (hbd : ∀ c ∈ ([ch0, ch1, ch2, ch3] : List Int32), ¬ c < 0 ∧ ¬ (65535 : Int32) < c) (O0 : Old Z n0 h0) (S_A : Sta Z Z.heap "java/lang/StringUTF16" "$assertionsDisabled" "Z" (.int (1 : Int32))) (S_H : Sta Z Z.heap "java/lang/StringUTF16" "HI_BYTE_SHIFT" "I" (.int (0 : Int32))) (S_L : Sta Z Z.heap "java/lang/StringUTF16" "LO_BYTE_SHIFT" "I" (.int (8 : Int32))) :
    MetFree l (⟨"java/lang/StringUTF16", "compress", "([CII)[B"⟩ : MethodName) (head1 (Jvm.Cond.code (⟨"java/lang/StringUTF16", "compress", "([CII)[B"⟩ : MethodName) jdk_52_method_16_code 6 (some (.array .byte)) :: ws) ({ frames := 3, cells := 2, slots := 12, locals := 40 } : Room)) (fun a_ U_ => a_ = #[(.ref bb), (.int (0 : Int32)), (.int (4 : Int32))] ∧ Z.Warmed39 U_.vm ∧ U_.heap = h0) (fun _ _ _ _ _ => True) (fun _ U_ o_ V_ => ∃ v_ L_, o_ = .returned v_ ∧ (Q_rm_c3_4 Z bb kb ch0 ch1 ch2 ch3 h0 n0) v_ V_.heap L_ ∧ FrameEnd U_ o_ V_ L_ ({ frames := 3, cells := 2, slots := 12, locals := 40 } : Room).cells ({ frames := 3, cells := 2, slots := 12, locals := 40 } : Room).slots) := by
  refine MetFree.of_bodySF (plainFor_of_name pn_0) hisR ?_
  intro p e s m args below meth c s₁ Bd hml0 hP hK
  obtain ⟨rfl, hZ, hh⟩ := hP
  have hx := Bd.exec
  have hby := Bd.bytes
  have hml : c.maxLocals = 6 := hml0
  have hown : s.vm.findClass "java/lang/StringUTF16" = some m.cls := findClass_of_methodNamed Bd.named
  have hnm := (name_of_methodNamed Bd.named Bd.method).1
  have X0 : Stand p l e ({ frames := 3, cells := 2, slots := 12, locals := 40 } : Room) s m #[(.ref bb), (.int (0 : Int32)), (.int (4 : Int32))] below meth c s₁ [] 0 0 := Stand.of_body Bd
  have e0 : s₁.heap = h0 := by rw [← hh, Bd.state]; rfl
  have N0 := Fr.nil n0
  have K0 : Keep h0 h0 [] := Keep.refl _ _
  show own_Fin p.tables e below (own_Post (Q_rm_c3_4 Z bb kb ch0 ch1 ch2 ch3 h0 n0) ({ frames := 3, cells := 2, slots := 12, locals := 40 } : Room).cells ({ frames := 3, cells := 2, slots := 12, locals := 40 } : Room).slots below s) _
  refine own_go (fun _ q => castTop (ef_rm_c3_4 m bb ch0 ch1 ch2 ch3) q) ?_
  refine own_go (fun _ q => XS.iloadN X0.here hx rfl (hb hby d5_0) rfl q) ?_
  show own_Fin _ _ _ _ (s₁.setTop (mkF m 1 #[.val (.ref bb), .val (.int (0 : Int32)), .val (.int (4 : Int32)), .unset, .unset, .unset] [(.int (4 : Int32))]))
  obtain ⟨T124, h124, k124, X124, e124, E124, A124, st124⟩ := newP X0 hx hZ (own_w hw 25 rfl) e0 (g := (mkF m 1 #[.val (.ref bb), .val (.int (0 : Int32)), .val (.int (4 : Int32)), .unset, .unset, .unset] [(.int (4 : Int32))])) rfl (hb hby d5_1) rfl (by decide) (cap := 4) (by decide) (by decide) (by decide) (by decide)
  obtain ⟨b124, g124⟩ : ∃ z, z = h0.size := ⟨_, rfl⟩
  rw [← g124] at A124 st124
  have sz_b124 : h0.size ≤ b124 := Nat.le_trans K0.1 (Nat.le_of_eq g124.symm)
  have g_b124 : n0 ≤ b124 := Nat.le_trans Z0 sz_b124
  have ne125 : bb ≠ b124 := Nat.ne_of_lt (Nat.lt_of_lt_of_le V_bb.lt (Nat.le_of_eq g124.symm))
  replace V_bb := V_bb.ext E124
  replace O0 := O0.ext E124
  have K126 := K0.ext E124
  have V124 : Arv Z h124 b124 k124 .byte (4 : Int32) [(.int (0 : Int32)), (.int (0 : Int32)), (.int (0 : Int32)), (.int (0 : Int32))] (.int (0 : Int32)) := (Arv.new A124 (by decide)).pad (pad_rep [] (.int (0 : Int32)) 4)
  refine own_go st124 ?_
  refine own_go (fun _ q => XS.astoreN X124.here hx rfl (hb hby d5_3) rfl rfl (l' := #[.val (.ref bb), .val (.int (0 : Int32)), .val (.int (4 : Int32)), .val (.ref b124), .unset, .unset]) rfl q) ?_
  refine own_go (fun _ q => XS.aloadN X124.here hx rfl (hb hby d5_4) rfl rfl q) ?_
  refine own_go (fun _ q => XS.iloadN X124.here hx rfl (hb hby d5_5) rfl q) ?_
  refine own_go (fun _ q => XS.aloadN X124.here hx rfl (hb hby d5_6) rfl rfl q) ?_
  refine own_go (fun _ q => XS.iconst X124.here hx rfl (hb hby d5_7) q) ?_
  refine own_go (fun _ q => XS.iloadN X124.here hx rfl (hb hby d5_8) rfl q) ?_
  show own_Fin _ _ _ _ (T124.setTop (mkF m 9 #[.val (.ref bb), .val (.int (0 : Int32)), .val (.int (4 : Int32)), .val (.ref b124), .unset, .unset] [(.int (4 : Int32)), (.int (0 : Int32)), (.ref b124), (.int (0 : Int32)), (.ref bb)]))
  obtain ⟨_, _, ⟨T127, L127, k127, n127⟩, -, X127, ⟨Lc127, hQ127, l127, y127, z127⟩, st127⟩ := Jvm.LawKit.callS X124 hx (y := (⟨"java/lang/StringUTF16", "compress", "([CI[BII)I"⟩ : MethodName)) hown (mvT hZ (own_w hw 26 rfl)) (mvT hZ (own_w hw 27 rfl)) (mvT hZ (own_w hw 23 rfl)) (mvT hZ (own_w hw 28 rfl)) (by decide) (backOf (W := 0) (rm_c5_4 l Z a0 hw [] bb kb b124 k124 ch0 ch1 ch2 ch3 h124 n0 (Nat.le_trans Z0 K126.1) V_bb V124 g_b124 ne125) hZ (own_w hw 28 rfl) (own_w hw 23 rfl) (by decide) (by decide)) (g := (mkF m 9 #[.val (.ref bb), .val (.int (0 : Int32)), .val (.int (4 : Int32)), .val (.ref b124), .unset, .unset] [(.int (4 : Int32)), (.int (0 : Int32)), (.ref b124), (.int (0 : Int32)), (.ref bb)])) rfl (by rw [hml]; rfl) (argsL := [(.ref bb), (.int (0 : Int32)), (.ref b124), (.int (0 : Int32)), (.int (4 : Int32))]) (rest := []) (lenOf pd_4 rfl) rfl (by show 2 * 0 + _ ≤ _; exact Nat.le_of_eq rfl) (hb hby d5_9) (fun _ _ => ⟨rfl, e124, (by decide : 1 + 0 ≤ _), (by decide : 4 + 0 ≤ _)⟩)
  dsimp only [Pt.U, Pt.locs, Pt.cells, Pt.slots] at X127 l127 y127 z127 st127 hQ127
  subst l127 y127 z127
  obtain ⟨N127q, KK127, hD127⟩ := hQ127
  have N127 := Fr.app N0 N127q
  replace V_bb := V_bb.keep KK127 (ninS ne125 nin0)
  replace O0 := O0.keep KK127 (allS g_b124 (all0))
  have K128 := K126.trans KK127 (allS (Or.inr sz_b124) all0)
  rcases hD127 with ⟨rfl, hbig127⟩ | ⟨rfl, hbig127⟩ | ⟨rfl, hbig127⟩ | ⟨rfl, hbig127⟩ | ⟨rfl, hall127, VV127⟩
  · skip
    refine own_go st127 ?_
    refine own_go (fun _ q => XS.istore X127.here hx rfl (hb hby d5_12) rfl (l' := #[.val (.ref bb), .val (.int (0 : Int32)), .val (.int (4 : Int32)), .val (.ref b124), .val (.int (0 : Int32)), .unset]) rfl q) ?_
    refine own_go (fun _ q => XS.iload X127.here hx rfl (hb hby d5_14) rfl q) ?_
    refine own_go (fun _ q => XS.iloadN X127.here hx rfl (hb hby d5_16) rfl q) ?_
    show own_Fin _ _ _ _ (T127.setTop (mkF m 17 #[.val (.ref bb), .val (.int (0 : Int32)), .val (.int (4 : Int32)), .val (.ref b124), .val (.int (0 : Int32)), .unset] [(.int (4 : Int32)), (.int (0 : Int32))]))
    refine own_go (fun _ q => XS.icmpNo X127.here hx rfl (hb hby d5_17) rfl (feq (by decide : ¬ (0 : Int32) = (4 : Int32))).1 q) ?_
    refine own_go (fun _ q => XS.aloadN X127.here hx rfl (hb hby d5_20) rfl rfl q) ?_
    refine own_go (fun _ q => XS.iloadN X127.here hx rfl (hb hby d5_21) rfl q) ?_
    refine own_go (fun _ q => XS.iloadN X127.here hx rfl (hb hby d5_22) rfl q) ?_
    show own_Fin _ _ _ _ (T127.setTop (mkF m 23 #[.val (.ref bb), .val (.int (0 : Int32)), .val (.int (4 : Int32)), .val (.ref b124), .val (.int (0 : Int32)), .unset] [(.int (4 : Int32)), (.int (0 : Int32)), (.ref bb)]))
    obtain ⟨_, _, ⟨T129, L129, k129, n129⟩, -, X129, ⟨Lc129, hQ129, l129, y129, z129⟩, st129⟩ := Jvm.LawKit.callS X127 hx (y := (⟨"java/lang/StringUTF16", "toBytes", "([CII)[B"⟩ : MethodName)) hown (mvT hZ (own_w hw 62 rfl)) (mvT hZ (own_w hw 63 rfl)) (mvT hZ (own_w hw 23 rfl)) (mvT hZ (own_w hw 64 rfl)) (by decide) (backOf (W := 0) (rm_tob4 l Z a0 hw [] bb kb ch0 ch1 ch2 ch3 T127.heap n0 (Nat.le_trans Z0 K128.1) V_bb O0 S_A S_H S_L) hZ (own_w hw 64 rfl) (own_w hw 23 rfl) (by decide) (by decide)) (g := (mkF m 23 #[.val (.ref bb), .val (.int (0 : Int32)), .val (.int (4 : Int32)), .val (.ref b124), .val (.int (0 : Int32)), .unset] [(.int (4 : Int32)), (.int (0 : Int32)), (.ref bb)])) rfl (by rw [hml]; rfl) (argsL := [(.ref bb), (.int (0 : Int32)), (.int (4 : Int32))]) (rest := []) (lenOf pd_5 rfl) rfl (by show 2 * 0 + _ ≤ _; exact Nat.le_of_eq rfl) (hb hby d5_23) (fun _ _ => ⟨rfl, rfl, (by decide : 1 + 1 ≤ _), (by decide : 4 + 8 ≤ _)⟩)
    dsimp only [Pt.U, Pt.locs, Pt.cells, Pt.slots] at X129 l129 y129 z129 st129 hQ129
    subst l129 y129 z129
    obtain ⟨r129, kk129, rfl, N129q, KK129, sz129, V129⟩ := hQ129
    have N129 := Fr.app N127 N129q
    have sz_r129 : h0.size ≤ r129 := Nat.le_trans K128.1 sz129
    have g_r129 : n0 ≤ r129 := Nat.le_trans Z0 sz_r129
    have ne130 : bb ≠ r129 := Nat.ne_of_lt (Nat.lt_of_lt_of_le V_bb.lt sz129)
    replace V_bb := V_bb.keep KK129 nin0
    replace O0 := O0.keep KK129 all0
    have K131 := K128.trans KK129 all0
    refine own_go st129 ?_
    refine own_go (fun _ q => XS.astore X129.here hx rfl (hb hby d5_26) rfl rfl (l' := #[.val (.ref bb), .val (.int (0 : Int32)), .val (.int (4 : Int32)), .val (.ref b124), .val (.int (0 : Int32)), .val (.ref r129)]) rfl q) ?_
    refine own_go (fun _ q => XS.aload X129.here hx rfl (hb hby d5_28) rfl rfl q) ?_
    refine own_go (fun _ q => XS.iload X129.here hx rfl (hb hby d5_30) rfl q) ?_
    show own_Fin _ _ _ _ (T129.setTop (mkF m 32 #[.val (.ref bb), .val (.int (0 : Int32)), .val (.int (4 : Int32)), .val (.ref b124), .val (.int (0 : Int32)), .val (.ref r129)] [(.int (0 : Int32)), (.ref r129)]))
    obtain ⟨_, _, ⟨T132, L132, k132, n132⟩, -, X132, ⟨Lc132, hQ132, l132, y132, z132⟩, st132⟩ := Jvm.LawKit.callS X129 hx (y := (⟨"java/lang/StringUTF16", "getChar", "([BI)C"⟩ : MethodName)) hown (mvT hZ (own_w hw 78 rfl)) (mvT hZ (own_w hw 79 rfl)) (mvT hZ (own_w hw 23 rfl)) (mvT hZ (own_w hw 80 rfl)) (by decide) (backOf (W := 0) (rm_gc l Z a0 hw [] r129 kk129 (0 : Int32) ch0 (8 : Int32) [(.int (ch0.toInt8.toInt32)), (.int ((ch0 >>> ((8 : Int32) &&& 31)).toInt8.toInt32)), (.int (ch1.toInt8.toInt32)), (.int ((ch1 >>> ((8 : Int32) &&& 31)).toInt8.toInt32)), (.int (ch2.toInt8.toInt32)), (.int ((ch2 >>> ((8 : Int32) &&& 31)).toInt8.toInt32)), (.int (ch3.toInt8.toInt32)), (.int ((ch3 >>> ((8 : Int32) &&& 31)).toInt8.toInt32))] T129.heap n0 (Nat.le_trans Z0 K131.1) V129 (by decide) (by decide) rfl rfl (hbd _ (own_m 0 rfl)) O0 S_A S_H S_L) hZ (own_w hw 80 rfl) (own_w hw 23 rfl) (by decide) (by decide)) (g := (mkF m 32 #[.val (.ref bb), .val (.int (0 : Int32)), .val (.int (4 : Int32)), .val (.ref b124), .val (.int (0 : Int32)), .val (.ref r129)] [(.int (0 : Int32)), (.ref r129)])) rfl (by rw [hml]; rfl) (argsL := [(.ref r129), (.int (0 : Int32))]) (rest := []) (lenOf pd_6 rfl) rfl (by show 2 * 0 + _ ≤ _; exact Nat.le_of_eq rfl) (hb hby d5_32) (fun _ _ => ⟨rfl, rfl, (by decide : 2 + 0 ≤ _), (by decide : 12 + 0 ≤ _)⟩)
    dsimp only [Pt.U, Pt.locs, Pt.cells, Pt.slots] at X132 l132 y132 z132 st132 hQ132
    subst l132 y132 z132
    obtain ⟨rfl, N132q, e132⟩ := hQ132
    have N132 := Fr.app N129 N132q
    refine own_go st132 ?_
    refine own_go (fun _ q => XS.sipush X132.here hx rfl (hb hby d5_35) q) ?_
    show own_Fin _ _ _ _ (T132.setTop (mkF m 38 #[.val (.ref bb), .val (.int (0 : Int32)), .val (.int (4 : Int32)), .val (.ref b124), .val (.int (0 : Int32)), .val (.ref r129)] [(.int (255 : Int32)), (.int ch0)]))
    refine own_go (fun _ q => XS.icmpYes X132.here hx rfl (pc0 := 38) (pc' := 54) rfl (hb hby d5_38) rfl (tlt hbig127).2.2.1 (by decide) (by decide) q) ?_
    refine own_go (fun _ q => XS.aload X132.here hx rfl (hb hby d5_54) rfl rfl q) ?_
    show own_Fin _ _ _ _ (T132.setTop (mkF m 56 #[.val (.ref bb), .val (.int (0 : Int32)), .val (.int (4 : Int32)), .val (.ref b124), .val (.int (0 : Int32)), .val (.ref r129)] [(.ref r129)]))
    refine own_retA X132 hx Bd (t := (.array .byte)) Bd.returns rfl rfl rfl (hb hby d5_56) ?_ (by decide) (by decide)
    show (Q_rm_c3_4 Z bb kb ch0 ch1 ch2 ch3 h0 n0) (some (.ref r129)) T132.heap _
    rw [e132]
    exact ⟨_, _, rfl, N132, K131, sz_r129, Or.inr ⟨⟨_, own_m 0 rfl, hbig127⟩, V129⟩⟩
  · skip
    refine own_go st127 ?_
    refine own_go (fun _ q => XS.istore X127.here hx rfl (hb hby d5_12) rfl (l' := #[.val (.ref bb), .val (.int (0 : Int32)), .val (.int (4 : Int32)), .val (.ref b124), .val (.int (1 : Int32)), .unset]) rfl q) ?_
    refine own_go (fun _ q => XS.iload X127.here hx rfl (hb hby d5_14) rfl q) ?_
    refine own_go (fun _ q => XS.iloadN X127.here hx rfl (hb hby d5_16) rfl q) ?_
    show own_Fin _ _ _ _ (T127.setTop (mkF m 17 #[.val (.ref bb), .val (.int (0 : Int32)), .val (.int (4 : Int32)), .val (.ref b124), .val (.int (1 : Int32)), .unset] [(.int (4 : Int32)), (.int (1 : Int32))]))
    refine own_go (fun _ q => XS.icmpNo X127.here hx rfl (hb hby d5_17) rfl (feq (by decide : ¬ (1 : Int32) = (4 : Int32))).1 q) ?_
    refine own_go (fun _ q => XS.aloadN X127.here hx rfl (hb hby d5_20) rfl rfl q) ?_
    refine own_go (fun _ q => XS.iloadN X127.here hx rfl (hb hby d5_21) rfl q) ?_
    refine own_go (fun _ q => XS.iloadN X127.here hx rfl (hb hby d5_22) rfl q) ?_
    show own_Fin _ _ _ _ (T127.setTop (mkF m 23 #[.val (.ref bb), .val (.int (0 : Int32)), .val (.int (4 : Int32)), .val (.ref b124), .val (.int (1 : Int32)), .unset] [(.int (4 : Int32)), (.int (0 : Int32)), (.ref bb)]))
    obtain ⟨_, _, ⟨T133, L133, k133, n133⟩, -, X133, ⟨Lc133, hQ133, l133, y133, z133⟩, st133⟩ := Jvm.LawKit.callS X127 hx (y := (⟨"java/lang/StringUTF16", "toBytes", "([CII)[B"⟩ : MethodName)) hown (mvT hZ (own_w hw 62 rfl)) (mvT hZ (own_w hw 63 rfl)) (mvT hZ (own_w hw 23 rfl)) (mvT hZ (own_w hw 64 rfl)) (by decide) (backOf (W := 0) (rm_tob4 l Z a0 hw [] bb kb ch0 ch1 ch2 ch3 T127.heap n0 (Nat.le_trans Z0 K128.1) V_bb O0 S_A S_H S_L) hZ (own_w hw 64 rfl) (own_w hw 23 rfl) (by decide) (by decide)) (g := (mkF m 23 #[.val (.ref bb), .val (.int (0 : Int32)), .val (.int (4 : Int32)), .val (.ref b124), .val (.int (1 : Int32)), .unset] [(.int (4 : Int32)), (.int (0 : Int32)), (.ref bb)])) rfl (by rw [hml]; rfl) (argsL := [(.ref bb), (.int (0 : Int32)), (.int (4 : Int32))]) (rest := []) (lenOf pd_5 rfl) rfl (by show 2 * 0 + _ ≤ _; exact Nat.le_of_eq rfl) (hb hby d5_23) (fun _ _ => ⟨rfl, rfl, (by decide : 1 + 1 ≤ _), (by decide : 4 + 8 ≤ _)⟩)
    dsimp only [Pt.U, Pt.locs, Pt.cells, Pt.slots] at X133 l133 y133 z133 st133 hQ133
    subst l133 y133 z133
    obtain ⟨r133, kk133, rfl, N133q, KK133, sz133, V133⟩ := hQ133
    have N133 := Fr.app N127 N133q
    have sz_r133 : h0.size ≤ r133 := Nat.le_trans K128.1 sz133
    have g_r133 : n0 ≤ r133 := Nat.le_trans Z0 sz_r133
    have ne134 : bb ≠ r133 := Nat.ne_of_lt (Nat.lt_of_lt_of_le V_bb.lt sz133)
    replace V_bb := V_bb.keep KK133 nin0
    replace O0 := O0.keep KK133 all0
    have K135 := K128.trans KK133 all0
    refine own_go st133 ?_
    refine own_go (fun _ q => XS.astore X133.here hx rfl (hb hby d5_26) rfl rfl (l' := #[.val (.ref bb), .val (.int (0 : Int32)), .val (.int (4 : Int32)), .val (.ref b124), .val (.int (1 : Int32)), .val (.ref r133)]) rfl q) ?_
    refine own_go (fun _ q => XS.aload X133.here hx rfl (hb hby d5_28) rfl rfl q) ?_
    refine own_go (fun _ q => XS.iload X133.here hx rfl (hb hby d5_30) rfl q) ?_
    show own_Fin _ _ _ _ (T133.setTop (mkF m 32 #[.val (.ref bb), .val (.int (0 : Int32)), .val (.int (4 : Int32)), .val (.ref b124), .val (.int (1 : Int32)), .val (.ref r133)] [(.int (1 : Int32)), (.ref r133)]))
    obtain ⟨_, _, ⟨T136, L136, k136, n136⟩, -, X136, ⟨Lc136, hQ136, l136, y136, z136⟩, st136⟩ := Jvm.LawKit.callS X133 hx (y := (⟨"java/lang/StringUTF16", "getChar", "([BI)C"⟩ : MethodName)) hown (mvT hZ (own_w hw 78 rfl)) (mvT hZ (own_w hw 79 rfl)) (mvT hZ (own_w hw 23 rfl)) (mvT hZ (own_w hw 80 rfl)) (by decide) (backOf (W := 0) (rm_gc l Z a0 hw [] r133 kk133 (1 : Int32) ch1 (8 : Int32) [(.int (ch0.toInt8.toInt32)), (.int ((ch0 >>> ((8 : Int32) &&& 31)).toInt8.toInt32)), (.int (ch1.toInt8.toInt32)), (.int ((ch1 >>> ((8 : Int32) &&& 31)).toInt8.toInt32)), (.int (ch2.toInt8.toInt32)), (.int ((ch2 >>> ((8 : Int32) &&& 31)).toInt8.toInt32)), (.int (ch3.toInt8.toInt32)), (.int ((ch3 >>> ((8 : Int32) &&& 31)).toInt8.toInt32))] T133.heap n0 (Nat.le_trans Z0 K135.1) V133 (by decide) (by decide) rfl rfl (hbd _ (own_m 1 rfl)) O0 S_A S_H S_L) hZ (own_w hw 80 rfl) (own_w hw 23 rfl) (by decide) (by decide)) (g := (mkF m 32 #[.val (.ref bb), .val (.int (0 : Int32)), .val (.int (4 : Int32)), .val (.ref b124), .val (.int (1 : Int32)), .val (.ref r133)] [(.int (1 : Int32)), (.ref r133)])) rfl (by rw [hml]; rfl) (argsL := [(.ref r133), (.int (1 : Int32))]) (rest := []) (lenOf pd_6 rfl) rfl (by show 2 * 0 + _ ≤ _; exact Nat.le_of_eq rfl) (hb hby d5_32) (fun _ _ => ⟨rfl, rfl, (by decide : 2 + 0 ≤ _), (by decide : 12 + 0 ≤ _)⟩)
    dsimp only [Pt.U, Pt.locs, Pt.cells, Pt.slots] at X136 l136 y136 z136 st136 hQ136
    subst l136 y136 z136
    obtain ⟨rfl, N136q, e136⟩ := hQ136
    have N136 := Fr.app N133 N136q
    refine own_go st136 ?_
    refine own_go (fun _ q => XS.sipush X136.here hx rfl (hb hby d5_35) q) ?_
    show own_Fin _ _ _ _ (T136.setTop (mkF m 38 #[.val (.ref bb), .val (.int (0 : Int32)), .val (.int (4 : Int32)), .val (.ref b124), .val (.int (1 : Int32)), .val (.ref r133)] [(.int (255 : Int32)), (.int ch1)]))
    refine own_go (fun _ q => XS.icmpYes X136.here hx rfl (pc0 := 38) (pc' := 54) rfl (hb hby d5_38) rfl (tlt hbig127).2.2.1 (by decide) (by decide) q) ?_
    refine own_go (fun _ q => XS.aload X136.here hx rfl (hb hby d5_54) rfl rfl q) ?_
    show own_Fin _ _ _ _ (T136.setTop (mkF m 56 #[.val (.ref bb), .val (.int (0 : Int32)), .val (.int (4 : Int32)), .val (.ref b124), .val (.int (1 : Int32)), .val (.ref r133)] [(.ref r133)]))
    refine own_retA X136 hx Bd (t := (.array .byte)) Bd.returns rfl rfl rfl (hb hby d5_56) ?_ (by decide) (by decide)
    show (Q_rm_c3_4 Z bb kb ch0 ch1 ch2 ch3 h0 n0) (some (.ref r133)) T136.heap _
    rw [e136]
    exact ⟨_, _, rfl, N136, K135, sz_r133, Or.inr ⟨⟨_, own_m 1 rfl, hbig127⟩, V133⟩⟩
  · skip
    refine own_go st127 ?_
    refine own_go (fun _ q => XS.istore X127.here hx rfl (hb hby d5_12) rfl (l' := #[.val (.ref bb), .val (.int (0 : Int32)), .val (.int (4 : Int32)), .val (.ref b124), .val (.int (2 : Int32)), .unset]) rfl q) ?_
    refine own_go (fun _ q => XS.iload X127.here hx rfl (hb hby d5_14) rfl q) ?_
    refine own_go (fun _ q => XS.iloadN X127.here hx rfl (hb hby d5_16) rfl q) ?_
    show own_Fin _ _ _ _ (T127.setTop (mkF m 17 #[.val (.ref bb), .val (.int (0 : Int32)), .val (.int (4 : Int32)), .val (.ref b124), .val (.int (2 : Int32)), .unset] [(.int (4 : Int32)), (.int (2 : Int32))]))
    refine own_go (fun _ q => XS.icmpNo X127.here hx rfl (hb hby d5_17) rfl (feq (by decide : ¬ (2 : Int32) = (4 : Int32))).1 q) ?_
    refine own_go (fun _ q => XS.aloadN X127.here hx rfl (hb hby d5_20) rfl rfl q) ?_
    refine own_go (fun _ q => XS.iloadN X127.here hx rfl (hb hby d5_21) rfl q) ?_
    refine own_go (fun _ q => XS.iloadN X127.here hx rfl (hb hby d5_22) rfl q) ?_
    show own_Fin _ _ _ _ (T127.setTop (mkF m 23 #[.val (.ref bb), .val (.int (0 : Int32)), .val (.int (4 : Int32)), .val (.ref b124), .val (.int (2 : Int32)), .unset] [(.int (4 : Int32)), (.int (0 : Int32)), (.ref bb)]))
    obtain ⟨_, _, ⟨T137, L137, k137, n137⟩, -, X137, ⟨Lc137, hQ137, l137, y137, z137⟩, st137⟩ := Jvm.LawKit.callS X127 hx (y := (⟨"java/lang/StringUTF16", "toBytes", "([CII)[B"⟩ : MethodName)) hown (mvT hZ (own_w hw 62 rfl)) (mvT hZ (own_w hw 63 rfl)) (mvT hZ (own_w hw 23 rfl)) (mvT hZ (own_w hw 64 rfl)) (by decide) (backOf (W := 0) (rm_tob4 l Z a0 hw [] bb kb ch0 ch1 ch2 ch3 T127.heap n0 (Nat.le_trans Z0 K128.1) V_bb O0 S_A S_H S_L) hZ (own_w hw 64 rfl) (own_w hw 23 rfl) (by decide) (by decide)) (g := (mkF m 23 #[.val (.ref bb), .val (.int (0 : Int32)), .val (.int (4 : Int32)), .val (.ref b124), .val (.int (2 : Int32)), .unset] [(.int (4 : Int32)), (.int (0 : Int32)), (.ref bb)])) rfl (by rw [hml]; rfl) (argsL := [(.ref bb), (.int (0 : Int32)), (.int (4 : Int32))]) (rest := []) (lenOf pd_5 rfl) rfl (by show 2 * 0 + _ ≤ _; exact Nat.le_of_eq rfl) (hb hby d5_23) (fun _ _ => ⟨rfl, rfl, (by decide : 1 + 1 ≤ _), (by decide : 4 + 8 ≤ _)⟩)
    dsimp only [Pt.U, Pt.locs, Pt.cells, Pt.slots] at X137 l137 y137 z137 st137 hQ137
    subst l137 y137 z137
    obtain ⟨r137, kk137, rfl, N137q, KK137, sz137, V137⟩ := hQ137
    have N137 := Fr.app N127 N137q
    have sz_r137 : h0.size ≤ r137 := Nat.le_trans K128.1 sz137
    have g_r137 : n0 ≤ r137 := Nat.le_trans Z0 sz_r137
    have ne138 : bb ≠ r137 := Nat.ne_of_lt (Nat.lt_of_lt_of_le V_bb.lt sz137)
    replace V_bb := V_bb.keep KK137 nin0
    replace O0 := O0.keep KK137 all0
    have K139 := K128.trans KK137 all0
    refine own_go st137 ?_
    refine own_go (fun _ q => XS.astore X137.here hx rfl (hb hby d5_26) rfl rfl (l' := #[.val (.ref bb), .val (.int (0 : Int32)), .val (.int (4 : Int32)), .val (.ref b124), .val (.int (2 : Int32)), .val (.ref r137)]) rfl q) ?_
    refine own_go (fun _ q => XS.aload X137.here hx rfl (hb hby d5_28) rfl rfl q) ?_
    refine own_go (fun _ q => XS.iload X137.here hx rfl (hb hby d5_30) rfl q) ?_
    show own_Fin _ _ _ _ (T137.setTop (mkF m 32 #[.val (.ref bb), .val (.int (0 : Int32)), .val (.int (4 : Int32)), .val (.ref b124), .val (.int (2 : Int32)), .val (.ref r137)] [(.int (2 : Int32)), (.ref r137)]))
    obtain ⟨_, _, ⟨T140, L140, k140, n140⟩, -, X140, ⟨Lc140, hQ140, l140, y140, z140⟩, st140⟩ := Jvm.LawKit.callS X137 hx (y := (⟨"java/lang/StringUTF16", "getChar", "([BI)C"⟩ : MethodName)) hown (mvT hZ (own_w hw 78 rfl)) (mvT hZ (own_w hw 79 rfl)) (mvT hZ (own_w hw 23 rfl)) (mvT hZ (own_w hw 80 rfl)) (by decide) (backOf (W := 0) (rm_gc l Z a0 hw [] r137 kk137 (2 : Int32) ch2 (8 : Int32) [(.int (ch0.toInt8.toInt32)), (.int ((ch0 >>> ((8 : Int32) &&& 31)).toInt8.toInt32)), (.int (ch1.toInt8.toInt32)), (.int ((ch1 >>> ((8 : Int32) &&& 31)).toInt8.toInt32)), (.int (ch2.toInt8.toInt32)), (.int ((ch2 >>> ((8 : Int32) &&& 31)).toInt8.toInt32)), (.int (ch3.toInt8.toInt32)), (.int ((ch3 >>> ((8 : Int32) &&& 31)).toInt8.toInt32))] T137.heap n0 (Nat.le_trans Z0 K139.1) V137 (by decide) (by decide) rfl rfl (hbd _ (own_m 2 rfl)) O0 S_A S_H S_L) hZ (own_w hw 80 rfl) (own_w hw 23 rfl) (by decide) (by decide)) (g := (mkF m 32 #[.val (.ref bb), .val (.int (0 : Int32)), .val (.int (4 : Int32)), .val (.ref b124), .val (.int (2 : Int32)), .val (.ref r137)] [(.int (2 : Int32)), (.ref r137)])) rfl (by rw [hml]; rfl) (argsL := [(.ref r137), (.int (2 : Int32))]) (rest := []) (lenOf pd_6 rfl) rfl (by show 2 * 0 + _ ≤ _; exact Nat.le_of_eq rfl) (hb hby d5_32) (fun _ _ => ⟨rfl, rfl, (by decide : 2 + 0 ≤ _), (by decide : 12 + 0 ≤ _)⟩)
    dsimp only [Pt.U, Pt.locs, Pt.cells, Pt.slots] at X140 l140 y140 z140 st140 hQ140
    subst l140 y140 z140
    obtain ⟨rfl, N140q, e140⟩ := hQ140
    have N140 := Fr.app N137 N140q
    refine own_go st140 ?_
    refine own_go (fun _ q => XS.sipush X140.here hx rfl (hb hby d5_35) q) ?_
    show own_Fin _ _ _ _ (T140.setTop (mkF m 38 #[.val (.ref bb), .val (.int (0 : Int32)), .val (.int (4 : Int32)), .val (.ref b124), .val (.int (2 : Int32)), .val (.ref r137)] [(.int (255 : Int32)), (.int ch2)]))
    refine own_go (fun _ q => XS.icmpYes X140.here hx rfl (pc0 := 38) (pc' := 54) rfl (hb hby d5_38) rfl (tlt hbig127).2.2.1 (by decide) (by decide) q) ?_
    refine own_go (fun _ q => XS.aload X140.here hx rfl (hb hby d5_54) rfl rfl q) ?_
    show own_Fin _ _ _ _ (T140.setTop (mkF m 56 #[.val (.ref bb), .val (.int (0 : Int32)), .val (.int (4 : Int32)), .val (.ref b124), .val (.int (2 : Int32)), .val (.ref r137)] [(.ref r137)]))
    refine own_retA X140 hx Bd (t := (.array .byte)) Bd.returns rfl rfl rfl (hb hby d5_56) ?_ (by decide) (by decide)
    show (Q_rm_c3_4 Z bb kb ch0 ch1 ch2 ch3 h0 n0) (some (.ref r137)) T140.heap _
    rw [e140]
    exact ⟨_, _, rfl, N140, K139, sz_r137, Or.inr ⟨⟨_, own_m 2 rfl, hbig127⟩, V137⟩⟩
  · skip
    refine own_go st127 ?_
    refine own_go (fun _ q => XS.istore X127.here hx rfl (hb hby d5_12) rfl (l' := #[.val (.ref bb), .val (.int (0 : Int32)), .val (.int (4 : Int32)), .val (.ref b124), .val (.int (3 : Int32)), .unset]) rfl q) ?_
    refine own_go (fun _ q => XS.iload X127.here hx rfl (hb hby d5_14) rfl q) ?_
    refine own_go (fun _ q => XS.iloadN X127.here hx rfl (hb hby d5_16) rfl q) ?_
    show own_Fin _ _ _ _ (T127.setTop (mkF m 17 #[.val (.ref bb), .val (.int (0 : Int32)), .val (.int (4 : Int32)), .val (.ref b124), .val (.int (3 : Int32)), .unset] [(.int (4 : Int32)), (.int (3 : Int32))]))
    refine own_go (fun _ q => XS.icmpNo X127.here hx rfl (hb hby d5_17) rfl (feq (by decide : ¬ (3 : Int32) = (4 : Int32))).1 q) ?_
    refine own_go (fun _ q => XS.aloadN X127.here hx rfl (hb hby d5_20) rfl rfl q) ?_
    refine own_go (fun _ q => XS.iloadN X127.here hx rfl (hb hby d5_21) rfl q) ?_
    refine own_go (fun _ q => XS.iloadN X127.here hx rfl (hb hby d5_22) rfl q) ?_
    show own_Fin _ _ _ _ (T127.setTop (mkF m 23 #[.val (.ref bb), .val (.int (0 : Int32)), .val (.int (4 : Int32)), .val (.ref b124), .val (.int (3 : Int32)), .unset] [(.int (4 : Int32)), (.int (0 : Int32)), (.ref bb)]))
    obtain ⟨_, _, ⟨T141, L141, k141, n141⟩, -, X141, ⟨Lc141, hQ141, l141, y141, z141⟩, st141⟩ := Jvm.LawKit.callS X127 hx (y := (⟨"java/lang/StringUTF16", "toBytes", "([CII)[B"⟩ : MethodName)) hown (mvT hZ (own_w hw 62 rfl)) (mvT hZ (own_w hw 63 rfl)) (mvT hZ (own_w hw 23 rfl)) (mvT hZ (own_w hw 64 rfl)) (by decide) (backOf (W := 0) (rm_tob4 l Z a0 hw [] bb kb ch0 ch1 ch2 ch3 T127.heap n0 (Nat.le_trans Z0 K128.1) V_bb O0 S_A S_H S_L) hZ (own_w hw 64 rfl) (own_w hw 23 rfl) (by decide) (by decide)) (g := (mkF m 23 #[.val (.ref bb), .val (.int (0 : Int32)), .val (.int (4 : Int32)), .val (.ref b124), .val (.int (3 : Int32)), .unset] [(.int (4 : Int32)), (.int (0 : Int32)), (.ref bb)])) rfl (by rw [hml]; rfl) (argsL := [(.ref bb), (.int (0 : Int32)), (.int (4 : Int32))]) (rest := []) (lenOf pd_5 rfl) rfl (by show 2 * 0 + _ ≤ _; exact Nat.le_of_eq rfl) (hb hby d5_23) (fun _ _ => ⟨rfl, rfl, (by decide : 1 + 1 ≤ _), (by decide : 4 + 8 ≤ _)⟩)
    dsimp only [Pt.U, Pt.locs, Pt.cells, Pt.slots] at X141 l141 y141 z141 st141 hQ141
    subst l141 y141 z141
    obtain ⟨r141, kk141, rfl, N141q, KK141, sz141, V141⟩ := hQ141
    have N141 := Fr.app N127 N141q
    have sz_r141 : h0.size ≤ r141 := Nat.le_trans K128.1 sz141
    have g_r141 : n0 ≤ r141 := Nat.le_trans Z0 sz_r141
    have ne142 : bb ≠ r141 := Nat.ne_of_lt (Nat.lt_of_lt_of_le V_bb.lt sz141)
    replace V_bb := V_bb.keep KK141 nin0
    replace O0 := O0.keep KK141 all0
    have K143 := K128.trans KK141 all0
    refine own_go st141 ?_
    refine own_go (fun _ q => XS.astore X141.here hx rfl (hb hby d5_26) rfl rfl (l' := #[.val (.ref bb), .val (.int (0 : Int32)), .val (.int (4 : Int32)), .val (.ref b124), .val (.int (3 : Int32)), .val (.ref r141)]) rfl q) ?_
    refine own_go (fun _ q => XS.aload X141.here hx rfl (hb hby d5_28) rfl rfl q) ?_
    refine own_go (fun _ q => XS.iload X141.here hx rfl (hb hby d5_30) rfl q) ?_
    show own_Fin _ _ _ _ (T141.setTop (mkF m 32 #[.val (.ref bb), .val (.int (0 : Int32)), .val (.int (4 : Int32)), .val (.ref b124), .val (.int (3 : Int32)), .val (.ref r141)] [(.int (3 : Int32)), (.ref r141)]))
    obtain ⟨_, _, ⟨T144, L144, k144, n144⟩, -, X144, ⟨Lc144, hQ144, l144, y144, z144⟩, st144⟩ := Jvm.LawKit.callS X141 hx (y := (⟨"java/lang/StringUTF16", "getChar", "([BI)C"⟩ : MethodName)) hown (mvT hZ (own_w hw 78 rfl)) (mvT hZ (own_w hw 79 rfl)) (mvT hZ (own_w hw 23 rfl)) (mvT hZ (own_w hw 80 rfl)) (by decide) (backOf (W := 0) (rm_gc l Z a0 hw [] r141 kk141 (3 : Int32) ch3 (8 : Int32) [(.int (ch0.toInt8.toInt32)), (.int ((ch0 >>> ((8 : Int32) &&& 31)).toInt8.toInt32)), (.int (ch1.toInt8.toInt32)), (.int ((ch1 >>> ((8 : Int32) &&& 31)).toInt8.toInt32)), (.int (ch2.toInt8.toInt32)), (.int ((ch2 >>> ((8 : Int32) &&& 31)).toInt8.toInt32)), (.int (ch3.toInt8.toInt32)), (.int ((ch3 >>> ((8 : Int32) &&& 31)).toInt8.toInt32))] T141.heap n0 (Nat.le_trans Z0 K143.1) V141 (by decide) (by decide) rfl rfl (hbd _ (own_m 3 rfl)) O0 S_A S_H S_L) hZ (own_w hw 80 rfl) (own_w hw 23 rfl) (by decide) (by decide)) (g := (mkF m 32 #[.val (.ref bb), .val (.int (0 : Int32)), .val (.int (4 : Int32)), .val (.ref b124), .val (.int (3 : Int32)), .val (.ref r141)] [(.int (3 : Int32)), (.ref r141)])) rfl (by rw [hml]; rfl) (argsL := [(.ref r141), (.int (3 : Int32))]) (rest := []) (lenOf pd_6 rfl) rfl (by show 2 * 0 + _ ≤ _; exact Nat.le_of_eq rfl) (hb hby d5_32) (fun _ _ => ⟨rfl, rfl, (by decide : 2 + 0 ≤ _), (by decide : 12 + 0 ≤ _)⟩)
    dsimp only [Pt.U, Pt.locs, Pt.cells, Pt.slots] at X144 l144 y144 z144 st144 hQ144
    subst l144 y144 z144
    obtain ⟨rfl, N144q, e144⟩ := hQ144
    have N144 := Fr.app N141 N144q
    refine own_go st144 ?_
    refine own_go (fun _ q => XS.sipush X144.here hx rfl (hb hby d5_35) q) ?_
    show own_Fin _ _ _ _ (T144.setTop (mkF m 38 #[.val (.ref bb), .val (.int (0 : Int32)), .val (.int (4 : Int32)), .val (.ref b124), .val (.int (3 : Int32)), .val (.ref r141)] [(.int (255 : Int32)), (.int ch3)]))
    refine own_go (fun _ q => XS.icmpYes X144.here hx rfl (pc0 := 38) (pc' := 54) rfl (hb hby d5_38) rfl (tlt hbig127).2.2.1 (by decide) (by decide) q) ?_
    refine own_go (fun _ q => XS.aload X144.here hx rfl (hb hby d5_54) rfl rfl q) ?_
    show own_Fin _ _ _ _ (T144.setTop (mkF m 56 #[.val (.ref bb), .val (.int (0 : Int32)), .val (.int (4 : Int32)), .val (.ref b124), .val (.int (3 : Int32)), .val (.ref r141)] [(.ref r141)]))
    refine own_retA X144 hx Bd (t := (.array .byte)) Bd.returns rfl rfl rfl (hb hby d5_56) ?_ (by decide) (by decide)
    show (Q_rm_c3_4 Z bb kb ch0 ch1 ch2 ch3 h0 n0) (some (.ref r141)) T144.heap _
    rw [e144]
    exact ⟨_, _, rfl, N144, K143, sz_r141, Or.inr ⟨⟨_, own_m 3 rfl, hbig127⟩, V141⟩⟩
  · skip
    refine own_go st127 ?_
    refine own_go (fun _ q => XS.istore X127.here hx rfl (hb hby d5_12) rfl (l' := #[.val (.ref bb), .val (.int (0 : Int32)), .val (.int (4 : Int32)), .val (.ref b124), .val (.int (4 : Int32)), .unset]) rfl q) ?_
    refine own_go (fun _ q => XS.iload X127.here hx rfl (hb hby d5_14) rfl q) ?_
    refine own_go (fun _ q => XS.iloadN X127.here hx rfl (hb hby d5_16) rfl q) ?_
    show own_Fin _ _ _ _ (T127.setTop (mkF m 17 #[.val (.ref bb), .val (.int (0 : Int32)), .val (.int (4 : Int32)), .val (.ref b124), .val (.int (4 : Int32)), .unset] [(.int (4 : Int32)), (.int (4 : Int32))]))
    refine own_go (fun _ q => XS.icmpYes X127.here hx rfl (pc0 := 17) (pc' := 57) rfl (hb hby d5_17) rfl (teq (by decide : (4 : Int32) = (4 : Int32))).1 (by decide) (by decide) q) ?_
    refine own_go (fun _ q => XS.aloadN X127.here hx rfl (hb hby d5_57) rfl rfl q) ?_
    show own_Fin _ _ _ _ (T127.setTop (mkF m 58 #[.val (.ref bb), .val (.int (0 : Int32)), .val (.int (4 : Int32)), .val (.ref b124), .val (.int (4 : Int32)), .unset] [(.ref b124)]))
    refine own_retA X127 hx Bd (t := (.array .byte)) Bd.returns rfl rfl rfl (hb hby d5_58) ?_ (by decide) (by decide)
    show (Q_rm_c3_4 Z bb kb ch0 ch1 ch2 ch3 h0 n0) (some (.ref b124)) T127.heap _
    exact ⟨_, _, rfl, N127, K128, sz_b124, Or.inl ⟨hall127, VV127⟩⟩
def Q_rm_cl1_0 (Z : State) (bb : Addr) (kb : ClassId) (vs : List Value) (h0 : Heap) (n0 : Nat) (v : Option Value) (h : Heap) (L : List Loc) : Prop := v = some (.int (0 : Int32)) ∧ Fr n0 L ∧ h = h0
theorem ef_rm_cl1_0 (m : MethodId) (bb : Addr) : entryFrame m #[(.ref bb), (.int (1 : Int32))] 2 = mkF m 0 #[.val (.ref bb), .val (.int (1 : Int32))] [] := by first | (simp [entryFrame, mkF, argsToLocals, Value.category]; done) | rfl
set_option maxRecDepth 65536 in
set_option maxHeartbeats 40000000 in
theorem rm_cl1_0 (l : Launch) (Z : State) (a0 : Array Value) (hw : ∀ d ∈ tables_1, d.before a0 Z = true) (ws : List Jvm.Cond) (bb : Addr) (kb : ClassId) (vs : List Value) (h0 : Heap) (n0 : Nat) (Z0 : n0 ≤ h0.size) (V_bb : Arv Z h0 bb kb .byte (1 : Int32) vs (.int (0 : Int32))) :
    MetFree l (⟨"java/lang/StringUTF16", "coderFromArrayLen", "([BI)B"⟩ : MethodName) (head1 (Jvm.Cond.code (⟨"java/lang/StringUTF16", "coderFromArrayLen", "([BI)B"⟩ : MethodName) jdk_52_method_15_code 2 (some .byte) :: ws) ({ frames := 0, cells := 0, slots := 0, locals := 0 } : Room)) (fun a_ U_ => a_ = #[(.ref bb), (.int (1 : Int32))] ∧ Z.Warmed39 U_.vm ∧ U_.heap = h0) (fun _ _ _ _ _ => True) (fun _ U_ o_ V_ => ∃ v_ L_, o_ = .returned v_ ∧ (Q_rm_cl1_0 Z bb kb vs h0 n0) v_ V_.heap L_ ∧ FrameEnd U_ o_ V_ L_ ({ frames := 0, cells := 0, slots := 0, locals := 0 } : Room).cells ({ frames := 0, cells := 0, slots := 0, locals := 0 } : Room).slots) := by
  refine MetFree.of_bodySF (plainFor_of_name pn_0) hisR ?_
  intro p e s m args below meth c s₁ Bd hml0 hP hK
  obtain ⟨rfl, hZ, hh⟩ := hP
  have hx := Bd.exec
  have hby := Bd.bytes
  have hml : c.maxLocals = 2 := hml0
  have hown : s.vm.findClass "java/lang/StringUTF16" = some m.cls := findClass_of_methodNamed Bd.named
  have hnm := (name_of_methodNamed Bd.named Bd.method).1
  have X0 : Stand p l e ({ frames := 0, cells := 0, slots := 0, locals := 0 } : Room) s m #[(.ref bb), (.int (1 : Int32))] below meth c s₁ [] 0 0 := Stand.of_body Bd
  have e0 : s₁.heap = h0 := by rw [← hh, Bd.state]; rfl
  have N0 := Fr.nil n0
  have K0 : Keep h0 h0 [] := Keep.refl _ _
  show own_Fin p.tables e below (own_Post (Q_rm_cl1_0 Z bb kb vs h0 n0) ({ frames := 0, cells := 0, slots := 0, locals := 0 } : Room).cells ({ frames := 0, cells := 0, slots := 0, locals := 0 } : Room).slots below s) _
  refine own_go (fun _ q => castTop (ef_rm_cl1_0 m bb) q) ?_
  refine own_go (fun _ q => XS.iloadN X0.here hx rfl (hb hby d7_0) rfl q) ?_
  refine own_go (fun _ q => XS.aloadN X0.here hx rfl (hb hby d7_1) rfl rfl q) ?_
  show own_Fin _ _ _ _ (s₁.setTop (mkF m 2 #[.val (.ref bb), .val (.int (1 : Int32))] [(.ref bb), (.int (1 : Int32))]))
  refine own_go (fun _ q => own_alen X0 hx hZ e0 V_bb (g := (mkF m 2 #[.val (.ref bb), .val (.int (1 : Int32))] [(.ref bb), (.int (1 : Int32))])) rfl rfl (hb hby d7_2) _ q) ?_
  show own_Fin _ _ _ _ (s₁.setTop (mkF m 3 #[.val (.ref bb), .val (.int (1 : Int32))] [(.int (1 : Int32)), (.int (1 : Int32))]))
  refine own_go (fun _ q => XS.isub X0.here hx rfl (hb hby d7_3) rfl q) ?_
  refine own_go (fun _ q => XS.bipush X0.here hx rfl (hb hby d7_4) q) ?_
  show own_Fin _ _ _ _ (s₁.setTop (mkF m 6 #[.val (.ref bb), .val (.int (1 : Int32))] [(.int (31 : Int32)), (.int (0 : Int32))]))
  refine own_go (fun _ q => XS.iushr X0.here hx rfl (hb hby d7_6) rfl q) ?_
  show own_Fin _ _ _ _ (s₁.setTop (mkF m 7 #[.val (.ref bb), .val (.int (1 : Int32))] [(.int (((0 : Int32).toUInt32 >>> ((31 : Int32) &&& 31).toUInt32).toInt32))]))
  refine own_go (fun _ q => XS.i2b X0.here hx rfl (hb hby d7_7) rfl q) ?_
  show own_Fin _ _ _ _ (s₁.setTop (mkF m 8 #[.val (.ref bb), .val (.int (1 : Int32))] [(.int ((((0 : Int32).toUInt32 >>> ((31 : Int32) &&& 31).toUInt32).toInt32).toInt8.toInt32))]))
  rw [show ((((0 : Int32).toUInt32 >>> ((31 : Int32) &&& 31).toUInt32).toInt32).toInt8.toInt32) = (0 : Int32) from by decide]
  show own_Fin _ _ _ _ (s₁.setTop (mkF m 8 #[.val (.ref bb), .val (.int (1 : Int32))] [(.int (0 : Int32))]))
  refine own_retI X0 hx Bd (t := .byte) Bd.returns rfl (by simp) (hb hby d7_8) ?_ (by decide) (by decide)
  show (Q_rm_cl1_0 Z bb kb vs h0 n0) (some (.int (0 : Int32))) s₁.heap _
  rw [e0]
  exact ⟨rfl, N0, rfl⟩
def Q_rm_cl1_1 (Z : State) (bb : Addr) (kb : ClassId) (vs : List Value) (h0 : Heap) (n0 : Nat) (v : Option Value) (h : Heap) (L : List Loc) : Prop := v = some (.int (1 : Int32)) ∧ Fr n0 L ∧ h = h0
theorem ef_rm_cl1_1 (m : MethodId) (bb : Addr) : entryFrame m #[(.ref bb), (.int (1 : Int32))] 2 = mkF m 0 #[.val (.ref bb), .val (.int (1 : Int32))] [] := by first | (simp [entryFrame, mkF, argsToLocals, Value.category]; done) | rfl
set_option maxRecDepth 65536 in
set_option maxHeartbeats 40000000 in
theorem rm_cl1_1 (l : Launch) (Z : State) (a0 : Array Value) (hw : ∀ d ∈ tables_1, d.before a0 Z = true) (ws : List Jvm.Cond) (bb : Addr) (kb : ClassId) (vs : List Value) (h0 : Heap) (n0 : Nat) (Z0 : n0 ≤ h0.size) (V_bb : Arv Z h0 bb kb .byte (2 : Int32) vs (.int (0 : Int32))) :
    MetFree l (⟨"java/lang/StringUTF16", "coderFromArrayLen", "([BI)B"⟩ : MethodName) (head1 (Jvm.Cond.code (⟨"java/lang/StringUTF16", "coderFromArrayLen", "([BI)B"⟩ : MethodName) jdk_52_method_15_code 2 (some .byte) :: ws) ({ frames := 0, cells := 0, slots := 0, locals := 0 } : Room)) (fun a_ U_ => a_ = #[(.ref bb), (.int (1 : Int32))] ∧ Z.Warmed39 U_.vm ∧ U_.heap = h0) (fun _ _ _ _ _ => True) (fun _ U_ o_ V_ => ∃ v_ L_, o_ = .returned v_ ∧ (Q_rm_cl1_1 Z bb kb vs h0 n0) v_ V_.heap L_ ∧ FrameEnd U_ o_ V_ L_ ({ frames := 0, cells := 0, slots := 0, locals := 0 } : Room).cells ({ frames := 0, cells := 0, slots := 0, locals := 0 } : Room).slots) := by
  refine MetFree.of_bodySF (plainFor_of_name pn_0) hisR ?_
  intro p e s m args below meth c s₁ Bd hml0 hP hK
  obtain ⟨rfl, hZ, hh⟩ := hP
  have hx := Bd.exec
  have hby := Bd.bytes
  have hml : c.maxLocals = 2 := hml0
  have hown : s.vm.findClass "java/lang/StringUTF16" = some m.cls := findClass_of_methodNamed Bd.named
  have hnm := (name_of_methodNamed Bd.named Bd.method).1
  have X0 : Stand p l e ({ frames := 0, cells := 0, slots := 0, locals := 0 } : Room) s m #[(.ref bb), (.int (1 : Int32))] below meth c s₁ [] 0 0 := Stand.of_body Bd
  have e0 : s₁.heap = h0 := by rw [← hh, Bd.state]; rfl
  have N0 := Fr.nil n0
  have K0 : Keep h0 h0 [] := Keep.refl _ _
  show own_Fin p.tables e below (own_Post (Q_rm_cl1_1 Z bb kb vs h0 n0) ({ frames := 0, cells := 0, slots := 0, locals := 0 } : Room).cells ({ frames := 0, cells := 0, slots := 0, locals := 0 } : Room).slots below s) _
  refine own_go (fun _ q => castTop (ef_rm_cl1_1 m bb) q) ?_
  refine own_go (fun _ q => XS.iloadN X0.here hx rfl (hb hby d7_0) rfl q) ?_
  refine own_go (fun _ q => XS.aloadN X0.here hx rfl (hb hby d7_1) rfl rfl q) ?_
  show own_Fin _ _ _ _ (s₁.setTop (mkF m 2 #[.val (.ref bb), .val (.int (1 : Int32))] [(.ref bb), (.int (1 : Int32))]))
  refine own_go (fun _ q => own_alen X0 hx hZ e0 V_bb (g := (mkF m 2 #[.val (.ref bb), .val (.int (1 : Int32))] [(.ref bb), (.int (1 : Int32))])) rfl rfl (hb hby d7_2) _ q) ?_
  show own_Fin _ _ _ _ (s₁.setTop (mkF m 3 #[.val (.ref bb), .val (.int (1 : Int32))] [(.int (2 : Int32)), (.int (1 : Int32))]))
  refine own_go (fun _ q => XS.isub X0.here hx rfl (hb hby d7_3) rfl q) ?_
  refine own_go (fun _ q => XS.bipush X0.here hx rfl (hb hby d7_4) q) ?_
  show own_Fin _ _ _ _ (s₁.setTop (mkF m 6 #[.val (.ref bb), .val (.int (1 : Int32))] [(.int (31 : Int32)), (.int (-1 : Int32))]))
  refine own_go (fun _ q => XS.iushr X0.here hx rfl (hb hby d7_6) rfl q) ?_
  show own_Fin _ _ _ _ (s₁.setTop (mkF m 7 #[.val (.ref bb), .val (.int (1 : Int32))] [(.int (((-1 : Int32).toUInt32 >>> ((31 : Int32) &&& 31).toUInt32).toInt32))]))
  refine own_go (fun _ q => XS.i2b X0.here hx rfl (hb hby d7_7) rfl q) ?_
  show own_Fin _ _ _ _ (s₁.setTop (mkF m 8 #[.val (.ref bb), .val (.int (1 : Int32))] [(.int ((((-1 : Int32).toUInt32 >>> ((31 : Int32) &&& 31).toUInt32).toInt32).toInt8.toInt32))]))
  rw [show ((((-1 : Int32).toUInt32 >>> ((31 : Int32) &&& 31).toUInt32).toInt32).toInt8.toInt32) = (1 : Int32) from by decide]
  show own_Fin _ _ _ _ (s₁.setTop (mkF m 8 #[.val (.ref bb), .val (.int (1 : Int32))] [(.int (1 : Int32))]))
  refine own_retI X0 hx Bd (t := .byte) Bd.returns rfl (by simp) (hb hby d7_8) ?_ (by decide) (by decide)
  show (Q_rm_cl1_1 Z bb kb vs h0 n0) (some (.int (1 : Int32))) s₁.heap _
  rw [e0]
  exact ⟨rfl, N0, rfl⟩
def Q_rm_cl2_0 (Z : State) (bb : Addr) (kb : ClassId) (vs : List Value) (h0 : Heap) (n0 : Nat) (v : Option Value) (h : Heap) (L : List Loc) : Prop := v = some (.int (0 : Int32)) ∧ Fr n0 L ∧ h = h0
theorem ef_rm_cl2_0 (m : MethodId) (bb : Addr) : entryFrame m #[(.ref bb), (.int (2 : Int32))] 2 = mkF m 0 #[.val (.ref bb), .val (.int (2 : Int32))] [] := by first | (simp [entryFrame, mkF, argsToLocals, Value.category]; done) | rfl
set_option maxRecDepth 65536 in
set_option maxHeartbeats 40000000 in
theorem rm_cl2_0 (l : Launch) (Z : State) (a0 : Array Value) (hw : ∀ d ∈ tables_1, d.before a0 Z = true) (ws : List Jvm.Cond) (bb : Addr) (kb : ClassId) (vs : List Value) (h0 : Heap) (n0 : Nat) (Z0 : n0 ≤ h0.size) (V_bb : Arv Z h0 bb kb .byte (2 : Int32) vs (.int (0 : Int32))) :
    MetFree l (⟨"java/lang/StringUTF16", "coderFromArrayLen", "([BI)B"⟩ : MethodName) (head1 (Jvm.Cond.code (⟨"java/lang/StringUTF16", "coderFromArrayLen", "([BI)B"⟩ : MethodName) jdk_52_method_15_code 2 (some .byte) :: ws) ({ frames := 0, cells := 0, slots := 0, locals := 0 } : Room)) (fun a_ U_ => a_ = #[(.ref bb), (.int (2 : Int32))] ∧ Z.Warmed39 U_.vm ∧ U_.heap = h0) (fun _ _ _ _ _ => True) (fun _ U_ o_ V_ => ∃ v_ L_, o_ = .returned v_ ∧ (Q_rm_cl2_0 Z bb kb vs h0 n0) v_ V_.heap L_ ∧ FrameEnd U_ o_ V_ L_ ({ frames := 0, cells := 0, slots := 0, locals := 0 } : Room).cells ({ frames := 0, cells := 0, slots := 0, locals := 0 } : Room).slots) := by
  refine MetFree.of_bodySF (plainFor_of_name pn_0) hisR ?_
  intro p e s m args below meth c s₁ Bd hml0 hP hK
  obtain ⟨rfl, hZ, hh⟩ := hP
  have hx := Bd.exec
  have hby := Bd.bytes
  have hml : c.maxLocals = 2 := hml0
  have hown : s.vm.findClass "java/lang/StringUTF16" = some m.cls := findClass_of_methodNamed Bd.named
  have hnm := (name_of_methodNamed Bd.named Bd.method).1
  have X0 : Stand p l e ({ frames := 0, cells := 0, slots := 0, locals := 0 } : Room) s m #[(.ref bb), (.int (2 : Int32))] below meth c s₁ [] 0 0 := Stand.of_body Bd
  have e0 : s₁.heap = h0 := by rw [← hh, Bd.state]; rfl
  have N0 := Fr.nil n0
  have K0 : Keep h0 h0 [] := Keep.refl _ _
  show own_Fin p.tables e below (own_Post (Q_rm_cl2_0 Z bb kb vs h0 n0) ({ frames := 0, cells := 0, slots := 0, locals := 0 } : Room).cells ({ frames := 0, cells := 0, slots := 0, locals := 0 } : Room).slots below s) _
  refine own_go (fun _ q => castTop (ef_rm_cl2_0 m bb) q) ?_
  refine own_go (fun _ q => XS.iloadN X0.here hx rfl (hb hby d7_0) rfl q) ?_
  refine own_go (fun _ q => XS.aloadN X0.here hx rfl (hb hby d7_1) rfl rfl q) ?_
  show own_Fin _ _ _ _ (s₁.setTop (mkF m 2 #[.val (.ref bb), .val (.int (2 : Int32))] [(.ref bb), (.int (2 : Int32))]))
  refine own_go (fun _ q => own_alen X0 hx hZ e0 V_bb (g := (mkF m 2 #[.val (.ref bb), .val (.int (2 : Int32))] [(.ref bb), (.int (2 : Int32))])) rfl rfl (hb hby d7_2) _ q) ?_
  show own_Fin _ _ _ _ (s₁.setTop (mkF m 3 #[.val (.ref bb), .val (.int (2 : Int32))] [(.int (2 : Int32)), (.int (2 : Int32))]))
  refine own_go (fun _ q => XS.isub X0.here hx rfl (hb hby d7_3) rfl q) ?_
  refine own_go (fun _ q => XS.bipush X0.here hx rfl (hb hby d7_4) q) ?_
  show own_Fin _ _ _ _ (s₁.setTop (mkF m 6 #[.val (.ref bb), .val (.int (2 : Int32))] [(.int (31 : Int32)), (.int (0 : Int32))]))
  refine own_go (fun _ q => XS.iushr X0.here hx rfl (hb hby d7_6) rfl q) ?_
  show own_Fin _ _ _ _ (s₁.setTop (mkF m 7 #[.val (.ref bb), .val (.int (2 : Int32))] [(.int (((0 : Int32).toUInt32 >>> ((31 : Int32) &&& 31).toUInt32).toInt32))]))
  refine own_go (fun _ q => XS.i2b X0.here hx rfl (hb hby d7_7) rfl q) ?_
  show own_Fin _ _ _ _ (s₁.setTop (mkF m 8 #[.val (.ref bb), .val (.int (2 : Int32))] [(.int ((((0 : Int32).toUInt32 >>> ((31 : Int32) &&& 31).toUInt32).toInt32).toInt8.toInt32))]))
  rw [show ((((0 : Int32).toUInt32 >>> ((31 : Int32) &&& 31).toUInt32).toInt32).toInt8.toInt32) = (0 : Int32) from by decide]
  show own_Fin _ _ _ _ (s₁.setTop (mkF m 8 #[.val (.ref bb), .val (.int (2 : Int32))] [(.int (0 : Int32))]))
  refine own_retI X0 hx Bd (t := .byte) Bd.returns rfl (by simp) (hb hby d7_8) ?_ (by decide) (by decide)
  show (Q_rm_cl2_0 Z bb kb vs h0 n0) (some (.int (0 : Int32))) s₁.heap _
  rw [e0]
  exact ⟨rfl, N0, rfl⟩
def Q_rm_cl2_1 (Z : State) (bb : Addr) (kb : ClassId) (vs : List Value) (h0 : Heap) (n0 : Nat) (v : Option Value) (h : Heap) (L : List Loc) : Prop := v = some (.int (1 : Int32)) ∧ Fr n0 L ∧ h = h0
theorem ef_rm_cl2_1 (m : MethodId) (bb : Addr) : entryFrame m #[(.ref bb), (.int (2 : Int32))] 2 = mkF m 0 #[.val (.ref bb), .val (.int (2 : Int32))] [] := by first | (simp [entryFrame, mkF, argsToLocals, Value.category]; done) | rfl
set_option maxRecDepth 65536 in
set_option maxHeartbeats 40000000 in
theorem rm_cl2_1 (l : Launch) (Z : State) (a0 : Array Value) (hw : ∀ d ∈ tables_1, d.before a0 Z = true) (ws : List Jvm.Cond) (bb : Addr) (kb : ClassId) (vs : List Value) (h0 : Heap) (n0 : Nat) (Z0 : n0 ≤ h0.size) (V_bb : Arv Z h0 bb kb .byte (4 : Int32) vs (.int (0 : Int32))) :
    MetFree l (⟨"java/lang/StringUTF16", "coderFromArrayLen", "([BI)B"⟩ : MethodName) (head1 (Jvm.Cond.code (⟨"java/lang/StringUTF16", "coderFromArrayLen", "([BI)B"⟩ : MethodName) jdk_52_method_15_code 2 (some .byte) :: ws) ({ frames := 0, cells := 0, slots := 0, locals := 0 } : Room)) (fun a_ U_ => a_ = #[(.ref bb), (.int (2 : Int32))] ∧ Z.Warmed39 U_.vm ∧ U_.heap = h0) (fun _ _ _ _ _ => True) (fun _ U_ o_ V_ => ∃ v_ L_, o_ = .returned v_ ∧ (Q_rm_cl2_1 Z bb kb vs h0 n0) v_ V_.heap L_ ∧ FrameEnd U_ o_ V_ L_ ({ frames := 0, cells := 0, slots := 0, locals := 0 } : Room).cells ({ frames := 0, cells := 0, slots := 0, locals := 0 } : Room).slots) := by
  refine MetFree.of_bodySF (plainFor_of_name pn_0) hisR ?_
  intro p e s m args below meth c s₁ Bd hml0 hP hK
  obtain ⟨rfl, hZ, hh⟩ := hP
  have hx := Bd.exec
  have hby := Bd.bytes
  have hml : c.maxLocals = 2 := hml0
  have hown : s.vm.findClass "java/lang/StringUTF16" = some m.cls := findClass_of_methodNamed Bd.named
  have hnm := (name_of_methodNamed Bd.named Bd.method).1
  have X0 : Stand p l e ({ frames := 0, cells := 0, slots := 0, locals := 0 } : Room) s m #[(.ref bb), (.int (2 : Int32))] below meth c s₁ [] 0 0 := Stand.of_body Bd
  have e0 : s₁.heap = h0 := by rw [← hh, Bd.state]; rfl
  have N0 := Fr.nil n0
  have K0 : Keep h0 h0 [] := Keep.refl _ _
  show own_Fin p.tables e below (own_Post (Q_rm_cl2_1 Z bb kb vs h0 n0) ({ frames := 0, cells := 0, slots := 0, locals := 0 } : Room).cells ({ frames := 0, cells := 0, slots := 0, locals := 0 } : Room).slots below s) _
  refine own_go (fun _ q => castTop (ef_rm_cl2_1 m bb) q) ?_
  refine own_go (fun _ q => XS.iloadN X0.here hx rfl (hb hby d7_0) rfl q) ?_
  refine own_go (fun _ q => XS.aloadN X0.here hx rfl (hb hby d7_1) rfl rfl q) ?_
  show own_Fin _ _ _ _ (s₁.setTop (mkF m 2 #[.val (.ref bb), .val (.int (2 : Int32))] [(.ref bb), (.int (2 : Int32))]))
  refine own_go (fun _ q => own_alen X0 hx hZ e0 V_bb (g := (mkF m 2 #[.val (.ref bb), .val (.int (2 : Int32))] [(.ref bb), (.int (2 : Int32))])) rfl rfl (hb hby d7_2) _ q) ?_
  show own_Fin _ _ _ _ (s₁.setTop (mkF m 3 #[.val (.ref bb), .val (.int (2 : Int32))] [(.int (4 : Int32)), (.int (2 : Int32))]))
  refine own_go (fun _ q => XS.isub X0.here hx rfl (hb hby d7_3) rfl q) ?_
  refine own_go (fun _ q => XS.bipush X0.here hx rfl (hb hby d7_4) q) ?_
  show own_Fin _ _ _ _ (s₁.setTop (mkF m 6 #[.val (.ref bb), .val (.int (2 : Int32))] [(.int (31 : Int32)), (.int (-2 : Int32))]))
  refine own_go (fun _ q => XS.iushr X0.here hx rfl (hb hby d7_6) rfl q) ?_
  show own_Fin _ _ _ _ (s₁.setTop (mkF m 7 #[.val (.ref bb), .val (.int (2 : Int32))] [(.int (((-2 : Int32).toUInt32 >>> ((31 : Int32) &&& 31).toUInt32).toInt32))]))
  refine own_go (fun _ q => XS.i2b X0.here hx rfl (hb hby d7_7) rfl q) ?_
  show own_Fin _ _ _ _ (s₁.setTop (mkF m 8 #[.val (.ref bb), .val (.int (2 : Int32))] [(.int ((((-2 : Int32).toUInt32 >>> ((31 : Int32) &&& 31).toUInt32).toInt32).toInt8.toInt32))]))
  rw [show ((((-2 : Int32).toUInt32 >>> ((31 : Int32) &&& 31).toUInt32).toInt32).toInt8.toInt32) = (1 : Int32) from by decide]
  show own_Fin _ _ _ _ (s₁.setTop (mkF m 8 #[.val (.ref bb), .val (.int (2 : Int32))] [(.int (1 : Int32))]))
  refine own_retI X0 hx Bd (t := .byte) Bd.returns rfl (by simp) (hb hby d7_8) ?_ (by decide) (by decide)
  show (Q_rm_cl2_1 Z bb kb vs h0 n0) (some (.int (1 : Int32))) s₁.heap _
  rw [e0]
  exact ⟨rfl, N0, rfl⟩
def Q_rm_cl3_0 (Z : State) (bb : Addr) (kb : ClassId) (vs : List Value) (h0 : Heap) (n0 : Nat) (v : Option Value) (h : Heap) (L : List Loc) : Prop := v = some (.int (0 : Int32)) ∧ Fr n0 L ∧ h = h0
theorem ef_rm_cl3_0 (m : MethodId) (bb : Addr) : entryFrame m #[(.ref bb), (.int (3 : Int32))] 2 = mkF m 0 #[.val (.ref bb), .val (.int (3 : Int32))] [] := by first | (simp [entryFrame, mkF, argsToLocals, Value.category]; done) | rfl
set_option maxRecDepth 65536 in
set_option maxHeartbeats 40000000 in
theorem rm_cl3_0 (l : Launch) (Z : State) (a0 : Array Value) (hw : ∀ d ∈ tables_1, d.before a0 Z = true) (ws : List Jvm.Cond) (bb : Addr) (kb : ClassId) (vs : List Value) (h0 : Heap) (n0 : Nat) (Z0 : n0 ≤ h0.size) (V_bb : Arv Z h0 bb kb .byte (3 : Int32) vs (.int (0 : Int32))) :
    MetFree l (⟨"java/lang/StringUTF16", "coderFromArrayLen", "([BI)B"⟩ : MethodName) (head1 (Jvm.Cond.code (⟨"java/lang/StringUTF16", "coderFromArrayLen", "([BI)B"⟩ : MethodName) jdk_52_method_15_code 2 (some .byte) :: ws) ({ frames := 0, cells := 0, slots := 0, locals := 0 } : Room)) (fun a_ U_ => a_ = #[(.ref bb), (.int (3 : Int32))] ∧ Z.Warmed39 U_.vm ∧ U_.heap = h0) (fun _ _ _ _ _ => True) (fun _ U_ o_ V_ => ∃ v_ L_, o_ = .returned v_ ∧ (Q_rm_cl3_0 Z bb kb vs h0 n0) v_ V_.heap L_ ∧ FrameEnd U_ o_ V_ L_ ({ frames := 0, cells := 0, slots := 0, locals := 0 } : Room).cells ({ frames := 0, cells := 0, slots := 0, locals := 0 } : Room).slots) := by
  refine MetFree.of_bodySF (plainFor_of_name pn_0) hisR ?_
  intro p e s m args below meth c s₁ Bd hml0 hP hK
  obtain ⟨rfl, hZ, hh⟩ := hP
  have hx := Bd.exec
  have hby := Bd.bytes
  have hml : c.maxLocals = 2 := hml0
  have hown : s.vm.findClass "java/lang/StringUTF16" = some m.cls := findClass_of_methodNamed Bd.named
  have hnm := (name_of_methodNamed Bd.named Bd.method).1
  have X0 : Stand p l e ({ frames := 0, cells := 0, slots := 0, locals := 0 } : Room) s m #[(.ref bb), (.int (3 : Int32))] below meth c s₁ [] 0 0 := Stand.of_body Bd
  have e0 : s₁.heap = h0 := by rw [← hh, Bd.state]; rfl
  have N0 := Fr.nil n0
  have K0 : Keep h0 h0 [] := Keep.refl _ _
  show own_Fin p.tables e below (own_Post (Q_rm_cl3_0 Z bb kb vs h0 n0) ({ frames := 0, cells := 0, slots := 0, locals := 0 } : Room).cells ({ frames := 0, cells := 0, slots := 0, locals := 0 } : Room).slots below s) _
  refine own_go (fun _ q => castTop (ef_rm_cl3_0 m bb) q) ?_
  refine own_go (fun _ q => XS.iloadN X0.here hx rfl (hb hby d7_0) rfl q) ?_
  refine own_go (fun _ q => XS.aloadN X0.here hx rfl (hb hby d7_1) rfl rfl q) ?_
  show own_Fin _ _ _ _ (s₁.setTop (mkF m 2 #[.val (.ref bb), .val (.int (3 : Int32))] [(.ref bb), (.int (3 : Int32))]))
  refine own_go (fun _ q => own_alen X0 hx hZ e0 V_bb (g := (mkF m 2 #[.val (.ref bb), .val (.int (3 : Int32))] [(.ref bb), (.int (3 : Int32))])) rfl rfl (hb hby d7_2) _ q) ?_
  show own_Fin _ _ _ _ (s₁.setTop (mkF m 3 #[.val (.ref bb), .val (.int (3 : Int32))] [(.int (3 : Int32)), (.int (3 : Int32))]))
  refine own_go (fun _ q => XS.isub X0.here hx rfl (hb hby d7_3) rfl q) ?_
  refine own_go (fun _ q => XS.bipush X0.here hx rfl (hb hby d7_4) q) ?_
  show own_Fin _ _ _ _ (s₁.setTop (mkF m 6 #[.val (.ref bb), .val (.int (3 : Int32))] [(.int (31 : Int32)), (.int (0 : Int32))]))
  refine own_go (fun _ q => XS.iushr X0.here hx rfl (hb hby d7_6) rfl q) ?_
  show own_Fin _ _ _ _ (s₁.setTop (mkF m 7 #[.val (.ref bb), .val (.int (3 : Int32))] [(.int (((0 : Int32).toUInt32 >>> ((31 : Int32) &&& 31).toUInt32).toInt32))]))
  refine own_go (fun _ q => XS.i2b X0.here hx rfl (hb hby d7_7) rfl q) ?_
  show own_Fin _ _ _ _ (s₁.setTop (mkF m 8 #[.val (.ref bb), .val (.int (3 : Int32))] [(.int ((((0 : Int32).toUInt32 >>> ((31 : Int32) &&& 31).toUInt32).toInt32).toInt8.toInt32))]))
  rw [show ((((0 : Int32).toUInt32 >>> ((31 : Int32) &&& 31).toUInt32).toInt32).toInt8.toInt32) = (0 : Int32) from by decide]
  show own_Fin _ _ _ _ (s₁.setTop (mkF m 8 #[.val (.ref bb), .val (.int (3 : Int32))] [(.int (0 : Int32))]))
  refine own_retI X0 hx Bd (t := .byte) Bd.returns rfl (by simp) (hb hby d7_8) ?_ (by decide) (by decide)
  show (Q_rm_cl3_0 Z bb kb vs h0 n0) (some (.int (0 : Int32))) s₁.heap _
  rw [e0]
  exact ⟨rfl, N0, rfl⟩
def Q_rm_cl3_1 (Z : State) (bb : Addr) (kb : ClassId) (vs : List Value) (h0 : Heap) (n0 : Nat) (v : Option Value) (h : Heap) (L : List Loc) : Prop := v = some (.int (1 : Int32)) ∧ Fr n0 L ∧ h = h0
theorem ef_rm_cl3_1 (m : MethodId) (bb : Addr) : entryFrame m #[(.ref bb), (.int (3 : Int32))] 2 = mkF m 0 #[.val (.ref bb), .val (.int (3 : Int32))] [] := by first | (simp [entryFrame, mkF, argsToLocals, Value.category]; done) | rfl
set_option maxRecDepth 65536 in
set_option maxHeartbeats 40000000 in
theorem rm_cl3_1 (l : Launch) (Z : State) (a0 : Array Value) (hw : ∀ d ∈ tables_1, d.before a0 Z = true) (ws : List Jvm.Cond) (bb : Addr) (kb : ClassId) (vs : List Value) (h0 : Heap) (n0 : Nat) (Z0 : n0 ≤ h0.size) (V_bb : Arv Z h0 bb kb .byte (6 : Int32) vs (.int (0 : Int32))) :
    MetFree l (⟨"java/lang/StringUTF16", "coderFromArrayLen", "([BI)B"⟩ : MethodName) (head1 (Jvm.Cond.code (⟨"java/lang/StringUTF16", "coderFromArrayLen", "([BI)B"⟩ : MethodName) jdk_52_method_15_code 2 (some .byte) :: ws) ({ frames := 0, cells := 0, slots := 0, locals := 0 } : Room)) (fun a_ U_ => a_ = #[(.ref bb), (.int (3 : Int32))] ∧ Z.Warmed39 U_.vm ∧ U_.heap = h0) (fun _ _ _ _ _ => True) (fun _ U_ o_ V_ => ∃ v_ L_, o_ = .returned v_ ∧ (Q_rm_cl3_1 Z bb kb vs h0 n0) v_ V_.heap L_ ∧ FrameEnd U_ o_ V_ L_ ({ frames := 0, cells := 0, slots := 0, locals := 0 } : Room).cells ({ frames := 0, cells := 0, slots := 0, locals := 0 } : Room).slots) := by
  refine MetFree.of_bodySF (plainFor_of_name pn_0) hisR ?_
  intro p e s m args below meth c s₁ Bd hml0 hP hK
  obtain ⟨rfl, hZ, hh⟩ := hP
  have hx := Bd.exec
  have hby := Bd.bytes
  have hml : c.maxLocals = 2 := hml0
  have hown : s.vm.findClass "java/lang/StringUTF16" = some m.cls := findClass_of_methodNamed Bd.named
  have hnm := (name_of_methodNamed Bd.named Bd.method).1
  have X0 : Stand p l e ({ frames := 0, cells := 0, slots := 0, locals := 0 } : Room) s m #[(.ref bb), (.int (3 : Int32))] below meth c s₁ [] 0 0 := Stand.of_body Bd
  have e0 : s₁.heap = h0 := by rw [← hh, Bd.state]; rfl
  have N0 := Fr.nil n0
  have K0 : Keep h0 h0 [] := Keep.refl _ _
  show own_Fin p.tables e below (own_Post (Q_rm_cl3_1 Z bb kb vs h0 n0) ({ frames := 0, cells := 0, slots := 0, locals := 0 } : Room).cells ({ frames := 0, cells := 0, slots := 0, locals := 0 } : Room).slots below s) _
  refine own_go (fun _ q => castTop (ef_rm_cl3_1 m bb) q) ?_
  refine own_go (fun _ q => XS.iloadN X0.here hx rfl (hb hby d7_0) rfl q) ?_
  refine own_go (fun _ q => XS.aloadN X0.here hx rfl (hb hby d7_1) rfl rfl q) ?_
  show own_Fin _ _ _ _ (s₁.setTop (mkF m 2 #[.val (.ref bb), .val (.int (3 : Int32))] [(.ref bb), (.int (3 : Int32))]))
  refine own_go (fun _ q => own_alen X0 hx hZ e0 V_bb (g := (mkF m 2 #[.val (.ref bb), .val (.int (3 : Int32))] [(.ref bb), (.int (3 : Int32))])) rfl rfl (hb hby d7_2) _ q) ?_
  show own_Fin _ _ _ _ (s₁.setTop (mkF m 3 #[.val (.ref bb), .val (.int (3 : Int32))] [(.int (6 : Int32)), (.int (3 : Int32))]))
  refine own_go (fun _ q => XS.isub X0.here hx rfl (hb hby d7_3) rfl q) ?_
  refine own_go (fun _ q => XS.bipush X0.here hx rfl (hb hby d7_4) q) ?_
  show own_Fin _ _ _ _ (s₁.setTop (mkF m 6 #[.val (.ref bb), .val (.int (3 : Int32))] [(.int (31 : Int32)), (.int (-3 : Int32))]))
  refine own_go (fun _ q => XS.iushr X0.here hx rfl (hb hby d7_6) rfl q) ?_
  show own_Fin _ _ _ _ (s₁.setTop (mkF m 7 #[.val (.ref bb), .val (.int (3 : Int32))] [(.int (((-3 : Int32).toUInt32 >>> ((31 : Int32) &&& 31).toUInt32).toInt32))]))
  refine own_go (fun _ q => XS.i2b X0.here hx rfl (hb hby d7_7) rfl q) ?_
  show own_Fin _ _ _ _ (s₁.setTop (mkF m 8 #[.val (.ref bb), .val (.int (3 : Int32))] [(.int ((((-3 : Int32).toUInt32 >>> ((31 : Int32) &&& 31).toUInt32).toInt32).toInt8.toInt32))]))
  rw [show ((((-3 : Int32).toUInt32 >>> ((31 : Int32) &&& 31).toUInt32).toInt32).toInt8.toInt32) = (1 : Int32) from by decide]
  show own_Fin _ _ _ _ (s₁.setTop (mkF m 8 #[.val (.ref bb), .val (.int (3 : Int32))] [(.int (1 : Int32))]))
  refine own_retI X0 hx Bd (t := .byte) Bd.returns rfl (by simp) (hb hby d7_8) ?_ (by decide) (by decide)
  show (Q_rm_cl3_1 Z bb kb vs h0 n0) (some (.int (1 : Int32))) s₁.heap _
  rw [e0]
  exact ⟨rfl, N0, rfl⟩
def Q_rm_cl4_0 (Z : State) (bb : Addr) (kb : ClassId) (vs : List Value) (h0 : Heap) (n0 : Nat) (v : Option Value) (h : Heap) (L : List Loc) : Prop := v = some (.int (0 : Int32)) ∧ Fr n0 L ∧ h = h0
theorem ef_rm_cl4_0 (m : MethodId) (bb : Addr) : entryFrame m #[(.ref bb), (.int (4 : Int32))] 2 = mkF m 0 #[.val (.ref bb), .val (.int (4 : Int32))] [] := by first | (simp [entryFrame, mkF, argsToLocals, Value.category]; done) | rfl
set_option maxRecDepth 65536 in
set_option maxHeartbeats 40000000 in
theorem rm_cl4_0 (l : Launch) (Z : State) (a0 : Array Value) (hw : ∀ d ∈ tables_1, d.before a0 Z = true) (ws : List Jvm.Cond) (bb : Addr) (kb : ClassId) (vs : List Value) (h0 : Heap) (n0 : Nat) (Z0 : n0 ≤ h0.size) (V_bb : Arv Z h0 bb kb .byte (4 : Int32) vs (.int (0 : Int32))) :
    MetFree l (⟨"java/lang/StringUTF16", "coderFromArrayLen", "([BI)B"⟩ : MethodName) (head1 (Jvm.Cond.code (⟨"java/lang/StringUTF16", "coderFromArrayLen", "([BI)B"⟩ : MethodName) jdk_52_method_15_code 2 (some .byte) :: ws) ({ frames := 0, cells := 0, slots := 0, locals := 0 } : Room)) (fun a_ U_ => a_ = #[(.ref bb), (.int (4 : Int32))] ∧ Z.Warmed39 U_.vm ∧ U_.heap = h0) (fun _ _ _ _ _ => True) (fun _ U_ o_ V_ => ∃ v_ L_, o_ = .returned v_ ∧ (Q_rm_cl4_0 Z bb kb vs h0 n0) v_ V_.heap L_ ∧ FrameEnd U_ o_ V_ L_ ({ frames := 0, cells := 0, slots := 0, locals := 0 } : Room).cells ({ frames := 0, cells := 0, slots := 0, locals := 0 } : Room).slots) := by
  refine MetFree.of_bodySF (plainFor_of_name pn_0) hisR ?_
  intro p e s m args below meth c s₁ Bd hml0 hP hK
  obtain ⟨rfl, hZ, hh⟩ := hP
  have hx := Bd.exec
  have hby := Bd.bytes
  have hml : c.maxLocals = 2 := hml0
  have hown : s.vm.findClass "java/lang/StringUTF16" = some m.cls := findClass_of_methodNamed Bd.named
  have hnm := (name_of_methodNamed Bd.named Bd.method).1
  have X0 : Stand p l e ({ frames := 0, cells := 0, slots := 0, locals := 0 } : Room) s m #[(.ref bb), (.int (4 : Int32))] below meth c s₁ [] 0 0 := Stand.of_body Bd
  have e0 : s₁.heap = h0 := by rw [← hh, Bd.state]; rfl
  have N0 := Fr.nil n0
  have K0 : Keep h0 h0 [] := Keep.refl _ _
  show own_Fin p.tables e below (own_Post (Q_rm_cl4_0 Z bb kb vs h0 n0) ({ frames := 0, cells := 0, slots := 0, locals := 0 } : Room).cells ({ frames := 0, cells := 0, slots := 0, locals := 0 } : Room).slots below s) _
  refine own_go (fun _ q => castTop (ef_rm_cl4_0 m bb) q) ?_
  refine own_go (fun _ q => XS.iloadN X0.here hx rfl (hb hby d7_0) rfl q) ?_
  refine own_go (fun _ q => XS.aloadN X0.here hx rfl (hb hby d7_1) rfl rfl q) ?_
  show own_Fin _ _ _ _ (s₁.setTop (mkF m 2 #[.val (.ref bb), .val (.int (4 : Int32))] [(.ref bb), (.int (4 : Int32))]))
  refine own_go (fun _ q => own_alen X0 hx hZ e0 V_bb (g := (mkF m 2 #[.val (.ref bb), .val (.int (4 : Int32))] [(.ref bb), (.int (4 : Int32))])) rfl rfl (hb hby d7_2) _ q) ?_
  show own_Fin _ _ _ _ (s₁.setTop (mkF m 3 #[.val (.ref bb), .val (.int (4 : Int32))] [(.int (4 : Int32)), (.int (4 : Int32))]))
  refine own_go (fun _ q => XS.isub X0.here hx rfl (hb hby d7_3) rfl q) ?_
  refine own_go (fun _ q => XS.bipush X0.here hx rfl (hb hby d7_4) q) ?_
  show own_Fin _ _ _ _ (s₁.setTop (mkF m 6 #[.val (.ref bb), .val (.int (4 : Int32))] [(.int (31 : Int32)), (.int (0 : Int32))]))
  refine own_go (fun _ q => XS.iushr X0.here hx rfl (hb hby d7_6) rfl q) ?_
  show own_Fin _ _ _ _ (s₁.setTop (mkF m 7 #[.val (.ref bb), .val (.int (4 : Int32))] [(.int (((0 : Int32).toUInt32 >>> ((31 : Int32) &&& 31).toUInt32).toInt32))]))
  refine own_go (fun _ q => XS.i2b X0.here hx rfl (hb hby d7_7) rfl q) ?_
  show own_Fin _ _ _ _ (s₁.setTop (mkF m 8 #[.val (.ref bb), .val (.int (4 : Int32))] [(.int ((((0 : Int32).toUInt32 >>> ((31 : Int32) &&& 31).toUInt32).toInt32).toInt8.toInt32))]))
  rw [show ((((0 : Int32).toUInt32 >>> ((31 : Int32) &&& 31).toUInt32).toInt32).toInt8.toInt32) = (0 : Int32) from by decide]
  show own_Fin _ _ _ _ (s₁.setTop (mkF m 8 #[.val (.ref bb), .val (.int (4 : Int32))] [(.int (0 : Int32))]))
  refine own_retI X0 hx Bd (t := .byte) Bd.returns rfl (by simp) (hb hby d7_8) ?_ (by decide) (by decide)
  show (Q_rm_cl4_0 Z bb kb vs h0 n0) (some (.int (0 : Int32))) s₁.heap _
  rw [e0]
  exact ⟨rfl, N0, rfl⟩
def Q_rm_cl4_1 (Z : State) (bb : Addr) (kb : ClassId) (vs : List Value) (h0 : Heap) (n0 : Nat) (v : Option Value) (h : Heap) (L : List Loc) : Prop := v = some (.int (1 : Int32)) ∧ Fr n0 L ∧ h = h0
theorem ef_rm_cl4_1 (m : MethodId) (bb : Addr) : entryFrame m #[(.ref bb), (.int (4 : Int32))] 2 = mkF m 0 #[.val (.ref bb), .val (.int (4 : Int32))] [] := by first | (simp [entryFrame, mkF, argsToLocals, Value.category]; done) | rfl
set_option maxRecDepth 65536 in
set_option maxHeartbeats 40000000 in
theorem rm_cl4_1 (l : Launch) (Z : State) (a0 : Array Value) (hw : ∀ d ∈ tables_1, d.before a0 Z = true) (ws : List Jvm.Cond) (bb : Addr) (kb : ClassId) (vs : List Value) (h0 : Heap) (n0 : Nat) (Z0 : n0 ≤ h0.size) (V_bb : Arv Z h0 bb kb .byte (8 : Int32) vs (.int (0 : Int32))) :
    MetFree l (⟨"java/lang/StringUTF16", "coderFromArrayLen", "([BI)B"⟩ : MethodName) (head1 (Jvm.Cond.code (⟨"java/lang/StringUTF16", "coderFromArrayLen", "([BI)B"⟩ : MethodName) jdk_52_method_15_code 2 (some .byte) :: ws) ({ frames := 0, cells := 0, slots := 0, locals := 0 } : Room)) (fun a_ U_ => a_ = #[(.ref bb), (.int (4 : Int32))] ∧ Z.Warmed39 U_.vm ∧ U_.heap = h0) (fun _ _ _ _ _ => True) (fun _ U_ o_ V_ => ∃ v_ L_, o_ = .returned v_ ∧ (Q_rm_cl4_1 Z bb kb vs h0 n0) v_ V_.heap L_ ∧ FrameEnd U_ o_ V_ L_ ({ frames := 0, cells := 0, slots := 0, locals := 0 } : Room).cells ({ frames := 0, cells := 0, slots := 0, locals := 0 } : Room).slots) := by
  refine MetFree.of_bodySF (plainFor_of_name pn_0) hisR ?_
  intro p e s m args below meth c s₁ Bd hml0 hP hK
  obtain ⟨rfl, hZ, hh⟩ := hP
  have hx := Bd.exec
  have hby := Bd.bytes
  have hml : c.maxLocals = 2 := hml0
  have hown : s.vm.findClass "java/lang/StringUTF16" = some m.cls := findClass_of_methodNamed Bd.named
  have hnm := (name_of_methodNamed Bd.named Bd.method).1
  have X0 : Stand p l e ({ frames := 0, cells := 0, slots := 0, locals := 0 } : Room) s m #[(.ref bb), (.int (4 : Int32))] below meth c s₁ [] 0 0 := Stand.of_body Bd
  have e0 : s₁.heap = h0 := by rw [← hh, Bd.state]; rfl
  have N0 := Fr.nil n0
  have K0 : Keep h0 h0 [] := Keep.refl _ _
  show own_Fin p.tables e below (own_Post (Q_rm_cl4_1 Z bb kb vs h0 n0) ({ frames := 0, cells := 0, slots := 0, locals := 0 } : Room).cells ({ frames := 0, cells := 0, slots := 0, locals := 0 } : Room).slots below s) _
  refine own_go (fun _ q => castTop (ef_rm_cl4_1 m bb) q) ?_
  refine own_go (fun _ q => XS.iloadN X0.here hx rfl (hb hby d7_0) rfl q) ?_
  refine own_go (fun _ q => XS.aloadN X0.here hx rfl (hb hby d7_1) rfl rfl q) ?_
  show own_Fin _ _ _ _ (s₁.setTop (mkF m 2 #[.val (.ref bb), .val (.int (4 : Int32))] [(.ref bb), (.int (4 : Int32))]))
  refine own_go (fun _ q => own_alen X0 hx hZ e0 V_bb (g := (mkF m 2 #[.val (.ref bb), .val (.int (4 : Int32))] [(.ref bb), (.int (4 : Int32))])) rfl rfl (hb hby d7_2) _ q) ?_
  show own_Fin _ _ _ _ (s₁.setTop (mkF m 3 #[.val (.ref bb), .val (.int (4 : Int32))] [(.int (8 : Int32)), (.int (4 : Int32))]))
  refine own_go (fun _ q => XS.isub X0.here hx rfl (hb hby d7_3) rfl q) ?_
  refine own_go (fun _ q => XS.bipush X0.here hx rfl (hb hby d7_4) q) ?_
  show own_Fin _ _ _ _ (s₁.setTop (mkF m 6 #[.val (.ref bb), .val (.int (4 : Int32))] [(.int (31 : Int32)), (.int (-4 : Int32))]))
  refine own_go (fun _ q => XS.iushr X0.here hx rfl (hb hby d7_6) rfl q) ?_
  show own_Fin _ _ _ _ (s₁.setTop (mkF m 7 #[.val (.ref bb), .val (.int (4 : Int32))] [(.int (((-4 : Int32).toUInt32 >>> ((31 : Int32) &&& 31).toUInt32).toInt32))]))
  refine own_go (fun _ q => XS.i2b X0.here hx rfl (hb hby d7_7) rfl q) ?_
  show own_Fin _ _ _ _ (s₁.setTop (mkF m 8 #[.val (.ref bb), .val (.int (4 : Int32))] [(.int ((((-4 : Int32).toUInt32 >>> ((31 : Int32) &&& 31).toUInt32).toInt32).toInt8.toInt32))]))
  rw [show ((((-4 : Int32).toUInt32 >>> ((31 : Int32) &&& 31).toUInt32).toInt32).toInt8.toInt32) = (1 : Int32) from by decide]
  show own_Fin _ _ _ _ (s₁.setTop (mkF m 8 #[.val (.ref bb), .val (.int (4 : Int32))] [(.int (1 : Int32))]))
  refine own_retI X0 hx Bd (t := .byte) Bd.returns rfl (by simp) (hb hby d7_8) ?_ (by decide) (by decide)
  show (Q_rm_cl4_1 Z bb kb vs h0 n0) (some (.int (1 : Int32))) s₁.heap _
  rw [e0]
  exact ⟨rfl, N0, rfl⟩
def Q_rm_i4_1 (Z : State) (xx : Addr) (bb : Addr) (kb : ClassId) (ch0 : Int32) (gc : Int32) (h0 : Heap) (n0 : Nat) (v : Option Value) (h : Heap) (L : List Loc) : Prop := ∃ t, v = none ∧ Fr n0 L ∧ Keep h0 h [xx] ∧ h0.size ≤ t ∧ own_Str Z h xx t ([ch0] : List Int32)
theorem ef_rm_i4_1 (m : MethodId) (xx : Addr) (bb : Addr) (ch0 : Int32) (gc : Int32) : entryFrame m #[(.ref xx), (.ref bb), (.int (0 : Int32)), (.int (1 : Int32)), .null] 6 = mkF m 0 #[.val (.ref xx), .val (.ref bb), .val (.int (0 : Int32)), .val (.int (1 : Int32)), .val .null, .unset] [] := by first | (simp [entryFrame, mkF, argsToLocals, Value.category]; done) | rfl
set_option maxRecDepth 65536 in
set_option maxHeartbeats 40000000 in
theorem rm_i4_1 (l : Launch) (Z : State) (a0 : Array Value) (hw : ∀ d ∈ tables_1, d.before a0 Z = true) (ws : List Jvm.Cond) (xx : Addr) (bb : Addr) (kb : ClassId) (ch0 : Int32) (gc : Int32) (h0 : Heap) (n0 : Nat) (Z0 : n0 ≤ h0.size) (E_xx : Exa Z h0 xx "java/lang/String") (V_xx : Fld Z h0 xx "java/lang/String" "value" "[B" .null) (C_xx : Fld Z h0 xx "java/lang/String" "coder" "B" (.int (0 : Int32))) (g_xx : n0 ≤ xx) (V_bb : Arv Z h0 bb kb .char (1 : Int32) [(.int ch0)] (.int (0 : Int32))) (hbd : ∀ c ∈ ([ch0] : List Int32), ¬ c < 0 ∧ ¬ (65535 : Int32) < c) (neb : bb ≠ xx) (S_C : Sta Z Z.heap "java/lang/String" "COMPACT_STRINGS" "Z" (.int gc)) (hcs : ¬ gc = 0) (O0 : Old Z n0 h0) (S_A : Sta Z Z.heap "java/lang/StringUTF16" "$assertionsDisabled" "Z" (.int (1 : Int32))) (S_H : Sta Z Z.heap "java/lang/StringUTF16" "HI_BYTE_SHIFT" "I" (.int (0 : Int32))) (S_L : Sta Z Z.heap "java/lang/StringUTF16" "LO_BYTE_SHIFT" "I" (.int (8 : Int32))) :
    MetFree l (⟨"java/lang/String", "<init>", "([CIILjava/lang/Void;)V"⟩ : MethodName) (head1 (Jvm.Cond.code (⟨"java/lang/String", "<init>", "([CIILjava/lang/Void;)V"⟩ : MethodName) jdk_42_method_149_code 6 none :: ws) ({ frames := 4, cells := 2, slots := 3, locals := 57 } : Room)) (fun a_ U_ => a_ = #[(.ref xx), (.ref bb), (.int (0 : Int32)), (.int (1 : Int32)), .null] ∧ Z.Warmed39 U_.vm ∧ U_.heap = h0) (fun _ _ _ _ _ => True) (fun _ U_ o_ V_ => ∃ v_ L_, o_ = .returned v_ ∧ (Q_rm_i4_1 Z xx bb kb ch0 gc h0 n0) v_ V_.heap L_ ∧ FrameEnd U_ o_ V_ L_ ({ frames := 4, cells := 2, slots := 3, locals := 57 } : Room).cells ({ frames := 4, cells := 2, slots := 3, locals := 57 } : Room).slots) := by
  refine MetFree.of_bodySF (plainFor_of_name pn_7) hisR ?_
  intro p e s m args below meth c s₁ Bd hml0 hP hK
  obtain ⟨rfl, hZ, hh⟩ := hP
  have hx := Bd.exec
  have hby := Bd.bytes
  have hml : c.maxLocals = 6 := hml0
  have hown : s.vm.findClass "java/lang/String" = some m.cls := findClass_of_methodNamed Bd.named
  have hnm := (name_of_methodNamed Bd.named Bd.method).1
  have X0 : Stand p l e ({ frames := 4, cells := 2, slots := 3, locals := 57 } : Room) s m #[(.ref xx), (.ref bb), (.int (0 : Int32)), (.int (1 : Int32)), .null] below meth c s₁ [] 0 0 := Stand.of_body Bd
  have e0 : s₁.heap = h0 := by rw [← hh, Bd.state]; rfl
  have N0 := Fr.nil n0
  have K0 : Keep h0 h0 [xx] := Keep.refl _ _
  show own_Fin p.tables e below (own_Post (Q_rm_i4_1 Z xx bb kb ch0 gc h0 n0) ({ frames := 4, cells := 2, slots := 3, locals := 57 } : Room).cells ({ frames := 4, cells := 2, slots := 3, locals := 57 } : Room).slots below s) _
  refine own_go (fun _ q => castTop (ef_rm_i4_1 m xx bb ch0 gc) q) ?_
  refine own_go (fun _ q => XS.aloadN X0.here hx rfl (hb hby d3_0) rfl rfl q) ?_
  show own_Fin _ _ _ _ (s₁.setTop (mkF m 1 #[.val (.ref xx), .val (.ref bb), .val (.int (0 : Int32)), .val (.int (1 : Int32)), .val .null, .unset] [(.ref xx)]))
  obtain ⟨T145, X145, e145, st145⟩ := initO X0 hx hZ hown (own_w hw 17 rfl) (own_w hw 18 rfl) (own_w hw 19 rfl) e0 (g := (mkF m 1 #[.val (.ref xx), .val (.ref bb), .val (.int (0 : Int32)), .val (.int (1 : Int32)), .val .null, .unset] [(.ref xx)])) rfl (by rw [hml]; rfl) rfl (hb hby d3_1) (by decide) (W := 0) (by show 2 * 0 + _ ≤ _; exact Nat.le_of_eq rfl) (by decide)
  refine own_go st145 ?_
  refine own_go (fun _ q => XS.iloadN X145.here hx rfl (hb hby d3_4) rfl q) ?_
  show own_Fin _ _ _ _ (T145.setTop (mkF m 5 #[.val (.ref xx), .val (.ref bb), .val (.int (0 : Int32)), .val (.int (1 : Int32)), .val .null, .unset] [(.int (1 : Int32))]))
  refine own_go (fun _ q => XS.ifYes X145.here hx rfl (pc0 := 5) (pc' := 27) rfl (hb hby d3_5) rfl ((if0 _ _).trans (feq (by decide : ¬ (1 : Int32) = (0 : Int32))).2) (by decide) (by decide) q) ?_
  show own_Fin _ _ _ _ (T145.setTop (mkF m 27 #[.val (.ref xx), .val (.ref bb), .val (.int (0 : Int32)), .val (.int (1 : Int32)), .val .null, .unset] []))
  obtain ⟨T146, X146, e146, st146⟩ := getS2 X145 hx hZ hown (host := "") (Or.inl (own_w hw 20 rfl)) Via.refl e145 (S_C.ext O0.2) (g := (mkF m 27 #[.val (.ref xx), .val (.ref bb), .val (.int (0 : Int32)), .val (.int (1 : Int32)), .val .null, .unset] [])) rfl (hb hby d3_27)
  refine own_go st146 ?_
  show own_Fin _ _ _ _ (T146.setTop (mkF m 30 #[.val (.ref xx), .val (.ref bb), .val (.int (0 : Int32)), .val (.int (1 : Int32)), .val .null, .unset] [(.int gc)]))
  refine own_go (fun _ q => XS.ifNo X146.here hx rfl (hb hby d3_30) rfl ((if0 _ _).trans (feq hcs).1) q) ?_
  refine own_go (fun _ q => XS.aloadN X146.here hx rfl (hb hby d3_33) rfl rfl q) ?_
  refine own_go (fun _ q => XS.iloadN X146.here hx rfl (hb hby d3_34) rfl q) ?_
  refine own_go (fun _ q => XS.iloadN X146.here hx rfl (hb hby d3_35) rfl q) ?_
  show own_Fin _ _ _ _ (T146.setTop (mkF m 36 #[.val (.ref xx), .val (.ref bb), .val (.int (0 : Int32)), .val (.int (1 : Int32)), .val .null, .unset] [(.int (1 : Int32)), (.int (0 : Int32)), (.ref bb)]))
  obtain ⟨_, _, ⟨T147, L147, k147, n147⟩, -, X147, ⟨Lc147, hQ147, l147, y147, z147⟩, st147⟩ := Jvm.LawKit.callS X146 hx (y := (⟨"java/lang/StringUTF16", "compress", "([CII)[B"⟩ : MethodName)) hown (mvT hZ (own_w hw 21 rfl)) (mvT hZ (own_w hw 22 rfl)) (mvT hZ (own_w hw 23 rfl)) (mvT hZ (own_w hw 24 rfl)) (by decide) (backOf (W := 0) (rm_c3_1 l Z a0 hw [] bb kb ch0 h0 n0 (Nat.le_trans Z0 K0.1) V_bb hbd O0 S_A S_H S_L) hZ (own_w hw 24 rfl) (own_w hw 23 rfl) (by decide) (by decide)) (g := (mkF m 36 #[.val (.ref xx), .val (.ref bb), .val (.int (0 : Int32)), .val (.int (1 : Int32)), .val .null, .unset] [(.int (1 : Int32)), (.int (0 : Int32)), (.ref bb)])) rfl (by rw [hml]; rfl) (argsL := [(.ref bb), (.int (0 : Int32)), (.int (1 : Int32))]) (rest := []) (lenOf pd_5 rfl) rfl (by show 2 * 0 + _ ≤ _; exact Nat.le_of_eq rfl) (hb hby d3_36) (fun _ _ => ⟨rfl, e146, (by decide : 0 + 2 ≤ _), (by decide : 0 + 3 ≤ _)⟩)
  dsimp only [Pt.U, Pt.locs, Pt.cells, Pt.slots] at X147 l147 y147 z147 st147 hQ147
  subst l147 y147 z147
  obtain ⟨r147, kk147, rfl, N147q, KK147, sz147, hD147⟩ := hQ147
  have N147 := Fr.app N0 N147q
  have sz_r147 : h0.size ≤ r147 := Nat.le_trans K0.1 sz147
  have g_r147 : n0 ≤ r147 := Nat.le_trans Z0 sz_r147
  have ne148 : xx ≠ r147 := Nat.ne_of_lt (Nat.lt_of_lt_of_le E_xx.lt sz147)
  have ne149 : bb ≠ r147 := Nat.ne_of_lt (Nat.lt_of_lt_of_le V_bb.lt sz147)
  replace E_xx := E_xx.keep KK147
  replace V_xx := V_xx.keep KK147 nin0
  replace C_xx := C_xx.keep KK147 nin0
  replace V_bb := V_bb.keep KK147 nin0
  replace O0 := O0.keep KK147 all0
  have K150 := K0.trans KK147 all0
  rcases hD147 with ⟨hcd147, V147⟩ | ⟨hcd147, V147⟩
  · skip
    refine own_go st147 ?_
    refine own_go (fun _ q => XS.astore X147.here hx rfl (hb hby d3_39) rfl rfl (l' := #[.val (.ref xx), .val (.ref bb), .val (.int (0 : Int32)), .val (.int (1 : Int32)), .val .null, .val (.ref r147)]) rfl q) ?_
    refine own_go (fun _ q => XS.aloadN X147.here hx rfl (hb hby d3_41) rfl rfl q) ?_
    refine own_go (fun _ q => XS.aload X147.here hx rfl (hb hby d3_42) rfl rfl q) ?_
    refine own_go (fun _ q => XS.iloadN X147.here hx rfl (hb hby d3_44) rfl q) ?_
    show own_Fin _ _ _ _ (T147.setTop (mkF m 45 #[.val (.ref xx), .val (.ref bb), .val (.int (0 : Int32)), .val (.int (1 : Int32)), .val .null, .val (.ref r147)] [(.int (1 : Int32)), (.ref r147), (.ref xx)]))
    obtain ⟨_, _, ⟨T151, L151, k151, n151⟩, -, X151, ⟨Lc151, hQ151, l151, y151, z151⟩, st151⟩ := Jvm.LawKit.callS X147 hx (y := (⟨"java/lang/StringUTF16", "coderFromArrayLen", "([BI)B"⟩ : MethodName)) hown (mvT hZ (own_w hw 29 rfl)) (mvT hZ (own_w hw 30 rfl)) (mvT hZ (own_w hw 23 rfl)) (mvT hZ (own_w hw 31 rfl)) (by decide) (backOf (W := 1) (rm_cl1_0 l Z a0 hw [] r147 kk147 [(.int (ch0.toInt8.toInt32))] T147.heap n0 (Nat.le_trans Z0 K150.1) V147) hZ (own_w hw 31 rfl) (own_w hw 23 rfl) (by decide) (by decide)) (g := (mkF m 45 #[.val (.ref xx), .val (.ref bb), .val (.int (0 : Int32)), .val (.int (1 : Int32)), .val .null, .val (.ref r147)] [(.int (1 : Int32)), (.ref r147), (.ref xx)])) rfl (by rw [hml]; rfl) (argsL := [(.ref r147), (.int (1 : Int32))]) (rest := [(.ref xx)]) (lenOf pd_8 rfl) rfl (by show 2 * 0 + _ ≤ _; exact Nat.le_of_eq rfl) (hb hby d3_45) (fun _ _ => ⟨rfl, rfl, (by decide : 2 + 0 ≤ _), (by decide : 3 + 0 ≤ _)⟩)
    dsimp only [Pt.U, Pt.locs, Pt.cells, Pt.slots] at X151 l151 y151 z151 st151 hQ151
    subst l151 y151 z151
    obtain ⟨rfl, N151q, e151⟩ := hQ151
    have N151 := Fr.app N147 N151q
    refine own_go st151 ?_
    show own_Fin _ _ _ _ (T151.setTop (mkF m 48 #[.val (.ref xx), .val (.ref bb), .val (.int (0 : Int32)), .val (.int (1 : Int32)), .val .null, .val (.ref r147)] [(.int (0 : Int32)), (.ref xx)]))
    obtain ⟨T152, h152, X152, e152, W152, st152⟩ := putFN X151 hx hZ hown (own_w hw 32 rfl) Via.refl e151 C_xx E_xx (Or.inr ⟨(own_w hw 33 rfl), rfl, hnm⟩) (own_w hw 8 rfl) (ty := .byte) (v' := .int (0 : Int32)) (by decide) rfl rfl (g := (mkF m 48 #[.val (.ref xx), .val (.ref bb), .val (.int (0 : Int32)), .val (.int (1 : Int32)), .val .null, .val (.ref r147)] [(.int (0 : Int32)), (.ref xx)])) rfl rfl (hb hby d3_48)
    have N152 := Fr.snoc X152 N151 g_xx
    replace C_xx := C_xx.same W152
    refine own_go st152 ?_
    replace E_xx := E_xx.wr W152
    replace V_xx := V_xx.other W152 (Or.inr (slot_ne (Or.inr (own_w hw 35 rfl)) (Or.inr (own_w hw 33 rfl)) (by decide) (t := (.array .byte)) (t' := .byte) (by decide) (by decide)))
    replace V_bb := V_bb.other W152 neb
    replace O0 := O0.wr W152 g_xx
    replace V147 := V147.other W152 (Ne.symm ne148)
    have K153 := K150.wr W152 (Or.inl (by simp))
    refine own_go (fun _ q => XS.aloadN X152.here hx rfl (hb hby d3_51) rfl rfl q) ?_
    refine own_go (fun _ q => XS.aload X152.here hx rfl (hb hby d3_52) rfl rfl q) ?_
    show own_Fin _ _ _ _ (T152.setTop (mkF m 54 #[.val (.ref xx), .val (.ref bb), .val (.int (0 : Int32)), .val (.int (1 : Int32)), .val .null, .val (.ref r147)] [(.ref r147), (.ref xx)]))
    obtain ⟨T154, h154, X154, e154, W154, st154⟩ := putF X152 hx hZ hown (host := "") (Or.inl (own_w hw 34 rfl)) Via.refl e152 V_xx E_xx (Or.inr ⟨(own_w hw 35 rfl), rfl, hnm⟩) (own_w hw 8 rfl) (ty := (.array .byte)) (by decide) rfl rfl (g := (mkF m 54 #[.val (.ref xx), .val (.ref bb), .val (.int (0 : Int32)), .val (.int (1 : Int32)), .val .null, .val (.ref r147)] [(.ref r147), (.ref xx)])) rfl rfl (hb hby d3_54)
    have N154 := Fr.snoc X154 N152 g_xx
    replace V_xx := V_xx.same W154
    refine own_go st154 ?_
    replace E_xx := E_xx.wr W154
    replace C_xx := C_xx.other W154 (Or.inr (slot_ne (Or.inr (own_w hw 33 rfl)) (Or.inr (own_w hw 35 rfl)) (by decide) (t := .byte) (t' := (.array .byte)) (by decide) (by decide)))
    replace V_bb := V_bb.other W154 neb
    replace O0 := O0.wr W154 g_xx
    replace V147 := V147.other W154 (Ne.symm ne148)
    have K155 := K153.wr W154 (Or.inl (by simp))
    show own_Fin _ _ _ _ (T154.setTop (mkF m 57 #[.val (.ref xx), .val (.ref bb), .val (.int (0 : Int32)), .val (.int (1 : Int32)), .val .null, .val (.ref r147)] []))
    refine own_ret0 X154 hx Bd (hb hby d3_57) ?_ (by decide) (by decide)
    show (Q_rm_i4_1 Z xx bb kb ch0 gc h0 n0) none T154.heap _
    rw [e154]
    exact ⟨_, rfl, N154, K155, sz_r147, _, _, _, _, E_xx, V_xx, C_xx, V147, Or.inl ⟨rfl, rfl, rfl, hcd147⟩, hbd, Nat.le_of_ble_eq_true rfl⟩
  · skip
    refine own_go st147 ?_
    refine own_go (fun _ q => XS.astore X147.here hx rfl (hb hby d3_39) rfl rfl (l' := #[.val (.ref xx), .val (.ref bb), .val (.int (0 : Int32)), .val (.int (1 : Int32)), .val .null, .val (.ref r147)]) rfl q) ?_
    refine own_go (fun _ q => XS.aloadN X147.here hx rfl (hb hby d3_41) rfl rfl q) ?_
    refine own_go (fun _ q => XS.aload X147.here hx rfl (hb hby d3_42) rfl rfl q) ?_
    refine own_go (fun _ q => XS.iloadN X147.here hx rfl (hb hby d3_44) rfl q) ?_
    show own_Fin _ _ _ _ (T147.setTop (mkF m 45 #[.val (.ref xx), .val (.ref bb), .val (.int (0 : Int32)), .val (.int (1 : Int32)), .val .null, .val (.ref r147)] [(.int (1 : Int32)), (.ref r147), (.ref xx)]))
    obtain ⟨_, _, ⟨T156, L156, k156, n156⟩, -, X156, ⟨Lc156, hQ156, l156, y156, z156⟩, st156⟩ := Jvm.LawKit.callS X147 hx (y := (⟨"java/lang/StringUTF16", "coderFromArrayLen", "([BI)B"⟩ : MethodName)) hown (mvT hZ (own_w hw 29 rfl)) (mvT hZ (own_w hw 30 rfl)) (mvT hZ (own_w hw 23 rfl)) (mvT hZ (own_w hw 31 rfl)) (by decide) (backOf (W := 1) (rm_cl1_1 l Z a0 hw [] r147 kk147 [(.int (ch0.toInt8.toInt32)), (.int ((ch0 >>> ((8 : Int32) &&& 31)).toInt8.toInt32))] T147.heap n0 (Nat.le_trans Z0 K150.1) V147) hZ (own_w hw 31 rfl) (own_w hw 23 rfl) (by decide) (by decide)) (g := (mkF m 45 #[.val (.ref xx), .val (.ref bb), .val (.int (0 : Int32)), .val (.int (1 : Int32)), .val .null, .val (.ref r147)] [(.int (1 : Int32)), (.ref r147), (.ref xx)])) rfl (by rw [hml]; rfl) (argsL := [(.ref r147), (.int (1 : Int32))]) (rest := [(.ref xx)]) (lenOf pd_8 rfl) rfl (by show 2 * 0 + _ ≤ _; exact Nat.le_of_eq rfl) (hb hby d3_45) (fun _ _ => ⟨rfl, rfl, (by decide : 2 + 0 ≤ _), (by decide : 3 + 0 ≤ _)⟩)
    dsimp only [Pt.U, Pt.locs, Pt.cells, Pt.slots] at X156 l156 y156 z156 st156 hQ156
    subst l156 y156 z156
    obtain ⟨rfl, N156q, e156⟩ := hQ156
    have N156 := Fr.app N147 N156q
    refine own_go st156 ?_
    show own_Fin _ _ _ _ (T156.setTop (mkF m 48 #[.val (.ref xx), .val (.ref bb), .val (.int (0 : Int32)), .val (.int (1 : Int32)), .val .null, .val (.ref r147)] [(.int (1 : Int32)), (.ref xx)]))
    obtain ⟨T157, h157, X157, e157, W157, st157⟩ := putFN X156 hx hZ hown (own_w hw 32 rfl) Via.refl e156 C_xx E_xx (Or.inr ⟨(own_w hw 33 rfl), rfl, hnm⟩) (own_w hw 8 rfl) (ty := .byte) (v' := .int (1 : Int32)) (by decide) rfl rfl (g := (mkF m 48 #[.val (.ref xx), .val (.ref bb), .val (.int (0 : Int32)), .val (.int (1 : Int32)), .val .null, .val (.ref r147)] [(.int (1 : Int32)), (.ref xx)])) rfl rfl (hb hby d3_48)
    have N157 := Fr.snoc X157 N156 g_xx
    replace C_xx := C_xx.same W157
    refine own_go st157 ?_
    replace E_xx := E_xx.wr W157
    replace V_xx := V_xx.other W157 (Or.inr (slot_ne (Or.inr (own_w hw 35 rfl)) (Or.inr (own_w hw 33 rfl)) (by decide) (t := (.array .byte)) (t' := .byte) (by decide) (by decide)))
    replace V_bb := V_bb.other W157 neb
    replace O0 := O0.wr W157 g_xx
    replace V147 := V147.other W157 (Ne.symm ne148)
    have K158 := K150.wr W157 (Or.inl (by simp))
    refine own_go (fun _ q => XS.aloadN X157.here hx rfl (hb hby d3_51) rfl rfl q) ?_
    refine own_go (fun _ q => XS.aload X157.here hx rfl (hb hby d3_52) rfl rfl q) ?_
    show own_Fin _ _ _ _ (T157.setTop (mkF m 54 #[.val (.ref xx), .val (.ref bb), .val (.int (0 : Int32)), .val (.int (1 : Int32)), .val .null, .val (.ref r147)] [(.ref r147), (.ref xx)]))
    obtain ⟨T159, h159, X159, e159, W159, st159⟩ := putF X157 hx hZ hown (host := "") (Or.inl (own_w hw 34 rfl)) Via.refl e157 V_xx E_xx (Or.inr ⟨(own_w hw 35 rfl), rfl, hnm⟩) (own_w hw 8 rfl) (ty := (.array .byte)) (by decide) rfl rfl (g := (mkF m 54 #[.val (.ref xx), .val (.ref bb), .val (.int (0 : Int32)), .val (.int (1 : Int32)), .val .null, .val (.ref r147)] [(.ref r147), (.ref xx)])) rfl rfl (hb hby d3_54)
    have N159 := Fr.snoc X159 N157 g_xx
    replace V_xx := V_xx.same W159
    refine own_go st159 ?_
    replace E_xx := E_xx.wr W159
    replace C_xx := C_xx.other W159 (Or.inr (slot_ne (Or.inr (own_w hw 33 rfl)) (Or.inr (own_w hw 35 rfl)) (by decide) (t := .byte) (t' := (.array .byte)) (by decide) (by decide)))
    replace V_bb := V_bb.other W159 neb
    replace O0 := O0.wr W159 g_xx
    replace V147 := V147.other W159 (Ne.symm ne148)
    have K160 := K158.wr W159 (Or.inl (by simp))
    show own_Fin _ _ _ _ (T159.setTop (mkF m 57 #[.val (.ref xx), .val (.ref bb), .val (.int (0 : Int32)), .val (.int (1 : Int32)), .val .null, .val (.ref r147)] []))
    refine own_ret0 X159 hx Bd (hb hby d3_57) ?_ (by decide) (by decide)
    show (Q_rm_i4_1 Z xx bb kb ch0 gc h0 n0) none T159.heap _
    rw [e159]
    exact ⟨_, rfl, N159, K160, sz_r147, _, _, _, _, E_xx, V_xx, C_xx, V147, Or.inr ⟨rfl, rfl, rfl, hcd147⟩, hbd, Nat.le_of_ble_eq_true rfl⟩
def Q_rm_i4_2 (Z : State) (xx : Addr) (bb : Addr) (kb : ClassId) (ch0 : Int32) (ch1 : Int32) (gc : Int32) (h0 : Heap) (n0 : Nat) (v : Option Value) (h : Heap) (L : List Loc) : Prop := ∃ t, v = none ∧ Fr n0 L ∧ Keep h0 h [xx] ∧ h0.size ≤ t ∧ own_Str Z h xx t ([ch0, ch1] : List Int32)
theorem ef_rm_i4_2 (m : MethodId) (xx : Addr) (bb : Addr) (ch0 : Int32) (ch1 : Int32) (gc : Int32) : entryFrame m #[(.ref xx), (.ref bb), (.int (0 : Int32)), (.int (2 : Int32)), .null] 6 = mkF m 0 #[.val (.ref xx), .val (.ref bb), .val (.int (0 : Int32)), .val (.int (2 : Int32)), .val .null, .unset] [] := by first | (simp [entryFrame, mkF, argsToLocals, Value.category]; done) | rfl
set_option maxRecDepth 65536 in
set_option maxHeartbeats 40000000 in
theorem rm_i4_2 (l : Launch) (Z : State) (a0 : Array Value) (hw : ∀ d ∈ tables_1, d.before a0 Z = true) (ws : List Jvm.Cond) (xx : Addr) (bb : Addr) (kb : ClassId) (ch0 : Int32) (ch1 : Int32) (gc : Int32) (h0 : Heap) (n0 : Nat) (Z0 : n0 ≤ h0.size) (E_xx : Exa Z h0 xx "java/lang/String") (V_xx : Fld Z h0 xx "java/lang/String" "value" "[B" .null) (C_xx : Fld Z h0 xx "java/lang/String" "coder" "B" (.int (0 : Int32))) (g_xx : n0 ≤ xx) (V_bb : Arv Z h0 bb kb .char (2 : Int32) [(.int ch0), (.int ch1)] (.int (0 : Int32))) (hbd : ∀ c ∈ ([ch0, ch1] : List Int32), ¬ c < 0 ∧ ¬ (65535 : Int32) < c) (neb : bb ≠ xx) (S_C : Sta Z Z.heap "java/lang/String" "COMPACT_STRINGS" "Z" (.int gc)) (hcs : ¬ gc = 0) (O0 : Old Z n0 h0) (S_A : Sta Z Z.heap "java/lang/StringUTF16" "$assertionsDisabled" "Z" (.int (1 : Int32))) (S_H : Sta Z Z.heap "java/lang/StringUTF16" "HI_BYTE_SHIFT" "I" (.int (0 : Int32))) (S_L : Sta Z Z.heap "java/lang/StringUTF16" "LO_BYTE_SHIFT" "I" (.int (8 : Int32))) :
    MetFree l (⟨"java/lang/String", "<init>", "([CIILjava/lang/Void;)V"⟩ : MethodName) (head1 (Jvm.Cond.code (⟨"java/lang/String", "<init>", "([CIILjava/lang/Void;)V"⟩ : MethodName) jdk_42_method_149_code 6 none :: ws) ({ frames := 4, cells := 2, slots := 6, locals := 57 } : Room)) (fun a_ U_ => a_ = #[(.ref xx), (.ref bb), (.int (0 : Int32)), (.int (2 : Int32)), .null] ∧ Z.Warmed39 U_.vm ∧ U_.heap = h0) (fun _ _ _ _ _ => True) (fun _ U_ o_ V_ => ∃ v_ L_, o_ = .returned v_ ∧ (Q_rm_i4_2 Z xx bb kb ch0 ch1 gc h0 n0) v_ V_.heap L_ ∧ FrameEnd U_ o_ V_ L_ ({ frames := 4, cells := 2, slots := 6, locals := 57 } : Room).cells ({ frames := 4, cells := 2, slots := 6, locals := 57 } : Room).slots) := by
  refine MetFree.of_bodySF (plainFor_of_name pn_7) hisR ?_
  intro p e s m args below meth c s₁ Bd hml0 hP hK
  obtain ⟨rfl, hZ, hh⟩ := hP
  have hx := Bd.exec
  have hby := Bd.bytes
  have hml : c.maxLocals = 6 := hml0
  have hown : s.vm.findClass "java/lang/String" = some m.cls := findClass_of_methodNamed Bd.named
  have hnm := (name_of_methodNamed Bd.named Bd.method).1
  have X0 : Stand p l e ({ frames := 4, cells := 2, slots := 6, locals := 57 } : Room) s m #[(.ref xx), (.ref bb), (.int (0 : Int32)), (.int (2 : Int32)), .null] below meth c s₁ [] 0 0 := Stand.of_body Bd
  have e0 : s₁.heap = h0 := by rw [← hh, Bd.state]; rfl
  have N0 := Fr.nil n0
  have K0 : Keep h0 h0 [xx] := Keep.refl _ _
  show own_Fin p.tables e below (own_Post (Q_rm_i4_2 Z xx bb kb ch0 ch1 gc h0 n0) ({ frames := 4, cells := 2, slots := 6, locals := 57 } : Room).cells ({ frames := 4, cells := 2, slots := 6, locals := 57 } : Room).slots below s) _
  refine own_go (fun _ q => castTop (ef_rm_i4_2 m xx bb ch0 ch1 gc) q) ?_
  refine own_go (fun _ q => XS.aloadN X0.here hx rfl (hb hby d3_0) rfl rfl q) ?_
  show own_Fin _ _ _ _ (s₁.setTop (mkF m 1 #[.val (.ref xx), .val (.ref bb), .val (.int (0 : Int32)), .val (.int (2 : Int32)), .val .null, .unset] [(.ref xx)]))
  obtain ⟨T161, X161, e161, st161⟩ := initO X0 hx hZ hown (own_w hw 17 rfl) (own_w hw 18 rfl) (own_w hw 19 rfl) e0 (g := (mkF m 1 #[.val (.ref xx), .val (.ref bb), .val (.int (0 : Int32)), .val (.int (2 : Int32)), .val .null, .unset] [(.ref xx)])) rfl (by rw [hml]; rfl) rfl (hb hby d3_1) (by decide) (W := 0) (by show 2 * 0 + _ ≤ _; exact Nat.le_of_eq rfl) (by decide)
  refine own_go st161 ?_
  refine own_go (fun _ q => XS.iloadN X161.here hx rfl (hb hby d3_4) rfl q) ?_
  show own_Fin _ _ _ _ (T161.setTop (mkF m 5 #[.val (.ref xx), .val (.ref bb), .val (.int (0 : Int32)), .val (.int (2 : Int32)), .val .null, .unset] [(.int (2 : Int32))]))
  refine own_go (fun _ q => XS.ifYes X161.here hx rfl (pc0 := 5) (pc' := 27) rfl (hb hby d3_5) rfl ((if0 _ _).trans (feq (by decide : ¬ (2 : Int32) = (0 : Int32))).2) (by decide) (by decide) q) ?_
  show own_Fin _ _ _ _ (T161.setTop (mkF m 27 #[.val (.ref xx), .val (.ref bb), .val (.int (0 : Int32)), .val (.int (2 : Int32)), .val .null, .unset] []))
  obtain ⟨T162, X162, e162, st162⟩ := getS2 X161 hx hZ hown (host := "") (Or.inl (own_w hw 20 rfl)) Via.refl e161 (S_C.ext O0.2) (g := (mkF m 27 #[.val (.ref xx), .val (.ref bb), .val (.int (0 : Int32)), .val (.int (2 : Int32)), .val .null, .unset] [])) rfl (hb hby d3_27)
  refine own_go st162 ?_
  show own_Fin _ _ _ _ (T162.setTop (mkF m 30 #[.val (.ref xx), .val (.ref bb), .val (.int (0 : Int32)), .val (.int (2 : Int32)), .val .null, .unset] [(.int gc)]))
  refine own_go (fun _ q => XS.ifNo X162.here hx rfl (hb hby d3_30) rfl ((if0 _ _).trans (feq hcs).1) q) ?_
  refine own_go (fun _ q => XS.aloadN X162.here hx rfl (hb hby d3_33) rfl rfl q) ?_
  refine own_go (fun _ q => XS.iloadN X162.here hx rfl (hb hby d3_34) rfl q) ?_
  refine own_go (fun _ q => XS.iloadN X162.here hx rfl (hb hby d3_35) rfl q) ?_
  show own_Fin _ _ _ _ (T162.setTop (mkF m 36 #[.val (.ref xx), .val (.ref bb), .val (.int (0 : Int32)), .val (.int (2 : Int32)), .val .null, .unset] [(.int (2 : Int32)), (.int (0 : Int32)), (.ref bb)]))
  obtain ⟨_, _, ⟨T163, L163, k163, n163⟩, -, X163, ⟨Lc163, hQ163, l163, y163, z163⟩, st163⟩ := Jvm.LawKit.callS X162 hx (y := (⟨"java/lang/StringUTF16", "compress", "([CII)[B"⟩ : MethodName)) hown (mvT hZ (own_w hw 21 rfl)) (mvT hZ (own_w hw 22 rfl)) (mvT hZ (own_w hw 23 rfl)) (mvT hZ (own_w hw 24 rfl)) (by decide) (backOf (W := 0) (rm_c3_2 l Z a0 hw [] bb kb ch0 ch1 h0 n0 (Nat.le_trans Z0 K0.1) V_bb hbd O0 S_A S_H S_L) hZ (own_w hw 24 rfl) (own_w hw 23 rfl) (by decide) (by decide)) (g := (mkF m 36 #[.val (.ref xx), .val (.ref bb), .val (.int (0 : Int32)), .val (.int (2 : Int32)), .val .null, .unset] [(.int (2 : Int32)), (.int (0 : Int32)), (.ref bb)])) rfl (by rw [hml]; rfl) (argsL := [(.ref bb), (.int (0 : Int32)), (.int (2 : Int32))]) (rest := []) (lenOf pd_5 rfl) rfl (by show 2 * 0 + _ ≤ _; exact Nat.le_of_eq rfl) (hb hby d3_36) (fun _ _ => ⟨rfl, e162, (by decide : 0 + 2 ≤ _), (by decide : 0 + 6 ≤ _)⟩)
  dsimp only [Pt.U, Pt.locs, Pt.cells, Pt.slots] at X163 l163 y163 z163 st163 hQ163
  subst l163 y163 z163
  obtain ⟨r163, kk163, rfl, N163q, KK163, sz163, hD163⟩ := hQ163
  have N163 := Fr.app N0 N163q
  have sz_r163 : h0.size ≤ r163 := Nat.le_trans K0.1 sz163
  have g_r163 : n0 ≤ r163 := Nat.le_trans Z0 sz_r163
  have ne164 : xx ≠ r163 := Nat.ne_of_lt (Nat.lt_of_lt_of_le E_xx.lt sz163)
  have ne165 : bb ≠ r163 := Nat.ne_of_lt (Nat.lt_of_lt_of_le V_bb.lt sz163)
  replace E_xx := E_xx.keep KK163
  replace V_xx := V_xx.keep KK163 nin0
  replace C_xx := C_xx.keep KK163 nin0
  replace V_bb := V_bb.keep KK163 nin0
  replace O0 := O0.keep KK163 all0
  have K166 := K0.trans KK163 all0
  rcases hD163 with ⟨hcd163, V163⟩ | ⟨hcd163, V163⟩
  · skip
    refine own_go st163 ?_
    refine own_go (fun _ q => XS.astore X163.here hx rfl (hb hby d3_39) rfl rfl (l' := #[.val (.ref xx), .val (.ref bb), .val (.int (0 : Int32)), .val (.int (2 : Int32)), .val .null, .val (.ref r163)]) rfl q) ?_
    refine own_go (fun _ q => XS.aloadN X163.here hx rfl (hb hby d3_41) rfl rfl q) ?_
    refine own_go (fun _ q => XS.aload X163.here hx rfl (hb hby d3_42) rfl rfl q) ?_
    refine own_go (fun _ q => XS.iloadN X163.here hx rfl (hb hby d3_44) rfl q) ?_
    show own_Fin _ _ _ _ (T163.setTop (mkF m 45 #[.val (.ref xx), .val (.ref bb), .val (.int (0 : Int32)), .val (.int (2 : Int32)), .val .null, .val (.ref r163)] [(.int (2 : Int32)), (.ref r163), (.ref xx)]))
    obtain ⟨_, _, ⟨T167, L167, k167, n167⟩, -, X167, ⟨Lc167, hQ167, l167, y167, z167⟩, st167⟩ := Jvm.LawKit.callS X163 hx (y := (⟨"java/lang/StringUTF16", "coderFromArrayLen", "([BI)B"⟩ : MethodName)) hown (mvT hZ (own_w hw 29 rfl)) (mvT hZ (own_w hw 30 rfl)) (mvT hZ (own_w hw 23 rfl)) (mvT hZ (own_w hw 31 rfl)) (by decide) (backOf (W := 1) (rm_cl2_0 l Z a0 hw [] r163 kk163 [(.int (ch0.toInt8.toInt32)), (.int (ch1.toInt8.toInt32))] T163.heap n0 (Nat.le_trans Z0 K166.1) V163) hZ (own_w hw 31 rfl) (own_w hw 23 rfl) (by decide) (by decide)) (g := (mkF m 45 #[.val (.ref xx), .val (.ref bb), .val (.int (0 : Int32)), .val (.int (2 : Int32)), .val .null, .val (.ref r163)] [(.int (2 : Int32)), (.ref r163), (.ref xx)])) rfl (by rw [hml]; rfl) (argsL := [(.ref r163), (.int (2 : Int32))]) (rest := [(.ref xx)]) (lenOf pd_8 rfl) rfl (by show 2 * 0 + _ ≤ _; exact Nat.le_of_eq rfl) (hb hby d3_45) (fun _ _ => ⟨rfl, rfl, (by decide : 2 + 0 ≤ _), (by decide : 6 + 0 ≤ _)⟩)
    dsimp only [Pt.U, Pt.locs, Pt.cells, Pt.slots] at X167 l167 y167 z167 st167 hQ167
    subst l167 y167 z167
    obtain ⟨rfl, N167q, e167⟩ := hQ167
    have N167 := Fr.app N163 N167q
    refine own_go st167 ?_
    show own_Fin _ _ _ _ (T167.setTop (mkF m 48 #[.val (.ref xx), .val (.ref bb), .val (.int (0 : Int32)), .val (.int (2 : Int32)), .val .null, .val (.ref r163)] [(.int (0 : Int32)), (.ref xx)]))
    obtain ⟨T168, h168, X168, e168, W168, st168⟩ := putFN X167 hx hZ hown (own_w hw 32 rfl) Via.refl e167 C_xx E_xx (Or.inr ⟨(own_w hw 33 rfl), rfl, hnm⟩) (own_w hw 8 rfl) (ty := .byte) (v' := .int (0 : Int32)) (by decide) rfl rfl (g := (mkF m 48 #[.val (.ref xx), .val (.ref bb), .val (.int (0 : Int32)), .val (.int (2 : Int32)), .val .null, .val (.ref r163)] [(.int (0 : Int32)), (.ref xx)])) rfl rfl (hb hby d3_48)
    have N168 := Fr.snoc X168 N167 g_xx
    replace C_xx := C_xx.same W168
    refine own_go st168 ?_
    replace E_xx := E_xx.wr W168
    replace V_xx := V_xx.other W168 (Or.inr (slot_ne (Or.inr (own_w hw 35 rfl)) (Or.inr (own_w hw 33 rfl)) (by decide) (t := (.array .byte)) (t' := .byte) (by decide) (by decide)))
    replace V_bb := V_bb.other W168 neb
    replace O0 := O0.wr W168 g_xx
    replace V163 := V163.other W168 (Ne.symm ne164)
    have K169 := K166.wr W168 (Or.inl (by simp))
    refine own_go (fun _ q => XS.aloadN X168.here hx rfl (hb hby d3_51) rfl rfl q) ?_
    refine own_go (fun _ q => XS.aload X168.here hx rfl (hb hby d3_52) rfl rfl q) ?_
    show own_Fin _ _ _ _ (T168.setTop (mkF m 54 #[.val (.ref xx), .val (.ref bb), .val (.int (0 : Int32)), .val (.int (2 : Int32)), .val .null, .val (.ref r163)] [(.ref r163), (.ref xx)]))
    obtain ⟨T170, h170, X170, e170, W170, st170⟩ := putF X168 hx hZ hown (host := "") (Or.inl (own_w hw 34 rfl)) Via.refl e168 V_xx E_xx (Or.inr ⟨(own_w hw 35 rfl), rfl, hnm⟩) (own_w hw 8 rfl) (ty := (.array .byte)) (by decide) rfl rfl (g := (mkF m 54 #[.val (.ref xx), .val (.ref bb), .val (.int (0 : Int32)), .val (.int (2 : Int32)), .val .null, .val (.ref r163)] [(.ref r163), (.ref xx)])) rfl rfl (hb hby d3_54)
    have N170 := Fr.snoc X170 N168 g_xx
    replace V_xx := V_xx.same W170
    refine own_go st170 ?_
    replace E_xx := E_xx.wr W170
    replace C_xx := C_xx.other W170 (Or.inr (slot_ne (Or.inr (own_w hw 33 rfl)) (Or.inr (own_w hw 35 rfl)) (by decide) (t := .byte) (t' := (.array .byte)) (by decide) (by decide)))
    replace V_bb := V_bb.other W170 neb
    replace O0 := O0.wr W170 g_xx
    replace V163 := V163.other W170 (Ne.symm ne164)
    have K171 := K169.wr W170 (Or.inl (by simp))
    show own_Fin _ _ _ _ (T170.setTop (mkF m 57 #[.val (.ref xx), .val (.ref bb), .val (.int (0 : Int32)), .val (.int (2 : Int32)), .val .null, .val (.ref r163)] []))
    refine own_ret0 X170 hx Bd (hb hby d3_57) ?_ (by decide) (by decide)
    show (Q_rm_i4_2 Z xx bb kb ch0 ch1 gc h0 n0) none T170.heap _
    rw [e170]
    exact ⟨_, rfl, N170, K171, sz_r163, _, _, _, _, E_xx, V_xx, C_xx, V163, Or.inl ⟨rfl, rfl, rfl, hcd163⟩, hbd, Nat.le_of_ble_eq_true rfl⟩
  · skip
    refine own_go st163 ?_
    refine own_go (fun _ q => XS.astore X163.here hx rfl (hb hby d3_39) rfl rfl (l' := #[.val (.ref xx), .val (.ref bb), .val (.int (0 : Int32)), .val (.int (2 : Int32)), .val .null, .val (.ref r163)]) rfl q) ?_
    refine own_go (fun _ q => XS.aloadN X163.here hx rfl (hb hby d3_41) rfl rfl q) ?_
    refine own_go (fun _ q => XS.aload X163.here hx rfl (hb hby d3_42) rfl rfl q) ?_
    refine own_go (fun _ q => XS.iloadN X163.here hx rfl (hb hby d3_44) rfl q) ?_
    show own_Fin _ _ _ _ (T163.setTop (mkF m 45 #[.val (.ref xx), .val (.ref bb), .val (.int (0 : Int32)), .val (.int (2 : Int32)), .val .null, .val (.ref r163)] [(.int (2 : Int32)), (.ref r163), (.ref xx)]))
    obtain ⟨_, _, ⟨T172, L172, k172, n172⟩, -, X172, ⟨Lc172, hQ172, l172, y172, z172⟩, st172⟩ := Jvm.LawKit.callS X163 hx (y := (⟨"java/lang/StringUTF16", "coderFromArrayLen", "([BI)B"⟩ : MethodName)) hown (mvT hZ (own_w hw 29 rfl)) (mvT hZ (own_w hw 30 rfl)) (mvT hZ (own_w hw 23 rfl)) (mvT hZ (own_w hw 31 rfl)) (by decide) (backOf (W := 1) (rm_cl2_1 l Z a0 hw [] r163 kk163 [(.int (ch0.toInt8.toInt32)), (.int ((ch0 >>> ((8 : Int32) &&& 31)).toInt8.toInt32)), (.int (ch1.toInt8.toInt32)), (.int ((ch1 >>> ((8 : Int32) &&& 31)).toInt8.toInt32))] T163.heap n0 (Nat.le_trans Z0 K166.1) V163) hZ (own_w hw 31 rfl) (own_w hw 23 rfl) (by decide) (by decide)) (g := (mkF m 45 #[.val (.ref xx), .val (.ref bb), .val (.int (0 : Int32)), .val (.int (2 : Int32)), .val .null, .val (.ref r163)] [(.int (2 : Int32)), (.ref r163), (.ref xx)])) rfl (by rw [hml]; rfl) (argsL := [(.ref r163), (.int (2 : Int32))]) (rest := [(.ref xx)]) (lenOf pd_8 rfl) rfl (by show 2 * 0 + _ ≤ _; exact Nat.le_of_eq rfl) (hb hby d3_45) (fun _ _ => ⟨rfl, rfl, (by decide : 2 + 0 ≤ _), (by decide : 6 + 0 ≤ _)⟩)
    dsimp only [Pt.U, Pt.locs, Pt.cells, Pt.slots] at X172 l172 y172 z172 st172 hQ172
    subst l172 y172 z172
    obtain ⟨rfl, N172q, e172⟩ := hQ172
    have N172 := Fr.app N163 N172q
    refine own_go st172 ?_
    show own_Fin _ _ _ _ (T172.setTop (mkF m 48 #[.val (.ref xx), .val (.ref bb), .val (.int (0 : Int32)), .val (.int (2 : Int32)), .val .null, .val (.ref r163)] [(.int (1 : Int32)), (.ref xx)]))
    obtain ⟨T173, h173, X173, e173, W173, st173⟩ := putFN X172 hx hZ hown (own_w hw 32 rfl) Via.refl e172 C_xx E_xx (Or.inr ⟨(own_w hw 33 rfl), rfl, hnm⟩) (own_w hw 8 rfl) (ty := .byte) (v' := .int (1 : Int32)) (by decide) rfl rfl (g := (mkF m 48 #[.val (.ref xx), .val (.ref bb), .val (.int (0 : Int32)), .val (.int (2 : Int32)), .val .null, .val (.ref r163)] [(.int (1 : Int32)), (.ref xx)])) rfl rfl (hb hby d3_48)
    have N173 := Fr.snoc X173 N172 g_xx
    replace C_xx := C_xx.same W173
    refine own_go st173 ?_
    replace E_xx := E_xx.wr W173
    replace V_xx := V_xx.other W173 (Or.inr (slot_ne (Or.inr (own_w hw 35 rfl)) (Or.inr (own_w hw 33 rfl)) (by decide) (t := (.array .byte)) (t' := .byte) (by decide) (by decide)))
    replace V_bb := V_bb.other W173 neb
    replace O0 := O0.wr W173 g_xx
    replace V163 := V163.other W173 (Ne.symm ne164)
    have K174 := K166.wr W173 (Or.inl (by simp))
    refine own_go (fun _ q => XS.aloadN X173.here hx rfl (hb hby d3_51) rfl rfl q) ?_
    refine own_go (fun _ q => XS.aload X173.here hx rfl (hb hby d3_52) rfl rfl q) ?_
    show own_Fin _ _ _ _ (T173.setTop (mkF m 54 #[.val (.ref xx), .val (.ref bb), .val (.int (0 : Int32)), .val (.int (2 : Int32)), .val .null, .val (.ref r163)] [(.ref r163), (.ref xx)]))
    obtain ⟨T175, h175, X175, e175, W175, st175⟩ := putF X173 hx hZ hown (host := "") (Or.inl (own_w hw 34 rfl)) Via.refl e173 V_xx E_xx (Or.inr ⟨(own_w hw 35 rfl), rfl, hnm⟩) (own_w hw 8 rfl) (ty := (.array .byte)) (by decide) rfl rfl (g := (mkF m 54 #[.val (.ref xx), .val (.ref bb), .val (.int (0 : Int32)), .val (.int (2 : Int32)), .val .null, .val (.ref r163)] [(.ref r163), (.ref xx)])) rfl rfl (hb hby d3_54)
    have N175 := Fr.snoc X175 N173 g_xx
    replace V_xx := V_xx.same W175
    refine own_go st175 ?_
    replace E_xx := E_xx.wr W175
    replace C_xx := C_xx.other W175 (Or.inr (slot_ne (Or.inr (own_w hw 33 rfl)) (Or.inr (own_w hw 35 rfl)) (by decide) (t := .byte) (t' := (.array .byte)) (by decide) (by decide)))
    replace V_bb := V_bb.other W175 neb
    replace O0 := O0.wr W175 g_xx
    replace V163 := V163.other W175 (Ne.symm ne164)
    have K176 := K174.wr W175 (Or.inl (by simp))
    show own_Fin _ _ _ _ (T175.setTop (mkF m 57 #[.val (.ref xx), .val (.ref bb), .val (.int (0 : Int32)), .val (.int (2 : Int32)), .val .null, .val (.ref r163)] []))
    refine own_ret0 X175 hx Bd (hb hby d3_57) ?_ (by decide) (by decide)
    show (Q_rm_i4_2 Z xx bb kb ch0 ch1 gc h0 n0) none T175.heap _
    rw [e175]
    exact ⟨_, rfl, N175, K176, sz_r163, _, _, _, _, E_xx, V_xx, C_xx, V163, Or.inr ⟨rfl, rfl, rfl, hcd163⟩, hbd, Nat.le_of_ble_eq_true rfl⟩
def Q_rm_i4_3 (Z : State) (xx : Addr) (bb : Addr) (kb : ClassId) (ch0 : Int32) (ch1 : Int32) (ch2 : Int32) (gc : Int32) (h0 : Heap) (n0 : Nat) (v : Option Value) (h : Heap) (L : List Loc) : Prop := ∃ t, v = none ∧ Fr n0 L ∧ Keep h0 h [xx] ∧ h0.size ≤ t ∧ own_Str Z h xx t ([ch0, ch1, ch2] : List Int32)
theorem ef_rm_i4_3 (m : MethodId) (xx : Addr) (bb : Addr) (ch0 : Int32) (ch1 : Int32) (ch2 : Int32) (gc : Int32) : entryFrame m #[(.ref xx), (.ref bb), (.int (0 : Int32)), (.int (3 : Int32)), .null] 6 = mkF m 0 #[.val (.ref xx), .val (.ref bb), .val (.int (0 : Int32)), .val (.int (3 : Int32)), .val .null, .unset] [] := by first | (simp [entryFrame, mkF, argsToLocals, Value.category]; done) | rfl
set_option maxRecDepth 65536 in
set_option maxHeartbeats 40000000 in
theorem rm_i4_3 (l : Launch) (Z : State) (a0 : Array Value) (hw : ∀ d ∈ tables_1, d.before a0 Z = true) (ws : List Jvm.Cond) (xx : Addr) (bb : Addr) (kb : ClassId) (ch0 : Int32) (ch1 : Int32) (ch2 : Int32) (gc : Int32) (h0 : Heap) (n0 : Nat) (Z0 : n0 ≤ h0.size) (E_xx : Exa Z h0 xx "java/lang/String") (V_xx : Fld Z h0 xx "java/lang/String" "value" "[B" .null) (C_xx : Fld Z h0 xx "java/lang/String" "coder" "B" (.int (0 : Int32))) (g_xx : n0 ≤ xx) (V_bb : Arv Z h0 bb kb .char (3 : Int32) [(.int ch0), (.int ch1), (.int ch2)] (.int (0 : Int32))) (hbd : ∀ c ∈ ([ch0, ch1, ch2] : List Int32), ¬ c < 0 ∧ ¬ (65535 : Int32) < c) (neb : bb ≠ xx) (S_C : Sta Z Z.heap "java/lang/String" "COMPACT_STRINGS" "Z" (.int gc)) (hcs : ¬ gc = 0) (O0 : Old Z n0 h0) (S_A : Sta Z Z.heap "java/lang/StringUTF16" "$assertionsDisabled" "Z" (.int (1 : Int32))) (S_H : Sta Z Z.heap "java/lang/StringUTF16" "HI_BYTE_SHIFT" "I" (.int (0 : Int32))) (S_L : Sta Z Z.heap "java/lang/StringUTF16" "LO_BYTE_SHIFT" "I" (.int (8 : Int32))) :
    MetFree l (⟨"java/lang/String", "<init>", "([CIILjava/lang/Void;)V"⟩ : MethodName) (head1 (Jvm.Cond.code (⟨"java/lang/String", "<init>", "([CIILjava/lang/Void;)V"⟩ : MethodName) jdk_42_method_149_code 6 none :: ws) ({ frames := 4, cells := 2, slots := 9, locals := 57 } : Room)) (fun a_ U_ => a_ = #[(.ref xx), (.ref bb), (.int (0 : Int32)), (.int (3 : Int32)), .null] ∧ Z.Warmed39 U_.vm ∧ U_.heap = h0) (fun _ _ _ _ _ => True) (fun _ U_ o_ V_ => ∃ v_ L_, o_ = .returned v_ ∧ (Q_rm_i4_3 Z xx bb kb ch0 ch1 ch2 gc h0 n0) v_ V_.heap L_ ∧ FrameEnd U_ o_ V_ L_ ({ frames := 4, cells := 2, slots := 9, locals := 57 } : Room).cells ({ frames := 4, cells := 2, slots := 9, locals := 57 } : Room).slots) := by
  refine MetFree.of_bodySF (plainFor_of_name pn_7) hisR ?_
  intro p e s m args below meth c s₁ Bd hml0 hP hK
  obtain ⟨rfl, hZ, hh⟩ := hP
  have hx := Bd.exec
  have hby := Bd.bytes
  have hml : c.maxLocals = 6 := hml0
  have hown : s.vm.findClass "java/lang/String" = some m.cls := findClass_of_methodNamed Bd.named
  have hnm := (name_of_methodNamed Bd.named Bd.method).1
  have X0 : Stand p l e ({ frames := 4, cells := 2, slots := 9, locals := 57 } : Room) s m #[(.ref xx), (.ref bb), (.int (0 : Int32)), (.int (3 : Int32)), .null] below meth c s₁ [] 0 0 := Stand.of_body Bd
  have e0 : s₁.heap = h0 := by rw [← hh, Bd.state]; rfl
  have N0 := Fr.nil n0
  have K0 : Keep h0 h0 [xx] := Keep.refl _ _
  show own_Fin p.tables e below (own_Post (Q_rm_i4_3 Z xx bb kb ch0 ch1 ch2 gc h0 n0) ({ frames := 4, cells := 2, slots := 9, locals := 57 } : Room).cells ({ frames := 4, cells := 2, slots := 9, locals := 57 } : Room).slots below s) _
  refine own_go (fun _ q => castTop (ef_rm_i4_3 m xx bb ch0 ch1 ch2 gc) q) ?_
  refine own_go (fun _ q => XS.aloadN X0.here hx rfl (hb hby d3_0) rfl rfl q) ?_
  show own_Fin _ _ _ _ (s₁.setTop (mkF m 1 #[.val (.ref xx), .val (.ref bb), .val (.int (0 : Int32)), .val (.int (3 : Int32)), .val .null, .unset] [(.ref xx)]))
  obtain ⟨T177, X177, e177, st177⟩ := initO X0 hx hZ hown (own_w hw 17 rfl) (own_w hw 18 rfl) (own_w hw 19 rfl) e0 (g := (mkF m 1 #[.val (.ref xx), .val (.ref bb), .val (.int (0 : Int32)), .val (.int (3 : Int32)), .val .null, .unset] [(.ref xx)])) rfl (by rw [hml]; rfl) rfl (hb hby d3_1) (by decide) (W := 0) (by show 2 * 0 + _ ≤ _; exact Nat.le_of_eq rfl) (by decide)
  refine own_go st177 ?_
  refine own_go (fun _ q => XS.iloadN X177.here hx rfl (hb hby d3_4) rfl q) ?_
  show own_Fin _ _ _ _ (T177.setTop (mkF m 5 #[.val (.ref xx), .val (.ref bb), .val (.int (0 : Int32)), .val (.int (3 : Int32)), .val .null, .unset] [(.int (3 : Int32))]))
  refine own_go (fun _ q => XS.ifYes X177.here hx rfl (pc0 := 5) (pc' := 27) rfl (hb hby d3_5) rfl ((if0 _ _).trans (feq (by decide : ¬ (3 : Int32) = (0 : Int32))).2) (by decide) (by decide) q) ?_
  show own_Fin _ _ _ _ (T177.setTop (mkF m 27 #[.val (.ref xx), .val (.ref bb), .val (.int (0 : Int32)), .val (.int (3 : Int32)), .val .null, .unset] []))
  obtain ⟨T178, X178, e178, st178⟩ := getS2 X177 hx hZ hown (host := "") (Or.inl (own_w hw 20 rfl)) Via.refl e177 (S_C.ext O0.2) (g := (mkF m 27 #[.val (.ref xx), .val (.ref bb), .val (.int (0 : Int32)), .val (.int (3 : Int32)), .val .null, .unset] [])) rfl (hb hby d3_27)
  refine own_go st178 ?_
  show own_Fin _ _ _ _ (T178.setTop (mkF m 30 #[.val (.ref xx), .val (.ref bb), .val (.int (0 : Int32)), .val (.int (3 : Int32)), .val .null, .unset] [(.int gc)]))
  refine own_go (fun _ q => XS.ifNo X178.here hx rfl (hb hby d3_30) rfl ((if0 _ _).trans (feq hcs).1) q) ?_
  refine own_go (fun _ q => XS.aloadN X178.here hx rfl (hb hby d3_33) rfl rfl q) ?_
  refine own_go (fun _ q => XS.iloadN X178.here hx rfl (hb hby d3_34) rfl q) ?_
  refine own_go (fun _ q => XS.iloadN X178.here hx rfl (hb hby d3_35) rfl q) ?_
  show own_Fin _ _ _ _ (T178.setTop (mkF m 36 #[.val (.ref xx), .val (.ref bb), .val (.int (0 : Int32)), .val (.int (3 : Int32)), .val .null, .unset] [(.int (3 : Int32)), (.int (0 : Int32)), (.ref bb)]))
  obtain ⟨_, _, ⟨T179, L179, k179, n179⟩, -, X179, ⟨Lc179, hQ179, l179, y179, z179⟩, st179⟩ := Jvm.LawKit.callS X178 hx (y := (⟨"java/lang/StringUTF16", "compress", "([CII)[B"⟩ : MethodName)) hown (mvT hZ (own_w hw 21 rfl)) (mvT hZ (own_w hw 22 rfl)) (mvT hZ (own_w hw 23 rfl)) (mvT hZ (own_w hw 24 rfl)) (by decide) (backOf (W := 0) (rm_c3_3 l Z a0 hw [] bb kb ch0 ch1 ch2 h0 n0 (Nat.le_trans Z0 K0.1) V_bb hbd O0 S_A S_H S_L) hZ (own_w hw 24 rfl) (own_w hw 23 rfl) (by decide) (by decide)) (g := (mkF m 36 #[.val (.ref xx), .val (.ref bb), .val (.int (0 : Int32)), .val (.int (3 : Int32)), .val .null, .unset] [(.int (3 : Int32)), (.int (0 : Int32)), (.ref bb)])) rfl (by rw [hml]; rfl) (argsL := [(.ref bb), (.int (0 : Int32)), (.int (3 : Int32))]) (rest := []) (lenOf pd_5 rfl) rfl (by show 2 * 0 + _ ≤ _; exact Nat.le_of_eq rfl) (hb hby d3_36) (fun _ _ => ⟨rfl, e178, (by decide : 0 + 2 ≤ _), (by decide : 0 + 9 ≤ _)⟩)
  dsimp only [Pt.U, Pt.locs, Pt.cells, Pt.slots] at X179 l179 y179 z179 st179 hQ179
  subst l179 y179 z179
  obtain ⟨r179, kk179, rfl, N179q, KK179, sz179, hD179⟩ := hQ179
  have N179 := Fr.app N0 N179q
  have sz_r179 : h0.size ≤ r179 := Nat.le_trans K0.1 sz179
  have g_r179 : n0 ≤ r179 := Nat.le_trans Z0 sz_r179
  have ne180 : xx ≠ r179 := Nat.ne_of_lt (Nat.lt_of_lt_of_le E_xx.lt sz179)
  have ne181 : bb ≠ r179 := Nat.ne_of_lt (Nat.lt_of_lt_of_le V_bb.lt sz179)
  replace E_xx := E_xx.keep KK179
  replace V_xx := V_xx.keep KK179 nin0
  replace C_xx := C_xx.keep KK179 nin0
  replace V_bb := V_bb.keep KK179 nin0
  replace O0 := O0.keep KK179 all0
  have K182 := K0.trans KK179 all0
  rcases hD179 with ⟨hcd179, V179⟩ | ⟨hcd179, V179⟩
  · skip
    refine own_go st179 ?_
    refine own_go (fun _ q => XS.astore X179.here hx rfl (hb hby d3_39) rfl rfl (l' := #[.val (.ref xx), .val (.ref bb), .val (.int (0 : Int32)), .val (.int (3 : Int32)), .val .null, .val (.ref r179)]) rfl q) ?_
    refine own_go (fun _ q => XS.aloadN X179.here hx rfl (hb hby d3_41) rfl rfl q) ?_
    refine own_go (fun _ q => XS.aload X179.here hx rfl (hb hby d3_42) rfl rfl q) ?_
    refine own_go (fun _ q => XS.iloadN X179.here hx rfl (hb hby d3_44) rfl q) ?_
    show own_Fin _ _ _ _ (T179.setTop (mkF m 45 #[.val (.ref xx), .val (.ref bb), .val (.int (0 : Int32)), .val (.int (3 : Int32)), .val .null, .val (.ref r179)] [(.int (3 : Int32)), (.ref r179), (.ref xx)]))
    obtain ⟨_, _, ⟨T183, L183, k183, n183⟩, -, X183, ⟨Lc183, hQ183, l183, y183, z183⟩, st183⟩ := Jvm.LawKit.callS X179 hx (y := (⟨"java/lang/StringUTF16", "coderFromArrayLen", "([BI)B"⟩ : MethodName)) hown (mvT hZ (own_w hw 29 rfl)) (mvT hZ (own_w hw 30 rfl)) (mvT hZ (own_w hw 23 rfl)) (mvT hZ (own_w hw 31 rfl)) (by decide) (backOf (W := 1) (rm_cl3_0 l Z a0 hw [] r179 kk179 [(.int (ch0.toInt8.toInt32)), (.int (ch1.toInt8.toInt32)), (.int (ch2.toInt8.toInt32))] T179.heap n0 (Nat.le_trans Z0 K182.1) V179) hZ (own_w hw 31 rfl) (own_w hw 23 rfl) (by decide) (by decide)) (g := (mkF m 45 #[.val (.ref xx), .val (.ref bb), .val (.int (0 : Int32)), .val (.int (3 : Int32)), .val .null, .val (.ref r179)] [(.int (3 : Int32)), (.ref r179), (.ref xx)])) rfl (by rw [hml]; rfl) (argsL := [(.ref r179), (.int (3 : Int32))]) (rest := [(.ref xx)]) (lenOf pd_8 rfl) rfl (by show 2 * 0 + _ ≤ _; exact Nat.le_of_eq rfl) (hb hby d3_45) (fun _ _ => ⟨rfl, rfl, (by decide : 2 + 0 ≤ _), (by decide : 9 + 0 ≤ _)⟩)
    dsimp only [Pt.U, Pt.locs, Pt.cells, Pt.slots] at X183 l183 y183 z183 st183 hQ183
    subst l183 y183 z183
    obtain ⟨rfl, N183q, e183⟩ := hQ183
    have N183 := Fr.app N179 N183q
    refine own_go st183 ?_
    show own_Fin _ _ _ _ (T183.setTop (mkF m 48 #[.val (.ref xx), .val (.ref bb), .val (.int (0 : Int32)), .val (.int (3 : Int32)), .val .null, .val (.ref r179)] [(.int (0 : Int32)), (.ref xx)]))
    obtain ⟨T184, h184, X184, e184, W184, st184⟩ := putFN X183 hx hZ hown (own_w hw 32 rfl) Via.refl e183 C_xx E_xx (Or.inr ⟨(own_w hw 33 rfl), rfl, hnm⟩) (own_w hw 8 rfl) (ty := .byte) (v' := .int (0 : Int32)) (by decide) rfl rfl (g := (mkF m 48 #[.val (.ref xx), .val (.ref bb), .val (.int (0 : Int32)), .val (.int (3 : Int32)), .val .null, .val (.ref r179)] [(.int (0 : Int32)), (.ref xx)])) rfl rfl (hb hby d3_48)
    have N184 := Fr.snoc X184 N183 g_xx
    replace C_xx := C_xx.same W184
    refine own_go st184 ?_
    replace E_xx := E_xx.wr W184
    replace V_xx := V_xx.other W184 (Or.inr (slot_ne (Or.inr (own_w hw 35 rfl)) (Or.inr (own_w hw 33 rfl)) (by decide) (t := (.array .byte)) (t' := .byte) (by decide) (by decide)))
    replace V_bb := V_bb.other W184 neb
    replace O0 := O0.wr W184 g_xx
    replace V179 := V179.other W184 (Ne.symm ne180)
    have K185 := K182.wr W184 (Or.inl (by simp))
    refine own_go (fun _ q => XS.aloadN X184.here hx rfl (hb hby d3_51) rfl rfl q) ?_
    refine own_go (fun _ q => XS.aload X184.here hx rfl (hb hby d3_52) rfl rfl q) ?_
    show own_Fin _ _ _ _ (T184.setTop (mkF m 54 #[.val (.ref xx), .val (.ref bb), .val (.int (0 : Int32)), .val (.int (3 : Int32)), .val .null, .val (.ref r179)] [(.ref r179), (.ref xx)]))
    obtain ⟨T186, h186, X186, e186, W186, st186⟩ := putF X184 hx hZ hown (host := "") (Or.inl (own_w hw 34 rfl)) Via.refl e184 V_xx E_xx (Or.inr ⟨(own_w hw 35 rfl), rfl, hnm⟩) (own_w hw 8 rfl) (ty := (.array .byte)) (by decide) rfl rfl (g := (mkF m 54 #[.val (.ref xx), .val (.ref bb), .val (.int (0 : Int32)), .val (.int (3 : Int32)), .val .null, .val (.ref r179)] [(.ref r179), (.ref xx)])) rfl rfl (hb hby d3_54)
    have N186 := Fr.snoc X186 N184 g_xx
    replace V_xx := V_xx.same W186
    refine own_go st186 ?_
    replace E_xx := E_xx.wr W186
    replace C_xx := C_xx.other W186 (Or.inr (slot_ne (Or.inr (own_w hw 33 rfl)) (Or.inr (own_w hw 35 rfl)) (by decide) (t := .byte) (t' := (.array .byte)) (by decide) (by decide)))
    replace V_bb := V_bb.other W186 neb
    replace O0 := O0.wr W186 g_xx
    replace V179 := V179.other W186 (Ne.symm ne180)
    have K187 := K185.wr W186 (Or.inl (by simp))
    show own_Fin _ _ _ _ (T186.setTop (mkF m 57 #[.val (.ref xx), .val (.ref bb), .val (.int (0 : Int32)), .val (.int (3 : Int32)), .val .null, .val (.ref r179)] []))
    refine own_ret0 X186 hx Bd (hb hby d3_57) ?_ (by decide) (by decide)
    show (Q_rm_i4_3 Z xx bb kb ch0 ch1 ch2 gc h0 n0) none T186.heap _
    rw [e186]
    exact ⟨_, rfl, N186, K187, sz_r179, _, _, _, _, E_xx, V_xx, C_xx, V179, Or.inl ⟨rfl, rfl, rfl, hcd179⟩, hbd, Nat.le_of_ble_eq_true rfl⟩
  · skip
    refine own_go st179 ?_
    refine own_go (fun _ q => XS.astore X179.here hx rfl (hb hby d3_39) rfl rfl (l' := #[.val (.ref xx), .val (.ref bb), .val (.int (0 : Int32)), .val (.int (3 : Int32)), .val .null, .val (.ref r179)]) rfl q) ?_
    refine own_go (fun _ q => XS.aloadN X179.here hx rfl (hb hby d3_41) rfl rfl q) ?_
    refine own_go (fun _ q => XS.aload X179.here hx rfl (hb hby d3_42) rfl rfl q) ?_
    refine own_go (fun _ q => XS.iloadN X179.here hx rfl (hb hby d3_44) rfl q) ?_
    show own_Fin _ _ _ _ (T179.setTop (mkF m 45 #[.val (.ref xx), .val (.ref bb), .val (.int (0 : Int32)), .val (.int (3 : Int32)), .val .null, .val (.ref r179)] [(.int (3 : Int32)), (.ref r179), (.ref xx)]))
    obtain ⟨_, _, ⟨T188, L188, k188, n188⟩, -, X188, ⟨Lc188, hQ188, l188, y188, z188⟩, st188⟩ := Jvm.LawKit.callS X179 hx (y := (⟨"java/lang/StringUTF16", "coderFromArrayLen", "([BI)B"⟩ : MethodName)) hown (mvT hZ (own_w hw 29 rfl)) (mvT hZ (own_w hw 30 rfl)) (mvT hZ (own_w hw 23 rfl)) (mvT hZ (own_w hw 31 rfl)) (by decide) (backOf (W := 1) (rm_cl3_1 l Z a0 hw [] r179 kk179 [(.int (ch0.toInt8.toInt32)), (.int ((ch0 >>> ((8 : Int32) &&& 31)).toInt8.toInt32)), (.int (ch1.toInt8.toInt32)), (.int ((ch1 >>> ((8 : Int32) &&& 31)).toInt8.toInt32)), (.int (ch2.toInt8.toInt32)), (.int ((ch2 >>> ((8 : Int32) &&& 31)).toInt8.toInt32))] T179.heap n0 (Nat.le_trans Z0 K182.1) V179) hZ (own_w hw 31 rfl) (own_w hw 23 rfl) (by decide) (by decide)) (g := (mkF m 45 #[.val (.ref xx), .val (.ref bb), .val (.int (0 : Int32)), .val (.int (3 : Int32)), .val .null, .val (.ref r179)] [(.int (3 : Int32)), (.ref r179), (.ref xx)])) rfl (by rw [hml]; rfl) (argsL := [(.ref r179), (.int (3 : Int32))]) (rest := [(.ref xx)]) (lenOf pd_8 rfl) rfl (by show 2 * 0 + _ ≤ _; exact Nat.le_of_eq rfl) (hb hby d3_45) (fun _ _ => ⟨rfl, rfl, (by decide : 2 + 0 ≤ _), (by decide : 9 + 0 ≤ _)⟩)
    dsimp only [Pt.U, Pt.locs, Pt.cells, Pt.slots] at X188 l188 y188 z188 st188 hQ188
    subst l188 y188 z188
    obtain ⟨rfl, N188q, e188⟩ := hQ188
    have N188 := Fr.app N179 N188q
    refine own_go st188 ?_
    show own_Fin _ _ _ _ (T188.setTop (mkF m 48 #[.val (.ref xx), .val (.ref bb), .val (.int (0 : Int32)), .val (.int (3 : Int32)), .val .null, .val (.ref r179)] [(.int (1 : Int32)), (.ref xx)]))
    obtain ⟨T189, h189, X189, e189, W189, st189⟩ := putFN X188 hx hZ hown (own_w hw 32 rfl) Via.refl e188 C_xx E_xx (Or.inr ⟨(own_w hw 33 rfl), rfl, hnm⟩) (own_w hw 8 rfl) (ty := .byte) (v' := .int (1 : Int32)) (by decide) rfl rfl (g := (mkF m 48 #[.val (.ref xx), .val (.ref bb), .val (.int (0 : Int32)), .val (.int (3 : Int32)), .val .null, .val (.ref r179)] [(.int (1 : Int32)), (.ref xx)])) rfl rfl (hb hby d3_48)
    have N189 := Fr.snoc X189 N188 g_xx
    replace C_xx := C_xx.same W189
    refine own_go st189 ?_
    replace E_xx := E_xx.wr W189
    replace V_xx := V_xx.other W189 (Or.inr (slot_ne (Or.inr (own_w hw 35 rfl)) (Or.inr (own_w hw 33 rfl)) (by decide) (t := (.array .byte)) (t' := .byte) (by decide) (by decide)))
    replace V_bb := V_bb.other W189 neb
    replace O0 := O0.wr W189 g_xx
    replace V179 := V179.other W189 (Ne.symm ne180)
    have K190 := K182.wr W189 (Or.inl (by simp))
    refine own_go (fun _ q => XS.aloadN X189.here hx rfl (hb hby d3_51) rfl rfl q) ?_
    refine own_go (fun _ q => XS.aload X189.here hx rfl (hb hby d3_52) rfl rfl q) ?_
    show own_Fin _ _ _ _ (T189.setTop (mkF m 54 #[.val (.ref xx), .val (.ref bb), .val (.int (0 : Int32)), .val (.int (3 : Int32)), .val .null, .val (.ref r179)] [(.ref r179), (.ref xx)]))
    obtain ⟨T191, h191, X191, e191, W191, st191⟩ := putF X189 hx hZ hown (host := "") (Or.inl (own_w hw 34 rfl)) Via.refl e189 V_xx E_xx (Or.inr ⟨(own_w hw 35 rfl), rfl, hnm⟩) (own_w hw 8 rfl) (ty := (.array .byte)) (by decide) rfl rfl (g := (mkF m 54 #[.val (.ref xx), .val (.ref bb), .val (.int (0 : Int32)), .val (.int (3 : Int32)), .val .null, .val (.ref r179)] [(.ref r179), (.ref xx)])) rfl rfl (hb hby d3_54)
    have N191 := Fr.snoc X191 N189 g_xx
    replace V_xx := V_xx.same W191
    refine own_go st191 ?_
    replace E_xx := E_xx.wr W191
    replace C_xx := C_xx.other W191 (Or.inr (slot_ne (Or.inr (own_w hw 33 rfl)) (Or.inr (own_w hw 35 rfl)) (by decide) (t := .byte) (t' := (.array .byte)) (by decide) (by decide)))
    replace V_bb := V_bb.other W191 neb
    replace O0 := O0.wr W191 g_xx
    replace V179 := V179.other W191 (Ne.symm ne180)
    have K192 := K190.wr W191 (Or.inl (by simp))
    show own_Fin _ _ _ _ (T191.setTop (mkF m 57 #[.val (.ref xx), .val (.ref bb), .val (.int (0 : Int32)), .val (.int (3 : Int32)), .val .null, .val (.ref r179)] []))
    refine own_ret0 X191 hx Bd (hb hby d3_57) ?_ (by decide) (by decide)
    show (Q_rm_i4_3 Z xx bb kb ch0 ch1 ch2 gc h0 n0) none T191.heap _
    rw [e191]
    exact ⟨_, rfl, N191, K192, sz_r179, _, _, _, _, E_xx, V_xx, C_xx, V179, Or.inr ⟨rfl, rfl, rfl, hcd179⟩, hbd, Nat.le_of_ble_eq_true rfl⟩
def Q_rm_i4_4 (Z : State) (xx : Addr) (bb : Addr) (kb : ClassId) (ch0 : Int32) (ch1 : Int32) (ch2 : Int32) (ch3 : Int32) (gc : Int32) (h0 : Heap) (n0 : Nat) (v : Option Value) (h : Heap) (L : List Loc) : Prop := ∃ t, v = none ∧ Fr n0 L ∧ Keep h0 h [xx] ∧ h0.size ≤ t ∧ own_Str Z h xx t ([ch0, ch1, ch2, ch3] : List Int32)
theorem ef_rm_i4_4 (m : MethodId) (xx : Addr) (bb : Addr) (ch0 : Int32) (ch1 : Int32) (ch2 : Int32) (ch3 : Int32) (gc : Int32) : entryFrame m #[(.ref xx), (.ref bb), (.int (0 : Int32)), (.int (4 : Int32)), .null] 6 = mkF m 0 #[.val (.ref xx), .val (.ref bb), .val (.int (0 : Int32)), .val (.int (4 : Int32)), .val .null, .unset] [] := by first | (simp [entryFrame, mkF, argsToLocals, Value.category]; done) | rfl
set_option maxRecDepth 65536 in
set_option maxHeartbeats 40000000 in
theorem rm_i4_4 (l : Launch) (Z : State) (a0 : Array Value) (hw : ∀ d ∈ tables_1, d.before a0 Z = true) (ws : List Jvm.Cond) (xx : Addr) (bb : Addr) (kb : ClassId) (ch0 : Int32) (ch1 : Int32) (ch2 : Int32) (ch3 : Int32) (gc : Int32) (h0 : Heap) (n0 : Nat) (Z0 : n0 ≤ h0.size) (E_xx : Exa Z h0 xx "java/lang/String") (V_xx : Fld Z h0 xx "java/lang/String" "value" "[B" .null) (C_xx : Fld Z h0 xx "java/lang/String" "coder" "B" (.int (0 : Int32))) (g_xx : n0 ≤ xx) (V_bb : Arv Z h0 bb kb .char (4 : Int32) [(.int ch0), (.int ch1), (.int ch2), (.int ch3)] (.int (0 : Int32))) (hbd : ∀ c ∈ ([ch0, ch1, ch2, ch3] : List Int32), ¬ c < 0 ∧ ¬ (65535 : Int32) < c) (neb : bb ≠ xx) (S_C : Sta Z Z.heap "java/lang/String" "COMPACT_STRINGS" "Z" (.int gc)) (hcs : ¬ gc = 0) (O0 : Old Z n0 h0) (S_A : Sta Z Z.heap "java/lang/StringUTF16" "$assertionsDisabled" "Z" (.int (1 : Int32))) (S_H : Sta Z Z.heap "java/lang/StringUTF16" "HI_BYTE_SHIFT" "I" (.int (0 : Int32))) (S_L : Sta Z Z.heap "java/lang/StringUTF16" "LO_BYTE_SHIFT" "I" (.int (8 : Int32))) :
    MetFree l (⟨"java/lang/String", "<init>", "([CIILjava/lang/Void;)V"⟩ : MethodName) (head1 (Jvm.Cond.code (⟨"java/lang/String", "<init>", "([CIILjava/lang/Void;)V"⟩ : MethodName) jdk_42_method_149_code 6 none :: ws) ({ frames := 4, cells := 2, slots := 12, locals := 57 } : Room)) (fun a_ U_ => a_ = #[(.ref xx), (.ref bb), (.int (0 : Int32)), (.int (4 : Int32)), .null] ∧ Z.Warmed39 U_.vm ∧ U_.heap = h0) (fun _ _ _ _ _ => True) (fun _ U_ o_ V_ => ∃ v_ L_, o_ = .returned v_ ∧ (Q_rm_i4_4 Z xx bb kb ch0 ch1 ch2 ch3 gc h0 n0) v_ V_.heap L_ ∧ FrameEnd U_ o_ V_ L_ ({ frames := 4, cells := 2, slots := 12, locals := 57 } : Room).cells ({ frames := 4, cells := 2, slots := 12, locals := 57 } : Room).slots) := by
  refine MetFree.of_bodySF (plainFor_of_name pn_7) hisR ?_
  intro p e s m args below meth c s₁ Bd hml0 hP hK
  obtain ⟨rfl, hZ, hh⟩ := hP
  have hx := Bd.exec
  have hby := Bd.bytes
  have hml : c.maxLocals = 6 := hml0
  have hown : s.vm.findClass "java/lang/String" = some m.cls := findClass_of_methodNamed Bd.named
  have hnm := (name_of_methodNamed Bd.named Bd.method).1
  have X0 : Stand p l e ({ frames := 4, cells := 2, slots := 12, locals := 57 } : Room) s m #[(.ref xx), (.ref bb), (.int (0 : Int32)), (.int (4 : Int32)), .null] below meth c s₁ [] 0 0 := Stand.of_body Bd
  have e0 : s₁.heap = h0 := by rw [← hh, Bd.state]; rfl
  have N0 := Fr.nil n0
  have K0 : Keep h0 h0 [xx] := Keep.refl _ _
  show own_Fin p.tables e below (own_Post (Q_rm_i4_4 Z xx bb kb ch0 ch1 ch2 ch3 gc h0 n0) ({ frames := 4, cells := 2, slots := 12, locals := 57 } : Room).cells ({ frames := 4, cells := 2, slots := 12, locals := 57 } : Room).slots below s) _
  refine own_go (fun _ q => castTop (ef_rm_i4_4 m xx bb ch0 ch1 ch2 ch3 gc) q) ?_
  refine own_go (fun _ q => XS.aloadN X0.here hx rfl (hb hby d3_0) rfl rfl q) ?_
  show own_Fin _ _ _ _ (s₁.setTop (mkF m 1 #[.val (.ref xx), .val (.ref bb), .val (.int (0 : Int32)), .val (.int (4 : Int32)), .val .null, .unset] [(.ref xx)]))
  obtain ⟨T193, X193, e193, st193⟩ := initO X0 hx hZ hown (own_w hw 17 rfl) (own_w hw 18 rfl) (own_w hw 19 rfl) e0 (g := (mkF m 1 #[.val (.ref xx), .val (.ref bb), .val (.int (0 : Int32)), .val (.int (4 : Int32)), .val .null, .unset] [(.ref xx)])) rfl (by rw [hml]; rfl) rfl (hb hby d3_1) (by decide) (W := 0) (by show 2 * 0 + _ ≤ _; exact Nat.le_of_eq rfl) (by decide)
  refine own_go st193 ?_
  refine own_go (fun _ q => XS.iloadN X193.here hx rfl (hb hby d3_4) rfl q) ?_
  show own_Fin _ _ _ _ (T193.setTop (mkF m 5 #[.val (.ref xx), .val (.ref bb), .val (.int (0 : Int32)), .val (.int (4 : Int32)), .val .null, .unset] [(.int (4 : Int32))]))
  refine own_go (fun _ q => XS.ifYes X193.here hx rfl (pc0 := 5) (pc' := 27) rfl (hb hby d3_5) rfl ((if0 _ _).trans (feq (by decide : ¬ (4 : Int32) = (0 : Int32))).2) (by decide) (by decide) q) ?_
  show own_Fin _ _ _ _ (T193.setTop (mkF m 27 #[.val (.ref xx), .val (.ref bb), .val (.int (0 : Int32)), .val (.int (4 : Int32)), .val .null, .unset] []))
  obtain ⟨T194, X194, e194, st194⟩ := getS2 X193 hx hZ hown (host := "") (Or.inl (own_w hw 20 rfl)) Via.refl e193 (S_C.ext O0.2) (g := (mkF m 27 #[.val (.ref xx), .val (.ref bb), .val (.int (0 : Int32)), .val (.int (4 : Int32)), .val .null, .unset] [])) rfl (hb hby d3_27)
  refine own_go st194 ?_
  show own_Fin _ _ _ _ (T194.setTop (mkF m 30 #[.val (.ref xx), .val (.ref bb), .val (.int (0 : Int32)), .val (.int (4 : Int32)), .val .null, .unset] [(.int gc)]))
  refine own_go (fun _ q => XS.ifNo X194.here hx rfl (hb hby d3_30) rfl ((if0 _ _).trans (feq hcs).1) q) ?_
  refine own_go (fun _ q => XS.aloadN X194.here hx rfl (hb hby d3_33) rfl rfl q) ?_
  refine own_go (fun _ q => XS.iloadN X194.here hx rfl (hb hby d3_34) rfl q) ?_
  refine own_go (fun _ q => XS.iloadN X194.here hx rfl (hb hby d3_35) rfl q) ?_
  show own_Fin _ _ _ _ (T194.setTop (mkF m 36 #[.val (.ref xx), .val (.ref bb), .val (.int (0 : Int32)), .val (.int (4 : Int32)), .val .null, .unset] [(.int (4 : Int32)), (.int (0 : Int32)), (.ref bb)]))
  obtain ⟨_, _, ⟨T195, L195, k195, n195⟩, -, X195, ⟨Lc195, hQ195, l195, y195, z195⟩, st195⟩ := Jvm.LawKit.callS X194 hx (y := (⟨"java/lang/StringUTF16", "compress", "([CII)[B"⟩ : MethodName)) hown (mvT hZ (own_w hw 21 rfl)) (mvT hZ (own_w hw 22 rfl)) (mvT hZ (own_w hw 23 rfl)) (mvT hZ (own_w hw 24 rfl)) (by decide) (backOf (W := 0) (rm_c3_4 l Z a0 hw [] bb kb ch0 ch1 ch2 ch3 h0 n0 (Nat.le_trans Z0 K0.1) V_bb hbd O0 S_A S_H S_L) hZ (own_w hw 24 rfl) (own_w hw 23 rfl) (by decide) (by decide)) (g := (mkF m 36 #[.val (.ref xx), .val (.ref bb), .val (.int (0 : Int32)), .val (.int (4 : Int32)), .val .null, .unset] [(.int (4 : Int32)), (.int (0 : Int32)), (.ref bb)])) rfl (by rw [hml]; rfl) (argsL := [(.ref bb), (.int (0 : Int32)), (.int (4 : Int32))]) (rest := []) (lenOf pd_5 rfl) rfl (by show 2 * 0 + _ ≤ _; exact Nat.le_of_eq rfl) (hb hby d3_36) (fun _ _ => ⟨rfl, e194, (by decide : 0 + 2 ≤ _), (by decide : 0 + 12 ≤ _)⟩)
  dsimp only [Pt.U, Pt.locs, Pt.cells, Pt.slots] at X195 l195 y195 z195 st195 hQ195
  subst l195 y195 z195
  obtain ⟨r195, kk195, rfl, N195q, KK195, sz195, hD195⟩ := hQ195
  have N195 := Fr.app N0 N195q
  have sz_r195 : h0.size ≤ r195 := Nat.le_trans K0.1 sz195
  have g_r195 : n0 ≤ r195 := Nat.le_trans Z0 sz_r195
  have ne196 : xx ≠ r195 := Nat.ne_of_lt (Nat.lt_of_lt_of_le E_xx.lt sz195)
  have ne197 : bb ≠ r195 := Nat.ne_of_lt (Nat.lt_of_lt_of_le V_bb.lt sz195)
  replace E_xx := E_xx.keep KK195
  replace V_xx := V_xx.keep KK195 nin0
  replace C_xx := C_xx.keep KK195 nin0
  replace V_bb := V_bb.keep KK195 nin0
  replace O0 := O0.keep KK195 all0
  have K198 := K0.trans KK195 all0
  rcases hD195 with ⟨hcd195, V195⟩ | ⟨hcd195, V195⟩
  · skip
    refine own_go st195 ?_
    refine own_go (fun _ q => XS.astore X195.here hx rfl (hb hby d3_39) rfl rfl (l' := #[.val (.ref xx), .val (.ref bb), .val (.int (0 : Int32)), .val (.int (4 : Int32)), .val .null, .val (.ref r195)]) rfl q) ?_
    refine own_go (fun _ q => XS.aloadN X195.here hx rfl (hb hby d3_41) rfl rfl q) ?_
    refine own_go (fun _ q => XS.aload X195.here hx rfl (hb hby d3_42) rfl rfl q) ?_
    refine own_go (fun _ q => XS.iloadN X195.here hx rfl (hb hby d3_44) rfl q) ?_
    show own_Fin _ _ _ _ (T195.setTop (mkF m 45 #[.val (.ref xx), .val (.ref bb), .val (.int (0 : Int32)), .val (.int (4 : Int32)), .val .null, .val (.ref r195)] [(.int (4 : Int32)), (.ref r195), (.ref xx)]))
    obtain ⟨_, _, ⟨T199, L199, k199, n199⟩, -, X199, ⟨Lc199, hQ199, l199, y199, z199⟩, st199⟩ := Jvm.LawKit.callS X195 hx (y := (⟨"java/lang/StringUTF16", "coderFromArrayLen", "([BI)B"⟩ : MethodName)) hown (mvT hZ (own_w hw 29 rfl)) (mvT hZ (own_w hw 30 rfl)) (mvT hZ (own_w hw 23 rfl)) (mvT hZ (own_w hw 31 rfl)) (by decide) (backOf (W := 1) (rm_cl4_0 l Z a0 hw [] r195 kk195 [(.int (ch0.toInt8.toInt32)), (.int (ch1.toInt8.toInt32)), (.int (ch2.toInt8.toInt32)), (.int (ch3.toInt8.toInt32))] T195.heap n0 (Nat.le_trans Z0 K198.1) V195) hZ (own_w hw 31 rfl) (own_w hw 23 rfl) (by decide) (by decide)) (g := (mkF m 45 #[.val (.ref xx), .val (.ref bb), .val (.int (0 : Int32)), .val (.int (4 : Int32)), .val .null, .val (.ref r195)] [(.int (4 : Int32)), (.ref r195), (.ref xx)])) rfl (by rw [hml]; rfl) (argsL := [(.ref r195), (.int (4 : Int32))]) (rest := [(.ref xx)]) (lenOf pd_8 rfl) rfl (by show 2 * 0 + _ ≤ _; exact Nat.le_of_eq rfl) (hb hby d3_45) (fun _ _ => ⟨rfl, rfl, (by decide : 2 + 0 ≤ _), (by decide : 12 + 0 ≤ _)⟩)
    dsimp only [Pt.U, Pt.locs, Pt.cells, Pt.slots] at X199 l199 y199 z199 st199 hQ199
    subst l199 y199 z199
    obtain ⟨rfl, N199q, e199⟩ := hQ199
    have N199 := Fr.app N195 N199q
    refine own_go st199 ?_
    show own_Fin _ _ _ _ (T199.setTop (mkF m 48 #[.val (.ref xx), .val (.ref bb), .val (.int (0 : Int32)), .val (.int (4 : Int32)), .val .null, .val (.ref r195)] [(.int (0 : Int32)), (.ref xx)]))
    obtain ⟨T200, h200, X200, e200, W200, st200⟩ := putFN X199 hx hZ hown (own_w hw 32 rfl) Via.refl e199 C_xx E_xx (Or.inr ⟨(own_w hw 33 rfl), rfl, hnm⟩) (own_w hw 8 rfl) (ty := .byte) (v' := .int (0 : Int32)) (by decide) rfl rfl (g := (mkF m 48 #[.val (.ref xx), .val (.ref bb), .val (.int (0 : Int32)), .val (.int (4 : Int32)), .val .null, .val (.ref r195)] [(.int (0 : Int32)), (.ref xx)])) rfl rfl (hb hby d3_48)
    have N200 := Fr.snoc X200 N199 g_xx
    replace C_xx := C_xx.same W200
    refine own_go st200 ?_
    replace E_xx := E_xx.wr W200
    replace V_xx := V_xx.other W200 (Or.inr (slot_ne (Or.inr (own_w hw 35 rfl)) (Or.inr (own_w hw 33 rfl)) (by decide) (t := (.array .byte)) (t' := .byte) (by decide) (by decide)))
    replace V_bb := V_bb.other W200 neb
    replace O0 := O0.wr W200 g_xx
    replace V195 := V195.other W200 (Ne.symm ne196)
    have K201 := K198.wr W200 (Or.inl (by simp))
    refine own_go (fun _ q => XS.aloadN X200.here hx rfl (hb hby d3_51) rfl rfl q) ?_
    refine own_go (fun _ q => XS.aload X200.here hx rfl (hb hby d3_52) rfl rfl q) ?_
    show own_Fin _ _ _ _ (T200.setTop (mkF m 54 #[.val (.ref xx), .val (.ref bb), .val (.int (0 : Int32)), .val (.int (4 : Int32)), .val .null, .val (.ref r195)] [(.ref r195), (.ref xx)]))
    obtain ⟨T202, h202, X202, e202, W202, st202⟩ := putF X200 hx hZ hown (host := "") (Or.inl (own_w hw 34 rfl)) Via.refl e200 V_xx E_xx (Or.inr ⟨(own_w hw 35 rfl), rfl, hnm⟩) (own_w hw 8 rfl) (ty := (.array .byte)) (by decide) rfl rfl (g := (mkF m 54 #[.val (.ref xx), .val (.ref bb), .val (.int (0 : Int32)), .val (.int (4 : Int32)), .val .null, .val (.ref r195)] [(.ref r195), (.ref xx)])) rfl rfl (hb hby d3_54)
    have N202 := Fr.snoc X202 N200 g_xx
    replace V_xx := V_xx.same W202
    refine own_go st202 ?_
    replace E_xx := E_xx.wr W202
    replace C_xx := C_xx.other W202 (Or.inr (slot_ne (Or.inr (own_w hw 33 rfl)) (Or.inr (own_w hw 35 rfl)) (by decide) (t := .byte) (t' := (.array .byte)) (by decide) (by decide)))
    replace V_bb := V_bb.other W202 neb
    replace O0 := O0.wr W202 g_xx
    replace V195 := V195.other W202 (Ne.symm ne196)
    have K203 := K201.wr W202 (Or.inl (by simp))
    show own_Fin _ _ _ _ (T202.setTop (mkF m 57 #[.val (.ref xx), .val (.ref bb), .val (.int (0 : Int32)), .val (.int (4 : Int32)), .val .null, .val (.ref r195)] []))
    refine own_ret0 X202 hx Bd (hb hby d3_57) ?_ (by decide) (by decide)
    show (Q_rm_i4_4 Z xx bb kb ch0 ch1 ch2 ch3 gc h0 n0) none T202.heap _
    rw [e202]
    exact ⟨_, rfl, N202, K203, sz_r195, _, _, _, _, E_xx, V_xx, C_xx, V195, Or.inl ⟨rfl, rfl, rfl, hcd195⟩, hbd, Nat.le_of_ble_eq_true rfl⟩
  · skip
    refine own_go st195 ?_
    refine own_go (fun _ q => XS.astore X195.here hx rfl (hb hby d3_39) rfl rfl (l' := #[.val (.ref xx), .val (.ref bb), .val (.int (0 : Int32)), .val (.int (4 : Int32)), .val .null, .val (.ref r195)]) rfl q) ?_
    refine own_go (fun _ q => XS.aloadN X195.here hx rfl (hb hby d3_41) rfl rfl q) ?_
    refine own_go (fun _ q => XS.aload X195.here hx rfl (hb hby d3_42) rfl rfl q) ?_
    refine own_go (fun _ q => XS.iloadN X195.here hx rfl (hb hby d3_44) rfl q) ?_
    show own_Fin _ _ _ _ (T195.setTop (mkF m 45 #[.val (.ref xx), .val (.ref bb), .val (.int (0 : Int32)), .val (.int (4 : Int32)), .val .null, .val (.ref r195)] [(.int (4 : Int32)), (.ref r195), (.ref xx)]))
    obtain ⟨_, _, ⟨T204, L204, k204, n204⟩, -, X204, ⟨Lc204, hQ204, l204, y204, z204⟩, st204⟩ := Jvm.LawKit.callS X195 hx (y := (⟨"java/lang/StringUTF16", "coderFromArrayLen", "([BI)B"⟩ : MethodName)) hown (mvT hZ (own_w hw 29 rfl)) (mvT hZ (own_w hw 30 rfl)) (mvT hZ (own_w hw 23 rfl)) (mvT hZ (own_w hw 31 rfl)) (by decide) (backOf (W := 1) (rm_cl4_1 l Z a0 hw [] r195 kk195 [(.int (ch0.toInt8.toInt32)), (.int ((ch0 >>> ((8 : Int32) &&& 31)).toInt8.toInt32)), (.int (ch1.toInt8.toInt32)), (.int ((ch1 >>> ((8 : Int32) &&& 31)).toInt8.toInt32)), (.int (ch2.toInt8.toInt32)), (.int ((ch2 >>> ((8 : Int32) &&& 31)).toInt8.toInt32)), (.int (ch3.toInt8.toInt32)), (.int ((ch3 >>> ((8 : Int32) &&& 31)).toInt8.toInt32))] T195.heap n0 (Nat.le_trans Z0 K198.1) V195) hZ (own_w hw 31 rfl) (own_w hw 23 rfl) (by decide) (by decide)) (g := (mkF m 45 #[.val (.ref xx), .val (.ref bb), .val (.int (0 : Int32)), .val (.int (4 : Int32)), .val .null, .val (.ref r195)] [(.int (4 : Int32)), (.ref r195), (.ref xx)])) rfl (by rw [hml]; rfl) (argsL := [(.ref r195), (.int (4 : Int32))]) (rest := [(.ref xx)]) (lenOf pd_8 rfl) rfl (by show 2 * 0 + _ ≤ _; exact Nat.le_of_eq rfl) (hb hby d3_45) (fun _ _ => ⟨rfl, rfl, (by decide : 2 + 0 ≤ _), (by decide : 12 + 0 ≤ _)⟩)
    dsimp only [Pt.U, Pt.locs, Pt.cells, Pt.slots] at X204 l204 y204 z204 st204 hQ204
    subst l204 y204 z204
    obtain ⟨rfl, N204q, e204⟩ := hQ204
    have N204 := Fr.app N195 N204q
    refine own_go st204 ?_
    show own_Fin _ _ _ _ (T204.setTop (mkF m 48 #[.val (.ref xx), .val (.ref bb), .val (.int (0 : Int32)), .val (.int (4 : Int32)), .val .null, .val (.ref r195)] [(.int (1 : Int32)), (.ref xx)]))
    obtain ⟨T205, h205, X205, e205, W205, st205⟩ := putFN X204 hx hZ hown (own_w hw 32 rfl) Via.refl e204 C_xx E_xx (Or.inr ⟨(own_w hw 33 rfl), rfl, hnm⟩) (own_w hw 8 rfl) (ty := .byte) (v' := .int (1 : Int32)) (by decide) rfl rfl (g := (mkF m 48 #[.val (.ref xx), .val (.ref bb), .val (.int (0 : Int32)), .val (.int (4 : Int32)), .val .null, .val (.ref r195)] [(.int (1 : Int32)), (.ref xx)])) rfl rfl (hb hby d3_48)
    have N205 := Fr.snoc X205 N204 g_xx
    replace C_xx := C_xx.same W205
    refine own_go st205 ?_
    replace E_xx := E_xx.wr W205
    replace V_xx := V_xx.other W205 (Or.inr (slot_ne (Or.inr (own_w hw 35 rfl)) (Or.inr (own_w hw 33 rfl)) (by decide) (t := (.array .byte)) (t' := .byte) (by decide) (by decide)))
    replace V_bb := V_bb.other W205 neb
    replace O0 := O0.wr W205 g_xx
    replace V195 := V195.other W205 (Ne.symm ne196)
    have K206 := K198.wr W205 (Or.inl (by simp))
    refine own_go (fun _ q => XS.aloadN X205.here hx rfl (hb hby d3_51) rfl rfl q) ?_
    refine own_go (fun _ q => XS.aload X205.here hx rfl (hb hby d3_52) rfl rfl q) ?_
    show own_Fin _ _ _ _ (T205.setTop (mkF m 54 #[.val (.ref xx), .val (.ref bb), .val (.int (0 : Int32)), .val (.int (4 : Int32)), .val .null, .val (.ref r195)] [(.ref r195), (.ref xx)]))
    obtain ⟨T207, h207, X207, e207, W207, st207⟩ := putF X205 hx hZ hown (host := "") (Or.inl (own_w hw 34 rfl)) Via.refl e205 V_xx E_xx (Or.inr ⟨(own_w hw 35 rfl), rfl, hnm⟩) (own_w hw 8 rfl) (ty := (.array .byte)) (by decide) rfl rfl (g := (mkF m 54 #[.val (.ref xx), .val (.ref bb), .val (.int (0 : Int32)), .val (.int (4 : Int32)), .val .null, .val (.ref r195)] [(.ref r195), (.ref xx)])) rfl rfl (hb hby d3_54)
    have N207 := Fr.snoc X207 N205 g_xx
    replace V_xx := V_xx.same W207
    refine own_go st207 ?_
    replace E_xx := E_xx.wr W207
    replace C_xx := C_xx.other W207 (Or.inr (slot_ne (Or.inr (own_w hw 33 rfl)) (Or.inr (own_w hw 35 rfl)) (by decide) (t := .byte) (t' := (.array .byte)) (by decide) (by decide)))
    replace V_bb := V_bb.other W207 neb
    replace O0 := O0.wr W207 g_xx
    replace V195 := V195.other W207 (Ne.symm ne196)
    have K208 := K206.wr W207 (Or.inl (by simp))
    show own_Fin _ _ _ _ (T207.setTop (mkF m 57 #[.val (.ref xx), .val (.ref bb), .val (.int (0 : Int32)), .val (.int (4 : Int32)), .val .null, .val (.ref r195)] []))
    refine own_ret0 X207 hx Bd (hb hby d3_57) ?_ (by decide) (by decide)
    show (Q_rm_i4_4 Z xx bb kb ch0 ch1 ch2 ch3 gc h0 n0) none T207.heap _
    rw [e207]
    exact ⟨_, rfl, N207, K208, sz_r195, _, _, _, _, E_xx, V_xx, C_xx, V195, Or.inr ⟨rfl, rfl, rfl, hcd195⟩, hbd, Nat.le_of_ble_eq_true rfl⟩
def Q_rm_i1_1 (Z : State) (xx : Addr) (bb : Addr) (kb : ClassId) (ch0 : Int32) (gc : Int32) (h0 : Heap) (n0 : Nat) (v : Option Value) (h : Heap) (L : List Loc) : Prop := ∃ t, v = none ∧ Fr n0 L ∧ Keep h0 h [xx] ∧ h0.size ≤ t ∧ own_Str Z h xx t ([ch0] : List Int32)
theorem ef_rm_i1_1 (m : MethodId) (xx : Addr) (bb : Addr) (ch0 : Int32) (gc : Int32) : entryFrame m #[(.ref xx), (.ref bb)] 2 = mkF m 0 #[.val (.ref xx), .val (.ref bb)] [] := by first | (simp [entryFrame, mkF, argsToLocals, Value.category]; done) | rfl
set_option maxRecDepth 65536 in
set_option maxHeartbeats 40000000 in
theorem rm_i1_1 (l : Launch) (Z : State) (a0 : Array Value) (hw : ∀ d ∈ tables_1, d.before a0 Z = true) (ws : List Jvm.Cond) (xx : Addr) (bb : Addr) (kb : ClassId) (ch0 : Int32) (gc : Int32) (h0 : Heap) (n0 : Nat) (Z0 : n0 ≤ h0.size) (E_xx : Exa Z h0 xx "java/lang/String") (V_xx : Fld Z h0 xx "java/lang/String" "value" "[B" .null) (C_xx : Fld Z h0 xx "java/lang/String" "coder" "B" (.int (0 : Int32))) (g_xx : n0 ≤ xx) (V_bb : Arv Z h0 bb kb .char (1 : Int32) [(.int ch0)] (.int (0 : Int32))) (hbd : ∀ c ∈ ([ch0] : List Int32), ¬ c < 0 ∧ ¬ (65535 : Int32) < c) (neb : bb ≠ xx) (S_C : Sta Z Z.heap "java/lang/String" "COMPACT_STRINGS" "Z" (.int gc)) (hcs : ¬ gc = 0) (O0 : Old Z n0 h0) (S_A : Sta Z Z.heap "java/lang/StringUTF16" "$assertionsDisabled" "Z" (.int (1 : Int32))) (S_H : Sta Z Z.heap "java/lang/StringUTF16" "HI_BYTE_SHIFT" "I" (.int (0 : Int32))) (S_L : Sta Z Z.heap "java/lang/StringUTF16" "LO_BYTE_SHIFT" "I" (.int (8 : Int32))) :
    MetFree l (⟨"java/lang/String", "<init>", "([C)V"⟩ : MethodName) (head1 (Jvm.Cond.code (⟨"java/lang/String", "<init>", "([C)V"⟩ : MethodName) jdk_42_method_3_code 2 none :: ws) ({ frames := 5, cells := 2, slots := 3, locals := 74 } : Room)) (fun a_ U_ => a_ = #[(.ref xx), (.ref bb)] ∧ Z.Warmed39 U_.vm ∧ U_.heap = h0) (fun _ _ _ _ _ => True) (fun _ U_ o_ V_ => ∃ v_ L_, o_ = .returned v_ ∧ (Q_rm_i1_1 Z xx bb kb ch0 gc h0 n0) v_ V_.heap L_ ∧ FrameEnd U_ o_ V_ L_ ({ frames := 5, cells := 2, slots := 3, locals := 74 } : Room).cells ({ frames := 5, cells := 2, slots := 3, locals := 74 } : Room).slots) := by
  refine MetFree.of_bodySF (plainFor_of_name pn_7) hisR ?_
  intro p e s m args below meth c s₁ Bd hml0 hP hK
  obtain ⟨rfl, hZ, hh⟩ := hP
  have hx := Bd.exec
  have hby := Bd.bytes
  have hml : c.maxLocals = 2 := hml0
  have hown : s.vm.findClass "java/lang/String" = some m.cls := findClass_of_methodNamed Bd.named
  have hnm := (name_of_methodNamed Bd.named Bd.method).1
  have X0 : Stand p l e ({ frames := 5, cells := 2, slots := 3, locals := 74 } : Room) s m #[(.ref xx), (.ref bb)] below meth c s₁ [] 0 0 := Stand.of_body Bd
  have e0 : s₁.heap = h0 := by rw [← hh, Bd.state]; rfl
  have N0 := Fr.nil n0
  have K0 : Keep h0 h0 [xx] := Keep.refl _ _
  show own_Fin p.tables e below (own_Post (Q_rm_i1_1 Z xx bb kb ch0 gc h0 n0) ({ frames := 5, cells := 2, slots := 3, locals := 74 } : Room).cells ({ frames := 5, cells := 2, slots := 3, locals := 74 } : Room).slots below s) _
  refine own_go (fun _ q => castTop (ef_rm_i1_1 m xx bb ch0 gc) q) ?_
  refine own_go (fun _ q => XS.aloadN X0.here hx rfl (hb hby d2_0) rfl rfl q) ?_
  refine own_go (fun _ q => XS.aloadN X0.here hx rfl (hb hby d2_1) rfl rfl q) ?_
  refine own_go (fun _ q => XS.iconst X0.here hx rfl (hb hby d2_2) q) ?_
  refine own_go (fun _ q => XS.aloadN X0.here hx rfl (hb hby d2_3) rfl rfl q) ?_
  show own_Fin _ _ _ _ (s₁.setTop (mkF m 4 #[.val (.ref xx), .val (.ref bb)] [(.ref bb), (.int (0 : Int32)), (.ref bb), (.ref xx)]))
  refine own_go (fun _ q => own_alen X0 hx hZ e0 V_bb (g := (mkF m 4 #[.val (.ref xx), .val (.ref bb)] [(.ref bb), (.int (0 : Int32)), (.ref bb), (.ref xx)])) rfl rfl (hb hby d2_4) _ q) ?_
  refine own_go (fun _ q => XS.aconstNull X0.here hx rfl (hb hby d2_5) q) ?_
  show own_Fin _ _ _ _ (s₁.setTop (mkF m 6 #[.val (.ref xx), .val (.ref bb)] [.null, (.int (1 : Int32)), (.int (0 : Int32)), (.ref bb), (.ref xx)]))
  obtain ⟨_, _, ⟨T209, L209, k209, n209⟩, -, X209, ⟨Lc209, hQ209, l209, y209, z209⟩, st209⟩ := X0.specialBack hx (y := (⟨"java/lang/String", "<init>", "([CIILjava/lang/Void;)V"⟩ : MethodName)) rfl hown (mvT hZ (own_w hw 13 rfl)) (mvT hZ (own_w hw 14 rfl)) (mvT hZ (own_w hw 16 rfl)) (by decide) (backOf (W := 0) (rm_i4_1 l Z a0 hw [] xx bb kb ch0 gc h0 n0 (Nat.le_trans Z0 K0.1) E_xx V_xx C_xx g_xx V_bb hbd neb S_C hcs O0 S_A S_H S_L) hZ (own_w hw 16 rfl) (own_w hw 9 rfl) (by decide) (by decide)) (g := (mkF m 6 #[.val (.ref xx), .val (.ref bb)] [.null, (.int (1 : Int32)), (.int (0 : Int32)), (.ref bb), (.ref xx)])) rfl (by rw [hml]; rfl) (Steps.refl _) (a := xx) (argsL := [(.ref bb), (.int (0 : Int32)), (.int (1 : Int32)), .null]) (rest := []) (lenOf pd_9 rfl) rfl (by show 2 * 0 + _ ≤ _; exact Nat.le_of_eq rfl) (hb hby d2_6) (fun _ _ => ⟨rfl, e0, (by decide : 0 + 2 ≤ _), (by decide : 0 + 3 ≤ _)⟩)
  dsimp only [Pt.U, Pt.locs, Pt.cells, Pt.slots] at X209 l209 y209 z209 st209 hQ209
  subst l209 y209 z209
  obtain ⟨t209, rfl, N209q, KK209, szt209, SS209⟩ := hQ209
  have N209 := Fr.app N0 N209q
  have sz_t209 : h0.size ≤ t209 := Nat.le_trans K0.1 szt209
  have g_t209 : n0 ≤ t209 := Nat.le_trans Z0 sz_t209
  have ne210 : xx ≠ t209 := Nat.ne_of_lt (Nat.lt_of_lt_of_le E_xx.lt szt209)
  have ne211 : bb ≠ t209 := Nat.ne_of_lt (Nat.lt_of_lt_of_le V_bb.lt szt209)
  replace E_xx := E_xx.keep KK209
  replace V_bb := V_bb.keep KK209 (ninS neb nin0)
  replace O0 := O0.keep KK209 (allS g_xx (all0))
  have K212 := K0.trans KK209 (allS (Or.inl (by simp)) all0)
  refine own_go (fun _ q => st209.trans q) ?_
  show own_Fin _ _ _ _ (T209.setTop (mkF m 9 #[.val (.ref xx), .val (.ref bb)] []))
  refine own_ret0 X209 hx Bd (hb hby d2_9) ?_ (by decide) (by decide)
  show (Q_rm_i1_1 Z xx bb kb ch0 gc h0 n0) none T209.heap _
  exact ⟨_, rfl, N209, K212, sz_t209, SS209⟩
def Q_rm_i1_2 (Z : State) (xx : Addr) (bb : Addr) (kb : ClassId) (ch0 : Int32) (ch1 : Int32) (gc : Int32) (h0 : Heap) (n0 : Nat) (v : Option Value) (h : Heap) (L : List Loc) : Prop := ∃ t, v = none ∧ Fr n0 L ∧ Keep h0 h [xx] ∧ h0.size ≤ t ∧ own_Str Z h xx t ([ch0, ch1] : List Int32)
theorem ef_rm_i1_2 (m : MethodId) (xx : Addr) (bb : Addr) (ch0 : Int32) (ch1 : Int32) (gc : Int32) : entryFrame m #[(.ref xx), (.ref bb)] 2 = mkF m 0 #[.val (.ref xx), .val (.ref bb)] [] := by first | (simp [entryFrame, mkF, argsToLocals, Value.category]; done) | rfl
set_option maxRecDepth 65536 in
set_option maxHeartbeats 40000000 in
theorem rm_i1_2 (l : Launch) (Z : State) (a0 : Array Value) (hw : ∀ d ∈ tables_1, d.before a0 Z = true) (ws : List Jvm.Cond) (xx : Addr) (bb : Addr) (kb : ClassId) (ch0 : Int32) (ch1 : Int32) (gc : Int32) (h0 : Heap) (n0 : Nat) (Z0 : n0 ≤ h0.size) (E_xx : Exa Z h0 xx "java/lang/String") (V_xx : Fld Z h0 xx "java/lang/String" "value" "[B" .null) (C_xx : Fld Z h0 xx "java/lang/String" "coder" "B" (.int (0 : Int32))) (g_xx : n0 ≤ xx) (V_bb : Arv Z h0 bb kb .char (2 : Int32) [(.int ch0), (.int ch1)] (.int (0 : Int32))) (hbd : ∀ c ∈ ([ch0, ch1] : List Int32), ¬ c < 0 ∧ ¬ (65535 : Int32) < c) (neb : bb ≠ xx) (S_C : Sta Z Z.heap "java/lang/String" "COMPACT_STRINGS" "Z" (.int gc)) (hcs : ¬ gc = 0) (O0 : Old Z n0 h0) (S_A : Sta Z Z.heap "java/lang/StringUTF16" "$assertionsDisabled" "Z" (.int (1 : Int32))) (S_H : Sta Z Z.heap "java/lang/StringUTF16" "HI_BYTE_SHIFT" "I" (.int (0 : Int32))) (S_L : Sta Z Z.heap "java/lang/StringUTF16" "LO_BYTE_SHIFT" "I" (.int (8 : Int32))) :
    MetFree l (⟨"java/lang/String", "<init>", "([C)V"⟩ : MethodName) (head1 (Jvm.Cond.code (⟨"java/lang/String", "<init>", "([C)V"⟩ : MethodName) jdk_42_method_3_code 2 none :: ws) ({ frames := 5, cells := 2, slots := 6, locals := 74 } : Room)) (fun a_ U_ => a_ = #[(.ref xx), (.ref bb)] ∧ Z.Warmed39 U_.vm ∧ U_.heap = h0) (fun _ _ _ _ _ => True) (fun _ U_ o_ V_ => ∃ v_ L_, o_ = .returned v_ ∧ (Q_rm_i1_2 Z xx bb kb ch0 ch1 gc h0 n0) v_ V_.heap L_ ∧ FrameEnd U_ o_ V_ L_ ({ frames := 5, cells := 2, slots := 6, locals := 74 } : Room).cells ({ frames := 5, cells := 2, slots := 6, locals := 74 } : Room).slots) := by
  refine MetFree.of_bodySF (plainFor_of_name pn_7) hisR ?_
  intro p e s m args below meth c s₁ Bd hml0 hP hK
  obtain ⟨rfl, hZ, hh⟩ := hP
  have hx := Bd.exec
  have hby := Bd.bytes
  have hml : c.maxLocals = 2 := hml0
  have hown : s.vm.findClass "java/lang/String" = some m.cls := findClass_of_methodNamed Bd.named
  have hnm := (name_of_methodNamed Bd.named Bd.method).1
  have X0 : Stand p l e ({ frames := 5, cells := 2, slots := 6, locals := 74 } : Room) s m #[(.ref xx), (.ref bb)] below meth c s₁ [] 0 0 := Stand.of_body Bd
  have e0 : s₁.heap = h0 := by rw [← hh, Bd.state]; rfl
  have N0 := Fr.nil n0
  have K0 : Keep h0 h0 [xx] := Keep.refl _ _
  show own_Fin p.tables e below (own_Post (Q_rm_i1_2 Z xx bb kb ch0 ch1 gc h0 n0) ({ frames := 5, cells := 2, slots := 6, locals := 74 } : Room).cells ({ frames := 5, cells := 2, slots := 6, locals := 74 } : Room).slots below s) _
  refine own_go (fun _ q => castTop (ef_rm_i1_2 m xx bb ch0 ch1 gc) q) ?_
  refine own_go (fun _ q => XS.aloadN X0.here hx rfl (hb hby d2_0) rfl rfl q) ?_
  refine own_go (fun _ q => XS.aloadN X0.here hx rfl (hb hby d2_1) rfl rfl q) ?_
  refine own_go (fun _ q => XS.iconst X0.here hx rfl (hb hby d2_2) q) ?_
  refine own_go (fun _ q => XS.aloadN X0.here hx rfl (hb hby d2_3) rfl rfl q) ?_
  show own_Fin _ _ _ _ (s₁.setTop (mkF m 4 #[.val (.ref xx), .val (.ref bb)] [(.ref bb), (.int (0 : Int32)), (.ref bb), (.ref xx)]))
  refine own_go (fun _ q => own_alen X0 hx hZ e0 V_bb (g := (mkF m 4 #[.val (.ref xx), .val (.ref bb)] [(.ref bb), (.int (0 : Int32)), (.ref bb), (.ref xx)])) rfl rfl (hb hby d2_4) _ q) ?_
  refine own_go (fun _ q => XS.aconstNull X0.here hx rfl (hb hby d2_5) q) ?_
  show own_Fin _ _ _ _ (s₁.setTop (mkF m 6 #[.val (.ref xx), .val (.ref bb)] [.null, (.int (2 : Int32)), (.int (0 : Int32)), (.ref bb), (.ref xx)]))
  obtain ⟨_, _, ⟨T213, L213, k213, n213⟩, -, X213, ⟨Lc213, hQ213, l213, y213, z213⟩, st213⟩ := X0.specialBack hx (y := (⟨"java/lang/String", "<init>", "([CIILjava/lang/Void;)V"⟩ : MethodName)) rfl hown (mvT hZ (own_w hw 13 rfl)) (mvT hZ (own_w hw 14 rfl)) (mvT hZ (own_w hw 16 rfl)) (by decide) (backOf (W := 0) (rm_i4_2 l Z a0 hw [] xx bb kb ch0 ch1 gc h0 n0 (Nat.le_trans Z0 K0.1) E_xx V_xx C_xx g_xx V_bb hbd neb S_C hcs O0 S_A S_H S_L) hZ (own_w hw 16 rfl) (own_w hw 9 rfl) (by decide) (by decide)) (g := (mkF m 6 #[.val (.ref xx), .val (.ref bb)] [.null, (.int (2 : Int32)), (.int (0 : Int32)), (.ref bb), (.ref xx)])) rfl (by rw [hml]; rfl) (Steps.refl _) (a := xx) (argsL := [(.ref bb), (.int (0 : Int32)), (.int (2 : Int32)), .null]) (rest := []) (lenOf pd_9 rfl) rfl (by show 2 * 0 + _ ≤ _; exact Nat.le_of_eq rfl) (hb hby d2_6) (fun _ _ => ⟨rfl, e0, (by decide : 0 + 2 ≤ _), (by decide : 0 + 6 ≤ _)⟩)
  dsimp only [Pt.U, Pt.locs, Pt.cells, Pt.slots] at X213 l213 y213 z213 st213 hQ213
  subst l213 y213 z213
  obtain ⟨t213, rfl, N213q, KK213, szt213, SS213⟩ := hQ213
  have N213 := Fr.app N0 N213q
  have sz_t213 : h0.size ≤ t213 := Nat.le_trans K0.1 szt213
  have g_t213 : n0 ≤ t213 := Nat.le_trans Z0 sz_t213
  have ne214 : xx ≠ t213 := Nat.ne_of_lt (Nat.lt_of_lt_of_le E_xx.lt szt213)
  have ne215 : bb ≠ t213 := Nat.ne_of_lt (Nat.lt_of_lt_of_le V_bb.lt szt213)
  replace E_xx := E_xx.keep KK213
  replace V_bb := V_bb.keep KK213 (ninS neb nin0)
  replace O0 := O0.keep KK213 (allS g_xx (all0))
  have K216 := K0.trans KK213 (allS (Or.inl (by simp)) all0)
  refine own_go (fun _ q => st213.trans q) ?_
  show own_Fin _ _ _ _ (T213.setTop (mkF m 9 #[.val (.ref xx), .val (.ref bb)] []))
  refine own_ret0 X213 hx Bd (hb hby d2_9) ?_ (by decide) (by decide)
  show (Q_rm_i1_2 Z xx bb kb ch0 ch1 gc h0 n0) none T213.heap _
  exact ⟨_, rfl, N213, K216, sz_t213, SS213⟩
def Q_rm_i1_3 (Z : State) (xx : Addr) (bb : Addr) (kb : ClassId) (ch0 : Int32) (ch1 : Int32) (ch2 : Int32) (gc : Int32) (h0 : Heap) (n0 : Nat) (v : Option Value) (h : Heap) (L : List Loc) : Prop := ∃ t, v = none ∧ Fr n0 L ∧ Keep h0 h [xx] ∧ h0.size ≤ t ∧ own_Str Z h xx t ([ch0, ch1, ch2] : List Int32)
theorem ef_rm_i1_3 (m : MethodId) (xx : Addr) (bb : Addr) (ch0 : Int32) (ch1 : Int32) (ch2 : Int32) (gc : Int32) : entryFrame m #[(.ref xx), (.ref bb)] 2 = mkF m 0 #[.val (.ref xx), .val (.ref bb)] [] := by first | (simp [entryFrame, mkF, argsToLocals, Value.category]; done) | rfl
set_option maxRecDepth 65536 in
set_option maxHeartbeats 40000000 in
theorem rm_i1_3 (l : Launch) (Z : State) (a0 : Array Value) (hw : ∀ d ∈ tables_1, d.before a0 Z = true) (ws : List Jvm.Cond) (xx : Addr) (bb : Addr) (kb : ClassId) (ch0 : Int32) (ch1 : Int32) (ch2 : Int32) (gc : Int32) (h0 : Heap) (n0 : Nat) (Z0 : n0 ≤ h0.size) (E_xx : Exa Z h0 xx "java/lang/String") (V_xx : Fld Z h0 xx "java/lang/String" "value" "[B" .null) (C_xx : Fld Z h0 xx "java/lang/String" "coder" "B" (.int (0 : Int32))) (g_xx : n0 ≤ xx) (V_bb : Arv Z h0 bb kb .char (3 : Int32) [(.int ch0), (.int ch1), (.int ch2)] (.int (0 : Int32))) (hbd : ∀ c ∈ ([ch0, ch1, ch2] : List Int32), ¬ c < 0 ∧ ¬ (65535 : Int32) < c) (neb : bb ≠ xx) (S_C : Sta Z Z.heap "java/lang/String" "COMPACT_STRINGS" "Z" (.int gc)) (hcs : ¬ gc = 0) (O0 : Old Z n0 h0) (S_A : Sta Z Z.heap "java/lang/StringUTF16" "$assertionsDisabled" "Z" (.int (1 : Int32))) (S_H : Sta Z Z.heap "java/lang/StringUTF16" "HI_BYTE_SHIFT" "I" (.int (0 : Int32))) (S_L : Sta Z Z.heap "java/lang/StringUTF16" "LO_BYTE_SHIFT" "I" (.int (8 : Int32))) :
    MetFree l (⟨"java/lang/String", "<init>", "([C)V"⟩ : MethodName) (head1 (Jvm.Cond.code (⟨"java/lang/String", "<init>", "([C)V"⟩ : MethodName) jdk_42_method_3_code 2 none :: ws) ({ frames := 5, cells := 2, slots := 9, locals := 74 } : Room)) (fun a_ U_ => a_ = #[(.ref xx), (.ref bb)] ∧ Z.Warmed39 U_.vm ∧ U_.heap = h0) (fun _ _ _ _ _ => True) (fun _ U_ o_ V_ => ∃ v_ L_, o_ = .returned v_ ∧ (Q_rm_i1_3 Z xx bb kb ch0 ch1 ch2 gc h0 n0) v_ V_.heap L_ ∧ FrameEnd U_ o_ V_ L_ ({ frames := 5, cells := 2, slots := 9, locals := 74 } : Room).cells ({ frames := 5, cells := 2, slots := 9, locals := 74 } : Room).slots) := by
  refine MetFree.of_bodySF (plainFor_of_name pn_7) hisR ?_
  intro p e s m args below meth c s₁ Bd hml0 hP hK
  obtain ⟨rfl, hZ, hh⟩ := hP
  have hx := Bd.exec
  have hby := Bd.bytes
  have hml : c.maxLocals = 2 := hml0
  have hown : s.vm.findClass "java/lang/String" = some m.cls := findClass_of_methodNamed Bd.named
  have hnm := (name_of_methodNamed Bd.named Bd.method).1
  have X0 : Stand p l e ({ frames := 5, cells := 2, slots := 9, locals := 74 } : Room) s m #[(.ref xx), (.ref bb)] below meth c s₁ [] 0 0 := Stand.of_body Bd
  have e0 : s₁.heap = h0 := by rw [← hh, Bd.state]; rfl
  have N0 := Fr.nil n0
  have K0 : Keep h0 h0 [xx] := Keep.refl _ _
  show own_Fin p.tables e below (own_Post (Q_rm_i1_3 Z xx bb kb ch0 ch1 ch2 gc h0 n0) ({ frames := 5, cells := 2, slots := 9, locals := 74 } : Room).cells ({ frames := 5, cells := 2, slots := 9, locals := 74 } : Room).slots below s) _
  refine own_go (fun _ q => castTop (ef_rm_i1_3 m xx bb ch0 ch1 ch2 gc) q) ?_
  refine own_go (fun _ q => XS.aloadN X0.here hx rfl (hb hby d2_0) rfl rfl q) ?_
  refine own_go (fun _ q => XS.aloadN X0.here hx rfl (hb hby d2_1) rfl rfl q) ?_
  refine own_go (fun _ q => XS.iconst X0.here hx rfl (hb hby d2_2) q) ?_
  refine own_go (fun _ q => XS.aloadN X0.here hx rfl (hb hby d2_3) rfl rfl q) ?_
  show own_Fin _ _ _ _ (s₁.setTop (mkF m 4 #[.val (.ref xx), .val (.ref bb)] [(.ref bb), (.int (0 : Int32)), (.ref bb), (.ref xx)]))
  refine own_go (fun _ q => own_alen X0 hx hZ e0 V_bb (g := (mkF m 4 #[.val (.ref xx), .val (.ref bb)] [(.ref bb), (.int (0 : Int32)), (.ref bb), (.ref xx)])) rfl rfl (hb hby d2_4) _ q) ?_
  refine own_go (fun _ q => XS.aconstNull X0.here hx rfl (hb hby d2_5) q) ?_
  show own_Fin _ _ _ _ (s₁.setTop (mkF m 6 #[.val (.ref xx), .val (.ref bb)] [.null, (.int (3 : Int32)), (.int (0 : Int32)), (.ref bb), (.ref xx)]))
  obtain ⟨_, _, ⟨T217, L217, k217, n217⟩, -, X217, ⟨Lc217, hQ217, l217, y217, z217⟩, st217⟩ := X0.specialBack hx (y := (⟨"java/lang/String", "<init>", "([CIILjava/lang/Void;)V"⟩ : MethodName)) rfl hown (mvT hZ (own_w hw 13 rfl)) (mvT hZ (own_w hw 14 rfl)) (mvT hZ (own_w hw 16 rfl)) (by decide) (backOf (W := 0) (rm_i4_3 l Z a0 hw [] xx bb kb ch0 ch1 ch2 gc h0 n0 (Nat.le_trans Z0 K0.1) E_xx V_xx C_xx g_xx V_bb hbd neb S_C hcs O0 S_A S_H S_L) hZ (own_w hw 16 rfl) (own_w hw 9 rfl) (by decide) (by decide)) (g := (mkF m 6 #[.val (.ref xx), .val (.ref bb)] [.null, (.int (3 : Int32)), (.int (0 : Int32)), (.ref bb), (.ref xx)])) rfl (by rw [hml]; rfl) (Steps.refl _) (a := xx) (argsL := [(.ref bb), (.int (0 : Int32)), (.int (3 : Int32)), .null]) (rest := []) (lenOf pd_9 rfl) rfl (by show 2 * 0 + _ ≤ _; exact Nat.le_of_eq rfl) (hb hby d2_6) (fun _ _ => ⟨rfl, e0, (by decide : 0 + 2 ≤ _), (by decide : 0 + 9 ≤ _)⟩)
  dsimp only [Pt.U, Pt.locs, Pt.cells, Pt.slots] at X217 l217 y217 z217 st217 hQ217
  subst l217 y217 z217
  obtain ⟨t217, rfl, N217q, KK217, szt217, SS217⟩ := hQ217
  have N217 := Fr.app N0 N217q
  have sz_t217 : h0.size ≤ t217 := Nat.le_trans K0.1 szt217
  have g_t217 : n0 ≤ t217 := Nat.le_trans Z0 sz_t217
  have ne218 : xx ≠ t217 := Nat.ne_of_lt (Nat.lt_of_lt_of_le E_xx.lt szt217)
  have ne219 : bb ≠ t217 := Nat.ne_of_lt (Nat.lt_of_lt_of_le V_bb.lt szt217)
  replace E_xx := E_xx.keep KK217
  replace V_bb := V_bb.keep KK217 (ninS neb nin0)
  replace O0 := O0.keep KK217 (allS g_xx (all0))
  have K220 := K0.trans KK217 (allS (Or.inl (by simp)) all0)
  refine own_go (fun _ q => st217.trans q) ?_
  show own_Fin _ _ _ _ (T217.setTop (mkF m 9 #[.val (.ref xx), .val (.ref bb)] []))
  refine own_ret0 X217 hx Bd (hb hby d2_9) ?_ (by decide) (by decide)
  show (Q_rm_i1_3 Z xx bb kb ch0 ch1 ch2 gc h0 n0) none T217.heap _
  exact ⟨_, rfl, N217, K220, sz_t217, SS217⟩
def Q_rm_i1_4 (Z : State) (xx : Addr) (bb : Addr) (kb : ClassId) (ch0 : Int32) (ch1 : Int32) (ch2 : Int32) (ch3 : Int32) (gc : Int32) (h0 : Heap) (n0 : Nat) (v : Option Value) (h : Heap) (L : List Loc) : Prop := ∃ t, v = none ∧ Fr n0 L ∧ Keep h0 h [xx] ∧ h0.size ≤ t ∧ own_Str Z h xx t ([ch0, ch1, ch2, ch3] : List Int32)
theorem ef_rm_i1_4 (m : MethodId) (xx : Addr) (bb : Addr) (ch0 : Int32) (ch1 : Int32) (ch2 : Int32) (ch3 : Int32) (gc : Int32) : entryFrame m #[(.ref xx), (.ref bb)] 2 = mkF m 0 #[.val (.ref xx), .val (.ref bb)] [] := by first | (simp [entryFrame, mkF, argsToLocals, Value.category]; done) | rfl
set_option maxRecDepth 65536 in
set_option maxHeartbeats 40000000 in
theorem rm_i1_4 (l : Launch) (Z : State) (a0 : Array Value) (hw : ∀ d ∈ tables_1, d.before a0 Z = true) (ws : List Jvm.Cond) (xx : Addr) (bb : Addr) (kb : ClassId) (ch0 : Int32) (ch1 : Int32) (ch2 : Int32) (ch3 : Int32) (gc : Int32) (h0 : Heap) (n0 : Nat) (Z0 : n0 ≤ h0.size) (E_xx : Exa Z h0 xx "java/lang/String") (V_xx : Fld Z h0 xx "java/lang/String" "value" "[B" .null) (C_xx : Fld Z h0 xx "java/lang/String" "coder" "B" (.int (0 : Int32))) (g_xx : n0 ≤ xx) (V_bb : Arv Z h0 bb kb .char (4 : Int32) [(.int ch0), (.int ch1), (.int ch2), (.int ch3)] (.int (0 : Int32))) (hbd : ∀ c ∈ ([ch0, ch1, ch2, ch3] : List Int32), ¬ c < 0 ∧ ¬ (65535 : Int32) < c) (neb : bb ≠ xx) (S_C : Sta Z Z.heap "java/lang/String" "COMPACT_STRINGS" "Z" (.int gc)) (hcs : ¬ gc = 0) (O0 : Old Z n0 h0) (S_A : Sta Z Z.heap "java/lang/StringUTF16" "$assertionsDisabled" "Z" (.int (1 : Int32))) (S_H : Sta Z Z.heap "java/lang/StringUTF16" "HI_BYTE_SHIFT" "I" (.int (0 : Int32))) (S_L : Sta Z Z.heap "java/lang/StringUTF16" "LO_BYTE_SHIFT" "I" (.int (8 : Int32))) :
    MetFree l (⟨"java/lang/String", "<init>", "([C)V"⟩ : MethodName) (head1 (Jvm.Cond.code (⟨"java/lang/String", "<init>", "([C)V"⟩ : MethodName) jdk_42_method_3_code 2 none :: ws) ({ frames := 5, cells := 2, slots := 12, locals := 74 } : Room)) (fun a_ U_ => a_ = #[(.ref xx), (.ref bb)] ∧ Z.Warmed39 U_.vm ∧ U_.heap = h0) (fun _ _ _ _ _ => True) (fun _ U_ o_ V_ => ∃ v_ L_, o_ = .returned v_ ∧ (Q_rm_i1_4 Z xx bb kb ch0 ch1 ch2 ch3 gc h0 n0) v_ V_.heap L_ ∧ FrameEnd U_ o_ V_ L_ ({ frames := 5, cells := 2, slots := 12, locals := 74 } : Room).cells ({ frames := 5, cells := 2, slots := 12, locals := 74 } : Room).slots) := by
  refine MetFree.of_bodySF (plainFor_of_name pn_7) hisR ?_
  intro p e s m args below meth c s₁ Bd hml0 hP hK
  obtain ⟨rfl, hZ, hh⟩ := hP
  have hx := Bd.exec
  have hby := Bd.bytes
  have hml : c.maxLocals = 2 := hml0
  have hown : s.vm.findClass "java/lang/String" = some m.cls := findClass_of_methodNamed Bd.named
  have hnm := (name_of_methodNamed Bd.named Bd.method).1
  have X0 : Stand p l e ({ frames := 5, cells := 2, slots := 12, locals := 74 } : Room) s m #[(.ref xx), (.ref bb)] below meth c s₁ [] 0 0 := Stand.of_body Bd
  have e0 : s₁.heap = h0 := by rw [← hh, Bd.state]; rfl
  have N0 := Fr.nil n0
  have K0 : Keep h0 h0 [xx] := Keep.refl _ _
  show own_Fin p.tables e below (own_Post (Q_rm_i1_4 Z xx bb kb ch0 ch1 ch2 ch3 gc h0 n0) ({ frames := 5, cells := 2, slots := 12, locals := 74 } : Room).cells ({ frames := 5, cells := 2, slots := 12, locals := 74 } : Room).slots below s) _
  refine own_go (fun _ q => castTop (ef_rm_i1_4 m xx bb ch0 ch1 ch2 ch3 gc) q) ?_
  refine own_go (fun _ q => XS.aloadN X0.here hx rfl (hb hby d2_0) rfl rfl q) ?_
  refine own_go (fun _ q => XS.aloadN X0.here hx rfl (hb hby d2_1) rfl rfl q) ?_
  refine own_go (fun _ q => XS.iconst X0.here hx rfl (hb hby d2_2) q) ?_
  refine own_go (fun _ q => XS.aloadN X0.here hx rfl (hb hby d2_3) rfl rfl q) ?_
  show own_Fin _ _ _ _ (s₁.setTop (mkF m 4 #[.val (.ref xx), .val (.ref bb)] [(.ref bb), (.int (0 : Int32)), (.ref bb), (.ref xx)]))
  refine own_go (fun _ q => own_alen X0 hx hZ e0 V_bb (g := (mkF m 4 #[.val (.ref xx), .val (.ref bb)] [(.ref bb), (.int (0 : Int32)), (.ref bb), (.ref xx)])) rfl rfl (hb hby d2_4) _ q) ?_
  refine own_go (fun _ q => XS.aconstNull X0.here hx rfl (hb hby d2_5) q) ?_
  show own_Fin _ _ _ _ (s₁.setTop (mkF m 6 #[.val (.ref xx), .val (.ref bb)] [.null, (.int (4 : Int32)), (.int (0 : Int32)), (.ref bb), (.ref xx)]))
  obtain ⟨_, _, ⟨T221, L221, k221, n221⟩, -, X221, ⟨Lc221, hQ221, l221, y221, z221⟩, st221⟩ := X0.specialBack hx (y := (⟨"java/lang/String", "<init>", "([CIILjava/lang/Void;)V"⟩ : MethodName)) rfl hown (mvT hZ (own_w hw 13 rfl)) (mvT hZ (own_w hw 14 rfl)) (mvT hZ (own_w hw 16 rfl)) (by decide) (backOf (W := 0) (rm_i4_4 l Z a0 hw [] xx bb kb ch0 ch1 ch2 ch3 gc h0 n0 (Nat.le_trans Z0 K0.1) E_xx V_xx C_xx g_xx V_bb hbd neb S_C hcs O0 S_A S_H S_L) hZ (own_w hw 16 rfl) (own_w hw 9 rfl) (by decide) (by decide)) (g := (mkF m 6 #[.val (.ref xx), .val (.ref bb)] [.null, (.int (4 : Int32)), (.int (0 : Int32)), (.ref bb), (.ref xx)])) rfl (by rw [hml]; rfl) (Steps.refl _) (a := xx) (argsL := [(.ref bb), (.int (0 : Int32)), (.int (4 : Int32)), .null]) (rest := []) (lenOf pd_9 rfl) rfl (by show 2 * 0 + _ ≤ _; exact Nat.le_of_eq rfl) (hb hby d2_6) (fun _ _ => ⟨rfl, e0, (by decide : 0 + 2 ≤ _), (by decide : 0 + 12 ≤ _)⟩)
  dsimp only [Pt.U, Pt.locs, Pt.cells, Pt.slots] at X221 l221 y221 z221 st221 hQ221
  subst l221 y221 z221
  obtain ⟨t221, rfl, N221q, KK221, szt221, SS221⟩ := hQ221
  have N221 := Fr.app N0 N221q
  have sz_t221 : h0.size ≤ t221 := Nat.le_trans K0.1 szt221
  have g_t221 : n0 ≤ t221 := Nat.le_trans Z0 sz_t221
  have ne222 : xx ≠ t221 := Nat.ne_of_lt (Nat.lt_of_lt_of_le E_xx.lt szt221)
  have ne223 : bb ≠ t221 := Nat.ne_of_lt (Nat.lt_of_lt_of_le V_bb.lt szt221)
  replace E_xx := E_xx.keep KK221
  replace V_bb := V_bb.keep KK221 (ninS neb nin0)
  replace O0 := O0.keep KK221 (allS g_xx (all0))
  have K224 := K0.trans KK221 (allS (Or.inl (by simp)) all0)
  refine own_go (fun _ q => st221.trans q) ?_
  show own_Fin _ _ _ _ (T221.setTop (mkF m 9 #[.val (.ref xx), .val (.ref bb)] []))
  refine own_ret0 X221 hx Bd (hb hby d2_9) ?_ (by decide) (by decide)
  show (Q_rm_i1_4 Z xx bb kb ch0 ch1 ch2 ch3 gc h0 n0) none T221.heap _
  exact ⟨_, rfl, N221, K224, sz_t221, SS221⟩
def Q_rm_pci (Z : State) (ii : Int32) (nn : Int32) (gs : Value) (h0 : Heap) (n0 : Nat) (v : Option Value) (h : Heap) (L : List Loc) : Prop := v = some (.int ii) ∧ Fr n0 L ∧ h = h0
theorem ef_rm_pci (m : MethodId) (ii : Int32) (nn : Int32) (gs : Value) (hgs : gs.isRef = true) : entryFrame m #[(.int ii), (.int nn), gs] 3 = mkF m 0 #[.val (.int ii), .val (.int nn), .val gs] [] := by cases gs <;> first | (simp [entryFrame, mkF, argsToLocals, Value.category]; done) | rfl | (simp [Value.isRef] at hgs; done)
set_option maxRecDepth 65536 in
set_option maxHeartbeats 40000000 in
theorem rm_pci (l : Launch) (Z : State) (a0 : Array Value) (hw : ∀ d ∈ tables_1, d.before a0 Z = true) (ws : List Jvm.Cond) (ii : Int32) (nn : Int32) (gs : Value) (h0 : Heap) (n0 : Nat) (Z0 : n0 ≤ h0.size) (hgs : gs.isRef = true) (hi0 : ¬ ii < (0 : Int32)) (hi1 : ii < nn) :
    MetFree l (⟨"jdk/internal/util/Preconditions", "checkIndex", "(IILjava/util/function/BiFunction;)I"⟩ : MethodName) (head1 (Jvm.Cond.code (⟨"jdk/internal/util/Preconditions", "checkIndex", "(IILjava/util/function/BiFunction;)I"⟩ : MethodName) jdk_41_method_11_code 3 (some .int) :: ws) ({ frames := 0, cells := 0, slots := 0, locals := 0 } : Room)) (fun a_ U_ => a_ = #[(.int ii), (.int nn), gs] ∧ Z.Warmed39 U_.vm ∧ U_.heap = h0) (fun _ _ _ _ _ => True) (fun _ U_ o_ V_ => ∃ v_ L_, o_ = .returned v_ ∧ (Q_rm_pci Z ii nn gs h0 n0) v_ V_.heap L_ ∧ FrameEnd U_ o_ V_ L_ ({ frames := 0, cells := 0, slots := 0, locals := 0 } : Room).cells ({ frames := 0, cells := 0, slots := 0, locals := 0 } : Room).slots) := by
  refine MetFree.of_bodySF (plainFor_of_name pn_10) hisR ?_
  intro p e s m args below meth c s₁ Bd hml0 hP hK
  obtain ⟨rfl, hZ, hh⟩ := hP
  have hx := Bd.exec
  have hby := Bd.bytes
  have hml : c.maxLocals = 3 := hml0
  have hown : s.vm.findClass "jdk/internal/util/Preconditions" = some m.cls := findClass_of_methodNamed Bd.named
  have hnm := (name_of_methodNamed Bd.named Bd.method).1
  have X0 : Stand p l e ({ frames := 0, cells := 0, slots := 0, locals := 0 } : Room) s m #[(.int ii), (.int nn), gs] below meth c s₁ [] 0 0 := Stand.of_body Bd
  have e0 : s₁.heap = h0 := by rw [← hh, Bd.state]; rfl
  have N0 := Fr.nil n0
  have K0 : Keep h0 h0 [] := Keep.refl _ _
  show own_Fin p.tables e below (own_Post (Q_rm_pci Z ii nn gs h0 n0) ({ frames := 0, cells := 0, slots := 0, locals := 0 } : Room).cells ({ frames := 0, cells := 0, slots := 0, locals := 0 } : Room).slots below s) _
  refine own_go (fun _ q => castTop (ef_rm_pci m ii nn gs hgs) q) ?_
  refine own_go (fun _ q => XS.iloadN X0.here hx rfl (hb hby d13_0) rfl q) ?_
  show own_Fin _ _ _ _ (s₁.setTop (mkF m 1 #[.val (.int ii), .val (.int nn), .val gs] [(.int ii)]))
  refine own_go (fun _ q => XS.ifNo X0.here hx rfl (hb hby d13_1) rfl ((if0 _ _).trans (flt hi0).1) q) ?_
  refine own_go (fun _ q => XS.iloadN X0.here hx rfl (hb hby d13_4) rfl q) ?_
  refine own_go (fun _ q => XS.iloadN X0.here hx rfl (hb hby d13_5) rfl q) ?_
  show own_Fin _ _ _ _ (s₁.setTop (mkF m 6 #[.val (.int ii), .val (.int nn), .val gs] [(.int nn), (.int ii)]))
  refine own_go (fun _ q => XS.icmpYes X0.here hx rfl (pc0 := 6) (pc' := 16) rfl (hb hby d13_6) rfl (tlt hi1).1 (by decide) (by decide) q) ?_
  refine own_go (fun _ q => XS.iloadN X0.here hx rfl (hb hby d13_16) rfl q) ?_
  show own_Fin _ _ _ _ (s₁.setTop (mkF m 17 #[.val (.int ii), .val (.int nn), .val gs] [(.int ii)]))
  refine own_retI X0 hx Bd (t := .int) Bd.returns rfl (by simp) (hb hby d13_17) ?_ (by decide) (by decide)
  show (Q_rm_pci Z ii nn gs h0 n0) (some (.int ii)) s₁.heap _
  rw [e0]
  exact ⟨rfl, N0, rfl⟩
def Q_rm_sci (Z : State) (ii : Int32) (nn : Int32) (gs : Value) (h0 : Heap) (n0 : Nat) (v : Option Value) (h : Heap) (L : List Loc) : Prop := v = none ∧ Fr n0 L ∧ h = h0
theorem ef_rm_sci (m : MethodId) (ii : Int32) (nn : Int32) (gs : Value) : entryFrame m #[(.int ii), (.int nn)] 2 = mkF m 0 #[.val (.int ii), .val (.int nn)] [] := by first | (simp [entryFrame, mkF, argsToLocals, Value.category]; done) | rfl
set_option maxRecDepth 65536 in
set_option maxHeartbeats 40000000 in
theorem rm_sci (l : Launch) (Z : State) (a0 : Array Value) (hw : ∀ d ∈ tables_1, d.before a0 Z = true) (ws : List Jvm.Cond) (ii : Int32) (nn : Int32) (gs : Value) (h0 : Heap) (n0 : Nat) (Z0 : n0 ≤ h0.size) (hi0 : ¬ ii < (0 : Int32)) (hi1 : ii < nn) (S_F : Sta Z Z.heap "jdk/internal/util/Preconditions" "SIOOBE_FORMATTER" "Ljava/util/function/BiFunction;" gs) (hgs : gs.isRef = true) (O0 : Old Z n0 h0) :
    MetFree l (⟨"java/lang/String", "checkIndex", "(II)V"⟩ : MethodName) (head1 (Jvm.Cond.code (⟨"java/lang/String", "checkIndex", "(II)V"⟩ : MethodName) jdk_42_method_155_code 2 none :: ws) ({ frames := 1, cells := 0, slots := 0, locals := 14 } : Room)) (fun a_ U_ => a_ = #[(.int ii), (.int nn)] ∧ Z.Warmed39 U_.vm ∧ U_.heap = h0) (fun _ _ _ _ _ => True) (fun _ U_ o_ V_ => ∃ v_ L_, o_ = .returned v_ ∧ (Q_rm_sci Z ii nn gs h0 n0) v_ V_.heap L_ ∧ FrameEnd U_ o_ V_ L_ ({ frames := 1, cells := 0, slots := 0, locals := 14 } : Room).cells ({ frames := 1, cells := 0, slots := 0, locals := 14 } : Room).slots) := by
  refine MetFree.of_bodySF (plainFor_of_name pn_7) hisR ?_
  intro p e s m args below meth c s₁ Bd hml0 hP hK
  obtain ⟨rfl, hZ, hh⟩ := hP
  have hx := Bd.exec
  have hby := Bd.bytes
  have hml : c.maxLocals = 2 := hml0
  have hown : s.vm.findClass "java/lang/String" = some m.cls := findClass_of_methodNamed Bd.named
  have hnm := (name_of_methodNamed Bd.named Bd.method).1
  have X0 : Stand p l e ({ frames := 1, cells := 0, slots := 0, locals := 14 } : Room) s m #[(.int ii), (.int nn)] below meth c s₁ [] 0 0 := Stand.of_body Bd
  have e0 : s₁.heap = h0 := by rw [← hh, Bd.state]; rfl
  have N0 := Fr.nil n0
  have K0 : Keep h0 h0 [] := Keep.refl _ _
  show own_Fin p.tables e below (own_Post (Q_rm_sci Z ii nn gs h0 n0) ({ frames := 1, cells := 0, slots := 0, locals := 14 } : Room).cells ({ frames := 1, cells := 0, slots := 0, locals := 14 } : Room).slots below s) _
  refine own_go (fun _ q => castTop (ef_rm_sci m ii nn gs) q) ?_
  have hg1 := own_refcat hgs
  refine own_go (fun _ q => XS.iloadN X0.here hx rfl (hb hby d12_0) rfl q) ?_
  refine own_go (fun _ q => XS.iloadN X0.here hx rfl (hb hby d12_1) rfl q) ?_
  show own_Fin _ _ _ _ (s₁.setTop (mkF m 2 #[.val (.int ii), .val (.int nn)] [(.int nn), (.int ii)]))
  obtain ⟨T225, X225, e225, st225⟩ := getS2 X0 hx hZ hown (host := "") (Or.inl (own_w hw 57 rfl)) Via.refl e0 (S_F.ext O0.2) (g := (mkF m 2 #[.val (.int ii), .val (.int nn)] [(.int nn), (.int ii)])) rfl (hb hby d12_2)
  refine own_go st225 ?_
  show own_Fin _ _ _ _ (T225.setTop (mkF m 5 #[.val (.int ii), .val (.int nn)] [gs, (.int nn), (.int ii)]))
  obtain ⟨_, _, ⟨T226, L226, k226, n226⟩, -, X226, ⟨Lc226, hQ226, l226, y226, z226⟩, st226⟩ := Jvm.LawKit.callS X225 hx (y := (⟨"jdk/internal/util/Preconditions", "checkIndex", "(IILjava/util/function/BiFunction;)I"⟩ : MethodName)) hown (mvT hZ (own_w hw 59 rfl)) (mvT hZ (own_w hw 60 rfl)) (mvT hZ (own_w hw 58 rfl)) (mvT hZ (own_w hw 61 rfl)) (by decide) (backOf (W := 0) (rm_pci l Z a0 hw [] ii nn gs  h0 n0 (Nat.le_trans Z0 K0.1) hgs hi0 hi1) hZ (own_w hw 61 rfl) (own_w hw 58 rfl) (by decide) (by decide)) (g := (mkF m 5 #[.val (.int ii), .val (.int nn)] [gs, (.int nn), (.int ii)])) rfl (by rw [hml]; rfl) (argsL := [(.int ii), (.int nn), gs]) (rest := []) (lenOf pd_11 rfl) rfl (by show 2 * 0 + _ ≤ _; exact Nat.le_of_eq rfl) (hb hby d12_5) (fun _ _ => ⟨rfl, e225, (by decide : 0 + 0 ≤ _), (by decide : 0 + 0 ≤ _)⟩)
  dsimp only [Pt.U, Pt.locs, Pt.cells, Pt.slots] at X226 l226 y226 z226 st226 hQ226
  subst l226 y226 z226
  obtain ⟨rfl, N226q, e226⟩ := hQ226
  have N226 := Fr.app N0 N226q
  refine own_go st226 ?_
  show own_Fin _ _ _ _ (T226.setTop (mkF m 8 #[.val (.int ii), .val (.int nn)] [(.int ii)]))
  refine own_go (fun _ q => XS.pop X226.here hx rfl (hb hby d12_8) rfl rfl q) ?_
  show own_Fin _ _ _ _ (T226.setTop (mkF m 9 #[.val (.int ii), .val (.int nn)] []))
  refine own_ret0 X226 hx Bd (hb hby d12_9) ?_ (by decide) (by decide)
  show (Q_rm_sci Z ii nn gs h0 n0) none T226.heap _
  rw [e226]
  exact ⟨rfl, N226, rfl⟩
def Q_rm_ul (Z : State) (bb : Addr) (kb : ClassId) (nn : Int32) (vs : List Value) (h0 : Heap) (n0 : Nat) (v : Option Value) (h : Heap) (L : List Loc) : Prop := v = some (.int (nn >>> ((1 : Int32) &&& 31))) ∧ Fr n0 L ∧ h = h0
theorem ef_rm_ul (m : MethodId) (bb : Addr) (nn : Int32) : entryFrame m #[(.ref bb)] 1 = mkF m 0 #[.val (.ref bb)] [] := by first | (simp [entryFrame, mkF, argsToLocals, Value.category]; done) | rfl
set_option maxRecDepth 65536 in
set_option maxHeartbeats 40000000 in
theorem rm_ul (l : Launch) (Z : State) (a0 : Array Value) (hw : ∀ d ∈ tables_1, d.before a0 Z = true) (ws : List Jvm.Cond) (bb : Addr) (kb : ClassId) (nn : Int32) (vs : List Value) (h0 : Heap) (n0 : Nat) (Z0 : n0 ≤ h0.size) (V_bb : Arv Z h0 bb kb .byte nn vs (.int (0 : Int32))) :
    MetFree l (⟨"java/lang/StringUTF16", "length", "([B)I"⟩ : MethodName) (head1 (Jvm.Cond.code (⟨"java/lang/StringUTF16", "length", "([B)I"⟩ : MethodName) jdk_52_method_6_code 1 (some .int) :: ws) ({ frames := 0, cells := 0, slots := 0, locals := 0 } : Room)) (fun a_ U_ => a_ = #[(.ref bb)] ∧ Z.Warmed39 U_.vm ∧ U_.heap = h0) (fun _ _ _ _ _ => True) (fun _ U_ o_ V_ => ∃ v_ L_, o_ = .returned v_ ∧ (Q_rm_ul Z bb kb nn vs h0 n0) v_ V_.heap L_ ∧ FrameEnd U_ o_ V_ L_ ({ frames := 0, cells := 0, slots := 0, locals := 0 } : Room).cells ({ frames := 0, cells := 0, slots := 0, locals := 0 } : Room).slots) := by
  refine MetFree.of_bodySF (plainFor_of_name pn_0) hisR ?_
  intro p e s m args below meth c s₁ Bd hml0 hP hK
  obtain ⟨rfl, hZ, hh⟩ := hP
  have hx := Bd.exec
  have hby := Bd.bytes
  have hml : c.maxLocals = 1 := hml0
  have hown : s.vm.findClass "java/lang/StringUTF16" = some m.cls := findClass_of_methodNamed Bd.named
  have hnm := (name_of_methodNamed Bd.named Bd.method).1
  have X0 : Stand p l e ({ frames := 0, cells := 0, slots := 0, locals := 0 } : Room) s m #[(.ref bb)] below meth c s₁ [] 0 0 := Stand.of_body Bd
  have e0 : s₁.heap = h0 := by rw [← hh, Bd.state]; rfl
  have N0 := Fr.nil n0
  have K0 : Keep h0 h0 [] := Keep.refl _ _
  show own_Fin p.tables e below (own_Post (Q_rm_ul Z bb kb nn vs h0 n0) ({ frames := 0, cells := 0, slots := 0, locals := 0 } : Room).cells ({ frames := 0, cells := 0, slots := 0, locals := 0 } : Room).slots below s) _
  refine own_go (fun _ q => castTop (ef_rm_ul m bb nn) q) ?_
  refine own_go (fun _ q => XS.aloadN X0.here hx rfl (hb hby d21_0) rfl rfl q) ?_
  show own_Fin _ _ _ _ (s₁.setTop (mkF m 1 #[.val (.ref bb)] [(.ref bb)]))
  refine own_go (fun _ q => own_alen X0 hx hZ e0 V_bb (g := (mkF m 1 #[.val (.ref bb)] [(.ref bb)])) rfl rfl (hb hby d21_1) _ q) ?_
  refine own_go (fun _ q => XS.iconst X0.here hx rfl (hb hby d21_2) q) ?_
  show own_Fin _ _ _ _ (s₁.setTop (mkF m 3 #[.val (.ref bb)] [(.int (1 : Int32)), (.int nn)]))
  refine own_go (fun _ q => XS.ishr X0.here hx rfl (hb hby d21_3) rfl q) ?_
  show own_Fin _ _ _ _ (s₁.setTop (mkF m 4 #[.val (.ref bb)] [(.int (nn >>> ((1 : Int32) &&& 31)))]))
  refine own_retI X0 hx Bd (t := .int) Bd.returns rfl (by simp) (hb hby d21_4) ?_ (by decide) (by decide)
  show (Q_rm_ul Z bb kb nn vs h0 n0) (some (.int (nn >>> ((1 : Int32) &&& 31)))) s₁.heap _
  rw [e0]
  exact ⟨rfl, N0, rfl⟩
def Q_rm_uci (Z : State) (ii : Int32) (bb : Addr) (kb : ClassId) (nn : Int32) (vs : List Value) (gs : Value) (h0 : Heap) (n0 : Nat) (v : Option Value) (h : Heap) (L : List Loc) : Prop := v = none ∧ Fr n0 L ∧ h = h0
theorem ef_rm_uci (m : MethodId) (ii : Int32) (bb : Addr) (nn : Int32) (gs : Value) : entryFrame m #[(.int ii), (.ref bb)] 2 = mkF m 0 #[.val (.int ii), .val (.ref bb)] [] := by first | (simp [entryFrame, mkF, argsToLocals, Value.category]; done) | rfl
set_option maxRecDepth 65536 in
set_option maxHeartbeats 40000000 in
theorem rm_uci (l : Launch) (Z : State) (a0 : Array Value) (hw : ∀ d ∈ tables_1, d.before a0 Z = true) (ws : List Jvm.Cond) (ii : Int32) (bb : Addr) (kb : ClassId) (nn : Int32) (vs : List Value) (gs : Value) (h0 : Heap) (n0 : Nat) (Z0 : n0 ≤ h0.size) (V_bb : Arv Z h0 bb kb .byte nn vs (.int (0 : Int32))) (hi0 : ¬ ii < (0 : Int32)) (hi1 : ii < (nn >>> ((1 : Int32) &&& 31))) (S_F : Sta Z Z.heap "jdk/internal/util/Preconditions" "SIOOBE_FORMATTER" "Ljava/util/function/BiFunction;" gs) (hgs : gs.isRef = true) (O0 : Old Z n0 h0) :
    MetFree l (⟨"java/lang/StringUTF16", "checkIndex", "(I[B)V"⟩ : MethodName) (head1 (Jvm.Cond.code (⟨"java/lang/StringUTF16", "checkIndex", "(I[B)V"⟩ : MethodName) jdk_52_method_91_code 2 none :: ws) ({ frames := 2, cells := 0, slots := 0, locals := 27 } : Room)) (fun a_ U_ => a_ = #[(.int ii), (.ref bb)] ∧ Z.Warmed39 U_.vm ∧ U_.heap = h0) (fun _ _ _ _ _ => True) (fun _ U_ o_ V_ => ∃ v_ L_, o_ = .returned v_ ∧ (Q_rm_uci Z ii bb kb nn vs gs h0 n0) v_ V_.heap L_ ∧ FrameEnd U_ o_ V_ L_ ({ frames := 2, cells := 0, slots := 0, locals := 27 } : Room).cells ({ frames := 2, cells := 0, slots := 0, locals := 27 } : Room).slots) := by
  refine MetFree.of_bodySF (plainFor_of_name pn_0) hisR ?_
  intro p e s m args below meth c s₁ Bd hml0 hP hK
  obtain ⟨rfl, hZ, hh⟩ := hP
  have hx := Bd.exec
  have hby := Bd.bytes
  have hml : c.maxLocals = 2 := hml0
  have hown : s.vm.findClass "java/lang/StringUTF16" = some m.cls := findClass_of_methodNamed Bd.named
  have hnm := (name_of_methodNamed Bd.named Bd.method).1
  have X0 : Stand p l e ({ frames := 2, cells := 0, slots := 0, locals := 27 } : Room) s m #[(.int ii), (.ref bb)] below meth c s₁ [] 0 0 := Stand.of_body Bd
  have e0 : s₁.heap = h0 := by rw [← hh, Bd.state]; rfl
  have N0 := Fr.nil n0
  have K0 : Keep h0 h0 [] := Keep.refl _ _
  show own_Fin p.tables e below (own_Post (Q_rm_uci Z ii bb kb nn vs gs h0 n0) ({ frames := 2, cells := 0, slots := 0, locals := 27 } : Room).cells ({ frames := 2, cells := 0, slots := 0, locals := 27 } : Room).slots below s) _
  refine own_go (fun _ q => castTop (ef_rm_uci m ii bb nn gs) q) ?_
  refine own_go (fun _ q => XS.iloadN X0.here hx rfl (hb hby d20_0) rfl q) ?_
  refine own_go (fun _ q => XS.aloadN X0.here hx rfl (hb hby d20_1) rfl rfl q) ?_
  show own_Fin _ _ _ _ (s₁.setTop (mkF m 2 #[.val (.int ii), .val (.ref bb)] [(.ref bb), (.int ii)]))
  obtain ⟨_, _, ⟨T227, L227, k227, n227⟩, -, X227, ⟨Lc227, hQ227, l227, y227, z227⟩, st227⟩ := Jvm.LawKit.callS X0 hx (y := (⟨"java/lang/StringUTF16", "length", "([B)I"⟩ : MethodName)) hown (mvT hZ (own_w hw 87 rfl)) (mvT hZ (own_w hw 88 rfl)) (mvT hZ (own_w hw 23 rfl)) (mvT hZ (own_w hw 89 rfl)) (by decide) (backOf (W := 1) (rm_ul l Z a0 hw [] bb kb nn vs h0 n0 (Nat.le_trans Z0 K0.1) V_bb) hZ (own_w hw 89 rfl) (own_w hw 23 rfl) (by decide) (by decide)) (g := (mkF m 2 #[.val (.int ii), .val (.ref bb)] [(.ref bb), (.int ii)])) rfl (by rw [hml]; rfl) (argsL := [(.ref bb)]) (rest := [(.int ii)]) (lenOf pd_12 rfl) rfl (by show 2 * 0 + _ ≤ _; exact Nat.le_of_eq rfl) (hb hby d20_2) (fun _ _ => ⟨rfl, e0, (by decide : 0 + 0 ≤ _), (by decide : 0 + 0 ≤ _)⟩)
  dsimp only [Pt.U, Pt.locs, Pt.cells, Pt.slots] at X227 l227 y227 z227 st227 hQ227
  subst l227 y227 z227
  obtain ⟨rfl, N227q, e227⟩ := hQ227
  have N227 := Fr.app N0 N227q
  refine own_go st227 ?_
  show own_Fin _ _ _ _ (T227.setTop (mkF m 5 #[.val (.int ii), .val (.ref bb)] [(.int (nn >>> ((1 : Int32) &&& 31))), (.int ii)]))
  obtain ⟨_, _, ⟨T228, L228, k228, n228⟩, -, X228, ⟨Lc228, hQ228, l228, y228, z228⟩, st228⟩ := Jvm.LawKit.callS X227 hx (y := (⟨"java/lang/String", "checkIndex", "(II)V"⟩ : MethodName)) hown (mvT hZ (own_w hw 90 rfl)) (mvT hZ (own_w hw 55 rfl)) (mvT hZ (own_w hw 9 rfl)) (mvT hZ (own_w hw 56 rfl)) (by decide) (backOf (W := 0) (rm_sci l Z a0 hw [] ii (nn >>> ((1 : Int32) &&& 31)) gs h0 n0 (Nat.le_trans Z0 K0.1) hi0 hi1 S_F hgs O0) hZ (own_w hw 56 rfl) (own_w hw 9 rfl) (by decide) (by decide)) (g := (mkF m 5 #[.val (.int ii), .val (.ref bb)] [(.int (nn >>> ((1 : Int32) &&& 31))), (.int ii)])) rfl (by rw [hml]; rfl) (argsL := [(.int ii), (.int (nn >>> ((1 : Int32) &&& 31)))]) (rest := []) (lenOf pd_13 rfl) rfl (by show 2 * 0 + _ ≤ _; exact Nat.le_of_eq rfl) (hb hby d20_5) (fun _ _ => ⟨rfl, e227, (by decide : 0 + 0 ≤ _), (by decide : 0 + 0 ≤ _)⟩)
  dsimp only [Pt.U, Pt.locs, Pt.cells, Pt.slots] at X228 l228 y228 z228 st228 hQ228
  subst l228 y228 z228
  obtain ⟨rfl, N228q, e228⟩ := hQ228
  have N228 := Fr.app N227 N228q
  refine own_go st228 ?_
  show own_Fin _ _ _ _ (T228.setTop (mkF m 8 #[.val (.int ii), .val (.ref bb)] []))
  refine own_ret0 X228 hx Bd (hb hby d20_8) ?_ (by decide) (by decide)
  show (Q_rm_uci Z ii bb kb nn vs gs h0 n0) none T228.heap _
  rw [e228]
  exact ⟨rfl, N228, rfl⟩
def Q_rm_uc (Z : State) (bb : Addr) (kb : ClassId) (ii : Int32) (chx : Int32) (nn : Int32) (vs : List Value) (gs : Value) (h0 : Heap) (n0 : Nat) (v : Option Value) (h : Heap) (L : List Loc) : Prop := v = some (.int chx) ∧ Fr n0 L ∧ h = h0
theorem ef_rm_uc (m : MethodId) (bb : Addr) (ii : Int32) (chx : Int32) (nn : Int32) (gs : Value) : entryFrame m #[(.ref bb), (.int ii)] 2 = mkF m 0 #[.val (.ref bb), .val (.int ii)] [] := by first | (simp [entryFrame, mkF, argsToLocals, Value.category]; done) | rfl
set_option maxRecDepth 65536 in
set_option maxHeartbeats 40000000 in
theorem rm_uc (l : Launch) (Z : State) (a0 : Array Value) (hw : ∀ d ∈ tables_1, d.before a0 Z = true) (ws : List Jvm.Cond) (bb : Addr) (kb : ClassId) (ii : Int32) (chx : Int32) (nn : Int32) (vs : List Value) (gs : Value) (h0 : Heap) (n0 : Nat) (Z0 : n0 ≤ h0.size) (V_bb : Arv Z h0 bb kb .byte nn vs (.int (0 : Int32))) (hj1 : ¬ (ii <<< ((1 : Int32) &&& 31)) < 0 ∧ (ii <<< ((1 : Int32) &&& 31)) < nn) (hj2 : ¬ ((ii <<< ((1 : Int32) &&& 31)) + (1 : Int32)) < 0 ∧ ((ii <<< ((1 : Int32) &&& 31)) + (1 : Int32)) < nn) (hv1 : vs.getD (ii <<< ((1 : Int32) &&& 31)).toNatClampNeg (.int (0 : Int32)) = .int (chx.toInt8.toInt32)) (hv2 : vs.getD ((ii <<< ((1 : Int32) &&& 31)) + (1 : Int32)).toNatClampNeg (.int (0 : Int32)) = .int ((chx >>> ((8 : Int32) &&& 31)).toInt8.toInt32)) (hbx : ¬ chx < 0 ∧ ¬ (65535 : Int32) < chx) (hi0 : ¬ ii < (0 : Int32)) (hi1 : ii < (nn >>> ((1 : Int32) &&& 31))) (S_F : Sta Z Z.heap "jdk/internal/util/Preconditions" "SIOOBE_FORMATTER" "Ljava/util/function/BiFunction;" gs) (hgs : gs.isRef = true) (O0 : Old Z n0 h0) (S_A : Sta Z Z.heap "java/lang/StringUTF16" "$assertionsDisabled" "Z" (.int (1 : Int32))) (S_H : Sta Z Z.heap "java/lang/StringUTF16" "HI_BYTE_SHIFT" "I" (.int (0 : Int32))) (S_L : Sta Z Z.heap "java/lang/StringUTF16" "LO_BYTE_SHIFT" "I" (.int (8 : Int32))) :
    MetFree l (⟨"java/lang/StringUTF16", "charAt", "([BI)C"⟩ : MethodName) (head1 (Jvm.Cond.code (⟨"java/lang/StringUTF16", "charAt", "([BI)C"⟩ : MethodName) jdk_52_method_83_code 2 (some .char) :: ws) ({ frames := 3, cells := 0, slots := 0, locals := 40 } : Room)) (fun a_ U_ => a_ = #[(.ref bb), (.int ii)] ∧ Z.Warmed39 U_.vm ∧ U_.heap = h0) (fun _ _ _ _ _ => True) (fun _ U_ o_ V_ => ∃ v_ L_, o_ = .returned v_ ∧ (Q_rm_uc Z bb kb ii chx nn vs gs h0 n0) v_ V_.heap L_ ∧ FrameEnd U_ o_ V_ L_ ({ frames := 3, cells := 0, slots := 0, locals := 40 } : Room).cells ({ frames := 3, cells := 0, slots := 0, locals := 40 } : Room).slots) := by
  refine MetFree.of_bodySF (plainFor_of_name pn_0) hisR ?_
  intro p e s m args below meth c s₁ Bd hml0 hP hK
  obtain ⟨rfl, hZ, hh⟩ := hP
  have hx := Bd.exec
  have hby := Bd.bytes
  have hml : c.maxLocals = 2 := hml0
  have hown : s.vm.findClass "java/lang/StringUTF16" = some m.cls := findClass_of_methodNamed Bd.named
  have hnm := (name_of_methodNamed Bd.named Bd.method).1
  have X0 : Stand p l e ({ frames := 3, cells := 0, slots := 0, locals := 40 } : Room) s m #[(.ref bb), (.int ii)] below meth c s₁ [] 0 0 := Stand.of_body Bd
  have e0 : s₁.heap = h0 := by rw [← hh, Bd.state]; rfl
  have N0 := Fr.nil n0
  have K0 : Keep h0 h0 [] := Keep.refl _ _
  show own_Fin p.tables e below (own_Post (Q_rm_uc Z bb kb ii chx nn vs gs h0 n0) ({ frames := 3, cells := 0, slots := 0, locals := 40 } : Room).cells ({ frames := 3, cells := 0, slots := 0, locals := 40 } : Room).slots below s) _
  refine own_go (fun _ q => castTop (ef_rm_uc m bb ii chx nn gs) q) ?_
  refine own_go (fun _ q => XS.iloadN X0.here hx rfl (hb hby d19_0) rfl q) ?_
  refine own_go (fun _ q => XS.aloadN X0.here hx rfl (hb hby d19_1) rfl rfl q) ?_
  show own_Fin _ _ _ _ (s₁.setTop (mkF m 2 #[.val (.ref bb), .val (.int ii)] [(.ref bb), (.int ii)]))
  obtain ⟨_, _, ⟨T229, L229, k229, n229⟩, -, X229, ⟨Lc229, hQ229, l229, y229, z229⟩, st229⟩ := Jvm.LawKit.callS X0 hx (y := (⟨"java/lang/StringUTF16", "checkIndex", "(I[B)V"⟩ : MethodName)) hown (mvT hZ (own_w hw 84 rfl)) (mvT hZ (own_w hw 85 rfl)) (mvT hZ (own_w hw 23 rfl)) (mvT hZ (own_w hw 86 rfl)) (by decide) (backOf (W := 0) (rm_uci l Z a0 hw [] ii bb kb nn vs gs h0 n0 (Nat.le_trans Z0 K0.1) V_bb hi0 hi1 S_F hgs O0) hZ (own_w hw 86 rfl) (own_w hw 23 rfl) (by decide) (by decide)) (g := (mkF m 2 #[.val (.ref bb), .val (.int ii)] [(.ref bb), (.int ii)])) rfl (by rw [hml]; rfl) (argsL := [(.int ii), (.ref bb)]) (rest := []) (lenOf pd_14 rfl) rfl (by show 2 * 0 + _ ≤ _; exact Nat.le_of_eq rfl) (hb hby d19_2) (fun _ _ => ⟨rfl, e0, (by decide : 0 + 0 ≤ _), (by decide : 0 + 0 ≤ _)⟩)
  dsimp only [Pt.U, Pt.locs, Pt.cells, Pt.slots] at X229 l229 y229 z229 st229 hQ229
  subst l229 y229 z229
  obtain ⟨rfl, N229q, e229⟩ := hQ229
  have N229 := Fr.app N0 N229q
  refine own_go st229 ?_
  refine own_go (fun _ q => XS.aloadN X229.here hx rfl (hb hby d19_5) rfl rfl q) ?_
  refine own_go (fun _ q => XS.iloadN X229.here hx rfl (hb hby d19_6) rfl q) ?_
  show own_Fin _ _ _ _ (T229.setTop (mkF m 7 #[.val (.ref bb), .val (.int ii)] [(.int ii), (.ref bb)]))
  obtain ⟨_, _, ⟨T230, L230, k230, n230⟩, -, X230, ⟨Lc230, hQ230, l230, y230, z230⟩, st230⟩ := Jvm.LawKit.callS X229 hx (y := (⟨"java/lang/StringUTF16", "getChar", "([BI)C"⟩ : MethodName)) hown (mvT hZ (own_w hw 78 rfl)) (mvT hZ (own_w hw 79 rfl)) (mvT hZ (own_w hw 23 rfl)) (mvT hZ (own_w hw 80 rfl)) (by decide) (backOf (W := 0) (rm_gc l Z a0 hw [] bb kb ii chx nn vs h0 n0 (Nat.le_trans Z0 K0.1) V_bb hj1 hj2 hv1 hv2 hbx O0 S_A S_H S_L) hZ (own_w hw 80 rfl) (own_w hw 23 rfl) (by decide) (by decide)) (g := (mkF m 7 #[.val (.ref bb), .val (.int ii)] [(.int ii), (.ref bb)])) rfl (by rw [hml]; rfl) (argsL := [(.ref bb), (.int ii)]) (rest := []) (lenOf pd_6 rfl) rfl (by show 2 * 0 + _ ≤ _; exact Nat.le_of_eq rfl) (hb hby d19_7) (fun _ _ => ⟨rfl, e229, (by decide : 0 + 0 ≤ _), (by decide : 0 + 0 ≤ _)⟩)
  dsimp only [Pt.U, Pt.locs, Pt.cells, Pt.slots] at X230 l230 y230 z230 st230 hQ230
  subst l230 y230 z230
  obtain ⟨rfl, N230q, e230⟩ := hQ230
  have N230 := Fr.app N229 N230q
  refine own_go st230 ?_
  show own_Fin _ _ _ _ (T230.setTop (mkF m 10 #[.val (.ref bb), .val (.int ii)] [(.int chx)]))
  refine own_retI X230 hx Bd (t := .char) Bd.returns (StrChars.narrow_ch hbx.1 hbx.2) (by simp) (hb hby d19_10) ?_ (by decide) (by decide)
  show (Q_rm_uc Z bb kb ii chx nn vs gs h0 n0) (some (.int chx)) T230.heap _
  rw [e230]
  exact ⟨rfl, N230, rfl⟩
def Q_rm_lc (Z : State) (bb : Addr) (kb : ClassId) (ii : Int32) (chx : Int32) (nn : Int32) (vs : List Value) (gs : Value) (h0 : Heap) (n0 : Nat) (v : Option Value) (h : Heap) (L : List Loc) : Prop := v = some (.int chx) ∧ Fr n0 L ∧ h = h0
theorem ef_rm_lc (m : MethodId) (bb : Addr) (ii : Int32) (chx : Int32) (nn : Int32) (gs : Value) : entryFrame m #[(.ref bb), (.int ii)] 2 = mkF m 0 #[.val (.ref bb), .val (.int ii)] [] := by first | (simp [entryFrame, mkF, argsToLocals, Value.category]; done) | rfl
set_option maxRecDepth 65536 in
set_option maxHeartbeats 40000000 in
theorem rm_lc (l : Launch) (Z : State) (a0 : Array Value) (hw : ∀ d ∈ tables_1, d.before a0 Z = true) (ws : List Jvm.Cond) (bb : Addr) (kb : ClassId) (ii : Int32) (chx : Int32) (nn : Int32) (vs : List Value) (gs : Value) (h0 : Heap) (n0 : Nat) (Z0 : n0 ≤ h0.size) (V_bb : Arv Z h0 bb kb .byte nn vs (.int (0 : Int32))) (hi0 : ¬ ii < (0 : Int32)) (hi1 : ii < nn) (hv : vs.getD ii.toNatClampNeg (.int (0 : Int32)) = .int (chx.toInt8.toInt32)) (hbx : ¬ chx < 0 ∧ ¬ (65535 : Int32) < chx) (hsm : ¬ (255 : Int32) < chx) (S_F : Sta Z Z.heap "jdk/internal/util/Preconditions" "SIOOBE_FORMATTER" "Ljava/util/function/BiFunction;" gs) (hgs : gs.isRef = true) (O0 : Old Z n0 h0) :
    MetFree l (⟨"java/lang/StringLatin1", "charAt", "([BI)C"⟩ : MethodName) (head1 (Jvm.Cond.code (⟨"java/lang/StringLatin1", "charAt", "([BI)C"⟩ : MethodName) jdk_43_method_2_code 2 (some .char) :: ws) ({ frames := 2, cells := 0, slots := 0, locals := 27 } : Room)) (fun a_ U_ => a_ = #[(.ref bb), (.int ii)] ∧ Z.Warmed39 U_.vm ∧ U_.heap = h0) (fun _ _ _ _ _ => True) (fun _ U_ o_ V_ => ∃ v_ L_, o_ = .returned v_ ∧ (Q_rm_lc Z bb kb ii chx nn vs gs h0 n0) v_ V_.heap L_ ∧ FrameEnd U_ o_ V_ L_ ({ frames := 2, cells := 0, slots := 0, locals := 27 } : Room).cells ({ frames := 2, cells := 0, slots := 0, locals := 27 } : Room).slots) := by
  refine MetFree.of_bodySF (plainFor_of_name pn_15) hisR ?_
  intro p e s m args below meth c s₁ Bd hml0 hP hK
  obtain ⟨rfl, hZ, hh⟩ := hP
  have hx := Bd.exec
  have hby := Bd.bytes
  have hml : c.maxLocals = 2 := hml0
  have hown : s.vm.findClass "java/lang/StringLatin1" = some m.cls := findClass_of_methodNamed Bd.named
  have hnm := (name_of_methodNamed Bd.named Bd.method).1
  have X0 : Stand p l e ({ frames := 2, cells := 0, slots := 0, locals := 27 } : Room) s m #[(.ref bb), (.int ii)] below meth c s₁ [] 0 0 := Stand.of_body Bd
  have e0 : s₁.heap = h0 := by rw [← hh, Bd.state]; rfl
  have N0 := Fr.nil n0
  have K0 : Keep h0 h0 [] := Keep.refl _ _
  show own_Fin p.tables e below (own_Post (Q_rm_lc Z bb kb ii chx nn vs gs h0 n0) ({ frames := 2, cells := 0, slots := 0, locals := 27 } : Room).cells ({ frames := 2, cells := 0, slots := 0, locals := 27 } : Room).slots below s) _
  refine own_go (fun _ q => castTop (ef_rm_lc m bb ii chx nn gs) q) ?_
  refine own_go (fun _ q => XS.iloadN X0.here hx rfl (hb hby d11_0) rfl q) ?_
  refine own_go (fun _ q => XS.aloadN X0.here hx rfl (hb hby d11_1) rfl rfl q) ?_
  show own_Fin _ _ _ _ (s₁.setTop (mkF m 2 #[.val (.ref bb), .val (.int ii)] [(.ref bb), (.int ii)]))
  refine own_go (fun _ q => own_alen X0 hx hZ e0 V_bb (g := (mkF m 2 #[.val (.ref bb), .val (.int ii)] [(.ref bb), (.int ii)])) rfl rfl (hb hby d11_2) _ q) ?_
  show own_Fin _ _ _ _ (s₁.setTop (mkF m 3 #[.val (.ref bb), .val (.int ii)] [(.int nn), (.int ii)]))
  obtain ⟨_, _, ⟨T231, L231, k231, n231⟩, -, X231, ⟨Lc231, hQ231, l231, y231, z231⟩, st231⟩ := Jvm.LawKit.callS X0 hx (y := (⟨"java/lang/String", "checkIndex", "(II)V"⟩ : MethodName)) hown (mvT hZ (own_w hw 54 rfl)) (mvT hZ (own_w hw 55 rfl)) (mvT hZ (own_w hw 9 rfl)) (mvT hZ (own_w hw 56 rfl)) (by decide) (backOf (W := 0) (rm_sci l Z a0 hw [] ii nn gs h0 n0 (Nat.le_trans Z0 K0.1) hi0 hi1 S_F hgs O0) hZ (own_w hw 56 rfl) (own_w hw 9 rfl) (by decide) (by decide)) (g := (mkF m 3 #[.val (.ref bb), .val (.int ii)] [(.int nn), (.int ii)])) rfl (by rw [hml]; rfl) (argsL := [(.int ii), (.int nn)]) (rest := []) (lenOf pd_13 rfl) rfl (by show 2 * 0 + _ ≤ _; exact Nat.le_of_eq rfl) (hb hby d11_3) (fun _ _ => ⟨rfl, e0, (by decide : 0 + 0 ≤ _), (by decide : 0 + 0 ≤ _)⟩)
  dsimp only [Pt.U, Pt.locs, Pt.cells, Pt.slots] at X231 l231 y231 z231 st231 hQ231
  subst l231 y231 z231
  obtain ⟨rfl, N231q, e231⟩ := hQ231
  have N231 := Fr.app N0 N231q
  refine own_go st231 ?_
  refine own_go (fun _ q => XS.aloadN X231.here hx rfl (hb hby d11_6) rfl rfl q) ?_
  refine own_go (fun _ q => XS.iloadN X231.here hx rfl (hb hby d11_7) rfl q) ?_
  show own_Fin _ _ _ _ (T231.setTop (mkF m 8 #[.val (.ref bb), .val (.int ii)] [(.int ii), (.ref bb)]))
  refine own_go (fun _ q => own_baload X231 hx hZ e231 V_bb ⟨hi0, hi1⟩ (v := (.int (chx.toInt8.toInt32))) (hv) (g := (mkF m 8 #[.val (.ref bb), .val (.int ii)] [(.int ii), (.ref bb)])) rfl rfl (hb hby d11_8) _ q) ?_
  refine own_go (fun _ q => XS.sipush X231.here hx rfl (hb hby d11_9) q) ?_
  show own_Fin _ _ _ _ (T231.setTop (mkF m 12 #[.val (.ref bb), .val (.int ii)] [(.int (255 : Int32)), (.int (chx.toInt8.toInt32))]))
  refine own_go (fun _ q => XS.iand X231.here hx rfl (hb hby d11_12) rfl q) ?_
  show own_Fin _ _ _ _ (T231.setTop (mkF m 13 #[.val (.ref bb), .val (.int ii)] [(.int ((chx.toInt8.toInt32) &&& (255 : Int32)))]))
  refine own_go (fun _ q => XS.i2c X231.here hx rfl (hb hby d11_13) rfl q) ?_
  show own_Fin _ _ _ _ (T231.setTop (mkF m 14 #[.val (.ref bb), .val (.int ii)] [(.int (((chx.toInt8.toInt32) &&& (255 : Int32)).toUInt32.toUInt16.toUInt32.toInt32))]))
  rw [show (((chx.toInt8.toInt32) &&& (255 : Int32)).toUInt32.toUInt16.toUInt32.toInt32) = chx from StrChars.chr8_lo8 hbx.1 hsm]
  show own_Fin _ _ _ _ (T231.setTop (mkF m 14 #[.val (.ref bb), .val (.int ii)] [(.int chx)]))
  refine own_retI X231 hx Bd (t := .char) Bd.returns (StrChars.narrow_ch hbx.1 hbx.2) (by simp) (hb hby d11_14) ?_ (by decide) (by decide)
  show (Q_rm_lc Z bb kb ii chx nn vs gs h0 n0) (some (.int chx)) T231.heap _
  rw [e231]
  exact ⟨rfl, N231, rfl⟩
def Q_rm_il0 (Z : State) (xx : Addr) (gc : Int32) (h0 : Heap) (n0 : Nat) (v : Option Value) (h : Heap) (L : List Loc) : Prop := v = some (.int (1 : Int32)) ∧ Fr n0 L ∧ h = h0
theorem ef_rm_il0 (m : MethodId) (xx : Addr) (gc : Int32) : entryFrame m #[(.ref xx)] 1 = mkF m 0 #[.val (.ref xx)] [] := by first | (simp [entryFrame, mkF, argsToLocals, Value.category]; done) | rfl
set_option maxRecDepth 65536 in
set_option maxHeartbeats 40000000 in
theorem rm_il0 (l : Launch) (Z : State) (a0 : Array Value) (hw : ∀ d ∈ tables_1, d.before a0 Z = true) (ws : List Jvm.Cond) (xx : Addr) (gc : Int32) (h0 : Heap) (n0 : Nat) (Z0 : n0 ≤ h0.size) (C_x : Fld Z h0 xx "java/lang/String" "coder" "B" (.int (0 : Int32))) (S_C : Sta Z Z.heap "java/lang/String" "COMPACT_STRINGS" "Z" (.int gc)) (hcs : ¬ gc = 0) (O0 : Old Z n0 h0) :
    MetFree l (⟨"java/lang/String", "isLatin1", "()Z"⟩ : MethodName) (head1 (Jvm.Cond.code (⟨"java/lang/String", "isLatin1", "()Z"⟩ : MethodName) jdk_42_method_154_code 1 (some .boolean) :: ws) ({ frames := 0, cells := 0, slots := 0, locals := 0 } : Room)) (fun a_ U_ => a_ = #[(.ref xx)] ∧ Z.Warmed39 U_.vm ∧ U_.heap = h0) (fun _ _ _ _ _ => True) (fun _ U_ o_ V_ => ∃ v_ L_, o_ = .returned v_ ∧ (Q_rm_il0 Z xx gc h0 n0) v_ V_.heap L_ ∧ FrameEnd U_ o_ V_ L_ ({ frames := 0, cells := 0, slots := 0, locals := 0 } : Room).cells ({ frames := 0, cells := 0, slots := 0, locals := 0 } : Room).slots) := by
  refine MetFree.of_bodySF (plainFor_of_name pn_7) hisR ?_
  intro p e s m args below meth c s₁ Bd hml0 hP hK
  obtain ⟨rfl, hZ, hh⟩ := hP
  have hx := Bd.exec
  have hby := Bd.bytes
  have hml : c.maxLocals = 1 := hml0
  have hown : s.vm.findClass "java/lang/String" = some m.cls := findClass_of_methodNamed Bd.named
  have hnm := (name_of_methodNamed Bd.named Bd.method).1
  have X0 : Stand p l e ({ frames := 0, cells := 0, slots := 0, locals := 0 } : Room) s m #[(.ref xx)] below meth c s₁ [] 0 0 := Stand.of_body Bd
  have e0 : s₁.heap = h0 := by rw [← hh, Bd.state]; rfl
  have N0 := Fr.nil n0
  have K0 : Keep h0 h0 [] := Keep.refl _ _
  show own_Fin p.tables e below (own_Post (Q_rm_il0 Z xx gc h0 n0) ({ frames := 0, cells := 0, slots := 0, locals := 0 } : Room).cells ({ frames := 0, cells := 0, slots := 0, locals := 0 } : Room).slots below s) _
  refine own_go (fun _ q => castTop (ef_rm_il0 m xx gc) q) ?_
  show own_Fin _ _ _ _ (s₁.setTop (mkF m 0 #[.val (.ref xx)] []))
  obtain ⟨T232, X232, e232, st232⟩ := getS2 X0 hx hZ hown (host := "") (Or.inl (own_w hw 20 rfl)) Via.refl e0 (S_C.ext O0.2) (g := (mkF m 0 #[.val (.ref xx)] [])) rfl (hb hby d10_0)
  refine own_go st232 ?_
  show own_Fin _ _ _ _ (T232.setTop (mkF m 3 #[.val (.ref xx)] [(.int gc)]))
  refine own_go (fun _ q => XS.ifNo X232.here hx rfl (hb hby d10_3) rfl ((if0 _ _).trans (feq hcs).1) q) ?_
  refine own_go (fun _ q => XS.aloadN X232.here hx rfl (hb hby d10_6) rfl rfl q) ?_
  show own_Fin _ _ _ _ (T232.setTop (mkF m 7 #[.val (.ref xx)] [(.ref xx)]))
  obtain ⟨T233, X233, e233, st233⟩ := getF X232 hx hZ hown (host := "") (Or.inl (own_w hw 32 rfl)) Via.refl e232 C_x (g := (mkF m 7 #[.val (.ref xx)] [(.ref xx)])) rfl rfl (hb hby d10_7)
  refine own_go st233 ?_
  show own_Fin _ _ _ _ (T233.setTop (mkF m 10 #[.val (.ref xx)] [(.int (0 : Int32))]))
  refine own_go (fun _ q => XS.ifNo X233.here hx rfl (hb hby d10_10) rfl ((if0 _ _).trans (teq (by decide : (0 : Int32) = (0 : Int32))).2) q) ?_
  refine own_go (fun _ q => XS.iconst X233.here hx rfl (hb hby d10_13) q) ?_
  refine own_go (fun _ q => XS.goto X233.here hx rfl (pc0 := 14) (pc' := 18) rfl (hb hby d10_14) (by decide) (by decide) q) ?_
  show own_Fin _ _ _ _ (T233.setTop (mkF m 18 #[.val (.ref xx)] [(.int (1 : Int32))]))
  refine own_retI X233 hx Bd (t := .boolean) Bd.returns rfl (by simp) (hb hby d10_18) ?_ (by decide) (by decide)
  show (Q_rm_il0 Z xx gc h0 n0) (some (.int (1 : Int32))) T233.heap _
  rw [e233]
  exact ⟨rfl, N0, rfl⟩
def Q_rm_il1 (Z : State) (xx : Addr) (gc : Int32) (h0 : Heap) (n0 : Nat) (v : Option Value) (h : Heap) (L : List Loc) : Prop := v = some (.int (0 : Int32)) ∧ Fr n0 L ∧ h = h0
theorem ef_rm_il1 (m : MethodId) (xx : Addr) (gc : Int32) : entryFrame m #[(.ref xx)] 1 = mkF m 0 #[.val (.ref xx)] [] := by first | (simp [entryFrame, mkF, argsToLocals, Value.category]; done) | rfl
set_option maxRecDepth 65536 in
set_option maxHeartbeats 40000000 in
theorem rm_il1 (l : Launch) (Z : State) (a0 : Array Value) (hw : ∀ d ∈ tables_1, d.before a0 Z = true) (ws : List Jvm.Cond) (xx : Addr) (gc : Int32) (h0 : Heap) (n0 : Nat) (Z0 : n0 ≤ h0.size) (C_x : Fld Z h0 xx "java/lang/String" "coder" "B" (.int (1 : Int32))) (S_C : Sta Z Z.heap "java/lang/String" "COMPACT_STRINGS" "Z" (.int gc)) (hcs : ¬ gc = 0) (O0 : Old Z n0 h0) :
    MetFree l (⟨"java/lang/String", "isLatin1", "()Z"⟩ : MethodName) (head1 (Jvm.Cond.code (⟨"java/lang/String", "isLatin1", "()Z"⟩ : MethodName) jdk_42_method_154_code 1 (some .boolean) :: ws) ({ frames := 0, cells := 0, slots := 0, locals := 0 } : Room)) (fun a_ U_ => a_ = #[(.ref xx)] ∧ Z.Warmed39 U_.vm ∧ U_.heap = h0) (fun _ _ _ _ _ => True) (fun _ U_ o_ V_ => ∃ v_ L_, o_ = .returned v_ ∧ (Q_rm_il1 Z xx gc h0 n0) v_ V_.heap L_ ∧ FrameEnd U_ o_ V_ L_ ({ frames := 0, cells := 0, slots := 0, locals := 0 } : Room).cells ({ frames := 0, cells := 0, slots := 0, locals := 0 } : Room).slots) := by
  refine MetFree.of_bodySF (plainFor_of_name pn_7) hisR ?_
  intro p e s m args below meth c s₁ Bd hml0 hP hK
  obtain ⟨rfl, hZ, hh⟩ := hP
  have hx := Bd.exec
  have hby := Bd.bytes
  have hml : c.maxLocals = 1 := hml0
  have hown : s.vm.findClass "java/lang/String" = some m.cls := findClass_of_methodNamed Bd.named
  have hnm := (name_of_methodNamed Bd.named Bd.method).1
  have X0 : Stand p l e ({ frames := 0, cells := 0, slots := 0, locals := 0 } : Room) s m #[(.ref xx)] below meth c s₁ [] 0 0 := Stand.of_body Bd
  have e0 : s₁.heap = h0 := by rw [← hh, Bd.state]; rfl
  have N0 := Fr.nil n0
  have K0 : Keep h0 h0 [] := Keep.refl _ _
  show own_Fin p.tables e below (own_Post (Q_rm_il1 Z xx gc h0 n0) ({ frames := 0, cells := 0, slots := 0, locals := 0 } : Room).cells ({ frames := 0, cells := 0, slots := 0, locals := 0 } : Room).slots below s) _
  refine own_go (fun _ q => castTop (ef_rm_il1 m xx gc) q) ?_
  show own_Fin _ _ _ _ (s₁.setTop (mkF m 0 #[.val (.ref xx)] []))
  obtain ⟨T234, X234, e234, st234⟩ := getS2 X0 hx hZ hown (host := "") (Or.inl (own_w hw 20 rfl)) Via.refl e0 (S_C.ext O0.2) (g := (mkF m 0 #[.val (.ref xx)] [])) rfl (hb hby d10_0)
  refine own_go st234 ?_
  show own_Fin _ _ _ _ (T234.setTop (mkF m 3 #[.val (.ref xx)] [(.int gc)]))
  refine own_go (fun _ q => XS.ifNo X234.here hx rfl (hb hby d10_3) rfl ((if0 _ _).trans (feq hcs).1) q) ?_
  refine own_go (fun _ q => XS.aloadN X234.here hx rfl (hb hby d10_6) rfl rfl q) ?_
  show own_Fin _ _ _ _ (T234.setTop (mkF m 7 #[.val (.ref xx)] [(.ref xx)]))
  obtain ⟨T235, X235, e235, st235⟩ := getF X234 hx hZ hown (host := "") (Or.inl (own_w hw 32 rfl)) Via.refl e234 C_x (g := (mkF m 7 #[.val (.ref xx)] [(.ref xx)])) rfl rfl (hb hby d10_7)
  refine own_go st235 ?_
  show own_Fin _ _ _ _ (T235.setTop (mkF m 10 #[.val (.ref xx)] [(.int (1 : Int32))]))
  refine own_go (fun _ q => XS.ifYes X235.here hx rfl (pc0 := 10) (pc' := 17) rfl (hb hby d10_10) rfl ((if0 _ _).trans (feq (by decide : ¬ (1 : Int32) = (0 : Int32))).2) (by decide) (by decide) q) ?_
  refine own_go (fun _ q => XS.iconst X235.here hx rfl (hb hby d10_17) q) ?_
  show own_Fin _ _ _ _ (T235.setTop (mkF m 18 #[.val (.ref xx)] [(.int (0 : Int32))]))
  refine own_retI X235 hx Bd (t := .boolean) Bd.returns rfl (by simp) (hb hby d10_18) ?_ (by decide) (by decide)
  show (Q_rm_il1 Z xx gc h0 n0) (some (.int (0 : Int32))) T235.heap _
  rw [e235]
  exact ⟨rfl, N0, rfl⟩
def Q_rm_ca (Z : State) (xx : Addr) (tt : Addr) (cs : List Int32) (ii : Int32) (chx : Int32) (gc : Int32) (gs : Value) (h0 : Heap) (n0 : Nat) (v : Option Value) (h : Heap) (L : List Loc) : Prop := v = some (.int chx) ∧ Fr n0 L ∧ h = h0
theorem ef_rm_ca (m : MethodId) (xx : Addr) (tt : Addr) (ii : Int32) (chx : Int32) (gc : Int32) (gs : Value) : entryFrame m #[(.ref xx), (.int ii)] 2 = mkF m 0 #[.val (.ref xx), .val (.int ii)] [] := by first | (simp [entryFrame, mkF, argsToLocals, Value.category]; done) | rfl
set_option maxRecDepth 65536 in
set_option maxHeartbeats 40000000 in
theorem rm_ca (l : Launch) (Z : State) (a0 : Array Value) (hw : ∀ d ∈ tables_1, d.before a0 Z = true) (ws : List Jvm.Cond) (xx : Addr) (tt : Addr) (cs : List Int32) (ii : Int32) (chx : Int32) (gc : Int32) (gs : Value) (h0 : Heap) (n0 : Nat) (Z0 : n0 ≤ h0.size) (F_x : own_Str Z h0 xx tt cs) (hin : chx ∈ cs) (hi0 : ¬ ii < (0 : Int32)) (hi1 : ii < (Int32.ofNat cs.length)) (hv : (cs.map fun c => Value.int (StrChars.lo8 c)).getD ii.toNatClampNeg (.int (0 : Int32)) = .int (chx.toInt8.toInt32)) (hi2 : ii < ((Int32.ofNat (2 * cs.length)) >>> ((1 : Int32) &&& 31))) (hj1 : ¬ (ii <<< ((1 : Int32) &&& 31)) < 0 ∧ (ii <<< ((1 : Int32) &&& 31)) < (Int32.ofNat (2 * cs.length))) (hj2 : ¬ ((ii <<< ((1 : Int32) &&& 31)) + (1 : Int32)) < 0 ∧ ((ii <<< ((1 : Int32) &&& 31)) + (1 : Int32)) < (Int32.ofNat (2 * cs.length))) (hv1 : (StrChars.Road.wideBytes cs).getD (ii <<< ((1 : Int32) &&& 31)).toNatClampNeg (.int (0 : Int32)) = .int (chx.toInt8.toInt32)) (hv2 : (StrChars.Road.wideBytes cs).getD ((ii <<< ((1 : Int32) &&& 31)) + (1 : Int32)).toNatClampNeg (.int (0 : Int32)) = .int ((chx >>> ((8 : Int32) &&& 31)).toInt8.toInt32)) (S_F : Sta Z Z.heap "jdk/internal/util/Preconditions" "SIOOBE_FORMATTER" "Ljava/util/function/BiFunction;" gs) (hgs : gs.isRef = true) (S_C : Sta Z Z.heap "java/lang/String" "COMPACT_STRINGS" "Z" (.int gc)) (hcs : ¬ gc = 0) (O0 : Old Z n0 h0) (S_A : Sta Z Z.heap "java/lang/StringUTF16" "$assertionsDisabled" "Z" (.int (1 : Int32))) (S_H : Sta Z Z.heap "java/lang/StringUTF16" "HI_BYTE_SHIFT" "I" (.int (0 : Int32))) (S_L : Sta Z Z.heap "java/lang/StringUTF16" "LO_BYTE_SHIFT" "I" (.int (8 : Int32))) :
    MetFree l (⟨"java/lang/String", "charAt", "(I)C"⟩ : MethodName) (head1 (Jvm.Cond.code (⟨"java/lang/String", "charAt", "(I)C"⟩ : MethodName) jdk_42_method_56_code 2 (some .char) :: ws) ({ frames := 4, cells := 0, slots := 0, locals := 53 } : Room)) (fun a_ U_ => a_ = #[(.ref xx), (.int ii)] ∧ Z.Warmed39 U_.vm ∧ U_.heap = h0) (fun _ _ _ _ _ => True) (fun _ U_ o_ V_ => ∃ v_ L_, o_ = .returned v_ ∧ (Q_rm_ca Z xx tt cs ii chx gc gs h0 n0) v_ V_.heap L_ ∧ FrameEnd U_ o_ V_ L_ ({ frames := 4, cells := 0, slots := 0, locals := 53 } : Room).cells ({ frames := 4, cells := 0, slots := 0, locals := 53 } : Room).slots) := by
  refine MetFree.of_bodySF (plainFor_of_name pn_7) hisR ?_
  intro p e s m args below meth c s₁ Bd hml0 hP hK
  obtain ⟨rfl, hZ, hh⟩ := hP
  have hx := Bd.exec
  have hby := Bd.bytes
  have hml : c.maxLocals = 2 := hml0
  have hown : s.vm.findClass "java/lang/String" = some m.cls := findClass_of_methodNamed Bd.named
  have hnm := (name_of_methodNamed Bd.named Bd.method).1
  have X0 : Stand p l e ({ frames := 4, cells := 0, slots := 0, locals := 53 } : Room) s m #[(.ref xx), (.int ii)] below meth c s₁ [] 0 0 := Stand.of_body Bd
  have e0 : s₁.heap = h0 := by rw [← hh, Bd.state]; rfl
  have N0 := Fr.nil n0
  have K0 : Keep h0 h0 [] := Keep.refl _ _
  show own_Fin p.tables e below (own_Post (Q_rm_ca Z xx tt cs ii chx gc gs h0 n0) ({ frames := 4, cells := 0, slots := 0, locals := 53 } : Room).cells ({ frames := 4, cells := 0, slots := 0, locals := 53 } : Room).slots below s) _
  refine own_go (fun _ q => castTop (ef_rm_ca m xx tt ii chx gc gs) q) ?_
  show own_Fin _ _ _ _ (s₁.setTop (mkF m 0 #[.val (.ref xx), .val (.int ii)] []))
  obtain ⟨kq, Nq, cd, vs, E_x, V_x, C_x, A_x, hcod, hbd, -⟩ := F_x
  have hbx := hbd chx hin
  rcases hcod with ⟨rfl, rfl, rfl, hcd⟩ | ⟨rfl, rfl, rfl, hcd⟩
  · skip
    have hsm := hcd chx hin
    refine own_go (fun _ q => XS.aloadN X0.here hx rfl (hb hby d9_0) rfl rfl q) ?_
    show own_Fin _ _ _ _ (s₁.setTop (mkF m 1 #[.val (.ref xx), .val (.int ii)] [(.ref xx)]))
    obtain ⟨cq236, kq236, qa236, qb236, qc236⟩ := isOf hZ e0 E_x
    obtain ⟨_, _, ⟨T236, L236, k236, n236⟩, -, X236, ⟨Lc236, hQ236, l236, y236, z236⟩, st236⟩ := X0.virtualBack hx (y := (⟨"java/lang/String", "isLatin1", "()Z"⟩ : MethodName)) (z := (⟨"java/lang/String", "isLatin1", "()Z"⟩ : MethodName)) hown (mvT hZ (own_w hw 45 rfl)) (mvT hZ (own_w hw 46 rfl)) (own_notface (args := #[]) (mvT hZ (own_w hw 43 rfl)) rfl) (mvT hZ (own_w hw 48 rfl)) (mvT hZ (own_w hw 47 rfl)) (by decide) (backOf (W := 0) (rm_il0 l Z a0 hw [] xx gc h0 n0 (Nat.le_trans Z0 K0.1) C_x S_C hcs O0) hZ (own_w hw 49 rfl) (own_w hw 9 rfl) (by decide) (by decide)) qa236 qc236 (g := (mkF m 1 #[.val (.ref xx), .val (.int ii)] [(.ref xx)])) rfl (by rw [hml]; rfl) (Steps.refl _) (argsL := []) (rest := []) (lenOf pd_16 rfl) rfl (by show 2 * 0 + _ ≤ _; exact Nat.le_of_eq rfl) (hb hby d9_1) (fun _ _ => ⟨rfl, e0, (by decide : 0 + 0 ≤ _), (by decide : 0 + 0 ≤ _)⟩)
    dsimp only [Pt.U, Pt.locs, Pt.cells, Pt.slots] at X236 l236 y236 z236 st236 hQ236
    subst l236 y236 z236
    obtain ⟨rfl, N236q, e236⟩ := hQ236
    have N236 := Fr.app N0 N236q
    refine own_go (fun _ q => st236.trans q) ?_
    show own_Fin _ _ _ _ (T236.setTop (mkF m 4 #[.val (.ref xx), .val (.int ii)] [(.int (1 : Int32))]))
    refine own_go (fun _ q => XS.ifNo X236.here hx rfl (hb hby d9_4) rfl ((if0 _ _).trans (feq (by decide : ¬ (1 : Int32) = (0 : Int32))).1) q) ?_
    refine own_go (fun _ q => XS.aloadN X236.here hx rfl (hb hby d9_7) rfl rfl q) ?_
    show own_Fin _ _ _ _ (T236.setTop (mkF m 8 #[.val (.ref xx), .val (.int ii)] [(.ref xx)]))
    obtain ⟨T237, X237, e237, st237⟩ := getF X236 hx hZ hown (host := "") (Or.inl (own_w hw 34 rfl)) Via.refl e236 V_x (g := (mkF m 8 #[.val (.ref xx), .val (.int ii)] [(.ref xx)])) rfl rfl (hb hby d9_8)
    refine own_go st237 ?_
    refine own_go (fun _ q => XS.iloadN X237.here hx rfl (hb hby d9_11) rfl q) ?_
    show own_Fin _ _ _ _ (T237.setTop (mkF m 12 #[.val (.ref xx), .val (.int ii)] [(.int ii), (.ref tt)]))
    obtain ⟨_, _, ⟨T238, L238, k238, n238⟩, -, X238, ⟨Lc238, hQ238, l238, y238, z238⟩, st238⟩ := Jvm.LawKit.callS X237 hx (y := (⟨"java/lang/StringLatin1", "charAt", "([BI)C"⟩ : MethodName)) hown (mvT hZ (own_w hw 50 rfl)) (mvT hZ (own_w hw 51 rfl)) (mvT hZ (own_w hw 52 rfl)) (mvT hZ (own_w hw 53 rfl)) (by decide) (backOf (W := 0) (rm_lc l Z a0 hw [] tt kq ii chx (Int32.ofNat cs.length) (cs.map fun c => Value.int (StrChars.lo8 c)) gs h0 n0 (Nat.le_trans Z0 K0.1) A_x hi0 hi1 hv hbx hsm S_F hgs O0) hZ (own_w hw 53 rfl) (own_w hw 52 rfl) (by decide) (by decide)) (g := (mkF m 12 #[.val (.ref xx), .val (.int ii)] [(.int ii), (.ref tt)])) rfl (by rw [hml]; rfl) (argsL := [(.ref tt), (.int ii)]) (rest := []) (lenOf pd_6 rfl) rfl (by show 2 * 0 + _ ≤ _; exact Nat.le_of_eq rfl) (hb hby d9_12) (fun _ _ => ⟨rfl, e237, (by decide : 0 + 0 ≤ _), (by decide : 0 + 0 ≤ _)⟩)
    dsimp only [Pt.U, Pt.locs, Pt.cells, Pt.slots] at X238 l238 y238 z238 st238 hQ238
    subst l238 y238 z238
    obtain ⟨rfl, N238q, e238⟩ := hQ238
    have N238 := Fr.app N236 N238q
    refine own_go st238 ?_
    show own_Fin _ _ _ _ (T238.setTop (mkF m 15 #[.val (.ref xx), .val (.int ii)] [(.int chx)]))
    refine own_retI X238 hx Bd (t := .char) Bd.returns (StrChars.narrow_ch hbx.1 hbx.2) (by simp) (hb hby d9_15) ?_ (by decide) (by decide)
    show (Q_rm_ca Z xx tt cs ii chx gc gs h0 n0) (some (.int chx)) T238.heap _
    rw [e238]
    exact ⟨rfl, N238, rfl⟩
  · skip
    refine own_go (fun _ q => XS.aloadN X0.here hx rfl (hb hby d9_0) rfl rfl q) ?_
    show own_Fin _ _ _ _ (s₁.setTop (mkF m 1 #[.val (.ref xx), .val (.int ii)] [(.ref xx)]))
    obtain ⟨cq239, kq239, qa239, qb239, qc239⟩ := isOf hZ e0 E_x
    obtain ⟨_, _, ⟨T239, L239, k239, n239⟩, -, X239, ⟨Lc239, hQ239, l239, y239, z239⟩, st239⟩ := X0.virtualBack hx (y := (⟨"java/lang/String", "isLatin1", "()Z"⟩ : MethodName)) (z := (⟨"java/lang/String", "isLatin1", "()Z"⟩ : MethodName)) hown (mvT hZ (own_w hw 45 rfl)) (mvT hZ (own_w hw 46 rfl)) (own_notface (args := #[]) (mvT hZ (own_w hw 43 rfl)) rfl) (mvT hZ (own_w hw 48 rfl)) (mvT hZ (own_w hw 47 rfl)) (by decide) (backOf (W := 0) (rm_il1 l Z a0 hw [] xx gc h0 n0 (Nat.le_trans Z0 K0.1) C_x S_C hcs O0) hZ (own_w hw 49 rfl) (own_w hw 9 rfl) (by decide) (by decide)) qa239 qc239 (g := (mkF m 1 #[.val (.ref xx), .val (.int ii)] [(.ref xx)])) rfl (by rw [hml]; rfl) (Steps.refl _) (argsL := []) (rest := []) (lenOf pd_16 rfl) rfl (by show 2 * 0 + _ ≤ _; exact Nat.le_of_eq rfl) (hb hby d9_1) (fun _ _ => ⟨rfl, e0, (by decide : 0 + 0 ≤ _), (by decide : 0 + 0 ≤ _)⟩)
    dsimp only [Pt.U, Pt.locs, Pt.cells, Pt.slots] at X239 l239 y239 z239 st239 hQ239
    subst l239 y239 z239
    obtain ⟨rfl, N239q, e239⟩ := hQ239
    have N239 := Fr.app N0 N239q
    refine own_go (fun _ q => st239.trans q) ?_
    show own_Fin _ _ _ _ (T239.setTop (mkF m 4 #[.val (.ref xx), .val (.int ii)] [(.int (0 : Int32))]))
    refine own_go (fun _ q => XS.ifYes X239.here hx rfl (pc0 := 4) (pc' := 16) rfl (hb hby d9_4) rfl ((if0 _ _).trans (teq (by decide : (0 : Int32) = (0 : Int32))).1) (by decide) (by decide) q) ?_
    refine own_go (fun _ q => XS.aloadN X239.here hx rfl (hb hby d9_16) rfl rfl q) ?_
    show own_Fin _ _ _ _ (T239.setTop (mkF m 17 #[.val (.ref xx), .val (.int ii)] [(.ref xx)]))
    obtain ⟨T240, X240, e240, st240⟩ := getF X239 hx hZ hown (host := "") (Or.inl (own_w hw 34 rfl)) Via.refl e239 V_x (g := (mkF m 17 #[.val (.ref xx), .val (.int ii)] [(.ref xx)])) rfl rfl (hb hby d9_17)
    refine own_go st240 ?_
    refine own_go (fun _ q => XS.iloadN X240.here hx rfl (hb hby d9_20) rfl q) ?_
    show own_Fin _ _ _ _ (T240.setTop (mkF m 21 #[.val (.ref xx), .val (.int ii)] [(.int ii), (.ref tt)]))
    obtain ⟨_, _, ⟨T241, L241, k241, n241⟩, -, X241, ⟨Lc241, hQ241, l241, y241, z241⟩, st241⟩ := Jvm.LawKit.callS X240 hx (y := (⟨"java/lang/StringUTF16", "charAt", "([BI)C"⟩ : MethodName)) hown (mvT hZ (own_w hw 81 rfl)) (mvT hZ (own_w hw 82 rfl)) (mvT hZ (own_w hw 23 rfl)) (mvT hZ (own_w hw 83 rfl)) (by decide) (backOf (W := 0) (rm_uc l Z a0 hw [] tt kq ii chx (Int32.ofNat (2 * cs.length)) (StrChars.Road.wideBytes cs) gs h0 n0 (Nat.le_trans Z0 K0.1) A_x hj1 hj2 hv1 hv2 hbx hi0 hi2 S_F hgs O0 S_A S_H S_L) hZ (own_w hw 83 rfl) (own_w hw 23 rfl) (by decide) (by decide)) (g := (mkF m 21 #[.val (.ref xx), .val (.int ii)] [(.int ii), (.ref tt)])) rfl (by rw [hml]; rfl) (argsL := [(.ref tt), (.int ii)]) (rest := []) (lenOf pd_6 rfl) rfl (by show 2 * 0 + _ ≤ _; exact Nat.le_of_eq rfl) (hb hby d9_21) (fun _ _ => ⟨rfl, e240, (by decide : 0 + 0 ≤ _), (by decide : 0 + 0 ≤ _)⟩)
    dsimp only [Pt.U, Pt.locs, Pt.cells, Pt.slots] at X241 l241 y241 z241 st241 hQ241
    subst l241 y241 z241
    obtain ⟨rfl, N241q, e241⟩ := hQ241
    have N241 := Fr.app N239 N241q
    refine own_go st241 ?_
    show own_Fin _ _ _ _ (T241.setTop (mkF m 24 #[.val (.ref xx), .val (.int ii)] [(.int chx)]))
    refine own_retI X241 hx Bd (t := .char) Bd.returns (StrChars.narrow_ch hbx.1 hbx.2) (by simp) (hb hby d9_24) ?_ (by decide) (by decide)
    show (Q_rm_ca Z xx tt cs ii chx gc gs h0 n0) (some (.int chx)) T241.heap _
    rw [e241]
    exact ⟨rfl, N241, rfl⟩
def Q_rm_cdr0 (Z : State) (xx : Addr) (gc : Int32) (h0 : Heap) (n0 : Nat) (v : Option Value) (h : Heap) (L : List Loc) : Prop := v = some (.int (0 : Int32)) ∧ Fr n0 L ∧ h = h0
theorem ef_rm_cdr0 (m : MethodId) (xx : Addr) (gc : Int32) : entryFrame m #[(.ref xx)] 1 = mkF m 0 #[.val (.ref xx)] [] := by first | (simp [entryFrame, mkF, argsToLocals, Value.category]; done) | rfl
set_option maxRecDepth 65536 in
set_option maxHeartbeats 40000000 in
theorem rm_cdr0 (l : Launch) (Z : State) (a0 : Array Value) (hw : ∀ d ∈ tables_1, d.before a0 Z = true) (ws : List Jvm.Cond) (xx : Addr) (gc : Int32) (h0 : Heap) (n0 : Nat) (Z0 : n0 ≤ h0.size) (C_x : Fld Z h0 xx "java/lang/String" "coder" "B" (.int (0 : Int32))) (S_C : Sta Z Z.heap "java/lang/String" "COMPACT_STRINGS" "Z" (.int gc)) (hcs : ¬ gc = 0) (O0 : Old Z n0 h0) :
    MetFree l (⟨"java/lang/String", "coder", "()B"⟩ : MethodName) (head1 (Jvm.Cond.code (⟨"java/lang/String", "coder", "()B"⟩ : MethodName) jdk_42_method_152_code 1 (some .byte) :: ws) ({ frames := 0, cells := 0, slots := 0, locals := 0 } : Room)) (fun a_ U_ => a_ = #[(.ref xx)] ∧ Z.Warmed39 U_.vm ∧ U_.heap = h0) (fun _ _ _ _ _ => True) (fun _ U_ o_ V_ => ∃ v_ L_, o_ = .returned v_ ∧ (Q_rm_cdr0 Z xx gc h0 n0) v_ V_.heap L_ ∧ FrameEnd U_ o_ V_ L_ ({ frames := 0, cells := 0, slots := 0, locals := 0 } : Room).cells ({ frames := 0, cells := 0, slots := 0, locals := 0 } : Room).slots) := by
  refine MetFree.of_bodySF (plainFor_of_name pn_7) hisR ?_
  intro p e s m args below meth c s₁ Bd hml0 hP hK
  obtain ⟨rfl, hZ, hh⟩ := hP
  have hx := Bd.exec
  have hby := Bd.bytes
  have hml : c.maxLocals = 1 := hml0
  have hown : s.vm.findClass "java/lang/String" = some m.cls := findClass_of_methodNamed Bd.named
  have hnm := (name_of_methodNamed Bd.named Bd.method).1
  have X0 : Stand p l e ({ frames := 0, cells := 0, slots := 0, locals := 0 } : Room) s m #[(.ref xx)] below meth c s₁ [] 0 0 := Stand.of_body Bd
  have e0 : s₁.heap = h0 := by rw [← hh, Bd.state]; rfl
  have N0 := Fr.nil n0
  have K0 : Keep h0 h0 [] := Keep.refl _ _
  show own_Fin p.tables e below (own_Post (Q_rm_cdr0 Z xx gc h0 n0) ({ frames := 0, cells := 0, slots := 0, locals := 0 } : Room).cells ({ frames := 0, cells := 0, slots := 0, locals := 0 } : Room).slots below s) _
  refine own_go (fun _ q => castTop (ef_rm_cdr0 m xx gc) q) ?_
  show own_Fin _ _ _ _ (s₁.setTop (mkF m 0 #[.val (.ref xx)] []))
  obtain ⟨T242, X242, e242, st242⟩ := getS2 X0 hx hZ hown (host := "") (Or.inl (own_w hw 20 rfl)) Via.refl e0 (S_C.ext O0.2) (g := (mkF m 0 #[.val (.ref xx)] [])) rfl (hb hby d23_0)
  refine own_go st242 ?_
  show own_Fin _ _ _ _ (T242.setTop (mkF m 3 #[.val (.ref xx)] [(.int gc)]))
  refine own_go (fun _ q => XS.ifNo X242.here hx rfl (hb hby d23_3) rfl ((if0 _ _).trans (feq hcs).1) q) ?_
  refine own_go (fun _ q => XS.aloadN X242.here hx rfl (hb hby d23_6) rfl rfl q) ?_
  show own_Fin _ _ _ _ (T242.setTop (mkF m 7 #[.val (.ref xx)] [(.ref xx)]))
  obtain ⟨T243, X243, e243, st243⟩ := getF X242 hx hZ hown (host := "") (Or.inl (own_w hw 32 rfl)) Via.refl e242 C_x (g := (mkF m 7 #[.val (.ref xx)] [(.ref xx)])) rfl rfl (hb hby d23_7)
  refine own_go st243 ?_
  refine own_go (fun _ q => XS.goto X243.here hx rfl (pc0 := 10) (pc' := 14) rfl (hb hby d23_10) (by decide) (by decide) q) ?_
  show own_Fin _ _ _ _ (T243.setTop (mkF m 14 #[.val (.ref xx)] [(.int (0 : Int32))]))
  refine own_retI X243 hx Bd (t := .byte) Bd.returns rfl (by simp) (hb hby d23_14) ?_ (by decide) (by decide)
  show (Q_rm_cdr0 Z xx gc h0 n0) (some (.int (0 : Int32))) T243.heap _
  rw [e243]
  exact ⟨rfl, N0, rfl⟩
def Q_rm_cdr1 (Z : State) (xx : Addr) (gc : Int32) (h0 : Heap) (n0 : Nat) (v : Option Value) (h : Heap) (L : List Loc) : Prop := v = some (.int (1 : Int32)) ∧ Fr n0 L ∧ h = h0
theorem ef_rm_cdr1 (m : MethodId) (xx : Addr) (gc : Int32) : entryFrame m #[(.ref xx)] 1 = mkF m 0 #[.val (.ref xx)] [] := by first | (simp [entryFrame, mkF, argsToLocals, Value.category]; done) | rfl
set_option maxRecDepth 65536 in
set_option maxHeartbeats 40000000 in
theorem rm_cdr1 (l : Launch) (Z : State) (a0 : Array Value) (hw : ∀ d ∈ tables_1, d.before a0 Z = true) (ws : List Jvm.Cond) (xx : Addr) (gc : Int32) (h0 : Heap) (n0 : Nat) (Z0 : n0 ≤ h0.size) (C_x : Fld Z h0 xx "java/lang/String" "coder" "B" (.int (1 : Int32))) (S_C : Sta Z Z.heap "java/lang/String" "COMPACT_STRINGS" "Z" (.int gc)) (hcs : ¬ gc = 0) (O0 : Old Z n0 h0) :
    MetFree l (⟨"java/lang/String", "coder", "()B"⟩ : MethodName) (head1 (Jvm.Cond.code (⟨"java/lang/String", "coder", "()B"⟩ : MethodName) jdk_42_method_152_code 1 (some .byte) :: ws) ({ frames := 0, cells := 0, slots := 0, locals := 0 } : Room)) (fun a_ U_ => a_ = #[(.ref xx)] ∧ Z.Warmed39 U_.vm ∧ U_.heap = h0) (fun _ _ _ _ _ => True) (fun _ U_ o_ V_ => ∃ v_ L_, o_ = .returned v_ ∧ (Q_rm_cdr1 Z xx gc h0 n0) v_ V_.heap L_ ∧ FrameEnd U_ o_ V_ L_ ({ frames := 0, cells := 0, slots := 0, locals := 0 } : Room).cells ({ frames := 0, cells := 0, slots := 0, locals := 0 } : Room).slots) := by
  refine MetFree.of_bodySF (plainFor_of_name pn_7) hisR ?_
  intro p e s m args below meth c s₁ Bd hml0 hP hK
  obtain ⟨rfl, hZ, hh⟩ := hP
  have hx := Bd.exec
  have hby := Bd.bytes
  have hml : c.maxLocals = 1 := hml0
  have hown : s.vm.findClass "java/lang/String" = some m.cls := findClass_of_methodNamed Bd.named
  have hnm := (name_of_methodNamed Bd.named Bd.method).1
  have X0 : Stand p l e ({ frames := 0, cells := 0, slots := 0, locals := 0 } : Room) s m #[(.ref xx)] below meth c s₁ [] 0 0 := Stand.of_body Bd
  have e0 : s₁.heap = h0 := by rw [← hh, Bd.state]; rfl
  have N0 := Fr.nil n0
  have K0 : Keep h0 h0 [] := Keep.refl _ _
  show own_Fin p.tables e below (own_Post (Q_rm_cdr1 Z xx gc h0 n0) ({ frames := 0, cells := 0, slots := 0, locals := 0 } : Room).cells ({ frames := 0, cells := 0, slots := 0, locals := 0 } : Room).slots below s) _
  refine own_go (fun _ q => castTop (ef_rm_cdr1 m xx gc) q) ?_
  show own_Fin _ _ _ _ (s₁.setTop (mkF m 0 #[.val (.ref xx)] []))
  obtain ⟨T244, X244, e244, st244⟩ := getS2 X0 hx hZ hown (host := "") (Or.inl (own_w hw 20 rfl)) Via.refl e0 (S_C.ext O0.2) (g := (mkF m 0 #[.val (.ref xx)] [])) rfl (hb hby d23_0)
  refine own_go st244 ?_
  show own_Fin _ _ _ _ (T244.setTop (mkF m 3 #[.val (.ref xx)] [(.int gc)]))
  refine own_go (fun _ q => XS.ifNo X244.here hx rfl (hb hby d23_3) rfl ((if0 _ _).trans (feq hcs).1) q) ?_
  refine own_go (fun _ q => XS.aloadN X244.here hx rfl (hb hby d23_6) rfl rfl q) ?_
  show own_Fin _ _ _ _ (T244.setTop (mkF m 7 #[.val (.ref xx)] [(.ref xx)]))
  obtain ⟨T245, X245, e245, st245⟩ := getF X244 hx hZ hown (host := "") (Or.inl (own_w hw 32 rfl)) Via.refl e244 C_x (g := (mkF m 7 #[.val (.ref xx)] [(.ref xx)])) rfl rfl (hb hby d23_7)
  refine own_go st245 ?_
  refine own_go (fun _ q => XS.goto X245.here hx rfl (pc0 := 10) (pc' := 14) rfl (hb hby d23_10) (by decide) (by decide) q) ?_
  show own_Fin _ _ _ _ (T245.setTop (mkF m 14 #[.val (.ref xx)] [(.int (1 : Int32))]))
  refine own_retI X245 hx Bd (t := .byte) Bd.returns rfl (by simp) (hb hby d23_14) ?_ (by decide) (by decide)
  show (Q_rm_cdr1 Z xx gc h0 n0) (some (.int (1 : Int32))) T245.heap _
  rw [e245]
  exact ⟨rfl, N0, rfl⟩
def Q_rm_len (Z : State) (xx : Addr) (tt : Addr) (cs : List Int32) (gc : Int32) (h0 : Heap) (n0 : Nat) (v : Option Value) (h : Heap) (L : List Loc) : Prop := v = some (.int (Int32.ofNat cs.length)) ∧ Fr n0 L ∧ h = h0
theorem ef_rm_len (m : MethodId) (xx : Addr) (tt : Addr) (gc : Int32) : entryFrame m #[(.ref xx)] 1 = mkF m 0 #[.val (.ref xx)] [] := by first | (simp [entryFrame, mkF, argsToLocals, Value.category]; done) | rfl
set_option maxRecDepth 65536 in
set_option maxHeartbeats 40000000 in
theorem rm_len (l : Launch) (Z : State) (a0 : Array Value) (hw : ∀ d ∈ tables_1, d.before a0 Z = true) (ws : List Jvm.Cond) (xx : Addr) (tt : Addr) (cs : List Int32) (gc : Int32) (h0 : Heap) (n0 : Nat) (Z0 : n0 ≤ h0.size) (F_x : own_Str Z h0 xx tt cs) (S_C : Sta Z Z.heap "java/lang/String" "COMPACT_STRINGS" "Z" (.int gc)) (hcs : ¬ gc = 0) (O0 : Old Z n0 h0) :
    MetFree l (⟨"java/lang/String", "length", "()I"⟩ : MethodName) (head1 (Jvm.Cond.code (⟨"java/lang/String", "length", "()I"⟩ : MethodName) jdk_42_method_54_code 1 (some .int) :: ws) ({ frames := 1, cells := 0, slots := 0, locals := 13 } : Room)) (fun a_ U_ => a_ = #[(.ref xx)] ∧ Z.Warmed39 U_.vm ∧ U_.heap = h0) (fun _ _ _ _ _ => True) (fun _ U_ o_ V_ => ∃ v_ L_, o_ = .returned v_ ∧ (Q_rm_len Z xx tt cs gc h0 n0) v_ V_.heap L_ ∧ FrameEnd U_ o_ V_ L_ ({ frames := 1, cells := 0, slots := 0, locals := 13 } : Room).cells ({ frames := 1, cells := 0, slots := 0, locals := 13 } : Room).slots) := by
  refine MetFree.of_bodySF (plainFor_of_name pn_7) hisR ?_
  intro p e s m args below meth c s₁ Bd hml0 hP hK
  obtain ⟨rfl, hZ, hh⟩ := hP
  have hx := Bd.exec
  have hby := Bd.bytes
  have hml : c.maxLocals = 1 := hml0
  have hown : s.vm.findClass "java/lang/String" = some m.cls := findClass_of_methodNamed Bd.named
  have hnm := (name_of_methodNamed Bd.named Bd.method).1
  have X0 : Stand p l e ({ frames := 1, cells := 0, slots := 0, locals := 13 } : Room) s m #[(.ref xx)] below meth c s₁ [] 0 0 := Stand.of_body Bd
  have e0 : s₁.heap = h0 := by rw [← hh, Bd.state]; rfl
  have N0 := Fr.nil n0
  have K0 : Keep h0 h0 [] := Keep.refl _ _
  show own_Fin p.tables e below (own_Post (Q_rm_len Z xx tt cs gc h0 n0) ({ frames := 1, cells := 0, slots := 0, locals := 13 } : Room).cells ({ frames := 1, cells := 0, slots := 0, locals := 13 } : Room).slots below s) _
  refine own_go (fun _ q => castTop (ef_rm_len m xx tt gc) q) ?_
  show own_Fin _ _ _ _ (s₁.setTop (mkF m 0 #[.val (.ref xx)] []))
  obtain ⟨kq, Nq, cd, vs, E_x, V_x, C_x, A_x, hcod, -, h4k⟩ := F_x
  rcases hcod with ⟨rfl, rfl, rfl, hcd⟩ | ⟨rfl, rfl, rfl, hcd⟩
  · skip
    refine own_go (fun _ q => XS.aloadN X0.here hx rfl (hb hby d22_0) rfl rfl q) ?_
    show own_Fin _ _ _ _ (s₁.setTop (mkF m 1 #[.val (.ref xx)] [(.ref xx)]))
    obtain ⟨T246, X246, e246, st246⟩ := getF X0 hx hZ hown (host := "") (Or.inl (own_w hw 34 rfl)) Via.refl e0 V_x (g := (mkF m 1 #[.val (.ref xx)] [(.ref xx)])) rfl rfl (hb hby d22_1)
    refine own_go st246 ?_
    show own_Fin _ _ _ _ (T246.setTop (mkF m 4 #[.val (.ref xx)] [(.ref tt)]))
    refine own_go (fun _ q => own_alen X246 hx hZ e246 A_x (g := (mkF m 4 #[.val (.ref xx)] [(.ref tt)])) rfl rfl (hb hby d22_4) _ q) ?_
    refine own_go (fun _ q => XS.aloadN X246.here hx rfl (hb hby d22_5) rfl rfl q) ?_
    show own_Fin _ _ _ _ (T246.setTop (mkF m 6 #[.val (.ref xx)] [(.ref xx), (.int (Int32.ofNat cs.length))]))
    obtain ⟨cq247, kq247, qa247, qb247, qc247⟩ := isOf hZ e246 E_x
    obtain ⟨_, _, ⟨T247, L247, k247, n247⟩, -, X247, ⟨Lc247, hQ247, l247, y247, z247⟩, st247⟩ := X246.virtualBack hx (y := (⟨"java/lang/String", "coder", "()B"⟩ : MethodName)) (z := (⟨"java/lang/String", "coder", "()B"⟩ : MethodName)) hown (mvT hZ (own_w hw 96 rfl)) (mvT hZ (own_w hw 97 rfl)) (own_notface (args := #[]) (mvT hZ (own_w hw 43 rfl)) rfl) (mvT hZ (own_w hw 99 rfl)) (mvT hZ (own_w hw 98 rfl)) (by decide) (backOf (W := 1) (rm_cdr0 l Z a0 hw [] xx gc h0 n0 (Nat.le_trans Z0 K0.1) C_x S_C hcs O0) hZ (own_w hw 100 rfl) (own_w hw 9 rfl) (by decide) (by decide)) qa247 qc247 (g := (mkF m 6 #[.val (.ref xx)] [(.ref xx), (.int (Int32.ofNat cs.length))])) rfl (by rw [hml]; rfl) (Steps.refl _) (argsL := []) (rest := [(.int (Int32.ofNat cs.length))]) (lenOf pd_17 rfl) rfl (by show 2 * 0 + _ ≤ _; exact Nat.le_of_eq rfl) (hb hby d22_6) (fun _ _ => ⟨rfl, e246, (by decide : 0 + 0 ≤ _), (by decide : 0 + 0 ≤ _)⟩)
    dsimp only [Pt.U, Pt.locs, Pt.cells, Pt.slots] at X247 l247 y247 z247 st247 hQ247
    subst l247 y247 z247
    obtain ⟨rfl, N247q, e247⟩ := hQ247
    have N247 := Fr.app N0 N247q
    refine own_go (fun _ q => st247.trans q) ?_
    show own_Fin _ _ _ _ (T247.setTop (mkF m 9 #[.val (.ref xx)] [(.int (0 : Int32)), (.int (Int32.ofNat cs.length))]))
    refine own_go (fun _ q => XS.ishr X247.here hx rfl (hb hby d22_9) rfl q) ?_
    show own_Fin _ _ _ _ (T247.setTop (mkF m 10 #[.val (.ref xx)] [(.int ((Int32.ofNat cs.length) >>> ((0 : Int32) &&& 31)))]))
    rw [StrChars.shr0]
    show own_Fin _ _ _ _ (T247.setTop (mkF m 10 #[.val (.ref xx)] [(.int (Int32.ofNat cs.length))]))
    refine own_retI X247 hx Bd (t := .int) Bd.returns rfl (by simp) (hb hby d22_10) ?_ (by decide) (by decide)
    show (Q_rm_len Z xx tt cs gc h0 n0) (some (.int (Int32.ofNat cs.length))) T247.heap _
    rw [e247]
    exact ⟨rfl, N247, rfl⟩
  · skip
    refine own_go (fun _ q => XS.aloadN X0.here hx rfl (hb hby d22_0) rfl rfl q) ?_
    show own_Fin _ _ _ _ (s₁.setTop (mkF m 1 #[.val (.ref xx)] [(.ref xx)]))
    obtain ⟨T248, X248, e248, st248⟩ := getF X0 hx hZ hown (host := "") (Or.inl (own_w hw 34 rfl)) Via.refl e0 V_x (g := (mkF m 1 #[.val (.ref xx)] [(.ref xx)])) rfl rfl (hb hby d22_1)
    refine own_go st248 ?_
    show own_Fin _ _ _ _ (T248.setTop (mkF m 4 #[.val (.ref xx)] [(.ref tt)]))
    refine own_go (fun _ q => own_alen X248 hx hZ e248 A_x (g := (mkF m 4 #[.val (.ref xx)] [(.ref tt)])) rfl rfl (hb hby d22_4) _ q) ?_
    refine own_go (fun _ q => XS.aloadN X248.here hx rfl (hb hby d22_5) rfl rfl q) ?_
    show own_Fin _ _ _ _ (T248.setTop (mkF m 6 #[.val (.ref xx)] [(.ref xx), (.int (Int32.ofNat (2 * cs.length)))]))
    obtain ⟨cq249, kq249, qa249, qb249, qc249⟩ := isOf hZ e248 E_x
    obtain ⟨_, _, ⟨T249, L249, k249, n249⟩, -, X249, ⟨Lc249, hQ249, l249, y249, z249⟩, st249⟩ := X248.virtualBack hx (y := (⟨"java/lang/String", "coder", "()B"⟩ : MethodName)) (z := (⟨"java/lang/String", "coder", "()B"⟩ : MethodName)) hown (mvT hZ (own_w hw 96 rfl)) (mvT hZ (own_w hw 97 rfl)) (own_notface (args := #[]) (mvT hZ (own_w hw 43 rfl)) rfl) (mvT hZ (own_w hw 99 rfl)) (mvT hZ (own_w hw 98 rfl)) (by decide) (backOf (W := 1) (rm_cdr1 l Z a0 hw [] xx gc h0 n0 (Nat.le_trans Z0 K0.1) C_x S_C hcs O0) hZ (own_w hw 100 rfl) (own_w hw 9 rfl) (by decide) (by decide)) qa249 qc249 (g := (mkF m 6 #[.val (.ref xx)] [(.ref xx), (.int (Int32.ofNat (2 * cs.length)))])) rfl (by rw [hml]; rfl) (Steps.refl _) (argsL := []) (rest := [(.int (Int32.ofNat (2 * cs.length)))]) (lenOf pd_17 rfl) rfl (by show 2 * 0 + _ ≤ _; exact Nat.le_of_eq rfl) (hb hby d22_6) (fun _ _ => ⟨rfl, e248, (by decide : 0 + 0 ≤ _), (by decide : 0 + 0 ≤ _)⟩)
    dsimp only [Pt.U, Pt.locs, Pt.cells, Pt.slots] at X249 l249 y249 z249 st249 hQ249
    subst l249 y249 z249
    obtain ⟨rfl, N249q, e249⟩ := hQ249
    have N249 := Fr.app N0 N249q
    refine own_go (fun _ q => st249.trans q) ?_
    show own_Fin _ _ _ _ (T249.setTop (mkF m 9 #[.val (.ref xx)] [(.int (1 : Int32)), (.int (Int32.ofNat (2 * cs.length)))]))
    refine own_go (fun _ q => XS.ishr X249.here hx rfl (hb hby d22_9) rfl q) ?_
    show own_Fin _ _ _ _ (T249.setTop (mkF m 10 #[.val (.ref xx)] [(.int ((Int32.ofNat (2 * cs.length)) >>> ((1 : Int32) &&& 31)))]))
    rw [StrChars.shr1 (by omega)]
    show own_Fin _ _ _ _ (T249.setTop (mkF m 10 #[.val (.ref xx)] [(.int (Int32.ofNat cs.length))]))
    refine own_retI X249 hx Bd (t := .int) Bd.returns rfl (by simp) (hb hby d22_10) ?_ (by decide) (by decide)
    show (Q_rm_len Z xx tt cs gc h0 n0) (some (.int (Int32.ofNat cs.length))) T249.heap _
    rw [e249]
    exact ⟨rfl, N249, rfl⟩
def Q_rm_hd (Z : State) (chx : Int32) (dg : Addr) (kg : ClassId) (h0 : Heap) (n0 : Nat) (v : Option Value) (h : Heap) (L : List Loc) : Prop := ∃ z : Int32, v = some (.int z) ∧ Fr n0 L ∧ h = h0 ∧ ((z = 1 ∧ own_hex chx) ∨ (z = 0 ∧ ¬ own_hex chx))
theorem ef_rm_hd (m : MethodId) (chx : Int32) (dg : Addr) : entryFrame m #[(.int chx)] 1 = mkF m 0 #[.val (.int chx)] [] := by first | (simp [entryFrame, mkF, argsToLocals, Value.category]; done) | rfl
set_option maxRecDepth 65536 in
set_option maxHeartbeats 40000000 in
theorem rm_hd (l : Launch) (Z : State) (a0 : Array Value) (hw : ∀ d ∈ tables_1, d.before a0 Z = true) (ws : List Jvm.Cond) (chx : Int32) (dg : Addr) (kg : ClassId) (h0 : Heap) (n0 : Nat) (Z0 : n0 ≤ h0.size) (hbx : ¬ chx < 0 ∧ ¬ (65535 : Int32) < chx) (S_D : Sta Z Z.heap "java/util/HexFormat" "DIGITS" "[B" (.ref dg)) (V_dg : Arv Z Z.heap dg kg .byte (256 : Int32) own_dvs (.int (0 : Int32))) (O0 : Old Z n0 h0) :
    MetFree l (⟨"java/util/HexFormat", "isHexDigit", "(I)Z"⟩ : MethodName) (head1 (Jvm.Cond.code (⟨"java/util/HexFormat", "isHexDigit", "(I)Z"⟩ : MethodName) jdk_2580_method_35_code 1 (some .boolean) :: ws) ({ frames := 0, cells := 0, slots := 0, locals := 0 } : Room)) (fun a_ U_ => a_ = #[(.int chx)] ∧ Z.Warmed39 U_.vm ∧ U_.heap = h0) (fun _ _ _ _ _ => True) (fun _ U_ o_ V_ => ∃ v_ L_, o_ = .returned v_ ∧ (Q_rm_hd Z chx dg kg h0 n0) v_ V_.heap L_ ∧ FrameEnd U_ o_ V_ L_ ({ frames := 0, cells := 0, slots := 0, locals := 0 } : Room).cells ({ frames := 0, cells := 0, slots := 0, locals := 0 } : Room).slots) := by
  refine MetFree.of_bodySF (plainFor_of_name pn_18) hisR ?_
  intro p e s m args below meth c s₁ Bd hml0 hP hK
  obtain ⟨rfl, hZ, hh⟩ := hP
  have hx := Bd.exec
  have hby := Bd.bytes
  have hml : c.maxLocals = 1 := hml0
  have hown : s.vm.findClass "java/util/HexFormat" = some m.cls := findClass_of_methodNamed Bd.named
  have hnm := (name_of_methodNamed Bd.named Bd.method).1
  have X0 : Stand p l e ({ frames := 0, cells := 0, slots := 0, locals := 0 } : Room) s m #[(.int chx)] below meth c s₁ [] 0 0 := Stand.of_body Bd
  have e0 : s₁.heap = h0 := by rw [← hh, Bd.state]; rfl
  have N0 := Fr.nil n0
  have K0 : Keep h0 h0 [] := Keep.refl _ _
  show own_Fin p.tables e below (own_Post (Q_rm_hd Z chx dg kg h0 n0) ({ frames := 0, cells := 0, slots := 0, locals := 0 } : Room).cells ({ frames := 0, cells := 0, slots := 0, locals := 0 } : Room).slots below s) _
  refine own_go (fun _ q => castTop (ef_rm_hd m chx dg) q) ?_
  refine own_go (fun _ q => XS.iloadN X0.here hx rfl (hb hby d25_0) rfl q) ?_
  refine own_go (fun _ q => XS.bipush X0.here hx rfl (hb hby d25_1) q) ?_
  show own_Fin _ _ _ _ (s₁.setTop (mkF m 3 #[.val (.int chx)] [(.int (8 : Int32)), (.int chx)]))
  refine own_go (fun _ q => XS.iushr X0.here hx rfl (hb hby d25_3) rfl q) ?_
  show own_Fin _ _ _ _ (s₁.setTop (mkF m 4 #[.val (.int chx)] [(.int ((chx.toUInt32 >>> ((8 : Int32) &&& 31).toUInt32).toInt32))]))
  by_cases hc250 : ((chx.toUInt32 >>> ((8 : Int32) &&& 31).toUInt32).toInt32) = (0 : Int32)
  · skip
    refine own_go (fun _ q => XS.ifNo X0.here hx rfl (hb hby d25_4) rfl ((if0 _ _).trans (teq hc250).2) q) ?_
    show own_Fin _ _ _ _ (s₁.setTop (mkF m 7 #[.val (.int chx)] []))
    obtain ⟨T251, X251, e251, st251⟩ := getS2 X0 hx hZ hown (host := "") (Or.inl (own_w hw 108 rfl)) Via.refl e0 (S_D.ext O0.2) (g := (mkF m 7 #[.val (.int chx)] [])) rfl (hb hby d25_7)
    refine own_go st251 ?_
    refine own_go (fun _ q => XS.iloadN X251.here hx rfl (hb hby d25_10) rfl q) ?_
    show own_Fin _ _ _ _ (T251.setTop (mkF m 11 #[.val (.int chx)] [(.int chx), (.ref dg)]))
    refine own_go (fun _ q => own_baload X251 hx hZ e251 (V_dg.ext O0.2) (own_inb hbx.1 hc250) (v := (.int (own_dig chx))) (own_dgv _) (g := (mkF m 11 #[.val (.int chx)] [(.int chx), (.ref dg)])) rfl rfl (hb hby d25_11) _ q) ?_
    show own_Fin _ _ _ _ (T251.setTop (mkF m 12 #[.val (.int chx)] [(.int (own_dig chx))]))
    by_cases hc252 : (own_dig chx) < (0 : Int32)
    · skip
      refine own_go (fun _ q => XS.ifYes X251.here hx rfl (pc0 := 12) (pc' := 19) rfl (hb hby d25_12) rfl ((if0 _ _).trans (tlt hc252).1) (by decide) (by decide) q) ?_
      refine own_go (fun _ q => XS.iconst X251.here hx rfl (hb hby d25_19) q) ?_
      show own_Fin _ _ _ _ (T251.setTop (mkF m 20 #[.val (.int chx)] [(.int (0 : Int32))]))
      refine own_retI X251 hx Bd (t := .boolean) Bd.returns rfl (by simp) (hb hby d25_20) ?_ (by decide) (by decide)
      show (Q_rm_hd Z chx dg kg h0 n0) (some (.int (0 : Int32))) T251.heap _
      rw [e251]
      refine ⟨_, rfl, N0, rfl, ?_⟩
      exact Or.inr ⟨rfl, (own_dec ⟨hbx.1, own_sm hbx.1 hc250⟩).mp hc252⟩
    · skip
      refine own_go (fun _ q => XS.ifNo X251.here hx rfl (hb hby d25_12) rfl ((if0 _ _).trans (flt hc252).1) q) ?_
      refine own_go (fun _ q => XS.iconst X251.here hx rfl (hb hby d25_15) q) ?_
      refine own_go (fun _ q => XS.goto X251.here hx rfl (pc0 := 16) (pc' := 20) rfl (hb hby d25_16) (by decide) (by decide) q) ?_
      show own_Fin _ _ _ _ (T251.setTop (mkF m 20 #[.val (.int chx)] [(.int (1 : Int32))]))
      refine own_retI X251 hx Bd (t := .boolean) Bd.returns rfl (by simp) (hb hby d25_20) ?_ (by decide) (by decide)
      show (Q_rm_hd Z chx dg kg h0 n0) (some (.int (1 : Int32))) T251.heap _
      rw [e251]
      refine ⟨_, rfl, N0, rfl, ?_⟩
      exact Or.inl ⟨rfl, Classical.byContradiction fun q => hc252 ((own_dec ⟨hbx.1, own_sm hbx.1 hc250⟩).mpr q)⟩
  · skip
    refine own_go (fun _ q => XS.ifYes X0.here hx rfl (pc0 := 4) (pc' := 19) rfl (hb hby d25_4) rfl ((if0 _ _).trans (feq hc250).2) (by decide) (by decide) q) ?_
    refine own_go (fun _ q => XS.iconst X0.here hx rfl (hb hby d25_19) q) ?_
    show own_Fin _ _ _ _ (s₁.setTop (mkF m 20 #[.val (.int chx)] [(.int (0 : Int32))]))
    refine own_retI X0 hx Bd (t := .boolean) Bd.returns rfl (by simp) (hb hby d25_20) ?_ (by decide) (by decide)
    show (Q_rm_hd Z chx dg kg h0 n0) (some (.int (0 : Int32))) s₁.heap _
    rw [e0]
    refine ⟨_, rfl, N0, rfl, ?_⟩
    exact Or.inr ⟨rfl, fun q => hc250 (own_hex8 q)⟩
def Q_rm_ih (Z : State) (chx : Int32) (h0 : Heap) (n0 : Nat) (v : Option Value) (h : Heap) (L : List Loc) : Prop := ∃ z : Int32, v = some (.int z) ∧ Fr n0 L ∧ h = h0 ∧ ((z = 1 ∧ own_hex chx) ∨ (z = 0 ∧ ¬ own_hex chx))
theorem ef_rm_ih (m : MethodId) (chx : Int32) : entryFrame m #[(.int chx)] 1 = mkF m 0 #[.val (.int chx)] [] := by first | (simp [entryFrame, mkF, argsToLocals, Value.category]; done) | rfl
set_option maxRecDepth 65536 in
set_option maxHeartbeats 40000000 in
theorem rm_ih (l : Launch) (Z : State) (a0 : Array Value) (hw : ∀ d ∈ tables_1, d.before a0 Z = true) (ws : List Jvm.Cond) (chx : Int32) (h0 : Heap) (n0 : Nat) (Z0 : n0 ≤ h0.size) :
    MetFree l (⟨"com/example/iron_satchel/ironsatchel/PercentEncodingIsEscapeAtPinLaw", "isHex", "(C)Z"⟩ : MethodName) (head1 (Jvm.Cond.code (⟨"com/example/iron_satchel/ironsatchel/PercentEncodingIsEscapeAtPinLaw", "isHex", "(C)Z"⟩ : MethodName) method_4_code 1 (some .boolean) :: ws) ({ frames := 0, cells := 0, slots := 0, locals := 0 } : Room)) (fun a_ U_ => a_ = #[(.int chx)] ∧ Z.Warmed39 U_.vm ∧ U_.heap = h0) (fun _ _ _ _ _ => True) (fun _ U_ o_ V_ => ∃ v_ L_, o_ = .returned v_ ∧ (Q_rm_ih Z chx h0 n0) v_ V_.heap L_ ∧ FrameEnd U_ o_ V_ L_ ({ frames := 0, cells := 0, slots := 0, locals := 0 } : Room).cells ({ frames := 0, cells := 0, slots := 0, locals := 0 } : Room).slots) := by
  refine MetFree.of_bodySF (plainFor_of_name pn_19) hisR ?_
  intro p e s m args below meth c s₁ Bd hml0 hP hK
  obtain ⟨rfl, hZ, hh⟩ := hP
  have hx := Bd.exec
  have hby := Bd.bytes
  have hml : c.maxLocals = 1 := hml0
  have hown : s.vm.findClass "com/example/iron_satchel/ironsatchel/PercentEncodingIsEscapeAtPinLaw" = some m.cls := findClass_of_methodNamed Bd.named
  have hnm := (name_of_methodNamed Bd.named Bd.method).1
  have X0 : Stand p l e ({ frames := 0, cells := 0, slots := 0, locals := 0 } : Room) s m #[(.int chx)] below meth c s₁ [] 0 0 := Stand.of_body Bd
  have e0 : s₁.heap = h0 := by rw [← hh, Bd.state]; rfl
  have N0 := Fr.nil n0
  have K0 : Keep h0 h0 [] := Keep.refl _ _
  show own_Fin p.tables e below (own_Post (Q_rm_ih Z chx h0 n0) ({ frames := 0, cells := 0, slots := 0, locals := 0 } : Room).cells ({ frames := 0, cells := 0, slots := 0, locals := 0 } : Room).slots below s) _
  refine own_go (fun _ q => castTop (ef_rm_ih m chx) q) ?_
  refine own_go (fun _ q => XS.iloadN X0.here hx rfl (hb hby d24_0) rfl q) ?_
  refine own_go (fun _ q => XS.bipush X0.here hx rfl (hb hby d24_1) q) ?_
  show own_Fin _ _ _ _ (s₁.setTop (mkF m 3 #[.val (.int chx)] [(.int (48 : Int32)), (.int chx)]))
  by_cases hc253 : chx < (48 : Int32)
  · skip
    refine own_go (fun _ q => XS.icmpYes X0.here hx rfl (pc0 := 3) (pc' := 14) rfl (hb hby d24_3) rfl (tlt hc253).1 (by decide) (by decide) q) ?_
    refine own_go (fun _ q => XS.iloadN X0.here hx rfl (hb hby d24_14) rfl q) ?_
    refine own_go (fun _ q => XS.bipush X0.here hx rfl (hb hby d24_15) q) ?_
    show own_Fin _ _ _ _ (s₁.setTop (mkF m 17 #[.val (.int chx)] [(.int (97 : Int32)), (.int chx)]))
    by_cases hc254 : chx < (97 : Int32)
    · skip
      refine own_go (fun _ q => XS.icmpYes X0.here hx rfl (pc0 := 17) (pc' := 28) rfl (hb hby d24_17) rfl (tlt hc254).1 (by decide) (by decide) q) ?_
      refine own_go (fun _ q => XS.iloadN X0.here hx rfl (hb hby d24_28) rfl q) ?_
      refine own_go (fun _ q => XS.bipush X0.here hx rfl (hb hby d24_29) q) ?_
      show own_Fin _ _ _ _ (s₁.setTop (mkF m 31 #[.val (.int chx)] [(.int (65 : Int32)), (.int chx)]))
      by_cases hc255 : chx < (65 : Int32)
      · skip
        refine own_go (fun _ q => XS.icmpYes X0.here hx rfl (pc0 := 31) (pc' := 44) rfl (hb hby d24_31) rfl (tlt hc255).1 (by decide) (by decide) q) ?_
        refine own_go (fun _ q => XS.iconst X0.here hx rfl (hb hby d24_44) q) ?_
        show own_Fin _ _ _ _ (s₁.setTop (mkF m 45 #[.val (.int chx)] [(.int (0 : Int32))]))
        refine own_retI X0 hx Bd (t := .boolean) Bd.returns rfl (by simp) (hb hby d24_45) ?_ (by decide) (by decide)
        show (Q_rm_ih Z chx h0 n0) (some (.int (0 : Int32))) s₁.heap _
        rw [e0]
        exact ⟨_, rfl, N0, rfl, Or.inr ⟨rfl, by simp [own_hex, hc253, hc254, hc255]⟩⟩
      · skip
        refine own_go (fun _ q => XS.icmpNo X0.here hx rfl (hb hby d24_31) rfl (flt hc255).1 q) ?_
        refine own_go (fun _ q => XS.iloadN X0.here hx rfl (hb hby d24_34) rfl q) ?_
        refine own_go (fun _ q => XS.bipush X0.here hx rfl (hb hby d24_35) q) ?_
        show own_Fin _ _ _ _ (s₁.setTop (mkF m 37 #[.val (.int chx)] [(.int (70 : Int32)), (.int chx)]))
        by_cases hc256 : (70 : Int32) < chx
        · skip
          refine own_go (fun _ q => XS.icmpYes X0.here hx rfl (pc0 := 37) (pc' := 44) rfl (hb hby d24_37) rfl (tlt hc256).2.2.1 (by decide) (by decide) q) ?_
          refine own_go (fun _ q => XS.iconst X0.here hx rfl (hb hby d24_44) q) ?_
          show own_Fin _ _ _ _ (s₁.setTop (mkF m 45 #[.val (.int chx)] [(.int (0 : Int32))]))
          refine own_retI X0 hx Bd (t := .boolean) Bd.returns rfl (by simp) (hb hby d24_45) ?_ (by decide) (by decide)
          show (Q_rm_ih Z chx h0 n0) (some (.int (0 : Int32))) s₁.heap _
          rw [e0]
          exact ⟨_, rfl, N0, rfl, Or.inr ⟨rfl, by simp [own_hex, hc253, hc254, hc255, hc256]⟩⟩
        · skip
          refine own_go (fun _ q => XS.icmpNo X0.here hx rfl (hb hby d24_37) rfl (flt hc256).2.2.1 q) ?_
          refine own_go (fun _ q => XS.iconst X0.here hx rfl (hb hby d24_40) q) ?_
          refine own_go (fun _ q => XS.goto X0.here hx rfl (pc0 := 41) (pc' := 45) rfl (hb hby d24_41) (by decide) (by decide) q) ?_
          show own_Fin _ _ _ _ (s₁.setTop (mkF m 45 #[.val (.int chx)] [(.int (1 : Int32))]))
          refine own_retI X0 hx Bd (t := .boolean) Bd.returns rfl (by simp) (hb hby d24_45) ?_ (by decide) (by decide)
          show (Q_rm_ih Z chx h0 n0) (some (.int (1 : Int32))) s₁.heap _
          rw [e0]
          exact ⟨_, rfl, N0, rfl, Or.inl ⟨rfl, by simp [own_hex, hc253, hc254, hc255, hc256]⟩⟩
    · skip
      refine own_go (fun _ q => XS.icmpNo X0.here hx rfl (hb hby d24_17) rfl (flt hc254).1 q) ?_
      refine own_go (fun _ q => XS.iloadN X0.here hx rfl (hb hby d24_20) rfl q) ?_
      refine own_go (fun _ q => XS.bipush X0.here hx rfl (hb hby d24_21) q) ?_
      show own_Fin _ _ _ _ (s₁.setTop (mkF m 23 #[.val (.int chx)] [(.int (102 : Int32)), (.int chx)]))
      by_cases hc257 : (102 : Int32) < chx
      · skip
        refine own_go (fun _ q => XS.icmpYes X0.here hx rfl (pc0 := 23) (pc' := 28) rfl (hb hby d24_23) rfl (tlt hc257).2.2.1 (by decide) (by decide) q) ?_
        refine own_go (fun _ q => XS.iloadN X0.here hx rfl (hb hby d24_28) rfl q) ?_
        refine own_go (fun _ q => XS.bipush X0.here hx rfl (hb hby d24_29) q) ?_
        show own_Fin _ _ _ _ (s₁.setTop (mkF m 31 #[.val (.int chx)] [(.int (65 : Int32)), (.int chx)]))
        by_cases hc258 : chx < (65 : Int32)
        · skip
          refine own_go (fun _ q => XS.icmpYes X0.here hx rfl (pc0 := 31) (pc' := 44) rfl (hb hby d24_31) rfl (tlt hc258).1 (by decide) (by decide) q) ?_
          refine own_go (fun _ q => XS.iconst X0.here hx rfl (hb hby d24_44) q) ?_
          show own_Fin _ _ _ _ (s₁.setTop (mkF m 45 #[.val (.int chx)] [(.int (0 : Int32))]))
          refine own_retI X0 hx Bd (t := .boolean) Bd.returns rfl (by simp) (hb hby d24_45) ?_ (by decide) (by decide)
          show (Q_rm_ih Z chx h0 n0) (some (.int (0 : Int32))) s₁.heap _
          rw [e0]
          exact ⟨_, rfl, N0, rfl, Or.inr ⟨rfl, by simp [own_hex, hc253, hc254, hc257, hc258]⟩⟩
        · skip
          refine own_go (fun _ q => XS.icmpNo X0.here hx rfl (hb hby d24_31) rfl (flt hc258).1 q) ?_
          refine own_go (fun _ q => XS.iloadN X0.here hx rfl (hb hby d24_34) rfl q) ?_
          refine own_go (fun _ q => XS.bipush X0.here hx rfl (hb hby d24_35) q) ?_
          show own_Fin _ _ _ _ (s₁.setTop (mkF m 37 #[.val (.int chx)] [(.int (70 : Int32)), (.int chx)]))
          by_cases hc259 : (70 : Int32) < chx
          · skip
            refine own_go (fun _ q => XS.icmpYes X0.here hx rfl (pc0 := 37) (pc' := 44) rfl (hb hby d24_37) rfl (tlt hc259).2.2.1 (by decide) (by decide) q) ?_
            refine own_go (fun _ q => XS.iconst X0.here hx rfl (hb hby d24_44) q) ?_
            show own_Fin _ _ _ _ (s₁.setTop (mkF m 45 #[.val (.int chx)] [(.int (0 : Int32))]))
            refine own_retI X0 hx Bd (t := .boolean) Bd.returns rfl (by simp) (hb hby d24_45) ?_ (by decide) (by decide)
            show (Q_rm_ih Z chx h0 n0) (some (.int (0 : Int32))) s₁.heap _
            rw [e0]
            exact ⟨_, rfl, N0, rfl, Or.inr ⟨rfl, by simp [own_hex, hc253, hc254, hc257, hc258, hc259]⟩⟩
          · skip
            refine own_go (fun _ q => XS.icmpNo X0.here hx rfl (hb hby d24_37) rfl (flt hc259).2.2.1 q) ?_
            refine own_go (fun _ q => XS.iconst X0.here hx rfl (hb hby d24_40) q) ?_
            refine own_go (fun _ q => XS.goto X0.here hx rfl (pc0 := 41) (pc' := 45) rfl (hb hby d24_41) (by decide) (by decide) q) ?_
            show own_Fin _ _ _ _ (s₁.setTop (mkF m 45 #[.val (.int chx)] [(.int (1 : Int32))]))
            refine own_retI X0 hx Bd (t := .boolean) Bd.returns rfl (by simp) (hb hby d24_45) ?_ (by decide) (by decide)
            show (Q_rm_ih Z chx h0 n0) (some (.int (1 : Int32))) s₁.heap _
            rw [e0]
            exact ⟨_, rfl, N0, rfl, Or.inl ⟨rfl, by simp [own_hex, hc253, hc254, hc257, hc258, hc259]⟩⟩
      · skip
        refine own_go (fun _ q => XS.icmpNo X0.here hx rfl (hb hby d24_23) rfl (flt hc257).2.2.1 q) ?_
        refine own_go (fun _ q => XS.iconst X0.here hx rfl (hb hby d24_26) q) ?_
        show own_Fin _ _ _ _ (s₁.setTop (mkF m 27 #[.val (.int chx)] [(.int (1 : Int32))]))
        refine own_retI X0 hx Bd (t := .boolean) Bd.returns rfl (by simp) (hb hby d24_27) ?_ (by decide) (by decide)
        show (Q_rm_ih Z chx h0 n0) (some (.int (1 : Int32))) s₁.heap _
        rw [e0]
        exact ⟨_, rfl, N0, rfl, Or.inl ⟨rfl, by simp [own_hex, hc253, hc254, hc257]⟩⟩
  · skip
    refine own_go (fun _ q => XS.icmpNo X0.here hx rfl (hb hby d24_3) rfl (flt hc253).1 q) ?_
    refine own_go (fun _ q => XS.iloadN X0.here hx rfl (hb hby d24_6) rfl q) ?_
    refine own_go (fun _ q => XS.bipush X0.here hx rfl (hb hby d24_7) q) ?_
    show own_Fin _ _ _ _ (s₁.setTop (mkF m 9 #[.val (.int chx)] [(.int (57 : Int32)), (.int chx)]))
    by_cases hc260 : (57 : Int32) < chx
    · skip
      refine own_go (fun _ q => XS.icmpYes X0.here hx rfl (pc0 := 9) (pc' := 14) rfl (hb hby d24_9) rfl (tlt hc260).2.2.1 (by decide) (by decide) q) ?_
      refine own_go (fun _ q => XS.iloadN X0.here hx rfl (hb hby d24_14) rfl q) ?_
      refine own_go (fun _ q => XS.bipush X0.here hx rfl (hb hby d24_15) q) ?_
      show own_Fin _ _ _ _ (s₁.setTop (mkF m 17 #[.val (.int chx)] [(.int (97 : Int32)), (.int chx)]))
      by_cases hc261 : chx < (97 : Int32)
      · skip
        refine own_go (fun _ q => XS.icmpYes X0.here hx rfl (pc0 := 17) (pc' := 28) rfl (hb hby d24_17) rfl (tlt hc261).1 (by decide) (by decide) q) ?_
        refine own_go (fun _ q => XS.iloadN X0.here hx rfl (hb hby d24_28) rfl q) ?_
        refine own_go (fun _ q => XS.bipush X0.here hx rfl (hb hby d24_29) q) ?_
        show own_Fin _ _ _ _ (s₁.setTop (mkF m 31 #[.val (.int chx)] [(.int (65 : Int32)), (.int chx)]))
        by_cases hc262 : chx < (65 : Int32)
        · skip
          refine own_go (fun _ q => XS.icmpYes X0.here hx rfl (pc0 := 31) (pc' := 44) rfl (hb hby d24_31) rfl (tlt hc262).1 (by decide) (by decide) q) ?_
          refine own_go (fun _ q => XS.iconst X0.here hx rfl (hb hby d24_44) q) ?_
          show own_Fin _ _ _ _ (s₁.setTop (mkF m 45 #[.val (.int chx)] [(.int (0 : Int32))]))
          refine own_retI X0 hx Bd (t := .boolean) Bd.returns rfl (by simp) (hb hby d24_45) ?_ (by decide) (by decide)
          show (Q_rm_ih Z chx h0 n0) (some (.int (0 : Int32))) s₁.heap _
          rw [e0]
          exact ⟨_, rfl, N0, rfl, Or.inr ⟨rfl, by simp [own_hex, hc253, hc260, hc261, hc262]⟩⟩
        · skip
          refine own_go (fun _ q => XS.icmpNo X0.here hx rfl (hb hby d24_31) rfl (flt hc262).1 q) ?_
          refine own_go (fun _ q => XS.iloadN X0.here hx rfl (hb hby d24_34) rfl q) ?_
          refine own_go (fun _ q => XS.bipush X0.here hx rfl (hb hby d24_35) q) ?_
          show own_Fin _ _ _ _ (s₁.setTop (mkF m 37 #[.val (.int chx)] [(.int (70 : Int32)), (.int chx)]))
          by_cases hc263 : (70 : Int32) < chx
          · skip
            refine own_go (fun _ q => XS.icmpYes X0.here hx rfl (pc0 := 37) (pc' := 44) rfl (hb hby d24_37) rfl (tlt hc263).2.2.1 (by decide) (by decide) q) ?_
            refine own_go (fun _ q => XS.iconst X0.here hx rfl (hb hby d24_44) q) ?_
            show own_Fin _ _ _ _ (s₁.setTop (mkF m 45 #[.val (.int chx)] [(.int (0 : Int32))]))
            refine own_retI X0 hx Bd (t := .boolean) Bd.returns rfl (by simp) (hb hby d24_45) ?_ (by decide) (by decide)
            show (Q_rm_ih Z chx h0 n0) (some (.int (0 : Int32))) s₁.heap _
            rw [e0]
            exact ⟨_, rfl, N0, rfl, Or.inr ⟨rfl, by simp [own_hex, hc253, hc260, hc261, hc262, hc263]⟩⟩
          · skip
            refine own_go (fun _ q => XS.icmpNo X0.here hx rfl (hb hby d24_37) rfl (flt hc263).2.2.1 q) ?_
            refine own_go (fun _ q => XS.iconst X0.here hx rfl (hb hby d24_40) q) ?_
            refine own_go (fun _ q => XS.goto X0.here hx rfl (pc0 := 41) (pc' := 45) rfl (hb hby d24_41) (by decide) (by decide) q) ?_
            show own_Fin _ _ _ _ (s₁.setTop (mkF m 45 #[.val (.int chx)] [(.int (1 : Int32))]))
            refine own_retI X0 hx Bd (t := .boolean) Bd.returns rfl (by simp) (hb hby d24_45) ?_ (by decide) (by decide)
            show (Q_rm_ih Z chx h0 n0) (some (.int (1 : Int32))) s₁.heap _
            rw [e0]
            exact ⟨_, rfl, N0, rfl, Or.inl ⟨rfl, by simp [own_hex, hc253, hc260, hc261, hc262, hc263]⟩⟩
      · skip
        refine own_go (fun _ q => XS.icmpNo X0.here hx rfl (hb hby d24_17) rfl (flt hc261).1 q) ?_
        refine own_go (fun _ q => XS.iloadN X0.here hx rfl (hb hby d24_20) rfl q) ?_
        refine own_go (fun _ q => XS.bipush X0.here hx rfl (hb hby d24_21) q) ?_
        show own_Fin _ _ _ _ (s₁.setTop (mkF m 23 #[.val (.int chx)] [(.int (102 : Int32)), (.int chx)]))
        by_cases hc264 : (102 : Int32) < chx
        · skip
          refine own_go (fun _ q => XS.icmpYes X0.here hx rfl (pc0 := 23) (pc' := 28) rfl (hb hby d24_23) rfl (tlt hc264).2.2.1 (by decide) (by decide) q) ?_
          refine own_go (fun _ q => XS.iloadN X0.here hx rfl (hb hby d24_28) rfl q) ?_
          refine own_go (fun _ q => XS.bipush X0.here hx rfl (hb hby d24_29) q) ?_
          show own_Fin _ _ _ _ (s₁.setTop (mkF m 31 #[.val (.int chx)] [(.int (65 : Int32)), (.int chx)]))
          by_cases hc265 : chx < (65 : Int32)
          · skip
            refine own_go (fun _ q => XS.icmpYes X0.here hx rfl (pc0 := 31) (pc' := 44) rfl (hb hby d24_31) rfl (tlt hc265).1 (by decide) (by decide) q) ?_
            refine own_go (fun _ q => XS.iconst X0.here hx rfl (hb hby d24_44) q) ?_
            show own_Fin _ _ _ _ (s₁.setTop (mkF m 45 #[.val (.int chx)] [(.int (0 : Int32))]))
            refine own_retI X0 hx Bd (t := .boolean) Bd.returns rfl (by simp) (hb hby d24_45) ?_ (by decide) (by decide)
            show (Q_rm_ih Z chx h0 n0) (some (.int (0 : Int32))) s₁.heap _
            rw [e0]
            exact ⟨_, rfl, N0, rfl, Or.inr ⟨rfl, by simp [own_hex, hc253, hc260, hc261, hc264, hc265]⟩⟩
          · skip
            refine own_go (fun _ q => XS.icmpNo X0.here hx rfl (hb hby d24_31) rfl (flt hc265).1 q) ?_
            refine own_go (fun _ q => XS.iloadN X0.here hx rfl (hb hby d24_34) rfl q) ?_
            refine own_go (fun _ q => XS.bipush X0.here hx rfl (hb hby d24_35) q) ?_
            show own_Fin _ _ _ _ (s₁.setTop (mkF m 37 #[.val (.int chx)] [(.int (70 : Int32)), (.int chx)]))
            by_cases hc266 : (70 : Int32) < chx
            · skip
              refine own_go (fun _ q => XS.icmpYes X0.here hx rfl (pc0 := 37) (pc' := 44) rfl (hb hby d24_37) rfl (tlt hc266).2.2.1 (by decide) (by decide) q) ?_
              refine own_go (fun _ q => XS.iconst X0.here hx rfl (hb hby d24_44) q) ?_
              show own_Fin _ _ _ _ (s₁.setTop (mkF m 45 #[.val (.int chx)] [(.int (0 : Int32))]))
              refine own_retI X0 hx Bd (t := .boolean) Bd.returns rfl (by simp) (hb hby d24_45) ?_ (by decide) (by decide)
              show (Q_rm_ih Z chx h0 n0) (some (.int (0 : Int32))) s₁.heap _
              rw [e0]
              exact ⟨_, rfl, N0, rfl, Or.inr ⟨rfl, by simp [own_hex, hc253, hc260, hc261, hc264, hc265, hc266]⟩⟩
            · skip
              refine own_go (fun _ q => XS.icmpNo X0.here hx rfl (hb hby d24_37) rfl (flt hc266).2.2.1 q) ?_
              refine own_go (fun _ q => XS.iconst X0.here hx rfl (hb hby d24_40) q) ?_
              refine own_go (fun _ q => XS.goto X0.here hx rfl (pc0 := 41) (pc' := 45) rfl (hb hby d24_41) (by decide) (by decide) q) ?_
              show own_Fin _ _ _ _ (s₁.setTop (mkF m 45 #[.val (.int chx)] [(.int (1 : Int32))]))
              refine own_retI X0 hx Bd (t := .boolean) Bd.returns rfl (by simp) (hb hby d24_45) ?_ (by decide) (by decide)
              show (Q_rm_ih Z chx h0 n0) (some (.int (1 : Int32))) s₁.heap _
              rw [e0]
              exact ⟨_, rfl, N0, rfl, Or.inl ⟨rfl, by simp [own_hex, hc253, hc260, hc261, hc264, hc265, hc266]⟩⟩
        · skip
          refine own_go (fun _ q => XS.icmpNo X0.here hx rfl (hb hby d24_23) rfl (flt hc264).2.2.1 q) ?_
          refine own_go (fun _ q => XS.iconst X0.here hx rfl (hb hby d24_26) q) ?_
          show own_Fin _ _ _ _ (s₁.setTop (mkF m 27 #[.val (.int chx)] [(.int (1 : Int32))]))
          refine own_retI X0 hx Bd (t := .boolean) Bd.returns rfl (by simp) (hb hby d24_27) ?_ (by decide) (by decide)
          show (Q_rm_ih Z chx h0 n0) (some (.int (1 : Int32))) s₁.heap _
          rw [e0]
          exact ⟨_, rfl, N0, rfl, Or.inl ⟨rfl, by simp [own_hex, hc253, hc260, hc261, hc264]⟩⟩
    · skip
      refine own_go (fun _ q => XS.icmpNo X0.here hx rfl (hb hby d24_9) rfl (flt hc260).2.2.1 q) ?_
      refine own_go (fun _ q => XS.iconst X0.here hx rfl (hb hby d24_12) q) ?_
      show own_Fin _ _ _ _ (s₁.setTop (mkF m 13 #[.val (.int chx)] [(.int (1 : Int32))]))
      refine own_retI X0 hx Bd (t := .boolean) Bd.returns rfl (by simp) (hb hby d24_13) ?_ (by decide) (by decide)
      show (Q_rm_ih Z chx h0 n0) (some (.int (1 : Int32))) s₁.heap _
      rw [e0]
      exact ⟨_, rfl, N0, rfl, Or.inl ⟨rfl, by simp [own_hex, hc253, hc260]⟩⟩
def Q_rm_mk1 (Z : State) (bb : Addr) (kb : ClassId) (ch0 : Int32) (ch1 : Int32) (ch2 : Int32) (ch3 : Int32) (gc : Int32) (h0 : Heap) (n0 : Nat) (v : Option Value) (h : Heap) (L : List Loc) : Prop := ∃ x t, v = some (.ref x) ∧ Fr n0 L ∧ Keep h0 h [] ∧ h0.size ≤ x ∧ h0.size ≤ t ∧ own_Str Z h x t ([ch0] : List Int32)
theorem ef_rm_mk1 (m : MethodId) (bb : Addr) (ch0 : Int32) (ch1 : Int32) (ch2 : Int32) (ch3 : Int32) (gc : Int32) : entryFrame m #[(.ref bb), (.int (1 : Int32))] 2 = mkF m 0 #[.val (.ref bb), .val (.int (1 : Int32))] [] := by first | (simp [entryFrame, mkF, argsToLocals, Value.category]; done) | rfl
set_option maxRecDepth 65536 in
set_option maxHeartbeats 40000000 in
theorem rm_mk1 (l : Launch) (Z : State) (a0 : Array Value) (hw : ∀ d ∈ tables_1, d.before a0 Z = true) (ws : List Jvm.Cond) (bb : Addr) (kb : ClassId) (ch0 : Int32) (ch1 : Int32) (ch2 : Int32) (ch3 : Int32) (gc : Int32) (h0 : Heap) (n0 : Nat) (Z0 : n0 ≤ h0.size) (V_bb : Arv Z h0 bb kb .char (4 : Int32) [(.int ch0), (.int ch1), (.int ch2), (.int ch3)] (.int (0 : Int32))) (hb4 : ∀ c ∈ ([ch0, ch1, ch2, ch3] : List Int32), ¬ c < 0 ∧ ¬ (65535 : Int32) < c) (S_C : Sta Z Z.heap "java/lang/String" "COMPACT_STRINGS" "Z" (.int gc)) (hcs : ¬ gc = 0) (O0 : Old Z n0 h0) (S_A : Sta Z Z.heap "java/lang/StringUTF16" "$assertionsDisabled" "Z" (.int (1 : Int32))) (S_H : Sta Z Z.heap "java/lang/StringUTF16" "HI_BYTE_SHIFT" "I" (.int (0 : Int32))) (S_L : Sta Z Z.heap "java/lang/StringUTF16" "LO_BYTE_SHIFT" "I" (.int (8 : Int32))) :
    MetFree l (⟨"com/example/iron_satchel/ironsatchel/PercentEncodingIsEscapeAtPinLaw", "make", "([CI)Ljava/lang/String;"⟩ : MethodName) (head1 (Jvm.Cond.code (⟨"com/example/iron_satchel/ironsatchel/PercentEncodingIsEscapeAtPinLaw", "make", "([CI)Ljava/lang/String;"⟩ : MethodName) method_3_code 2 (some (.object "java/lang/String")) :: ws) ({ frames := 6, cells := 4, slots := 8, locals := 88 } : Room)) (fun a_ U_ => a_ = #[(.ref bb), (.int (1 : Int32))] ∧ Z.Warmed39 U_.vm ∧ U_.heap = h0) (fun _ _ _ _ _ => True) (fun _ U_ o_ V_ => ∃ v_ L_, o_ = .returned v_ ∧ (Q_rm_mk1 Z bb kb ch0 ch1 ch2 ch3 gc h0 n0) v_ V_.heap L_ ∧ FrameEnd U_ o_ V_ L_ ({ frames := 6, cells := 4, slots := 8, locals := 88 } : Room).cells ({ frames := 6, cells := 4, slots := 8, locals := 88 } : Room).slots) := by
  refine MetFree.of_bodySF (plainFor_of_name pn_19) hisR ?_
  intro p e s m args below meth c s₁ Bd hml0 hP hK
  obtain ⟨rfl, hZ, hh⟩ := hP
  have hx := Bd.exec
  have hby := Bd.bytes
  have hml : c.maxLocals = 2 := hml0
  have hown : s.vm.findClass "com/example/iron_satchel/ironsatchel/PercentEncodingIsEscapeAtPinLaw" = some m.cls := findClass_of_methodNamed Bd.named
  have hnm := (name_of_methodNamed Bd.named Bd.method).1
  have X0 : Stand p l e ({ frames := 6, cells := 4, slots := 8, locals := 88 } : Room) s m #[(.ref bb), (.int (1 : Int32))] below meth c s₁ [] 0 0 := Stand.of_body Bd
  have e0 : s₁.heap = h0 := by rw [← hh, Bd.state]; rfl
  have N0 := Fr.nil n0
  have K0 : Keep h0 h0 [] := Keep.refl _ _
  show own_Fin p.tables e below (own_Post (Q_rm_mk1 Z bb kb ch0 ch1 ch2 ch3 gc h0 n0) ({ frames := 6, cells := 4, slots := 8, locals := 88 } : Room).cells ({ frames := 6, cells := 4, slots := 8, locals := 88 } : Room).slots below s) _
  refine own_go (fun _ q => castTop (ef_rm_mk1 m bb ch0 ch1 ch2 ch3 gc) q) ?_
  refine own_go (fun _ q => XS.iloadN X0.here hx rfl (hb hby d1_0) rfl q) ?_
  refine own_go (fun _ q => XS.iconst X0.here hx rfl (hb hby d1_1) q) ?_
  show own_Fin _ _ _ _ (s₁.setTop (mkF m 2 #[.val (.ref bb), .val (.int (1 : Int32))] [(.int (1 : Int32)), (.int (1 : Int32))]))
  refine own_go (fun _ q => XS.icmpNo X0.here hx rfl (hb hby d1_2) rfl (teq (by decide : (1 : Int32) = (1 : Int32))).2 q) ?_
  show own_Fin _ _ _ _ (s₁.setTop (mkF m 5 #[.val (.ref bb), .val (.int (1 : Int32))] []))
  obtain ⟨T267, h267, X267, e267, E267, A267, D267, -, st267⟩ := newO X0 hx hZ hown (own_w hw 7 rfl) (own_w hw 8 rfl) (own_w hw 9 rfl) e0 (g := (mkF m 5 #[.val (.ref bb), .val (.int (1 : Int32))] [])) rfl (hb hby d1_5) (by decide) (by decide)
  obtain ⟨b267, g267⟩ : ∃ z, z = h0.size := ⟨_, rfl⟩
  rw [← g267] at A267 D267 st267
  have sz_b267 : h0.size ≤ b267 := Nat.le_trans K0.1 (Nat.le_of_eq g267.symm)
  have g_b267 : n0 ≤ b267 := Nat.le_trans Z0 sz_b267
  have ne268 : bb ≠ b267 := Nat.ne_of_lt (Nat.lt_of_lt_of_le V_bb.lt (Nat.le_of_eq g267.symm))
  replace V_bb := V_bb.ext E267
  replace O0 := O0.ext E267
  have K269 := K0.ext E267
  have F267_coder : Fld Z h267 b267 "java/lang/String" "coder" "B" (.int (0 : Int32)) := D267 (Or.inr (own_w hw 33 rfl)) (ty := .byte) (by decide)
  have F267_value : Fld Z h267 b267 "java/lang/String" "value" "[B" .null := D267 (Or.inr (own_w hw 35 rfl)) (ty := (.array .byte)) (by decide)
  refine own_go st267 ?_
  refine own_go (fun _ q => XS.dup X267.here hx rfl (hb hby d1_8) rfl rfl q) ?_
  refine own_go (fun _ q => XS.iconst X267.here hx rfl (hb hby d1_9) q) ?_
  show own_Fin _ _ _ _ (T267.setTop (mkF m 10 #[.val (.ref bb), .val (.int (1 : Int32))] [(.int (1 : Int32)), (.ref b267), (.ref b267)]))
  obtain ⟨T270, h270, k270, X270, e270, E270, A270, st270⟩ := newP X267 hx hZ (own_w hw 0 rfl) e267 (g := (mkF m 10 #[.val (.ref bb), .val (.int (1 : Int32))] [(.int (1 : Int32)), (.ref b267), (.ref b267)])) rfl (hb hby d1_10) rfl (by decide) (cap := 1) (by decide) (by decide) (by decide) (by decide)
  obtain ⟨b270, g270⟩ : ∃ z, z = h267.size := ⟨_, rfl⟩
  rw [← g270] at A270 st270
  have sz_b270 : h0.size ≤ b270 := Nat.le_trans K269.1 (Nat.le_of_eq g270.symm)
  have g_b270 : n0 ≤ b270 := Nat.le_trans Z0 sz_b270
  have ne271 : bb ≠ b270 := Nat.ne_of_lt (Nat.lt_of_lt_of_le V_bb.lt (Nat.le_of_eq g270.symm))
  have ne272 : b267 ≠ b270 := Nat.ne_of_lt (Nat.lt_of_lt_of_le A267.lt (Nat.le_of_eq g270.symm))
  replace V_bb := V_bb.ext E270
  replace O0 := O0.ext E270
  replace A267 := A267.ext E270
  replace F267_coder := F267_coder.ext E270
  replace F267_value := F267_value.ext E270
  have K273 := K269.ext E270
  have V270 : Arv Z h270 b270 k270 .char (1 : Int32) [(.int (0 : Int32))] (.int (0 : Int32)) := (Arv.new A270 (by decide)).pad (pad_rep [] (.int (0 : Int32)) 1)
  refine own_go st270 ?_
  refine own_go (fun _ q => XS.dup X270.here hx rfl (hb hby d1_12) rfl rfl q) ?_
  refine own_go (fun _ q => XS.iconst X270.here hx rfl (hb hby d1_13) q) ?_
  refine own_go (fun _ q => XS.aloadN X270.here hx rfl (hb hby d1_14) rfl rfl q) ?_
  refine own_go (fun _ q => XS.iconst X270.here hx rfl (hb hby d1_15) q) ?_
  show own_Fin _ _ _ _ (T270.setTop (mkF m 16 #[.val (.ref bb), .val (.int (1 : Int32))] [(.int (0 : Int32)), (.ref bb), (.int (0 : Int32)), (.ref b270), (.ref b270), (.ref b267), (.ref b267)]))
  refine own_go (fun _ q => own_caload X270 hx hZ e270 V_bb (by decide) (v := (.int ch0)) (rfl) (g := (mkF m 16 #[.val (.ref bb), .val (.int (1 : Int32))] [(.int (0 : Int32)), (.ref bb), (.int (0 : Int32)), (.ref b270), (.ref b270), (.ref b267), (.ref b267)])) rfl rfl (hb hby d1_16) _ q) ?_
  show own_Fin _ _ _ _ (T270.setTop (mkF m 17 #[.val (.ref bb), .val (.int (1 : Int32))] [(.int ch0), (.int (0 : Int32)), (.ref b270), (.ref b270), (.ref b267), (.ref b267)]))
  obtain ⟨T274, h274, X274, e274, W274, V274, st274⟩ := own_stC X270 hx hZ e270 V270 (by decide) (i := 0) rfl (Nat.le_of_ble_eq_true rfl) (g := (mkF m 17 #[.val (.ref bb), .val (.int (1 : Int32))] [(.int ch0), (.int (0 : Int32)), (.ref b270), (.ref b270), (.ref b267), (.ref b267)])) rfl rfl (hb hby d1_17)
  rw [own_narch (hb4 _ (own_m 0 rfl))] at V274
  replace V270 : Arv Z h274 b270 k270 .char (1 : Int32) [(.int ch0)] (.int (0 : Int32)) := V274
  have N274 := Fr.snoc X274 N0 g_b270
  refine own_go st274 ?_
  replace V_bb := V_bb.other W274 ne271
  replace O0 := O0.wr W274 g_b270
  replace A267 := A267.wr W274
  replace F267_coder := F267_coder.other W274 (Or.inl ne272)
  replace F267_value := F267_value.other W274 (Or.inl ne272)
  have K275 := K273.wr W274 (Or.inr sz_b270)
  show own_Fin _ _ _ _ (T274.setTop (mkF m 18 #[.val (.ref bb), .val (.int (1 : Int32))] [(.ref b270), (.ref b267), (.ref b267)]))
  obtain ⟨_, _, ⟨T276, L276, k276, n276⟩, -, X276, ⟨Lc276, hQ276, l276, y276, z276⟩, st276⟩ := X274.specialBack hx (y := (⟨"java/lang/String", "<init>", "([C)V"⟩ : MethodName)) rfl hown (mvT hZ (own_w hw 10 rfl)) (mvT hZ (own_w hw 11 rfl)) (mvT hZ (own_w hw 12 rfl)) (by decide) (backOf (W := 1) (rm_i1_1 l Z a0 hw [] b267 b270 k270 ch0 gc h274 n0 (Nat.le_trans Z0 K275.1) A267 F267_value F267_coder g_b267 V270 (own_take 1 hb4) (Ne.symm ne272) S_C hcs O0 S_A S_H S_L) hZ (own_w hw 12 rfl) (own_w hw 9 rfl) (by decide) (by decide)) (g := (mkF m 18 #[.val (.ref bb), .val (.int (1 : Int32))] [(.ref b270), (.ref b267), (.ref b267)])) rfl (by rw [hml]; rfl) (Steps.refl _) (a := b267) (argsL := [(.ref b270)]) (rest := [(.ref b267)]) (lenOf pd_20 rfl) rfl (by show 2 * 0 + _ ≤ _; exact Nat.le_of_eq rfl) (hb hby d1_18) (fun _ _ => ⟨rfl, e274, (by decide : 2 + 2 ≤ _), (by decide : 5 + 3 ≤ _)⟩)
  dsimp only [Pt.U, Pt.locs, Pt.cells, Pt.slots] at X276 l276 y276 z276 st276 hQ276
  subst l276 y276 z276
  obtain ⟨t276, rfl, N276q, KK276, szt276, SS276⟩ := hQ276
  have N276 := Fr.app N274 N276q
  have sz_t276 : h0.size ≤ t276 := Nat.le_trans K275.1 szt276
  have g_t276 : n0 ≤ t276 := Nat.le_trans Z0 sz_t276
  have ne277 : bb ≠ t276 := Nat.ne_of_lt (Nat.lt_of_lt_of_le V_bb.lt szt276)
  have ne278 : b267 ≠ t276 := Nat.ne_of_lt (Nat.lt_of_lt_of_le A267.lt szt276)
  have ne279 : b270 ≠ t276 := Nat.ne_of_lt (Nat.lt_of_lt_of_le V270.lt szt276)
  replace V_bb := V_bb.keep KK276 (ninS ne268 nin0)
  replace O0 := O0.keep KK276 (allS g_b267 (all0))
  replace A267 := A267.keep KK276
  replace V270 := V270.keep KK276 (ninS (Ne.symm ne272) nin0)
  have K280 := K275.trans KK276 (allS (Or.inr sz_b267) all0)
  refine own_go (fun _ q => st276.trans q) ?_
  show own_Fin _ _ _ _ (T276.setTop (mkF m 21 #[.val (.ref bb), .val (.int (1 : Int32))] [(.ref b267)]))
  refine own_retA X276 hx Bd (t := (.object "java/lang/String")) Bd.returns rfl rfl rfl (hb hby d1_21) ?_ (by decide) (by decide)
  show (Q_rm_mk1 Z bb kb ch0 ch1 ch2 ch3 gc h0 n0) (some (.ref b267)) T276.heap _
  exact ⟨_, _, rfl, N276, K280, sz_b267, sz_t276, SS276⟩
def Q_rm_mk2 (Z : State) (bb : Addr) (kb : ClassId) (ch0 : Int32) (ch1 : Int32) (ch2 : Int32) (ch3 : Int32) (gc : Int32) (h0 : Heap) (n0 : Nat) (v : Option Value) (h : Heap) (L : List Loc) : Prop := ∃ x t, v = some (.ref x) ∧ Fr n0 L ∧ Keep h0 h [] ∧ h0.size ≤ x ∧ h0.size ≤ t ∧ own_Str Z h x t ([ch0, ch1] : List Int32)
theorem ef_rm_mk2 (m : MethodId) (bb : Addr) (ch0 : Int32) (ch1 : Int32) (ch2 : Int32) (ch3 : Int32) (gc : Int32) : entryFrame m #[(.ref bb), (.int (2 : Int32))] 2 = mkF m 0 #[.val (.ref bb), .val (.int (2 : Int32))] [] := by first | (simp [entryFrame, mkF, argsToLocals, Value.category]; done) | rfl
set_option maxRecDepth 65536 in
set_option maxHeartbeats 40000000 in
theorem rm_mk2 (l : Launch) (Z : State) (a0 : Array Value) (hw : ∀ d ∈ tables_1, d.before a0 Z = true) (ws : List Jvm.Cond) (bb : Addr) (kb : ClassId) (ch0 : Int32) (ch1 : Int32) (ch2 : Int32) (ch3 : Int32) (gc : Int32) (h0 : Heap) (n0 : Nat) (Z0 : n0 ≤ h0.size) (V_bb : Arv Z h0 bb kb .char (4 : Int32) [(.int ch0), (.int ch1), (.int ch2), (.int ch3)] (.int (0 : Int32))) (hb4 : ∀ c ∈ ([ch0, ch1, ch2, ch3] : List Int32), ¬ c < 0 ∧ ¬ (65535 : Int32) < c) (S_C : Sta Z Z.heap "java/lang/String" "COMPACT_STRINGS" "Z" (.int gc)) (hcs : ¬ gc = 0) (O0 : Old Z n0 h0) (S_A : Sta Z Z.heap "java/lang/StringUTF16" "$assertionsDisabled" "Z" (.int (1 : Int32))) (S_H : Sta Z Z.heap "java/lang/StringUTF16" "HI_BYTE_SHIFT" "I" (.int (0 : Int32))) (S_L : Sta Z Z.heap "java/lang/StringUTF16" "LO_BYTE_SHIFT" "I" (.int (8 : Int32))) :
    MetFree l (⟨"com/example/iron_satchel/ironsatchel/PercentEncodingIsEscapeAtPinLaw", "make", "([CI)Ljava/lang/String;"⟩ : MethodName) (head1 (Jvm.Cond.code (⟨"com/example/iron_satchel/ironsatchel/PercentEncodingIsEscapeAtPinLaw", "make", "([CI)Ljava/lang/String;"⟩ : MethodName) method_3_code 2 (some (.object "java/lang/String")) :: ws) ({ frames := 6, cells := 4, slots := 12, locals := 88 } : Room)) (fun a_ U_ => a_ = #[(.ref bb), (.int (2 : Int32))] ∧ Z.Warmed39 U_.vm ∧ U_.heap = h0) (fun _ _ _ _ _ => True) (fun _ U_ o_ V_ => ∃ v_ L_, o_ = .returned v_ ∧ (Q_rm_mk2 Z bb kb ch0 ch1 ch2 ch3 gc h0 n0) v_ V_.heap L_ ∧ FrameEnd U_ o_ V_ L_ ({ frames := 6, cells := 4, slots := 12, locals := 88 } : Room).cells ({ frames := 6, cells := 4, slots := 12, locals := 88 } : Room).slots) := by
  refine MetFree.of_bodySF (plainFor_of_name pn_19) hisR ?_
  intro p e s m args below meth c s₁ Bd hml0 hP hK
  obtain ⟨rfl, hZ, hh⟩ := hP
  have hx := Bd.exec
  have hby := Bd.bytes
  have hml : c.maxLocals = 2 := hml0
  have hown : s.vm.findClass "com/example/iron_satchel/ironsatchel/PercentEncodingIsEscapeAtPinLaw" = some m.cls := findClass_of_methodNamed Bd.named
  have hnm := (name_of_methodNamed Bd.named Bd.method).1
  have X0 : Stand p l e ({ frames := 6, cells := 4, slots := 12, locals := 88 } : Room) s m #[(.ref bb), (.int (2 : Int32))] below meth c s₁ [] 0 0 := Stand.of_body Bd
  have e0 : s₁.heap = h0 := by rw [← hh, Bd.state]; rfl
  have N0 := Fr.nil n0
  have K0 : Keep h0 h0 [] := Keep.refl _ _
  show own_Fin p.tables e below (own_Post (Q_rm_mk2 Z bb kb ch0 ch1 ch2 ch3 gc h0 n0) ({ frames := 6, cells := 4, slots := 12, locals := 88 } : Room).cells ({ frames := 6, cells := 4, slots := 12, locals := 88 } : Room).slots below s) _
  refine own_go (fun _ q => castTop (ef_rm_mk2 m bb ch0 ch1 ch2 ch3 gc) q) ?_
  refine own_go (fun _ q => XS.iloadN X0.here hx rfl (hb hby d1_0) rfl q) ?_
  refine own_go (fun _ q => XS.iconst X0.here hx rfl (hb hby d1_1) q) ?_
  show own_Fin _ _ _ _ (s₁.setTop (mkF m 2 #[.val (.ref bb), .val (.int (2 : Int32))] [(.int (1 : Int32)), (.int (2 : Int32))]))
  refine own_go (fun _ q => XS.icmpYes X0.here hx rfl (pc0 := 2) (pc' := 22) rfl (hb hby d1_2) rfl (feq (by decide : ¬ (2 : Int32) = (1 : Int32))).2 (by decide) (by decide) q) ?_
  refine own_go (fun _ q => XS.iloadN X0.here hx rfl (hb hby d1_22) rfl q) ?_
  refine own_go (fun _ q => XS.iconst X0.here hx rfl (hb hby d1_23) q) ?_
  show own_Fin _ _ _ _ (s₁.setTop (mkF m 24 #[.val (.ref bb), .val (.int (2 : Int32))] [(.int (2 : Int32)), (.int (2 : Int32))]))
  refine own_go (fun _ q => XS.icmpNo X0.here hx rfl (hb hby d1_24) rfl (teq (by decide : (2 : Int32) = (2 : Int32))).2 q) ?_
  show own_Fin _ _ _ _ (s₁.setTop (mkF m 27 #[.val (.ref bb), .val (.int (2 : Int32))] []))
  obtain ⟨T281, h281, X281, e281, E281, A281, D281, -, st281⟩ := newO X0 hx hZ hown (own_w hw 7 rfl) (own_w hw 8 rfl) (own_w hw 9 rfl) e0 (g := (mkF m 27 #[.val (.ref bb), .val (.int (2 : Int32))] [])) rfl (hb hby d1_27) (by decide) (by decide)
  obtain ⟨b281, g281⟩ : ∃ z, z = h0.size := ⟨_, rfl⟩
  rw [← g281] at A281 D281 st281
  have sz_b281 : h0.size ≤ b281 := Nat.le_trans K0.1 (Nat.le_of_eq g281.symm)
  have g_b281 : n0 ≤ b281 := Nat.le_trans Z0 sz_b281
  have ne282 : bb ≠ b281 := Nat.ne_of_lt (Nat.lt_of_lt_of_le V_bb.lt (Nat.le_of_eq g281.symm))
  replace V_bb := V_bb.ext E281
  replace O0 := O0.ext E281
  have K283 := K0.ext E281
  have F281_coder : Fld Z h281 b281 "java/lang/String" "coder" "B" (.int (0 : Int32)) := D281 (Or.inr (own_w hw 33 rfl)) (ty := .byte) (by decide)
  have F281_value : Fld Z h281 b281 "java/lang/String" "value" "[B" .null := D281 (Or.inr (own_w hw 35 rfl)) (ty := (.array .byte)) (by decide)
  refine own_go st281 ?_
  refine own_go (fun _ q => XS.dup X281.here hx rfl (hb hby d1_30) rfl rfl q) ?_
  refine own_go (fun _ q => XS.iconst X281.here hx rfl (hb hby d1_31) q) ?_
  show own_Fin _ _ _ _ (T281.setTop (mkF m 32 #[.val (.ref bb), .val (.int (2 : Int32))] [(.int (2 : Int32)), (.ref b281), (.ref b281)]))
  obtain ⟨T284, h284, k284, X284, e284, E284, A284, st284⟩ := newP X281 hx hZ (own_w hw 0 rfl) e281 (g := (mkF m 32 #[.val (.ref bb), .val (.int (2 : Int32))] [(.int (2 : Int32)), (.ref b281), (.ref b281)])) rfl (hb hby d1_32) rfl (by decide) (cap := 2) (by decide) (by decide) (by decide) (by decide)
  obtain ⟨b284, g284⟩ : ∃ z, z = h281.size := ⟨_, rfl⟩
  rw [← g284] at A284 st284
  have sz_b284 : h0.size ≤ b284 := Nat.le_trans K283.1 (Nat.le_of_eq g284.symm)
  have g_b284 : n0 ≤ b284 := Nat.le_trans Z0 sz_b284
  have ne285 : bb ≠ b284 := Nat.ne_of_lt (Nat.lt_of_lt_of_le V_bb.lt (Nat.le_of_eq g284.symm))
  have ne286 : b281 ≠ b284 := Nat.ne_of_lt (Nat.lt_of_lt_of_le A281.lt (Nat.le_of_eq g284.symm))
  replace V_bb := V_bb.ext E284
  replace O0 := O0.ext E284
  replace A281 := A281.ext E284
  replace F281_coder := F281_coder.ext E284
  replace F281_value := F281_value.ext E284
  have K287 := K283.ext E284
  have V284 : Arv Z h284 b284 k284 .char (2 : Int32) [(.int (0 : Int32)), (.int (0 : Int32))] (.int (0 : Int32)) := (Arv.new A284 (by decide)).pad (pad_rep [] (.int (0 : Int32)) 2)
  refine own_go st284 ?_
  refine own_go (fun _ q => XS.dup X284.here hx rfl (hb hby d1_34) rfl rfl q) ?_
  refine own_go (fun _ q => XS.iconst X284.here hx rfl (hb hby d1_35) q) ?_
  refine own_go (fun _ q => XS.aloadN X284.here hx rfl (hb hby d1_36) rfl rfl q) ?_
  refine own_go (fun _ q => XS.iconst X284.here hx rfl (hb hby d1_37) q) ?_
  show own_Fin _ _ _ _ (T284.setTop (mkF m 38 #[.val (.ref bb), .val (.int (2 : Int32))] [(.int (0 : Int32)), (.ref bb), (.int (0 : Int32)), (.ref b284), (.ref b284), (.ref b281), (.ref b281)]))
  refine own_go (fun _ q => own_caload X284 hx hZ e284 V_bb (by decide) (v := (.int ch0)) (rfl) (g := (mkF m 38 #[.val (.ref bb), .val (.int (2 : Int32))] [(.int (0 : Int32)), (.ref bb), (.int (0 : Int32)), (.ref b284), (.ref b284), (.ref b281), (.ref b281)])) rfl rfl (hb hby d1_38) _ q) ?_
  show own_Fin _ _ _ _ (T284.setTop (mkF m 39 #[.val (.ref bb), .val (.int (2 : Int32))] [(.int ch0), (.int (0 : Int32)), (.ref b284), (.ref b284), (.ref b281), (.ref b281)]))
  obtain ⟨T288, h288, X288, e288, W288, V288, st288⟩ := own_stC X284 hx hZ e284 V284 (by decide) (i := 0) rfl (Nat.le_of_ble_eq_true rfl) (g := (mkF m 39 #[.val (.ref bb), .val (.int (2 : Int32))] [(.int ch0), (.int (0 : Int32)), (.ref b284), (.ref b284), (.ref b281), (.ref b281)])) rfl rfl (hb hby d1_39)
  rw [own_narch (hb4 _ (own_m 0 rfl))] at V288
  replace V284 : Arv Z h288 b284 k284 .char (2 : Int32) [(.int ch0), (.int (0 : Int32))] (.int (0 : Int32)) := V288
  have N288 := Fr.snoc X288 N0 g_b284
  refine own_go st288 ?_
  replace V_bb := V_bb.other W288 ne285
  replace O0 := O0.wr W288 g_b284
  replace A281 := A281.wr W288
  replace F281_coder := F281_coder.other W288 (Or.inl ne286)
  replace F281_value := F281_value.other W288 (Or.inl ne286)
  have K289 := K287.wr W288 (Or.inr sz_b284)
  refine own_go (fun _ q => XS.dup X288.here hx rfl (hb hby d1_40) rfl rfl q) ?_
  refine own_go (fun _ q => XS.iconst X288.here hx rfl (hb hby d1_41) q) ?_
  refine own_go (fun _ q => XS.aloadN X288.here hx rfl (hb hby d1_42) rfl rfl q) ?_
  refine own_go (fun _ q => XS.iconst X288.here hx rfl (hb hby d1_43) q) ?_
  show own_Fin _ _ _ _ (T288.setTop (mkF m 44 #[.val (.ref bb), .val (.int (2 : Int32))] [(.int (1 : Int32)), (.ref bb), (.int (1 : Int32)), (.ref b284), (.ref b284), (.ref b281), (.ref b281)]))
  refine own_go (fun _ q => own_caload X288 hx hZ e288 V_bb (by decide) (v := (.int ch1)) (rfl) (g := (mkF m 44 #[.val (.ref bb), .val (.int (2 : Int32))] [(.int (1 : Int32)), (.ref bb), (.int (1 : Int32)), (.ref b284), (.ref b284), (.ref b281), (.ref b281)])) rfl rfl (hb hby d1_44) _ q) ?_
  show own_Fin _ _ _ _ (T288.setTop (mkF m 45 #[.val (.ref bb), .val (.int (2 : Int32))] [(.int ch1), (.int (1 : Int32)), (.ref b284), (.ref b284), (.ref b281), (.ref b281)]))
  obtain ⟨T290, h290, X290, e290, W290, V290, st290⟩ := own_stC X288 hx hZ e288 V284 (by decide) (i := 1) rfl (Nat.le_of_ble_eq_true rfl) (g := (mkF m 45 #[.val (.ref bb), .val (.int (2 : Int32))] [(.int ch1), (.int (1 : Int32)), (.ref b284), (.ref b284), (.ref b281), (.ref b281)])) rfl rfl (hb hby d1_45)
  rw [own_narch (hb4 _ (own_m 1 rfl))] at V290
  replace V284 : Arv Z h290 b284 k284 .char (2 : Int32) [(.int ch0), (.int ch1)] (.int (0 : Int32)) := V290
  have N290 := Fr.snoc X290 N288 g_b284
  refine own_go st290 ?_
  replace V_bb := V_bb.other W290 ne285
  replace O0 := O0.wr W290 g_b284
  replace A281 := A281.wr W290
  replace F281_coder := F281_coder.other W290 (Or.inl ne286)
  replace F281_value := F281_value.other W290 (Or.inl ne286)
  have K291 := K289.wr W290 (Or.inr sz_b284)
  show own_Fin _ _ _ _ (T290.setTop (mkF m 46 #[.val (.ref bb), .val (.int (2 : Int32))] [(.ref b284), (.ref b281), (.ref b281)]))
  obtain ⟨_, _, ⟨T292, L292, k292, n292⟩, -, X292, ⟨Lc292, hQ292, l292, y292, z292⟩, st292⟩ := X290.specialBack hx (y := (⟨"java/lang/String", "<init>", "([C)V"⟩ : MethodName)) rfl hown (mvT hZ (own_w hw 10 rfl)) (mvT hZ (own_w hw 11 rfl)) (mvT hZ (own_w hw 12 rfl)) (by decide) (backOf (W := 1) (rm_i1_2 l Z a0 hw [] b281 b284 k284 ch0 ch1 gc h290 n0 (Nat.le_trans Z0 K291.1) A281 F281_value F281_coder g_b281 V284 (own_take 2 hb4) (Ne.symm ne286) S_C hcs O0 S_A S_H S_L) hZ (own_w hw 12 rfl) (own_w hw 9 rfl) (by decide) (by decide)) (g := (mkF m 46 #[.val (.ref bb), .val (.int (2 : Int32))] [(.ref b284), (.ref b281), (.ref b281)])) rfl (by rw [hml]; rfl) (Steps.refl _) (a := b281) (argsL := [(.ref b284)]) (rest := [(.ref b281)]) (lenOf pd_20 rfl) rfl (by show 2 * 0 + _ ≤ _; exact Nat.le_of_eq rfl) (hb hby d1_46) (fun _ _ => ⟨rfl, e290, (by decide : 2 + 2 ≤ _), (by decide : 6 + 6 ≤ _)⟩)
  dsimp only [Pt.U, Pt.locs, Pt.cells, Pt.slots] at X292 l292 y292 z292 st292 hQ292
  subst l292 y292 z292
  obtain ⟨t292, rfl, N292q, KK292, szt292, SS292⟩ := hQ292
  have N292 := Fr.app N290 N292q
  have sz_t292 : h0.size ≤ t292 := Nat.le_trans K291.1 szt292
  have g_t292 : n0 ≤ t292 := Nat.le_trans Z0 sz_t292
  have ne293 : bb ≠ t292 := Nat.ne_of_lt (Nat.lt_of_lt_of_le V_bb.lt szt292)
  have ne294 : b281 ≠ t292 := Nat.ne_of_lt (Nat.lt_of_lt_of_le A281.lt szt292)
  have ne295 : b284 ≠ t292 := Nat.ne_of_lt (Nat.lt_of_lt_of_le V284.lt szt292)
  replace V_bb := V_bb.keep KK292 (ninS ne282 nin0)
  replace O0 := O0.keep KK292 (allS g_b281 (all0))
  replace A281 := A281.keep KK292
  replace V284 := V284.keep KK292 (ninS (Ne.symm ne286) nin0)
  have K296 := K291.trans KK292 (allS (Or.inr sz_b281) all0)
  refine own_go (fun _ q => st292.trans q) ?_
  show own_Fin _ _ _ _ (T292.setTop (mkF m 49 #[.val (.ref bb), .val (.int (2 : Int32))] [(.ref b281)]))
  refine own_retA X292 hx Bd (t := (.object "java/lang/String")) Bd.returns rfl rfl rfl (hb hby d1_49) ?_ (by decide) (by decide)
  show (Q_rm_mk2 Z bb kb ch0 ch1 ch2 ch3 gc h0 n0) (some (.ref b281)) T292.heap _
  exact ⟨_, _, rfl, N292, K296, sz_b281, sz_t292, SS292⟩
def Q_rm_mk3 (Z : State) (bb : Addr) (kb : ClassId) (ch0 : Int32) (ch1 : Int32) (ch2 : Int32) (ch3 : Int32) (gc : Int32) (h0 : Heap) (n0 : Nat) (v : Option Value) (h : Heap) (L : List Loc) : Prop := ∃ x t, v = some (.ref x) ∧ Fr n0 L ∧ Keep h0 h [] ∧ h0.size ≤ x ∧ h0.size ≤ t ∧ own_Str Z h x t ([ch0, ch1, ch2] : List Int32)
theorem ef_rm_mk3 (m : MethodId) (bb : Addr) (ch0 : Int32) (ch1 : Int32) (ch2 : Int32) (ch3 : Int32) (gc : Int32) : entryFrame m #[(.ref bb), (.int (3 : Int32))] 2 = mkF m 0 #[.val (.ref bb), .val (.int (3 : Int32))] [] := by first | (simp [entryFrame, mkF, argsToLocals, Value.category]; done) | rfl
set_option maxRecDepth 65536 in
set_option maxHeartbeats 40000000 in
theorem rm_mk3 (l : Launch) (Z : State) (a0 : Array Value) (hw : ∀ d ∈ tables_1, d.before a0 Z = true) (ws : List Jvm.Cond) (bb : Addr) (kb : ClassId) (ch0 : Int32) (ch1 : Int32) (ch2 : Int32) (ch3 : Int32) (gc : Int32) (h0 : Heap) (n0 : Nat) (Z0 : n0 ≤ h0.size) (V_bb : Arv Z h0 bb kb .char (4 : Int32) [(.int ch0), (.int ch1), (.int ch2), (.int ch3)] (.int (0 : Int32))) (hb4 : ∀ c ∈ ([ch0, ch1, ch2, ch3] : List Int32), ¬ c < 0 ∧ ¬ (65535 : Int32) < c) (S_C : Sta Z Z.heap "java/lang/String" "COMPACT_STRINGS" "Z" (.int gc)) (hcs : ¬ gc = 0) (O0 : Old Z n0 h0) (S_A : Sta Z Z.heap "java/lang/StringUTF16" "$assertionsDisabled" "Z" (.int (1 : Int32))) (S_H : Sta Z Z.heap "java/lang/StringUTF16" "HI_BYTE_SHIFT" "I" (.int (0 : Int32))) (S_L : Sta Z Z.heap "java/lang/StringUTF16" "LO_BYTE_SHIFT" "I" (.int (8 : Int32))) :
    MetFree l (⟨"com/example/iron_satchel/ironsatchel/PercentEncodingIsEscapeAtPinLaw", "make", "([CI)Ljava/lang/String;"⟩ : MethodName) (head1 (Jvm.Cond.code (⟨"com/example/iron_satchel/ironsatchel/PercentEncodingIsEscapeAtPinLaw", "make", "([CI)Ljava/lang/String;"⟩ : MethodName) method_3_code 2 (some (.object "java/lang/String")) :: ws) ({ frames := 6, cells := 4, slots := 16, locals := 88 } : Room)) (fun a_ U_ => a_ = #[(.ref bb), (.int (3 : Int32))] ∧ Z.Warmed39 U_.vm ∧ U_.heap = h0) (fun _ _ _ _ _ => True) (fun _ U_ o_ V_ => ∃ v_ L_, o_ = .returned v_ ∧ (Q_rm_mk3 Z bb kb ch0 ch1 ch2 ch3 gc h0 n0) v_ V_.heap L_ ∧ FrameEnd U_ o_ V_ L_ ({ frames := 6, cells := 4, slots := 16, locals := 88 } : Room).cells ({ frames := 6, cells := 4, slots := 16, locals := 88 } : Room).slots) := by
  refine MetFree.of_bodySF (plainFor_of_name pn_19) hisR ?_
  intro p e s m args below meth c s₁ Bd hml0 hP hK
  obtain ⟨rfl, hZ, hh⟩ := hP
  have hx := Bd.exec
  have hby := Bd.bytes
  have hml : c.maxLocals = 2 := hml0
  have hown : s.vm.findClass "com/example/iron_satchel/ironsatchel/PercentEncodingIsEscapeAtPinLaw" = some m.cls := findClass_of_methodNamed Bd.named
  have hnm := (name_of_methodNamed Bd.named Bd.method).1
  have X0 : Stand p l e ({ frames := 6, cells := 4, slots := 16, locals := 88 } : Room) s m #[(.ref bb), (.int (3 : Int32))] below meth c s₁ [] 0 0 := Stand.of_body Bd
  have e0 : s₁.heap = h0 := by rw [← hh, Bd.state]; rfl
  have N0 := Fr.nil n0
  have K0 : Keep h0 h0 [] := Keep.refl _ _
  show own_Fin p.tables e below (own_Post (Q_rm_mk3 Z bb kb ch0 ch1 ch2 ch3 gc h0 n0) ({ frames := 6, cells := 4, slots := 16, locals := 88 } : Room).cells ({ frames := 6, cells := 4, slots := 16, locals := 88 } : Room).slots below s) _
  refine own_go (fun _ q => castTop (ef_rm_mk3 m bb ch0 ch1 ch2 ch3 gc) q) ?_
  refine own_go (fun _ q => XS.iloadN X0.here hx rfl (hb hby d1_0) rfl q) ?_
  refine own_go (fun _ q => XS.iconst X0.here hx rfl (hb hby d1_1) q) ?_
  show own_Fin _ _ _ _ (s₁.setTop (mkF m 2 #[.val (.ref bb), .val (.int (3 : Int32))] [(.int (1 : Int32)), (.int (3 : Int32))]))
  refine own_go (fun _ q => XS.icmpYes X0.here hx rfl (pc0 := 2) (pc' := 22) rfl (hb hby d1_2) rfl (feq (by decide : ¬ (3 : Int32) = (1 : Int32))).2 (by decide) (by decide) q) ?_
  refine own_go (fun _ q => XS.iloadN X0.here hx rfl (hb hby d1_22) rfl q) ?_
  refine own_go (fun _ q => XS.iconst X0.here hx rfl (hb hby d1_23) q) ?_
  show own_Fin _ _ _ _ (s₁.setTop (mkF m 24 #[.val (.ref bb), .val (.int (3 : Int32))] [(.int (2 : Int32)), (.int (3 : Int32))]))
  refine own_go (fun _ q => XS.icmpYes X0.here hx rfl (pc0 := 24) (pc' := 50) rfl (hb hby d1_24) rfl (feq (by decide : ¬ (3 : Int32) = (2 : Int32))).2 (by decide) (by decide) q) ?_
  refine own_go (fun _ q => XS.iloadN X0.here hx rfl (hb hby d1_50) rfl q) ?_
  refine own_go (fun _ q => XS.iconst X0.here hx rfl (hb hby d1_51) q) ?_
  show own_Fin _ _ _ _ (s₁.setTop (mkF m 52 #[.val (.ref bb), .val (.int (3 : Int32))] [(.int (3 : Int32)), (.int (3 : Int32))]))
  refine own_go (fun _ q => XS.icmpNo X0.here hx rfl (hb hby d1_52) rfl (teq (by decide : (3 : Int32) = (3 : Int32))).2 q) ?_
  show own_Fin _ _ _ _ (s₁.setTop (mkF m 55 #[.val (.ref bb), .val (.int (3 : Int32))] []))
  obtain ⟨T297, h297, X297, e297, E297, A297, D297, -, st297⟩ := newO X0 hx hZ hown (own_w hw 7 rfl) (own_w hw 8 rfl) (own_w hw 9 rfl) e0 (g := (mkF m 55 #[.val (.ref bb), .val (.int (3 : Int32))] [])) rfl (hb hby d1_55) (by decide) (by decide)
  obtain ⟨b297, g297⟩ : ∃ z, z = h0.size := ⟨_, rfl⟩
  rw [← g297] at A297 D297 st297
  have sz_b297 : h0.size ≤ b297 := Nat.le_trans K0.1 (Nat.le_of_eq g297.symm)
  have g_b297 : n0 ≤ b297 := Nat.le_trans Z0 sz_b297
  have ne298 : bb ≠ b297 := Nat.ne_of_lt (Nat.lt_of_lt_of_le V_bb.lt (Nat.le_of_eq g297.symm))
  replace V_bb := V_bb.ext E297
  replace O0 := O0.ext E297
  have K299 := K0.ext E297
  have F297_coder : Fld Z h297 b297 "java/lang/String" "coder" "B" (.int (0 : Int32)) := D297 (Or.inr (own_w hw 33 rfl)) (ty := .byte) (by decide)
  have F297_value : Fld Z h297 b297 "java/lang/String" "value" "[B" .null := D297 (Or.inr (own_w hw 35 rfl)) (ty := (.array .byte)) (by decide)
  refine own_go st297 ?_
  refine own_go (fun _ q => XS.dup X297.here hx rfl (hb hby d1_58) rfl rfl q) ?_
  refine own_go (fun _ q => XS.iconst X297.here hx rfl (hb hby d1_59) q) ?_
  show own_Fin _ _ _ _ (T297.setTop (mkF m 60 #[.val (.ref bb), .val (.int (3 : Int32))] [(.int (3 : Int32)), (.ref b297), (.ref b297)]))
  obtain ⟨T300, h300, k300, X300, e300, E300, A300, st300⟩ := newP X297 hx hZ (own_w hw 0 rfl) e297 (g := (mkF m 60 #[.val (.ref bb), .val (.int (3 : Int32))] [(.int (3 : Int32)), (.ref b297), (.ref b297)])) rfl (hb hby d1_60) rfl (by decide) (cap := 3) (by decide) (by decide) (by decide) (by decide)
  obtain ⟨b300, g300⟩ : ∃ z, z = h297.size := ⟨_, rfl⟩
  rw [← g300] at A300 st300
  have sz_b300 : h0.size ≤ b300 := Nat.le_trans K299.1 (Nat.le_of_eq g300.symm)
  have g_b300 : n0 ≤ b300 := Nat.le_trans Z0 sz_b300
  have ne301 : bb ≠ b300 := Nat.ne_of_lt (Nat.lt_of_lt_of_le V_bb.lt (Nat.le_of_eq g300.symm))
  have ne302 : b297 ≠ b300 := Nat.ne_of_lt (Nat.lt_of_lt_of_le A297.lt (Nat.le_of_eq g300.symm))
  replace V_bb := V_bb.ext E300
  replace O0 := O0.ext E300
  replace A297 := A297.ext E300
  replace F297_coder := F297_coder.ext E300
  replace F297_value := F297_value.ext E300
  have K303 := K299.ext E300
  have V300 : Arv Z h300 b300 k300 .char (3 : Int32) [(.int (0 : Int32)), (.int (0 : Int32)), (.int (0 : Int32))] (.int (0 : Int32)) := (Arv.new A300 (by decide)).pad (pad_rep [] (.int (0 : Int32)) 3)
  refine own_go st300 ?_
  refine own_go (fun _ q => XS.dup X300.here hx rfl (hb hby d1_62) rfl rfl q) ?_
  refine own_go (fun _ q => XS.iconst X300.here hx rfl (hb hby d1_63) q) ?_
  refine own_go (fun _ q => XS.aloadN X300.here hx rfl (hb hby d1_64) rfl rfl q) ?_
  refine own_go (fun _ q => XS.iconst X300.here hx rfl (hb hby d1_65) q) ?_
  show own_Fin _ _ _ _ (T300.setTop (mkF m 66 #[.val (.ref bb), .val (.int (3 : Int32))] [(.int (0 : Int32)), (.ref bb), (.int (0 : Int32)), (.ref b300), (.ref b300), (.ref b297), (.ref b297)]))
  refine own_go (fun _ q => own_caload X300 hx hZ e300 V_bb (by decide) (v := (.int ch0)) (rfl) (g := (mkF m 66 #[.val (.ref bb), .val (.int (3 : Int32))] [(.int (0 : Int32)), (.ref bb), (.int (0 : Int32)), (.ref b300), (.ref b300), (.ref b297), (.ref b297)])) rfl rfl (hb hby d1_66) _ q) ?_
  show own_Fin _ _ _ _ (T300.setTop (mkF m 67 #[.val (.ref bb), .val (.int (3 : Int32))] [(.int ch0), (.int (0 : Int32)), (.ref b300), (.ref b300), (.ref b297), (.ref b297)]))
  obtain ⟨T304, h304, X304, e304, W304, V304, st304⟩ := own_stC X300 hx hZ e300 V300 (by decide) (i := 0) rfl (Nat.le_of_ble_eq_true rfl) (g := (mkF m 67 #[.val (.ref bb), .val (.int (3 : Int32))] [(.int ch0), (.int (0 : Int32)), (.ref b300), (.ref b300), (.ref b297), (.ref b297)])) rfl rfl (hb hby d1_67)
  rw [own_narch (hb4 _ (own_m 0 rfl))] at V304
  replace V300 : Arv Z h304 b300 k300 .char (3 : Int32) [(.int ch0), (.int (0 : Int32)), (.int (0 : Int32))] (.int (0 : Int32)) := V304
  have N304 := Fr.snoc X304 N0 g_b300
  refine own_go st304 ?_
  replace V_bb := V_bb.other W304 ne301
  replace O0 := O0.wr W304 g_b300
  replace A297 := A297.wr W304
  replace F297_coder := F297_coder.other W304 (Or.inl ne302)
  replace F297_value := F297_value.other W304 (Or.inl ne302)
  have K305 := K303.wr W304 (Or.inr sz_b300)
  refine own_go (fun _ q => XS.dup X304.here hx rfl (hb hby d1_68) rfl rfl q) ?_
  refine own_go (fun _ q => XS.iconst X304.here hx rfl (hb hby d1_69) q) ?_
  refine own_go (fun _ q => XS.aloadN X304.here hx rfl (hb hby d1_70) rfl rfl q) ?_
  refine own_go (fun _ q => XS.iconst X304.here hx rfl (hb hby d1_71) q) ?_
  show own_Fin _ _ _ _ (T304.setTop (mkF m 72 #[.val (.ref bb), .val (.int (3 : Int32))] [(.int (1 : Int32)), (.ref bb), (.int (1 : Int32)), (.ref b300), (.ref b300), (.ref b297), (.ref b297)]))
  refine own_go (fun _ q => own_caload X304 hx hZ e304 V_bb (by decide) (v := (.int ch1)) (rfl) (g := (mkF m 72 #[.val (.ref bb), .val (.int (3 : Int32))] [(.int (1 : Int32)), (.ref bb), (.int (1 : Int32)), (.ref b300), (.ref b300), (.ref b297), (.ref b297)])) rfl rfl (hb hby d1_72) _ q) ?_
  show own_Fin _ _ _ _ (T304.setTop (mkF m 73 #[.val (.ref bb), .val (.int (3 : Int32))] [(.int ch1), (.int (1 : Int32)), (.ref b300), (.ref b300), (.ref b297), (.ref b297)]))
  obtain ⟨T306, h306, X306, e306, W306, V306, st306⟩ := own_stC X304 hx hZ e304 V300 (by decide) (i := 1) rfl (Nat.le_of_ble_eq_true rfl) (g := (mkF m 73 #[.val (.ref bb), .val (.int (3 : Int32))] [(.int ch1), (.int (1 : Int32)), (.ref b300), (.ref b300), (.ref b297), (.ref b297)])) rfl rfl (hb hby d1_73)
  rw [own_narch (hb4 _ (own_m 1 rfl))] at V306
  replace V300 : Arv Z h306 b300 k300 .char (3 : Int32) [(.int ch0), (.int ch1), (.int (0 : Int32))] (.int (0 : Int32)) := V306
  have N306 := Fr.snoc X306 N304 g_b300
  refine own_go st306 ?_
  replace V_bb := V_bb.other W306 ne301
  replace O0 := O0.wr W306 g_b300
  replace A297 := A297.wr W306
  replace F297_coder := F297_coder.other W306 (Or.inl ne302)
  replace F297_value := F297_value.other W306 (Or.inl ne302)
  have K307 := K305.wr W306 (Or.inr sz_b300)
  refine own_go (fun _ q => XS.dup X306.here hx rfl (hb hby d1_74) rfl rfl q) ?_
  refine own_go (fun _ q => XS.iconst X306.here hx rfl (hb hby d1_75) q) ?_
  refine own_go (fun _ q => XS.aloadN X306.here hx rfl (hb hby d1_76) rfl rfl q) ?_
  refine own_go (fun _ q => XS.iconst X306.here hx rfl (hb hby d1_77) q) ?_
  show own_Fin _ _ _ _ (T306.setTop (mkF m 78 #[.val (.ref bb), .val (.int (3 : Int32))] [(.int (2 : Int32)), (.ref bb), (.int (2 : Int32)), (.ref b300), (.ref b300), (.ref b297), (.ref b297)]))
  refine own_go (fun _ q => own_caload X306 hx hZ e306 V_bb (by decide) (v := (.int ch2)) (rfl) (g := (mkF m 78 #[.val (.ref bb), .val (.int (3 : Int32))] [(.int (2 : Int32)), (.ref bb), (.int (2 : Int32)), (.ref b300), (.ref b300), (.ref b297), (.ref b297)])) rfl rfl (hb hby d1_78) _ q) ?_
  show own_Fin _ _ _ _ (T306.setTop (mkF m 79 #[.val (.ref bb), .val (.int (3 : Int32))] [(.int ch2), (.int (2 : Int32)), (.ref b300), (.ref b300), (.ref b297), (.ref b297)]))
  obtain ⟨T308, h308, X308, e308, W308, V308, st308⟩ := own_stC X306 hx hZ e306 V300 (by decide) (i := 2) rfl (Nat.le_of_ble_eq_true rfl) (g := (mkF m 79 #[.val (.ref bb), .val (.int (3 : Int32))] [(.int ch2), (.int (2 : Int32)), (.ref b300), (.ref b300), (.ref b297), (.ref b297)])) rfl rfl (hb hby d1_79)
  rw [own_narch (hb4 _ (own_m 2 rfl))] at V308
  replace V300 : Arv Z h308 b300 k300 .char (3 : Int32) [(.int ch0), (.int ch1), (.int ch2)] (.int (0 : Int32)) := V308
  have N308 := Fr.snoc X308 N306 g_b300
  refine own_go st308 ?_
  replace V_bb := V_bb.other W308 ne301
  replace O0 := O0.wr W308 g_b300
  replace A297 := A297.wr W308
  replace F297_coder := F297_coder.other W308 (Or.inl ne302)
  replace F297_value := F297_value.other W308 (Or.inl ne302)
  have K309 := K307.wr W308 (Or.inr sz_b300)
  show own_Fin _ _ _ _ (T308.setTop (mkF m 80 #[.val (.ref bb), .val (.int (3 : Int32))] [(.ref b300), (.ref b297), (.ref b297)]))
  obtain ⟨_, _, ⟨T310, L310, k310, n310⟩, -, X310, ⟨Lc310, hQ310, l310, y310, z310⟩, st310⟩ := X308.specialBack hx (y := (⟨"java/lang/String", "<init>", "([C)V"⟩ : MethodName)) rfl hown (mvT hZ (own_w hw 10 rfl)) (mvT hZ (own_w hw 11 rfl)) (mvT hZ (own_w hw 12 rfl)) (by decide) (backOf (W := 1) (rm_i1_3 l Z a0 hw [] b297 b300 k300 ch0 ch1 ch2 gc h308 n0 (Nat.le_trans Z0 K309.1) A297 F297_value F297_coder g_b297 V300 (own_take 3 hb4) (Ne.symm ne302) S_C hcs O0 S_A S_H S_L) hZ (own_w hw 12 rfl) (own_w hw 9 rfl) (by decide) (by decide)) (g := (mkF m 80 #[.val (.ref bb), .val (.int (3 : Int32))] [(.ref b300), (.ref b297), (.ref b297)])) rfl (by rw [hml]; rfl) (Steps.refl _) (a := b297) (argsL := [(.ref b300)]) (rest := [(.ref b297)]) (lenOf pd_20 rfl) rfl (by show 2 * 0 + _ ≤ _; exact Nat.le_of_eq rfl) (hb hby d1_80) (fun _ _ => ⟨rfl, e308, (by decide : 2 + 2 ≤ _), (by decide : 7 + 9 ≤ _)⟩)
  dsimp only [Pt.U, Pt.locs, Pt.cells, Pt.slots] at X310 l310 y310 z310 st310 hQ310
  subst l310 y310 z310
  obtain ⟨t310, rfl, N310q, KK310, szt310, SS310⟩ := hQ310
  have N310 := Fr.app N308 N310q
  have sz_t310 : h0.size ≤ t310 := Nat.le_trans K309.1 szt310
  have g_t310 : n0 ≤ t310 := Nat.le_trans Z0 sz_t310
  have ne311 : bb ≠ t310 := Nat.ne_of_lt (Nat.lt_of_lt_of_le V_bb.lt szt310)
  have ne312 : b297 ≠ t310 := Nat.ne_of_lt (Nat.lt_of_lt_of_le A297.lt szt310)
  have ne313 : b300 ≠ t310 := Nat.ne_of_lt (Nat.lt_of_lt_of_le V300.lt szt310)
  replace V_bb := V_bb.keep KK310 (ninS ne298 nin0)
  replace O0 := O0.keep KK310 (allS g_b297 (all0))
  replace A297 := A297.keep KK310
  replace V300 := V300.keep KK310 (ninS (Ne.symm ne302) nin0)
  have K314 := K309.trans KK310 (allS (Or.inr sz_b297) all0)
  refine own_go (fun _ q => st310.trans q) ?_
  show own_Fin _ _ _ _ (T310.setTop (mkF m 83 #[.val (.ref bb), .val (.int (3 : Int32))] [(.ref b297)]))
  refine own_retA X310 hx Bd (t := (.object "java/lang/String")) Bd.returns rfl rfl rfl (hb hby d1_83) ?_ (by decide) (by decide)
  show (Q_rm_mk3 Z bb kb ch0 ch1 ch2 ch3 gc h0 n0) (some (.ref b297)) T310.heap _
  exact ⟨_, _, rfl, N310, K314, sz_b297, sz_t310, SS310⟩
def Q_rm_mk4 (Z : State) (bb : Addr) (kb : ClassId) (ch0 : Int32) (ch1 : Int32) (ch2 : Int32) (ch3 : Int32) (gc : Int32) (h0 : Heap) (n0 : Nat) (v : Option Value) (h : Heap) (L : List Loc) : Prop := ∃ x t, v = some (.ref x) ∧ Fr n0 L ∧ Keep h0 h [] ∧ h0.size ≤ x ∧ h0.size ≤ t ∧ own_Str Z h x t ([ch0, ch1, ch2, ch3] : List Int32)
theorem ef_rm_mk4 (m : MethodId) (bb : Addr) (ch0 : Int32) (ch1 : Int32) (ch2 : Int32) (ch3 : Int32) (gc : Int32) : entryFrame m #[(.ref bb), (.int (4 : Int32))] 2 = mkF m 0 #[.val (.ref bb), .val (.int (4 : Int32))] [] := by first | (simp [entryFrame, mkF, argsToLocals, Value.category]; done) | rfl
set_option maxRecDepth 65536 in
set_option maxHeartbeats 40000000 in
theorem rm_mk4 (l : Launch) (Z : State) (a0 : Array Value) (hw : ∀ d ∈ tables_1, d.before a0 Z = true) (ws : List Jvm.Cond) (bb : Addr) (kb : ClassId) (ch0 : Int32) (ch1 : Int32) (ch2 : Int32) (ch3 : Int32) (gc : Int32) (h0 : Heap) (n0 : Nat) (Z0 : n0 ≤ h0.size) (V_bb : Arv Z h0 bb kb .char (4 : Int32) [(.int ch0), (.int ch1), (.int ch2), (.int ch3)] (.int (0 : Int32))) (hb4 : ∀ c ∈ ([ch0, ch1, ch2, ch3] : List Int32), ¬ c < 0 ∧ ¬ (65535 : Int32) < c) (S_C : Sta Z Z.heap "java/lang/String" "COMPACT_STRINGS" "Z" (.int gc)) (hcs : ¬ gc = 0) (O0 : Old Z n0 h0) (S_A : Sta Z Z.heap "java/lang/StringUTF16" "$assertionsDisabled" "Z" (.int (1 : Int32))) (S_H : Sta Z Z.heap "java/lang/StringUTF16" "HI_BYTE_SHIFT" "I" (.int (0 : Int32))) (S_L : Sta Z Z.heap "java/lang/StringUTF16" "LO_BYTE_SHIFT" "I" (.int (8 : Int32))) :
    MetFree l (⟨"com/example/iron_satchel/ironsatchel/PercentEncodingIsEscapeAtPinLaw", "make", "([CI)Ljava/lang/String;"⟩ : MethodName) (head1 (Jvm.Cond.code (⟨"com/example/iron_satchel/ironsatchel/PercentEncodingIsEscapeAtPinLaw", "make", "([CI)Ljava/lang/String;"⟩ : MethodName) method_3_code 2 (some (.object "java/lang/String")) :: ws) ({ frames := 6, cells := 4, slots := 20, locals := 88 } : Room)) (fun a_ U_ => a_ = #[(.ref bb), (.int (4 : Int32))] ∧ Z.Warmed39 U_.vm ∧ U_.heap = h0) (fun _ _ _ _ _ => True) (fun _ U_ o_ V_ => ∃ v_ L_, o_ = .returned v_ ∧ (Q_rm_mk4 Z bb kb ch0 ch1 ch2 ch3 gc h0 n0) v_ V_.heap L_ ∧ FrameEnd U_ o_ V_ L_ ({ frames := 6, cells := 4, slots := 20, locals := 88 } : Room).cells ({ frames := 6, cells := 4, slots := 20, locals := 88 } : Room).slots) := by
  refine MetFree.of_bodySF (plainFor_of_name pn_19) hisR ?_
  intro p e s m args below meth c s₁ Bd hml0 hP hK
  obtain ⟨rfl, hZ, hh⟩ := hP
  have hx := Bd.exec
  have hby := Bd.bytes
  have hml : c.maxLocals = 2 := hml0
  have hown : s.vm.findClass "com/example/iron_satchel/ironsatchel/PercentEncodingIsEscapeAtPinLaw" = some m.cls := findClass_of_methodNamed Bd.named
  have hnm := (name_of_methodNamed Bd.named Bd.method).1
  have X0 : Stand p l e ({ frames := 6, cells := 4, slots := 20, locals := 88 } : Room) s m #[(.ref bb), (.int (4 : Int32))] below meth c s₁ [] 0 0 := Stand.of_body Bd
  have e0 : s₁.heap = h0 := by rw [← hh, Bd.state]; rfl
  have N0 := Fr.nil n0
  have K0 : Keep h0 h0 [] := Keep.refl _ _
  show own_Fin p.tables e below (own_Post (Q_rm_mk4 Z bb kb ch0 ch1 ch2 ch3 gc h0 n0) ({ frames := 6, cells := 4, slots := 20, locals := 88 } : Room).cells ({ frames := 6, cells := 4, slots := 20, locals := 88 } : Room).slots below s) _
  refine own_go (fun _ q => castTop (ef_rm_mk4 m bb ch0 ch1 ch2 ch3 gc) q) ?_
  refine own_go (fun _ q => XS.iloadN X0.here hx rfl (hb hby d1_0) rfl q) ?_
  refine own_go (fun _ q => XS.iconst X0.here hx rfl (hb hby d1_1) q) ?_
  show own_Fin _ _ _ _ (s₁.setTop (mkF m 2 #[.val (.ref bb), .val (.int (4 : Int32))] [(.int (1 : Int32)), (.int (4 : Int32))]))
  refine own_go (fun _ q => XS.icmpYes X0.here hx rfl (pc0 := 2) (pc' := 22) rfl (hb hby d1_2) rfl (feq (by decide : ¬ (4 : Int32) = (1 : Int32))).2 (by decide) (by decide) q) ?_
  refine own_go (fun _ q => XS.iloadN X0.here hx rfl (hb hby d1_22) rfl q) ?_
  refine own_go (fun _ q => XS.iconst X0.here hx rfl (hb hby d1_23) q) ?_
  show own_Fin _ _ _ _ (s₁.setTop (mkF m 24 #[.val (.ref bb), .val (.int (4 : Int32))] [(.int (2 : Int32)), (.int (4 : Int32))]))
  refine own_go (fun _ q => XS.icmpYes X0.here hx rfl (pc0 := 24) (pc' := 50) rfl (hb hby d1_24) rfl (feq (by decide : ¬ (4 : Int32) = (2 : Int32))).2 (by decide) (by decide) q) ?_
  refine own_go (fun _ q => XS.iloadN X0.here hx rfl (hb hby d1_50) rfl q) ?_
  refine own_go (fun _ q => XS.iconst X0.here hx rfl (hb hby d1_51) q) ?_
  show own_Fin _ _ _ _ (s₁.setTop (mkF m 52 #[.val (.ref bb), .val (.int (4 : Int32))] [(.int (3 : Int32)), (.int (4 : Int32))]))
  refine own_go (fun _ q => XS.icmpYes X0.here hx rfl (pc0 := 52) (pc' := 84) rfl (hb hby d1_52) rfl (feq (by decide : ¬ (4 : Int32) = (3 : Int32))).2 (by decide) (by decide) q) ?_
  show own_Fin _ _ _ _ (s₁.setTop (mkF m 84 #[.val (.ref bb), .val (.int (4 : Int32))] []))
  obtain ⟨T315, h315, X315, e315, E315, A315, D315, -, st315⟩ := newO X0 hx hZ hown (own_w hw 7 rfl) (own_w hw 8 rfl) (own_w hw 9 rfl) e0 (g := (mkF m 84 #[.val (.ref bb), .val (.int (4 : Int32))] [])) rfl (hb hby d1_84) (by decide) (by decide)
  obtain ⟨b315, g315⟩ : ∃ z, z = h0.size := ⟨_, rfl⟩
  rw [← g315] at A315 D315 st315
  have sz_b315 : h0.size ≤ b315 := Nat.le_trans K0.1 (Nat.le_of_eq g315.symm)
  have g_b315 : n0 ≤ b315 := Nat.le_trans Z0 sz_b315
  have ne316 : bb ≠ b315 := Nat.ne_of_lt (Nat.lt_of_lt_of_le V_bb.lt (Nat.le_of_eq g315.symm))
  replace V_bb := V_bb.ext E315
  replace O0 := O0.ext E315
  have K317 := K0.ext E315
  have F315_coder : Fld Z h315 b315 "java/lang/String" "coder" "B" (.int (0 : Int32)) := D315 (Or.inr (own_w hw 33 rfl)) (ty := .byte) (by decide)
  have F315_value : Fld Z h315 b315 "java/lang/String" "value" "[B" .null := D315 (Or.inr (own_w hw 35 rfl)) (ty := (.array .byte)) (by decide)
  refine own_go st315 ?_
  refine own_go (fun _ q => XS.dup X315.here hx rfl (hb hby d1_87) rfl rfl q) ?_
  refine own_go (fun _ q => XS.iconst X315.here hx rfl (hb hby d1_88) q) ?_
  show own_Fin _ _ _ _ (T315.setTop (mkF m 89 #[.val (.ref bb), .val (.int (4 : Int32))] [(.int (4 : Int32)), (.ref b315), (.ref b315)]))
  obtain ⟨T318, h318, k318, X318, e318, E318, A318, st318⟩ := newP X315 hx hZ (own_w hw 0 rfl) e315 (g := (mkF m 89 #[.val (.ref bb), .val (.int (4 : Int32))] [(.int (4 : Int32)), (.ref b315), (.ref b315)])) rfl (hb hby d1_89) rfl (by decide) (cap := 4) (by decide) (by decide) (by decide) (by decide)
  obtain ⟨b318, g318⟩ : ∃ z, z = h315.size := ⟨_, rfl⟩
  rw [← g318] at A318 st318
  have sz_b318 : h0.size ≤ b318 := Nat.le_trans K317.1 (Nat.le_of_eq g318.symm)
  have g_b318 : n0 ≤ b318 := Nat.le_trans Z0 sz_b318
  have ne319 : bb ≠ b318 := Nat.ne_of_lt (Nat.lt_of_lt_of_le V_bb.lt (Nat.le_of_eq g318.symm))
  have ne320 : b315 ≠ b318 := Nat.ne_of_lt (Nat.lt_of_lt_of_le A315.lt (Nat.le_of_eq g318.symm))
  replace V_bb := V_bb.ext E318
  replace O0 := O0.ext E318
  replace A315 := A315.ext E318
  replace F315_coder := F315_coder.ext E318
  replace F315_value := F315_value.ext E318
  have K321 := K317.ext E318
  have V318 : Arv Z h318 b318 k318 .char (4 : Int32) [(.int (0 : Int32)), (.int (0 : Int32)), (.int (0 : Int32)), (.int (0 : Int32))] (.int (0 : Int32)) := (Arv.new A318 (by decide)).pad (pad_rep [] (.int (0 : Int32)) 4)
  refine own_go st318 ?_
  refine own_go (fun _ q => XS.dup X318.here hx rfl (hb hby d1_91) rfl rfl q) ?_
  refine own_go (fun _ q => XS.iconst X318.here hx rfl (hb hby d1_92) q) ?_
  refine own_go (fun _ q => XS.aloadN X318.here hx rfl (hb hby d1_93) rfl rfl q) ?_
  refine own_go (fun _ q => XS.iconst X318.here hx rfl (hb hby d1_94) q) ?_
  show own_Fin _ _ _ _ (T318.setTop (mkF m 95 #[.val (.ref bb), .val (.int (4 : Int32))] [(.int (0 : Int32)), (.ref bb), (.int (0 : Int32)), (.ref b318), (.ref b318), (.ref b315), (.ref b315)]))
  refine own_go (fun _ q => own_caload X318 hx hZ e318 V_bb (by decide) (v := (.int ch0)) (rfl) (g := (mkF m 95 #[.val (.ref bb), .val (.int (4 : Int32))] [(.int (0 : Int32)), (.ref bb), (.int (0 : Int32)), (.ref b318), (.ref b318), (.ref b315), (.ref b315)])) rfl rfl (hb hby d1_95) _ q) ?_
  show own_Fin _ _ _ _ (T318.setTop (mkF m 96 #[.val (.ref bb), .val (.int (4 : Int32))] [(.int ch0), (.int (0 : Int32)), (.ref b318), (.ref b318), (.ref b315), (.ref b315)]))
  obtain ⟨T322, h322, X322, e322, W322, V322, st322⟩ := own_stC X318 hx hZ e318 V318 (by decide) (i := 0) rfl (Nat.le_of_ble_eq_true rfl) (g := (mkF m 96 #[.val (.ref bb), .val (.int (4 : Int32))] [(.int ch0), (.int (0 : Int32)), (.ref b318), (.ref b318), (.ref b315), (.ref b315)])) rfl rfl (hb hby d1_96)
  rw [own_narch (hb4 _ (own_m 0 rfl))] at V322
  replace V318 : Arv Z h322 b318 k318 .char (4 : Int32) [(.int ch0), (.int (0 : Int32)), (.int (0 : Int32)), (.int (0 : Int32))] (.int (0 : Int32)) := V322
  have N322 := Fr.snoc X322 N0 g_b318
  refine own_go st322 ?_
  replace V_bb := V_bb.other W322 ne319
  replace O0 := O0.wr W322 g_b318
  replace A315 := A315.wr W322
  replace F315_coder := F315_coder.other W322 (Or.inl ne320)
  replace F315_value := F315_value.other W322 (Or.inl ne320)
  have K323 := K321.wr W322 (Or.inr sz_b318)
  refine own_go (fun _ q => XS.dup X322.here hx rfl (hb hby d1_97) rfl rfl q) ?_
  refine own_go (fun _ q => XS.iconst X322.here hx rfl (hb hby d1_98) q) ?_
  refine own_go (fun _ q => XS.aloadN X322.here hx rfl (hb hby d1_99) rfl rfl q) ?_
  refine own_go (fun _ q => XS.iconst X322.here hx rfl (hb hby d1_100) q) ?_
  show own_Fin _ _ _ _ (T322.setTop (mkF m 101 #[.val (.ref bb), .val (.int (4 : Int32))] [(.int (1 : Int32)), (.ref bb), (.int (1 : Int32)), (.ref b318), (.ref b318), (.ref b315), (.ref b315)]))
  refine own_go (fun _ q => own_caload X322 hx hZ e322 V_bb (by decide) (v := (.int ch1)) (rfl) (g := (mkF m 101 #[.val (.ref bb), .val (.int (4 : Int32))] [(.int (1 : Int32)), (.ref bb), (.int (1 : Int32)), (.ref b318), (.ref b318), (.ref b315), (.ref b315)])) rfl rfl (hb hby d1_101) _ q) ?_
  show own_Fin _ _ _ _ (T322.setTop (mkF m 102 #[.val (.ref bb), .val (.int (4 : Int32))] [(.int ch1), (.int (1 : Int32)), (.ref b318), (.ref b318), (.ref b315), (.ref b315)]))
  obtain ⟨T324, h324, X324, e324, W324, V324, st324⟩ := own_stC X322 hx hZ e322 V318 (by decide) (i := 1) rfl (Nat.le_of_ble_eq_true rfl) (g := (mkF m 102 #[.val (.ref bb), .val (.int (4 : Int32))] [(.int ch1), (.int (1 : Int32)), (.ref b318), (.ref b318), (.ref b315), (.ref b315)])) rfl rfl (hb hby d1_102)
  rw [own_narch (hb4 _ (own_m 1 rfl))] at V324
  replace V318 : Arv Z h324 b318 k318 .char (4 : Int32) [(.int ch0), (.int ch1), (.int (0 : Int32)), (.int (0 : Int32))] (.int (0 : Int32)) := V324
  have N324 := Fr.snoc X324 N322 g_b318
  refine own_go st324 ?_
  replace V_bb := V_bb.other W324 ne319
  replace O0 := O0.wr W324 g_b318
  replace A315 := A315.wr W324
  replace F315_coder := F315_coder.other W324 (Or.inl ne320)
  replace F315_value := F315_value.other W324 (Or.inl ne320)
  have K325 := K323.wr W324 (Or.inr sz_b318)
  refine own_go (fun _ q => XS.dup X324.here hx rfl (hb hby d1_103) rfl rfl q) ?_
  refine own_go (fun _ q => XS.iconst X324.here hx rfl (hb hby d1_104) q) ?_
  refine own_go (fun _ q => XS.aloadN X324.here hx rfl (hb hby d1_105) rfl rfl q) ?_
  refine own_go (fun _ q => XS.iconst X324.here hx rfl (hb hby d1_106) q) ?_
  show own_Fin _ _ _ _ (T324.setTop (mkF m 107 #[.val (.ref bb), .val (.int (4 : Int32))] [(.int (2 : Int32)), (.ref bb), (.int (2 : Int32)), (.ref b318), (.ref b318), (.ref b315), (.ref b315)]))
  refine own_go (fun _ q => own_caload X324 hx hZ e324 V_bb (by decide) (v := (.int ch2)) (rfl) (g := (mkF m 107 #[.val (.ref bb), .val (.int (4 : Int32))] [(.int (2 : Int32)), (.ref bb), (.int (2 : Int32)), (.ref b318), (.ref b318), (.ref b315), (.ref b315)])) rfl rfl (hb hby d1_107) _ q) ?_
  show own_Fin _ _ _ _ (T324.setTop (mkF m 108 #[.val (.ref bb), .val (.int (4 : Int32))] [(.int ch2), (.int (2 : Int32)), (.ref b318), (.ref b318), (.ref b315), (.ref b315)]))
  obtain ⟨T326, h326, X326, e326, W326, V326, st326⟩ := own_stC X324 hx hZ e324 V318 (by decide) (i := 2) rfl (Nat.le_of_ble_eq_true rfl) (g := (mkF m 108 #[.val (.ref bb), .val (.int (4 : Int32))] [(.int ch2), (.int (2 : Int32)), (.ref b318), (.ref b318), (.ref b315), (.ref b315)])) rfl rfl (hb hby d1_108)
  rw [own_narch (hb4 _ (own_m 2 rfl))] at V326
  replace V318 : Arv Z h326 b318 k318 .char (4 : Int32) [(.int ch0), (.int ch1), (.int ch2), (.int (0 : Int32))] (.int (0 : Int32)) := V326
  have N326 := Fr.snoc X326 N324 g_b318
  refine own_go st326 ?_
  replace V_bb := V_bb.other W326 ne319
  replace O0 := O0.wr W326 g_b318
  replace A315 := A315.wr W326
  replace F315_coder := F315_coder.other W326 (Or.inl ne320)
  replace F315_value := F315_value.other W326 (Or.inl ne320)
  have K327 := K325.wr W326 (Or.inr sz_b318)
  refine own_go (fun _ q => XS.dup X326.here hx rfl (hb hby d1_109) rfl rfl q) ?_
  refine own_go (fun _ q => XS.iconst X326.here hx rfl (hb hby d1_110) q) ?_
  refine own_go (fun _ q => XS.aloadN X326.here hx rfl (hb hby d1_111) rfl rfl q) ?_
  refine own_go (fun _ q => XS.iconst X326.here hx rfl (hb hby d1_112) q) ?_
  show own_Fin _ _ _ _ (T326.setTop (mkF m 113 #[.val (.ref bb), .val (.int (4 : Int32))] [(.int (3 : Int32)), (.ref bb), (.int (3 : Int32)), (.ref b318), (.ref b318), (.ref b315), (.ref b315)]))
  refine own_go (fun _ q => own_caload X326 hx hZ e326 V_bb (by decide) (v := (.int ch3)) (rfl) (g := (mkF m 113 #[.val (.ref bb), .val (.int (4 : Int32))] [(.int (3 : Int32)), (.ref bb), (.int (3 : Int32)), (.ref b318), (.ref b318), (.ref b315), (.ref b315)])) rfl rfl (hb hby d1_113) _ q) ?_
  show own_Fin _ _ _ _ (T326.setTop (mkF m 114 #[.val (.ref bb), .val (.int (4 : Int32))] [(.int ch3), (.int (3 : Int32)), (.ref b318), (.ref b318), (.ref b315), (.ref b315)]))
  obtain ⟨T328, h328, X328, e328, W328, V328, st328⟩ := own_stC X326 hx hZ e326 V318 (by decide) (i := 3) rfl (Nat.le_of_ble_eq_true rfl) (g := (mkF m 114 #[.val (.ref bb), .val (.int (4 : Int32))] [(.int ch3), (.int (3 : Int32)), (.ref b318), (.ref b318), (.ref b315), (.ref b315)])) rfl rfl (hb hby d1_114)
  rw [own_narch (hb4 _ (own_m 3 rfl))] at V328
  replace V318 : Arv Z h328 b318 k318 .char (4 : Int32) [(.int ch0), (.int ch1), (.int ch2), (.int ch3)] (.int (0 : Int32)) := V328
  have N328 := Fr.snoc X328 N326 g_b318
  refine own_go st328 ?_
  replace V_bb := V_bb.other W328 ne319
  replace O0 := O0.wr W328 g_b318
  replace A315 := A315.wr W328
  replace F315_coder := F315_coder.other W328 (Or.inl ne320)
  replace F315_value := F315_value.other W328 (Or.inl ne320)
  have K329 := K327.wr W328 (Or.inr sz_b318)
  show own_Fin _ _ _ _ (T328.setTop (mkF m 115 #[.val (.ref bb), .val (.int (4 : Int32))] [(.ref b318), (.ref b315), (.ref b315)]))
  obtain ⟨_, _, ⟨T330, L330, k330, n330⟩, -, X330, ⟨Lc330, hQ330, l330, y330, z330⟩, st330⟩ := X328.specialBack hx (y := (⟨"java/lang/String", "<init>", "([C)V"⟩ : MethodName)) rfl hown (mvT hZ (own_w hw 10 rfl)) (mvT hZ (own_w hw 11 rfl)) (mvT hZ (own_w hw 12 rfl)) (by decide) (backOf (W := 1) (rm_i1_4 l Z a0 hw [] b315 b318 k318 ch0 ch1 ch2 ch3 gc h328 n0 (Nat.le_trans Z0 K329.1) A315 F315_value F315_coder g_b315 V318 (own_take 4 hb4) (Ne.symm ne320) S_C hcs O0 S_A S_H S_L) hZ (own_w hw 12 rfl) (own_w hw 9 rfl) (by decide) (by decide)) (g := (mkF m 115 #[.val (.ref bb), .val (.int (4 : Int32))] [(.ref b318), (.ref b315), (.ref b315)])) rfl (by rw [hml]; rfl) (Steps.refl _) (a := b315) (argsL := [(.ref b318)]) (rest := [(.ref b315)]) (lenOf pd_20 rfl) rfl (by show 2 * 0 + _ ≤ _; exact Nat.le_of_eq rfl) (hb hby d1_115) (fun _ _ => ⟨rfl, e328, (by decide : 2 + 2 ≤ _), (by decide : 8 + 12 ≤ _)⟩)
  dsimp only [Pt.U, Pt.locs, Pt.cells, Pt.slots] at X330 l330 y330 z330 st330 hQ330
  subst l330 y330 z330
  obtain ⟨t330, rfl, N330q, KK330, szt330, SS330⟩ := hQ330
  have N330 := Fr.app N328 N330q
  have sz_t330 : h0.size ≤ t330 := Nat.le_trans K329.1 szt330
  have g_t330 : n0 ≤ t330 := Nat.le_trans Z0 sz_t330
  have ne331 : bb ≠ t330 := Nat.ne_of_lt (Nat.lt_of_lt_of_le V_bb.lt szt330)
  have ne332 : b315 ≠ t330 := Nat.ne_of_lt (Nat.lt_of_lt_of_le A315.lt szt330)
  have ne333 : b318 ≠ t330 := Nat.ne_of_lt (Nat.lt_of_lt_of_le V318.lt szt330)
  replace V_bb := V_bb.keep KK330 (ninS ne316 nin0)
  replace O0 := O0.keep KK330 (allS g_b315 (all0))
  replace A315 := A315.keep KK330
  replace V318 := V318.keep KK330 (ninS (Ne.symm ne320) nin0)
  have K334 := K329.trans KK330 (allS (Or.inr sz_b315) all0)
  refine own_go (fun _ q => st330.trans q) ?_
  show own_Fin _ _ _ _ (T330.setTop (mkF m 118 #[.val (.ref bb), .val (.int (4 : Int32))] [(.ref b315)]))
  refine own_retA X330 hx Bd (t := (.object "java/lang/String")) Bd.returns rfl rfl rfl (hb hby d1_118) ?_ (by decide) (by decide)
  show (Q_rm_mk4 Z bb kb ch0 ch1 ch2 ch3 gc h0 n0) (some (.ref b315)) T330.heap _
  exact ⟨_, _, rfl, N330, K334, sz_b315, sz_t330, SS330⟩
def Q_rm_ie0 (Z : State) (xx : Addr) (tt : Addr) (cs : List Int32) (ii : Int32) (chx : Int32) (gc : Int32) (gs : Value) (h0 : Heap) (n0 : Nat) (v : Option Value) (h : Heap) (L : List Loc) : Prop := v = some (.int (0 : Int32)) ∧ Fr n0 L ∧ h = h0
theorem ef_rm_ie0 (m : MethodId) (xx : Addr) (tt : Addr) (ii : Int32) (chx : Int32) (gc : Int32) (gs : Value) : entryFrame m #[(.ref xx), (.int ii)] 2 = mkF m 0 #[.val (.ref xx), .val (.int ii)] [] := by first | (simp [entryFrame, mkF, argsToLocals, Value.category]; done) | rfl
set_option maxRecDepth 65536 in
set_option maxHeartbeats 40000000 in
theorem rm_ie0 (l : Launch) (Z : State) (a0 : Array Value) (hw : ∀ d ∈ tables_1, d.before a0 Z = true) (ws : List Jvm.Cond) (xx : Addr) (tt : Addr) (cs : List Int32) (ii : Int32) (chx : Int32) (gc : Int32) (gs : Value) (h0 : Heap) (n0 : Nat) (Z0 : n0 ≤ h0.size) (F_x : own_Str Z h0 xx tt cs) (hin : chx ∈ cs) (hi0 : ¬ ii < (0 : Int32)) (hi1 : ii < (Int32.ofNat cs.length)) (hv : (cs.map fun c => Value.int (StrChars.lo8 c)).getD ii.toNatClampNeg (.int (0 : Int32)) = .int (chx.toInt8.toInt32)) (hi2 : ii < ((Int32.ofNat (2 * cs.length)) >>> ((1 : Int32) &&& 31))) (hj1 : ¬ (ii <<< ((1 : Int32) &&& 31)) < 0 ∧ (ii <<< ((1 : Int32) &&& 31)) < (Int32.ofNat (2 * cs.length))) (hj2 : ¬ ((ii <<< ((1 : Int32) &&& 31)) + (1 : Int32)) < 0 ∧ ((ii <<< ((1 : Int32) &&& 31)) + (1 : Int32)) < (Int32.ofNat (2 * cs.length))) (hv1 : (StrChars.Road.wideBytes cs).getD (ii <<< ((1 : Int32) &&& 31)).toNatClampNeg (.int (0 : Int32)) = .int (chx.toInt8.toInt32)) (hv2 : (StrChars.Road.wideBytes cs).getD ((ii <<< ((1 : Int32) &&& 31)) + (1 : Int32)).toNatClampNeg (.int (0 : Int32)) = .int ((chx >>> ((8 : Int32) &&& 31)).toInt8.toInt32)) (hge : ¬ (ii + (2 : Int32)) < (Int32.ofNat cs.length)) (S_F : Sta Z Z.heap "jdk/internal/util/Preconditions" "SIOOBE_FORMATTER" "Ljava/util/function/BiFunction;" gs) (hgs : gs.isRef = true) (S_C : Sta Z Z.heap "java/lang/String" "COMPACT_STRINGS" "Z" (.int gc)) (hcs : ¬ gc = 0) (O0 : Old Z n0 h0) (S_A : Sta Z Z.heap "java/lang/StringUTF16" "$assertionsDisabled" "Z" (.int (1 : Int32))) (S_H : Sta Z Z.heap "java/lang/StringUTF16" "HI_BYTE_SHIFT" "I" (.int (0 : Int32))) (S_L : Sta Z Z.heap "java/lang/StringUTF16" "LO_BYTE_SHIFT" "I" (.int (8 : Int32))) :
    MetFree l (⟨"com/example/iron_satchel/ironsatchel/PercentEncoding", "isEscapeAt", "(Ljava/lang/String;I)Z"⟩ : MethodName) (head1 (Jvm.Cond.code (⟨"com/example/iron_satchel/ironsatchel/PercentEncoding", "isEscapeAt", "(Ljava/lang/String;I)Z"⟩ : MethodName) prog_13_method_3_code 2 (some .boolean) :: ws) ({ frames := 5, cells := 0, slots := 0, locals := 66 } : Room)) (fun a_ U_ => a_ = #[(.ref xx), (.int ii)] ∧ Z.Warmed39 U_.vm ∧ U_.heap = h0) (fun _ _ _ _ _ => True) (fun _ U_ o_ V_ => ∃ v_ L_, o_ = .returned v_ ∧ (Q_rm_ie0 Z xx tt cs ii chx gc gs h0 n0) v_ V_.heap L_ ∧ FrameEnd U_ o_ V_ L_ ({ frames := 5, cells := 0, slots := 0, locals := 66 } : Room).cells ({ frames := 5, cells := 0, slots := 0, locals := 66 } : Room).slots) := by
  refine MetFree.of_bodySF (plainFor_of_name pn_21) hisR ?_
  intro p e s m args below meth c s₁ Bd hml0 hP hK
  obtain ⟨rfl, hZ, hh⟩ := hP
  have hx := Bd.exec
  have hby := Bd.bytes
  have hml : c.maxLocals = 2 := hml0
  have hown : s.vm.findClass "com/example/iron_satchel/ironsatchel/PercentEncoding" = some m.cls := findClass_of_methodNamed Bd.named
  have hnm := (name_of_methodNamed Bd.named Bd.method).1
  have X0 : Stand p l e ({ frames := 5, cells := 0, slots := 0, locals := 66 } : Room) s m #[(.ref xx), (.int ii)] below meth c s₁ [] 0 0 := Stand.of_body Bd
  have e0 : s₁.heap = h0 := by rw [← hh, Bd.state]; rfl
  have N0 := Fr.nil n0
  have K0 : Keep h0 h0 [] := Keep.refl _ _
  show own_Fin p.tables e below (own_Post (Q_rm_ie0 Z xx tt cs ii chx gc gs h0 n0) ({ frames := 5, cells := 0, slots := 0, locals := 66 } : Room).cells ({ frames := 5, cells := 0, slots := 0, locals := 66 } : Room).slots below s) _
  refine own_go (fun _ q => castTop (ef_rm_ie0 m xx tt ii chx gc gs) q) ?_
  refine own_go (fun _ q => XS.aloadN X0.here hx rfl (hb hby d8_0) rfl rfl q) ?_
  refine own_go (fun _ q => XS.iloadN X0.here hx rfl (hb hby d8_1) rfl q) ?_
  show own_Fin _ _ _ _ (s₁.setTop (mkF m 2 #[.val (.ref xx), .val (.int ii)] [(.int ii), (.ref xx)]))
  obtain ⟨cq335, kq335, qa335, qb335, qc335⟩ := isOf hZ e0 F_x.exa
  obtain ⟨_, _, ⟨T335, L335, k335, n335⟩, -, X335, ⟨Lc335, hQ335, l335, y335, z335⟩, st335⟩ := X0.virtualBack hx (y := (⟨"java/lang/String", "charAt", "(I)C"⟩ : MethodName)) (z := (⟨"java/lang/String", "charAt", "(I)C"⟩ : MethodName)) hown (mvT hZ (own_w hw 40 rfl)) (mvT hZ (own_w hw 41 rfl)) (own_notface (args := #[]) (mvT hZ (own_w hw 43 rfl)) rfl) (mvT hZ (own_w hw 43 rfl)) (mvT hZ (own_w hw 42 rfl)) (by decide) (backOf (W := 0) (rm_ca l Z a0 hw [] xx tt cs ii chx gc gs h0 n0 (Nat.le_trans Z0 K0.1) F_x hin hi0 hi1 hv hi2 hj1 hj2 hv1 hv2 S_F hgs S_C hcs O0 S_A S_H S_L) hZ (own_w hw 44 rfl) (own_w hw 9 rfl) (by decide) (by decide)) qa335 qc335 (g := (mkF m 2 #[.val (.ref xx), .val (.int ii)] [(.int ii), (.ref xx)])) rfl (by rw [hml]; rfl) (Steps.refl _) (argsL := [(.int ii)]) (rest := []) (lenOf pd_22 rfl) rfl (by show 2 * 0 + _ ≤ _; exact Nat.le_of_eq rfl) (hb hby d8_2) (fun _ _ => ⟨rfl, e0, (by decide : 0 + 0 ≤ _), (by decide : 0 + 0 ≤ _)⟩)
  dsimp only [Pt.U, Pt.locs, Pt.cells, Pt.slots] at X335 l335 y335 z335 st335 hQ335
  subst l335 y335 z335
  obtain ⟨rfl, N335q, e335⟩ := hQ335
  have N335 := Fr.app N0 N335q
  refine own_go (fun _ q => st335.trans q) ?_
  refine own_go (fun _ q => XS.bipush X335.here hx rfl (hb hby d8_5) q) ?_
  show own_Fin _ _ _ _ (T335.setTop (mkF m 7 #[.val (.ref xx), .val (.int ii)] [(.int (37 : Int32)), (.int chx)]))
  by_cases hc336 : chx = (37 : Int32)
  · skip
    refine own_go (fun _ q => XS.icmpNo X335.here hx rfl (hb hby d8_7) rfl (teq hc336).2 q) ?_
    refine own_go (fun _ q => XS.iloadN X335.here hx rfl (hb hby d8_10) rfl q) ?_
    refine own_go (fun _ q => XS.iconst X335.here hx rfl (hb hby d8_11) q) ?_
    show own_Fin _ _ _ _ (T335.setTop (mkF m 12 #[.val (.ref xx), .val (.int ii)] [(.int (2 : Int32)), (.int ii)]))
    refine own_go (fun _ q => XS.iadd X335.here hx rfl (hb hby d8_12) rfl q) ?_
    refine own_go (fun _ q => XS.aloadN X335.here hx rfl (hb hby d8_13) rfl rfl q) ?_
    show own_Fin _ _ _ _ (T335.setTop (mkF m 14 #[.val (.ref xx), .val (.int ii)] [(.ref xx), (.int (ii + (2 : Int32)))]))
    obtain ⟨cq337, kq337, qa337, qb337, qc337⟩ := isOf hZ e335 F_x.exa
    obtain ⟨_, _, ⟨T337, L337, k337, n337⟩, -, X337, ⟨Lc337, hQ337, l337, y337, z337⟩, st337⟩ := X335.virtualBack hx (y := (⟨"java/lang/String", "length", "()I"⟩ : MethodName)) (z := (⟨"java/lang/String", "length", "()I"⟩ : MethodName)) hown (mvT hZ (own_w hw 91 rfl)) (mvT hZ (own_w hw 92 rfl)) (own_notface (args := #[]) (mvT hZ (own_w hw 43 rfl)) rfl) (mvT hZ (own_w hw 94 rfl)) (mvT hZ (own_w hw 93 rfl)) (by decide) (backOf (W := 1) (rm_len l Z a0 hw [] xx tt cs gc h0 n0 (Nat.le_trans Z0 K0.1) F_x S_C hcs O0) hZ (own_w hw 95 rfl) (own_w hw 9 rfl) (by decide) (by decide)) qa337 qc337 (g := (mkF m 14 #[.val (.ref xx), .val (.int ii)] [(.ref xx), (.int (ii + (2 : Int32)))])) rfl (by rw [hml]; rfl) (Steps.refl _) (argsL := []) (rest := [(.int (ii + (2 : Int32)))]) (lenOf pd_23 rfl) rfl (by show 2 * 0 + _ ≤ _; exact Nat.le_of_eq rfl) (hb hby d8_14) (fun _ _ => ⟨rfl, e335, (by decide : 0 + 0 ≤ _), (by decide : 0 + 0 ≤ _)⟩)
    dsimp only [Pt.U, Pt.locs, Pt.cells, Pt.slots] at X337 l337 y337 z337 st337 hQ337
    subst l337 y337 z337
    obtain ⟨rfl, N337q, e337⟩ := hQ337
    have N337 := Fr.app N335 N337q
    refine own_go (fun _ q => st337.trans q) ?_
    show own_Fin _ _ _ _ (T337.setTop (mkF m 17 #[.val (.ref xx), .val (.int ii)] [(.int (Int32.ofNat cs.length)), (.int (ii + (2 : Int32)))]))
    refine own_go (fun _ q => XS.icmpYes X337.here hx rfl (pc0 := 17) (pc' := 50) rfl (hb hby d8_17) rfl (flt hge).2.1 (by decide) (by decide) q) ?_
    refine own_go (fun _ q => XS.iconst X337.here hx rfl (hb hby d8_50) q) ?_
    show own_Fin _ _ _ _ (T337.setTop (mkF m 51 #[.val (.ref xx), .val (.int ii)] [(.int (0 : Int32))]))
    refine own_retI X337 hx Bd (t := .boolean) Bd.returns rfl (by simp) (hb hby d8_51) ?_ (by decide) (by decide)
    show (Q_rm_ie0 Z xx tt cs ii chx gc gs h0 n0) (some (.int (0 : Int32))) T337.heap _
    rw [e337]
    exact ⟨rfl, N337, rfl⟩
  · skip
    refine own_go (fun _ q => XS.icmpYes X335.here hx rfl (pc0 := 7) (pc' := 50) rfl (hb hby d8_7) rfl (feq hc336).2 (by decide) (by decide) q) ?_
    refine own_go (fun _ q => XS.iconst X335.here hx rfl (hb hby d8_50) q) ?_
    show own_Fin _ _ _ _ (T335.setTop (mkF m 51 #[.val (.ref xx), .val (.int ii)] [(.int (0 : Int32))]))
    refine own_retI X335 hx Bd (t := .boolean) Bd.returns rfl (by simp) (hb hby d8_51) ?_ (by decide) (by decide)
    show (Q_rm_ie0 Z xx tt cs ii chx gc gs h0 n0) (some (.int (0 : Int32))) T335.heap _
    rw [e335]
    exact ⟨rfl, N335, rfl⟩
def Q_rm_ie3_0 (Z : State) (xx : Addr) (tt : Addr) (ch0 : Int32) (ch1 : Int32) (ch2 : Int32) (gc : Int32) (gs : Value) (dg : Addr) (kg : ClassId) (h0 : Heap) (n0 : Nat) (v : Option Value) (h : Heap) (L : List Loc) : Prop := ∃ z : Int32, v = some (.int z) ∧ Fr n0 L ∧ h = h0 ∧ ((z = 1 ∧ (ch0 = (37 : Int32) ∧ own_hex ch1 ∧ own_hex ch2)) ∨ (z = 0 ∧ ¬ (ch0 = (37 : Int32) ∧ own_hex ch1 ∧ own_hex ch2)))
theorem ef_rm_ie3_0 (m : MethodId) (xx : Addr) (tt : Addr) (ch0 : Int32) (ch1 : Int32) (ch2 : Int32) (gc : Int32) (gs : Value) (dg : Addr) : entryFrame m #[(.ref xx), (.int (0 : Int32))] 2 = mkF m 0 #[.val (.ref xx), .val (.int (0 : Int32))] [] := by first | (simp [entryFrame, mkF, argsToLocals, Value.category]; done) | rfl
set_option maxRecDepth 65536 in
set_option maxHeartbeats 40000000 in
theorem rm_ie3_0 (l : Launch) (Z : State) (a0 : Array Value) (hw : ∀ d ∈ tables_1, d.before a0 Z = true) (ws : List Jvm.Cond) (xx : Addr) (tt : Addr) (ch0 : Int32) (ch1 : Int32) (ch2 : Int32) (gc : Int32) (gs : Value) (dg : Addr) (kg : ClassId) (h0 : Heap) (n0 : Nat) (Z0 : n0 ≤ h0.size) (F_x : own_Str Z h0 xx tt ([ch0, ch1, ch2] : List Int32)) (hbd : ∀ c ∈ ([ch0, ch1, ch2] : List Int32), ¬ c < 0 ∧ ¬ (65535 : Int32) < c) (S_D : Sta Z Z.heap "java/util/HexFormat" "DIGITS" "[B" (.ref dg)) (V_dg : Arv Z Z.heap dg kg .byte (256 : Int32) own_dvs (.int (0 : Int32))) (S_F : Sta Z Z.heap "jdk/internal/util/Preconditions" "SIOOBE_FORMATTER" "Ljava/util/function/BiFunction;" gs) (hgs : gs.isRef = true) (S_C : Sta Z Z.heap "java/lang/String" "COMPACT_STRINGS" "Z" (.int gc)) (hcs : ¬ gc = 0) (O0 : Old Z n0 h0) (S_A : Sta Z Z.heap "java/lang/StringUTF16" "$assertionsDisabled" "Z" (.int (1 : Int32))) (S_H : Sta Z Z.heap "java/lang/StringUTF16" "HI_BYTE_SHIFT" "I" (.int (0 : Int32))) (S_L : Sta Z Z.heap "java/lang/StringUTF16" "LO_BYTE_SHIFT" "I" (.int (8 : Int32))) :
    MetFree l (⟨"com/example/iron_satchel/ironsatchel/PercentEncoding", "isEscapeAt", "(Ljava/lang/String;I)Z"⟩ : MethodName) (head1 (Jvm.Cond.code (⟨"com/example/iron_satchel/ironsatchel/PercentEncoding", "isEscapeAt", "(Ljava/lang/String;I)Z"⟩ : MethodName) prog_13_method_3_code 2 (some .boolean) :: ws) ({ frames := 5, cells := 0, slots := 0, locals := 66 } : Room)) (fun a_ U_ => a_ = #[(.ref xx), (.int (0 : Int32))] ∧ Z.Warmed39 U_.vm ∧ U_.heap = h0) (fun _ _ _ _ _ => True) (fun _ U_ o_ V_ => ∃ v_ L_, o_ = .returned v_ ∧ (Q_rm_ie3_0 Z xx tt ch0 ch1 ch2 gc gs dg kg h0 n0) v_ V_.heap L_ ∧ FrameEnd U_ o_ V_ L_ ({ frames := 5, cells := 0, slots := 0, locals := 66 } : Room).cells ({ frames := 5, cells := 0, slots := 0, locals := 66 } : Room).slots) := by
  refine MetFree.of_bodySF (plainFor_of_name pn_21) hisR ?_
  intro p e s m args below meth c s₁ Bd hml0 hP hK
  obtain ⟨rfl, hZ, hh⟩ := hP
  have hx := Bd.exec
  have hby := Bd.bytes
  have hml : c.maxLocals = 2 := hml0
  have hown : s.vm.findClass "com/example/iron_satchel/ironsatchel/PercentEncoding" = some m.cls := findClass_of_methodNamed Bd.named
  have hnm := (name_of_methodNamed Bd.named Bd.method).1
  have X0 : Stand p l e ({ frames := 5, cells := 0, slots := 0, locals := 66 } : Room) s m #[(.ref xx), (.int (0 : Int32))] below meth c s₁ [] 0 0 := Stand.of_body Bd
  have e0 : s₁.heap = h0 := by rw [← hh, Bd.state]; rfl
  have N0 := Fr.nil n0
  have K0 : Keep h0 h0 [] := Keep.refl _ _
  show own_Fin p.tables e below (own_Post (Q_rm_ie3_0 Z xx tt ch0 ch1 ch2 gc gs dg kg h0 n0) ({ frames := 5, cells := 0, slots := 0, locals := 66 } : Room).cells ({ frames := 5, cells := 0, slots := 0, locals := 66 } : Room).slots below s) _
  refine own_go (fun _ q => castTop (ef_rm_ie3_0 m xx tt ch0 ch1 ch2 gc gs dg) q) ?_
  refine own_go (fun _ q => XS.aloadN X0.here hx rfl (hb hby d8_0) rfl rfl q) ?_
  refine own_go (fun _ q => XS.iloadN X0.here hx rfl (hb hby d8_1) rfl q) ?_
  show own_Fin _ _ _ _ (s₁.setTop (mkF m 2 #[.val (.ref xx), .val (.int (0 : Int32))] [(.int (0 : Int32)), (.ref xx)]))
  obtain ⟨cq338, kq338, qa338, qb338, qc338⟩ := isOf hZ e0 F_x.exa
  obtain ⟨_, _, ⟨T338, L338, k338, n338⟩, -, X338, ⟨Lc338, hQ338, l338, y338, z338⟩, st338⟩ := X0.virtualBack hx (y := (⟨"java/lang/String", "charAt", "(I)C"⟩ : MethodName)) (z := (⟨"java/lang/String", "charAt", "(I)C"⟩ : MethodName)) hown (mvT hZ (own_w hw 40 rfl)) (mvT hZ (own_w hw 41 rfl)) (own_notface (args := #[]) (mvT hZ (own_w hw 43 rfl)) rfl) (mvT hZ (own_w hw 43 rfl)) (mvT hZ (own_w hw 42 rfl)) (by decide) (backOf (W := 0) (rm_ca l Z a0 hw [] xx tt ([ch0, ch1, ch2] : List Int32) (0 : Int32) ch0 gc gs h0 n0 (Nat.le_trans Z0 K0.1) F_x (own_m 0 rfl) (by decide) (by show (0 : Int32) < (3 : Int32); decide) rfl (by show (0 : Int32) < ((6 : Int32) >>> ((1 : Int32) &&& 31)); decide) (by show ¬ ((0 : Int32) <<< ((1 : Int32) &&& 31)) < 0 ∧ ((0 : Int32) <<< ((1 : Int32) &&& 31)) < (6 : Int32); decide) (by show ¬ (((0 : Int32) <<< ((1 : Int32) &&& 31)) + (1 : Int32)) < 0 ∧ (((0 : Int32) <<< ((1 : Int32) &&& 31)) + (1 : Int32)) < (6 : Int32); decide) rfl rfl S_F hgs S_C hcs O0 S_A S_H S_L) hZ (own_w hw 44 rfl) (own_w hw 9 rfl) (by decide) (by decide)) qa338 qc338 (g := (mkF m 2 #[.val (.ref xx), .val (.int (0 : Int32))] [(.int (0 : Int32)), (.ref xx)])) rfl (by rw [hml]; rfl) (Steps.refl _) (argsL := [(.int (0 : Int32))]) (rest := []) (lenOf pd_22 rfl) rfl (by show 2 * 0 + _ ≤ _; exact Nat.le_of_eq rfl) (hb hby d8_2) (fun _ _ => ⟨rfl, e0, (by decide : 0 + 0 ≤ _), (by decide : 0 + 0 ≤ _)⟩)
  dsimp only [Pt.U, Pt.locs, Pt.cells, Pt.slots] at X338 l338 y338 z338 st338 hQ338
  subst l338 y338 z338
  obtain ⟨rfl, N338q, e338⟩ := hQ338
  have N338 := Fr.app N0 N338q
  refine own_go (fun _ q => st338.trans q) ?_
  refine own_go (fun _ q => XS.bipush X338.here hx rfl (hb hby d8_5) q) ?_
  show own_Fin _ _ _ _ (T338.setTop (mkF m 7 #[.val (.ref xx), .val (.int (0 : Int32))] [(.int (37 : Int32)), (.int ch0)]))
  by_cases hc339 : ch0 = (37 : Int32)
  · skip
    refine own_go (fun _ q => XS.icmpNo X338.here hx rfl (hb hby d8_7) rfl (teq hc339).2 q) ?_
    refine own_go (fun _ q => XS.iloadN X338.here hx rfl (hb hby d8_10) rfl q) ?_
    refine own_go (fun _ q => XS.iconst X338.here hx rfl (hb hby d8_11) q) ?_
    show own_Fin _ _ _ _ (T338.setTop (mkF m 12 #[.val (.ref xx), .val (.int (0 : Int32))] [(.int (2 : Int32)), (.int (0 : Int32))]))
    refine own_go (fun _ q => XS.iadd X338.here hx rfl (hb hby d8_12) rfl q) ?_
    refine own_go (fun _ q => XS.aloadN X338.here hx rfl (hb hby d8_13) rfl rfl q) ?_
    show own_Fin _ _ _ _ (T338.setTop (mkF m 14 #[.val (.ref xx), .val (.int (0 : Int32))] [(.ref xx), (.int (2 : Int32))]))
    obtain ⟨cq340, kq340, qa340, qb340, qc340⟩ := isOf hZ e338 F_x.exa
    obtain ⟨_, _, ⟨T340, L340, k340, n340⟩, -, X340, ⟨Lc340, hQ340, l340, y340, z340⟩, st340⟩ := X338.virtualBack hx (y := (⟨"java/lang/String", "length", "()I"⟩ : MethodName)) (z := (⟨"java/lang/String", "length", "()I"⟩ : MethodName)) hown (mvT hZ (own_w hw 91 rfl)) (mvT hZ (own_w hw 92 rfl)) (own_notface (args := #[]) (mvT hZ (own_w hw 43 rfl)) rfl) (mvT hZ (own_w hw 94 rfl)) (mvT hZ (own_w hw 93 rfl)) (by decide) (backOf (W := 1) (rm_len l Z a0 hw [] xx tt ([ch0, ch1, ch2] : List Int32) gc h0 n0 (Nat.le_trans Z0 K0.1) F_x S_C hcs O0) hZ (own_w hw 95 rfl) (own_w hw 9 rfl) (by decide) (by decide)) qa340 qc340 (g := (mkF m 14 #[.val (.ref xx), .val (.int (0 : Int32))] [(.ref xx), (.int (2 : Int32))])) rfl (by rw [hml]; rfl) (Steps.refl _) (argsL := []) (rest := [(.int (2 : Int32))]) (lenOf pd_23 rfl) rfl (by show 2 * 0 + _ ≤ _; exact Nat.le_of_eq rfl) (hb hby d8_14) (fun _ _ => ⟨rfl, e338, (by decide : 0 + 0 ≤ _), (by decide : 0 + 0 ≤ _)⟩)
    dsimp only [Pt.U, Pt.locs, Pt.cells, Pt.slots] at X340 l340 y340 z340 st340 hQ340
    subst l340 y340 z340
    obtain ⟨rfl, N340q, e340⟩ := hQ340
    have N340 := Fr.app N338 N340q
    refine own_go (fun _ q => st340.trans q) ?_
    show own_Fin _ _ _ _ (T340.setTop (mkF m 17 #[.val (.ref xx), .val (.int (0 : Int32))] [(.int (3 : Int32)), (.int (2 : Int32))]))
    refine own_go (fun _ q => XS.icmpNo X340.here hx rfl (hb hby d8_17) rfl (tlt (by decide : (2 : Int32) < (3 : Int32))).2.1 q) ?_
    refine own_go (fun _ q => XS.aloadN X340.here hx rfl (hb hby d8_20) rfl rfl q) ?_
    refine own_go (fun _ q => XS.iloadN X340.here hx rfl (hb hby d8_21) rfl q) ?_
    refine own_go (fun _ q => XS.iconst X340.here hx rfl (hb hby d8_22) q) ?_
    show own_Fin _ _ _ _ (T340.setTop (mkF m 23 #[.val (.ref xx), .val (.int (0 : Int32))] [(.int (1 : Int32)), (.int (0 : Int32)), (.ref xx)]))
    refine own_go (fun _ q => XS.iadd X340.here hx rfl (hb hby d8_23) rfl q) ?_
    show own_Fin _ _ _ _ (T340.setTop (mkF m 24 #[.val (.ref xx), .val (.int (0 : Int32))] [(.int (1 : Int32)), (.ref xx)]))
    obtain ⟨cq341, kq341, qa341, qb341, qc341⟩ := isOf hZ e340 F_x.exa
    obtain ⟨_, _, ⟨T341, L341, k341, n341⟩, -, X341, ⟨Lc341, hQ341, l341, y341, z341⟩, st341⟩ := X340.virtualBack hx (y := (⟨"java/lang/String", "charAt", "(I)C"⟩ : MethodName)) (z := (⟨"java/lang/String", "charAt", "(I)C"⟩ : MethodName)) hown (mvT hZ (own_w hw 40 rfl)) (mvT hZ (own_w hw 41 rfl)) (own_notface (args := #[]) (mvT hZ (own_w hw 43 rfl)) rfl) (mvT hZ (own_w hw 43 rfl)) (mvT hZ (own_w hw 42 rfl)) (by decide) (backOf (W := 0) (rm_ca l Z a0 hw [] xx tt ([ch0, ch1, ch2] : List Int32) (1 : Int32) ch1 gc gs h0 n0 (Nat.le_trans Z0 K0.1) F_x (own_m 1 rfl) (by decide) (by show (1 : Int32) < (3 : Int32); decide) rfl (by show (1 : Int32) < ((6 : Int32) >>> ((1 : Int32) &&& 31)); decide) (by show ¬ ((1 : Int32) <<< ((1 : Int32) &&& 31)) < 0 ∧ ((1 : Int32) <<< ((1 : Int32) &&& 31)) < (6 : Int32); decide) (by show ¬ (((1 : Int32) <<< ((1 : Int32) &&& 31)) + (1 : Int32)) < 0 ∧ (((1 : Int32) <<< ((1 : Int32) &&& 31)) + (1 : Int32)) < (6 : Int32); decide) rfl rfl S_F hgs S_C hcs O0 S_A S_H S_L) hZ (own_w hw 44 rfl) (own_w hw 9 rfl) (by decide) (by decide)) qa341 qc341 (g := (mkF m 24 #[.val (.ref xx), .val (.int (0 : Int32))] [(.int (1 : Int32)), (.ref xx)])) rfl (by rw [hml]; rfl) (Steps.refl _) (argsL := [(.int (1 : Int32))]) (rest := []) (lenOf pd_22 rfl) rfl (by show 2 * 0 + _ ≤ _; exact Nat.le_of_eq rfl) (hb hby d8_24) (fun _ _ => ⟨rfl, e340, (by decide : 0 + 0 ≤ _), (by decide : 0 + 0 ≤ _)⟩)
    dsimp only [Pt.U, Pt.locs, Pt.cells, Pt.slots] at X341 l341 y341 z341 st341 hQ341
    subst l341 y341 z341
    obtain ⟨rfl, N341q, e341⟩ := hQ341
    have N341 := Fr.app N340 N341q
    refine own_go (fun _ q => st341.trans q) ?_
    show own_Fin _ _ _ _ (T341.setTop (mkF m 27 #[.val (.ref xx), .val (.int (0 : Int32))] [(.int ch1)]))
    obtain ⟨_, _, ⟨T342, L342, k342, n342⟩, -, X342, ⟨Lc342, hQ342, l342, y342, z342⟩, st342⟩ := Jvm.LawKit.callS X341 hx (y := (⟨"java/util/HexFormat", "isHexDigit", "(I)Z"⟩ : MethodName)) hown (mvT hZ (own_w hw 104 rfl)) (mvT hZ (own_w hw 105 rfl)) (mvT hZ (own_w hw 106 rfl)) (mvT hZ (own_w hw 107 rfl)) (by decide) (backOf (W := 0) (rm_hd l Z a0 hw [] ch1 dg kg h0 n0 (Nat.le_trans Z0 K0.1) (hbd _ (own_m 1 rfl)) S_D V_dg O0) hZ (own_w hw 107 rfl) (own_w hw 106 rfl) (by decide) (by decide)) (g := (mkF m 27 #[.val (.ref xx), .val (.int (0 : Int32))] [(.int ch1)])) rfl (by rw [hml]; rfl) (argsL := [(.int ch1)]) (rest := []) (lenOf pd_24 rfl) rfl (by show 2 * 0 + _ ≤ _; exact Nat.le_of_eq rfl) (hb hby d8_27) (fun _ _ => ⟨rfl, e341, (by decide : 0 + 0 ≤ _), (by decide : 0 + 0 ≤ _)⟩)
    dsimp only [Pt.U, Pt.locs, Pt.cells, Pt.slots] at X342 l342 y342 z342 st342 hQ342
    subst l342 y342 z342
    obtain ⟨z342, rfl, N342q, e342, hz342⟩ := hQ342
    have N342 := Fr.app N341 N342q
    rcases hz342 with ⟨rfl, hh342⟩ | ⟨rfl, hh342⟩
    · skip
      refine own_go st342 ?_
      show own_Fin _ _ _ _ (T342.setTop (mkF m 30 #[.val (.ref xx), .val (.int (0 : Int32))] [(.int (1 : Int32))]))
      refine own_go (fun _ q => XS.ifNo X342.here hx rfl (hb hby d8_30) rfl ((if0 _ _).trans (feq (by decide : ¬ (1 : Int32) = (0 : Int32))).1) q) ?_
      refine own_go (fun _ q => XS.aloadN X342.here hx rfl (hb hby d8_33) rfl rfl q) ?_
      refine own_go (fun _ q => XS.iloadN X342.here hx rfl (hb hby d8_34) rfl q) ?_
      refine own_go (fun _ q => XS.iconst X342.here hx rfl (hb hby d8_35) q) ?_
      show own_Fin _ _ _ _ (T342.setTop (mkF m 36 #[.val (.ref xx), .val (.int (0 : Int32))] [(.int (2 : Int32)), (.int (0 : Int32)), (.ref xx)]))
      refine own_go (fun _ q => XS.iadd X342.here hx rfl (hb hby d8_36) rfl q) ?_
      show own_Fin _ _ _ _ (T342.setTop (mkF m 37 #[.val (.ref xx), .val (.int (0 : Int32))] [(.int (2 : Int32)), (.ref xx)]))
      obtain ⟨cq343, kq343, qa343, qb343, qc343⟩ := isOf hZ e342 F_x.exa
      obtain ⟨_, _, ⟨T343, L343, k343, n343⟩, -, X343, ⟨Lc343, hQ343, l343, y343, z343⟩, st343⟩ := X342.virtualBack hx (y := (⟨"java/lang/String", "charAt", "(I)C"⟩ : MethodName)) (z := (⟨"java/lang/String", "charAt", "(I)C"⟩ : MethodName)) hown (mvT hZ (own_w hw 40 rfl)) (mvT hZ (own_w hw 41 rfl)) (own_notface (args := #[]) (mvT hZ (own_w hw 43 rfl)) rfl) (mvT hZ (own_w hw 43 rfl)) (mvT hZ (own_w hw 42 rfl)) (by decide) (backOf (W := 0) (rm_ca l Z a0 hw [] xx tt ([ch0, ch1, ch2] : List Int32) (2 : Int32) ch2 gc gs h0 n0 (Nat.le_trans Z0 K0.1) F_x (own_m 2 rfl) (by decide) (by show (2 : Int32) < (3 : Int32); decide) rfl (by show (2 : Int32) < ((6 : Int32) >>> ((1 : Int32) &&& 31)); decide) (by show ¬ ((2 : Int32) <<< ((1 : Int32) &&& 31)) < 0 ∧ ((2 : Int32) <<< ((1 : Int32) &&& 31)) < (6 : Int32); decide) (by show ¬ (((2 : Int32) <<< ((1 : Int32) &&& 31)) + (1 : Int32)) < 0 ∧ (((2 : Int32) <<< ((1 : Int32) &&& 31)) + (1 : Int32)) < (6 : Int32); decide) rfl rfl S_F hgs S_C hcs O0 S_A S_H S_L) hZ (own_w hw 44 rfl) (own_w hw 9 rfl) (by decide) (by decide)) qa343 qc343 (g := (mkF m 37 #[.val (.ref xx), .val (.int (0 : Int32))] [(.int (2 : Int32)), (.ref xx)])) rfl (by rw [hml]; rfl) (Steps.refl _) (argsL := [(.int (2 : Int32))]) (rest := []) (lenOf pd_22 rfl) rfl (by show 2 * 0 + _ ≤ _; exact Nat.le_of_eq rfl) (hb hby d8_37) (fun _ _ => ⟨rfl, e342, (by decide : 0 + 0 ≤ _), (by decide : 0 + 0 ≤ _)⟩)
      dsimp only [Pt.U, Pt.locs, Pt.cells, Pt.slots] at X343 l343 y343 z343 st343 hQ343
      subst l343 y343 z343
      obtain ⟨rfl, N343q, e343⟩ := hQ343
      have N343 := Fr.app N342 N343q
      refine own_go (fun _ q => st343.trans q) ?_
      show own_Fin _ _ _ _ (T343.setTop (mkF m 40 #[.val (.ref xx), .val (.int (0 : Int32))] [(.int ch2)]))
      obtain ⟨_, _, ⟨T344, L344, k344, n344⟩, -, X344, ⟨Lc344, hQ344, l344, y344, z344⟩, st344⟩ := Jvm.LawKit.callS X343 hx (y := (⟨"java/util/HexFormat", "isHexDigit", "(I)Z"⟩ : MethodName)) hown (mvT hZ (own_w hw 104 rfl)) (mvT hZ (own_w hw 105 rfl)) (mvT hZ (own_w hw 106 rfl)) (mvT hZ (own_w hw 107 rfl)) (by decide) (backOf (W := 0) (rm_hd l Z a0 hw [] ch2 dg kg h0 n0 (Nat.le_trans Z0 K0.1) (hbd _ (own_m 2 rfl)) S_D V_dg O0) hZ (own_w hw 107 rfl) (own_w hw 106 rfl) (by decide) (by decide)) (g := (mkF m 40 #[.val (.ref xx), .val (.int (0 : Int32))] [(.int ch2)])) rfl (by rw [hml]; rfl) (argsL := [(.int ch2)]) (rest := []) (lenOf pd_24 rfl) rfl (by show 2 * 0 + _ ≤ _; exact Nat.le_of_eq rfl) (hb hby d8_40) (fun _ _ => ⟨rfl, e343, (by decide : 0 + 0 ≤ _), (by decide : 0 + 0 ≤ _)⟩)
      dsimp only [Pt.U, Pt.locs, Pt.cells, Pt.slots] at X344 l344 y344 z344 st344 hQ344
      subst l344 y344 z344
      obtain ⟨z344, rfl, N344q, e344, hz344⟩ := hQ344
      have N344 := Fr.app N343 N344q
      rcases hz344 with ⟨rfl, hh344⟩ | ⟨rfl, hh344⟩
      · skip
        refine own_go st344 ?_
        show own_Fin _ _ _ _ (T344.setTop (mkF m 43 #[.val (.ref xx), .val (.int (0 : Int32))] [(.int (1 : Int32))]))
        refine own_go (fun _ q => XS.ifNo X344.here hx rfl (hb hby d8_43) rfl ((if0 _ _).trans (feq (by decide : ¬ (1 : Int32) = (0 : Int32))).1) q) ?_
        refine own_go (fun _ q => XS.iconst X344.here hx rfl (hb hby d8_46) q) ?_
        refine own_go (fun _ q => XS.goto X344.here hx rfl (pc0 := 47) (pc' := 51) rfl (hb hby d8_47) (by decide) (by decide) q) ?_
        show own_Fin _ _ _ _ (T344.setTop (mkF m 51 #[.val (.ref xx), .val (.int (0 : Int32))] [(.int (1 : Int32))]))
        refine own_retI X344 hx Bd (t := .boolean) Bd.returns rfl (by simp) (hb hby d8_51) ?_ (by decide) (by decide)
        show (Q_rm_ie3_0 Z xx tt ch0 ch1 ch2 gc gs dg kg h0 n0) (some (.int (1 : Int32))) T344.heap _
        rw [e344]
        exact ⟨_, rfl, N344, rfl, Or.inl ⟨rfl, hc339, hh342, hh344⟩⟩
      · skip
        refine own_go st344 ?_
        show own_Fin _ _ _ _ (T344.setTop (mkF m 43 #[.val (.ref xx), .val (.int (0 : Int32))] [(.int (0 : Int32))]))
        refine own_go (fun _ q => XS.ifYes X344.here hx rfl (pc0 := 43) (pc' := 50) rfl (hb hby d8_43) rfl ((if0 _ _).trans (teq (by decide : (0 : Int32) = (0 : Int32))).1) (by decide) (by decide) q) ?_
        refine own_go (fun _ q => XS.iconst X344.here hx rfl (hb hby d8_50) q) ?_
        show own_Fin _ _ _ _ (T344.setTop (mkF m 51 #[.val (.ref xx), .val (.int (0 : Int32))] [(.int (0 : Int32))]))
        refine own_retI X344 hx Bd (t := .boolean) Bd.returns rfl (by simp) (hb hby d8_51) ?_ (by decide) (by decide)
        show (Q_rm_ie3_0 Z xx tt ch0 ch1 ch2 gc gs dg kg h0 n0) (some (.int (0 : Int32))) T344.heap _
        rw [e344]
        exact ⟨_, rfl, N344, rfl, Or.inr ⟨rfl, fun q => hh344 q.2.2⟩⟩
    · skip
      refine own_go st342 ?_
      show own_Fin _ _ _ _ (T342.setTop (mkF m 30 #[.val (.ref xx), .val (.int (0 : Int32))] [(.int (0 : Int32))]))
      refine own_go (fun _ q => XS.ifYes X342.here hx rfl (pc0 := 30) (pc' := 50) rfl (hb hby d8_30) rfl ((if0 _ _).trans (teq (by decide : (0 : Int32) = (0 : Int32))).1) (by decide) (by decide) q) ?_
      refine own_go (fun _ q => XS.iconst X342.here hx rfl (hb hby d8_50) q) ?_
      show own_Fin _ _ _ _ (T342.setTop (mkF m 51 #[.val (.ref xx), .val (.int (0 : Int32))] [(.int (0 : Int32))]))
      refine own_retI X342 hx Bd (t := .boolean) Bd.returns rfl (by simp) (hb hby d8_51) ?_ (by decide) (by decide)
      show (Q_rm_ie3_0 Z xx tt ch0 ch1 ch2 gc gs dg kg h0 n0) (some (.int (0 : Int32))) T342.heap _
      rw [e342]
      exact ⟨_, rfl, N342, rfl, Or.inr ⟨rfl, fun q => hh342 q.2.1⟩⟩
  · skip
    refine own_go (fun _ q => XS.icmpYes X338.here hx rfl (pc0 := 7) (pc' := 50) rfl (hb hby d8_7) rfl (feq hc339).2 (by decide) (by decide) q) ?_
    refine own_go (fun _ q => XS.iconst X338.here hx rfl (hb hby d8_50) q) ?_
    show own_Fin _ _ _ _ (T338.setTop (mkF m 51 #[.val (.ref xx), .val (.int (0 : Int32))] [(.int (0 : Int32))]))
    refine own_retI X338 hx Bd (t := .boolean) Bd.returns rfl (by simp) (hb hby d8_51) ?_ (by decide) (by decide)
    show (Q_rm_ie3_0 Z xx tt ch0 ch1 ch2 gc gs dg kg h0 n0) (some (.int (0 : Int32))) T338.heap _
    rw [e338]
    exact ⟨_, rfl, N338, rfl, Or.inr ⟨rfl, fun q => hc339 q.1⟩⟩
def Q_rm_ie4_0 (Z : State) (xx : Addr) (tt : Addr) (ch0 : Int32) (ch1 : Int32) (ch2 : Int32) (ch3 : Int32) (gc : Int32) (gs : Value) (dg : Addr) (kg : ClassId) (h0 : Heap) (n0 : Nat) (v : Option Value) (h : Heap) (L : List Loc) : Prop := ∃ z : Int32, v = some (.int z) ∧ Fr n0 L ∧ h = h0 ∧ ((z = 1 ∧ (ch0 = (37 : Int32) ∧ own_hex ch1 ∧ own_hex ch2)) ∨ (z = 0 ∧ ¬ (ch0 = (37 : Int32) ∧ own_hex ch1 ∧ own_hex ch2)))
theorem ef_rm_ie4_0 (m : MethodId) (xx : Addr) (tt : Addr) (ch0 : Int32) (ch1 : Int32) (ch2 : Int32) (ch3 : Int32) (gc : Int32) (gs : Value) (dg : Addr) : entryFrame m #[(.ref xx), (.int (0 : Int32))] 2 = mkF m 0 #[.val (.ref xx), .val (.int (0 : Int32))] [] := by first | (simp [entryFrame, mkF, argsToLocals, Value.category]; done) | rfl
set_option maxRecDepth 65536 in
set_option maxHeartbeats 40000000 in
theorem rm_ie4_0 (l : Launch) (Z : State) (a0 : Array Value) (hw : ∀ d ∈ tables_1, d.before a0 Z = true) (ws : List Jvm.Cond) (xx : Addr) (tt : Addr) (ch0 : Int32) (ch1 : Int32) (ch2 : Int32) (ch3 : Int32) (gc : Int32) (gs : Value) (dg : Addr) (kg : ClassId) (h0 : Heap) (n0 : Nat) (Z0 : n0 ≤ h0.size) (F_x : own_Str Z h0 xx tt ([ch0, ch1, ch2, ch3] : List Int32)) (hbd : ∀ c ∈ ([ch0, ch1, ch2, ch3] : List Int32), ¬ c < 0 ∧ ¬ (65535 : Int32) < c) (S_D : Sta Z Z.heap "java/util/HexFormat" "DIGITS" "[B" (.ref dg)) (V_dg : Arv Z Z.heap dg kg .byte (256 : Int32) own_dvs (.int (0 : Int32))) (S_F : Sta Z Z.heap "jdk/internal/util/Preconditions" "SIOOBE_FORMATTER" "Ljava/util/function/BiFunction;" gs) (hgs : gs.isRef = true) (S_C : Sta Z Z.heap "java/lang/String" "COMPACT_STRINGS" "Z" (.int gc)) (hcs : ¬ gc = 0) (O0 : Old Z n0 h0) (S_A : Sta Z Z.heap "java/lang/StringUTF16" "$assertionsDisabled" "Z" (.int (1 : Int32))) (S_H : Sta Z Z.heap "java/lang/StringUTF16" "HI_BYTE_SHIFT" "I" (.int (0 : Int32))) (S_L : Sta Z Z.heap "java/lang/StringUTF16" "LO_BYTE_SHIFT" "I" (.int (8 : Int32))) :
    MetFree l (⟨"com/example/iron_satchel/ironsatchel/PercentEncoding", "isEscapeAt", "(Ljava/lang/String;I)Z"⟩ : MethodName) (head1 (Jvm.Cond.code (⟨"com/example/iron_satchel/ironsatchel/PercentEncoding", "isEscapeAt", "(Ljava/lang/String;I)Z"⟩ : MethodName) prog_13_method_3_code 2 (some .boolean) :: ws) ({ frames := 5, cells := 0, slots := 0, locals := 66 } : Room)) (fun a_ U_ => a_ = #[(.ref xx), (.int (0 : Int32))] ∧ Z.Warmed39 U_.vm ∧ U_.heap = h0) (fun _ _ _ _ _ => True) (fun _ U_ o_ V_ => ∃ v_ L_, o_ = .returned v_ ∧ (Q_rm_ie4_0 Z xx tt ch0 ch1 ch2 ch3 gc gs dg kg h0 n0) v_ V_.heap L_ ∧ FrameEnd U_ o_ V_ L_ ({ frames := 5, cells := 0, slots := 0, locals := 66 } : Room).cells ({ frames := 5, cells := 0, slots := 0, locals := 66 } : Room).slots) := by
  refine MetFree.of_bodySF (plainFor_of_name pn_21) hisR ?_
  intro p e s m args below meth c s₁ Bd hml0 hP hK
  obtain ⟨rfl, hZ, hh⟩ := hP
  have hx := Bd.exec
  have hby := Bd.bytes
  have hml : c.maxLocals = 2 := hml0
  have hown : s.vm.findClass "com/example/iron_satchel/ironsatchel/PercentEncoding" = some m.cls := findClass_of_methodNamed Bd.named
  have hnm := (name_of_methodNamed Bd.named Bd.method).1
  have X0 : Stand p l e ({ frames := 5, cells := 0, slots := 0, locals := 66 } : Room) s m #[(.ref xx), (.int (0 : Int32))] below meth c s₁ [] 0 0 := Stand.of_body Bd
  have e0 : s₁.heap = h0 := by rw [← hh, Bd.state]; rfl
  have N0 := Fr.nil n0
  have K0 : Keep h0 h0 [] := Keep.refl _ _
  show own_Fin p.tables e below (own_Post (Q_rm_ie4_0 Z xx tt ch0 ch1 ch2 ch3 gc gs dg kg h0 n0) ({ frames := 5, cells := 0, slots := 0, locals := 66 } : Room).cells ({ frames := 5, cells := 0, slots := 0, locals := 66 } : Room).slots below s) _
  refine own_go (fun _ q => castTop (ef_rm_ie4_0 m xx tt ch0 ch1 ch2 ch3 gc gs dg) q) ?_
  refine own_go (fun _ q => XS.aloadN X0.here hx rfl (hb hby d8_0) rfl rfl q) ?_
  refine own_go (fun _ q => XS.iloadN X0.here hx rfl (hb hby d8_1) rfl q) ?_
  show own_Fin _ _ _ _ (s₁.setTop (mkF m 2 #[.val (.ref xx), .val (.int (0 : Int32))] [(.int (0 : Int32)), (.ref xx)]))
  obtain ⟨cq345, kq345, qa345, qb345, qc345⟩ := isOf hZ e0 F_x.exa
  obtain ⟨_, _, ⟨T345, L345, k345, n345⟩, -, X345, ⟨Lc345, hQ345, l345, y345, z345⟩, st345⟩ := X0.virtualBack hx (y := (⟨"java/lang/String", "charAt", "(I)C"⟩ : MethodName)) (z := (⟨"java/lang/String", "charAt", "(I)C"⟩ : MethodName)) hown (mvT hZ (own_w hw 40 rfl)) (mvT hZ (own_w hw 41 rfl)) (own_notface (args := #[]) (mvT hZ (own_w hw 43 rfl)) rfl) (mvT hZ (own_w hw 43 rfl)) (mvT hZ (own_w hw 42 rfl)) (by decide) (backOf (W := 0) (rm_ca l Z a0 hw [] xx tt ([ch0, ch1, ch2, ch3] : List Int32) (0 : Int32) ch0 gc gs h0 n0 (Nat.le_trans Z0 K0.1) F_x (own_m 0 rfl) (by decide) (by show (0 : Int32) < (4 : Int32); decide) rfl (by show (0 : Int32) < ((8 : Int32) >>> ((1 : Int32) &&& 31)); decide) (by show ¬ ((0 : Int32) <<< ((1 : Int32) &&& 31)) < 0 ∧ ((0 : Int32) <<< ((1 : Int32) &&& 31)) < (8 : Int32); decide) (by show ¬ (((0 : Int32) <<< ((1 : Int32) &&& 31)) + (1 : Int32)) < 0 ∧ (((0 : Int32) <<< ((1 : Int32) &&& 31)) + (1 : Int32)) < (8 : Int32); decide) rfl rfl S_F hgs S_C hcs O0 S_A S_H S_L) hZ (own_w hw 44 rfl) (own_w hw 9 rfl) (by decide) (by decide)) qa345 qc345 (g := (mkF m 2 #[.val (.ref xx), .val (.int (0 : Int32))] [(.int (0 : Int32)), (.ref xx)])) rfl (by rw [hml]; rfl) (Steps.refl _) (argsL := [(.int (0 : Int32))]) (rest := []) (lenOf pd_22 rfl) rfl (by show 2 * 0 + _ ≤ _; exact Nat.le_of_eq rfl) (hb hby d8_2) (fun _ _ => ⟨rfl, e0, (by decide : 0 + 0 ≤ _), (by decide : 0 + 0 ≤ _)⟩)
  dsimp only [Pt.U, Pt.locs, Pt.cells, Pt.slots] at X345 l345 y345 z345 st345 hQ345
  subst l345 y345 z345
  obtain ⟨rfl, N345q, e345⟩ := hQ345
  have N345 := Fr.app N0 N345q
  refine own_go (fun _ q => st345.trans q) ?_
  refine own_go (fun _ q => XS.bipush X345.here hx rfl (hb hby d8_5) q) ?_
  show own_Fin _ _ _ _ (T345.setTop (mkF m 7 #[.val (.ref xx), .val (.int (0 : Int32))] [(.int (37 : Int32)), (.int ch0)]))
  by_cases hc346 : ch0 = (37 : Int32)
  · skip
    refine own_go (fun _ q => XS.icmpNo X345.here hx rfl (hb hby d8_7) rfl (teq hc346).2 q) ?_
    refine own_go (fun _ q => XS.iloadN X345.here hx rfl (hb hby d8_10) rfl q) ?_
    refine own_go (fun _ q => XS.iconst X345.here hx rfl (hb hby d8_11) q) ?_
    show own_Fin _ _ _ _ (T345.setTop (mkF m 12 #[.val (.ref xx), .val (.int (0 : Int32))] [(.int (2 : Int32)), (.int (0 : Int32))]))
    refine own_go (fun _ q => XS.iadd X345.here hx rfl (hb hby d8_12) rfl q) ?_
    refine own_go (fun _ q => XS.aloadN X345.here hx rfl (hb hby d8_13) rfl rfl q) ?_
    show own_Fin _ _ _ _ (T345.setTop (mkF m 14 #[.val (.ref xx), .val (.int (0 : Int32))] [(.ref xx), (.int (2 : Int32))]))
    obtain ⟨cq347, kq347, qa347, qb347, qc347⟩ := isOf hZ e345 F_x.exa
    obtain ⟨_, _, ⟨T347, L347, k347, n347⟩, -, X347, ⟨Lc347, hQ347, l347, y347, z347⟩, st347⟩ := X345.virtualBack hx (y := (⟨"java/lang/String", "length", "()I"⟩ : MethodName)) (z := (⟨"java/lang/String", "length", "()I"⟩ : MethodName)) hown (mvT hZ (own_w hw 91 rfl)) (mvT hZ (own_w hw 92 rfl)) (own_notface (args := #[]) (mvT hZ (own_w hw 43 rfl)) rfl) (mvT hZ (own_w hw 94 rfl)) (mvT hZ (own_w hw 93 rfl)) (by decide) (backOf (W := 1) (rm_len l Z a0 hw [] xx tt ([ch0, ch1, ch2, ch3] : List Int32) gc h0 n0 (Nat.le_trans Z0 K0.1) F_x S_C hcs O0) hZ (own_w hw 95 rfl) (own_w hw 9 rfl) (by decide) (by decide)) qa347 qc347 (g := (mkF m 14 #[.val (.ref xx), .val (.int (0 : Int32))] [(.ref xx), (.int (2 : Int32))])) rfl (by rw [hml]; rfl) (Steps.refl _) (argsL := []) (rest := [(.int (2 : Int32))]) (lenOf pd_23 rfl) rfl (by show 2 * 0 + _ ≤ _; exact Nat.le_of_eq rfl) (hb hby d8_14) (fun _ _ => ⟨rfl, e345, (by decide : 0 + 0 ≤ _), (by decide : 0 + 0 ≤ _)⟩)
    dsimp only [Pt.U, Pt.locs, Pt.cells, Pt.slots] at X347 l347 y347 z347 st347 hQ347
    subst l347 y347 z347
    obtain ⟨rfl, N347q, e347⟩ := hQ347
    have N347 := Fr.app N345 N347q
    refine own_go (fun _ q => st347.trans q) ?_
    show own_Fin _ _ _ _ (T347.setTop (mkF m 17 #[.val (.ref xx), .val (.int (0 : Int32))] [(.int (4 : Int32)), (.int (2 : Int32))]))
    refine own_go (fun _ q => XS.icmpNo X347.here hx rfl (hb hby d8_17) rfl (tlt (by decide : (2 : Int32) < (4 : Int32))).2.1 q) ?_
    refine own_go (fun _ q => XS.aloadN X347.here hx rfl (hb hby d8_20) rfl rfl q) ?_
    refine own_go (fun _ q => XS.iloadN X347.here hx rfl (hb hby d8_21) rfl q) ?_
    refine own_go (fun _ q => XS.iconst X347.here hx rfl (hb hby d8_22) q) ?_
    show own_Fin _ _ _ _ (T347.setTop (mkF m 23 #[.val (.ref xx), .val (.int (0 : Int32))] [(.int (1 : Int32)), (.int (0 : Int32)), (.ref xx)]))
    refine own_go (fun _ q => XS.iadd X347.here hx rfl (hb hby d8_23) rfl q) ?_
    show own_Fin _ _ _ _ (T347.setTop (mkF m 24 #[.val (.ref xx), .val (.int (0 : Int32))] [(.int (1 : Int32)), (.ref xx)]))
    obtain ⟨cq348, kq348, qa348, qb348, qc348⟩ := isOf hZ e347 F_x.exa
    obtain ⟨_, _, ⟨T348, L348, k348, n348⟩, -, X348, ⟨Lc348, hQ348, l348, y348, z348⟩, st348⟩ := X347.virtualBack hx (y := (⟨"java/lang/String", "charAt", "(I)C"⟩ : MethodName)) (z := (⟨"java/lang/String", "charAt", "(I)C"⟩ : MethodName)) hown (mvT hZ (own_w hw 40 rfl)) (mvT hZ (own_w hw 41 rfl)) (own_notface (args := #[]) (mvT hZ (own_w hw 43 rfl)) rfl) (mvT hZ (own_w hw 43 rfl)) (mvT hZ (own_w hw 42 rfl)) (by decide) (backOf (W := 0) (rm_ca l Z a0 hw [] xx tt ([ch0, ch1, ch2, ch3] : List Int32) (1 : Int32) ch1 gc gs h0 n0 (Nat.le_trans Z0 K0.1) F_x (own_m 1 rfl) (by decide) (by show (1 : Int32) < (4 : Int32); decide) rfl (by show (1 : Int32) < ((8 : Int32) >>> ((1 : Int32) &&& 31)); decide) (by show ¬ ((1 : Int32) <<< ((1 : Int32) &&& 31)) < 0 ∧ ((1 : Int32) <<< ((1 : Int32) &&& 31)) < (8 : Int32); decide) (by show ¬ (((1 : Int32) <<< ((1 : Int32) &&& 31)) + (1 : Int32)) < 0 ∧ (((1 : Int32) <<< ((1 : Int32) &&& 31)) + (1 : Int32)) < (8 : Int32); decide) rfl rfl S_F hgs S_C hcs O0 S_A S_H S_L) hZ (own_w hw 44 rfl) (own_w hw 9 rfl) (by decide) (by decide)) qa348 qc348 (g := (mkF m 24 #[.val (.ref xx), .val (.int (0 : Int32))] [(.int (1 : Int32)), (.ref xx)])) rfl (by rw [hml]; rfl) (Steps.refl _) (argsL := [(.int (1 : Int32))]) (rest := []) (lenOf pd_22 rfl) rfl (by show 2 * 0 + _ ≤ _; exact Nat.le_of_eq rfl) (hb hby d8_24) (fun _ _ => ⟨rfl, e347, (by decide : 0 + 0 ≤ _), (by decide : 0 + 0 ≤ _)⟩)
    dsimp only [Pt.U, Pt.locs, Pt.cells, Pt.slots] at X348 l348 y348 z348 st348 hQ348
    subst l348 y348 z348
    obtain ⟨rfl, N348q, e348⟩ := hQ348
    have N348 := Fr.app N347 N348q
    refine own_go (fun _ q => st348.trans q) ?_
    show own_Fin _ _ _ _ (T348.setTop (mkF m 27 #[.val (.ref xx), .val (.int (0 : Int32))] [(.int ch1)]))
    obtain ⟨_, _, ⟨T349, L349, k349, n349⟩, -, X349, ⟨Lc349, hQ349, l349, y349, z349⟩, st349⟩ := Jvm.LawKit.callS X348 hx (y := (⟨"java/util/HexFormat", "isHexDigit", "(I)Z"⟩ : MethodName)) hown (mvT hZ (own_w hw 104 rfl)) (mvT hZ (own_w hw 105 rfl)) (mvT hZ (own_w hw 106 rfl)) (mvT hZ (own_w hw 107 rfl)) (by decide) (backOf (W := 0) (rm_hd l Z a0 hw [] ch1 dg kg h0 n0 (Nat.le_trans Z0 K0.1) (hbd _ (own_m 1 rfl)) S_D V_dg O0) hZ (own_w hw 107 rfl) (own_w hw 106 rfl) (by decide) (by decide)) (g := (mkF m 27 #[.val (.ref xx), .val (.int (0 : Int32))] [(.int ch1)])) rfl (by rw [hml]; rfl) (argsL := [(.int ch1)]) (rest := []) (lenOf pd_24 rfl) rfl (by show 2 * 0 + _ ≤ _; exact Nat.le_of_eq rfl) (hb hby d8_27) (fun _ _ => ⟨rfl, e348, (by decide : 0 + 0 ≤ _), (by decide : 0 + 0 ≤ _)⟩)
    dsimp only [Pt.U, Pt.locs, Pt.cells, Pt.slots] at X349 l349 y349 z349 st349 hQ349
    subst l349 y349 z349
    obtain ⟨z349, rfl, N349q, e349, hz349⟩ := hQ349
    have N349 := Fr.app N348 N349q
    rcases hz349 with ⟨rfl, hh349⟩ | ⟨rfl, hh349⟩
    · skip
      refine own_go st349 ?_
      show own_Fin _ _ _ _ (T349.setTop (mkF m 30 #[.val (.ref xx), .val (.int (0 : Int32))] [(.int (1 : Int32))]))
      refine own_go (fun _ q => XS.ifNo X349.here hx rfl (hb hby d8_30) rfl ((if0 _ _).trans (feq (by decide : ¬ (1 : Int32) = (0 : Int32))).1) q) ?_
      refine own_go (fun _ q => XS.aloadN X349.here hx rfl (hb hby d8_33) rfl rfl q) ?_
      refine own_go (fun _ q => XS.iloadN X349.here hx rfl (hb hby d8_34) rfl q) ?_
      refine own_go (fun _ q => XS.iconst X349.here hx rfl (hb hby d8_35) q) ?_
      show own_Fin _ _ _ _ (T349.setTop (mkF m 36 #[.val (.ref xx), .val (.int (0 : Int32))] [(.int (2 : Int32)), (.int (0 : Int32)), (.ref xx)]))
      refine own_go (fun _ q => XS.iadd X349.here hx rfl (hb hby d8_36) rfl q) ?_
      show own_Fin _ _ _ _ (T349.setTop (mkF m 37 #[.val (.ref xx), .val (.int (0 : Int32))] [(.int (2 : Int32)), (.ref xx)]))
      obtain ⟨cq350, kq350, qa350, qb350, qc350⟩ := isOf hZ e349 F_x.exa
      obtain ⟨_, _, ⟨T350, L350, k350, n350⟩, -, X350, ⟨Lc350, hQ350, l350, y350, z350⟩, st350⟩ := X349.virtualBack hx (y := (⟨"java/lang/String", "charAt", "(I)C"⟩ : MethodName)) (z := (⟨"java/lang/String", "charAt", "(I)C"⟩ : MethodName)) hown (mvT hZ (own_w hw 40 rfl)) (mvT hZ (own_w hw 41 rfl)) (own_notface (args := #[]) (mvT hZ (own_w hw 43 rfl)) rfl) (mvT hZ (own_w hw 43 rfl)) (mvT hZ (own_w hw 42 rfl)) (by decide) (backOf (W := 0) (rm_ca l Z a0 hw [] xx tt ([ch0, ch1, ch2, ch3] : List Int32) (2 : Int32) ch2 gc gs h0 n0 (Nat.le_trans Z0 K0.1) F_x (own_m 2 rfl) (by decide) (by show (2 : Int32) < (4 : Int32); decide) rfl (by show (2 : Int32) < ((8 : Int32) >>> ((1 : Int32) &&& 31)); decide) (by show ¬ ((2 : Int32) <<< ((1 : Int32) &&& 31)) < 0 ∧ ((2 : Int32) <<< ((1 : Int32) &&& 31)) < (8 : Int32); decide) (by show ¬ (((2 : Int32) <<< ((1 : Int32) &&& 31)) + (1 : Int32)) < 0 ∧ (((2 : Int32) <<< ((1 : Int32) &&& 31)) + (1 : Int32)) < (8 : Int32); decide) rfl rfl S_F hgs S_C hcs O0 S_A S_H S_L) hZ (own_w hw 44 rfl) (own_w hw 9 rfl) (by decide) (by decide)) qa350 qc350 (g := (mkF m 37 #[.val (.ref xx), .val (.int (0 : Int32))] [(.int (2 : Int32)), (.ref xx)])) rfl (by rw [hml]; rfl) (Steps.refl _) (argsL := [(.int (2 : Int32))]) (rest := []) (lenOf pd_22 rfl) rfl (by show 2 * 0 + _ ≤ _; exact Nat.le_of_eq rfl) (hb hby d8_37) (fun _ _ => ⟨rfl, e349, (by decide : 0 + 0 ≤ _), (by decide : 0 + 0 ≤ _)⟩)
      dsimp only [Pt.U, Pt.locs, Pt.cells, Pt.slots] at X350 l350 y350 z350 st350 hQ350
      subst l350 y350 z350
      obtain ⟨rfl, N350q, e350⟩ := hQ350
      have N350 := Fr.app N349 N350q
      refine own_go (fun _ q => st350.trans q) ?_
      show own_Fin _ _ _ _ (T350.setTop (mkF m 40 #[.val (.ref xx), .val (.int (0 : Int32))] [(.int ch2)]))
      obtain ⟨_, _, ⟨T351, L351, k351, n351⟩, -, X351, ⟨Lc351, hQ351, l351, y351, z351⟩, st351⟩ := Jvm.LawKit.callS X350 hx (y := (⟨"java/util/HexFormat", "isHexDigit", "(I)Z"⟩ : MethodName)) hown (mvT hZ (own_w hw 104 rfl)) (mvT hZ (own_w hw 105 rfl)) (mvT hZ (own_w hw 106 rfl)) (mvT hZ (own_w hw 107 rfl)) (by decide) (backOf (W := 0) (rm_hd l Z a0 hw [] ch2 dg kg h0 n0 (Nat.le_trans Z0 K0.1) (hbd _ (own_m 2 rfl)) S_D V_dg O0) hZ (own_w hw 107 rfl) (own_w hw 106 rfl) (by decide) (by decide)) (g := (mkF m 40 #[.val (.ref xx), .val (.int (0 : Int32))] [(.int ch2)])) rfl (by rw [hml]; rfl) (argsL := [(.int ch2)]) (rest := []) (lenOf pd_24 rfl) rfl (by show 2 * 0 + _ ≤ _; exact Nat.le_of_eq rfl) (hb hby d8_40) (fun _ _ => ⟨rfl, e350, (by decide : 0 + 0 ≤ _), (by decide : 0 + 0 ≤ _)⟩)
      dsimp only [Pt.U, Pt.locs, Pt.cells, Pt.slots] at X351 l351 y351 z351 st351 hQ351
      subst l351 y351 z351
      obtain ⟨z351, rfl, N351q, e351, hz351⟩ := hQ351
      have N351 := Fr.app N350 N351q
      rcases hz351 with ⟨rfl, hh351⟩ | ⟨rfl, hh351⟩
      · skip
        refine own_go st351 ?_
        show own_Fin _ _ _ _ (T351.setTop (mkF m 43 #[.val (.ref xx), .val (.int (0 : Int32))] [(.int (1 : Int32))]))
        refine own_go (fun _ q => XS.ifNo X351.here hx rfl (hb hby d8_43) rfl ((if0 _ _).trans (feq (by decide : ¬ (1 : Int32) = (0 : Int32))).1) q) ?_
        refine own_go (fun _ q => XS.iconst X351.here hx rfl (hb hby d8_46) q) ?_
        refine own_go (fun _ q => XS.goto X351.here hx rfl (pc0 := 47) (pc' := 51) rfl (hb hby d8_47) (by decide) (by decide) q) ?_
        show own_Fin _ _ _ _ (T351.setTop (mkF m 51 #[.val (.ref xx), .val (.int (0 : Int32))] [(.int (1 : Int32))]))
        refine own_retI X351 hx Bd (t := .boolean) Bd.returns rfl (by simp) (hb hby d8_51) ?_ (by decide) (by decide)
        show (Q_rm_ie4_0 Z xx tt ch0 ch1 ch2 ch3 gc gs dg kg h0 n0) (some (.int (1 : Int32))) T351.heap _
        rw [e351]
        exact ⟨_, rfl, N351, rfl, Or.inl ⟨rfl, hc346, hh349, hh351⟩⟩
      · skip
        refine own_go st351 ?_
        show own_Fin _ _ _ _ (T351.setTop (mkF m 43 #[.val (.ref xx), .val (.int (0 : Int32))] [(.int (0 : Int32))]))
        refine own_go (fun _ q => XS.ifYes X351.here hx rfl (pc0 := 43) (pc' := 50) rfl (hb hby d8_43) rfl ((if0 _ _).trans (teq (by decide : (0 : Int32) = (0 : Int32))).1) (by decide) (by decide) q) ?_
        refine own_go (fun _ q => XS.iconst X351.here hx rfl (hb hby d8_50) q) ?_
        show own_Fin _ _ _ _ (T351.setTop (mkF m 51 #[.val (.ref xx), .val (.int (0 : Int32))] [(.int (0 : Int32))]))
        refine own_retI X351 hx Bd (t := .boolean) Bd.returns rfl (by simp) (hb hby d8_51) ?_ (by decide) (by decide)
        show (Q_rm_ie4_0 Z xx tt ch0 ch1 ch2 ch3 gc gs dg kg h0 n0) (some (.int (0 : Int32))) T351.heap _
        rw [e351]
        exact ⟨_, rfl, N351, rfl, Or.inr ⟨rfl, fun q => hh351 q.2.2⟩⟩
    · skip
      refine own_go st349 ?_
      show own_Fin _ _ _ _ (T349.setTop (mkF m 30 #[.val (.ref xx), .val (.int (0 : Int32))] [(.int (0 : Int32))]))
      refine own_go (fun _ q => XS.ifYes X349.here hx rfl (pc0 := 30) (pc' := 50) rfl (hb hby d8_30) rfl ((if0 _ _).trans (teq (by decide : (0 : Int32) = (0 : Int32))).1) (by decide) (by decide) q) ?_
      refine own_go (fun _ q => XS.iconst X349.here hx rfl (hb hby d8_50) q) ?_
      show own_Fin _ _ _ _ (T349.setTop (mkF m 51 #[.val (.ref xx), .val (.int (0 : Int32))] [(.int (0 : Int32))]))
      refine own_retI X349 hx Bd (t := .boolean) Bd.returns rfl (by simp) (hb hby d8_51) ?_ (by decide) (by decide)
      show (Q_rm_ie4_0 Z xx tt ch0 ch1 ch2 ch3 gc gs dg kg h0 n0) (some (.int (0 : Int32))) T349.heap _
      rw [e349]
      exact ⟨_, rfl, N349, rfl, Or.inr ⟨rfl, fun q => hh349 q.2.1⟩⟩
  · skip
    refine own_go (fun _ q => XS.icmpYes X345.here hx rfl (pc0 := 7) (pc' := 50) rfl (hb hby d8_7) rfl (feq hc346).2 (by decide) (by decide) q) ?_
    refine own_go (fun _ q => XS.iconst X345.here hx rfl (hb hby d8_50) q) ?_
    show own_Fin _ _ _ _ (T345.setTop (mkF m 51 #[.val (.ref xx), .val (.int (0 : Int32))] [(.int (0 : Int32))]))
    refine own_retI X345 hx Bd (t := .boolean) Bd.returns rfl (by simp) (hb hby d8_51) ?_ (by decide) (by decide)
    show (Q_rm_ie4_0 Z xx tt ch0 ch1 ch2 ch3 gc gs dg kg h0 n0) (some (.int (0 : Int32))) T345.heap _
    rw [e345]
    exact ⟨_, rfl, N345, rfl, Or.inr ⟨rfl, fun q => hc346 q.1⟩⟩
def Q_rm_ie4_1 (Z : State) (xx : Addr) (tt : Addr) (ch0 : Int32) (ch1 : Int32) (ch2 : Int32) (ch3 : Int32) (gc : Int32) (gs : Value) (dg : Addr) (kg : ClassId) (h0 : Heap) (n0 : Nat) (v : Option Value) (h : Heap) (L : List Loc) : Prop := ∃ z : Int32, v = some (.int z) ∧ Fr n0 L ∧ h = h0 ∧ ((z = 1 ∧ (ch1 = (37 : Int32) ∧ own_hex ch2 ∧ own_hex ch3)) ∨ (z = 0 ∧ ¬ (ch1 = (37 : Int32) ∧ own_hex ch2 ∧ own_hex ch3)))
theorem ef_rm_ie4_1 (m : MethodId) (xx : Addr) (tt : Addr) (ch0 : Int32) (ch1 : Int32) (ch2 : Int32) (ch3 : Int32) (gc : Int32) (gs : Value) (dg : Addr) : entryFrame m #[(.ref xx), (.int (1 : Int32))] 2 = mkF m 0 #[.val (.ref xx), .val (.int (1 : Int32))] [] := by first | (simp [entryFrame, mkF, argsToLocals, Value.category]; done) | rfl
set_option maxRecDepth 65536 in
set_option maxHeartbeats 40000000 in
theorem rm_ie4_1 (l : Launch) (Z : State) (a0 : Array Value) (hw : ∀ d ∈ tables_1, d.before a0 Z = true) (ws : List Jvm.Cond) (xx : Addr) (tt : Addr) (ch0 : Int32) (ch1 : Int32) (ch2 : Int32) (ch3 : Int32) (gc : Int32) (gs : Value) (dg : Addr) (kg : ClassId) (h0 : Heap) (n0 : Nat) (Z0 : n0 ≤ h0.size) (F_x : own_Str Z h0 xx tt ([ch0, ch1, ch2, ch3] : List Int32)) (hbd : ∀ c ∈ ([ch0, ch1, ch2, ch3] : List Int32), ¬ c < 0 ∧ ¬ (65535 : Int32) < c) (S_D : Sta Z Z.heap "java/util/HexFormat" "DIGITS" "[B" (.ref dg)) (V_dg : Arv Z Z.heap dg kg .byte (256 : Int32) own_dvs (.int (0 : Int32))) (S_F : Sta Z Z.heap "jdk/internal/util/Preconditions" "SIOOBE_FORMATTER" "Ljava/util/function/BiFunction;" gs) (hgs : gs.isRef = true) (S_C : Sta Z Z.heap "java/lang/String" "COMPACT_STRINGS" "Z" (.int gc)) (hcs : ¬ gc = 0) (O0 : Old Z n0 h0) (S_A : Sta Z Z.heap "java/lang/StringUTF16" "$assertionsDisabled" "Z" (.int (1 : Int32))) (S_H : Sta Z Z.heap "java/lang/StringUTF16" "HI_BYTE_SHIFT" "I" (.int (0 : Int32))) (S_L : Sta Z Z.heap "java/lang/StringUTF16" "LO_BYTE_SHIFT" "I" (.int (8 : Int32))) :
    MetFree l (⟨"com/example/iron_satchel/ironsatchel/PercentEncoding", "isEscapeAt", "(Ljava/lang/String;I)Z"⟩ : MethodName) (head1 (Jvm.Cond.code (⟨"com/example/iron_satchel/ironsatchel/PercentEncoding", "isEscapeAt", "(Ljava/lang/String;I)Z"⟩ : MethodName) prog_13_method_3_code 2 (some .boolean) :: ws) ({ frames := 5, cells := 0, slots := 0, locals := 66 } : Room)) (fun a_ U_ => a_ = #[(.ref xx), (.int (1 : Int32))] ∧ Z.Warmed39 U_.vm ∧ U_.heap = h0) (fun _ _ _ _ _ => True) (fun _ U_ o_ V_ => ∃ v_ L_, o_ = .returned v_ ∧ (Q_rm_ie4_1 Z xx tt ch0 ch1 ch2 ch3 gc gs dg kg h0 n0) v_ V_.heap L_ ∧ FrameEnd U_ o_ V_ L_ ({ frames := 5, cells := 0, slots := 0, locals := 66 } : Room).cells ({ frames := 5, cells := 0, slots := 0, locals := 66 } : Room).slots) := by
  refine MetFree.of_bodySF (plainFor_of_name pn_21) hisR ?_
  intro p e s m args below meth c s₁ Bd hml0 hP hK
  obtain ⟨rfl, hZ, hh⟩ := hP
  have hx := Bd.exec
  have hby := Bd.bytes
  have hml : c.maxLocals = 2 := hml0
  have hown : s.vm.findClass "com/example/iron_satchel/ironsatchel/PercentEncoding" = some m.cls := findClass_of_methodNamed Bd.named
  have hnm := (name_of_methodNamed Bd.named Bd.method).1
  have X0 : Stand p l e ({ frames := 5, cells := 0, slots := 0, locals := 66 } : Room) s m #[(.ref xx), (.int (1 : Int32))] below meth c s₁ [] 0 0 := Stand.of_body Bd
  have e0 : s₁.heap = h0 := by rw [← hh, Bd.state]; rfl
  have N0 := Fr.nil n0
  have K0 : Keep h0 h0 [] := Keep.refl _ _
  show own_Fin p.tables e below (own_Post (Q_rm_ie4_1 Z xx tt ch0 ch1 ch2 ch3 gc gs dg kg h0 n0) ({ frames := 5, cells := 0, slots := 0, locals := 66 } : Room).cells ({ frames := 5, cells := 0, slots := 0, locals := 66 } : Room).slots below s) _
  refine own_go (fun _ q => castTop (ef_rm_ie4_1 m xx tt ch0 ch1 ch2 ch3 gc gs dg) q) ?_
  refine own_go (fun _ q => XS.aloadN X0.here hx rfl (hb hby d8_0) rfl rfl q) ?_
  refine own_go (fun _ q => XS.iloadN X0.here hx rfl (hb hby d8_1) rfl q) ?_
  show own_Fin _ _ _ _ (s₁.setTop (mkF m 2 #[.val (.ref xx), .val (.int (1 : Int32))] [(.int (1 : Int32)), (.ref xx)]))
  obtain ⟨cq352, kq352, qa352, qb352, qc352⟩ := isOf hZ e0 F_x.exa
  obtain ⟨_, _, ⟨T352, L352, k352, n352⟩, -, X352, ⟨Lc352, hQ352, l352, y352, z352⟩, st352⟩ := X0.virtualBack hx (y := (⟨"java/lang/String", "charAt", "(I)C"⟩ : MethodName)) (z := (⟨"java/lang/String", "charAt", "(I)C"⟩ : MethodName)) hown (mvT hZ (own_w hw 40 rfl)) (mvT hZ (own_w hw 41 rfl)) (own_notface (args := #[]) (mvT hZ (own_w hw 43 rfl)) rfl) (mvT hZ (own_w hw 43 rfl)) (mvT hZ (own_w hw 42 rfl)) (by decide) (backOf (W := 0) (rm_ca l Z a0 hw [] xx tt ([ch0, ch1, ch2, ch3] : List Int32) (1 : Int32) ch1 gc gs h0 n0 (Nat.le_trans Z0 K0.1) F_x (own_m 1 rfl) (by decide) (by show (1 : Int32) < (4 : Int32); decide) rfl (by show (1 : Int32) < ((8 : Int32) >>> ((1 : Int32) &&& 31)); decide) (by show ¬ ((1 : Int32) <<< ((1 : Int32) &&& 31)) < 0 ∧ ((1 : Int32) <<< ((1 : Int32) &&& 31)) < (8 : Int32); decide) (by show ¬ (((1 : Int32) <<< ((1 : Int32) &&& 31)) + (1 : Int32)) < 0 ∧ (((1 : Int32) <<< ((1 : Int32) &&& 31)) + (1 : Int32)) < (8 : Int32); decide) rfl rfl S_F hgs S_C hcs O0 S_A S_H S_L) hZ (own_w hw 44 rfl) (own_w hw 9 rfl) (by decide) (by decide)) qa352 qc352 (g := (mkF m 2 #[.val (.ref xx), .val (.int (1 : Int32))] [(.int (1 : Int32)), (.ref xx)])) rfl (by rw [hml]; rfl) (Steps.refl _) (argsL := [(.int (1 : Int32))]) (rest := []) (lenOf pd_22 rfl) rfl (by show 2 * 0 + _ ≤ _; exact Nat.le_of_eq rfl) (hb hby d8_2) (fun _ _ => ⟨rfl, e0, (by decide : 0 + 0 ≤ _), (by decide : 0 + 0 ≤ _)⟩)
  dsimp only [Pt.U, Pt.locs, Pt.cells, Pt.slots] at X352 l352 y352 z352 st352 hQ352
  subst l352 y352 z352
  obtain ⟨rfl, N352q, e352⟩ := hQ352
  have N352 := Fr.app N0 N352q
  refine own_go (fun _ q => st352.trans q) ?_
  refine own_go (fun _ q => XS.bipush X352.here hx rfl (hb hby d8_5) q) ?_
  show own_Fin _ _ _ _ (T352.setTop (mkF m 7 #[.val (.ref xx), .val (.int (1 : Int32))] [(.int (37 : Int32)), (.int ch1)]))
  by_cases hc353 : ch1 = (37 : Int32)
  · skip
    refine own_go (fun _ q => XS.icmpNo X352.here hx rfl (hb hby d8_7) rfl (teq hc353).2 q) ?_
    refine own_go (fun _ q => XS.iloadN X352.here hx rfl (hb hby d8_10) rfl q) ?_
    refine own_go (fun _ q => XS.iconst X352.here hx rfl (hb hby d8_11) q) ?_
    show own_Fin _ _ _ _ (T352.setTop (mkF m 12 #[.val (.ref xx), .val (.int (1 : Int32))] [(.int (2 : Int32)), (.int (1 : Int32))]))
    refine own_go (fun _ q => XS.iadd X352.here hx rfl (hb hby d8_12) rfl q) ?_
    refine own_go (fun _ q => XS.aloadN X352.here hx rfl (hb hby d8_13) rfl rfl q) ?_
    show own_Fin _ _ _ _ (T352.setTop (mkF m 14 #[.val (.ref xx), .val (.int (1 : Int32))] [(.ref xx), (.int (3 : Int32))]))
    obtain ⟨cq354, kq354, qa354, qb354, qc354⟩ := isOf hZ e352 F_x.exa
    obtain ⟨_, _, ⟨T354, L354, k354, n354⟩, -, X354, ⟨Lc354, hQ354, l354, y354, z354⟩, st354⟩ := X352.virtualBack hx (y := (⟨"java/lang/String", "length", "()I"⟩ : MethodName)) (z := (⟨"java/lang/String", "length", "()I"⟩ : MethodName)) hown (mvT hZ (own_w hw 91 rfl)) (mvT hZ (own_w hw 92 rfl)) (own_notface (args := #[]) (mvT hZ (own_w hw 43 rfl)) rfl) (mvT hZ (own_w hw 94 rfl)) (mvT hZ (own_w hw 93 rfl)) (by decide) (backOf (W := 1) (rm_len l Z a0 hw [] xx tt ([ch0, ch1, ch2, ch3] : List Int32) gc h0 n0 (Nat.le_trans Z0 K0.1) F_x S_C hcs O0) hZ (own_w hw 95 rfl) (own_w hw 9 rfl) (by decide) (by decide)) qa354 qc354 (g := (mkF m 14 #[.val (.ref xx), .val (.int (1 : Int32))] [(.ref xx), (.int (3 : Int32))])) rfl (by rw [hml]; rfl) (Steps.refl _) (argsL := []) (rest := [(.int (3 : Int32))]) (lenOf pd_23 rfl) rfl (by show 2 * 0 + _ ≤ _; exact Nat.le_of_eq rfl) (hb hby d8_14) (fun _ _ => ⟨rfl, e352, (by decide : 0 + 0 ≤ _), (by decide : 0 + 0 ≤ _)⟩)
    dsimp only [Pt.U, Pt.locs, Pt.cells, Pt.slots] at X354 l354 y354 z354 st354 hQ354
    subst l354 y354 z354
    obtain ⟨rfl, N354q, e354⟩ := hQ354
    have N354 := Fr.app N352 N354q
    refine own_go (fun _ q => st354.trans q) ?_
    show own_Fin _ _ _ _ (T354.setTop (mkF m 17 #[.val (.ref xx), .val (.int (1 : Int32))] [(.int (4 : Int32)), (.int (3 : Int32))]))
    refine own_go (fun _ q => XS.icmpNo X354.here hx rfl (hb hby d8_17) rfl (tlt (by decide : (3 : Int32) < (4 : Int32))).2.1 q) ?_
    refine own_go (fun _ q => XS.aloadN X354.here hx rfl (hb hby d8_20) rfl rfl q) ?_
    refine own_go (fun _ q => XS.iloadN X354.here hx rfl (hb hby d8_21) rfl q) ?_
    refine own_go (fun _ q => XS.iconst X354.here hx rfl (hb hby d8_22) q) ?_
    show own_Fin _ _ _ _ (T354.setTop (mkF m 23 #[.val (.ref xx), .val (.int (1 : Int32))] [(.int (1 : Int32)), (.int (1 : Int32)), (.ref xx)]))
    refine own_go (fun _ q => XS.iadd X354.here hx rfl (hb hby d8_23) rfl q) ?_
    show own_Fin _ _ _ _ (T354.setTop (mkF m 24 #[.val (.ref xx), .val (.int (1 : Int32))] [(.int (2 : Int32)), (.ref xx)]))
    obtain ⟨cq355, kq355, qa355, qb355, qc355⟩ := isOf hZ e354 F_x.exa
    obtain ⟨_, _, ⟨T355, L355, k355, n355⟩, -, X355, ⟨Lc355, hQ355, l355, y355, z355⟩, st355⟩ := X354.virtualBack hx (y := (⟨"java/lang/String", "charAt", "(I)C"⟩ : MethodName)) (z := (⟨"java/lang/String", "charAt", "(I)C"⟩ : MethodName)) hown (mvT hZ (own_w hw 40 rfl)) (mvT hZ (own_w hw 41 rfl)) (own_notface (args := #[]) (mvT hZ (own_w hw 43 rfl)) rfl) (mvT hZ (own_w hw 43 rfl)) (mvT hZ (own_w hw 42 rfl)) (by decide) (backOf (W := 0) (rm_ca l Z a0 hw [] xx tt ([ch0, ch1, ch2, ch3] : List Int32) (2 : Int32) ch2 gc gs h0 n0 (Nat.le_trans Z0 K0.1) F_x (own_m 2 rfl) (by decide) (by show (2 : Int32) < (4 : Int32); decide) rfl (by show (2 : Int32) < ((8 : Int32) >>> ((1 : Int32) &&& 31)); decide) (by show ¬ ((2 : Int32) <<< ((1 : Int32) &&& 31)) < 0 ∧ ((2 : Int32) <<< ((1 : Int32) &&& 31)) < (8 : Int32); decide) (by show ¬ (((2 : Int32) <<< ((1 : Int32) &&& 31)) + (1 : Int32)) < 0 ∧ (((2 : Int32) <<< ((1 : Int32) &&& 31)) + (1 : Int32)) < (8 : Int32); decide) rfl rfl S_F hgs S_C hcs O0 S_A S_H S_L) hZ (own_w hw 44 rfl) (own_w hw 9 rfl) (by decide) (by decide)) qa355 qc355 (g := (mkF m 24 #[.val (.ref xx), .val (.int (1 : Int32))] [(.int (2 : Int32)), (.ref xx)])) rfl (by rw [hml]; rfl) (Steps.refl _) (argsL := [(.int (2 : Int32))]) (rest := []) (lenOf pd_22 rfl) rfl (by show 2 * 0 + _ ≤ _; exact Nat.le_of_eq rfl) (hb hby d8_24) (fun _ _ => ⟨rfl, e354, (by decide : 0 + 0 ≤ _), (by decide : 0 + 0 ≤ _)⟩)
    dsimp only [Pt.U, Pt.locs, Pt.cells, Pt.slots] at X355 l355 y355 z355 st355 hQ355
    subst l355 y355 z355
    obtain ⟨rfl, N355q, e355⟩ := hQ355
    have N355 := Fr.app N354 N355q
    refine own_go (fun _ q => st355.trans q) ?_
    show own_Fin _ _ _ _ (T355.setTop (mkF m 27 #[.val (.ref xx), .val (.int (1 : Int32))] [(.int ch2)]))
    obtain ⟨_, _, ⟨T356, L356, k356, n356⟩, -, X356, ⟨Lc356, hQ356, l356, y356, z356⟩, st356⟩ := Jvm.LawKit.callS X355 hx (y := (⟨"java/util/HexFormat", "isHexDigit", "(I)Z"⟩ : MethodName)) hown (mvT hZ (own_w hw 104 rfl)) (mvT hZ (own_w hw 105 rfl)) (mvT hZ (own_w hw 106 rfl)) (mvT hZ (own_w hw 107 rfl)) (by decide) (backOf (W := 0) (rm_hd l Z a0 hw [] ch2 dg kg h0 n0 (Nat.le_trans Z0 K0.1) (hbd _ (own_m 2 rfl)) S_D V_dg O0) hZ (own_w hw 107 rfl) (own_w hw 106 rfl) (by decide) (by decide)) (g := (mkF m 27 #[.val (.ref xx), .val (.int (1 : Int32))] [(.int ch2)])) rfl (by rw [hml]; rfl) (argsL := [(.int ch2)]) (rest := []) (lenOf pd_24 rfl) rfl (by show 2 * 0 + _ ≤ _; exact Nat.le_of_eq rfl) (hb hby d8_27) (fun _ _ => ⟨rfl, e355, (by decide : 0 + 0 ≤ _), (by decide : 0 + 0 ≤ _)⟩)
    dsimp only [Pt.U, Pt.locs, Pt.cells, Pt.slots] at X356 l356 y356 z356 st356 hQ356
    subst l356 y356 z356
    obtain ⟨z356, rfl, N356q, e356, hz356⟩ := hQ356
    have N356 := Fr.app N355 N356q
    rcases hz356 with ⟨rfl, hh356⟩ | ⟨rfl, hh356⟩
    · skip
      refine own_go st356 ?_
      show own_Fin _ _ _ _ (T356.setTop (mkF m 30 #[.val (.ref xx), .val (.int (1 : Int32))] [(.int (1 : Int32))]))
      refine own_go (fun _ q => XS.ifNo X356.here hx rfl (hb hby d8_30) rfl ((if0 _ _).trans (feq (by decide : ¬ (1 : Int32) = (0 : Int32))).1) q) ?_
      refine own_go (fun _ q => XS.aloadN X356.here hx rfl (hb hby d8_33) rfl rfl q) ?_
      refine own_go (fun _ q => XS.iloadN X356.here hx rfl (hb hby d8_34) rfl q) ?_
      refine own_go (fun _ q => XS.iconst X356.here hx rfl (hb hby d8_35) q) ?_
      show own_Fin _ _ _ _ (T356.setTop (mkF m 36 #[.val (.ref xx), .val (.int (1 : Int32))] [(.int (2 : Int32)), (.int (1 : Int32)), (.ref xx)]))
      refine own_go (fun _ q => XS.iadd X356.here hx rfl (hb hby d8_36) rfl q) ?_
      show own_Fin _ _ _ _ (T356.setTop (mkF m 37 #[.val (.ref xx), .val (.int (1 : Int32))] [(.int (3 : Int32)), (.ref xx)]))
      obtain ⟨cq357, kq357, qa357, qb357, qc357⟩ := isOf hZ e356 F_x.exa
      obtain ⟨_, _, ⟨T357, L357, k357, n357⟩, -, X357, ⟨Lc357, hQ357, l357, y357, z357⟩, st357⟩ := X356.virtualBack hx (y := (⟨"java/lang/String", "charAt", "(I)C"⟩ : MethodName)) (z := (⟨"java/lang/String", "charAt", "(I)C"⟩ : MethodName)) hown (mvT hZ (own_w hw 40 rfl)) (mvT hZ (own_w hw 41 rfl)) (own_notface (args := #[]) (mvT hZ (own_w hw 43 rfl)) rfl) (mvT hZ (own_w hw 43 rfl)) (mvT hZ (own_w hw 42 rfl)) (by decide) (backOf (W := 0) (rm_ca l Z a0 hw [] xx tt ([ch0, ch1, ch2, ch3] : List Int32) (3 : Int32) ch3 gc gs h0 n0 (Nat.le_trans Z0 K0.1) F_x (own_m 3 rfl) (by decide) (by show (3 : Int32) < (4 : Int32); decide) rfl (by show (3 : Int32) < ((8 : Int32) >>> ((1 : Int32) &&& 31)); decide) (by show ¬ ((3 : Int32) <<< ((1 : Int32) &&& 31)) < 0 ∧ ((3 : Int32) <<< ((1 : Int32) &&& 31)) < (8 : Int32); decide) (by show ¬ (((3 : Int32) <<< ((1 : Int32) &&& 31)) + (1 : Int32)) < 0 ∧ (((3 : Int32) <<< ((1 : Int32) &&& 31)) + (1 : Int32)) < (8 : Int32); decide) rfl rfl S_F hgs S_C hcs O0 S_A S_H S_L) hZ (own_w hw 44 rfl) (own_w hw 9 rfl) (by decide) (by decide)) qa357 qc357 (g := (mkF m 37 #[.val (.ref xx), .val (.int (1 : Int32))] [(.int (3 : Int32)), (.ref xx)])) rfl (by rw [hml]; rfl) (Steps.refl _) (argsL := [(.int (3 : Int32))]) (rest := []) (lenOf pd_22 rfl) rfl (by show 2 * 0 + _ ≤ _; exact Nat.le_of_eq rfl) (hb hby d8_37) (fun _ _ => ⟨rfl, e356, (by decide : 0 + 0 ≤ _), (by decide : 0 + 0 ≤ _)⟩)
      dsimp only [Pt.U, Pt.locs, Pt.cells, Pt.slots] at X357 l357 y357 z357 st357 hQ357
      subst l357 y357 z357
      obtain ⟨rfl, N357q, e357⟩ := hQ357
      have N357 := Fr.app N356 N357q
      refine own_go (fun _ q => st357.trans q) ?_
      show own_Fin _ _ _ _ (T357.setTop (mkF m 40 #[.val (.ref xx), .val (.int (1 : Int32))] [(.int ch3)]))
      obtain ⟨_, _, ⟨T358, L358, k358, n358⟩, -, X358, ⟨Lc358, hQ358, l358, y358, z358⟩, st358⟩ := Jvm.LawKit.callS X357 hx (y := (⟨"java/util/HexFormat", "isHexDigit", "(I)Z"⟩ : MethodName)) hown (mvT hZ (own_w hw 104 rfl)) (mvT hZ (own_w hw 105 rfl)) (mvT hZ (own_w hw 106 rfl)) (mvT hZ (own_w hw 107 rfl)) (by decide) (backOf (W := 0) (rm_hd l Z a0 hw [] ch3 dg kg h0 n0 (Nat.le_trans Z0 K0.1) (hbd _ (own_m 3 rfl)) S_D V_dg O0) hZ (own_w hw 107 rfl) (own_w hw 106 rfl) (by decide) (by decide)) (g := (mkF m 40 #[.val (.ref xx), .val (.int (1 : Int32))] [(.int ch3)])) rfl (by rw [hml]; rfl) (argsL := [(.int ch3)]) (rest := []) (lenOf pd_24 rfl) rfl (by show 2 * 0 + _ ≤ _; exact Nat.le_of_eq rfl) (hb hby d8_40) (fun _ _ => ⟨rfl, e357, (by decide : 0 + 0 ≤ _), (by decide : 0 + 0 ≤ _)⟩)
      dsimp only [Pt.U, Pt.locs, Pt.cells, Pt.slots] at X358 l358 y358 z358 st358 hQ358
      subst l358 y358 z358
      obtain ⟨z358, rfl, N358q, e358, hz358⟩ := hQ358
      have N358 := Fr.app N357 N358q
      rcases hz358 with ⟨rfl, hh358⟩ | ⟨rfl, hh358⟩
      · skip
        refine own_go st358 ?_
        show own_Fin _ _ _ _ (T358.setTop (mkF m 43 #[.val (.ref xx), .val (.int (1 : Int32))] [(.int (1 : Int32))]))
        refine own_go (fun _ q => XS.ifNo X358.here hx rfl (hb hby d8_43) rfl ((if0 _ _).trans (feq (by decide : ¬ (1 : Int32) = (0 : Int32))).1) q) ?_
        refine own_go (fun _ q => XS.iconst X358.here hx rfl (hb hby d8_46) q) ?_
        refine own_go (fun _ q => XS.goto X358.here hx rfl (pc0 := 47) (pc' := 51) rfl (hb hby d8_47) (by decide) (by decide) q) ?_
        show own_Fin _ _ _ _ (T358.setTop (mkF m 51 #[.val (.ref xx), .val (.int (1 : Int32))] [(.int (1 : Int32))]))
        refine own_retI X358 hx Bd (t := .boolean) Bd.returns rfl (by simp) (hb hby d8_51) ?_ (by decide) (by decide)
        show (Q_rm_ie4_1 Z xx tt ch0 ch1 ch2 ch3 gc gs dg kg h0 n0) (some (.int (1 : Int32))) T358.heap _
        rw [e358]
        exact ⟨_, rfl, N358, rfl, Or.inl ⟨rfl, hc353, hh356, hh358⟩⟩
      · skip
        refine own_go st358 ?_
        show own_Fin _ _ _ _ (T358.setTop (mkF m 43 #[.val (.ref xx), .val (.int (1 : Int32))] [(.int (0 : Int32))]))
        refine own_go (fun _ q => XS.ifYes X358.here hx rfl (pc0 := 43) (pc' := 50) rfl (hb hby d8_43) rfl ((if0 _ _).trans (teq (by decide : (0 : Int32) = (0 : Int32))).1) (by decide) (by decide) q) ?_
        refine own_go (fun _ q => XS.iconst X358.here hx rfl (hb hby d8_50) q) ?_
        show own_Fin _ _ _ _ (T358.setTop (mkF m 51 #[.val (.ref xx), .val (.int (1 : Int32))] [(.int (0 : Int32))]))
        refine own_retI X358 hx Bd (t := .boolean) Bd.returns rfl (by simp) (hb hby d8_51) ?_ (by decide) (by decide)
        show (Q_rm_ie4_1 Z xx tt ch0 ch1 ch2 ch3 gc gs dg kg h0 n0) (some (.int (0 : Int32))) T358.heap _
        rw [e358]
        exact ⟨_, rfl, N358, rfl, Or.inr ⟨rfl, fun q => hh358 q.2.2⟩⟩
    · skip
      refine own_go st356 ?_
      show own_Fin _ _ _ _ (T356.setTop (mkF m 30 #[.val (.ref xx), .val (.int (1 : Int32))] [(.int (0 : Int32))]))
      refine own_go (fun _ q => XS.ifYes X356.here hx rfl (pc0 := 30) (pc' := 50) rfl (hb hby d8_30) rfl ((if0 _ _).trans (teq (by decide : (0 : Int32) = (0 : Int32))).1) (by decide) (by decide) q) ?_
      refine own_go (fun _ q => XS.iconst X356.here hx rfl (hb hby d8_50) q) ?_
      show own_Fin _ _ _ _ (T356.setTop (mkF m 51 #[.val (.ref xx), .val (.int (1 : Int32))] [(.int (0 : Int32))]))
      refine own_retI X356 hx Bd (t := .boolean) Bd.returns rfl (by simp) (hb hby d8_51) ?_ (by decide) (by decide)
      show (Q_rm_ie4_1 Z xx tt ch0 ch1 ch2 ch3 gc gs dg kg h0 n0) (some (.int (0 : Int32))) T356.heap _
      rw [e356]
      exact ⟨_, rfl, N356, rfl, Or.inr ⟨rfl, fun q => hh356 q.2.1⟩⟩
  · skip
    refine own_go (fun _ q => XS.icmpYes X352.here hx rfl (pc0 := 7) (pc' := 50) rfl (hb hby d8_7) rfl (feq hc353).2 (by decide) (by decide) q) ?_
    refine own_go (fun _ q => XS.iconst X352.here hx rfl (hb hby d8_50) q) ?_
    show own_Fin _ _ _ _ (T352.setTop (mkF m 51 #[.val (.ref xx), .val (.int (1 : Int32))] [(.int (0 : Int32))]))
    refine own_retI X352 hx Bd (t := .boolean) Bd.returns rfl (by simp) (hb hby d8_51) ?_ (by decide) (by decide)
    show (Q_rm_ie4_1 Z xx tt ch0 ch1 ch2 ch3 gc gs dg kg h0 n0) (some (.int (0 : Int32))) T352.heap _
    rw [e352]
    exact ⟨_, rfl, N352, rfl, Or.inr ⟨rfl, fun q => hc353 q.1⟩⟩
def Q_rm_law (Z : State) (xa : Int32) (xb : Int32) (xc : Int32) (xd : Int32) (ln : Int32) (ix : Int32) (gc : Int32) (gs : Value) (dg : Addr) (kg : ClassId) (h0 : Heap) (n0 : Nat) (v : Option Value) (h : Heap) (L : List Loc) : Prop := v = some (.int 1) ∧ Fr n0 L
theorem ef_rm_law (m : MethodId) (xa : Int32) (xb : Int32) (xc : Int32) (xd : Int32) (ln : Int32) (ix : Int32) (gc : Int32) (gs : Value) (dg : Addr) : entryFrame m #[(.int xa), (.int xb), (.int xc), (.int xd), (.int ln), (.int ix)] maxLocals = mkF m 0 #[.val (.int xa), .val (.int xb), .val (.int xc), .val (.int xd), .val (.int ln), .val (.int ix), .unset, .unset, .unset, .unset, .unset] [] := by first | (simp [entryFrame, mkF, argsToLocals, Value.category, maxLocals]; done) | rfl
set_option maxRecDepth 65536 in
set_option maxHeartbeats 40000000 in
theorem rm_law (l : Launch) (Z : State) (a0 : Array Value) (hw : ∀ d ∈ tables_1, d.before a0 Z = true) (ws : List Jvm.Cond) (xa : Int32) (xb : Int32) (xc : Int32) (xd : Int32) (ln : Int32) (ix : Int32) (gc : Int32) (gs : Value) (dg : Addr) (kg : ClassId) (h0 : Heap) (n0 : Nat) (Z0 : n0 ≤ h0.size) (S_D : Sta Z Z.heap "java/util/HexFormat" "DIGITS" "[B" (.ref dg)) (V_dg : Arv Z Z.heap dg kg .byte (256 : Int32) own_dvs (.int (0 : Int32))) (S_F : Sta Z Z.heap "jdk/internal/util/Preconditions" "SIOOBE_FORMATTER" "Ljava/util/function/BiFunction;" gs) (hgs : gs.isRef = true) (S_C : Sta Z Z.heap "java/lang/String" "COMPACT_STRINGS" "Z" (.int gc)) (hcs : ¬ gc = 0) (O0 : Old Z n0 h0) (S_A : Sta Z Z.heap "java/lang/StringUTF16" "$assertionsDisabled" "Z" (.int (1 : Int32))) (S_H : Sta Z Z.heap "java/lang/StringUTF16" "HI_BYTE_SHIFT" "I" (.int (0 : Int32))) (S_L : Sta Z Z.heap "java/lang/StringUTF16" "LO_BYTE_SHIFT" "I" (.int (8 : Int32))) :
    MetFree l x (head1 (Jvm.Cond.code x code maxLocals ret :: ws) room_1) (fun a_ U_ => a_ = #[(.int xa), (.int xb), (.int xc), (.int xd), (.int ln), (.int ix)] ∧ Z.Warmed39 U_.vm ∧ U_.heap = h0) (fun _ _ _ _ _ => True) (fun _ U_ o_ V_ => ∃ v_ L_, o_ = .returned v_ ∧ (Q_rm_law Z xa xb xc xd ln ix gc gs dg kg h0 n0) v_ V_.heap L_ ∧ FrameEnd U_ o_ V_ L_ room_1.cells room_1.slots) := by
  refine MetFree.of_bodySF (plainFor_of_name pn_19) hisR ?_
  intro p e s m args below meth c s₁ Bd hml0 hP hK
  obtain ⟨rfl, hZ, hh⟩ := hP
  have hx := Bd.exec
  have hby := Bd.bytes
  have hml : c.maxLocals = 11 := hml0
  have hown : s.vm.findClass "com/example/iron_satchel/ironsatchel/PercentEncodingIsEscapeAtPinLaw" = some m.cls := findClass_of_methodNamed Bd.named
  have hnm := (name_of_methodNamed Bd.named Bd.method).1
  have X0 : Stand p l e room_1 s m #[(.int xa), (.int xb), (.int xc), (.int xd), (.int ln), (.int ix)] below meth c s₁ [] 0 0 := Stand.of_body Bd
  have e0 : s₁.heap = h0 := by rw [← hh, Bd.state]; rfl
  have N0 := Fr.nil n0
  have K0 : Keep h0 h0 [] := Keep.refl _ _
  show own_Fin p.tables e below (own_Post (Q_rm_law Z xa xb xc xd ln ix gc gs dg kg h0 n0) room_1.cells room_1.slots below s) _
  refine own_go (fun _ q => castTop (ef_rm_law m xa xb xc xd ln ix gc gs dg) q) ?_
  refine own_go (fun _ q => XS.iconst X0.here hx rfl (hb hby at_0) q) ?_
  show own_Fin _ _ _ _ (s₁.setTop (mkF m 1 #[.val (.int xa), .val (.int xb), .val (.int xc), .val (.int xd), .val (.int ln), .val (.int ix), .unset, .unset, .unset, .unset, .unset] [(.int (4 : Int32))]))
  obtain ⟨T359, h359, k359, X359, e359, E359, A359, st359⟩ := newP X0 hx hZ (own_w hw 0 rfl) e0 (g := (mkF m 1 #[.val (.int xa), .val (.int xb), .val (.int xc), .val (.int xd), .val (.int ln), .val (.int ix), .unset, .unset, .unset, .unset, .unset] [(.int (4 : Int32))])) rfl (hb hby at_1) rfl (by decide) (cap := 4) (by decide) (by decide) (by decide) (by decide)
  obtain ⟨b359, g359⟩ : ∃ z, z = h0.size := ⟨_, rfl⟩
  rw [← g359] at A359 st359
  have sz_b359 : h0.size ≤ b359 := Nat.le_trans K0.1 (Nat.le_of_eq g359.symm)
  have g_b359 : n0 ≤ b359 := Nat.le_trans Z0 sz_b359
  have ne360 : dg ≠ b359 := O0.ne V_dg.lt g_b359
  replace O0 := O0.ext E359
  have K361 := K0.ext E359
  have V359 : Arv Z h359 b359 k359 .char (4 : Int32) [(.int (0 : Int32)), (.int (0 : Int32)), (.int (0 : Int32)), (.int (0 : Int32))] (.int (0 : Int32)) := (Arv.new A359 (by decide)).pad (pad_rep [] (.int (0 : Int32)) 4)
  refine own_go st359 ?_
  refine own_go (fun _ q => XS.dup X359.here hx rfl (hb hby at_3) rfl rfl q) ?_
  refine own_go (fun _ q => XS.iconst X359.here hx rfl (hb hby at_4) q) ?_
  refine own_go (fun _ q => XS.iloadN X359.here hx rfl (hb hby at_5) rfl q) ?_
  show own_Fin _ _ _ _ (T359.setTop (mkF m 6 #[.val (.int xa), .val (.int xb), .val (.int xc), .val (.int xd), .val (.int ln), .val (.int ix), .unset, .unset, .unset, .unset, .unset] [(.int xa), (.int (0 : Int32)), (.ref b359), (.ref b359)]))
  refine own_go (fun _ q => Jvm.Stand.ldcI X359 hx hown (mvT hZ (own_w hw 1 rfl)) (g := (mkF m 6 #[.val (.int xa), .val (.int xb), .val (.int xc), .val (.int xd), .val (.int ln), .val (.int ix), .unset, .unset, .unset, .unset, .unset] [(.int xa), (.int (0 : Int32)), (.ref b359), (.ref b359)])) rfl (hb hby at_6) q) ?_
  show own_Fin _ _ _ _ (T359.setTop (mkF m 8 #[.val (.int xa), .val (.int xb), .val (.int xc), .val (.int xd), .val (.int ln), .val (.int ix), .unset, .unset, .unset, .unset, .unset] [(.int (65535 : Int32)), (.int xa), (.int (0 : Int32)), (.ref b359), (.ref b359)]))
  refine own_go (fun _ q => XS.iand X359.here hx rfl (hb hby at_8) rfl q) ?_
  show own_Fin _ _ _ _ (T359.setTop (mkF m 9 #[.val (.int xa), .val (.int xb), .val (.int xc), .val (.int xd), .val (.int ln), .val (.int ix), .unset, .unset, .unset, .unset, .unset] [(.int (xa &&& (65535 : Int32))), (.int (0 : Int32)), (.ref b359), (.ref b359)]))
  refine own_go (fun _ q => XS.i2c X359.here hx rfl (hb hby at_9) rfl q) ?_
  show own_Fin _ _ _ _ (T359.setTop (mkF m 10 #[.val (.int xa), .val (.int xb), .val (.int xc), .val (.int xd), .val (.int ln), .val (.int ix), .unset, .unset, .unset, .unset, .unset] [(.int ((xa &&& (65535 : Int32)).toUInt32.toUInt16.toUInt32.toInt32)), (.int (0 : Int32)), (.ref b359), (.ref b359)]))
  obtain ⟨ch0, hd0, hbx0_⟩ : ∃ z, z = ((xa &&& (65535 : Int32)).toUInt32.toUInt16.toUInt32.toInt32) ∧ ¬ z < 0 ∧ ¬ (65535 : Int32) < z := ⟨_, rfl, own_ch16 _⟩
  rw [← hd0]
  show own_Fin _ _ _ _ (T359.setTop (mkF m 10 #[.val (.int xa), .val (.int xb), .val (.int xc), .val (.int xd), .val (.int ln), .val (.int ix), .unset, .unset, .unset, .unset, .unset] [(.int ch0), (.int (0 : Int32)), (.ref b359), (.ref b359)]))
  obtain ⟨T362, h362, X362, e362, W362, V362, st362⟩ := own_stC X359 hx hZ e359 V359 (by decide) (i := 0) rfl (Nat.le_of_ble_eq_true rfl) (g := (mkF m 10 #[.val (.int xa), .val (.int xb), .val (.int xc), .val (.int xd), .val (.int ln), .val (.int ix), .unset, .unset, .unset, .unset, .unset] [(.int ch0), (.int (0 : Int32)), (.ref b359), (.ref b359)])) rfl rfl (hb hby at_10)
  rw [own_narch hbx0_] at V362
  replace V359 : Arv Z h362 b359 k359 .char (4 : Int32) [(.int ch0), (.int (0 : Int32)), (.int (0 : Int32)), (.int (0 : Int32))] (.int (0 : Int32)) := V362
  have N362 := Fr.snoc X362 N0 g_b359
  refine own_go st362 ?_
  replace O0 := O0.wr W362 g_b359
  have K363 := K361.wr W362 (Or.inr sz_b359)
  refine own_go (fun _ q => XS.dup X362.here hx rfl (hb hby at_11) rfl rfl q) ?_
  refine own_go (fun _ q => XS.iconst X362.here hx rfl (hb hby at_12) q) ?_
  refine own_go (fun _ q => XS.iloadN X362.here hx rfl (hb hby at_13) rfl q) ?_
  show own_Fin _ _ _ _ (T362.setTop (mkF m 14 #[.val (.int xa), .val (.int xb), .val (.int xc), .val (.int xd), .val (.int ln), .val (.int ix), .unset, .unset, .unset, .unset, .unset] [(.int xb), (.int (1 : Int32)), (.ref b359), (.ref b359)]))
  refine own_go (fun _ q => Jvm.Stand.ldcI X362 hx hown (mvT hZ (own_w hw 1 rfl)) (g := (mkF m 14 #[.val (.int xa), .val (.int xb), .val (.int xc), .val (.int xd), .val (.int ln), .val (.int ix), .unset, .unset, .unset, .unset, .unset] [(.int xb), (.int (1 : Int32)), (.ref b359), (.ref b359)])) rfl (hb hby at_14) q) ?_
  show own_Fin _ _ _ _ (T362.setTop (mkF m 16 #[.val (.int xa), .val (.int xb), .val (.int xc), .val (.int xd), .val (.int ln), .val (.int ix), .unset, .unset, .unset, .unset, .unset] [(.int (65535 : Int32)), (.int xb), (.int (1 : Int32)), (.ref b359), (.ref b359)]))
  refine own_go (fun _ q => XS.iand X362.here hx rfl (hb hby at_16) rfl q) ?_
  show own_Fin _ _ _ _ (T362.setTop (mkF m 17 #[.val (.int xa), .val (.int xb), .val (.int xc), .val (.int xd), .val (.int ln), .val (.int ix), .unset, .unset, .unset, .unset, .unset] [(.int (xb &&& (65535 : Int32))), (.int (1 : Int32)), (.ref b359), (.ref b359)]))
  refine own_go (fun _ q => XS.i2c X362.here hx rfl (hb hby at_17) rfl q) ?_
  show own_Fin _ _ _ _ (T362.setTop (mkF m 18 #[.val (.int xa), .val (.int xb), .val (.int xc), .val (.int xd), .val (.int ln), .val (.int ix), .unset, .unset, .unset, .unset, .unset] [(.int ((xb &&& (65535 : Int32)).toUInt32.toUInt16.toUInt32.toInt32)), (.int (1 : Int32)), (.ref b359), (.ref b359)]))
  obtain ⟨ch1, hd1, hbx1_⟩ : ∃ z, z = ((xb &&& (65535 : Int32)).toUInt32.toUInt16.toUInt32.toInt32) ∧ ¬ z < 0 ∧ ¬ (65535 : Int32) < z := ⟨_, rfl, own_ch16 _⟩
  rw [← hd1]
  show own_Fin _ _ _ _ (T362.setTop (mkF m 18 #[.val (.int xa), .val (.int xb), .val (.int xc), .val (.int xd), .val (.int ln), .val (.int ix), .unset, .unset, .unset, .unset, .unset] [(.int ch1), (.int (1 : Int32)), (.ref b359), (.ref b359)]))
  obtain ⟨T364, h364, X364, e364, W364, V364, st364⟩ := own_stC X362 hx hZ e362 V359 (by decide) (i := 1) rfl (Nat.le_of_ble_eq_true rfl) (g := (mkF m 18 #[.val (.int xa), .val (.int xb), .val (.int xc), .val (.int xd), .val (.int ln), .val (.int ix), .unset, .unset, .unset, .unset, .unset] [(.int ch1), (.int (1 : Int32)), (.ref b359), (.ref b359)])) rfl rfl (hb hby at_18)
  rw [own_narch hbx1_] at V364
  replace V359 : Arv Z h364 b359 k359 .char (4 : Int32) [(.int ch0), (.int ch1), (.int (0 : Int32)), (.int (0 : Int32))] (.int (0 : Int32)) := V364
  have N364 := Fr.snoc X364 N362 g_b359
  refine own_go st364 ?_
  replace O0 := O0.wr W364 g_b359
  have K365 := K363.wr W364 (Or.inr sz_b359)
  refine own_go (fun _ q => XS.dup X364.here hx rfl (hb hby at_19) rfl rfl q) ?_
  refine own_go (fun _ q => XS.iconst X364.here hx rfl (hb hby at_20) q) ?_
  refine own_go (fun _ q => XS.iloadN X364.here hx rfl (hb hby at_21) rfl q) ?_
  show own_Fin _ _ _ _ (T364.setTop (mkF m 22 #[.val (.int xa), .val (.int xb), .val (.int xc), .val (.int xd), .val (.int ln), .val (.int ix), .unset, .unset, .unset, .unset, .unset] [(.int xc), (.int (2 : Int32)), (.ref b359), (.ref b359)]))
  refine own_go (fun _ q => Jvm.Stand.ldcI X364 hx hown (mvT hZ (own_w hw 1 rfl)) (g := (mkF m 22 #[.val (.int xa), .val (.int xb), .val (.int xc), .val (.int xd), .val (.int ln), .val (.int ix), .unset, .unset, .unset, .unset, .unset] [(.int xc), (.int (2 : Int32)), (.ref b359), (.ref b359)])) rfl (hb hby at_22) q) ?_
  show own_Fin _ _ _ _ (T364.setTop (mkF m 24 #[.val (.int xa), .val (.int xb), .val (.int xc), .val (.int xd), .val (.int ln), .val (.int ix), .unset, .unset, .unset, .unset, .unset] [(.int (65535 : Int32)), (.int xc), (.int (2 : Int32)), (.ref b359), (.ref b359)]))
  refine own_go (fun _ q => XS.iand X364.here hx rfl (hb hby at_24) rfl q) ?_
  show own_Fin _ _ _ _ (T364.setTop (mkF m 25 #[.val (.int xa), .val (.int xb), .val (.int xc), .val (.int xd), .val (.int ln), .val (.int ix), .unset, .unset, .unset, .unset, .unset] [(.int (xc &&& (65535 : Int32))), (.int (2 : Int32)), (.ref b359), (.ref b359)]))
  refine own_go (fun _ q => XS.i2c X364.here hx rfl (hb hby at_25) rfl q) ?_
  show own_Fin _ _ _ _ (T364.setTop (mkF m 26 #[.val (.int xa), .val (.int xb), .val (.int xc), .val (.int xd), .val (.int ln), .val (.int ix), .unset, .unset, .unset, .unset, .unset] [(.int ((xc &&& (65535 : Int32)).toUInt32.toUInt16.toUInt32.toInt32)), (.int (2 : Int32)), (.ref b359), (.ref b359)]))
  obtain ⟨ch2, hd2, hbx2_⟩ : ∃ z, z = ((xc &&& (65535 : Int32)).toUInt32.toUInt16.toUInt32.toInt32) ∧ ¬ z < 0 ∧ ¬ (65535 : Int32) < z := ⟨_, rfl, own_ch16 _⟩
  rw [← hd2]
  show own_Fin _ _ _ _ (T364.setTop (mkF m 26 #[.val (.int xa), .val (.int xb), .val (.int xc), .val (.int xd), .val (.int ln), .val (.int ix), .unset, .unset, .unset, .unset, .unset] [(.int ch2), (.int (2 : Int32)), (.ref b359), (.ref b359)]))
  obtain ⟨T366, h366, X366, e366, W366, V366, st366⟩ := own_stC X364 hx hZ e364 V359 (by decide) (i := 2) rfl (Nat.le_of_ble_eq_true rfl) (g := (mkF m 26 #[.val (.int xa), .val (.int xb), .val (.int xc), .val (.int xd), .val (.int ln), .val (.int ix), .unset, .unset, .unset, .unset, .unset] [(.int ch2), (.int (2 : Int32)), (.ref b359), (.ref b359)])) rfl rfl (hb hby at_26)
  rw [own_narch hbx2_] at V366
  replace V359 : Arv Z h366 b359 k359 .char (4 : Int32) [(.int ch0), (.int ch1), (.int ch2), (.int (0 : Int32))] (.int (0 : Int32)) := V366
  have N366 := Fr.snoc X366 N364 g_b359
  refine own_go st366 ?_
  replace O0 := O0.wr W366 g_b359
  have K367 := K365.wr W366 (Or.inr sz_b359)
  refine own_go (fun _ q => XS.dup X366.here hx rfl (hb hby at_27) rfl rfl q) ?_
  refine own_go (fun _ q => XS.iconst X366.here hx rfl (hb hby at_28) q) ?_
  refine own_go (fun _ q => XS.iloadN X366.here hx rfl (hb hby at_29) rfl q) ?_
  show own_Fin _ _ _ _ (T366.setTop (mkF m 30 #[.val (.int xa), .val (.int xb), .val (.int xc), .val (.int xd), .val (.int ln), .val (.int ix), .unset, .unset, .unset, .unset, .unset] [(.int xd), (.int (3 : Int32)), (.ref b359), (.ref b359)]))
  refine own_go (fun _ q => Jvm.Stand.ldcI X366 hx hown (mvT hZ (own_w hw 1 rfl)) (g := (mkF m 30 #[.val (.int xa), .val (.int xb), .val (.int xc), .val (.int xd), .val (.int ln), .val (.int ix), .unset, .unset, .unset, .unset, .unset] [(.int xd), (.int (3 : Int32)), (.ref b359), (.ref b359)])) rfl (hb hby at_30) q) ?_
  show own_Fin _ _ _ _ (T366.setTop (mkF m 32 #[.val (.int xa), .val (.int xb), .val (.int xc), .val (.int xd), .val (.int ln), .val (.int ix), .unset, .unset, .unset, .unset, .unset] [(.int (65535 : Int32)), (.int xd), (.int (3 : Int32)), (.ref b359), (.ref b359)]))
  refine own_go (fun _ q => XS.iand X366.here hx rfl (hb hby at_32) rfl q) ?_
  show own_Fin _ _ _ _ (T366.setTop (mkF m 33 #[.val (.int xa), .val (.int xb), .val (.int xc), .val (.int xd), .val (.int ln), .val (.int ix), .unset, .unset, .unset, .unset, .unset] [(.int (xd &&& (65535 : Int32))), (.int (3 : Int32)), (.ref b359), (.ref b359)]))
  refine own_go (fun _ q => XS.i2c X366.here hx rfl (hb hby at_33) rfl q) ?_
  show own_Fin _ _ _ _ (T366.setTop (mkF m 34 #[.val (.int xa), .val (.int xb), .val (.int xc), .val (.int xd), .val (.int ln), .val (.int ix), .unset, .unset, .unset, .unset, .unset] [(.int ((xd &&& (65535 : Int32)).toUInt32.toUInt16.toUInt32.toInt32)), (.int (3 : Int32)), (.ref b359), (.ref b359)]))
  obtain ⟨ch3, hd3, hbx3_⟩ : ∃ z, z = ((xd &&& (65535 : Int32)).toUInt32.toUInt16.toUInt32.toInt32) ∧ ¬ z < 0 ∧ ¬ (65535 : Int32) < z := ⟨_, rfl, own_ch16 _⟩
  rw [← hd3]
  have hb4 : ∀ c ∈ ([ch0, ch1, ch2, ch3] : List Int32), ¬ c < 0 ∧ ¬ (65535 : Int32) < c := by intro c hc; simp only [List.mem_cons, List.not_mem_nil, or_false] at hc; rcases hc with rfl | rfl | rfl | rfl <;> assumption
  show own_Fin _ _ _ _ (T366.setTop (mkF m 34 #[.val (.int xa), .val (.int xb), .val (.int xc), .val (.int xd), .val (.int ln), .val (.int ix), .unset, .unset, .unset, .unset, .unset] [(.int ch3), (.int (3 : Int32)), (.ref b359), (.ref b359)]))
  obtain ⟨T368, h368, X368, e368, W368, V368, st368⟩ := own_stC X366 hx hZ e366 V359 (by decide) (i := 3) rfl (Nat.le_of_ble_eq_true rfl) (g := (mkF m 34 #[.val (.int xa), .val (.int xb), .val (.int xc), .val (.int xd), .val (.int ln), .val (.int ix), .unset, .unset, .unset, .unset, .unset] [(.int ch3), (.int (3 : Int32)), (.ref b359), (.ref b359)])) rfl rfl (hb hby at_34)
  rw [own_narch hbx3_] at V368
  replace V359 : Arv Z h368 b359 k359 .char (4 : Int32) [(.int ch0), (.int ch1), (.int ch2), (.int ch3)] (.int (0 : Int32)) := V368
  have N368 := Fr.snoc X368 N366 g_b359
  refine own_go st368 ?_
  replace O0 := O0.wr W368 g_b359
  have K369 := K367.wr W368 (Or.inr sz_b359)
  refine own_go (fun _ q => XS.astore X368.here hx rfl (hb hby at_35) rfl rfl (l' := #[.val (.int xa), .val (.int xb), .val (.int xc), .val (.int xd), .val (.int ln), .val (.int ix), .val (.ref b359), .unset, .unset, .unset, .unset]) rfl q) ?_
  refine own_go (fun _ q => XS.iload X368.here hx rfl (hb hby at_37) rfl q) ?_
  refine own_go (fun _ q => XS.iconst X368.here hx rfl (hb hby at_39) q) ?_
  show own_Fin _ _ _ _ (T368.setTop (mkF m 40 #[.val (.int xa), .val (.int xb), .val (.int xc), .val (.int xd), .val (.int ln), .val (.int ix), .val (.ref b359), .unset, .unset, .unset, .unset] [(.int (3 : Int32)), (.int ln)]))
  refine own_go (fun _ q => XS.iand X368.here hx rfl (hb hby at_40) rfl q) ?_
  show own_Fin _ _ _ _ (T368.setTop (mkF m 41 #[.val (.int xa), .val (.int xb), .val (.int xc), .val (.int xd), .val (.int ln), .val (.int ix), .val (.ref b359), .unset, .unset, .unset, .unset] [(.int (ln &&& (3 : Int32)))]))
  rcases own_and3i ln with hs41 | hs41 | hs41 | hs41
  · skip
    show own_Fin _ _ _ _ (T368.setTop (mkF m 41 #[.val (.int xa), .val (.int xb), .val (.int xc), .val (.int xd), .val (.int ln), .val (.int ix), .val (.ref b359), .unset, .unset, .unset, .unset] [(.int (ln &&& (3 : Int32)))]))
    rw [hs41]
    refine own_go (fun _ q => XS.iconst X368.here hx rfl (hb hby at_41) q) ?_
    show own_Fin _ _ _ _ (T368.setTop (mkF m 42 #[.val (.int xa), .val (.int xb), .val (.int xc), .val (.int xd), .val (.int ln), .val (.int ix), .val (.ref b359), .unset, .unset, .unset, .unset] [(.int (1 : Int32)), (.int (0 : Int32))]))
    refine own_go (fun _ q => XS.iadd X368.here hx rfl (hb hby at_42) rfl q) ?_
    refine own_go (fun _ q => XS.istore X368.here hx rfl (hb hby at_43) rfl (l' := #[.val (.int xa), .val (.int xb), .val (.int xc), .val (.int xd), .val (.int ln), .val (.int ix), .val (.ref b359), .val (.int (1 : Int32)), .unset, .unset, .unset]) rfl q) ?_
    refine own_go (fun _ q => XS.iload X368.here hx rfl (hb hby at_45) rfl q) ?_
    show own_Fin _ _ _ _ (T368.setTop (mkF m 47 #[.val (.int xa), .val (.int xb), .val (.int xc), .val (.int xd), .val (.int ln), .val (.int ix), .val (.ref b359), .val (.int (1 : Int32)), .unset, .unset, .unset] [(.int ix)]))
    refine own_go (fun _ q => Jvm.Stand.ldcI X368 hx hown (mvT hZ (own_w hw 2 rfl)) (g := (mkF m 47 #[.val (.int xa), .val (.int xb), .val (.int xc), .val (.int xd), .val (.int ln), .val (.int ix), .val (.ref b359), .val (.int (1 : Int32)), .unset, .unset, .unset] [(.int ix)])) rfl (hb hby at_47) q) ?_
    show own_Fin _ _ _ _ (T368.setTop (mkF m 49 #[.val (.int xa), .val (.int xb), .val (.int xc), .val (.int xd), .val (.int ln), .val (.int ix), .val (.ref b359), .val (.int (1 : Int32)), .unset, .unset, .unset] [(.int (2147483647 : Int32)), (.int ix)]))
    refine own_go (fun _ q => XS.iand X368.here hx rfl (hb hby at_49) rfl q) ?_
    refine own_go (fun _ q => XS.iload X368.here hx rfl (hb hby at_50) rfl q) ?_
    show own_Fin _ _ _ _ (T368.setTop (mkF m 52 #[.val (.int xa), .val (.int xb), .val (.int xc), .val (.int xd), .val (.int ln), .val (.int ix), .val (.ref b359), .val (.int (1 : Int32)), .unset, .unset, .unset] [(.int (1 : Int32)), (.int (ix &&& (2147483647 : Int32)))]))
    refine own_go (fun _ q => iremM X368 hx rfl  (hb hby at_52) rfl (by decide) q) ?_
    show own_Fin _ _ _ _ (T368.setTop (mkF m 53 #[.val (.int xa), .val (.int xb), .val (.int xc), .val (.int xd), .val (.int ln), .val (.int ix), .val (.ref b359), .val (.int (1 : Int32)), .unset, .unset, .unset] [(.int ((ix &&& (2147483647 : Int32)) % (1 : Int32)))]))
    have hs53 := own_mod1 ix
    show own_Fin _ _ _ _ (T368.setTop (mkF m 53 #[.val (.int xa), .val (.int xb), .val (.int xc), .val (.int xd), .val (.int ln), .val (.int ix), .val (.ref b359), .val (.int (1 : Int32)), .unset, .unset, .unset] [(.int ((ix &&& (2147483647 : Int32)) % (1 : Int32)))]))
    rw [hs53]
    refine own_go (fun _ q => XS.istore X368.here hx rfl (hb hby at_53) rfl (l' := #[.val (.int xa), .val (.int xb), .val (.int xc), .val (.int xd), .val (.int ln), .val (.int ix), .val (.ref b359), .val (.int (1 : Int32)), .val (.int (0 : Int32)), .unset, .unset]) rfl q) ?_
    refine own_go (fun _ q => XS.aload X368.here hx rfl (hb hby at_55) rfl rfl q) ?_
    refine own_go (fun _ q => XS.iload X368.here hx rfl (hb hby at_57) rfl q) ?_
    show own_Fin _ _ _ _ (T368.setTop (mkF m 59 #[.val (.int xa), .val (.int xb), .val (.int xc), .val (.int xd), .val (.int ln), .val (.int ix), .val (.ref b359), .val (.int (1 : Int32)), .val (.int (0 : Int32)), .unset, .unset] [(.int (1 : Int32)), (.ref b359)]))
    obtain ⟨_, _, ⟨T370, L370, k370, n370⟩, -, X370, ⟨Lc370, hQ370, l370, y370, z370⟩, st370⟩ := Jvm.LawKit.callS X368 hx (y := (⟨"com/example/iron_satchel/ironsatchel/PercentEncodingIsEscapeAtPinLaw", "make", "([CI)Ljava/lang/String;"⟩ : MethodName)) hown (mvT hZ (own_w hw 3 rfl)) (mvT hZ (own_w hw 4 rfl)) (mvT hZ (own_w hw 5 rfl)) (mvT hZ (own_w hw 6 rfl)) (by decide) (backOf (W := 0) (rm_mk1 l Z a0 hw [] b359 k359 ch0 ch1 ch2 ch3 gc h368 n0 (Nat.le_trans Z0 K369.1) V359 hb4 S_C hcs O0 S_A S_H S_L) hZ (own_w hw 6 rfl) (own_w hw 5 rfl) (by decide) (by decide)) (g := (mkF m 59 #[.val (.int xa), .val (.int xb), .val (.int xc), .val (.int xd), .val (.int ln), .val (.int ix), .val (.ref b359), .val (.int (1 : Int32)), .val (.int (0 : Int32)), .unset, .unset] [(.int (1 : Int32)), (.ref b359)])) rfl (by rw [hml]; rfl) (argsL := [(.ref b359), (.int (1 : Int32))]) (rest := []) (lenOf pd_25 rfl) rfl (by show 2 * 0 + _ ≤ _; exact Nat.le_of_eq rfl) (hb hby at_59) (fun _ _ => ⟨rfl, e368, (by decide : 1 + 4 ≤ _), (by decide : 4 + 8 ≤ _)⟩)
    dsimp only [Pt.U, Pt.locs, Pt.cells, Pt.slots] at X370 l370 y370 z370 st370 hQ370
    subst l370 y370 z370
    obtain ⟨x370, t370, rfl, N370q, KK370, szx370, szt370, SS370⟩ := hQ370
    have N370 := Fr.app N368 N370q
    have sz_x370 : h0.size ≤ x370 := Nat.le_trans K369.1 szx370
    have g_x370 : n0 ≤ x370 := Nat.le_trans Z0 sz_x370
    have ne371 : dg ≠ x370 := O0.ne V_dg.lt g_x370
    have ne372 : b359 ≠ x370 := Nat.ne_of_lt (Nat.lt_of_lt_of_le V359.lt szx370)
    have sz_t370 : h0.size ≤ t370 := Nat.le_trans K369.1 szt370
    have g_t370 : n0 ≤ t370 := Nat.le_trans Z0 sz_t370
    have ne373 : dg ≠ t370 := O0.ne V_dg.lt g_t370
    have ne374 : b359 ≠ t370 := Nat.ne_of_lt (Nat.lt_of_lt_of_le V359.lt szt370)
    replace O0 := O0.keep KK370 all0
    replace V359 := V359.keep KK370 nin0
    have K375 := K369.trans KK370 all0
    refine own_go st370 ?_
    refine own_go (fun _ q => XS.astore X370.here hx rfl (hb hby at_62) rfl rfl (l' := #[.val (.int xa), .val (.int xb), .val (.int xc), .val (.int xd), .val (.int ln), .val (.int ix), .val (.ref b359), .val (.int (1 : Int32)), .val (.int (0 : Int32)), .val (.ref x370), .unset]) rfl q) ?_
    refine own_go (fun _ q => XS.iload X370.here hx rfl (hb hby at_64) rfl q) ?_
    refine own_go (fun _ q => XS.iconst X370.here hx rfl (hb hby at_66) q) ?_
    show own_Fin _ _ _ _ (T370.setTop (mkF m 67 #[.val (.int xa), .val (.int xb), .val (.int xc), .val (.int xd), .val (.int ln), .val (.int ix), .val (.ref b359), .val (.int (1 : Int32)), .val (.int (0 : Int32)), .val (.ref x370), .unset] [(.int (2 : Int32)), (.int (0 : Int32))]))
    refine own_go (fun _ q => XS.iadd X370.here hx rfl (hb hby at_67) rfl q) ?_
    refine own_go (fun _ q => XS.iload X370.here hx rfl (hb hby at_68) rfl q) ?_
    show own_Fin _ _ _ _ (T370.setTop (mkF m 70 #[.val (.int xa), .val (.int xb), .val (.int xc), .val (.int xd), .val (.int ln), .val (.int ix), .val (.ref b359), .val (.int (1 : Int32)), .val (.int (0 : Int32)), .val (.ref x370), .unset] [(.int (1 : Int32)), (.int (2 : Int32))]))
    refine own_go (fun _ q => XS.icmpYes X370.here hx rfl (pc0 := 70) (pc' := 113) rfl (hb hby at_70) rfl (flt (by decide : ¬ (2 : Int32) < (1 : Int32))).2.1 (by decide) (by decide) q) ?_
    refine own_go (fun _ q => XS.iconst X370.here hx rfl (hb hby at_113) q) ?_
    refine own_go (fun _ q => XS.istore X370.here hx rfl (hb hby at_114) rfl (l' := #[.val (.int xa), .val (.int xb), .val (.int xc), .val (.int xd), .val (.int ln), .val (.int ix), .val (.ref b359), .val (.int (1 : Int32)), .val (.int (0 : Int32)), .val (.ref x370), .val (.int (0 : Int32))]) rfl q) ?_
    refine own_go (fun _ q => XS.aload X370.here hx rfl (hb hby at_116) rfl rfl q) ?_
    refine own_go (fun _ q => XS.iload X370.here hx rfl (hb hby at_118) rfl q) ?_
    show own_Fin _ _ _ _ (T370.setTop (mkF m 120 #[.val (.int xa), .val (.int xb), .val (.int xc), .val (.int xd), .val (.int ln), .val (.int ix), .val (.ref b359), .val (.int (1 : Int32)), .val (.int (0 : Int32)), .val (.ref x370), .val (.int (0 : Int32))] [(.int (0 : Int32)), (.ref x370)]))
    obtain ⟨_, _, ⟨T376, L376, k376, n376⟩, -, X376, ⟨Lc376, hQ376, l376, y376, z376⟩, st376⟩ := Jvm.LawKit.callS X370 hx (y := (⟨"com/example/iron_satchel/ironsatchel/PercentEncoding", "isEscapeAt", "(Ljava/lang/String;I)Z"⟩ : MethodName)) hown (mvT hZ (own_w hw 36 rfl)) (mvT hZ (own_w hw 37 rfl)) (mvT hZ (own_w hw 38 rfl)) (mvT hZ (own_w hw 39 rfl)) (by decide) (backOf (W := 0) (rm_ie0 l Z a0 hw [] x370 t370 ([ch0] : List Int32) (0 : Int32) ch0 gc gs T370.heap n0 (Nat.le_trans Z0 K375.1) SS370 (own_m 0 rfl) (by decide) (by show (0 : Int32) < (1 : Int32); decide) rfl (by show (0 : Int32) < ((2 : Int32) >>> ((1 : Int32) &&& 31)); decide) (by show ¬ ((0 : Int32) <<< ((1 : Int32) &&& 31)) < 0 ∧ ((0 : Int32) <<< ((1 : Int32) &&& 31)) < (2 : Int32); decide) (by show ¬ (((0 : Int32) <<< ((1 : Int32) &&& 31)) + (1 : Int32)) < 0 ∧ (((0 : Int32) <<< ((1 : Int32) &&& 31)) + (1 : Int32)) < (2 : Int32); decide) rfl rfl (by show ¬ ((0 : Int32) + (2 : Int32)) < (1 : Int32); decide) S_F hgs S_C hcs O0 S_A S_H S_L) hZ (own_w hw 39 rfl) (own_w hw 38 rfl) (by decide) (by decide)) (g := (mkF m 120 #[.val (.int xa), .val (.int xb), .val (.int xc), .val (.int xd), .val (.int ln), .val (.int ix), .val (.ref b359), .val (.int (1 : Int32)), .val (.int (0 : Int32)), .val (.ref x370), .val (.int (0 : Int32))] [(.int (0 : Int32)), (.ref x370)])) rfl (by rw [hml]; rfl) (argsL := [(.ref x370), (.int (0 : Int32))]) (rest := []) (lenOf pd_26 rfl) rfl (by show 2 * 0 + _ ≤ _; exact Nat.le_of_eq rfl) (hb hby at_120) (fun _ _ => ⟨rfl, rfl, (by decide : 5 + 0 ≤ _), (by decide : 12 + 0 ≤ _)⟩)
    dsimp only [Pt.U, Pt.locs, Pt.cells, Pt.slots] at X376 l376 y376 z376 st376 hQ376
    subst l376 y376 z376
    obtain ⟨rfl, N376q, e376⟩ := hQ376
    have N376 := Fr.app N370 N376q
    refine own_go st376 ?_
    refine own_go (fun _ q => XS.iload X376.here hx rfl (hb hby at_123) rfl q) ?_
    show own_Fin _ _ _ _ (T376.setTop (mkF m 125 #[.val (.int xa), .val (.int xb), .val (.int xc), .val (.int xd), .val (.int ln), .val (.int ix), .val (.ref b359), .val (.int (1 : Int32)), .val (.int (0 : Int32)), .val (.ref x370), .val (.int (0 : Int32))] [(.int (0 : Int32)), (.int (0 : Int32))]))
    refine own_go (fun _ q => XS.icmpNo X376.here hx rfl (hb hby at_125) rfl (teq (by decide : (0 : Int32) = (0 : Int32))).2 q) ?_
    refine own_go (fun _ q => XS.iconst X376.here hx rfl (hb hby at_128) q) ?_
    refine own_go (fun _ q => XS.goto X376.here hx rfl (pc0 := 129) (pc' := 133) rfl (hb hby at_129) (by decide) (by decide) q) ?_
    show own_Fin _ _ _ _ (T376.setTop (mkF m 133 #[.val (.int xa), .val (.int xb), .val (.int xc), .val (.int xd), .val (.int ln), .val (.int ix), .val (.ref b359), .val (.int (1 : Int32)), .val (.int (0 : Int32)), .val (.ref x370), .val (.int (0 : Int32))] [(.int (1 : Int32))]))
    refine own_retI X376 hx Bd (t := .boolean) Bd.returns rfl (by simp) (hb hby at_133) ?_ (by decide) (by decide)
    show (Q_rm_law Z xa xb xc xd ln ix gc gs dg kg h0 n0) (some (.int (1 : Int32))) T376.heap _
    rw [e376]
    exact ⟨rfl, N376⟩
  · skip
    show own_Fin _ _ _ _ (T368.setTop (mkF m 41 #[.val (.int xa), .val (.int xb), .val (.int xc), .val (.int xd), .val (.int ln), .val (.int ix), .val (.ref b359), .unset, .unset, .unset, .unset] [(.int (ln &&& (3 : Int32)))]))
    rw [hs41]
    refine own_go (fun _ q => XS.iconst X368.here hx rfl (hb hby at_41) q) ?_
    show own_Fin _ _ _ _ (T368.setTop (mkF m 42 #[.val (.int xa), .val (.int xb), .val (.int xc), .val (.int xd), .val (.int ln), .val (.int ix), .val (.ref b359), .unset, .unset, .unset, .unset] [(.int (1 : Int32)), (.int (1 : Int32))]))
    refine own_go (fun _ q => XS.iadd X368.here hx rfl (hb hby at_42) rfl q) ?_
    refine own_go (fun _ q => XS.istore X368.here hx rfl (hb hby at_43) rfl (l' := #[.val (.int xa), .val (.int xb), .val (.int xc), .val (.int xd), .val (.int ln), .val (.int ix), .val (.ref b359), .val (.int (2 : Int32)), .unset, .unset, .unset]) rfl q) ?_
    refine own_go (fun _ q => XS.iload X368.here hx rfl (hb hby at_45) rfl q) ?_
    show own_Fin _ _ _ _ (T368.setTop (mkF m 47 #[.val (.int xa), .val (.int xb), .val (.int xc), .val (.int xd), .val (.int ln), .val (.int ix), .val (.ref b359), .val (.int (2 : Int32)), .unset, .unset, .unset] [(.int ix)]))
    refine own_go (fun _ q => Jvm.Stand.ldcI X368 hx hown (mvT hZ (own_w hw 2 rfl)) (g := (mkF m 47 #[.val (.int xa), .val (.int xb), .val (.int xc), .val (.int xd), .val (.int ln), .val (.int ix), .val (.ref b359), .val (.int (2 : Int32)), .unset, .unset, .unset] [(.int ix)])) rfl (hb hby at_47) q) ?_
    show own_Fin _ _ _ _ (T368.setTop (mkF m 49 #[.val (.int xa), .val (.int xb), .val (.int xc), .val (.int xd), .val (.int ln), .val (.int ix), .val (.ref b359), .val (.int (2 : Int32)), .unset, .unset, .unset] [(.int (2147483647 : Int32)), (.int ix)]))
    refine own_go (fun _ q => XS.iand X368.here hx rfl (hb hby at_49) rfl q) ?_
    refine own_go (fun _ q => XS.iload X368.here hx rfl (hb hby at_50) rfl q) ?_
    show own_Fin _ _ _ _ (T368.setTop (mkF m 52 #[.val (.int xa), .val (.int xb), .val (.int xc), .val (.int xd), .val (.int ln), .val (.int ix), .val (.ref b359), .val (.int (2 : Int32)), .unset, .unset, .unset] [(.int (2 : Int32)), (.int (ix &&& (2147483647 : Int32)))]))
    refine own_go (fun _ q => iremM X368 hx rfl  (hb hby at_52) rfl (by decide) q) ?_
    show own_Fin _ _ _ _ (T368.setTop (mkF m 53 #[.val (.int xa), .val (.int xb), .val (.int xc), .val (.int xd), .val (.int ln), .val (.int ix), .val (.ref b359), .val (.int (2 : Int32)), .unset, .unset, .unset] [(.int ((ix &&& (2147483647 : Int32)) % (2 : Int32)))]))
    rcases own_mod2 ix with hs53 | hs53
    · skip
      show own_Fin _ _ _ _ (T368.setTop (mkF m 53 #[.val (.int xa), .val (.int xb), .val (.int xc), .val (.int xd), .val (.int ln), .val (.int ix), .val (.ref b359), .val (.int (2 : Int32)), .unset, .unset, .unset] [(.int ((ix &&& (2147483647 : Int32)) % (2 : Int32)))]))
      rw [hs53]
      refine own_go (fun _ q => XS.istore X368.here hx rfl (hb hby at_53) rfl (l' := #[.val (.int xa), .val (.int xb), .val (.int xc), .val (.int xd), .val (.int ln), .val (.int ix), .val (.ref b359), .val (.int (2 : Int32)), .val (.int (0 : Int32)), .unset, .unset]) rfl q) ?_
      refine own_go (fun _ q => XS.aload X368.here hx rfl (hb hby at_55) rfl rfl q) ?_
      refine own_go (fun _ q => XS.iload X368.here hx rfl (hb hby at_57) rfl q) ?_
      show own_Fin _ _ _ _ (T368.setTop (mkF m 59 #[.val (.int xa), .val (.int xb), .val (.int xc), .val (.int xd), .val (.int ln), .val (.int ix), .val (.ref b359), .val (.int (2 : Int32)), .val (.int (0 : Int32)), .unset, .unset] [(.int (2 : Int32)), (.ref b359)]))
      obtain ⟨_, _, ⟨T377, L377, k377, n377⟩, -, X377, ⟨Lc377, hQ377, l377, y377, z377⟩, st377⟩ := Jvm.LawKit.callS X368 hx (y := (⟨"com/example/iron_satchel/ironsatchel/PercentEncodingIsEscapeAtPinLaw", "make", "([CI)Ljava/lang/String;"⟩ : MethodName)) hown (mvT hZ (own_w hw 3 rfl)) (mvT hZ (own_w hw 4 rfl)) (mvT hZ (own_w hw 5 rfl)) (mvT hZ (own_w hw 6 rfl)) (by decide) (backOf (W := 0) (rm_mk2 l Z a0 hw [] b359 k359 ch0 ch1 ch2 ch3 gc h368 n0 (Nat.le_trans Z0 K369.1) V359 hb4 S_C hcs O0 S_A S_H S_L) hZ (own_w hw 6 rfl) (own_w hw 5 rfl) (by decide) (by decide)) (g := (mkF m 59 #[.val (.int xa), .val (.int xb), .val (.int xc), .val (.int xd), .val (.int ln), .val (.int ix), .val (.ref b359), .val (.int (2 : Int32)), .val (.int (0 : Int32)), .unset, .unset] [(.int (2 : Int32)), (.ref b359)])) rfl (by rw [hml]; rfl) (argsL := [(.ref b359), (.int (2 : Int32))]) (rest := []) (lenOf pd_25 rfl) rfl (by show 2 * 0 + _ ≤ _; exact Nat.le_of_eq rfl) (hb hby at_59) (fun _ _ => ⟨rfl, e368, (by decide : 1 + 4 ≤ _), (by decide : 4 + 12 ≤ _)⟩)
      dsimp only [Pt.U, Pt.locs, Pt.cells, Pt.slots] at X377 l377 y377 z377 st377 hQ377
      subst l377 y377 z377
      obtain ⟨x377, t377, rfl, N377q, KK377, szx377, szt377, SS377⟩ := hQ377
      have N377 := Fr.app N368 N377q
      have sz_x377 : h0.size ≤ x377 := Nat.le_trans K369.1 szx377
      have g_x377 : n0 ≤ x377 := Nat.le_trans Z0 sz_x377
      have ne378 : dg ≠ x377 := O0.ne V_dg.lt g_x377
      have ne379 : b359 ≠ x377 := Nat.ne_of_lt (Nat.lt_of_lt_of_le V359.lt szx377)
      have sz_t377 : h0.size ≤ t377 := Nat.le_trans K369.1 szt377
      have g_t377 : n0 ≤ t377 := Nat.le_trans Z0 sz_t377
      have ne380 : dg ≠ t377 := O0.ne V_dg.lt g_t377
      have ne381 : b359 ≠ t377 := Nat.ne_of_lt (Nat.lt_of_lt_of_le V359.lt szt377)
      replace O0 := O0.keep KK377 all0
      replace V359 := V359.keep KK377 nin0
      have K382 := K369.trans KK377 all0
      refine own_go st377 ?_
      refine own_go (fun _ q => XS.astore X377.here hx rfl (hb hby at_62) rfl rfl (l' := #[.val (.int xa), .val (.int xb), .val (.int xc), .val (.int xd), .val (.int ln), .val (.int ix), .val (.ref b359), .val (.int (2 : Int32)), .val (.int (0 : Int32)), .val (.ref x377), .unset]) rfl q) ?_
      refine own_go (fun _ q => XS.iload X377.here hx rfl (hb hby at_64) rfl q) ?_
      refine own_go (fun _ q => XS.iconst X377.here hx rfl (hb hby at_66) q) ?_
      show own_Fin _ _ _ _ (T377.setTop (mkF m 67 #[.val (.int xa), .val (.int xb), .val (.int xc), .val (.int xd), .val (.int ln), .val (.int ix), .val (.ref b359), .val (.int (2 : Int32)), .val (.int (0 : Int32)), .val (.ref x377), .unset] [(.int (2 : Int32)), (.int (0 : Int32))]))
      refine own_go (fun _ q => XS.iadd X377.here hx rfl (hb hby at_67) rfl q) ?_
      refine own_go (fun _ q => XS.iload X377.here hx rfl (hb hby at_68) rfl q) ?_
      show own_Fin _ _ _ _ (T377.setTop (mkF m 70 #[.val (.int xa), .val (.int xb), .val (.int xc), .val (.int xd), .val (.int ln), .val (.int ix), .val (.ref b359), .val (.int (2 : Int32)), .val (.int (0 : Int32)), .val (.ref x377), .unset] [(.int (2 : Int32)), (.int (2 : Int32))]))
      refine own_go (fun _ q => XS.icmpYes X377.here hx rfl (pc0 := 70) (pc' := 113) rfl (hb hby at_70) rfl (flt (by decide : ¬ (2 : Int32) < (2 : Int32))).2.1 (by decide) (by decide) q) ?_
      refine own_go (fun _ q => XS.iconst X377.here hx rfl (hb hby at_113) q) ?_
      refine own_go (fun _ q => XS.istore X377.here hx rfl (hb hby at_114) rfl (l' := #[.val (.int xa), .val (.int xb), .val (.int xc), .val (.int xd), .val (.int ln), .val (.int ix), .val (.ref b359), .val (.int (2 : Int32)), .val (.int (0 : Int32)), .val (.ref x377), .val (.int (0 : Int32))]) rfl q) ?_
      refine own_go (fun _ q => XS.aload X377.here hx rfl (hb hby at_116) rfl rfl q) ?_
      refine own_go (fun _ q => XS.iload X377.here hx rfl (hb hby at_118) rfl q) ?_
      show own_Fin _ _ _ _ (T377.setTop (mkF m 120 #[.val (.int xa), .val (.int xb), .val (.int xc), .val (.int xd), .val (.int ln), .val (.int ix), .val (.ref b359), .val (.int (2 : Int32)), .val (.int (0 : Int32)), .val (.ref x377), .val (.int (0 : Int32))] [(.int (0 : Int32)), (.ref x377)]))
      obtain ⟨_, _, ⟨T383, L383, k383, n383⟩, -, X383, ⟨Lc383, hQ383, l383, y383, z383⟩, st383⟩ := Jvm.LawKit.callS X377 hx (y := (⟨"com/example/iron_satchel/ironsatchel/PercentEncoding", "isEscapeAt", "(Ljava/lang/String;I)Z"⟩ : MethodName)) hown (mvT hZ (own_w hw 36 rfl)) (mvT hZ (own_w hw 37 rfl)) (mvT hZ (own_w hw 38 rfl)) (mvT hZ (own_w hw 39 rfl)) (by decide) (backOf (W := 0) (rm_ie0 l Z a0 hw [] x377 t377 ([ch0, ch1] : List Int32) (0 : Int32) ch0 gc gs T377.heap n0 (Nat.le_trans Z0 K382.1) SS377 (own_m 0 rfl) (by decide) (by show (0 : Int32) < (2 : Int32); decide) rfl (by show (0 : Int32) < ((4 : Int32) >>> ((1 : Int32) &&& 31)); decide) (by show ¬ ((0 : Int32) <<< ((1 : Int32) &&& 31)) < 0 ∧ ((0 : Int32) <<< ((1 : Int32) &&& 31)) < (4 : Int32); decide) (by show ¬ (((0 : Int32) <<< ((1 : Int32) &&& 31)) + (1 : Int32)) < 0 ∧ (((0 : Int32) <<< ((1 : Int32) &&& 31)) + (1 : Int32)) < (4 : Int32); decide) rfl rfl (by show ¬ ((0 : Int32) + (2 : Int32)) < (2 : Int32); decide) S_F hgs S_C hcs O0 S_A S_H S_L) hZ (own_w hw 39 rfl) (own_w hw 38 rfl) (by decide) (by decide)) (g := (mkF m 120 #[.val (.int xa), .val (.int xb), .val (.int xc), .val (.int xd), .val (.int ln), .val (.int ix), .val (.ref b359), .val (.int (2 : Int32)), .val (.int (0 : Int32)), .val (.ref x377), .val (.int (0 : Int32))] [(.int (0 : Int32)), (.ref x377)])) rfl (by rw [hml]; rfl) (argsL := [(.ref x377), (.int (0 : Int32))]) (rest := []) (lenOf pd_26 rfl) rfl (by show 2 * 0 + _ ≤ _; exact Nat.le_of_eq rfl) (hb hby at_120) (fun _ _ => ⟨rfl, rfl, (by decide : 5 + 0 ≤ _), (by decide : 16 + 0 ≤ _)⟩)
      dsimp only [Pt.U, Pt.locs, Pt.cells, Pt.slots] at X383 l383 y383 z383 st383 hQ383
      subst l383 y383 z383
      obtain ⟨rfl, N383q, e383⟩ := hQ383
      have N383 := Fr.app N377 N383q
      refine own_go st383 ?_
      refine own_go (fun _ q => XS.iload X383.here hx rfl (hb hby at_123) rfl q) ?_
      show own_Fin _ _ _ _ (T383.setTop (mkF m 125 #[.val (.int xa), .val (.int xb), .val (.int xc), .val (.int xd), .val (.int ln), .val (.int ix), .val (.ref b359), .val (.int (2 : Int32)), .val (.int (0 : Int32)), .val (.ref x377), .val (.int (0 : Int32))] [(.int (0 : Int32)), (.int (0 : Int32))]))
      refine own_go (fun _ q => XS.icmpNo X383.here hx rfl (hb hby at_125) rfl (teq (by decide : (0 : Int32) = (0 : Int32))).2 q) ?_
      refine own_go (fun _ q => XS.iconst X383.here hx rfl (hb hby at_128) q) ?_
      refine own_go (fun _ q => XS.goto X383.here hx rfl (pc0 := 129) (pc' := 133) rfl (hb hby at_129) (by decide) (by decide) q) ?_
      show own_Fin _ _ _ _ (T383.setTop (mkF m 133 #[.val (.int xa), .val (.int xb), .val (.int xc), .val (.int xd), .val (.int ln), .val (.int ix), .val (.ref b359), .val (.int (2 : Int32)), .val (.int (0 : Int32)), .val (.ref x377), .val (.int (0 : Int32))] [(.int (1 : Int32))]))
      refine own_retI X383 hx Bd (t := .boolean) Bd.returns rfl (by simp) (hb hby at_133) ?_ (by decide) (by decide)
      show (Q_rm_law Z xa xb xc xd ln ix gc gs dg kg h0 n0) (some (.int (1 : Int32))) T383.heap _
      rw [e383]
      exact ⟨rfl, N383⟩
    · skip
      show own_Fin _ _ _ _ (T368.setTop (mkF m 53 #[.val (.int xa), .val (.int xb), .val (.int xc), .val (.int xd), .val (.int ln), .val (.int ix), .val (.ref b359), .val (.int (2 : Int32)), .unset, .unset, .unset] [(.int ((ix &&& (2147483647 : Int32)) % (2 : Int32)))]))
      rw [hs53]
      refine own_go (fun _ q => XS.istore X368.here hx rfl (hb hby at_53) rfl (l' := #[.val (.int xa), .val (.int xb), .val (.int xc), .val (.int xd), .val (.int ln), .val (.int ix), .val (.ref b359), .val (.int (2 : Int32)), .val (.int (1 : Int32)), .unset, .unset]) rfl q) ?_
      refine own_go (fun _ q => XS.aload X368.here hx rfl (hb hby at_55) rfl rfl q) ?_
      refine own_go (fun _ q => XS.iload X368.here hx rfl (hb hby at_57) rfl q) ?_
      show own_Fin _ _ _ _ (T368.setTop (mkF m 59 #[.val (.int xa), .val (.int xb), .val (.int xc), .val (.int xd), .val (.int ln), .val (.int ix), .val (.ref b359), .val (.int (2 : Int32)), .val (.int (1 : Int32)), .unset, .unset] [(.int (2 : Int32)), (.ref b359)]))
      obtain ⟨_, _, ⟨T384, L384, k384, n384⟩, -, X384, ⟨Lc384, hQ384, l384, y384, z384⟩, st384⟩ := Jvm.LawKit.callS X368 hx (y := (⟨"com/example/iron_satchel/ironsatchel/PercentEncodingIsEscapeAtPinLaw", "make", "([CI)Ljava/lang/String;"⟩ : MethodName)) hown (mvT hZ (own_w hw 3 rfl)) (mvT hZ (own_w hw 4 rfl)) (mvT hZ (own_w hw 5 rfl)) (mvT hZ (own_w hw 6 rfl)) (by decide) (backOf (W := 0) (rm_mk2 l Z a0 hw [] b359 k359 ch0 ch1 ch2 ch3 gc h368 n0 (Nat.le_trans Z0 K369.1) V359 hb4 S_C hcs O0 S_A S_H S_L) hZ (own_w hw 6 rfl) (own_w hw 5 rfl) (by decide) (by decide)) (g := (mkF m 59 #[.val (.int xa), .val (.int xb), .val (.int xc), .val (.int xd), .val (.int ln), .val (.int ix), .val (.ref b359), .val (.int (2 : Int32)), .val (.int (1 : Int32)), .unset, .unset] [(.int (2 : Int32)), (.ref b359)])) rfl (by rw [hml]; rfl) (argsL := [(.ref b359), (.int (2 : Int32))]) (rest := []) (lenOf pd_25 rfl) rfl (by show 2 * 0 + _ ≤ _; exact Nat.le_of_eq rfl) (hb hby at_59) (fun _ _ => ⟨rfl, e368, (by decide : 1 + 4 ≤ _), (by decide : 4 + 12 ≤ _)⟩)
      dsimp only [Pt.U, Pt.locs, Pt.cells, Pt.slots] at X384 l384 y384 z384 st384 hQ384
      subst l384 y384 z384
      obtain ⟨x384, t384, rfl, N384q, KK384, szx384, szt384, SS384⟩ := hQ384
      have N384 := Fr.app N368 N384q
      have sz_x384 : h0.size ≤ x384 := Nat.le_trans K369.1 szx384
      have g_x384 : n0 ≤ x384 := Nat.le_trans Z0 sz_x384
      have ne385 : dg ≠ x384 := O0.ne V_dg.lt g_x384
      have ne386 : b359 ≠ x384 := Nat.ne_of_lt (Nat.lt_of_lt_of_le V359.lt szx384)
      have sz_t384 : h0.size ≤ t384 := Nat.le_trans K369.1 szt384
      have g_t384 : n0 ≤ t384 := Nat.le_trans Z0 sz_t384
      have ne387 : dg ≠ t384 := O0.ne V_dg.lt g_t384
      have ne388 : b359 ≠ t384 := Nat.ne_of_lt (Nat.lt_of_lt_of_le V359.lt szt384)
      replace O0 := O0.keep KK384 all0
      replace V359 := V359.keep KK384 nin0
      have K389 := K369.trans KK384 all0
      refine own_go st384 ?_
      refine own_go (fun _ q => XS.astore X384.here hx rfl (hb hby at_62) rfl rfl (l' := #[.val (.int xa), .val (.int xb), .val (.int xc), .val (.int xd), .val (.int ln), .val (.int ix), .val (.ref b359), .val (.int (2 : Int32)), .val (.int (1 : Int32)), .val (.ref x384), .unset]) rfl q) ?_
      refine own_go (fun _ q => XS.iload X384.here hx rfl (hb hby at_64) rfl q) ?_
      refine own_go (fun _ q => XS.iconst X384.here hx rfl (hb hby at_66) q) ?_
      show own_Fin _ _ _ _ (T384.setTop (mkF m 67 #[.val (.int xa), .val (.int xb), .val (.int xc), .val (.int xd), .val (.int ln), .val (.int ix), .val (.ref b359), .val (.int (2 : Int32)), .val (.int (1 : Int32)), .val (.ref x384), .unset] [(.int (2 : Int32)), (.int (1 : Int32))]))
      refine own_go (fun _ q => XS.iadd X384.here hx rfl (hb hby at_67) rfl q) ?_
      refine own_go (fun _ q => XS.iload X384.here hx rfl (hb hby at_68) rfl q) ?_
      show own_Fin _ _ _ _ (T384.setTop (mkF m 70 #[.val (.int xa), .val (.int xb), .val (.int xc), .val (.int xd), .val (.int ln), .val (.int ix), .val (.ref b359), .val (.int (2 : Int32)), .val (.int (1 : Int32)), .val (.ref x384), .unset] [(.int (2 : Int32)), (.int (3 : Int32))]))
      refine own_go (fun _ q => XS.icmpYes X384.here hx rfl (pc0 := 70) (pc' := 113) rfl (hb hby at_70) rfl (flt (by decide : ¬ (3 : Int32) < (2 : Int32))).2.1 (by decide) (by decide) q) ?_
      refine own_go (fun _ q => XS.iconst X384.here hx rfl (hb hby at_113) q) ?_
      refine own_go (fun _ q => XS.istore X384.here hx rfl (hb hby at_114) rfl (l' := #[.val (.int xa), .val (.int xb), .val (.int xc), .val (.int xd), .val (.int ln), .val (.int ix), .val (.ref b359), .val (.int (2 : Int32)), .val (.int (1 : Int32)), .val (.ref x384), .val (.int (0 : Int32))]) rfl q) ?_
      refine own_go (fun _ q => XS.aload X384.here hx rfl (hb hby at_116) rfl rfl q) ?_
      refine own_go (fun _ q => XS.iload X384.here hx rfl (hb hby at_118) rfl q) ?_
      show own_Fin _ _ _ _ (T384.setTop (mkF m 120 #[.val (.int xa), .val (.int xb), .val (.int xc), .val (.int xd), .val (.int ln), .val (.int ix), .val (.ref b359), .val (.int (2 : Int32)), .val (.int (1 : Int32)), .val (.ref x384), .val (.int (0 : Int32))] [(.int (1 : Int32)), (.ref x384)]))
      obtain ⟨_, _, ⟨T390, L390, k390, n390⟩, -, X390, ⟨Lc390, hQ390, l390, y390, z390⟩, st390⟩ := Jvm.LawKit.callS X384 hx (y := (⟨"com/example/iron_satchel/ironsatchel/PercentEncoding", "isEscapeAt", "(Ljava/lang/String;I)Z"⟩ : MethodName)) hown (mvT hZ (own_w hw 36 rfl)) (mvT hZ (own_w hw 37 rfl)) (mvT hZ (own_w hw 38 rfl)) (mvT hZ (own_w hw 39 rfl)) (by decide) (backOf (W := 0) (rm_ie0 l Z a0 hw [] x384 t384 ([ch0, ch1] : List Int32) (1 : Int32) ch1 gc gs T384.heap n0 (Nat.le_trans Z0 K389.1) SS384 (own_m 1 rfl) (by decide) (by show (1 : Int32) < (2 : Int32); decide) rfl (by show (1 : Int32) < ((4 : Int32) >>> ((1 : Int32) &&& 31)); decide) (by show ¬ ((1 : Int32) <<< ((1 : Int32) &&& 31)) < 0 ∧ ((1 : Int32) <<< ((1 : Int32) &&& 31)) < (4 : Int32); decide) (by show ¬ (((1 : Int32) <<< ((1 : Int32) &&& 31)) + (1 : Int32)) < 0 ∧ (((1 : Int32) <<< ((1 : Int32) &&& 31)) + (1 : Int32)) < (4 : Int32); decide) rfl rfl (by show ¬ ((1 : Int32) + (2 : Int32)) < (2 : Int32); decide) S_F hgs S_C hcs O0 S_A S_H S_L) hZ (own_w hw 39 rfl) (own_w hw 38 rfl) (by decide) (by decide)) (g := (mkF m 120 #[.val (.int xa), .val (.int xb), .val (.int xc), .val (.int xd), .val (.int ln), .val (.int ix), .val (.ref b359), .val (.int (2 : Int32)), .val (.int (1 : Int32)), .val (.ref x384), .val (.int (0 : Int32))] [(.int (1 : Int32)), (.ref x384)])) rfl (by rw [hml]; rfl) (argsL := [(.ref x384), (.int (1 : Int32))]) (rest := []) (lenOf pd_26 rfl) rfl (by show 2 * 0 + _ ≤ _; exact Nat.le_of_eq rfl) (hb hby at_120) (fun _ _ => ⟨rfl, rfl, (by decide : 5 + 0 ≤ _), (by decide : 16 + 0 ≤ _)⟩)
      dsimp only [Pt.U, Pt.locs, Pt.cells, Pt.slots] at X390 l390 y390 z390 st390 hQ390
      subst l390 y390 z390
      obtain ⟨rfl, N390q, e390⟩ := hQ390
      have N390 := Fr.app N384 N390q
      refine own_go st390 ?_
      refine own_go (fun _ q => XS.iload X390.here hx rfl (hb hby at_123) rfl q) ?_
      show own_Fin _ _ _ _ (T390.setTop (mkF m 125 #[.val (.int xa), .val (.int xb), .val (.int xc), .val (.int xd), .val (.int ln), .val (.int ix), .val (.ref b359), .val (.int (2 : Int32)), .val (.int (1 : Int32)), .val (.ref x384), .val (.int (0 : Int32))] [(.int (0 : Int32)), (.int (0 : Int32))]))
      refine own_go (fun _ q => XS.icmpNo X390.here hx rfl (hb hby at_125) rfl (teq (by decide : (0 : Int32) = (0 : Int32))).2 q) ?_
      refine own_go (fun _ q => XS.iconst X390.here hx rfl (hb hby at_128) q) ?_
      refine own_go (fun _ q => XS.goto X390.here hx rfl (pc0 := 129) (pc' := 133) rfl (hb hby at_129) (by decide) (by decide) q) ?_
      show own_Fin _ _ _ _ (T390.setTop (mkF m 133 #[.val (.int xa), .val (.int xb), .val (.int xc), .val (.int xd), .val (.int ln), .val (.int ix), .val (.ref b359), .val (.int (2 : Int32)), .val (.int (1 : Int32)), .val (.ref x384), .val (.int (0 : Int32))] [(.int (1 : Int32))]))
      refine own_retI X390 hx Bd (t := .boolean) Bd.returns rfl (by simp) (hb hby at_133) ?_ (by decide) (by decide)
      show (Q_rm_law Z xa xb xc xd ln ix gc gs dg kg h0 n0) (some (.int (1 : Int32))) T390.heap _
      rw [e390]
      exact ⟨rfl, N390⟩
  · skip
    show own_Fin _ _ _ _ (T368.setTop (mkF m 41 #[.val (.int xa), .val (.int xb), .val (.int xc), .val (.int xd), .val (.int ln), .val (.int ix), .val (.ref b359), .unset, .unset, .unset, .unset] [(.int (ln &&& (3 : Int32)))]))
    rw [hs41]
    refine own_go (fun _ q => XS.iconst X368.here hx rfl (hb hby at_41) q) ?_
    show own_Fin _ _ _ _ (T368.setTop (mkF m 42 #[.val (.int xa), .val (.int xb), .val (.int xc), .val (.int xd), .val (.int ln), .val (.int ix), .val (.ref b359), .unset, .unset, .unset, .unset] [(.int (1 : Int32)), (.int (2 : Int32))]))
    refine own_go (fun _ q => XS.iadd X368.here hx rfl (hb hby at_42) rfl q) ?_
    refine own_go (fun _ q => XS.istore X368.here hx rfl (hb hby at_43) rfl (l' := #[.val (.int xa), .val (.int xb), .val (.int xc), .val (.int xd), .val (.int ln), .val (.int ix), .val (.ref b359), .val (.int (3 : Int32)), .unset, .unset, .unset]) rfl q) ?_
    refine own_go (fun _ q => XS.iload X368.here hx rfl (hb hby at_45) rfl q) ?_
    show own_Fin _ _ _ _ (T368.setTop (mkF m 47 #[.val (.int xa), .val (.int xb), .val (.int xc), .val (.int xd), .val (.int ln), .val (.int ix), .val (.ref b359), .val (.int (3 : Int32)), .unset, .unset, .unset] [(.int ix)]))
    refine own_go (fun _ q => Jvm.Stand.ldcI X368 hx hown (mvT hZ (own_w hw 2 rfl)) (g := (mkF m 47 #[.val (.int xa), .val (.int xb), .val (.int xc), .val (.int xd), .val (.int ln), .val (.int ix), .val (.ref b359), .val (.int (3 : Int32)), .unset, .unset, .unset] [(.int ix)])) rfl (hb hby at_47) q) ?_
    show own_Fin _ _ _ _ (T368.setTop (mkF m 49 #[.val (.int xa), .val (.int xb), .val (.int xc), .val (.int xd), .val (.int ln), .val (.int ix), .val (.ref b359), .val (.int (3 : Int32)), .unset, .unset, .unset] [(.int (2147483647 : Int32)), (.int ix)]))
    refine own_go (fun _ q => XS.iand X368.here hx rfl (hb hby at_49) rfl q) ?_
    refine own_go (fun _ q => XS.iload X368.here hx rfl (hb hby at_50) rfl q) ?_
    show own_Fin _ _ _ _ (T368.setTop (mkF m 52 #[.val (.int xa), .val (.int xb), .val (.int xc), .val (.int xd), .val (.int ln), .val (.int ix), .val (.ref b359), .val (.int (3 : Int32)), .unset, .unset, .unset] [(.int (3 : Int32)), (.int (ix &&& (2147483647 : Int32)))]))
    refine own_go (fun _ q => iremM X368 hx rfl  (hb hby at_52) rfl (by decide) q) ?_
    show own_Fin _ _ _ _ (T368.setTop (mkF m 53 #[.val (.int xa), .val (.int xb), .val (.int xc), .val (.int xd), .val (.int ln), .val (.int ix), .val (.ref b359), .val (.int (3 : Int32)), .unset, .unset, .unset] [(.int ((ix &&& (2147483647 : Int32)) % (3 : Int32)))]))
    rcases own_mod3 ix with hs53 | hs53 | hs53
    · skip
      show own_Fin _ _ _ _ (T368.setTop (mkF m 53 #[.val (.int xa), .val (.int xb), .val (.int xc), .val (.int xd), .val (.int ln), .val (.int ix), .val (.ref b359), .val (.int (3 : Int32)), .unset, .unset, .unset] [(.int ((ix &&& (2147483647 : Int32)) % (3 : Int32)))]))
      rw [hs53]
      refine own_go (fun _ q => XS.istore X368.here hx rfl (hb hby at_53) rfl (l' := #[.val (.int xa), .val (.int xb), .val (.int xc), .val (.int xd), .val (.int ln), .val (.int ix), .val (.ref b359), .val (.int (3 : Int32)), .val (.int (0 : Int32)), .unset, .unset]) rfl q) ?_
      refine own_go (fun _ q => XS.aload X368.here hx rfl (hb hby at_55) rfl rfl q) ?_
      refine own_go (fun _ q => XS.iload X368.here hx rfl (hb hby at_57) rfl q) ?_
      show own_Fin _ _ _ _ (T368.setTop (mkF m 59 #[.val (.int xa), .val (.int xb), .val (.int xc), .val (.int xd), .val (.int ln), .val (.int ix), .val (.ref b359), .val (.int (3 : Int32)), .val (.int (0 : Int32)), .unset, .unset] [(.int (3 : Int32)), (.ref b359)]))
      obtain ⟨_, _, ⟨T391, L391, k391, n391⟩, -, X391, ⟨Lc391, hQ391, l391, y391, z391⟩, st391⟩ := Jvm.LawKit.callS X368 hx (y := (⟨"com/example/iron_satchel/ironsatchel/PercentEncodingIsEscapeAtPinLaw", "make", "([CI)Ljava/lang/String;"⟩ : MethodName)) hown (mvT hZ (own_w hw 3 rfl)) (mvT hZ (own_w hw 4 rfl)) (mvT hZ (own_w hw 5 rfl)) (mvT hZ (own_w hw 6 rfl)) (by decide) (backOf (W := 0) (rm_mk3 l Z a0 hw [] b359 k359 ch0 ch1 ch2 ch3 gc h368 n0 (Nat.le_trans Z0 K369.1) V359 hb4 S_C hcs O0 S_A S_H S_L) hZ (own_w hw 6 rfl) (own_w hw 5 rfl) (by decide) (by decide)) (g := (mkF m 59 #[.val (.int xa), .val (.int xb), .val (.int xc), .val (.int xd), .val (.int ln), .val (.int ix), .val (.ref b359), .val (.int (3 : Int32)), .val (.int (0 : Int32)), .unset, .unset] [(.int (3 : Int32)), (.ref b359)])) rfl (by rw [hml]; rfl) (argsL := [(.ref b359), (.int (3 : Int32))]) (rest := []) (lenOf pd_25 rfl) rfl (by show 2 * 0 + _ ≤ _; exact Nat.le_of_eq rfl) (hb hby at_59) (fun _ _ => ⟨rfl, e368, (by decide : 1 + 4 ≤ _), (by decide : 4 + 16 ≤ _)⟩)
      dsimp only [Pt.U, Pt.locs, Pt.cells, Pt.slots] at X391 l391 y391 z391 st391 hQ391
      subst l391 y391 z391
      obtain ⟨x391, t391, rfl, N391q, KK391, szx391, szt391, SS391⟩ := hQ391
      have N391 := Fr.app N368 N391q
      have sz_x391 : h0.size ≤ x391 := Nat.le_trans K369.1 szx391
      have g_x391 : n0 ≤ x391 := Nat.le_trans Z0 sz_x391
      have ne392 : dg ≠ x391 := O0.ne V_dg.lt g_x391
      have ne393 : b359 ≠ x391 := Nat.ne_of_lt (Nat.lt_of_lt_of_le V359.lt szx391)
      have sz_t391 : h0.size ≤ t391 := Nat.le_trans K369.1 szt391
      have g_t391 : n0 ≤ t391 := Nat.le_trans Z0 sz_t391
      have ne394 : dg ≠ t391 := O0.ne V_dg.lt g_t391
      have ne395 : b359 ≠ t391 := Nat.ne_of_lt (Nat.lt_of_lt_of_le V359.lt szt391)
      replace O0 := O0.keep KK391 all0
      replace V359 := V359.keep KK391 nin0
      have K396 := K369.trans KK391 all0
      refine own_go st391 ?_
      refine own_go (fun _ q => XS.astore X391.here hx rfl (hb hby at_62) rfl rfl (l' := #[.val (.int xa), .val (.int xb), .val (.int xc), .val (.int xd), .val (.int ln), .val (.int ix), .val (.ref b359), .val (.int (3 : Int32)), .val (.int (0 : Int32)), .val (.ref x391), .unset]) rfl q) ?_
      refine own_go (fun _ q => XS.iload X391.here hx rfl (hb hby at_64) rfl q) ?_
      refine own_go (fun _ q => XS.iconst X391.here hx rfl (hb hby at_66) q) ?_
      show own_Fin _ _ _ _ (T391.setTop (mkF m 67 #[.val (.int xa), .val (.int xb), .val (.int xc), .val (.int xd), .val (.int ln), .val (.int ix), .val (.ref b359), .val (.int (3 : Int32)), .val (.int (0 : Int32)), .val (.ref x391), .unset] [(.int (2 : Int32)), (.int (0 : Int32))]))
      refine own_go (fun _ q => XS.iadd X391.here hx rfl (hb hby at_67) rfl q) ?_
      refine own_go (fun _ q => XS.iload X391.here hx rfl (hb hby at_68) rfl q) ?_
      show own_Fin _ _ _ _ (T391.setTop (mkF m 70 #[.val (.int xa), .val (.int xb), .val (.int xc), .val (.int xd), .val (.int ln), .val (.int ix), .val (.ref b359), .val (.int (3 : Int32)), .val (.int (0 : Int32)), .val (.ref x391), .unset] [(.int (3 : Int32)), (.int (2 : Int32))]))
      refine own_go (fun _ q => XS.icmpNo X391.here hx rfl (hb hby at_70) rfl (tlt (by decide : (2 : Int32) < (3 : Int32))).2.1 q) ?_
      refine own_go (fun _ q => XS.aload X391.here hx rfl (hb hby at_73) rfl rfl q) ?_
      refine own_go (fun _ q => XS.iload X391.here hx rfl (hb hby at_75) rfl q) ?_
      show own_Fin _ _ _ _ (T391.setTop (mkF m 77 #[.val (.int xa), .val (.int xb), .val (.int xc), .val (.int xd), .val (.int ln), .val (.int ix), .val (.ref b359), .val (.int (3 : Int32)), .val (.int (0 : Int32)), .val (.ref x391), .unset] [(.int (0 : Int32)), (.ref b359)]))
      refine own_go (fun _ q => own_caload X391 hx hZ rfl V359 (by decide) (v := (.int ch0)) (rfl) (g := (mkF m 77 #[.val (.int xa), .val (.int xb), .val (.int xc), .val (.int xd), .val (.int ln), .val (.int ix), .val (.ref b359), .val (.int (3 : Int32)), .val (.int (0 : Int32)), .val (.ref x391), .unset] [(.int (0 : Int32)), (.ref b359)])) rfl rfl (hb hby at_77) _ q) ?_
      refine own_go (fun _ q => XS.bipush X391.here hx rfl (hb hby at_78) q) ?_
      show own_Fin _ _ _ _ (T391.setTop (mkF m 80 #[.val (.int xa), .val (.int xb), .val (.int xc), .val (.int xd), .val (.int ln), .val (.int ix), .val (.ref b359), .val (.int (3 : Int32)), .val (.int (0 : Int32)), .val (.ref x391), .unset] [(.int (37 : Int32)), (.int ch0)]))
      by_cases hc397 : ch0 = (37 : Int32)
      · skip
        refine own_go (fun _ q => XS.icmpNo X391.here hx rfl (hb hby at_80) rfl (teq hc397).2 q) ?_
        refine own_go (fun _ q => XS.aload X391.here hx rfl (hb hby at_83) rfl rfl q) ?_
        refine own_go (fun _ q => XS.iload X391.here hx rfl (hb hby at_85) rfl q) ?_
        refine own_go (fun _ q => XS.iconst X391.here hx rfl (hb hby at_87) q) ?_
        show own_Fin _ _ _ _ (T391.setTop (mkF m 88 #[.val (.int xa), .val (.int xb), .val (.int xc), .val (.int xd), .val (.int ln), .val (.int ix), .val (.ref b359), .val (.int (3 : Int32)), .val (.int (0 : Int32)), .val (.ref x391), .unset] [(.int (1 : Int32)), (.int (0 : Int32)), (.ref b359)]))
        refine own_go (fun _ q => XS.iadd X391.here hx rfl (hb hby at_88) rfl q) ?_
        show own_Fin _ _ _ _ (T391.setTop (mkF m 89 #[.val (.int xa), .val (.int xb), .val (.int xc), .val (.int xd), .val (.int ln), .val (.int ix), .val (.ref b359), .val (.int (3 : Int32)), .val (.int (0 : Int32)), .val (.ref x391), .unset] [(.int (1 : Int32)), (.ref b359)]))
        refine own_go (fun _ q => own_caload X391 hx hZ rfl V359 (by decide) (v := (.int ch1)) (rfl) (g := (mkF m 89 #[.val (.int xa), .val (.int xb), .val (.int xc), .val (.int xd), .val (.int ln), .val (.int ix), .val (.ref b359), .val (.int (3 : Int32)), .val (.int (0 : Int32)), .val (.ref x391), .unset] [(.int (1 : Int32)), (.ref b359)])) rfl rfl (hb hby at_89) _ q) ?_
        show own_Fin _ _ _ _ (T391.setTop (mkF m 90 #[.val (.int xa), .val (.int xb), .val (.int xc), .val (.int xd), .val (.int ln), .val (.int ix), .val (.ref b359), .val (.int (3 : Int32)), .val (.int (0 : Int32)), .val (.ref x391), .unset] [(.int ch1)]))
        obtain ⟨_, _, ⟨T398, L398, k398, n398⟩, -, X398, ⟨Lc398, hQ398, l398, y398, z398⟩, st398⟩ := Jvm.LawKit.callS X391 hx (y := (⟨"com/example/iron_satchel/ironsatchel/PercentEncodingIsEscapeAtPinLaw", "isHex", "(C)Z"⟩ : MethodName)) hown (mvT hZ (own_w hw 101 rfl)) (mvT hZ (own_w hw 102 rfl)) (mvT hZ (own_w hw 5 rfl)) (mvT hZ (own_w hw 103 rfl)) (by decide) (backOf (W := 0) (rm_ih l Z a0 hw [] ch1  T391.heap n0 (Nat.le_trans Z0 K396.1) ) hZ (own_w hw 103 rfl) (own_w hw 5 rfl) (by decide) (by decide)) (g := (mkF m 90 #[.val (.int xa), .val (.int xb), .val (.int xc), .val (.int xd), .val (.int ln), .val (.int ix), .val (.ref b359), .val (.int (3 : Int32)), .val (.int (0 : Int32)), .val (.ref x391), .unset] [(.int ch1)])) rfl (by rw [hml]; rfl) (argsL := [(.int ch1)]) (rest := []) (lenOf pd_27 rfl) rfl (by show 2 * 0 + _ ≤ _; exact Nat.le_of_eq rfl) (hb hby at_90) (fun _ _ => ⟨rfl, rfl, (by decide : 5 + 0 ≤ _), (by decide : 20 + 0 ≤ _)⟩)
        dsimp only [Pt.U, Pt.locs, Pt.cells, Pt.slots] at X398 l398 y398 z398 st398 hQ398
        subst l398 y398 z398
        obtain ⟨z398, rfl, N398q, e398, hz398⟩ := hQ398
        have N398 := Fr.app N391 N398q
        rcases hz398 with ⟨rfl, hh398⟩ | ⟨rfl, hh398⟩
        · skip
          refine own_go st398 ?_
          show own_Fin _ _ _ _ (T398.setTop (mkF m 93 #[.val (.int xa), .val (.int xb), .val (.int xc), .val (.int xd), .val (.int ln), .val (.int ix), .val (.ref b359), .val (.int (3 : Int32)), .val (.int (0 : Int32)), .val (.ref x391), .unset] [(.int (1 : Int32))]))
          refine own_go (fun _ q => XS.ifNo X398.here hx rfl (hb hby at_93) rfl ((if0 _ _).trans (feq (by decide : ¬ (1 : Int32) = (0 : Int32))).1) q) ?_
          refine own_go (fun _ q => XS.aload X398.here hx rfl (hb hby at_96) rfl rfl q) ?_
          refine own_go (fun _ q => XS.iload X398.here hx rfl (hb hby at_98) rfl q) ?_
          refine own_go (fun _ q => XS.iconst X398.here hx rfl (hb hby at_100) q) ?_
          show own_Fin _ _ _ _ (T398.setTop (mkF m 101 #[.val (.int xa), .val (.int xb), .val (.int xc), .val (.int xd), .val (.int ln), .val (.int ix), .val (.ref b359), .val (.int (3 : Int32)), .val (.int (0 : Int32)), .val (.ref x391), .unset] [(.int (2 : Int32)), (.int (0 : Int32)), (.ref b359)]))
          refine own_go (fun _ q => XS.iadd X398.here hx rfl (hb hby at_101) rfl q) ?_
          show own_Fin _ _ _ _ (T398.setTop (mkF m 102 #[.val (.int xa), .val (.int xb), .val (.int xc), .val (.int xd), .val (.int ln), .val (.int ix), .val (.ref b359), .val (.int (3 : Int32)), .val (.int (0 : Int32)), .val (.ref x391), .unset] [(.int (2 : Int32)), (.ref b359)]))
          refine own_go (fun _ q => own_caload X398 hx hZ e398 V359 (by decide) (v := (.int ch2)) (rfl) (g := (mkF m 102 #[.val (.int xa), .val (.int xb), .val (.int xc), .val (.int xd), .val (.int ln), .val (.int ix), .val (.ref b359), .val (.int (3 : Int32)), .val (.int (0 : Int32)), .val (.ref x391), .unset] [(.int (2 : Int32)), (.ref b359)])) rfl rfl (hb hby at_102) _ q) ?_
          show own_Fin _ _ _ _ (T398.setTop (mkF m 103 #[.val (.int xa), .val (.int xb), .val (.int xc), .val (.int xd), .val (.int ln), .val (.int ix), .val (.ref b359), .val (.int (3 : Int32)), .val (.int (0 : Int32)), .val (.ref x391), .unset] [(.int ch2)]))
          obtain ⟨_, _, ⟨T399, L399, k399, n399⟩, -, X399, ⟨Lc399, hQ399, l399, y399, z399⟩, st399⟩ := Jvm.LawKit.callS X398 hx (y := (⟨"com/example/iron_satchel/ironsatchel/PercentEncodingIsEscapeAtPinLaw", "isHex", "(C)Z"⟩ : MethodName)) hown (mvT hZ (own_w hw 101 rfl)) (mvT hZ (own_w hw 102 rfl)) (mvT hZ (own_w hw 5 rfl)) (mvT hZ (own_w hw 103 rfl)) (by decide) (backOf (W := 0) (rm_ih l Z a0 hw [] ch2  T391.heap n0 (Nat.le_trans Z0 K396.1) ) hZ (own_w hw 103 rfl) (own_w hw 5 rfl) (by decide) (by decide)) (g := (mkF m 103 #[.val (.int xa), .val (.int xb), .val (.int xc), .val (.int xd), .val (.int ln), .val (.int ix), .val (.ref b359), .val (.int (3 : Int32)), .val (.int (0 : Int32)), .val (.ref x391), .unset] [(.int ch2)])) rfl (by rw [hml]; rfl) (argsL := [(.int ch2)]) (rest := []) (lenOf pd_27 rfl) rfl (by show 2 * 0 + _ ≤ _; exact Nat.le_of_eq rfl) (hb hby at_103) (fun _ _ => ⟨rfl, e398, (by decide : 5 + 0 ≤ _), (by decide : 20 + 0 ≤ _)⟩)
          dsimp only [Pt.U, Pt.locs, Pt.cells, Pt.slots] at X399 l399 y399 z399 st399 hQ399
          subst l399 y399 z399
          obtain ⟨z399, rfl, N399q, e399, hz399⟩ := hQ399
          have N399 := Fr.app N398 N399q
          rcases hz399 with ⟨rfl, hh399⟩ | ⟨rfl, hh399⟩
          · skip
            refine own_go st399 ?_
            show own_Fin _ _ _ _ (T399.setTop (mkF m 106 #[.val (.int xa), .val (.int xb), .val (.int xc), .val (.int xd), .val (.int ln), .val (.int ix), .val (.ref b359), .val (.int (3 : Int32)), .val (.int (0 : Int32)), .val (.ref x391), .unset] [(.int (1 : Int32))]))
            refine own_go (fun _ q => XS.ifNo X399.here hx rfl (hb hby at_106) rfl ((if0 _ _).trans (feq (by decide : ¬ (1 : Int32) = (0 : Int32))).1) q) ?_
            refine own_go (fun _ q => XS.iconst X399.here hx rfl (hb hby at_109) q) ?_
            refine own_go (fun _ q => XS.goto X399.here hx rfl (pc0 := 110) (pc' := 114) rfl (hb hby at_110) (by decide) (by decide) q) ?_
            refine own_go (fun _ q => XS.istore X399.here hx rfl (hb hby at_114) rfl (l' := #[.val (.int xa), .val (.int xb), .val (.int xc), .val (.int xd), .val (.int ln), .val (.int ix), .val (.ref b359), .val (.int (3 : Int32)), .val (.int (0 : Int32)), .val (.ref x391), .val (.int (1 : Int32))]) rfl q) ?_
            refine own_go (fun _ q => XS.aload X399.here hx rfl (hb hby at_116) rfl rfl q) ?_
            refine own_go (fun _ q => XS.iload X399.here hx rfl (hb hby at_118) rfl q) ?_
            show own_Fin _ _ _ _ (T399.setTop (mkF m 120 #[.val (.int xa), .val (.int xb), .val (.int xc), .val (.int xd), .val (.int ln), .val (.int ix), .val (.ref b359), .val (.int (3 : Int32)), .val (.int (0 : Int32)), .val (.ref x391), .val (.int (1 : Int32))] [(.int (0 : Int32)), (.ref x391)]))
            obtain ⟨_, _, ⟨T400, L400, k400, n400⟩, -, X400, ⟨Lc400, hQ400, l400, y400, z400⟩, st400⟩ := Jvm.LawKit.callS X399 hx (y := (⟨"com/example/iron_satchel/ironsatchel/PercentEncoding", "isEscapeAt", "(Ljava/lang/String;I)Z"⟩ : MethodName)) hown (mvT hZ (own_w hw 36 rfl)) (mvT hZ (own_w hw 37 rfl)) (mvT hZ (own_w hw 38 rfl)) (mvT hZ (own_w hw 39 rfl)) (by decide) (backOf (W := 0) (rm_ie3_0 l Z a0 hw [] x391 t391 ch0 ch1 ch2 gc gs dg kg T391.heap n0 (Nat.le_trans Z0 K396.1) SS391 (own_take 3 hb4) S_D V_dg S_F hgs S_C hcs O0 S_A S_H S_L) hZ (own_w hw 39 rfl) (own_w hw 38 rfl) (by decide) (by decide)) (g := (mkF m 120 #[.val (.int xa), .val (.int xb), .val (.int xc), .val (.int xd), .val (.int ln), .val (.int ix), .val (.ref b359), .val (.int (3 : Int32)), .val (.int (0 : Int32)), .val (.ref x391), .val (.int (1 : Int32))] [(.int (0 : Int32)), (.ref x391)])) rfl (by rw [hml]; rfl) (argsL := [(.ref x391), (.int (0 : Int32))]) (rest := []) (lenOf pd_26 rfl) rfl (by show 2 * 0 + _ ≤ _; exact Nat.le_of_eq rfl) (hb hby at_120) (fun _ _ => ⟨rfl, e399, (by decide : 5 + 0 ≤ _), (by decide : 20 + 0 ≤ _)⟩)
            dsimp only [Pt.U, Pt.locs, Pt.cells, Pt.slots] at X400 l400 y400 z400 st400 hQ400
            subst l400 y400 z400
            obtain ⟨z400, rfl, N400q, e400, hz400⟩ := hQ400
            have N400 := Fr.app N399 N400q
            obtain rfl : z400 = 1 := hz400.elim (fun q => q.1) (fun q => absurd ⟨hc397, hh398, hh399⟩ q.2)
            refine own_go st400 ?_
            refine own_go (fun _ q => XS.iload X400.here hx rfl (hb hby at_123) rfl q) ?_
            show own_Fin _ _ _ _ (T400.setTop (mkF m 125 #[.val (.int xa), .val (.int xb), .val (.int xc), .val (.int xd), .val (.int ln), .val (.int ix), .val (.ref b359), .val (.int (3 : Int32)), .val (.int (0 : Int32)), .val (.ref x391), .val (.int (1 : Int32))] [(.int (1 : Int32)), (.int (1 : Int32))]))
            refine own_go (fun _ q => XS.icmpNo X400.here hx rfl (hb hby at_125) rfl (teq (by decide : (1 : Int32) = (1 : Int32))).2 q) ?_
            refine own_go (fun _ q => XS.iconst X400.here hx rfl (hb hby at_128) q) ?_
            refine own_go (fun _ q => XS.goto X400.here hx rfl (pc0 := 129) (pc' := 133) rfl (hb hby at_129) (by decide) (by decide) q) ?_
            show own_Fin _ _ _ _ (T400.setTop (mkF m 133 #[.val (.int xa), .val (.int xb), .val (.int xc), .val (.int xd), .val (.int ln), .val (.int ix), .val (.ref b359), .val (.int (3 : Int32)), .val (.int (0 : Int32)), .val (.ref x391), .val (.int (1 : Int32))] [(.int (1 : Int32))]))
            refine own_retI X400 hx Bd (t := .boolean) Bd.returns rfl (by simp) (hb hby at_133) ?_ (by decide) (by decide)
            show (Q_rm_law Z xa xb xc xd ln ix gc gs dg kg h0 n0) (some (.int (1 : Int32))) T400.heap _
            rw [e400]
            exact ⟨rfl, N400⟩
          · skip
            refine own_go st399 ?_
            show own_Fin _ _ _ _ (T399.setTop (mkF m 106 #[.val (.int xa), .val (.int xb), .val (.int xc), .val (.int xd), .val (.int ln), .val (.int ix), .val (.ref b359), .val (.int (3 : Int32)), .val (.int (0 : Int32)), .val (.ref x391), .unset] [(.int (0 : Int32))]))
            refine own_go (fun _ q => XS.ifYes X399.here hx rfl (pc0 := 106) (pc' := 113) rfl (hb hby at_106) rfl ((if0 _ _).trans (teq (by decide : (0 : Int32) = (0 : Int32))).1) (by decide) (by decide) q) ?_
            refine own_go (fun _ q => XS.iconst X399.here hx rfl (hb hby at_113) q) ?_
            refine own_go (fun _ q => XS.istore X399.here hx rfl (hb hby at_114) rfl (l' := #[.val (.int xa), .val (.int xb), .val (.int xc), .val (.int xd), .val (.int ln), .val (.int ix), .val (.ref b359), .val (.int (3 : Int32)), .val (.int (0 : Int32)), .val (.ref x391), .val (.int (0 : Int32))]) rfl q) ?_
            refine own_go (fun _ q => XS.aload X399.here hx rfl (hb hby at_116) rfl rfl q) ?_
            refine own_go (fun _ q => XS.iload X399.here hx rfl (hb hby at_118) rfl q) ?_
            show own_Fin _ _ _ _ (T399.setTop (mkF m 120 #[.val (.int xa), .val (.int xb), .val (.int xc), .val (.int xd), .val (.int ln), .val (.int ix), .val (.ref b359), .val (.int (3 : Int32)), .val (.int (0 : Int32)), .val (.ref x391), .val (.int (0 : Int32))] [(.int (0 : Int32)), (.ref x391)]))
            obtain ⟨_, _, ⟨T401, L401, k401, n401⟩, -, X401, ⟨Lc401, hQ401, l401, y401, z401⟩, st401⟩ := Jvm.LawKit.callS X399 hx (y := (⟨"com/example/iron_satchel/ironsatchel/PercentEncoding", "isEscapeAt", "(Ljava/lang/String;I)Z"⟩ : MethodName)) hown (mvT hZ (own_w hw 36 rfl)) (mvT hZ (own_w hw 37 rfl)) (mvT hZ (own_w hw 38 rfl)) (mvT hZ (own_w hw 39 rfl)) (by decide) (backOf (W := 0) (rm_ie3_0 l Z a0 hw [] x391 t391 ch0 ch1 ch2 gc gs dg kg T391.heap n0 (Nat.le_trans Z0 K396.1) SS391 (own_take 3 hb4) S_D V_dg S_F hgs S_C hcs O0 S_A S_H S_L) hZ (own_w hw 39 rfl) (own_w hw 38 rfl) (by decide) (by decide)) (g := (mkF m 120 #[.val (.int xa), .val (.int xb), .val (.int xc), .val (.int xd), .val (.int ln), .val (.int ix), .val (.ref b359), .val (.int (3 : Int32)), .val (.int (0 : Int32)), .val (.ref x391), .val (.int (0 : Int32))] [(.int (0 : Int32)), (.ref x391)])) rfl (by rw [hml]; rfl) (argsL := [(.ref x391), (.int (0 : Int32))]) (rest := []) (lenOf pd_26 rfl) rfl (by show 2 * 0 + _ ≤ _; exact Nat.le_of_eq rfl) (hb hby at_120) (fun _ _ => ⟨rfl, e399, (by decide : 5 + 0 ≤ _), (by decide : 20 + 0 ≤ _)⟩)
            dsimp only [Pt.U, Pt.locs, Pt.cells, Pt.slots] at X401 l401 y401 z401 st401 hQ401
            subst l401 y401 z401
            obtain ⟨z401, rfl, N401q, e401, hz401⟩ := hQ401
            have N401 := Fr.app N399 N401q
            obtain rfl : z401 = 0 := hz401.elim (fun q => absurd q.2 (fun q => hh399 q.2.2)) (fun q => q.1)
            refine own_go st401 ?_
            refine own_go (fun _ q => XS.iload X401.here hx rfl (hb hby at_123) rfl q) ?_
            show own_Fin _ _ _ _ (T401.setTop (mkF m 125 #[.val (.int xa), .val (.int xb), .val (.int xc), .val (.int xd), .val (.int ln), .val (.int ix), .val (.ref b359), .val (.int (3 : Int32)), .val (.int (0 : Int32)), .val (.ref x391), .val (.int (0 : Int32))] [(.int (0 : Int32)), (.int (0 : Int32))]))
            refine own_go (fun _ q => XS.icmpNo X401.here hx rfl (hb hby at_125) rfl (teq (by decide : (0 : Int32) = (0 : Int32))).2 q) ?_
            refine own_go (fun _ q => XS.iconst X401.here hx rfl (hb hby at_128) q) ?_
            refine own_go (fun _ q => XS.goto X401.here hx rfl (pc0 := 129) (pc' := 133) rfl (hb hby at_129) (by decide) (by decide) q) ?_
            show own_Fin _ _ _ _ (T401.setTop (mkF m 133 #[.val (.int xa), .val (.int xb), .val (.int xc), .val (.int xd), .val (.int ln), .val (.int ix), .val (.ref b359), .val (.int (3 : Int32)), .val (.int (0 : Int32)), .val (.ref x391), .val (.int (0 : Int32))] [(.int (1 : Int32))]))
            refine own_retI X401 hx Bd (t := .boolean) Bd.returns rfl (by simp) (hb hby at_133) ?_ (by decide) (by decide)
            show (Q_rm_law Z xa xb xc xd ln ix gc gs dg kg h0 n0) (some (.int (1 : Int32))) T401.heap _
            rw [e401]
            exact ⟨rfl, N401⟩
        · skip
          refine own_go st398 ?_
          show own_Fin _ _ _ _ (T398.setTop (mkF m 93 #[.val (.int xa), .val (.int xb), .val (.int xc), .val (.int xd), .val (.int ln), .val (.int ix), .val (.ref b359), .val (.int (3 : Int32)), .val (.int (0 : Int32)), .val (.ref x391), .unset] [(.int (0 : Int32))]))
          refine own_go (fun _ q => XS.ifYes X398.here hx rfl (pc0 := 93) (pc' := 113) rfl (hb hby at_93) rfl ((if0 _ _).trans (teq (by decide : (0 : Int32) = (0 : Int32))).1) (by decide) (by decide) q) ?_
          refine own_go (fun _ q => XS.iconst X398.here hx rfl (hb hby at_113) q) ?_
          refine own_go (fun _ q => XS.istore X398.here hx rfl (hb hby at_114) rfl (l' := #[.val (.int xa), .val (.int xb), .val (.int xc), .val (.int xd), .val (.int ln), .val (.int ix), .val (.ref b359), .val (.int (3 : Int32)), .val (.int (0 : Int32)), .val (.ref x391), .val (.int (0 : Int32))]) rfl q) ?_
          refine own_go (fun _ q => XS.aload X398.here hx rfl (hb hby at_116) rfl rfl q) ?_
          refine own_go (fun _ q => XS.iload X398.here hx rfl (hb hby at_118) rfl q) ?_
          show own_Fin _ _ _ _ (T398.setTop (mkF m 120 #[.val (.int xa), .val (.int xb), .val (.int xc), .val (.int xd), .val (.int ln), .val (.int ix), .val (.ref b359), .val (.int (3 : Int32)), .val (.int (0 : Int32)), .val (.ref x391), .val (.int (0 : Int32))] [(.int (0 : Int32)), (.ref x391)]))
          obtain ⟨_, _, ⟨T402, L402, k402, n402⟩, -, X402, ⟨Lc402, hQ402, l402, y402, z402⟩, st402⟩ := Jvm.LawKit.callS X398 hx (y := (⟨"com/example/iron_satchel/ironsatchel/PercentEncoding", "isEscapeAt", "(Ljava/lang/String;I)Z"⟩ : MethodName)) hown (mvT hZ (own_w hw 36 rfl)) (mvT hZ (own_w hw 37 rfl)) (mvT hZ (own_w hw 38 rfl)) (mvT hZ (own_w hw 39 rfl)) (by decide) (backOf (W := 0) (rm_ie3_0 l Z a0 hw [] x391 t391 ch0 ch1 ch2 gc gs dg kg T391.heap n0 (Nat.le_trans Z0 K396.1) SS391 (own_take 3 hb4) S_D V_dg S_F hgs S_C hcs O0 S_A S_H S_L) hZ (own_w hw 39 rfl) (own_w hw 38 rfl) (by decide) (by decide)) (g := (mkF m 120 #[.val (.int xa), .val (.int xb), .val (.int xc), .val (.int xd), .val (.int ln), .val (.int ix), .val (.ref b359), .val (.int (3 : Int32)), .val (.int (0 : Int32)), .val (.ref x391), .val (.int (0 : Int32))] [(.int (0 : Int32)), (.ref x391)])) rfl (by rw [hml]; rfl) (argsL := [(.ref x391), (.int (0 : Int32))]) (rest := []) (lenOf pd_26 rfl) rfl (by show 2 * 0 + _ ≤ _; exact Nat.le_of_eq rfl) (hb hby at_120) (fun _ _ => ⟨rfl, e398, (by decide : 5 + 0 ≤ _), (by decide : 20 + 0 ≤ _)⟩)
          dsimp only [Pt.U, Pt.locs, Pt.cells, Pt.slots] at X402 l402 y402 z402 st402 hQ402
          subst l402 y402 z402
          obtain ⟨z402, rfl, N402q, e402, hz402⟩ := hQ402
          have N402 := Fr.app N398 N402q
          obtain rfl : z402 = 0 := hz402.elim (fun q => absurd q.2 (fun q => hh398 q.2.1)) (fun q => q.1)
          refine own_go st402 ?_
          refine own_go (fun _ q => XS.iload X402.here hx rfl (hb hby at_123) rfl q) ?_
          show own_Fin _ _ _ _ (T402.setTop (mkF m 125 #[.val (.int xa), .val (.int xb), .val (.int xc), .val (.int xd), .val (.int ln), .val (.int ix), .val (.ref b359), .val (.int (3 : Int32)), .val (.int (0 : Int32)), .val (.ref x391), .val (.int (0 : Int32))] [(.int (0 : Int32)), (.int (0 : Int32))]))
          refine own_go (fun _ q => XS.icmpNo X402.here hx rfl (hb hby at_125) rfl (teq (by decide : (0 : Int32) = (0 : Int32))).2 q) ?_
          refine own_go (fun _ q => XS.iconst X402.here hx rfl (hb hby at_128) q) ?_
          refine own_go (fun _ q => XS.goto X402.here hx rfl (pc0 := 129) (pc' := 133) rfl (hb hby at_129) (by decide) (by decide) q) ?_
          show own_Fin _ _ _ _ (T402.setTop (mkF m 133 #[.val (.int xa), .val (.int xb), .val (.int xc), .val (.int xd), .val (.int ln), .val (.int ix), .val (.ref b359), .val (.int (3 : Int32)), .val (.int (0 : Int32)), .val (.ref x391), .val (.int (0 : Int32))] [(.int (1 : Int32))]))
          refine own_retI X402 hx Bd (t := .boolean) Bd.returns rfl (by simp) (hb hby at_133) ?_ (by decide) (by decide)
          show (Q_rm_law Z xa xb xc xd ln ix gc gs dg kg h0 n0) (some (.int (1 : Int32))) T402.heap _
          rw [e402]
          exact ⟨rfl, N402⟩
      · skip
        refine own_go (fun _ q => XS.icmpYes X391.here hx rfl (pc0 := 80) (pc' := 113) rfl (hb hby at_80) rfl (feq hc397).2 (by decide) (by decide) q) ?_
        refine own_go (fun _ q => XS.iconst X391.here hx rfl (hb hby at_113) q) ?_
        refine own_go (fun _ q => XS.istore X391.here hx rfl (hb hby at_114) rfl (l' := #[.val (.int xa), .val (.int xb), .val (.int xc), .val (.int xd), .val (.int ln), .val (.int ix), .val (.ref b359), .val (.int (3 : Int32)), .val (.int (0 : Int32)), .val (.ref x391), .val (.int (0 : Int32))]) rfl q) ?_
        refine own_go (fun _ q => XS.aload X391.here hx rfl (hb hby at_116) rfl rfl q) ?_
        refine own_go (fun _ q => XS.iload X391.here hx rfl (hb hby at_118) rfl q) ?_
        show own_Fin _ _ _ _ (T391.setTop (mkF m 120 #[.val (.int xa), .val (.int xb), .val (.int xc), .val (.int xd), .val (.int ln), .val (.int ix), .val (.ref b359), .val (.int (3 : Int32)), .val (.int (0 : Int32)), .val (.ref x391), .val (.int (0 : Int32))] [(.int (0 : Int32)), (.ref x391)]))
        obtain ⟨_, _, ⟨T403, L403, k403, n403⟩, -, X403, ⟨Lc403, hQ403, l403, y403, z403⟩, st403⟩ := Jvm.LawKit.callS X391 hx (y := (⟨"com/example/iron_satchel/ironsatchel/PercentEncoding", "isEscapeAt", "(Ljava/lang/String;I)Z"⟩ : MethodName)) hown (mvT hZ (own_w hw 36 rfl)) (mvT hZ (own_w hw 37 rfl)) (mvT hZ (own_w hw 38 rfl)) (mvT hZ (own_w hw 39 rfl)) (by decide) (backOf (W := 0) (rm_ie3_0 l Z a0 hw [] x391 t391 ch0 ch1 ch2 gc gs dg kg T391.heap n0 (Nat.le_trans Z0 K396.1) SS391 (own_take 3 hb4) S_D V_dg S_F hgs S_C hcs O0 S_A S_H S_L) hZ (own_w hw 39 rfl) (own_w hw 38 rfl) (by decide) (by decide)) (g := (mkF m 120 #[.val (.int xa), .val (.int xb), .val (.int xc), .val (.int xd), .val (.int ln), .val (.int ix), .val (.ref b359), .val (.int (3 : Int32)), .val (.int (0 : Int32)), .val (.ref x391), .val (.int (0 : Int32))] [(.int (0 : Int32)), (.ref x391)])) rfl (by rw [hml]; rfl) (argsL := [(.ref x391), (.int (0 : Int32))]) (rest := []) (lenOf pd_26 rfl) rfl (by show 2 * 0 + _ ≤ _; exact Nat.le_of_eq rfl) (hb hby at_120) (fun _ _ => ⟨rfl, rfl, (by decide : 5 + 0 ≤ _), (by decide : 20 + 0 ≤ _)⟩)
        dsimp only [Pt.U, Pt.locs, Pt.cells, Pt.slots] at X403 l403 y403 z403 st403 hQ403
        subst l403 y403 z403
        obtain ⟨z403, rfl, N403q, e403, hz403⟩ := hQ403
        have N403 := Fr.app N391 N403q
        obtain rfl : z403 = 0 := hz403.elim (fun q => absurd q.2 (fun q => hc397 q.1)) (fun q => q.1)
        refine own_go st403 ?_
        refine own_go (fun _ q => XS.iload X403.here hx rfl (hb hby at_123) rfl q) ?_
        show own_Fin _ _ _ _ (T403.setTop (mkF m 125 #[.val (.int xa), .val (.int xb), .val (.int xc), .val (.int xd), .val (.int ln), .val (.int ix), .val (.ref b359), .val (.int (3 : Int32)), .val (.int (0 : Int32)), .val (.ref x391), .val (.int (0 : Int32))] [(.int (0 : Int32)), (.int (0 : Int32))]))
        refine own_go (fun _ q => XS.icmpNo X403.here hx rfl (hb hby at_125) rfl (teq (by decide : (0 : Int32) = (0 : Int32))).2 q) ?_
        refine own_go (fun _ q => XS.iconst X403.here hx rfl (hb hby at_128) q) ?_
        refine own_go (fun _ q => XS.goto X403.here hx rfl (pc0 := 129) (pc' := 133) rfl (hb hby at_129) (by decide) (by decide) q) ?_
        show own_Fin _ _ _ _ (T403.setTop (mkF m 133 #[.val (.int xa), .val (.int xb), .val (.int xc), .val (.int xd), .val (.int ln), .val (.int ix), .val (.ref b359), .val (.int (3 : Int32)), .val (.int (0 : Int32)), .val (.ref x391), .val (.int (0 : Int32))] [(.int (1 : Int32))]))
        refine own_retI X403 hx Bd (t := .boolean) Bd.returns rfl (by simp) (hb hby at_133) ?_ (by decide) (by decide)
        show (Q_rm_law Z xa xb xc xd ln ix gc gs dg kg h0 n0) (some (.int (1 : Int32))) T403.heap _
        rw [e403]
        exact ⟨rfl, N403⟩
    · skip
      show own_Fin _ _ _ _ (T368.setTop (mkF m 53 #[.val (.int xa), .val (.int xb), .val (.int xc), .val (.int xd), .val (.int ln), .val (.int ix), .val (.ref b359), .val (.int (3 : Int32)), .unset, .unset, .unset] [(.int ((ix &&& (2147483647 : Int32)) % (3 : Int32)))]))
      rw [hs53]
      refine own_go (fun _ q => XS.istore X368.here hx rfl (hb hby at_53) rfl (l' := #[.val (.int xa), .val (.int xb), .val (.int xc), .val (.int xd), .val (.int ln), .val (.int ix), .val (.ref b359), .val (.int (3 : Int32)), .val (.int (1 : Int32)), .unset, .unset]) rfl q) ?_
      refine own_go (fun _ q => XS.aload X368.here hx rfl (hb hby at_55) rfl rfl q) ?_
      refine own_go (fun _ q => XS.iload X368.here hx rfl (hb hby at_57) rfl q) ?_
      show own_Fin _ _ _ _ (T368.setTop (mkF m 59 #[.val (.int xa), .val (.int xb), .val (.int xc), .val (.int xd), .val (.int ln), .val (.int ix), .val (.ref b359), .val (.int (3 : Int32)), .val (.int (1 : Int32)), .unset, .unset] [(.int (3 : Int32)), (.ref b359)]))
      obtain ⟨_, _, ⟨T404, L404, k404, n404⟩, -, X404, ⟨Lc404, hQ404, l404, y404, z404⟩, st404⟩ := Jvm.LawKit.callS X368 hx (y := (⟨"com/example/iron_satchel/ironsatchel/PercentEncodingIsEscapeAtPinLaw", "make", "([CI)Ljava/lang/String;"⟩ : MethodName)) hown (mvT hZ (own_w hw 3 rfl)) (mvT hZ (own_w hw 4 rfl)) (mvT hZ (own_w hw 5 rfl)) (mvT hZ (own_w hw 6 rfl)) (by decide) (backOf (W := 0) (rm_mk3 l Z a0 hw [] b359 k359 ch0 ch1 ch2 ch3 gc h368 n0 (Nat.le_trans Z0 K369.1) V359 hb4 S_C hcs O0 S_A S_H S_L) hZ (own_w hw 6 rfl) (own_w hw 5 rfl) (by decide) (by decide)) (g := (mkF m 59 #[.val (.int xa), .val (.int xb), .val (.int xc), .val (.int xd), .val (.int ln), .val (.int ix), .val (.ref b359), .val (.int (3 : Int32)), .val (.int (1 : Int32)), .unset, .unset] [(.int (3 : Int32)), (.ref b359)])) rfl (by rw [hml]; rfl) (argsL := [(.ref b359), (.int (3 : Int32))]) (rest := []) (lenOf pd_25 rfl) rfl (by show 2 * 0 + _ ≤ _; exact Nat.le_of_eq rfl) (hb hby at_59) (fun _ _ => ⟨rfl, e368, (by decide : 1 + 4 ≤ _), (by decide : 4 + 16 ≤ _)⟩)
      dsimp only [Pt.U, Pt.locs, Pt.cells, Pt.slots] at X404 l404 y404 z404 st404 hQ404
      subst l404 y404 z404
      obtain ⟨x404, t404, rfl, N404q, KK404, szx404, szt404, SS404⟩ := hQ404
      have N404 := Fr.app N368 N404q
      have sz_x404 : h0.size ≤ x404 := Nat.le_trans K369.1 szx404
      have g_x404 : n0 ≤ x404 := Nat.le_trans Z0 sz_x404
      have ne405 : dg ≠ x404 := O0.ne V_dg.lt g_x404
      have ne406 : b359 ≠ x404 := Nat.ne_of_lt (Nat.lt_of_lt_of_le V359.lt szx404)
      have sz_t404 : h0.size ≤ t404 := Nat.le_trans K369.1 szt404
      have g_t404 : n0 ≤ t404 := Nat.le_trans Z0 sz_t404
      have ne407 : dg ≠ t404 := O0.ne V_dg.lt g_t404
      have ne408 : b359 ≠ t404 := Nat.ne_of_lt (Nat.lt_of_lt_of_le V359.lt szt404)
      replace O0 := O0.keep KK404 all0
      replace V359 := V359.keep KK404 nin0
      have K409 := K369.trans KK404 all0
      refine own_go st404 ?_
      refine own_go (fun _ q => XS.astore X404.here hx rfl (hb hby at_62) rfl rfl (l' := #[.val (.int xa), .val (.int xb), .val (.int xc), .val (.int xd), .val (.int ln), .val (.int ix), .val (.ref b359), .val (.int (3 : Int32)), .val (.int (1 : Int32)), .val (.ref x404), .unset]) rfl q) ?_
      refine own_go (fun _ q => XS.iload X404.here hx rfl (hb hby at_64) rfl q) ?_
      refine own_go (fun _ q => XS.iconst X404.here hx rfl (hb hby at_66) q) ?_
      show own_Fin _ _ _ _ (T404.setTop (mkF m 67 #[.val (.int xa), .val (.int xb), .val (.int xc), .val (.int xd), .val (.int ln), .val (.int ix), .val (.ref b359), .val (.int (3 : Int32)), .val (.int (1 : Int32)), .val (.ref x404), .unset] [(.int (2 : Int32)), (.int (1 : Int32))]))
      refine own_go (fun _ q => XS.iadd X404.here hx rfl (hb hby at_67) rfl q) ?_
      refine own_go (fun _ q => XS.iload X404.here hx rfl (hb hby at_68) rfl q) ?_
      show own_Fin _ _ _ _ (T404.setTop (mkF m 70 #[.val (.int xa), .val (.int xb), .val (.int xc), .val (.int xd), .val (.int ln), .val (.int ix), .val (.ref b359), .val (.int (3 : Int32)), .val (.int (1 : Int32)), .val (.ref x404), .unset] [(.int (3 : Int32)), (.int (3 : Int32))]))
      refine own_go (fun _ q => XS.icmpYes X404.here hx rfl (pc0 := 70) (pc' := 113) rfl (hb hby at_70) rfl (flt (by decide : ¬ (3 : Int32) < (3 : Int32))).2.1 (by decide) (by decide) q) ?_
      refine own_go (fun _ q => XS.iconst X404.here hx rfl (hb hby at_113) q) ?_
      refine own_go (fun _ q => XS.istore X404.here hx rfl (hb hby at_114) rfl (l' := #[.val (.int xa), .val (.int xb), .val (.int xc), .val (.int xd), .val (.int ln), .val (.int ix), .val (.ref b359), .val (.int (3 : Int32)), .val (.int (1 : Int32)), .val (.ref x404), .val (.int (0 : Int32))]) rfl q) ?_
      refine own_go (fun _ q => XS.aload X404.here hx rfl (hb hby at_116) rfl rfl q) ?_
      refine own_go (fun _ q => XS.iload X404.here hx rfl (hb hby at_118) rfl q) ?_
      show own_Fin _ _ _ _ (T404.setTop (mkF m 120 #[.val (.int xa), .val (.int xb), .val (.int xc), .val (.int xd), .val (.int ln), .val (.int ix), .val (.ref b359), .val (.int (3 : Int32)), .val (.int (1 : Int32)), .val (.ref x404), .val (.int (0 : Int32))] [(.int (1 : Int32)), (.ref x404)]))
      obtain ⟨_, _, ⟨T410, L410, k410, n410⟩, -, X410, ⟨Lc410, hQ410, l410, y410, z410⟩, st410⟩ := Jvm.LawKit.callS X404 hx (y := (⟨"com/example/iron_satchel/ironsatchel/PercentEncoding", "isEscapeAt", "(Ljava/lang/String;I)Z"⟩ : MethodName)) hown (mvT hZ (own_w hw 36 rfl)) (mvT hZ (own_w hw 37 rfl)) (mvT hZ (own_w hw 38 rfl)) (mvT hZ (own_w hw 39 rfl)) (by decide) (backOf (W := 0) (rm_ie0 l Z a0 hw [] x404 t404 ([ch0, ch1, ch2] : List Int32) (1 : Int32) ch1 gc gs T404.heap n0 (Nat.le_trans Z0 K409.1) SS404 (own_m 1 rfl) (by decide) (by show (1 : Int32) < (3 : Int32); decide) rfl (by show (1 : Int32) < ((6 : Int32) >>> ((1 : Int32) &&& 31)); decide) (by show ¬ ((1 : Int32) <<< ((1 : Int32) &&& 31)) < 0 ∧ ((1 : Int32) <<< ((1 : Int32) &&& 31)) < (6 : Int32); decide) (by show ¬ (((1 : Int32) <<< ((1 : Int32) &&& 31)) + (1 : Int32)) < 0 ∧ (((1 : Int32) <<< ((1 : Int32) &&& 31)) + (1 : Int32)) < (6 : Int32); decide) rfl rfl (by show ¬ ((1 : Int32) + (2 : Int32)) < (3 : Int32); decide) S_F hgs S_C hcs O0 S_A S_H S_L) hZ (own_w hw 39 rfl) (own_w hw 38 rfl) (by decide) (by decide)) (g := (mkF m 120 #[.val (.int xa), .val (.int xb), .val (.int xc), .val (.int xd), .val (.int ln), .val (.int ix), .val (.ref b359), .val (.int (3 : Int32)), .val (.int (1 : Int32)), .val (.ref x404), .val (.int (0 : Int32))] [(.int (1 : Int32)), (.ref x404)])) rfl (by rw [hml]; rfl) (argsL := [(.ref x404), (.int (1 : Int32))]) (rest := []) (lenOf pd_26 rfl) rfl (by show 2 * 0 + _ ≤ _; exact Nat.le_of_eq rfl) (hb hby at_120) (fun _ _ => ⟨rfl, rfl, (by decide : 5 + 0 ≤ _), (by decide : 20 + 0 ≤ _)⟩)
      dsimp only [Pt.U, Pt.locs, Pt.cells, Pt.slots] at X410 l410 y410 z410 st410 hQ410
      subst l410 y410 z410
      obtain ⟨rfl, N410q, e410⟩ := hQ410
      have N410 := Fr.app N404 N410q
      refine own_go st410 ?_
      refine own_go (fun _ q => XS.iload X410.here hx rfl (hb hby at_123) rfl q) ?_
      show own_Fin _ _ _ _ (T410.setTop (mkF m 125 #[.val (.int xa), .val (.int xb), .val (.int xc), .val (.int xd), .val (.int ln), .val (.int ix), .val (.ref b359), .val (.int (3 : Int32)), .val (.int (1 : Int32)), .val (.ref x404), .val (.int (0 : Int32))] [(.int (0 : Int32)), (.int (0 : Int32))]))
      refine own_go (fun _ q => XS.icmpNo X410.here hx rfl (hb hby at_125) rfl (teq (by decide : (0 : Int32) = (0 : Int32))).2 q) ?_
      refine own_go (fun _ q => XS.iconst X410.here hx rfl (hb hby at_128) q) ?_
      refine own_go (fun _ q => XS.goto X410.here hx rfl (pc0 := 129) (pc' := 133) rfl (hb hby at_129) (by decide) (by decide) q) ?_
      show own_Fin _ _ _ _ (T410.setTop (mkF m 133 #[.val (.int xa), .val (.int xb), .val (.int xc), .val (.int xd), .val (.int ln), .val (.int ix), .val (.ref b359), .val (.int (3 : Int32)), .val (.int (1 : Int32)), .val (.ref x404), .val (.int (0 : Int32))] [(.int (1 : Int32))]))
      refine own_retI X410 hx Bd (t := .boolean) Bd.returns rfl (by simp) (hb hby at_133) ?_ (by decide) (by decide)
      show (Q_rm_law Z xa xb xc xd ln ix gc gs dg kg h0 n0) (some (.int (1 : Int32))) T410.heap _
      rw [e410]
      exact ⟨rfl, N410⟩
    · skip
      show own_Fin _ _ _ _ (T368.setTop (mkF m 53 #[.val (.int xa), .val (.int xb), .val (.int xc), .val (.int xd), .val (.int ln), .val (.int ix), .val (.ref b359), .val (.int (3 : Int32)), .unset, .unset, .unset] [(.int ((ix &&& (2147483647 : Int32)) % (3 : Int32)))]))
      rw [hs53]
      refine own_go (fun _ q => XS.istore X368.here hx rfl (hb hby at_53) rfl (l' := #[.val (.int xa), .val (.int xb), .val (.int xc), .val (.int xd), .val (.int ln), .val (.int ix), .val (.ref b359), .val (.int (3 : Int32)), .val (.int (2 : Int32)), .unset, .unset]) rfl q) ?_
      refine own_go (fun _ q => XS.aload X368.here hx rfl (hb hby at_55) rfl rfl q) ?_
      refine own_go (fun _ q => XS.iload X368.here hx rfl (hb hby at_57) rfl q) ?_
      show own_Fin _ _ _ _ (T368.setTop (mkF m 59 #[.val (.int xa), .val (.int xb), .val (.int xc), .val (.int xd), .val (.int ln), .val (.int ix), .val (.ref b359), .val (.int (3 : Int32)), .val (.int (2 : Int32)), .unset, .unset] [(.int (3 : Int32)), (.ref b359)]))
      obtain ⟨_, _, ⟨T411, L411, k411, n411⟩, -, X411, ⟨Lc411, hQ411, l411, y411, z411⟩, st411⟩ := Jvm.LawKit.callS X368 hx (y := (⟨"com/example/iron_satchel/ironsatchel/PercentEncodingIsEscapeAtPinLaw", "make", "([CI)Ljava/lang/String;"⟩ : MethodName)) hown (mvT hZ (own_w hw 3 rfl)) (mvT hZ (own_w hw 4 rfl)) (mvT hZ (own_w hw 5 rfl)) (mvT hZ (own_w hw 6 rfl)) (by decide) (backOf (W := 0) (rm_mk3 l Z a0 hw [] b359 k359 ch0 ch1 ch2 ch3 gc h368 n0 (Nat.le_trans Z0 K369.1) V359 hb4 S_C hcs O0 S_A S_H S_L) hZ (own_w hw 6 rfl) (own_w hw 5 rfl) (by decide) (by decide)) (g := (mkF m 59 #[.val (.int xa), .val (.int xb), .val (.int xc), .val (.int xd), .val (.int ln), .val (.int ix), .val (.ref b359), .val (.int (3 : Int32)), .val (.int (2 : Int32)), .unset, .unset] [(.int (3 : Int32)), (.ref b359)])) rfl (by rw [hml]; rfl) (argsL := [(.ref b359), (.int (3 : Int32))]) (rest := []) (lenOf pd_25 rfl) rfl (by show 2 * 0 + _ ≤ _; exact Nat.le_of_eq rfl) (hb hby at_59) (fun _ _ => ⟨rfl, e368, (by decide : 1 + 4 ≤ _), (by decide : 4 + 16 ≤ _)⟩)
      dsimp only [Pt.U, Pt.locs, Pt.cells, Pt.slots] at X411 l411 y411 z411 st411 hQ411
      subst l411 y411 z411
      obtain ⟨x411, t411, rfl, N411q, KK411, szx411, szt411, SS411⟩ := hQ411
      have N411 := Fr.app N368 N411q
      have sz_x411 : h0.size ≤ x411 := Nat.le_trans K369.1 szx411
      have g_x411 : n0 ≤ x411 := Nat.le_trans Z0 sz_x411
      have ne412 : dg ≠ x411 := O0.ne V_dg.lt g_x411
      have ne413 : b359 ≠ x411 := Nat.ne_of_lt (Nat.lt_of_lt_of_le V359.lt szx411)
      have sz_t411 : h0.size ≤ t411 := Nat.le_trans K369.1 szt411
      have g_t411 : n0 ≤ t411 := Nat.le_trans Z0 sz_t411
      have ne414 : dg ≠ t411 := O0.ne V_dg.lt g_t411
      have ne415 : b359 ≠ t411 := Nat.ne_of_lt (Nat.lt_of_lt_of_le V359.lt szt411)
      replace O0 := O0.keep KK411 all0
      replace V359 := V359.keep KK411 nin0
      have K416 := K369.trans KK411 all0
      refine own_go st411 ?_
      refine own_go (fun _ q => XS.astore X411.here hx rfl (hb hby at_62) rfl rfl (l' := #[.val (.int xa), .val (.int xb), .val (.int xc), .val (.int xd), .val (.int ln), .val (.int ix), .val (.ref b359), .val (.int (3 : Int32)), .val (.int (2 : Int32)), .val (.ref x411), .unset]) rfl q) ?_
      refine own_go (fun _ q => XS.iload X411.here hx rfl (hb hby at_64) rfl q) ?_
      refine own_go (fun _ q => XS.iconst X411.here hx rfl (hb hby at_66) q) ?_
      show own_Fin _ _ _ _ (T411.setTop (mkF m 67 #[.val (.int xa), .val (.int xb), .val (.int xc), .val (.int xd), .val (.int ln), .val (.int ix), .val (.ref b359), .val (.int (3 : Int32)), .val (.int (2 : Int32)), .val (.ref x411), .unset] [(.int (2 : Int32)), (.int (2 : Int32))]))
      refine own_go (fun _ q => XS.iadd X411.here hx rfl (hb hby at_67) rfl q) ?_
      refine own_go (fun _ q => XS.iload X411.here hx rfl (hb hby at_68) rfl q) ?_
      show own_Fin _ _ _ _ (T411.setTop (mkF m 70 #[.val (.int xa), .val (.int xb), .val (.int xc), .val (.int xd), .val (.int ln), .val (.int ix), .val (.ref b359), .val (.int (3 : Int32)), .val (.int (2 : Int32)), .val (.ref x411), .unset] [(.int (3 : Int32)), (.int (4 : Int32))]))
      refine own_go (fun _ q => XS.icmpYes X411.here hx rfl (pc0 := 70) (pc' := 113) rfl (hb hby at_70) rfl (flt (by decide : ¬ (4 : Int32) < (3 : Int32))).2.1 (by decide) (by decide) q) ?_
      refine own_go (fun _ q => XS.iconst X411.here hx rfl (hb hby at_113) q) ?_
      refine own_go (fun _ q => XS.istore X411.here hx rfl (hb hby at_114) rfl (l' := #[.val (.int xa), .val (.int xb), .val (.int xc), .val (.int xd), .val (.int ln), .val (.int ix), .val (.ref b359), .val (.int (3 : Int32)), .val (.int (2 : Int32)), .val (.ref x411), .val (.int (0 : Int32))]) rfl q) ?_
      refine own_go (fun _ q => XS.aload X411.here hx rfl (hb hby at_116) rfl rfl q) ?_
      refine own_go (fun _ q => XS.iload X411.here hx rfl (hb hby at_118) rfl q) ?_
      show own_Fin _ _ _ _ (T411.setTop (mkF m 120 #[.val (.int xa), .val (.int xb), .val (.int xc), .val (.int xd), .val (.int ln), .val (.int ix), .val (.ref b359), .val (.int (3 : Int32)), .val (.int (2 : Int32)), .val (.ref x411), .val (.int (0 : Int32))] [(.int (2 : Int32)), (.ref x411)]))
      obtain ⟨_, _, ⟨T417, L417, k417, n417⟩, -, X417, ⟨Lc417, hQ417, l417, y417, z417⟩, st417⟩ := Jvm.LawKit.callS X411 hx (y := (⟨"com/example/iron_satchel/ironsatchel/PercentEncoding", "isEscapeAt", "(Ljava/lang/String;I)Z"⟩ : MethodName)) hown (mvT hZ (own_w hw 36 rfl)) (mvT hZ (own_w hw 37 rfl)) (mvT hZ (own_w hw 38 rfl)) (mvT hZ (own_w hw 39 rfl)) (by decide) (backOf (W := 0) (rm_ie0 l Z a0 hw [] x411 t411 ([ch0, ch1, ch2] : List Int32) (2 : Int32) ch2 gc gs T411.heap n0 (Nat.le_trans Z0 K416.1) SS411 (own_m 2 rfl) (by decide) (by show (2 : Int32) < (3 : Int32); decide) rfl (by show (2 : Int32) < ((6 : Int32) >>> ((1 : Int32) &&& 31)); decide) (by show ¬ ((2 : Int32) <<< ((1 : Int32) &&& 31)) < 0 ∧ ((2 : Int32) <<< ((1 : Int32) &&& 31)) < (6 : Int32); decide) (by show ¬ (((2 : Int32) <<< ((1 : Int32) &&& 31)) + (1 : Int32)) < 0 ∧ (((2 : Int32) <<< ((1 : Int32) &&& 31)) + (1 : Int32)) < (6 : Int32); decide) rfl rfl (by show ¬ ((2 : Int32) + (2 : Int32)) < (3 : Int32); decide) S_F hgs S_C hcs O0 S_A S_H S_L) hZ (own_w hw 39 rfl) (own_w hw 38 rfl) (by decide) (by decide)) (g := (mkF m 120 #[.val (.int xa), .val (.int xb), .val (.int xc), .val (.int xd), .val (.int ln), .val (.int ix), .val (.ref b359), .val (.int (3 : Int32)), .val (.int (2 : Int32)), .val (.ref x411), .val (.int (0 : Int32))] [(.int (2 : Int32)), (.ref x411)])) rfl (by rw [hml]; rfl) (argsL := [(.ref x411), (.int (2 : Int32))]) (rest := []) (lenOf pd_26 rfl) rfl (by show 2 * 0 + _ ≤ _; exact Nat.le_of_eq rfl) (hb hby at_120) (fun _ _ => ⟨rfl, rfl, (by decide : 5 + 0 ≤ _), (by decide : 20 + 0 ≤ _)⟩)
      dsimp only [Pt.U, Pt.locs, Pt.cells, Pt.slots] at X417 l417 y417 z417 st417 hQ417
      subst l417 y417 z417
      obtain ⟨rfl, N417q, e417⟩ := hQ417
      have N417 := Fr.app N411 N417q
      refine own_go st417 ?_
      refine own_go (fun _ q => XS.iload X417.here hx rfl (hb hby at_123) rfl q) ?_
      show own_Fin _ _ _ _ (T417.setTop (mkF m 125 #[.val (.int xa), .val (.int xb), .val (.int xc), .val (.int xd), .val (.int ln), .val (.int ix), .val (.ref b359), .val (.int (3 : Int32)), .val (.int (2 : Int32)), .val (.ref x411), .val (.int (0 : Int32))] [(.int (0 : Int32)), (.int (0 : Int32))]))
      refine own_go (fun _ q => XS.icmpNo X417.here hx rfl (hb hby at_125) rfl (teq (by decide : (0 : Int32) = (0 : Int32))).2 q) ?_
      refine own_go (fun _ q => XS.iconst X417.here hx rfl (hb hby at_128) q) ?_
      refine own_go (fun _ q => XS.goto X417.here hx rfl (pc0 := 129) (pc' := 133) rfl (hb hby at_129) (by decide) (by decide) q) ?_
      show own_Fin _ _ _ _ (T417.setTop (mkF m 133 #[.val (.int xa), .val (.int xb), .val (.int xc), .val (.int xd), .val (.int ln), .val (.int ix), .val (.ref b359), .val (.int (3 : Int32)), .val (.int (2 : Int32)), .val (.ref x411), .val (.int (0 : Int32))] [(.int (1 : Int32))]))
      refine own_retI X417 hx Bd (t := .boolean) Bd.returns rfl (by simp) (hb hby at_133) ?_ (by decide) (by decide)
      show (Q_rm_law Z xa xb xc xd ln ix gc gs dg kg h0 n0) (some (.int (1 : Int32))) T417.heap _
      rw [e417]
      exact ⟨rfl, N417⟩
  · skip
    show own_Fin _ _ _ _ (T368.setTop (mkF m 41 #[.val (.int xa), .val (.int xb), .val (.int xc), .val (.int xd), .val (.int ln), .val (.int ix), .val (.ref b359), .unset, .unset, .unset, .unset] [(.int (ln &&& (3 : Int32)))]))
    rw [hs41]
    refine own_go (fun _ q => XS.iconst X368.here hx rfl (hb hby at_41) q) ?_
    show own_Fin _ _ _ _ (T368.setTop (mkF m 42 #[.val (.int xa), .val (.int xb), .val (.int xc), .val (.int xd), .val (.int ln), .val (.int ix), .val (.ref b359), .unset, .unset, .unset, .unset] [(.int (1 : Int32)), (.int (3 : Int32))]))
    refine own_go (fun _ q => XS.iadd X368.here hx rfl (hb hby at_42) rfl q) ?_
    refine own_go (fun _ q => XS.istore X368.here hx rfl (hb hby at_43) rfl (l' := #[.val (.int xa), .val (.int xb), .val (.int xc), .val (.int xd), .val (.int ln), .val (.int ix), .val (.ref b359), .val (.int (4 : Int32)), .unset, .unset, .unset]) rfl q) ?_
    refine own_go (fun _ q => XS.iload X368.here hx rfl (hb hby at_45) rfl q) ?_
    show own_Fin _ _ _ _ (T368.setTop (mkF m 47 #[.val (.int xa), .val (.int xb), .val (.int xc), .val (.int xd), .val (.int ln), .val (.int ix), .val (.ref b359), .val (.int (4 : Int32)), .unset, .unset, .unset] [(.int ix)]))
    refine own_go (fun _ q => Jvm.Stand.ldcI X368 hx hown (mvT hZ (own_w hw 2 rfl)) (g := (mkF m 47 #[.val (.int xa), .val (.int xb), .val (.int xc), .val (.int xd), .val (.int ln), .val (.int ix), .val (.ref b359), .val (.int (4 : Int32)), .unset, .unset, .unset] [(.int ix)])) rfl (hb hby at_47) q) ?_
    show own_Fin _ _ _ _ (T368.setTop (mkF m 49 #[.val (.int xa), .val (.int xb), .val (.int xc), .val (.int xd), .val (.int ln), .val (.int ix), .val (.ref b359), .val (.int (4 : Int32)), .unset, .unset, .unset] [(.int (2147483647 : Int32)), (.int ix)]))
    refine own_go (fun _ q => XS.iand X368.here hx rfl (hb hby at_49) rfl q) ?_
    refine own_go (fun _ q => XS.iload X368.here hx rfl (hb hby at_50) rfl q) ?_
    show own_Fin _ _ _ _ (T368.setTop (mkF m 52 #[.val (.int xa), .val (.int xb), .val (.int xc), .val (.int xd), .val (.int ln), .val (.int ix), .val (.ref b359), .val (.int (4 : Int32)), .unset, .unset, .unset] [(.int (4 : Int32)), (.int (ix &&& (2147483647 : Int32)))]))
    refine own_go (fun _ q => iremM X368 hx rfl  (hb hby at_52) rfl (by decide) q) ?_
    show own_Fin _ _ _ _ (T368.setTop (mkF m 53 #[.val (.int xa), .val (.int xb), .val (.int xc), .val (.int xd), .val (.int ln), .val (.int ix), .val (.ref b359), .val (.int (4 : Int32)), .unset, .unset, .unset] [(.int ((ix &&& (2147483647 : Int32)) % (4 : Int32)))]))
    rcases own_mod4 ix with hs53 | hs53 | hs53 | hs53
    · skip
      show own_Fin _ _ _ _ (T368.setTop (mkF m 53 #[.val (.int xa), .val (.int xb), .val (.int xc), .val (.int xd), .val (.int ln), .val (.int ix), .val (.ref b359), .val (.int (4 : Int32)), .unset, .unset, .unset] [(.int ((ix &&& (2147483647 : Int32)) % (4 : Int32)))]))
      rw [hs53]
      refine own_go (fun _ q => XS.istore X368.here hx rfl (hb hby at_53) rfl (l' := #[.val (.int xa), .val (.int xb), .val (.int xc), .val (.int xd), .val (.int ln), .val (.int ix), .val (.ref b359), .val (.int (4 : Int32)), .val (.int (0 : Int32)), .unset, .unset]) rfl q) ?_
      refine own_go (fun _ q => XS.aload X368.here hx rfl (hb hby at_55) rfl rfl q) ?_
      refine own_go (fun _ q => XS.iload X368.here hx rfl (hb hby at_57) rfl q) ?_
      show own_Fin _ _ _ _ (T368.setTop (mkF m 59 #[.val (.int xa), .val (.int xb), .val (.int xc), .val (.int xd), .val (.int ln), .val (.int ix), .val (.ref b359), .val (.int (4 : Int32)), .val (.int (0 : Int32)), .unset, .unset] [(.int (4 : Int32)), (.ref b359)]))
      obtain ⟨_, _, ⟨T418, L418, k418, n418⟩, -, X418, ⟨Lc418, hQ418, l418, y418, z418⟩, st418⟩ := Jvm.LawKit.callS X368 hx (y := (⟨"com/example/iron_satchel/ironsatchel/PercentEncodingIsEscapeAtPinLaw", "make", "([CI)Ljava/lang/String;"⟩ : MethodName)) hown (mvT hZ (own_w hw 3 rfl)) (mvT hZ (own_w hw 4 rfl)) (mvT hZ (own_w hw 5 rfl)) (mvT hZ (own_w hw 6 rfl)) (by decide) (backOf (W := 0) (rm_mk4 l Z a0 hw [] b359 k359 ch0 ch1 ch2 ch3 gc h368 n0 (Nat.le_trans Z0 K369.1) V359 hb4 S_C hcs O0 S_A S_H S_L) hZ (own_w hw 6 rfl) (own_w hw 5 rfl) (by decide) (by decide)) (g := (mkF m 59 #[.val (.int xa), .val (.int xb), .val (.int xc), .val (.int xd), .val (.int ln), .val (.int ix), .val (.ref b359), .val (.int (4 : Int32)), .val (.int (0 : Int32)), .unset, .unset] [(.int (4 : Int32)), (.ref b359)])) rfl (by rw [hml]; rfl) (argsL := [(.ref b359), (.int (4 : Int32))]) (rest := []) (lenOf pd_25 rfl) rfl (by show 2 * 0 + _ ≤ _; exact Nat.le_of_eq rfl) (hb hby at_59) (fun _ _ => ⟨rfl, e368, (by decide : 1 + 4 ≤ _), (by decide : 4 + 20 ≤ _)⟩)
      dsimp only [Pt.U, Pt.locs, Pt.cells, Pt.slots] at X418 l418 y418 z418 st418 hQ418
      subst l418 y418 z418
      obtain ⟨x418, t418, rfl, N418q, KK418, szx418, szt418, SS418⟩ := hQ418
      have N418 := Fr.app N368 N418q
      have sz_x418 : h0.size ≤ x418 := Nat.le_trans K369.1 szx418
      have g_x418 : n0 ≤ x418 := Nat.le_trans Z0 sz_x418
      have ne419 : dg ≠ x418 := O0.ne V_dg.lt g_x418
      have ne420 : b359 ≠ x418 := Nat.ne_of_lt (Nat.lt_of_lt_of_le V359.lt szx418)
      have sz_t418 : h0.size ≤ t418 := Nat.le_trans K369.1 szt418
      have g_t418 : n0 ≤ t418 := Nat.le_trans Z0 sz_t418
      have ne421 : dg ≠ t418 := O0.ne V_dg.lt g_t418
      have ne422 : b359 ≠ t418 := Nat.ne_of_lt (Nat.lt_of_lt_of_le V359.lt szt418)
      replace O0 := O0.keep KK418 all0
      replace V359 := V359.keep KK418 nin0
      have K423 := K369.trans KK418 all0
      refine own_go st418 ?_
      refine own_go (fun _ q => XS.astore X418.here hx rfl (hb hby at_62) rfl rfl (l' := #[.val (.int xa), .val (.int xb), .val (.int xc), .val (.int xd), .val (.int ln), .val (.int ix), .val (.ref b359), .val (.int (4 : Int32)), .val (.int (0 : Int32)), .val (.ref x418), .unset]) rfl q) ?_
      refine own_go (fun _ q => XS.iload X418.here hx rfl (hb hby at_64) rfl q) ?_
      refine own_go (fun _ q => XS.iconst X418.here hx rfl (hb hby at_66) q) ?_
      show own_Fin _ _ _ _ (T418.setTop (mkF m 67 #[.val (.int xa), .val (.int xb), .val (.int xc), .val (.int xd), .val (.int ln), .val (.int ix), .val (.ref b359), .val (.int (4 : Int32)), .val (.int (0 : Int32)), .val (.ref x418), .unset] [(.int (2 : Int32)), (.int (0 : Int32))]))
      refine own_go (fun _ q => XS.iadd X418.here hx rfl (hb hby at_67) rfl q) ?_
      refine own_go (fun _ q => XS.iload X418.here hx rfl (hb hby at_68) rfl q) ?_
      show own_Fin _ _ _ _ (T418.setTop (mkF m 70 #[.val (.int xa), .val (.int xb), .val (.int xc), .val (.int xd), .val (.int ln), .val (.int ix), .val (.ref b359), .val (.int (4 : Int32)), .val (.int (0 : Int32)), .val (.ref x418), .unset] [(.int (4 : Int32)), (.int (2 : Int32))]))
      refine own_go (fun _ q => XS.icmpNo X418.here hx rfl (hb hby at_70) rfl (tlt (by decide : (2 : Int32) < (4 : Int32))).2.1 q) ?_
      refine own_go (fun _ q => XS.aload X418.here hx rfl (hb hby at_73) rfl rfl q) ?_
      refine own_go (fun _ q => XS.iload X418.here hx rfl (hb hby at_75) rfl q) ?_
      show own_Fin _ _ _ _ (T418.setTop (mkF m 77 #[.val (.int xa), .val (.int xb), .val (.int xc), .val (.int xd), .val (.int ln), .val (.int ix), .val (.ref b359), .val (.int (4 : Int32)), .val (.int (0 : Int32)), .val (.ref x418), .unset] [(.int (0 : Int32)), (.ref b359)]))
      refine own_go (fun _ q => own_caload X418 hx hZ rfl V359 (by decide) (v := (.int ch0)) (rfl) (g := (mkF m 77 #[.val (.int xa), .val (.int xb), .val (.int xc), .val (.int xd), .val (.int ln), .val (.int ix), .val (.ref b359), .val (.int (4 : Int32)), .val (.int (0 : Int32)), .val (.ref x418), .unset] [(.int (0 : Int32)), (.ref b359)])) rfl rfl (hb hby at_77) _ q) ?_
      refine own_go (fun _ q => XS.bipush X418.here hx rfl (hb hby at_78) q) ?_
      show own_Fin _ _ _ _ (T418.setTop (mkF m 80 #[.val (.int xa), .val (.int xb), .val (.int xc), .val (.int xd), .val (.int ln), .val (.int ix), .val (.ref b359), .val (.int (4 : Int32)), .val (.int (0 : Int32)), .val (.ref x418), .unset] [(.int (37 : Int32)), (.int ch0)]))
      by_cases hc424 : ch0 = (37 : Int32)
      · skip
        refine own_go (fun _ q => XS.icmpNo X418.here hx rfl (hb hby at_80) rfl (teq hc424).2 q) ?_
        refine own_go (fun _ q => XS.aload X418.here hx rfl (hb hby at_83) rfl rfl q) ?_
        refine own_go (fun _ q => XS.iload X418.here hx rfl (hb hby at_85) rfl q) ?_
        refine own_go (fun _ q => XS.iconst X418.here hx rfl (hb hby at_87) q) ?_
        show own_Fin _ _ _ _ (T418.setTop (mkF m 88 #[.val (.int xa), .val (.int xb), .val (.int xc), .val (.int xd), .val (.int ln), .val (.int ix), .val (.ref b359), .val (.int (4 : Int32)), .val (.int (0 : Int32)), .val (.ref x418), .unset] [(.int (1 : Int32)), (.int (0 : Int32)), (.ref b359)]))
        refine own_go (fun _ q => XS.iadd X418.here hx rfl (hb hby at_88) rfl q) ?_
        show own_Fin _ _ _ _ (T418.setTop (mkF m 89 #[.val (.int xa), .val (.int xb), .val (.int xc), .val (.int xd), .val (.int ln), .val (.int ix), .val (.ref b359), .val (.int (4 : Int32)), .val (.int (0 : Int32)), .val (.ref x418), .unset] [(.int (1 : Int32)), (.ref b359)]))
        refine own_go (fun _ q => own_caload X418 hx hZ rfl V359 (by decide) (v := (.int ch1)) (rfl) (g := (mkF m 89 #[.val (.int xa), .val (.int xb), .val (.int xc), .val (.int xd), .val (.int ln), .val (.int ix), .val (.ref b359), .val (.int (4 : Int32)), .val (.int (0 : Int32)), .val (.ref x418), .unset] [(.int (1 : Int32)), (.ref b359)])) rfl rfl (hb hby at_89) _ q) ?_
        show own_Fin _ _ _ _ (T418.setTop (mkF m 90 #[.val (.int xa), .val (.int xb), .val (.int xc), .val (.int xd), .val (.int ln), .val (.int ix), .val (.ref b359), .val (.int (4 : Int32)), .val (.int (0 : Int32)), .val (.ref x418), .unset] [(.int ch1)]))
        obtain ⟨_, _, ⟨T425, L425, k425, n425⟩, -, X425, ⟨Lc425, hQ425, l425, y425, z425⟩, st425⟩ := Jvm.LawKit.callS X418 hx (y := (⟨"com/example/iron_satchel/ironsatchel/PercentEncodingIsEscapeAtPinLaw", "isHex", "(C)Z"⟩ : MethodName)) hown (mvT hZ (own_w hw 101 rfl)) (mvT hZ (own_w hw 102 rfl)) (mvT hZ (own_w hw 5 rfl)) (mvT hZ (own_w hw 103 rfl)) (by decide) (backOf (W := 0) (rm_ih l Z a0 hw [] ch1  T418.heap n0 (Nat.le_trans Z0 K423.1) ) hZ (own_w hw 103 rfl) (own_w hw 5 rfl) (by decide) (by decide)) (g := (mkF m 90 #[.val (.int xa), .val (.int xb), .val (.int xc), .val (.int xd), .val (.int ln), .val (.int ix), .val (.ref b359), .val (.int (4 : Int32)), .val (.int (0 : Int32)), .val (.ref x418), .unset] [(.int ch1)])) rfl (by rw [hml]; rfl) (argsL := [(.int ch1)]) (rest := []) (lenOf pd_27 rfl) rfl (by show 2 * 0 + _ ≤ _; exact Nat.le_of_eq rfl) (hb hby at_90) (fun _ _ => ⟨rfl, rfl, (by decide : 5 + 0 ≤ _), (by decide : 24 + 0 ≤ _)⟩)
        dsimp only [Pt.U, Pt.locs, Pt.cells, Pt.slots] at X425 l425 y425 z425 st425 hQ425
        subst l425 y425 z425
        obtain ⟨z425, rfl, N425q, e425, hz425⟩ := hQ425
        have N425 := Fr.app N418 N425q
        rcases hz425 with ⟨rfl, hh425⟩ | ⟨rfl, hh425⟩
        · skip
          refine own_go st425 ?_
          show own_Fin _ _ _ _ (T425.setTop (mkF m 93 #[.val (.int xa), .val (.int xb), .val (.int xc), .val (.int xd), .val (.int ln), .val (.int ix), .val (.ref b359), .val (.int (4 : Int32)), .val (.int (0 : Int32)), .val (.ref x418), .unset] [(.int (1 : Int32))]))
          refine own_go (fun _ q => XS.ifNo X425.here hx rfl (hb hby at_93) rfl ((if0 _ _).trans (feq (by decide : ¬ (1 : Int32) = (0 : Int32))).1) q) ?_
          refine own_go (fun _ q => XS.aload X425.here hx rfl (hb hby at_96) rfl rfl q) ?_
          refine own_go (fun _ q => XS.iload X425.here hx rfl (hb hby at_98) rfl q) ?_
          refine own_go (fun _ q => XS.iconst X425.here hx rfl (hb hby at_100) q) ?_
          show own_Fin _ _ _ _ (T425.setTop (mkF m 101 #[.val (.int xa), .val (.int xb), .val (.int xc), .val (.int xd), .val (.int ln), .val (.int ix), .val (.ref b359), .val (.int (4 : Int32)), .val (.int (0 : Int32)), .val (.ref x418), .unset] [(.int (2 : Int32)), (.int (0 : Int32)), (.ref b359)]))
          refine own_go (fun _ q => XS.iadd X425.here hx rfl (hb hby at_101) rfl q) ?_
          show own_Fin _ _ _ _ (T425.setTop (mkF m 102 #[.val (.int xa), .val (.int xb), .val (.int xc), .val (.int xd), .val (.int ln), .val (.int ix), .val (.ref b359), .val (.int (4 : Int32)), .val (.int (0 : Int32)), .val (.ref x418), .unset] [(.int (2 : Int32)), (.ref b359)]))
          refine own_go (fun _ q => own_caload X425 hx hZ e425 V359 (by decide) (v := (.int ch2)) (rfl) (g := (mkF m 102 #[.val (.int xa), .val (.int xb), .val (.int xc), .val (.int xd), .val (.int ln), .val (.int ix), .val (.ref b359), .val (.int (4 : Int32)), .val (.int (0 : Int32)), .val (.ref x418), .unset] [(.int (2 : Int32)), (.ref b359)])) rfl rfl (hb hby at_102) _ q) ?_
          show own_Fin _ _ _ _ (T425.setTop (mkF m 103 #[.val (.int xa), .val (.int xb), .val (.int xc), .val (.int xd), .val (.int ln), .val (.int ix), .val (.ref b359), .val (.int (4 : Int32)), .val (.int (0 : Int32)), .val (.ref x418), .unset] [(.int ch2)]))
          obtain ⟨_, _, ⟨T426, L426, k426, n426⟩, -, X426, ⟨Lc426, hQ426, l426, y426, z426⟩, st426⟩ := Jvm.LawKit.callS X425 hx (y := (⟨"com/example/iron_satchel/ironsatchel/PercentEncodingIsEscapeAtPinLaw", "isHex", "(C)Z"⟩ : MethodName)) hown (mvT hZ (own_w hw 101 rfl)) (mvT hZ (own_w hw 102 rfl)) (mvT hZ (own_w hw 5 rfl)) (mvT hZ (own_w hw 103 rfl)) (by decide) (backOf (W := 0) (rm_ih l Z a0 hw [] ch2  T418.heap n0 (Nat.le_trans Z0 K423.1) ) hZ (own_w hw 103 rfl) (own_w hw 5 rfl) (by decide) (by decide)) (g := (mkF m 103 #[.val (.int xa), .val (.int xb), .val (.int xc), .val (.int xd), .val (.int ln), .val (.int ix), .val (.ref b359), .val (.int (4 : Int32)), .val (.int (0 : Int32)), .val (.ref x418), .unset] [(.int ch2)])) rfl (by rw [hml]; rfl) (argsL := [(.int ch2)]) (rest := []) (lenOf pd_27 rfl) rfl (by show 2 * 0 + _ ≤ _; exact Nat.le_of_eq rfl) (hb hby at_103) (fun _ _ => ⟨rfl, e425, (by decide : 5 + 0 ≤ _), (by decide : 24 + 0 ≤ _)⟩)
          dsimp only [Pt.U, Pt.locs, Pt.cells, Pt.slots] at X426 l426 y426 z426 st426 hQ426
          subst l426 y426 z426
          obtain ⟨z426, rfl, N426q, e426, hz426⟩ := hQ426
          have N426 := Fr.app N425 N426q
          rcases hz426 with ⟨rfl, hh426⟩ | ⟨rfl, hh426⟩
          · skip
            refine own_go st426 ?_
            show own_Fin _ _ _ _ (T426.setTop (mkF m 106 #[.val (.int xa), .val (.int xb), .val (.int xc), .val (.int xd), .val (.int ln), .val (.int ix), .val (.ref b359), .val (.int (4 : Int32)), .val (.int (0 : Int32)), .val (.ref x418), .unset] [(.int (1 : Int32))]))
            refine own_go (fun _ q => XS.ifNo X426.here hx rfl (hb hby at_106) rfl ((if0 _ _).trans (feq (by decide : ¬ (1 : Int32) = (0 : Int32))).1) q) ?_
            refine own_go (fun _ q => XS.iconst X426.here hx rfl (hb hby at_109) q) ?_
            refine own_go (fun _ q => XS.goto X426.here hx rfl (pc0 := 110) (pc' := 114) rfl (hb hby at_110) (by decide) (by decide) q) ?_
            refine own_go (fun _ q => XS.istore X426.here hx rfl (hb hby at_114) rfl (l' := #[.val (.int xa), .val (.int xb), .val (.int xc), .val (.int xd), .val (.int ln), .val (.int ix), .val (.ref b359), .val (.int (4 : Int32)), .val (.int (0 : Int32)), .val (.ref x418), .val (.int (1 : Int32))]) rfl q) ?_
            refine own_go (fun _ q => XS.aload X426.here hx rfl (hb hby at_116) rfl rfl q) ?_
            refine own_go (fun _ q => XS.iload X426.here hx rfl (hb hby at_118) rfl q) ?_
            show own_Fin _ _ _ _ (T426.setTop (mkF m 120 #[.val (.int xa), .val (.int xb), .val (.int xc), .val (.int xd), .val (.int ln), .val (.int ix), .val (.ref b359), .val (.int (4 : Int32)), .val (.int (0 : Int32)), .val (.ref x418), .val (.int (1 : Int32))] [(.int (0 : Int32)), (.ref x418)]))
            obtain ⟨_, _, ⟨T427, L427, k427, n427⟩, -, X427, ⟨Lc427, hQ427, l427, y427, z427⟩, st427⟩ := Jvm.LawKit.callS X426 hx (y := (⟨"com/example/iron_satchel/ironsatchel/PercentEncoding", "isEscapeAt", "(Ljava/lang/String;I)Z"⟩ : MethodName)) hown (mvT hZ (own_w hw 36 rfl)) (mvT hZ (own_w hw 37 rfl)) (mvT hZ (own_w hw 38 rfl)) (mvT hZ (own_w hw 39 rfl)) (by decide) (backOf (W := 0) (rm_ie4_0 l Z a0 hw [] x418 t418 ch0 ch1 ch2 ch3 gc gs dg kg T418.heap n0 (Nat.le_trans Z0 K423.1) SS418 (own_take 4 hb4) S_D V_dg S_F hgs S_C hcs O0 S_A S_H S_L) hZ (own_w hw 39 rfl) (own_w hw 38 rfl) (by decide) (by decide)) (g := (mkF m 120 #[.val (.int xa), .val (.int xb), .val (.int xc), .val (.int xd), .val (.int ln), .val (.int ix), .val (.ref b359), .val (.int (4 : Int32)), .val (.int (0 : Int32)), .val (.ref x418), .val (.int (1 : Int32))] [(.int (0 : Int32)), (.ref x418)])) rfl (by rw [hml]; rfl) (argsL := [(.ref x418), (.int (0 : Int32))]) (rest := []) (lenOf pd_26 rfl) rfl (by show 2 * 0 + _ ≤ _; exact Nat.le_of_eq rfl) (hb hby at_120) (fun _ _ => ⟨rfl, e426, (by decide : 5 + 0 ≤ _), (by decide : 24 + 0 ≤ _)⟩)
            dsimp only [Pt.U, Pt.locs, Pt.cells, Pt.slots] at X427 l427 y427 z427 st427 hQ427
            subst l427 y427 z427
            obtain ⟨z427, rfl, N427q, e427, hz427⟩ := hQ427
            have N427 := Fr.app N426 N427q
            obtain rfl : z427 = 1 := hz427.elim (fun q => q.1) (fun q => absurd ⟨hc424, hh425, hh426⟩ q.2)
            refine own_go st427 ?_
            refine own_go (fun _ q => XS.iload X427.here hx rfl (hb hby at_123) rfl q) ?_
            show own_Fin _ _ _ _ (T427.setTop (mkF m 125 #[.val (.int xa), .val (.int xb), .val (.int xc), .val (.int xd), .val (.int ln), .val (.int ix), .val (.ref b359), .val (.int (4 : Int32)), .val (.int (0 : Int32)), .val (.ref x418), .val (.int (1 : Int32))] [(.int (1 : Int32)), (.int (1 : Int32))]))
            refine own_go (fun _ q => XS.icmpNo X427.here hx rfl (hb hby at_125) rfl (teq (by decide : (1 : Int32) = (1 : Int32))).2 q) ?_
            refine own_go (fun _ q => XS.iconst X427.here hx rfl (hb hby at_128) q) ?_
            refine own_go (fun _ q => XS.goto X427.here hx rfl (pc0 := 129) (pc' := 133) rfl (hb hby at_129) (by decide) (by decide) q) ?_
            show own_Fin _ _ _ _ (T427.setTop (mkF m 133 #[.val (.int xa), .val (.int xb), .val (.int xc), .val (.int xd), .val (.int ln), .val (.int ix), .val (.ref b359), .val (.int (4 : Int32)), .val (.int (0 : Int32)), .val (.ref x418), .val (.int (1 : Int32))] [(.int (1 : Int32))]))
            refine own_retI X427 hx Bd (t := .boolean) Bd.returns rfl (by simp) (hb hby at_133) ?_ (by decide) (by decide)
            show (Q_rm_law Z xa xb xc xd ln ix gc gs dg kg h0 n0) (some (.int (1 : Int32))) T427.heap _
            rw [e427]
            exact ⟨rfl, N427⟩
          · skip
            refine own_go st426 ?_
            show own_Fin _ _ _ _ (T426.setTop (mkF m 106 #[.val (.int xa), .val (.int xb), .val (.int xc), .val (.int xd), .val (.int ln), .val (.int ix), .val (.ref b359), .val (.int (4 : Int32)), .val (.int (0 : Int32)), .val (.ref x418), .unset] [(.int (0 : Int32))]))
            refine own_go (fun _ q => XS.ifYes X426.here hx rfl (pc0 := 106) (pc' := 113) rfl (hb hby at_106) rfl ((if0 _ _).trans (teq (by decide : (0 : Int32) = (0 : Int32))).1) (by decide) (by decide) q) ?_
            refine own_go (fun _ q => XS.iconst X426.here hx rfl (hb hby at_113) q) ?_
            refine own_go (fun _ q => XS.istore X426.here hx rfl (hb hby at_114) rfl (l' := #[.val (.int xa), .val (.int xb), .val (.int xc), .val (.int xd), .val (.int ln), .val (.int ix), .val (.ref b359), .val (.int (4 : Int32)), .val (.int (0 : Int32)), .val (.ref x418), .val (.int (0 : Int32))]) rfl q) ?_
            refine own_go (fun _ q => XS.aload X426.here hx rfl (hb hby at_116) rfl rfl q) ?_
            refine own_go (fun _ q => XS.iload X426.here hx rfl (hb hby at_118) rfl q) ?_
            show own_Fin _ _ _ _ (T426.setTop (mkF m 120 #[.val (.int xa), .val (.int xb), .val (.int xc), .val (.int xd), .val (.int ln), .val (.int ix), .val (.ref b359), .val (.int (4 : Int32)), .val (.int (0 : Int32)), .val (.ref x418), .val (.int (0 : Int32))] [(.int (0 : Int32)), (.ref x418)]))
            obtain ⟨_, _, ⟨T428, L428, k428, n428⟩, -, X428, ⟨Lc428, hQ428, l428, y428, z428⟩, st428⟩ := Jvm.LawKit.callS X426 hx (y := (⟨"com/example/iron_satchel/ironsatchel/PercentEncoding", "isEscapeAt", "(Ljava/lang/String;I)Z"⟩ : MethodName)) hown (mvT hZ (own_w hw 36 rfl)) (mvT hZ (own_w hw 37 rfl)) (mvT hZ (own_w hw 38 rfl)) (mvT hZ (own_w hw 39 rfl)) (by decide) (backOf (W := 0) (rm_ie4_0 l Z a0 hw [] x418 t418 ch0 ch1 ch2 ch3 gc gs dg kg T418.heap n0 (Nat.le_trans Z0 K423.1) SS418 (own_take 4 hb4) S_D V_dg S_F hgs S_C hcs O0 S_A S_H S_L) hZ (own_w hw 39 rfl) (own_w hw 38 rfl) (by decide) (by decide)) (g := (mkF m 120 #[.val (.int xa), .val (.int xb), .val (.int xc), .val (.int xd), .val (.int ln), .val (.int ix), .val (.ref b359), .val (.int (4 : Int32)), .val (.int (0 : Int32)), .val (.ref x418), .val (.int (0 : Int32))] [(.int (0 : Int32)), (.ref x418)])) rfl (by rw [hml]; rfl) (argsL := [(.ref x418), (.int (0 : Int32))]) (rest := []) (lenOf pd_26 rfl) rfl (by show 2 * 0 + _ ≤ _; exact Nat.le_of_eq rfl) (hb hby at_120) (fun _ _ => ⟨rfl, e426, (by decide : 5 + 0 ≤ _), (by decide : 24 + 0 ≤ _)⟩)
            dsimp only [Pt.U, Pt.locs, Pt.cells, Pt.slots] at X428 l428 y428 z428 st428 hQ428
            subst l428 y428 z428
            obtain ⟨z428, rfl, N428q, e428, hz428⟩ := hQ428
            have N428 := Fr.app N426 N428q
            obtain rfl : z428 = 0 := hz428.elim (fun q => absurd q.2 (fun q => hh426 q.2.2)) (fun q => q.1)
            refine own_go st428 ?_
            refine own_go (fun _ q => XS.iload X428.here hx rfl (hb hby at_123) rfl q) ?_
            show own_Fin _ _ _ _ (T428.setTop (mkF m 125 #[.val (.int xa), .val (.int xb), .val (.int xc), .val (.int xd), .val (.int ln), .val (.int ix), .val (.ref b359), .val (.int (4 : Int32)), .val (.int (0 : Int32)), .val (.ref x418), .val (.int (0 : Int32))] [(.int (0 : Int32)), (.int (0 : Int32))]))
            refine own_go (fun _ q => XS.icmpNo X428.here hx rfl (hb hby at_125) rfl (teq (by decide : (0 : Int32) = (0 : Int32))).2 q) ?_
            refine own_go (fun _ q => XS.iconst X428.here hx rfl (hb hby at_128) q) ?_
            refine own_go (fun _ q => XS.goto X428.here hx rfl (pc0 := 129) (pc' := 133) rfl (hb hby at_129) (by decide) (by decide) q) ?_
            show own_Fin _ _ _ _ (T428.setTop (mkF m 133 #[.val (.int xa), .val (.int xb), .val (.int xc), .val (.int xd), .val (.int ln), .val (.int ix), .val (.ref b359), .val (.int (4 : Int32)), .val (.int (0 : Int32)), .val (.ref x418), .val (.int (0 : Int32))] [(.int (1 : Int32))]))
            refine own_retI X428 hx Bd (t := .boolean) Bd.returns rfl (by simp) (hb hby at_133) ?_ (by decide) (by decide)
            show (Q_rm_law Z xa xb xc xd ln ix gc gs dg kg h0 n0) (some (.int (1 : Int32))) T428.heap _
            rw [e428]
            exact ⟨rfl, N428⟩
        · skip
          refine own_go st425 ?_
          show own_Fin _ _ _ _ (T425.setTop (mkF m 93 #[.val (.int xa), .val (.int xb), .val (.int xc), .val (.int xd), .val (.int ln), .val (.int ix), .val (.ref b359), .val (.int (4 : Int32)), .val (.int (0 : Int32)), .val (.ref x418), .unset] [(.int (0 : Int32))]))
          refine own_go (fun _ q => XS.ifYes X425.here hx rfl (pc0 := 93) (pc' := 113) rfl (hb hby at_93) rfl ((if0 _ _).trans (teq (by decide : (0 : Int32) = (0 : Int32))).1) (by decide) (by decide) q) ?_
          refine own_go (fun _ q => XS.iconst X425.here hx rfl (hb hby at_113) q) ?_
          refine own_go (fun _ q => XS.istore X425.here hx rfl (hb hby at_114) rfl (l' := #[.val (.int xa), .val (.int xb), .val (.int xc), .val (.int xd), .val (.int ln), .val (.int ix), .val (.ref b359), .val (.int (4 : Int32)), .val (.int (0 : Int32)), .val (.ref x418), .val (.int (0 : Int32))]) rfl q) ?_
          refine own_go (fun _ q => XS.aload X425.here hx rfl (hb hby at_116) rfl rfl q) ?_
          refine own_go (fun _ q => XS.iload X425.here hx rfl (hb hby at_118) rfl q) ?_
          show own_Fin _ _ _ _ (T425.setTop (mkF m 120 #[.val (.int xa), .val (.int xb), .val (.int xc), .val (.int xd), .val (.int ln), .val (.int ix), .val (.ref b359), .val (.int (4 : Int32)), .val (.int (0 : Int32)), .val (.ref x418), .val (.int (0 : Int32))] [(.int (0 : Int32)), (.ref x418)]))
          obtain ⟨_, _, ⟨T429, L429, k429, n429⟩, -, X429, ⟨Lc429, hQ429, l429, y429, z429⟩, st429⟩ := Jvm.LawKit.callS X425 hx (y := (⟨"com/example/iron_satchel/ironsatchel/PercentEncoding", "isEscapeAt", "(Ljava/lang/String;I)Z"⟩ : MethodName)) hown (mvT hZ (own_w hw 36 rfl)) (mvT hZ (own_w hw 37 rfl)) (mvT hZ (own_w hw 38 rfl)) (mvT hZ (own_w hw 39 rfl)) (by decide) (backOf (W := 0) (rm_ie4_0 l Z a0 hw [] x418 t418 ch0 ch1 ch2 ch3 gc gs dg kg T418.heap n0 (Nat.le_trans Z0 K423.1) SS418 (own_take 4 hb4) S_D V_dg S_F hgs S_C hcs O0 S_A S_H S_L) hZ (own_w hw 39 rfl) (own_w hw 38 rfl) (by decide) (by decide)) (g := (mkF m 120 #[.val (.int xa), .val (.int xb), .val (.int xc), .val (.int xd), .val (.int ln), .val (.int ix), .val (.ref b359), .val (.int (4 : Int32)), .val (.int (0 : Int32)), .val (.ref x418), .val (.int (0 : Int32))] [(.int (0 : Int32)), (.ref x418)])) rfl (by rw [hml]; rfl) (argsL := [(.ref x418), (.int (0 : Int32))]) (rest := []) (lenOf pd_26 rfl) rfl (by show 2 * 0 + _ ≤ _; exact Nat.le_of_eq rfl) (hb hby at_120) (fun _ _ => ⟨rfl, e425, (by decide : 5 + 0 ≤ _), (by decide : 24 + 0 ≤ _)⟩)
          dsimp only [Pt.U, Pt.locs, Pt.cells, Pt.slots] at X429 l429 y429 z429 st429 hQ429
          subst l429 y429 z429
          obtain ⟨z429, rfl, N429q, e429, hz429⟩ := hQ429
          have N429 := Fr.app N425 N429q
          obtain rfl : z429 = 0 := hz429.elim (fun q => absurd q.2 (fun q => hh425 q.2.1)) (fun q => q.1)
          refine own_go st429 ?_
          refine own_go (fun _ q => XS.iload X429.here hx rfl (hb hby at_123) rfl q) ?_
          show own_Fin _ _ _ _ (T429.setTop (mkF m 125 #[.val (.int xa), .val (.int xb), .val (.int xc), .val (.int xd), .val (.int ln), .val (.int ix), .val (.ref b359), .val (.int (4 : Int32)), .val (.int (0 : Int32)), .val (.ref x418), .val (.int (0 : Int32))] [(.int (0 : Int32)), (.int (0 : Int32))]))
          refine own_go (fun _ q => XS.icmpNo X429.here hx rfl (hb hby at_125) rfl (teq (by decide : (0 : Int32) = (0 : Int32))).2 q) ?_
          refine own_go (fun _ q => XS.iconst X429.here hx rfl (hb hby at_128) q) ?_
          refine own_go (fun _ q => XS.goto X429.here hx rfl (pc0 := 129) (pc' := 133) rfl (hb hby at_129) (by decide) (by decide) q) ?_
          show own_Fin _ _ _ _ (T429.setTop (mkF m 133 #[.val (.int xa), .val (.int xb), .val (.int xc), .val (.int xd), .val (.int ln), .val (.int ix), .val (.ref b359), .val (.int (4 : Int32)), .val (.int (0 : Int32)), .val (.ref x418), .val (.int (0 : Int32))] [(.int (1 : Int32))]))
          refine own_retI X429 hx Bd (t := .boolean) Bd.returns rfl (by simp) (hb hby at_133) ?_ (by decide) (by decide)
          show (Q_rm_law Z xa xb xc xd ln ix gc gs dg kg h0 n0) (some (.int (1 : Int32))) T429.heap _
          rw [e429]
          exact ⟨rfl, N429⟩
      · skip
        refine own_go (fun _ q => XS.icmpYes X418.here hx rfl (pc0 := 80) (pc' := 113) rfl (hb hby at_80) rfl (feq hc424).2 (by decide) (by decide) q) ?_
        refine own_go (fun _ q => XS.iconst X418.here hx rfl (hb hby at_113) q) ?_
        refine own_go (fun _ q => XS.istore X418.here hx rfl (hb hby at_114) rfl (l' := #[.val (.int xa), .val (.int xb), .val (.int xc), .val (.int xd), .val (.int ln), .val (.int ix), .val (.ref b359), .val (.int (4 : Int32)), .val (.int (0 : Int32)), .val (.ref x418), .val (.int (0 : Int32))]) rfl q) ?_
        refine own_go (fun _ q => XS.aload X418.here hx rfl (hb hby at_116) rfl rfl q) ?_
        refine own_go (fun _ q => XS.iload X418.here hx rfl (hb hby at_118) rfl q) ?_
        show own_Fin _ _ _ _ (T418.setTop (mkF m 120 #[.val (.int xa), .val (.int xb), .val (.int xc), .val (.int xd), .val (.int ln), .val (.int ix), .val (.ref b359), .val (.int (4 : Int32)), .val (.int (0 : Int32)), .val (.ref x418), .val (.int (0 : Int32))] [(.int (0 : Int32)), (.ref x418)]))
        obtain ⟨_, _, ⟨T430, L430, k430, n430⟩, -, X430, ⟨Lc430, hQ430, l430, y430, z430⟩, st430⟩ := Jvm.LawKit.callS X418 hx (y := (⟨"com/example/iron_satchel/ironsatchel/PercentEncoding", "isEscapeAt", "(Ljava/lang/String;I)Z"⟩ : MethodName)) hown (mvT hZ (own_w hw 36 rfl)) (mvT hZ (own_w hw 37 rfl)) (mvT hZ (own_w hw 38 rfl)) (mvT hZ (own_w hw 39 rfl)) (by decide) (backOf (W := 0) (rm_ie4_0 l Z a0 hw [] x418 t418 ch0 ch1 ch2 ch3 gc gs dg kg T418.heap n0 (Nat.le_trans Z0 K423.1) SS418 (own_take 4 hb4) S_D V_dg S_F hgs S_C hcs O0 S_A S_H S_L) hZ (own_w hw 39 rfl) (own_w hw 38 rfl) (by decide) (by decide)) (g := (mkF m 120 #[.val (.int xa), .val (.int xb), .val (.int xc), .val (.int xd), .val (.int ln), .val (.int ix), .val (.ref b359), .val (.int (4 : Int32)), .val (.int (0 : Int32)), .val (.ref x418), .val (.int (0 : Int32))] [(.int (0 : Int32)), (.ref x418)])) rfl (by rw [hml]; rfl) (argsL := [(.ref x418), (.int (0 : Int32))]) (rest := []) (lenOf pd_26 rfl) rfl (by show 2 * 0 + _ ≤ _; exact Nat.le_of_eq rfl) (hb hby at_120) (fun _ _ => ⟨rfl, rfl, (by decide : 5 + 0 ≤ _), (by decide : 24 + 0 ≤ _)⟩)
        dsimp only [Pt.U, Pt.locs, Pt.cells, Pt.slots] at X430 l430 y430 z430 st430 hQ430
        subst l430 y430 z430
        obtain ⟨z430, rfl, N430q, e430, hz430⟩ := hQ430
        have N430 := Fr.app N418 N430q
        obtain rfl : z430 = 0 := hz430.elim (fun q => absurd q.2 (fun q => hc424 q.1)) (fun q => q.1)
        refine own_go st430 ?_
        refine own_go (fun _ q => XS.iload X430.here hx rfl (hb hby at_123) rfl q) ?_
        show own_Fin _ _ _ _ (T430.setTop (mkF m 125 #[.val (.int xa), .val (.int xb), .val (.int xc), .val (.int xd), .val (.int ln), .val (.int ix), .val (.ref b359), .val (.int (4 : Int32)), .val (.int (0 : Int32)), .val (.ref x418), .val (.int (0 : Int32))] [(.int (0 : Int32)), (.int (0 : Int32))]))
        refine own_go (fun _ q => XS.icmpNo X430.here hx rfl (hb hby at_125) rfl (teq (by decide : (0 : Int32) = (0 : Int32))).2 q) ?_
        refine own_go (fun _ q => XS.iconst X430.here hx rfl (hb hby at_128) q) ?_
        refine own_go (fun _ q => XS.goto X430.here hx rfl (pc0 := 129) (pc' := 133) rfl (hb hby at_129) (by decide) (by decide) q) ?_
        show own_Fin _ _ _ _ (T430.setTop (mkF m 133 #[.val (.int xa), .val (.int xb), .val (.int xc), .val (.int xd), .val (.int ln), .val (.int ix), .val (.ref b359), .val (.int (4 : Int32)), .val (.int (0 : Int32)), .val (.ref x418), .val (.int (0 : Int32))] [(.int (1 : Int32))]))
        refine own_retI X430 hx Bd (t := .boolean) Bd.returns rfl (by simp) (hb hby at_133) ?_ (by decide) (by decide)
        show (Q_rm_law Z xa xb xc xd ln ix gc gs dg kg h0 n0) (some (.int (1 : Int32))) T430.heap _
        rw [e430]
        exact ⟨rfl, N430⟩
    · skip
      show own_Fin _ _ _ _ (T368.setTop (mkF m 53 #[.val (.int xa), .val (.int xb), .val (.int xc), .val (.int xd), .val (.int ln), .val (.int ix), .val (.ref b359), .val (.int (4 : Int32)), .unset, .unset, .unset] [(.int ((ix &&& (2147483647 : Int32)) % (4 : Int32)))]))
      rw [hs53]
      refine own_go (fun _ q => XS.istore X368.here hx rfl (hb hby at_53) rfl (l' := #[.val (.int xa), .val (.int xb), .val (.int xc), .val (.int xd), .val (.int ln), .val (.int ix), .val (.ref b359), .val (.int (4 : Int32)), .val (.int (1 : Int32)), .unset, .unset]) rfl q) ?_
      refine own_go (fun _ q => XS.aload X368.here hx rfl (hb hby at_55) rfl rfl q) ?_
      refine own_go (fun _ q => XS.iload X368.here hx rfl (hb hby at_57) rfl q) ?_
      show own_Fin _ _ _ _ (T368.setTop (mkF m 59 #[.val (.int xa), .val (.int xb), .val (.int xc), .val (.int xd), .val (.int ln), .val (.int ix), .val (.ref b359), .val (.int (4 : Int32)), .val (.int (1 : Int32)), .unset, .unset] [(.int (4 : Int32)), (.ref b359)]))
      obtain ⟨_, _, ⟨T431, L431, k431, n431⟩, -, X431, ⟨Lc431, hQ431, l431, y431, z431⟩, st431⟩ := Jvm.LawKit.callS X368 hx (y := (⟨"com/example/iron_satchel/ironsatchel/PercentEncodingIsEscapeAtPinLaw", "make", "([CI)Ljava/lang/String;"⟩ : MethodName)) hown (mvT hZ (own_w hw 3 rfl)) (mvT hZ (own_w hw 4 rfl)) (mvT hZ (own_w hw 5 rfl)) (mvT hZ (own_w hw 6 rfl)) (by decide) (backOf (W := 0) (rm_mk4 l Z a0 hw [] b359 k359 ch0 ch1 ch2 ch3 gc h368 n0 (Nat.le_trans Z0 K369.1) V359 hb4 S_C hcs O0 S_A S_H S_L) hZ (own_w hw 6 rfl) (own_w hw 5 rfl) (by decide) (by decide)) (g := (mkF m 59 #[.val (.int xa), .val (.int xb), .val (.int xc), .val (.int xd), .val (.int ln), .val (.int ix), .val (.ref b359), .val (.int (4 : Int32)), .val (.int (1 : Int32)), .unset, .unset] [(.int (4 : Int32)), (.ref b359)])) rfl (by rw [hml]; rfl) (argsL := [(.ref b359), (.int (4 : Int32))]) (rest := []) (lenOf pd_25 rfl) rfl (by show 2 * 0 + _ ≤ _; exact Nat.le_of_eq rfl) (hb hby at_59) (fun _ _ => ⟨rfl, e368, (by decide : 1 + 4 ≤ _), (by decide : 4 + 20 ≤ _)⟩)
      dsimp only [Pt.U, Pt.locs, Pt.cells, Pt.slots] at X431 l431 y431 z431 st431 hQ431
      subst l431 y431 z431
      obtain ⟨x431, t431, rfl, N431q, KK431, szx431, szt431, SS431⟩ := hQ431
      have N431 := Fr.app N368 N431q
      have sz_x431 : h0.size ≤ x431 := Nat.le_trans K369.1 szx431
      have g_x431 : n0 ≤ x431 := Nat.le_trans Z0 sz_x431
      have ne432 : dg ≠ x431 := O0.ne V_dg.lt g_x431
      have ne433 : b359 ≠ x431 := Nat.ne_of_lt (Nat.lt_of_lt_of_le V359.lt szx431)
      have sz_t431 : h0.size ≤ t431 := Nat.le_trans K369.1 szt431
      have g_t431 : n0 ≤ t431 := Nat.le_trans Z0 sz_t431
      have ne434 : dg ≠ t431 := O0.ne V_dg.lt g_t431
      have ne435 : b359 ≠ t431 := Nat.ne_of_lt (Nat.lt_of_lt_of_le V359.lt szt431)
      replace O0 := O0.keep KK431 all0
      replace V359 := V359.keep KK431 nin0
      have K436 := K369.trans KK431 all0
      refine own_go st431 ?_
      refine own_go (fun _ q => XS.astore X431.here hx rfl (hb hby at_62) rfl rfl (l' := #[.val (.int xa), .val (.int xb), .val (.int xc), .val (.int xd), .val (.int ln), .val (.int ix), .val (.ref b359), .val (.int (4 : Int32)), .val (.int (1 : Int32)), .val (.ref x431), .unset]) rfl q) ?_
      refine own_go (fun _ q => XS.iload X431.here hx rfl (hb hby at_64) rfl q) ?_
      refine own_go (fun _ q => XS.iconst X431.here hx rfl (hb hby at_66) q) ?_
      show own_Fin _ _ _ _ (T431.setTop (mkF m 67 #[.val (.int xa), .val (.int xb), .val (.int xc), .val (.int xd), .val (.int ln), .val (.int ix), .val (.ref b359), .val (.int (4 : Int32)), .val (.int (1 : Int32)), .val (.ref x431), .unset] [(.int (2 : Int32)), (.int (1 : Int32))]))
      refine own_go (fun _ q => XS.iadd X431.here hx rfl (hb hby at_67) rfl q) ?_
      refine own_go (fun _ q => XS.iload X431.here hx rfl (hb hby at_68) rfl q) ?_
      show own_Fin _ _ _ _ (T431.setTop (mkF m 70 #[.val (.int xa), .val (.int xb), .val (.int xc), .val (.int xd), .val (.int ln), .val (.int ix), .val (.ref b359), .val (.int (4 : Int32)), .val (.int (1 : Int32)), .val (.ref x431), .unset] [(.int (4 : Int32)), (.int (3 : Int32))]))
      refine own_go (fun _ q => XS.icmpNo X431.here hx rfl (hb hby at_70) rfl (tlt (by decide : (3 : Int32) < (4 : Int32))).2.1 q) ?_
      refine own_go (fun _ q => XS.aload X431.here hx rfl (hb hby at_73) rfl rfl q) ?_
      refine own_go (fun _ q => XS.iload X431.here hx rfl (hb hby at_75) rfl q) ?_
      show own_Fin _ _ _ _ (T431.setTop (mkF m 77 #[.val (.int xa), .val (.int xb), .val (.int xc), .val (.int xd), .val (.int ln), .val (.int ix), .val (.ref b359), .val (.int (4 : Int32)), .val (.int (1 : Int32)), .val (.ref x431), .unset] [(.int (1 : Int32)), (.ref b359)]))
      refine own_go (fun _ q => own_caload X431 hx hZ rfl V359 (by decide) (v := (.int ch1)) (rfl) (g := (mkF m 77 #[.val (.int xa), .val (.int xb), .val (.int xc), .val (.int xd), .val (.int ln), .val (.int ix), .val (.ref b359), .val (.int (4 : Int32)), .val (.int (1 : Int32)), .val (.ref x431), .unset] [(.int (1 : Int32)), (.ref b359)])) rfl rfl (hb hby at_77) _ q) ?_
      refine own_go (fun _ q => XS.bipush X431.here hx rfl (hb hby at_78) q) ?_
      show own_Fin _ _ _ _ (T431.setTop (mkF m 80 #[.val (.int xa), .val (.int xb), .val (.int xc), .val (.int xd), .val (.int ln), .val (.int ix), .val (.ref b359), .val (.int (4 : Int32)), .val (.int (1 : Int32)), .val (.ref x431), .unset] [(.int (37 : Int32)), (.int ch1)]))
      by_cases hc437 : ch1 = (37 : Int32)
      · skip
        refine own_go (fun _ q => XS.icmpNo X431.here hx rfl (hb hby at_80) rfl (teq hc437).2 q) ?_
        refine own_go (fun _ q => XS.aload X431.here hx rfl (hb hby at_83) rfl rfl q) ?_
        refine own_go (fun _ q => XS.iload X431.here hx rfl (hb hby at_85) rfl q) ?_
        refine own_go (fun _ q => XS.iconst X431.here hx rfl (hb hby at_87) q) ?_
        show own_Fin _ _ _ _ (T431.setTop (mkF m 88 #[.val (.int xa), .val (.int xb), .val (.int xc), .val (.int xd), .val (.int ln), .val (.int ix), .val (.ref b359), .val (.int (4 : Int32)), .val (.int (1 : Int32)), .val (.ref x431), .unset] [(.int (1 : Int32)), (.int (1 : Int32)), (.ref b359)]))
        refine own_go (fun _ q => XS.iadd X431.here hx rfl (hb hby at_88) rfl q) ?_
        show own_Fin _ _ _ _ (T431.setTop (mkF m 89 #[.val (.int xa), .val (.int xb), .val (.int xc), .val (.int xd), .val (.int ln), .val (.int ix), .val (.ref b359), .val (.int (4 : Int32)), .val (.int (1 : Int32)), .val (.ref x431), .unset] [(.int (2 : Int32)), (.ref b359)]))
        refine own_go (fun _ q => own_caload X431 hx hZ rfl V359 (by decide) (v := (.int ch2)) (rfl) (g := (mkF m 89 #[.val (.int xa), .val (.int xb), .val (.int xc), .val (.int xd), .val (.int ln), .val (.int ix), .val (.ref b359), .val (.int (4 : Int32)), .val (.int (1 : Int32)), .val (.ref x431), .unset] [(.int (2 : Int32)), (.ref b359)])) rfl rfl (hb hby at_89) _ q) ?_
        show own_Fin _ _ _ _ (T431.setTop (mkF m 90 #[.val (.int xa), .val (.int xb), .val (.int xc), .val (.int xd), .val (.int ln), .val (.int ix), .val (.ref b359), .val (.int (4 : Int32)), .val (.int (1 : Int32)), .val (.ref x431), .unset] [(.int ch2)]))
        obtain ⟨_, _, ⟨T438, L438, k438, n438⟩, -, X438, ⟨Lc438, hQ438, l438, y438, z438⟩, st438⟩ := Jvm.LawKit.callS X431 hx (y := (⟨"com/example/iron_satchel/ironsatchel/PercentEncodingIsEscapeAtPinLaw", "isHex", "(C)Z"⟩ : MethodName)) hown (mvT hZ (own_w hw 101 rfl)) (mvT hZ (own_w hw 102 rfl)) (mvT hZ (own_w hw 5 rfl)) (mvT hZ (own_w hw 103 rfl)) (by decide) (backOf (W := 0) (rm_ih l Z a0 hw [] ch2  T431.heap n0 (Nat.le_trans Z0 K436.1) ) hZ (own_w hw 103 rfl) (own_w hw 5 rfl) (by decide) (by decide)) (g := (mkF m 90 #[.val (.int xa), .val (.int xb), .val (.int xc), .val (.int xd), .val (.int ln), .val (.int ix), .val (.ref b359), .val (.int (4 : Int32)), .val (.int (1 : Int32)), .val (.ref x431), .unset] [(.int ch2)])) rfl (by rw [hml]; rfl) (argsL := [(.int ch2)]) (rest := []) (lenOf pd_27 rfl) rfl (by show 2 * 0 + _ ≤ _; exact Nat.le_of_eq rfl) (hb hby at_90) (fun _ _ => ⟨rfl, rfl, (by decide : 5 + 0 ≤ _), (by decide : 24 + 0 ≤ _)⟩)
        dsimp only [Pt.U, Pt.locs, Pt.cells, Pt.slots] at X438 l438 y438 z438 st438 hQ438
        subst l438 y438 z438
        obtain ⟨z438, rfl, N438q, e438, hz438⟩ := hQ438
        have N438 := Fr.app N431 N438q
        rcases hz438 with ⟨rfl, hh438⟩ | ⟨rfl, hh438⟩
        · skip
          refine own_go st438 ?_
          show own_Fin _ _ _ _ (T438.setTop (mkF m 93 #[.val (.int xa), .val (.int xb), .val (.int xc), .val (.int xd), .val (.int ln), .val (.int ix), .val (.ref b359), .val (.int (4 : Int32)), .val (.int (1 : Int32)), .val (.ref x431), .unset] [(.int (1 : Int32))]))
          refine own_go (fun _ q => XS.ifNo X438.here hx rfl (hb hby at_93) rfl ((if0 _ _).trans (feq (by decide : ¬ (1 : Int32) = (0 : Int32))).1) q) ?_
          refine own_go (fun _ q => XS.aload X438.here hx rfl (hb hby at_96) rfl rfl q) ?_
          refine own_go (fun _ q => XS.iload X438.here hx rfl (hb hby at_98) rfl q) ?_
          refine own_go (fun _ q => XS.iconst X438.here hx rfl (hb hby at_100) q) ?_
          show own_Fin _ _ _ _ (T438.setTop (mkF m 101 #[.val (.int xa), .val (.int xb), .val (.int xc), .val (.int xd), .val (.int ln), .val (.int ix), .val (.ref b359), .val (.int (4 : Int32)), .val (.int (1 : Int32)), .val (.ref x431), .unset] [(.int (2 : Int32)), (.int (1 : Int32)), (.ref b359)]))
          refine own_go (fun _ q => XS.iadd X438.here hx rfl (hb hby at_101) rfl q) ?_
          show own_Fin _ _ _ _ (T438.setTop (mkF m 102 #[.val (.int xa), .val (.int xb), .val (.int xc), .val (.int xd), .val (.int ln), .val (.int ix), .val (.ref b359), .val (.int (4 : Int32)), .val (.int (1 : Int32)), .val (.ref x431), .unset] [(.int (3 : Int32)), (.ref b359)]))
          refine own_go (fun _ q => own_caload X438 hx hZ e438 V359 (by decide) (v := (.int ch3)) (rfl) (g := (mkF m 102 #[.val (.int xa), .val (.int xb), .val (.int xc), .val (.int xd), .val (.int ln), .val (.int ix), .val (.ref b359), .val (.int (4 : Int32)), .val (.int (1 : Int32)), .val (.ref x431), .unset] [(.int (3 : Int32)), (.ref b359)])) rfl rfl (hb hby at_102) _ q) ?_
          show own_Fin _ _ _ _ (T438.setTop (mkF m 103 #[.val (.int xa), .val (.int xb), .val (.int xc), .val (.int xd), .val (.int ln), .val (.int ix), .val (.ref b359), .val (.int (4 : Int32)), .val (.int (1 : Int32)), .val (.ref x431), .unset] [(.int ch3)]))
          obtain ⟨_, _, ⟨T439, L439, k439, n439⟩, -, X439, ⟨Lc439, hQ439, l439, y439, z439⟩, st439⟩ := Jvm.LawKit.callS X438 hx (y := (⟨"com/example/iron_satchel/ironsatchel/PercentEncodingIsEscapeAtPinLaw", "isHex", "(C)Z"⟩ : MethodName)) hown (mvT hZ (own_w hw 101 rfl)) (mvT hZ (own_w hw 102 rfl)) (mvT hZ (own_w hw 5 rfl)) (mvT hZ (own_w hw 103 rfl)) (by decide) (backOf (W := 0) (rm_ih l Z a0 hw [] ch3  T431.heap n0 (Nat.le_trans Z0 K436.1) ) hZ (own_w hw 103 rfl) (own_w hw 5 rfl) (by decide) (by decide)) (g := (mkF m 103 #[.val (.int xa), .val (.int xb), .val (.int xc), .val (.int xd), .val (.int ln), .val (.int ix), .val (.ref b359), .val (.int (4 : Int32)), .val (.int (1 : Int32)), .val (.ref x431), .unset] [(.int ch3)])) rfl (by rw [hml]; rfl) (argsL := [(.int ch3)]) (rest := []) (lenOf pd_27 rfl) rfl (by show 2 * 0 + _ ≤ _; exact Nat.le_of_eq rfl) (hb hby at_103) (fun _ _ => ⟨rfl, e438, (by decide : 5 + 0 ≤ _), (by decide : 24 + 0 ≤ _)⟩)
          dsimp only [Pt.U, Pt.locs, Pt.cells, Pt.slots] at X439 l439 y439 z439 st439 hQ439
          subst l439 y439 z439
          obtain ⟨z439, rfl, N439q, e439, hz439⟩ := hQ439
          have N439 := Fr.app N438 N439q
          rcases hz439 with ⟨rfl, hh439⟩ | ⟨rfl, hh439⟩
          · skip
            refine own_go st439 ?_
            show own_Fin _ _ _ _ (T439.setTop (mkF m 106 #[.val (.int xa), .val (.int xb), .val (.int xc), .val (.int xd), .val (.int ln), .val (.int ix), .val (.ref b359), .val (.int (4 : Int32)), .val (.int (1 : Int32)), .val (.ref x431), .unset] [(.int (1 : Int32))]))
            refine own_go (fun _ q => XS.ifNo X439.here hx rfl (hb hby at_106) rfl ((if0 _ _).trans (feq (by decide : ¬ (1 : Int32) = (0 : Int32))).1) q) ?_
            refine own_go (fun _ q => XS.iconst X439.here hx rfl (hb hby at_109) q) ?_
            refine own_go (fun _ q => XS.goto X439.here hx rfl (pc0 := 110) (pc' := 114) rfl (hb hby at_110) (by decide) (by decide) q) ?_
            refine own_go (fun _ q => XS.istore X439.here hx rfl (hb hby at_114) rfl (l' := #[.val (.int xa), .val (.int xb), .val (.int xc), .val (.int xd), .val (.int ln), .val (.int ix), .val (.ref b359), .val (.int (4 : Int32)), .val (.int (1 : Int32)), .val (.ref x431), .val (.int (1 : Int32))]) rfl q) ?_
            refine own_go (fun _ q => XS.aload X439.here hx rfl (hb hby at_116) rfl rfl q) ?_
            refine own_go (fun _ q => XS.iload X439.here hx rfl (hb hby at_118) rfl q) ?_
            show own_Fin _ _ _ _ (T439.setTop (mkF m 120 #[.val (.int xa), .val (.int xb), .val (.int xc), .val (.int xd), .val (.int ln), .val (.int ix), .val (.ref b359), .val (.int (4 : Int32)), .val (.int (1 : Int32)), .val (.ref x431), .val (.int (1 : Int32))] [(.int (1 : Int32)), (.ref x431)]))
            obtain ⟨_, _, ⟨T440, L440, k440, n440⟩, -, X440, ⟨Lc440, hQ440, l440, y440, z440⟩, st440⟩ := Jvm.LawKit.callS X439 hx (y := (⟨"com/example/iron_satchel/ironsatchel/PercentEncoding", "isEscapeAt", "(Ljava/lang/String;I)Z"⟩ : MethodName)) hown (mvT hZ (own_w hw 36 rfl)) (mvT hZ (own_w hw 37 rfl)) (mvT hZ (own_w hw 38 rfl)) (mvT hZ (own_w hw 39 rfl)) (by decide) (backOf (W := 0) (rm_ie4_1 l Z a0 hw [] x431 t431 ch0 ch1 ch2 ch3 gc gs dg kg T431.heap n0 (Nat.le_trans Z0 K436.1) SS431 (own_take 4 hb4) S_D V_dg S_F hgs S_C hcs O0 S_A S_H S_L) hZ (own_w hw 39 rfl) (own_w hw 38 rfl) (by decide) (by decide)) (g := (mkF m 120 #[.val (.int xa), .val (.int xb), .val (.int xc), .val (.int xd), .val (.int ln), .val (.int ix), .val (.ref b359), .val (.int (4 : Int32)), .val (.int (1 : Int32)), .val (.ref x431), .val (.int (1 : Int32))] [(.int (1 : Int32)), (.ref x431)])) rfl (by rw [hml]; rfl) (argsL := [(.ref x431), (.int (1 : Int32))]) (rest := []) (lenOf pd_26 rfl) rfl (by show 2 * 0 + _ ≤ _; exact Nat.le_of_eq rfl) (hb hby at_120) (fun _ _ => ⟨rfl, e439, (by decide : 5 + 0 ≤ _), (by decide : 24 + 0 ≤ _)⟩)
            dsimp only [Pt.U, Pt.locs, Pt.cells, Pt.slots] at X440 l440 y440 z440 st440 hQ440
            subst l440 y440 z440
            obtain ⟨z440, rfl, N440q, e440, hz440⟩ := hQ440
            have N440 := Fr.app N439 N440q
            obtain rfl : z440 = 1 := hz440.elim (fun q => q.1) (fun q => absurd ⟨hc437, hh438, hh439⟩ q.2)
            refine own_go st440 ?_
            refine own_go (fun _ q => XS.iload X440.here hx rfl (hb hby at_123) rfl q) ?_
            show own_Fin _ _ _ _ (T440.setTop (mkF m 125 #[.val (.int xa), .val (.int xb), .val (.int xc), .val (.int xd), .val (.int ln), .val (.int ix), .val (.ref b359), .val (.int (4 : Int32)), .val (.int (1 : Int32)), .val (.ref x431), .val (.int (1 : Int32))] [(.int (1 : Int32)), (.int (1 : Int32))]))
            refine own_go (fun _ q => XS.icmpNo X440.here hx rfl (hb hby at_125) rfl (teq (by decide : (1 : Int32) = (1 : Int32))).2 q) ?_
            refine own_go (fun _ q => XS.iconst X440.here hx rfl (hb hby at_128) q) ?_
            refine own_go (fun _ q => XS.goto X440.here hx rfl (pc0 := 129) (pc' := 133) rfl (hb hby at_129) (by decide) (by decide) q) ?_
            show own_Fin _ _ _ _ (T440.setTop (mkF m 133 #[.val (.int xa), .val (.int xb), .val (.int xc), .val (.int xd), .val (.int ln), .val (.int ix), .val (.ref b359), .val (.int (4 : Int32)), .val (.int (1 : Int32)), .val (.ref x431), .val (.int (1 : Int32))] [(.int (1 : Int32))]))
            refine own_retI X440 hx Bd (t := .boolean) Bd.returns rfl (by simp) (hb hby at_133) ?_ (by decide) (by decide)
            show (Q_rm_law Z xa xb xc xd ln ix gc gs dg kg h0 n0) (some (.int (1 : Int32))) T440.heap _
            rw [e440]
            exact ⟨rfl, N440⟩
          · skip
            refine own_go st439 ?_
            show own_Fin _ _ _ _ (T439.setTop (mkF m 106 #[.val (.int xa), .val (.int xb), .val (.int xc), .val (.int xd), .val (.int ln), .val (.int ix), .val (.ref b359), .val (.int (4 : Int32)), .val (.int (1 : Int32)), .val (.ref x431), .unset] [(.int (0 : Int32))]))
            refine own_go (fun _ q => XS.ifYes X439.here hx rfl (pc0 := 106) (pc' := 113) rfl (hb hby at_106) rfl ((if0 _ _).trans (teq (by decide : (0 : Int32) = (0 : Int32))).1) (by decide) (by decide) q) ?_
            refine own_go (fun _ q => XS.iconst X439.here hx rfl (hb hby at_113) q) ?_
            refine own_go (fun _ q => XS.istore X439.here hx rfl (hb hby at_114) rfl (l' := #[.val (.int xa), .val (.int xb), .val (.int xc), .val (.int xd), .val (.int ln), .val (.int ix), .val (.ref b359), .val (.int (4 : Int32)), .val (.int (1 : Int32)), .val (.ref x431), .val (.int (0 : Int32))]) rfl q) ?_
            refine own_go (fun _ q => XS.aload X439.here hx rfl (hb hby at_116) rfl rfl q) ?_
            refine own_go (fun _ q => XS.iload X439.here hx rfl (hb hby at_118) rfl q) ?_
            show own_Fin _ _ _ _ (T439.setTop (mkF m 120 #[.val (.int xa), .val (.int xb), .val (.int xc), .val (.int xd), .val (.int ln), .val (.int ix), .val (.ref b359), .val (.int (4 : Int32)), .val (.int (1 : Int32)), .val (.ref x431), .val (.int (0 : Int32))] [(.int (1 : Int32)), (.ref x431)]))
            obtain ⟨_, _, ⟨T441, L441, k441, n441⟩, -, X441, ⟨Lc441, hQ441, l441, y441, z441⟩, st441⟩ := Jvm.LawKit.callS X439 hx (y := (⟨"com/example/iron_satchel/ironsatchel/PercentEncoding", "isEscapeAt", "(Ljava/lang/String;I)Z"⟩ : MethodName)) hown (mvT hZ (own_w hw 36 rfl)) (mvT hZ (own_w hw 37 rfl)) (mvT hZ (own_w hw 38 rfl)) (mvT hZ (own_w hw 39 rfl)) (by decide) (backOf (W := 0) (rm_ie4_1 l Z a0 hw [] x431 t431 ch0 ch1 ch2 ch3 gc gs dg kg T431.heap n0 (Nat.le_trans Z0 K436.1) SS431 (own_take 4 hb4) S_D V_dg S_F hgs S_C hcs O0 S_A S_H S_L) hZ (own_w hw 39 rfl) (own_w hw 38 rfl) (by decide) (by decide)) (g := (mkF m 120 #[.val (.int xa), .val (.int xb), .val (.int xc), .val (.int xd), .val (.int ln), .val (.int ix), .val (.ref b359), .val (.int (4 : Int32)), .val (.int (1 : Int32)), .val (.ref x431), .val (.int (0 : Int32))] [(.int (1 : Int32)), (.ref x431)])) rfl (by rw [hml]; rfl) (argsL := [(.ref x431), (.int (1 : Int32))]) (rest := []) (lenOf pd_26 rfl) rfl (by show 2 * 0 + _ ≤ _; exact Nat.le_of_eq rfl) (hb hby at_120) (fun _ _ => ⟨rfl, e439, (by decide : 5 + 0 ≤ _), (by decide : 24 + 0 ≤ _)⟩)
            dsimp only [Pt.U, Pt.locs, Pt.cells, Pt.slots] at X441 l441 y441 z441 st441 hQ441
            subst l441 y441 z441
            obtain ⟨z441, rfl, N441q, e441, hz441⟩ := hQ441
            have N441 := Fr.app N439 N441q
            obtain rfl : z441 = 0 := hz441.elim (fun q => absurd q.2 (fun q => hh439 q.2.2)) (fun q => q.1)
            refine own_go st441 ?_
            refine own_go (fun _ q => XS.iload X441.here hx rfl (hb hby at_123) rfl q) ?_
            show own_Fin _ _ _ _ (T441.setTop (mkF m 125 #[.val (.int xa), .val (.int xb), .val (.int xc), .val (.int xd), .val (.int ln), .val (.int ix), .val (.ref b359), .val (.int (4 : Int32)), .val (.int (1 : Int32)), .val (.ref x431), .val (.int (0 : Int32))] [(.int (0 : Int32)), (.int (0 : Int32))]))
            refine own_go (fun _ q => XS.icmpNo X441.here hx rfl (hb hby at_125) rfl (teq (by decide : (0 : Int32) = (0 : Int32))).2 q) ?_
            refine own_go (fun _ q => XS.iconst X441.here hx rfl (hb hby at_128) q) ?_
            refine own_go (fun _ q => XS.goto X441.here hx rfl (pc0 := 129) (pc' := 133) rfl (hb hby at_129) (by decide) (by decide) q) ?_
            show own_Fin _ _ _ _ (T441.setTop (mkF m 133 #[.val (.int xa), .val (.int xb), .val (.int xc), .val (.int xd), .val (.int ln), .val (.int ix), .val (.ref b359), .val (.int (4 : Int32)), .val (.int (1 : Int32)), .val (.ref x431), .val (.int (0 : Int32))] [(.int (1 : Int32))]))
            refine own_retI X441 hx Bd (t := .boolean) Bd.returns rfl (by simp) (hb hby at_133) ?_ (by decide) (by decide)
            show (Q_rm_law Z xa xb xc xd ln ix gc gs dg kg h0 n0) (some (.int (1 : Int32))) T441.heap _
            rw [e441]
            exact ⟨rfl, N441⟩
        · skip
          refine own_go st438 ?_
          show own_Fin _ _ _ _ (T438.setTop (mkF m 93 #[.val (.int xa), .val (.int xb), .val (.int xc), .val (.int xd), .val (.int ln), .val (.int ix), .val (.ref b359), .val (.int (4 : Int32)), .val (.int (1 : Int32)), .val (.ref x431), .unset] [(.int (0 : Int32))]))
          refine own_go (fun _ q => XS.ifYes X438.here hx rfl (pc0 := 93) (pc' := 113) rfl (hb hby at_93) rfl ((if0 _ _).trans (teq (by decide : (0 : Int32) = (0 : Int32))).1) (by decide) (by decide) q) ?_
          refine own_go (fun _ q => XS.iconst X438.here hx rfl (hb hby at_113) q) ?_
          refine own_go (fun _ q => XS.istore X438.here hx rfl (hb hby at_114) rfl (l' := #[.val (.int xa), .val (.int xb), .val (.int xc), .val (.int xd), .val (.int ln), .val (.int ix), .val (.ref b359), .val (.int (4 : Int32)), .val (.int (1 : Int32)), .val (.ref x431), .val (.int (0 : Int32))]) rfl q) ?_
          refine own_go (fun _ q => XS.aload X438.here hx rfl (hb hby at_116) rfl rfl q) ?_
          refine own_go (fun _ q => XS.iload X438.here hx rfl (hb hby at_118) rfl q) ?_
          show own_Fin _ _ _ _ (T438.setTop (mkF m 120 #[.val (.int xa), .val (.int xb), .val (.int xc), .val (.int xd), .val (.int ln), .val (.int ix), .val (.ref b359), .val (.int (4 : Int32)), .val (.int (1 : Int32)), .val (.ref x431), .val (.int (0 : Int32))] [(.int (1 : Int32)), (.ref x431)]))
          obtain ⟨_, _, ⟨T442, L442, k442, n442⟩, -, X442, ⟨Lc442, hQ442, l442, y442, z442⟩, st442⟩ := Jvm.LawKit.callS X438 hx (y := (⟨"com/example/iron_satchel/ironsatchel/PercentEncoding", "isEscapeAt", "(Ljava/lang/String;I)Z"⟩ : MethodName)) hown (mvT hZ (own_w hw 36 rfl)) (mvT hZ (own_w hw 37 rfl)) (mvT hZ (own_w hw 38 rfl)) (mvT hZ (own_w hw 39 rfl)) (by decide) (backOf (W := 0) (rm_ie4_1 l Z a0 hw [] x431 t431 ch0 ch1 ch2 ch3 gc gs dg kg T431.heap n0 (Nat.le_trans Z0 K436.1) SS431 (own_take 4 hb4) S_D V_dg S_F hgs S_C hcs O0 S_A S_H S_L) hZ (own_w hw 39 rfl) (own_w hw 38 rfl) (by decide) (by decide)) (g := (mkF m 120 #[.val (.int xa), .val (.int xb), .val (.int xc), .val (.int xd), .val (.int ln), .val (.int ix), .val (.ref b359), .val (.int (4 : Int32)), .val (.int (1 : Int32)), .val (.ref x431), .val (.int (0 : Int32))] [(.int (1 : Int32)), (.ref x431)])) rfl (by rw [hml]; rfl) (argsL := [(.ref x431), (.int (1 : Int32))]) (rest := []) (lenOf pd_26 rfl) rfl (by show 2 * 0 + _ ≤ _; exact Nat.le_of_eq rfl) (hb hby at_120) (fun _ _ => ⟨rfl, e438, (by decide : 5 + 0 ≤ _), (by decide : 24 + 0 ≤ _)⟩)
          dsimp only [Pt.U, Pt.locs, Pt.cells, Pt.slots] at X442 l442 y442 z442 st442 hQ442
          subst l442 y442 z442
          obtain ⟨z442, rfl, N442q, e442, hz442⟩ := hQ442
          have N442 := Fr.app N438 N442q
          obtain rfl : z442 = 0 := hz442.elim (fun q => absurd q.2 (fun q => hh438 q.2.1)) (fun q => q.1)
          refine own_go st442 ?_
          refine own_go (fun _ q => XS.iload X442.here hx rfl (hb hby at_123) rfl q) ?_
          show own_Fin _ _ _ _ (T442.setTop (mkF m 125 #[.val (.int xa), .val (.int xb), .val (.int xc), .val (.int xd), .val (.int ln), .val (.int ix), .val (.ref b359), .val (.int (4 : Int32)), .val (.int (1 : Int32)), .val (.ref x431), .val (.int (0 : Int32))] [(.int (0 : Int32)), (.int (0 : Int32))]))
          refine own_go (fun _ q => XS.icmpNo X442.here hx rfl (hb hby at_125) rfl (teq (by decide : (0 : Int32) = (0 : Int32))).2 q) ?_
          refine own_go (fun _ q => XS.iconst X442.here hx rfl (hb hby at_128) q) ?_
          refine own_go (fun _ q => XS.goto X442.here hx rfl (pc0 := 129) (pc' := 133) rfl (hb hby at_129) (by decide) (by decide) q) ?_
          show own_Fin _ _ _ _ (T442.setTop (mkF m 133 #[.val (.int xa), .val (.int xb), .val (.int xc), .val (.int xd), .val (.int ln), .val (.int ix), .val (.ref b359), .val (.int (4 : Int32)), .val (.int (1 : Int32)), .val (.ref x431), .val (.int (0 : Int32))] [(.int (1 : Int32))]))
          refine own_retI X442 hx Bd (t := .boolean) Bd.returns rfl (by simp) (hb hby at_133) ?_ (by decide) (by decide)
          show (Q_rm_law Z xa xb xc xd ln ix gc gs dg kg h0 n0) (some (.int (1 : Int32))) T442.heap _
          rw [e442]
          exact ⟨rfl, N442⟩
      · skip
        refine own_go (fun _ q => XS.icmpYes X431.here hx rfl (pc0 := 80) (pc' := 113) rfl (hb hby at_80) rfl (feq hc437).2 (by decide) (by decide) q) ?_
        refine own_go (fun _ q => XS.iconst X431.here hx rfl (hb hby at_113) q) ?_
        refine own_go (fun _ q => XS.istore X431.here hx rfl (hb hby at_114) rfl (l' := #[.val (.int xa), .val (.int xb), .val (.int xc), .val (.int xd), .val (.int ln), .val (.int ix), .val (.ref b359), .val (.int (4 : Int32)), .val (.int (1 : Int32)), .val (.ref x431), .val (.int (0 : Int32))]) rfl q) ?_
        refine own_go (fun _ q => XS.aload X431.here hx rfl (hb hby at_116) rfl rfl q) ?_
        refine own_go (fun _ q => XS.iload X431.here hx rfl (hb hby at_118) rfl q) ?_
        show own_Fin _ _ _ _ (T431.setTop (mkF m 120 #[.val (.int xa), .val (.int xb), .val (.int xc), .val (.int xd), .val (.int ln), .val (.int ix), .val (.ref b359), .val (.int (4 : Int32)), .val (.int (1 : Int32)), .val (.ref x431), .val (.int (0 : Int32))] [(.int (1 : Int32)), (.ref x431)]))
        obtain ⟨_, _, ⟨T443, L443, k443, n443⟩, -, X443, ⟨Lc443, hQ443, l443, y443, z443⟩, st443⟩ := Jvm.LawKit.callS X431 hx (y := (⟨"com/example/iron_satchel/ironsatchel/PercentEncoding", "isEscapeAt", "(Ljava/lang/String;I)Z"⟩ : MethodName)) hown (mvT hZ (own_w hw 36 rfl)) (mvT hZ (own_w hw 37 rfl)) (mvT hZ (own_w hw 38 rfl)) (mvT hZ (own_w hw 39 rfl)) (by decide) (backOf (W := 0) (rm_ie4_1 l Z a0 hw [] x431 t431 ch0 ch1 ch2 ch3 gc gs dg kg T431.heap n0 (Nat.le_trans Z0 K436.1) SS431 (own_take 4 hb4) S_D V_dg S_F hgs S_C hcs O0 S_A S_H S_L) hZ (own_w hw 39 rfl) (own_w hw 38 rfl) (by decide) (by decide)) (g := (mkF m 120 #[.val (.int xa), .val (.int xb), .val (.int xc), .val (.int xd), .val (.int ln), .val (.int ix), .val (.ref b359), .val (.int (4 : Int32)), .val (.int (1 : Int32)), .val (.ref x431), .val (.int (0 : Int32))] [(.int (1 : Int32)), (.ref x431)])) rfl (by rw [hml]; rfl) (argsL := [(.ref x431), (.int (1 : Int32))]) (rest := []) (lenOf pd_26 rfl) rfl (by show 2 * 0 + _ ≤ _; exact Nat.le_of_eq rfl) (hb hby at_120) (fun _ _ => ⟨rfl, rfl, (by decide : 5 + 0 ≤ _), (by decide : 24 + 0 ≤ _)⟩)
        dsimp only [Pt.U, Pt.locs, Pt.cells, Pt.slots] at X443 l443 y443 z443 st443 hQ443
        subst l443 y443 z443
        obtain ⟨z443, rfl, N443q, e443, hz443⟩ := hQ443
        have N443 := Fr.app N431 N443q
        obtain rfl : z443 = 0 := hz443.elim (fun q => absurd q.2 (fun q => hc437 q.1)) (fun q => q.1)
        refine own_go st443 ?_
        refine own_go (fun _ q => XS.iload X443.here hx rfl (hb hby at_123) rfl q) ?_
        show own_Fin _ _ _ _ (T443.setTop (mkF m 125 #[.val (.int xa), .val (.int xb), .val (.int xc), .val (.int xd), .val (.int ln), .val (.int ix), .val (.ref b359), .val (.int (4 : Int32)), .val (.int (1 : Int32)), .val (.ref x431), .val (.int (0 : Int32))] [(.int (0 : Int32)), (.int (0 : Int32))]))
        refine own_go (fun _ q => XS.icmpNo X443.here hx rfl (hb hby at_125) rfl (teq (by decide : (0 : Int32) = (0 : Int32))).2 q) ?_
        refine own_go (fun _ q => XS.iconst X443.here hx rfl (hb hby at_128) q) ?_
        refine own_go (fun _ q => XS.goto X443.here hx rfl (pc0 := 129) (pc' := 133) rfl (hb hby at_129) (by decide) (by decide) q) ?_
        show own_Fin _ _ _ _ (T443.setTop (mkF m 133 #[.val (.int xa), .val (.int xb), .val (.int xc), .val (.int xd), .val (.int ln), .val (.int ix), .val (.ref b359), .val (.int (4 : Int32)), .val (.int (1 : Int32)), .val (.ref x431), .val (.int (0 : Int32))] [(.int (1 : Int32))]))
        refine own_retI X443 hx Bd (t := .boolean) Bd.returns rfl (by simp) (hb hby at_133) ?_ (by decide) (by decide)
        show (Q_rm_law Z xa xb xc xd ln ix gc gs dg kg h0 n0) (some (.int (1 : Int32))) T443.heap _
        rw [e443]
        exact ⟨rfl, N443⟩
    · skip
      show own_Fin _ _ _ _ (T368.setTop (mkF m 53 #[.val (.int xa), .val (.int xb), .val (.int xc), .val (.int xd), .val (.int ln), .val (.int ix), .val (.ref b359), .val (.int (4 : Int32)), .unset, .unset, .unset] [(.int ((ix &&& (2147483647 : Int32)) % (4 : Int32)))]))
      rw [hs53]
      refine own_go (fun _ q => XS.istore X368.here hx rfl (hb hby at_53) rfl (l' := #[.val (.int xa), .val (.int xb), .val (.int xc), .val (.int xd), .val (.int ln), .val (.int ix), .val (.ref b359), .val (.int (4 : Int32)), .val (.int (2 : Int32)), .unset, .unset]) rfl q) ?_
      refine own_go (fun _ q => XS.aload X368.here hx rfl (hb hby at_55) rfl rfl q) ?_
      refine own_go (fun _ q => XS.iload X368.here hx rfl (hb hby at_57) rfl q) ?_
      show own_Fin _ _ _ _ (T368.setTop (mkF m 59 #[.val (.int xa), .val (.int xb), .val (.int xc), .val (.int xd), .val (.int ln), .val (.int ix), .val (.ref b359), .val (.int (4 : Int32)), .val (.int (2 : Int32)), .unset, .unset] [(.int (4 : Int32)), (.ref b359)]))
      obtain ⟨_, _, ⟨T444, L444, k444, n444⟩, -, X444, ⟨Lc444, hQ444, l444, y444, z444⟩, st444⟩ := Jvm.LawKit.callS X368 hx (y := (⟨"com/example/iron_satchel/ironsatchel/PercentEncodingIsEscapeAtPinLaw", "make", "([CI)Ljava/lang/String;"⟩ : MethodName)) hown (mvT hZ (own_w hw 3 rfl)) (mvT hZ (own_w hw 4 rfl)) (mvT hZ (own_w hw 5 rfl)) (mvT hZ (own_w hw 6 rfl)) (by decide) (backOf (W := 0) (rm_mk4 l Z a0 hw [] b359 k359 ch0 ch1 ch2 ch3 gc h368 n0 (Nat.le_trans Z0 K369.1) V359 hb4 S_C hcs O0 S_A S_H S_L) hZ (own_w hw 6 rfl) (own_w hw 5 rfl) (by decide) (by decide)) (g := (mkF m 59 #[.val (.int xa), .val (.int xb), .val (.int xc), .val (.int xd), .val (.int ln), .val (.int ix), .val (.ref b359), .val (.int (4 : Int32)), .val (.int (2 : Int32)), .unset, .unset] [(.int (4 : Int32)), (.ref b359)])) rfl (by rw [hml]; rfl) (argsL := [(.ref b359), (.int (4 : Int32))]) (rest := []) (lenOf pd_25 rfl) rfl (by show 2 * 0 + _ ≤ _; exact Nat.le_of_eq rfl) (hb hby at_59) (fun _ _ => ⟨rfl, e368, (by decide : 1 + 4 ≤ _), (by decide : 4 + 20 ≤ _)⟩)
      dsimp only [Pt.U, Pt.locs, Pt.cells, Pt.slots] at X444 l444 y444 z444 st444 hQ444
      subst l444 y444 z444
      obtain ⟨x444, t444, rfl, N444q, KK444, szx444, szt444, SS444⟩ := hQ444
      have N444 := Fr.app N368 N444q
      have sz_x444 : h0.size ≤ x444 := Nat.le_trans K369.1 szx444
      have g_x444 : n0 ≤ x444 := Nat.le_trans Z0 sz_x444
      have ne445 : dg ≠ x444 := O0.ne V_dg.lt g_x444
      have ne446 : b359 ≠ x444 := Nat.ne_of_lt (Nat.lt_of_lt_of_le V359.lt szx444)
      have sz_t444 : h0.size ≤ t444 := Nat.le_trans K369.1 szt444
      have g_t444 : n0 ≤ t444 := Nat.le_trans Z0 sz_t444
      have ne447 : dg ≠ t444 := O0.ne V_dg.lt g_t444
      have ne448 : b359 ≠ t444 := Nat.ne_of_lt (Nat.lt_of_lt_of_le V359.lt szt444)
      replace O0 := O0.keep KK444 all0
      replace V359 := V359.keep KK444 nin0
      have K449 := K369.trans KK444 all0
      refine own_go st444 ?_
      refine own_go (fun _ q => XS.astore X444.here hx rfl (hb hby at_62) rfl rfl (l' := #[.val (.int xa), .val (.int xb), .val (.int xc), .val (.int xd), .val (.int ln), .val (.int ix), .val (.ref b359), .val (.int (4 : Int32)), .val (.int (2 : Int32)), .val (.ref x444), .unset]) rfl q) ?_
      refine own_go (fun _ q => XS.iload X444.here hx rfl (hb hby at_64) rfl q) ?_
      refine own_go (fun _ q => XS.iconst X444.here hx rfl (hb hby at_66) q) ?_
      show own_Fin _ _ _ _ (T444.setTop (mkF m 67 #[.val (.int xa), .val (.int xb), .val (.int xc), .val (.int xd), .val (.int ln), .val (.int ix), .val (.ref b359), .val (.int (4 : Int32)), .val (.int (2 : Int32)), .val (.ref x444), .unset] [(.int (2 : Int32)), (.int (2 : Int32))]))
      refine own_go (fun _ q => XS.iadd X444.here hx rfl (hb hby at_67) rfl q) ?_
      refine own_go (fun _ q => XS.iload X444.here hx rfl (hb hby at_68) rfl q) ?_
      show own_Fin _ _ _ _ (T444.setTop (mkF m 70 #[.val (.int xa), .val (.int xb), .val (.int xc), .val (.int xd), .val (.int ln), .val (.int ix), .val (.ref b359), .val (.int (4 : Int32)), .val (.int (2 : Int32)), .val (.ref x444), .unset] [(.int (4 : Int32)), (.int (4 : Int32))]))
      refine own_go (fun _ q => XS.icmpYes X444.here hx rfl (pc0 := 70) (pc' := 113) rfl (hb hby at_70) rfl (flt (by decide : ¬ (4 : Int32) < (4 : Int32))).2.1 (by decide) (by decide) q) ?_
      refine own_go (fun _ q => XS.iconst X444.here hx rfl (hb hby at_113) q) ?_
      refine own_go (fun _ q => XS.istore X444.here hx rfl (hb hby at_114) rfl (l' := #[.val (.int xa), .val (.int xb), .val (.int xc), .val (.int xd), .val (.int ln), .val (.int ix), .val (.ref b359), .val (.int (4 : Int32)), .val (.int (2 : Int32)), .val (.ref x444), .val (.int (0 : Int32))]) rfl q) ?_
      refine own_go (fun _ q => XS.aload X444.here hx rfl (hb hby at_116) rfl rfl q) ?_
      refine own_go (fun _ q => XS.iload X444.here hx rfl (hb hby at_118) rfl q) ?_
      show own_Fin _ _ _ _ (T444.setTop (mkF m 120 #[.val (.int xa), .val (.int xb), .val (.int xc), .val (.int xd), .val (.int ln), .val (.int ix), .val (.ref b359), .val (.int (4 : Int32)), .val (.int (2 : Int32)), .val (.ref x444), .val (.int (0 : Int32))] [(.int (2 : Int32)), (.ref x444)]))
      obtain ⟨_, _, ⟨T450, L450, k450, n450⟩, -, X450, ⟨Lc450, hQ450, l450, y450, z450⟩, st450⟩ := Jvm.LawKit.callS X444 hx (y := (⟨"com/example/iron_satchel/ironsatchel/PercentEncoding", "isEscapeAt", "(Ljava/lang/String;I)Z"⟩ : MethodName)) hown (mvT hZ (own_w hw 36 rfl)) (mvT hZ (own_w hw 37 rfl)) (mvT hZ (own_w hw 38 rfl)) (mvT hZ (own_w hw 39 rfl)) (by decide) (backOf (W := 0) (rm_ie0 l Z a0 hw [] x444 t444 ([ch0, ch1, ch2, ch3] : List Int32) (2 : Int32) ch2 gc gs T444.heap n0 (Nat.le_trans Z0 K449.1) SS444 (own_m 2 rfl) (by decide) (by show (2 : Int32) < (4 : Int32); decide) rfl (by show (2 : Int32) < ((8 : Int32) >>> ((1 : Int32) &&& 31)); decide) (by show ¬ ((2 : Int32) <<< ((1 : Int32) &&& 31)) < 0 ∧ ((2 : Int32) <<< ((1 : Int32) &&& 31)) < (8 : Int32); decide) (by show ¬ (((2 : Int32) <<< ((1 : Int32) &&& 31)) + (1 : Int32)) < 0 ∧ (((2 : Int32) <<< ((1 : Int32) &&& 31)) + (1 : Int32)) < (8 : Int32); decide) rfl rfl (by show ¬ ((2 : Int32) + (2 : Int32)) < (4 : Int32); decide) S_F hgs S_C hcs O0 S_A S_H S_L) hZ (own_w hw 39 rfl) (own_w hw 38 rfl) (by decide) (by decide)) (g := (mkF m 120 #[.val (.int xa), .val (.int xb), .val (.int xc), .val (.int xd), .val (.int ln), .val (.int ix), .val (.ref b359), .val (.int (4 : Int32)), .val (.int (2 : Int32)), .val (.ref x444), .val (.int (0 : Int32))] [(.int (2 : Int32)), (.ref x444)])) rfl (by rw [hml]; rfl) (argsL := [(.ref x444), (.int (2 : Int32))]) (rest := []) (lenOf pd_26 rfl) rfl (by show 2 * 0 + _ ≤ _; exact Nat.le_of_eq rfl) (hb hby at_120) (fun _ _ => ⟨rfl, rfl, (by decide : 5 + 0 ≤ _), (by decide : 24 + 0 ≤ _)⟩)
      dsimp only [Pt.U, Pt.locs, Pt.cells, Pt.slots] at X450 l450 y450 z450 st450 hQ450
      subst l450 y450 z450
      obtain ⟨rfl, N450q, e450⟩ := hQ450
      have N450 := Fr.app N444 N450q
      refine own_go st450 ?_
      refine own_go (fun _ q => XS.iload X450.here hx rfl (hb hby at_123) rfl q) ?_
      show own_Fin _ _ _ _ (T450.setTop (mkF m 125 #[.val (.int xa), .val (.int xb), .val (.int xc), .val (.int xd), .val (.int ln), .val (.int ix), .val (.ref b359), .val (.int (4 : Int32)), .val (.int (2 : Int32)), .val (.ref x444), .val (.int (0 : Int32))] [(.int (0 : Int32)), (.int (0 : Int32))]))
      refine own_go (fun _ q => XS.icmpNo X450.here hx rfl (hb hby at_125) rfl (teq (by decide : (0 : Int32) = (0 : Int32))).2 q) ?_
      refine own_go (fun _ q => XS.iconst X450.here hx rfl (hb hby at_128) q) ?_
      refine own_go (fun _ q => XS.goto X450.here hx rfl (pc0 := 129) (pc' := 133) rfl (hb hby at_129) (by decide) (by decide) q) ?_
      show own_Fin _ _ _ _ (T450.setTop (mkF m 133 #[.val (.int xa), .val (.int xb), .val (.int xc), .val (.int xd), .val (.int ln), .val (.int ix), .val (.ref b359), .val (.int (4 : Int32)), .val (.int (2 : Int32)), .val (.ref x444), .val (.int (0 : Int32))] [(.int (1 : Int32))]))
      refine own_retI X450 hx Bd (t := .boolean) Bd.returns rfl (by simp) (hb hby at_133) ?_ (by decide) (by decide)
      show (Q_rm_law Z xa xb xc xd ln ix gc gs dg kg h0 n0) (some (.int (1 : Int32))) T450.heap _
      rw [e450]
      exact ⟨rfl, N450⟩
    · skip
      show own_Fin _ _ _ _ (T368.setTop (mkF m 53 #[.val (.int xa), .val (.int xb), .val (.int xc), .val (.int xd), .val (.int ln), .val (.int ix), .val (.ref b359), .val (.int (4 : Int32)), .unset, .unset, .unset] [(.int ((ix &&& (2147483647 : Int32)) % (4 : Int32)))]))
      rw [hs53]
      refine own_go (fun _ q => XS.istore X368.here hx rfl (hb hby at_53) rfl (l' := #[.val (.int xa), .val (.int xb), .val (.int xc), .val (.int xd), .val (.int ln), .val (.int ix), .val (.ref b359), .val (.int (4 : Int32)), .val (.int (3 : Int32)), .unset, .unset]) rfl q) ?_
      refine own_go (fun _ q => XS.aload X368.here hx rfl (hb hby at_55) rfl rfl q) ?_
      refine own_go (fun _ q => XS.iload X368.here hx rfl (hb hby at_57) rfl q) ?_
      show own_Fin _ _ _ _ (T368.setTop (mkF m 59 #[.val (.int xa), .val (.int xb), .val (.int xc), .val (.int xd), .val (.int ln), .val (.int ix), .val (.ref b359), .val (.int (4 : Int32)), .val (.int (3 : Int32)), .unset, .unset] [(.int (4 : Int32)), (.ref b359)]))
      obtain ⟨_, _, ⟨T451, L451, k451, n451⟩, -, X451, ⟨Lc451, hQ451, l451, y451, z451⟩, st451⟩ := Jvm.LawKit.callS X368 hx (y := (⟨"com/example/iron_satchel/ironsatchel/PercentEncodingIsEscapeAtPinLaw", "make", "([CI)Ljava/lang/String;"⟩ : MethodName)) hown (mvT hZ (own_w hw 3 rfl)) (mvT hZ (own_w hw 4 rfl)) (mvT hZ (own_w hw 5 rfl)) (mvT hZ (own_w hw 6 rfl)) (by decide) (backOf (W := 0) (rm_mk4 l Z a0 hw [] b359 k359 ch0 ch1 ch2 ch3 gc h368 n0 (Nat.le_trans Z0 K369.1) V359 hb4 S_C hcs O0 S_A S_H S_L) hZ (own_w hw 6 rfl) (own_w hw 5 rfl) (by decide) (by decide)) (g := (mkF m 59 #[.val (.int xa), .val (.int xb), .val (.int xc), .val (.int xd), .val (.int ln), .val (.int ix), .val (.ref b359), .val (.int (4 : Int32)), .val (.int (3 : Int32)), .unset, .unset] [(.int (4 : Int32)), (.ref b359)])) rfl (by rw [hml]; rfl) (argsL := [(.ref b359), (.int (4 : Int32))]) (rest := []) (lenOf pd_25 rfl) rfl (by show 2 * 0 + _ ≤ _; exact Nat.le_of_eq rfl) (hb hby at_59) (fun _ _ => ⟨rfl, e368, (by decide : 1 + 4 ≤ _), (by decide : 4 + 20 ≤ _)⟩)
      dsimp only [Pt.U, Pt.locs, Pt.cells, Pt.slots] at X451 l451 y451 z451 st451 hQ451
      subst l451 y451 z451
      obtain ⟨x451, t451, rfl, N451q, KK451, szx451, szt451, SS451⟩ := hQ451
      have N451 := Fr.app N368 N451q
      have sz_x451 : h0.size ≤ x451 := Nat.le_trans K369.1 szx451
      have g_x451 : n0 ≤ x451 := Nat.le_trans Z0 sz_x451
      have ne452 : dg ≠ x451 := O0.ne V_dg.lt g_x451
      have ne453 : b359 ≠ x451 := Nat.ne_of_lt (Nat.lt_of_lt_of_le V359.lt szx451)
      have sz_t451 : h0.size ≤ t451 := Nat.le_trans K369.1 szt451
      have g_t451 : n0 ≤ t451 := Nat.le_trans Z0 sz_t451
      have ne454 : dg ≠ t451 := O0.ne V_dg.lt g_t451
      have ne455 : b359 ≠ t451 := Nat.ne_of_lt (Nat.lt_of_lt_of_le V359.lt szt451)
      replace O0 := O0.keep KK451 all0
      replace V359 := V359.keep KK451 nin0
      have K456 := K369.trans KK451 all0
      refine own_go st451 ?_
      refine own_go (fun _ q => XS.astore X451.here hx rfl (hb hby at_62) rfl rfl (l' := #[.val (.int xa), .val (.int xb), .val (.int xc), .val (.int xd), .val (.int ln), .val (.int ix), .val (.ref b359), .val (.int (4 : Int32)), .val (.int (3 : Int32)), .val (.ref x451), .unset]) rfl q) ?_
      refine own_go (fun _ q => XS.iload X451.here hx rfl (hb hby at_64) rfl q) ?_
      refine own_go (fun _ q => XS.iconst X451.here hx rfl (hb hby at_66) q) ?_
      show own_Fin _ _ _ _ (T451.setTop (mkF m 67 #[.val (.int xa), .val (.int xb), .val (.int xc), .val (.int xd), .val (.int ln), .val (.int ix), .val (.ref b359), .val (.int (4 : Int32)), .val (.int (3 : Int32)), .val (.ref x451), .unset] [(.int (2 : Int32)), (.int (3 : Int32))]))
      refine own_go (fun _ q => XS.iadd X451.here hx rfl (hb hby at_67) rfl q) ?_
      refine own_go (fun _ q => XS.iload X451.here hx rfl (hb hby at_68) rfl q) ?_
      show own_Fin _ _ _ _ (T451.setTop (mkF m 70 #[.val (.int xa), .val (.int xb), .val (.int xc), .val (.int xd), .val (.int ln), .val (.int ix), .val (.ref b359), .val (.int (4 : Int32)), .val (.int (3 : Int32)), .val (.ref x451), .unset] [(.int (4 : Int32)), (.int (5 : Int32))]))
      refine own_go (fun _ q => XS.icmpYes X451.here hx rfl (pc0 := 70) (pc' := 113) rfl (hb hby at_70) rfl (flt (by decide : ¬ (5 : Int32) < (4 : Int32))).2.1 (by decide) (by decide) q) ?_
      refine own_go (fun _ q => XS.iconst X451.here hx rfl (hb hby at_113) q) ?_
      refine own_go (fun _ q => XS.istore X451.here hx rfl (hb hby at_114) rfl (l' := #[.val (.int xa), .val (.int xb), .val (.int xc), .val (.int xd), .val (.int ln), .val (.int ix), .val (.ref b359), .val (.int (4 : Int32)), .val (.int (3 : Int32)), .val (.ref x451), .val (.int (0 : Int32))]) rfl q) ?_
      refine own_go (fun _ q => XS.aload X451.here hx rfl (hb hby at_116) rfl rfl q) ?_
      refine own_go (fun _ q => XS.iload X451.here hx rfl (hb hby at_118) rfl q) ?_
      show own_Fin _ _ _ _ (T451.setTop (mkF m 120 #[.val (.int xa), .val (.int xb), .val (.int xc), .val (.int xd), .val (.int ln), .val (.int ix), .val (.ref b359), .val (.int (4 : Int32)), .val (.int (3 : Int32)), .val (.ref x451), .val (.int (0 : Int32))] [(.int (3 : Int32)), (.ref x451)]))
      obtain ⟨_, _, ⟨T457, L457, k457, n457⟩, -, X457, ⟨Lc457, hQ457, l457, y457, z457⟩, st457⟩ := Jvm.LawKit.callS X451 hx (y := (⟨"com/example/iron_satchel/ironsatchel/PercentEncoding", "isEscapeAt", "(Ljava/lang/String;I)Z"⟩ : MethodName)) hown (mvT hZ (own_w hw 36 rfl)) (mvT hZ (own_w hw 37 rfl)) (mvT hZ (own_w hw 38 rfl)) (mvT hZ (own_w hw 39 rfl)) (by decide) (backOf (W := 0) (rm_ie0 l Z a0 hw [] x451 t451 ([ch0, ch1, ch2, ch3] : List Int32) (3 : Int32) ch3 gc gs T451.heap n0 (Nat.le_trans Z0 K456.1) SS451 (own_m 3 rfl) (by decide) (by show (3 : Int32) < (4 : Int32); decide) rfl (by show (3 : Int32) < ((8 : Int32) >>> ((1 : Int32) &&& 31)); decide) (by show ¬ ((3 : Int32) <<< ((1 : Int32) &&& 31)) < 0 ∧ ((3 : Int32) <<< ((1 : Int32) &&& 31)) < (8 : Int32); decide) (by show ¬ (((3 : Int32) <<< ((1 : Int32) &&& 31)) + (1 : Int32)) < 0 ∧ (((3 : Int32) <<< ((1 : Int32) &&& 31)) + (1 : Int32)) < (8 : Int32); decide) rfl rfl (by show ¬ ((3 : Int32) + (2 : Int32)) < (4 : Int32); decide) S_F hgs S_C hcs O0 S_A S_H S_L) hZ (own_w hw 39 rfl) (own_w hw 38 rfl) (by decide) (by decide)) (g := (mkF m 120 #[.val (.int xa), .val (.int xb), .val (.int xc), .val (.int xd), .val (.int ln), .val (.int ix), .val (.ref b359), .val (.int (4 : Int32)), .val (.int (3 : Int32)), .val (.ref x451), .val (.int (0 : Int32))] [(.int (3 : Int32)), (.ref x451)])) rfl (by rw [hml]; rfl) (argsL := [(.ref x451), (.int (3 : Int32))]) (rest := []) (lenOf pd_26 rfl) rfl (by show 2 * 0 + _ ≤ _; exact Nat.le_of_eq rfl) (hb hby at_120) (fun _ _ => ⟨rfl, rfl, (by decide : 5 + 0 ≤ _), (by decide : 24 + 0 ≤ _)⟩)
      dsimp only [Pt.U, Pt.locs, Pt.cells, Pt.slots] at X457 l457 y457 z457 st457 hQ457
      subst l457 y457 z457
      obtain ⟨rfl, N457q, e457⟩ := hQ457
      have N457 := Fr.app N451 N457q
      refine own_go st457 ?_
      refine own_go (fun _ q => XS.iload X457.here hx rfl (hb hby at_123) rfl q) ?_
      show own_Fin _ _ _ _ (T457.setTop (mkF m 125 #[.val (.int xa), .val (.int xb), .val (.int xc), .val (.int xd), .val (.int ln), .val (.int ix), .val (.ref b359), .val (.int (4 : Int32)), .val (.int (3 : Int32)), .val (.ref x451), .val (.int (0 : Int32))] [(.int (0 : Int32)), (.int (0 : Int32))]))
      refine own_go (fun _ q => XS.icmpNo X457.here hx rfl (hb hby at_125) rfl (teq (by decide : (0 : Int32) = (0 : Int32))).2 q) ?_
      refine own_go (fun _ q => XS.iconst X457.here hx rfl (hb hby at_128) q) ?_
      refine own_go (fun _ q => XS.goto X457.here hx rfl (pc0 := 129) (pc' := 133) rfl (hb hby at_129) (by decide) (by decide) q) ?_
      show own_Fin _ _ _ _ (T457.setTop (mkF m 133 #[.val (.int xa), .val (.int xb), .val (.int xc), .val (.int xd), .val (.int ln), .val (.int ix), .val (.ref b359), .val (.int (4 : Int32)), .val (.int (3 : Int32)), .val (.ref x451), .val (.int (0 : Int32))] [(.int (1 : Int32))]))
      refine own_retI X457 hx Bd (t := .boolean) Bd.returns rfl (by simp) (hb hby at_133) ?_ (by decide) (by decide)
      show (Q_rm_law Z xa xb xc xd ln ix gc gs dg kg h0 n0) (some (.int (1 : Int32))) T457.heap _
      rw [e457]
      exact ⟨rfl, N457⟩
section OwnStart
variable {args : Array Value} {s : State}
theorem own_eqL {t : Term} {c : Int64} (h : (Jvm.Cond.eq t (.long c)).value args s none s [] = some true) : t.eval args s none [] s = some (.long c) := by
  obtain ⟨x, y, hx, hy, k1, -⟩ := cmp_v (Or.inl h)
  cases Option.some.inj (hy.symm.trans (long_at c))
  cases x <;> simp [Kin, Value.isRef] at k1
  have q := gotT (eq_L hx hy) h
  rw [hx, q]
theorem own_eqI {t : Term} {c : Int32} (h : (Jvm.Cond.eq t (.int c)).value args s none s [] = some true) : t.eval args s none [] s = some (.int c) := by
  obtain ⟨x, y, hx, hy, k1, -⟩ := cmp_v (Or.inl h)
  cases Option.some.inj (hy.symm.trans (Term.int_eval c))
  cases x <;> simp [Kin, Value.isRef] at k1
  have q := gotT (Cond.eq_ints hx hy) h
  rw [hx, q]
theorem own_eqR {t u : Term} {a : Addr} (hu : u.eval args s none [] s = some (.ref a)) (h : (Jvm.Cond.eq t u).value args s none s [] = some true) : t.eval args s none [] s = some (.ref a) := by
  obtain ⟨x, y, hx, hy, k1, -⟩ := cmp_v (Or.inl h)
  cases Option.some.inj (hy.symm.trans hu)
  have hr : x.isRef = true := by cases x <;> simp [Kin, Value.isRef] at k1 ⊢
  have q := gotT (eq_R hx hy hr rfl) h
  rw [hx, q]
theorem own_arr {t : Term} {a : Addr} {ty : FieldType} {N : Int32} (ev : t.eval args s none [] s = some (.ref a)) (h1 : (Jvm.Cond.arrayOf t ty).value args s none s [] = some true) (h2 : (Jvm.Cond.eq (Term.length t) (.int N)).value args s none s [] = some true) :
    ∃ cl, Arr s s.heap a cl ty ∧ s.arrayAt? a = some cl ∧ cl.slots.size < 2 ^ 31 ∧ cl.slots.size.toInt32 = N := by
  obtain ⟨cl, A⟩ := Arr.start ev h1
  have aa : s.arrayAt? a = some cl := A.fin (hal := Vm.Alike.refl _)
  have hlen := own_eqI h2
  simp only [Term.eval, ev, Option.bind_eq_bind, Option.bind_some, aa] at hlen
  split at hlen
  · rename_i q; exact ⟨cl, A, aa, q, by simpa using hlen⟩
  · cases hlen
theorem own_elL {t : Term} {a : Addr} {cl : Cell} {j : Int32} {c : Int64} (ev : t.eval args s none [] s = some (.ref a)) (aa : s.arrayAt? a = some cl) (hj : ¬ j < 0) (h : (Jvm.Cond.eq (Term.elem t (.int j)) (.long c)).value args s none s [] = some true) : cl.slots[j.toNatClampNeg]? = some (.long c) := by
  have q := own_eqL h
  rwa [elem_f ev (Term.int_eval j) aa hj] at q
theorem own_elI {t : Term} {a : Addr} {cl : Cell} {j : Int32} {c : Int32} (ev : t.eval args s none [] s = some (.ref a)) (aa : s.arrayAt? a = some cl) (hj : ¬ j < 0) (h : (Jvm.Cond.eq (Term.elem t (.int j)) (.int c)).value args s none s [] = some true) : cl.slots[j.toNatClampNeg]? = some (.int c) := by
  have q := own_eqI h
  rwa [elem_f ev (Term.int_eval j) aa hj] at q
theorem own_elR {t u : Term} {a b : Addr} {cl : Cell} {j : Int32} (ev : t.eval args s none [] s = some (.ref a)) (aa : s.arrayAt? a = some cl) (hj : ¬ j < 0) (hu : u.eval args s none [] s = some (.ref b)) (h : (Jvm.Cond.eq (Term.elem t (.int j)) u).value args s none s [] = some true) : cl.slots[j.toNatClampNeg]? = some (.ref b) := by
  have q := own_eqR hu h
  rwa [elem_f ev (Term.int_eval j) aa hj] at q
end OwnStart
set_option maxRecDepth 65536 in
set_option maxHeartbeats 40000000 in
theorem comes_1 {Post : Tables → Env → Array Value → State → Outcome → State → Prop} (hpost : ∀ tb e args s v u, (limb_1_1.after args s (.returned v) u = true ∧ limb_1_2.after args s (.returned v) u = true ∧ True) → FrameEnd s (.returned v) u (Jvm.fieldLocs frame_1_writes args s ++ Jvm.arrayLocs frame_1_arrays args s ++ Jvm.staticLocs frame_1_statics s) 24 128 → Post tb e args s (.returned v) u) :
    ArmFor flags0 classFile x code maxLocals ret World_1 tables_1 room_1 Calls_1 rest_1 Pre_1 Post := by
  intro l hfl _ _ p e ha hc hk s m args below hf hA hF happ hP
  obtain ⟨hcalls, hrest, hpre⟩ := hP
  obtain ⟨-, -, -, hnamed, -, -, -, hat⟩ := (Spec.applies_iff hf).mp happ
  obtain ⟨hg, hn⟩ := and_e (Cond.before_iff.mp (show (Jvm.Cond.and given_1 narrow_1).before args s = true from hpre))
  obtain ⟨h1, hg⟩ := and_e hg
  obtain ⟨g0, hg⟩ := and_e hg
  obtain ⟨g1, hg⟩ := and_e hg
  obtain ⟨g2, hg⟩ := and_e hg
  obtain ⟨g3, hg⟩ := and_e hg
  obtain ⟨g4, hg⟩ := and_e hg
  obtain ⟨w0, w1, w2, w3, w4, w5, rfl⟩ : ∃ w0 w1 w2 w3 w4 w5 : Value, args = #[w0, w1, w2, w3, w4, w5] := by
    have hs : args.size = 6 := by simpa [Cond.value, given_1] using h1
    obtain ⟨L⟩ := args
    match L, hs with
    | [w0, w1, w2, w3, w4, w5], _ => exact ⟨w0, w1, w2, w3, w4, w5, rfl⟩
  have hw := fun d (hd : d ∈ tables_1) => atoms_spec (ws := Jvm.Cond.code x code maxLocals ret :: tables_1) hat d (List.mem_cons_of_mem _ hd)
  obtain ⟨hsets, hown0⟩ := atoms_of _ (rest_1_c_eq ▸ (show rest_1_c.before _ s = true from hrest))
  have hfit : Fit s := fun {y c} hc i hi => by
    obtain ⟨ha, rfl⟩ := Array.getElem?_eq_some_iff.mp hc
    have q := List.all_eq_true.mp ((Array.all_eq_true_iff_forall_mem.mp hF) _ (Array.getElem_mem ha)) i (List.mem_range.mpr hi)
    simpa [Array.getElem?_eq_getElem hi] using q
  obtain ⟨i0, e0⟩ := is_v g0
  obtain rfl : w0 = (.int i0) := Option.some.inj e0
  obtain ⟨i1, e1⟩ := is_v g1
  obtain rfl : w1 = (.int i1) := Option.some.inj e1
  obtain ⟨i2, e2⟩ := is_v g2
  obtain rfl : w2 = (.int i2) := Option.some.inj e2
  obtain ⟨i3, e3⟩ := is_v g3
  obtain rfl : w3 = (.int i3) := Option.some.inj e3
  obtain ⟨i4, e4⟩ := is_v g4
  obtain rfl : w4 = (.int i4) := Option.some.inj e4
  obtain ⟨i5, e5⟩ := is_v hg
  obtain rfl : w5 = (.int i5) := Option.some.inj e5
  have n5 := not_v (own_s hsets 2 rfl)
  obtain ⟨gc, e10⟩ := is_v (own_s hsets 1 rfl)
  have SC : Sta s s.heap "java/lang/String" "COMPACT_STRINGS" "Z" (.int gc) := Sta.start e10 (Or.inl (hsets _ (own_m 0 rfl)))
  have hcs : ¬ (gc = (0 : Int32)) := gotF (Cond.eq_ints e10 (Term.int_eval (0))) n5
  obtain ⟨gs, e14, hgs⟩ := isR_v (own_s hsets 8 rfl)
  have SF : Sta s s.heap "jdk/internal/util/Preconditions" "SIOOBE_FORMATTER" "Ljava/util/function/BiFunction;" gs := Sta.start e14 (Or.inl (hsets _ (own_m 7 rfl)))
  have SA := Sta.start (own_eqI (own_s hsets 12 rfl)) (Or.inl (hsets _ (own_m 11 rfl)))
  have SH := Sta.start (own_eqI (own_s hsets 15 rfl)) (Or.inl (hsets _ (own_m 14 rfl)))
  have SL := Sta.start (own_eqI (own_s hsets 18 rfl)) (Or.inl (hsets _ (own_m 17 rfl)))
  obtain ⟨dg, ev⟩ := arr_v (own_s hsets 21 rfl)
  have SD := Sta.start ev (Or.inl (hsets _ (own_m 20 rfl)))
  obtain ⟨cl, A, aa, hsz⟩ := own_arr ev (own_s hsets 21 rfl) (own_s hsets 23 rfl)
  have V := Arv.start (dv := .int (0 : Int32)) (z := 256) (vs := own_dvs) hfit A hsz.1 hsz.2 (by decide) rfl
    ⟨own_elI ev aa (j := 0) (by decide) (own_s hsets 24 rfl), own_elI ev aa (j := 1) (by decide) (own_s hsets 25 rfl), own_elI ev aa (j := 2) (by decide) (own_s hsets 26 rfl), own_elI ev aa (j := 3) (by decide) (own_s hsets 27 rfl), own_elI ev aa (j := 4) (by decide) (own_s hsets 28 rfl), own_elI ev aa (j := 5) (by decide) (own_s hsets 29 rfl), own_elI ev aa (j := 6) (by decide) (own_s hsets 30 rfl), own_elI ev aa (j := 7) (by decide) (own_s hsets 31 rfl), own_elI ev aa (j := 8) (by decide) (own_s hsets 32 rfl), own_elI ev aa (j := 9) (by decide) (own_s hsets 33 rfl), own_elI ev aa (j := 10) (by decide) (own_s hsets 34 rfl), own_elI ev aa (j := 11) (by decide) (own_s hsets 35 rfl), own_elI ev aa (j := 12) (by decide) (own_s hsets 36 rfl), own_elI ev aa (j := 13) (by decide) (own_s hsets 37 rfl), own_elI ev aa (j := 14) (by decide) (own_s hsets 38 rfl), own_elI ev aa (j := 15) (by decide) (own_s hsets 39 rfl), own_elI ev aa (j := 16) (by decide) (own_s hsets 40 rfl), own_elI ev aa (j := 17) (by decide) (own_s hsets 41 rfl), own_elI ev aa (j := 18) (by decide) (own_s hsets 42 rfl), own_elI ev aa (j := 19) (by decide) (own_s hsets 43 rfl), own_elI ev aa (j := 20) (by decide) (own_s hsets 44 rfl), own_elI ev aa (j := 21) (by decide) (own_s hsets 45 rfl), own_elI ev aa (j := 22) (by decide) (own_s hsets 46 rfl), own_elI ev aa (j := 23) (by decide) (own_s hsets 47 rfl), own_elI ev aa (j := 24) (by decide) (own_s hsets 48 rfl), own_elI ev aa (j := 25) (by decide) (own_s hsets 49 rfl), own_elI ev aa (j := 26) (by decide) (own_s hsets 50 rfl), own_elI ev aa (j := 27) (by decide) (own_s hsets 51 rfl), own_elI ev aa (j := 28) (by decide) (own_s hsets 52 rfl), own_elI ev aa (j := 29) (by decide) (own_s hsets 53 rfl), own_elI ev aa (j := 30) (by decide) (own_s hsets 54 rfl), own_elI ev aa (j := 31) (by decide) (own_s hsets 55 rfl), own_elI ev aa (j := 32) (by decide) (own_s hsets 56 rfl), own_elI ev aa (j := 33) (by decide) (own_s hsets 57 rfl), own_elI ev aa (j := 34) (by decide) (own_s hsets 58 rfl), own_elI ev aa (j := 35) (by decide) (own_s hsets 59 rfl), own_elI ev aa (j := 36) (by decide) (own_s hsets 60 rfl), own_elI ev aa (j := 37) (by decide) (own_s hsets 61 rfl), own_elI ev aa (j := 38) (by decide) (own_s hsets 62 rfl), own_elI ev aa (j := 39) (by decide) (own_s hsets 63 rfl), own_elI ev aa (j := 40) (by decide) (own_s hsets 64 rfl), own_elI ev aa (j := 41) (by decide) (own_s hsets 65 rfl), own_elI ev aa (j := 42) (by decide) (own_s hsets 66 rfl), own_elI ev aa (j := 43) (by decide) (own_s hsets 67 rfl), own_elI ev aa (j := 44) (by decide) (own_s hsets 68 rfl), own_elI ev aa (j := 45) (by decide) (own_s hsets 69 rfl), own_elI ev aa (j := 46) (by decide) (own_s hsets 70 rfl), own_elI ev aa (j := 47) (by decide) (own_s hsets 71 rfl), own_elI ev aa (j := 48) (by decide) (own_s hsets 72 rfl), own_elI ev aa (j := 49) (by decide) (own_s hsets 73 rfl), own_elI ev aa (j := 50) (by decide) (own_s hsets 74 rfl), own_elI ev aa (j := 51) (by decide) (own_s hsets 75 rfl), own_elI ev aa (j := 52) (by decide) (own_s hsets 76 rfl), own_elI ev aa (j := 53) (by decide) (own_s hsets 77 rfl), own_elI ev aa (j := 54) (by decide) (own_s hsets 78 rfl), own_elI ev aa (j := 55) (by decide) (own_s hsets 79 rfl), own_elI ev aa (j := 56) (by decide) (own_s hsets 80 rfl), own_elI ev aa (j := 57) (by decide) (own_s hsets 81 rfl), own_elI ev aa (j := 58) (by decide) (own_s hsets 82 rfl), own_elI ev aa (j := 59) (by decide) (own_s hsets 83 rfl), own_elI ev aa (j := 60) (by decide) (own_s hsets 84 rfl), own_elI ev aa (j := 61) (by decide) (own_s hsets 85 rfl), own_elI ev aa (j := 62) (by decide) (own_s hsets 86 rfl), own_elI ev aa (j := 63) (by decide) (own_s hsets 87 rfl), own_elI ev aa (j := 64) (by decide) (own_s hsets 88 rfl), own_elI ev aa (j := 65) (by decide) (own_s hsets 89 rfl), own_elI ev aa (j := 66) (by decide) (own_s hsets 90 rfl), own_elI ev aa (j := 67) (by decide) (own_s hsets 91 rfl), own_elI ev aa (j := 68) (by decide) (own_s hsets 92 rfl), own_elI ev aa (j := 69) (by decide) (own_s hsets 93 rfl), own_elI ev aa (j := 70) (by decide) (own_s hsets 94 rfl), own_elI ev aa (j := 71) (by decide) (own_s hsets 95 rfl), own_elI ev aa (j := 72) (by decide) (own_s hsets 96 rfl), own_elI ev aa (j := 73) (by decide) (own_s hsets 97 rfl), own_elI ev aa (j := 74) (by decide) (own_s hsets 98 rfl), own_elI ev aa (j := 75) (by decide) (own_s hsets 99 rfl), own_elI ev aa (j := 76) (by decide) (own_s hsets 100 rfl), own_elI ev aa (j := 77) (by decide) (own_s hsets 101 rfl), own_elI ev aa (j := 78) (by decide) (own_s hsets 102 rfl), own_elI ev aa (j := 79) (by decide) (own_s hsets 103 rfl), own_elI ev aa (j := 80) (by decide) (own_s hsets 104 rfl), own_elI ev aa (j := 81) (by decide) (own_s hsets 105 rfl), own_elI ev aa (j := 82) (by decide) (own_s hsets 106 rfl), own_elI ev aa (j := 83) (by decide) (own_s hsets 107 rfl), own_elI ev aa (j := 84) (by decide) (own_s hsets 108 rfl), own_elI ev aa (j := 85) (by decide) (own_s hsets 109 rfl), own_elI ev aa (j := 86) (by decide) (own_s hsets 110 rfl), own_elI ev aa (j := 87) (by decide) (own_s hsets 111 rfl), own_elI ev aa (j := 88) (by decide) (own_s hsets 112 rfl), own_elI ev aa (j := 89) (by decide) (own_s hsets 113 rfl), own_elI ev aa (j := 90) (by decide) (own_s hsets 114 rfl), own_elI ev aa (j := 91) (by decide) (own_s hsets 115 rfl), own_elI ev aa (j := 92) (by decide) (own_s hsets 116 rfl), own_elI ev aa (j := 93) (by decide) (own_s hsets 117 rfl), own_elI ev aa (j := 94) (by decide) (own_s hsets 118 rfl), own_elI ev aa (j := 95) (by decide) (own_s hsets 119 rfl), own_elI ev aa (j := 96) (by decide) (own_s hsets 120 rfl), own_elI ev aa (j := 97) (by decide) (own_s hsets 121 rfl), own_elI ev aa (j := 98) (by decide) (own_s hsets 122 rfl), own_elI ev aa (j := 99) (by decide) (own_s hsets 123 rfl), own_elI ev aa (j := 100) (by decide) (own_s hsets 124 rfl), own_elI ev aa (j := 101) (by decide) (own_s hsets 125 rfl), own_elI ev aa (j := 102) (by decide) (own_s hsets 126 rfl), own_elI ev aa (j := 103) (by decide) (own_s hsets 127 rfl), own_elI ev aa (j := 104) (by decide) (own_s hsets 128 rfl), own_elI ev aa (j := 105) (by decide) (own_s hsets 129 rfl), own_elI ev aa (j := 106) (by decide) (own_s hsets 130 rfl), own_elI ev aa (j := 107) (by decide) (own_s hsets 131 rfl), own_elI ev aa (j := 108) (by decide) (own_s hsets 132 rfl), own_elI ev aa (j := 109) (by decide) (own_s hsets 133 rfl), own_elI ev aa (j := 110) (by decide) (own_s hsets 134 rfl), own_elI ev aa (j := 111) (by decide) (own_s hsets 135 rfl), own_elI ev aa (j := 112) (by decide) (own_s hsets 136 rfl), own_elI ev aa (j := 113) (by decide) (own_s hsets 137 rfl), own_elI ev aa (j := 114) (by decide) (own_s hsets 138 rfl), own_elI ev aa (j := 115) (by decide) (own_s hsets 139 rfl), own_elI ev aa (j := 116) (by decide) (own_s hsets 140 rfl), own_elI ev aa (j := 117) (by decide) (own_s hsets 141 rfl), own_elI ev aa (j := 118) (by decide) (own_s hsets 142 rfl), own_elI ev aa (j := 119) (by decide) (own_s hsets 143 rfl), own_elI ev aa (j := 120) (by decide) (own_s hsets 144 rfl), own_elI ev aa (j := 121) (by decide) (own_s hsets 145 rfl), own_elI ev aa (j := 122) (by decide) (own_s hsets 146 rfl), own_elI ev aa (j := 123) (by decide) (own_s hsets 147 rfl), own_elI ev aa (j := 124) (by decide) (own_s hsets 148 rfl), own_elI ev aa (j := 125) (by decide) (own_s hsets 149 rfl), own_elI ev aa (j := 126) (by decide) (own_s hsets 150 rfl), own_elI ev aa (j := 127) (by decide) (own_s hsets 151 rfl), own_elI ev aa (j := 128) (by decide) (own_s hsets 152 rfl), own_elI ev aa (j := 129) (by decide) (own_s hsets 153 rfl), own_elI ev aa (j := 130) (by decide) (own_s hsets 154 rfl), own_elI ev aa (j := 131) (by decide) (own_s hsets 155 rfl), own_elI ev aa (j := 132) (by decide) (own_s hsets 156 rfl), own_elI ev aa (j := 133) (by decide) (own_s hsets 157 rfl), own_elI ev aa (j := 134) (by decide) (own_s hsets 158 rfl), own_elI ev aa (j := 135) (by decide) (own_s hsets 159 rfl), own_elI ev aa (j := 136) (by decide) (own_s hsets 160 rfl), own_elI ev aa (j := 137) (by decide) (own_s hsets 161 rfl), own_elI ev aa (j := 138) (by decide) (own_s hsets 162 rfl), own_elI ev aa (j := 139) (by decide) (own_s hsets 163 rfl), own_elI ev aa (j := 140) (by decide) (own_s hsets 164 rfl), own_elI ev aa (j := 141) (by decide) (own_s hsets 165 rfl), own_elI ev aa (j := 142) (by decide) (own_s hsets 166 rfl), own_elI ev aa (j := 143) (by decide) (own_s hsets 167 rfl), own_elI ev aa (j := 144) (by decide) (own_s hsets 168 rfl), own_elI ev aa (j := 145) (by decide) (own_s hsets 169 rfl), own_elI ev aa (j := 146) (by decide) (own_s hsets 170 rfl), own_elI ev aa (j := 147) (by decide) (own_s hsets 171 rfl), own_elI ev aa (j := 148) (by decide) (own_s hsets 172 rfl), own_elI ev aa (j := 149) (by decide) (own_s hsets 173 rfl), own_elI ev aa (j := 150) (by decide) (own_s hsets 174 rfl), own_elI ev aa (j := 151) (by decide) (own_s hsets 175 rfl), own_elI ev aa (j := 152) (by decide) (own_s hsets 176 rfl), own_elI ev aa (j := 153) (by decide) (own_s hsets 177 rfl), own_elI ev aa (j := 154) (by decide) (own_s hsets 178 rfl), own_elI ev aa (j := 155) (by decide) (own_s hsets 179 rfl), own_elI ev aa (j := 156) (by decide) (own_s hsets 180 rfl), own_elI ev aa (j := 157) (by decide) (own_s hsets 181 rfl), own_elI ev aa (j := 158) (by decide) (own_s hsets 182 rfl), own_elI ev aa (j := 159) (by decide) (own_s hsets 183 rfl), own_elI ev aa (j := 160) (by decide) (own_s hsets 184 rfl), own_elI ev aa (j := 161) (by decide) (own_s hsets 185 rfl), own_elI ev aa (j := 162) (by decide) (own_s hsets 186 rfl), own_elI ev aa (j := 163) (by decide) (own_s hsets 187 rfl), own_elI ev aa (j := 164) (by decide) (own_s hsets 188 rfl), own_elI ev aa (j := 165) (by decide) (own_s hsets 189 rfl), own_elI ev aa (j := 166) (by decide) (own_s hsets 190 rfl), own_elI ev aa (j := 167) (by decide) (own_s hsets 191 rfl), own_elI ev aa (j := 168) (by decide) (own_s hsets 192 rfl), own_elI ev aa (j := 169) (by decide) (own_s hsets 193 rfl), own_elI ev aa (j := 170) (by decide) (own_s hsets 194 rfl), own_elI ev aa (j := 171) (by decide) (own_s hsets 195 rfl), own_elI ev aa (j := 172) (by decide) (own_s hsets 196 rfl), own_elI ev aa (j := 173) (by decide) (own_s hsets 197 rfl), own_elI ev aa (j := 174) (by decide) (own_s hsets 198 rfl), own_elI ev aa (j := 175) (by decide) (own_s hsets 199 rfl), own_elI ev aa (j := 176) (by decide) (own_s hsets 200 rfl), own_elI ev aa (j := 177) (by decide) (own_s hsets 201 rfl), own_elI ev aa (j := 178) (by decide) (own_s hsets 202 rfl), own_elI ev aa (j := 179) (by decide) (own_s hsets 203 rfl), own_elI ev aa (j := 180) (by decide) (own_s hsets 204 rfl), own_elI ev aa (j := 181) (by decide) (own_s hsets 205 rfl), own_elI ev aa (j := 182) (by decide) (own_s hsets 206 rfl), own_elI ev aa (j := 183) (by decide) (own_s hsets 207 rfl), own_elI ev aa (j := 184) (by decide) (own_s hsets 208 rfl), own_elI ev aa (j := 185) (by decide) (own_s hsets 209 rfl), own_elI ev aa (j := 186) (by decide) (own_s hsets 210 rfl), own_elI ev aa (j := 187) (by decide) (own_s hsets 211 rfl), own_elI ev aa (j := 188) (by decide) (own_s hsets 212 rfl), own_elI ev aa (j := 189) (by decide) (own_s hsets 213 rfl), own_elI ev aa (j := 190) (by decide) (own_s hsets 214 rfl), own_elI ev aa (j := 191) (by decide) (own_s hsets 215 rfl), own_elI ev aa (j := 192) (by decide) (own_s hsets 216 rfl), own_elI ev aa (j := 193) (by decide) (own_s hsets 217 rfl), own_elI ev aa (j := 194) (by decide) (own_s hsets 218 rfl), own_elI ev aa (j := 195) (by decide) (own_s hsets 219 rfl), own_elI ev aa (j := 196) (by decide) (own_s hsets 220 rfl), own_elI ev aa (j := 197) (by decide) (own_s hsets 221 rfl), own_elI ev aa (j := 198) (by decide) (own_s hsets 222 rfl), own_elI ev aa (j := 199) (by decide) (own_s hsets 223 rfl), own_elI ev aa (j := 200) (by decide) (own_s hsets 224 rfl), own_elI ev aa (j := 201) (by decide) (own_s hsets 225 rfl), own_elI ev aa (j := 202) (by decide) (own_s hsets 226 rfl), own_elI ev aa (j := 203) (by decide) (own_s hsets 227 rfl), own_elI ev aa (j := 204) (by decide) (own_s hsets 228 rfl), own_elI ev aa (j := 205) (by decide) (own_s hsets 229 rfl), own_elI ev aa (j := 206) (by decide) (own_s hsets 230 rfl), own_elI ev aa (j := 207) (by decide) (own_s hsets 231 rfl), own_elI ev aa (j := 208) (by decide) (own_s hsets 232 rfl), own_elI ev aa (j := 209) (by decide) (own_s hsets 233 rfl), own_elI ev aa (j := 210) (by decide) (own_s hsets 234 rfl), own_elI ev aa (j := 211) (by decide) (own_s hsets 235 rfl), own_elI ev aa (j := 212) (by decide) (own_s hsets 236 rfl), own_elI ev aa (j := 213) (by decide) (own_s hsets 237 rfl), own_elI ev aa (j := 214) (by decide) (own_s hsets 238 rfl), own_elI ev aa (j := 215) (by decide) (own_s hsets 239 rfl), own_elI ev aa (j := 216) (by decide) (own_s hsets 240 rfl), own_elI ev aa (j := 217) (by decide) (own_s hsets 241 rfl), own_elI ev aa (j := 218) (by decide) (own_s hsets 242 rfl), own_elI ev aa (j := 219) (by decide) (own_s hsets 243 rfl), own_elI ev aa (j := 220) (by decide) (own_s hsets 244 rfl), own_elI ev aa (j := 221) (by decide) (own_s hsets 245 rfl), own_elI ev aa (j := 222) (by decide) (own_s hsets 246 rfl), own_elI ev aa (j := 223) (by decide) (own_s hsets 247 rfl), own_elI ev aa (j := 224) (by decide) (own_s hsets 248 rfl), own_elI ev aa (j := 225) (by decide) (own_s hsets 249 rfl), own_elI ev aa (j := 226) (by decide) (own_s hsets 250 rfl), own_elI ev aa (j := 227) (by decide) (own_s hsets 251 rfl), own_elI ev aa (j := 228) (by decide) (own_s hsets 252 rfl), own_elI ev aa (j := 229) (by decide) (own_s hsets 253 rfl), own_elI ev aa (j := 230) (by decide) (own_s hsets 254 rfl), own_elI ev aa (j := 231) (by decide) (own_s hsets 255 rfl), own_elI ev aa (j := 232) (by decide) (own_s hsets 256 rfl), own_elI ev aa (j := 233) (by decide) (own_s hsets 257 rfl), own_elI ev aa (j := 234) (by decide) (own_s hsets 258 rfl), own_elI ev aa (j := 235) (by decide) (own_s hsets 259 rfl), own_elI ev aa (j := 236) (by decide) (own_s hsets 260 rfl), own_elI ev aa (j := 237) (by decide) (own_s hsets 261 rfl), own_elI ev aa (j := 238) (by decide) (own_s hsets 262 rfl), own_elI ev aa (j := 239) (by decide) (own_s hsets 263 rfl), own_elI ev aa (j := 240) (by decide) (own_s hsets 264 rfl), own_elI ev aa (j := 241) (by decide) (own_s hsets 265 rfl), own_elI ev aa (j := 242) (by decide) (own_s hsets 266 rfl), own_elI ev aa (j := 243) (by decide) (own_s hsets 267 rfl), own_elI ev aa (j := 244) (by decide) (own_s hsets 268 rfl), own_elI ev aa (j := 245) (by decide) (own_s hsets 269 rfl), own_elI ev aa (j := 246) (by decide) (own_s hsets 270 rfl), own_elI ev aa (j := 247) (by decide) (own_s hsets 271 rfl), own_elI ev aa (j := 248) (by decide) (own_s hsets 272 rfl), own_elI ev aa (j := 249) (by decide) (own_s hsets 273 rfl), own_elI ev aa (j := 250) (by decide) (own_s hsets 274 rfl), own_elI ev aa (j := 251) (by decide) (own_s hsets 275 rfl), own_elI ev aa (j := 252) (by decide) (own_s hsets 276 rfl), own_elI ev aa (j := 253) (by decide) (own_s hsets 277 rfl), own_elI ev aa (j := 254) (by decide) (own_s hsets 278 rfl), own_elI ev aa (j := 255) (by decide) (own_s hsets 279 rfl), trivial⟩
  obtain ⟨n, o, h1, h2, h3, _, L, rfl, ⟨rfl, N⟩, hq⟩ := rm_law l s _ hw tables_1 i0 i1 i2 i3 i4 i5 gc gs dg cl.cls s.heap s.heap.size (Nat.le_refl _) SD V SF hgs SC hcs (Old.start s) SA SH SL p e ha hc hk s m _ below hf ((Spec.applies_iff_loose hf).mp happ).1 ⟨rfl, State.Warmed39.refl s, rfl⟩ trivial
  refine ⟨n, _, h1, h2, h3, hpost _ _ _ _ _ _ ⟨Cond.after_iff.mpr rfl, Cond.after_iff.mpr (eq_i res_at (Term.int_eval (1)) rfl), trivial⟩ ⟨hq.1, hq.2.1, (hq.2.2.sift fun y hy => Or.inr (N y hy)).mono (by decide) (by decide)⟩⟩
theorem main_1_1 : Claimed_1_1 := comes_1 fun _ _ _ _ _ _ h hF => ⟨h.1, hF⟩
theorem main_1_2 : Claimed_1_2 := comes_1 fun _ _ _ _ _ _ h hF => ⟨h.2.1, hF⟩
end Jvm.Pilot.@@N@@
namespace Jvm.Pilot.@@N@@
open Jvm Jvm.ClassFile Sem Op Lib Jvm.Free Jvm.Stand Jvm.Pilot.@@N@@.Jvm.D
/-! MADE BY PROGRAM (witnessworld.py) out of the Statement's table words and the real class files: 21 classes; the members and pool entries that the words name. The judged class is class 1, her method 1. -/
namespace start1
open Jvm.ClassFile
def u (s : String) : CpInfo := .utf8 (stringToUtf16 s)
/-- a pool by its gaps: so many unusable entries, then the entry; so many at the end -/
def gap : Nat → List CpInfo → List CpInfo
  | 0, r => r
  | n + 1, r => .unusable :: gap n r
def poolList (es : List (Nat × CpInfo)) (last : Nat) : List CpInfo := es.foldr (fun e r => gap e.1 (e.2 :: r)) (gap last [])
def pool (es : List (Nat × CpInfo)) (last : Nat) : Array CpInfo := ⟨poolList es last⟩
def fileOf (pool : Array CpInfo) (this : Nat) (attrs : Array Attribute := #[]) (ms : Array MethodInfo := #[]) (fl : Nat := 33) (sup : Nat := 0) (ifs : Array Nat := #[]) (fds : Array FieldInfo := #[]) : ClassFile where
  minorVersion := 0
  majorVersion := 65
  constantPool := pool
  accessFlags := fl
  thisClass := this
  superClass := sup
  interfaces := ifs
  fields := fds
  methods := ms
  attributes := attrs
def plain (name : String) (sup : Option ClassId) : Class where
  name := name
  kind := .ordinary
  loader := none
  accessFlags := 33
  super := sup
  interfaces := #[]
  cf := none
  fields := #[]
  methods := #[]
  instanceTypes := #[]
  staticTypes := #[]
  resolved := #[]
  callSites := []
  init := .initialized
  statics := none
  mirror := none

def pool0 : Array CpInfo := pool [(5, u "<init>"), (0, u "()V"), (1, .class_ 10), (1, u "java/lang/Object")] 113

def k0c0 : Code := { maxStack := 0, maxLocals := 1, code := object_method_1_code, exceptionTable := #[], attributes := #[] }
def k0m0 : Method := { name := "<init>", desc := "()V", sig := { parameters := [], returnType := none }, accessFlags := 1, code := some k0c0 }
/-- java/lang/Object -/
def k0 : Class := { plain "java/lang/Object" none with
  accessFlags := 33
  interfaces := #[]
  cf := some (fileOf pool0 8 #[] #[{ accessFlags := 1, nameIndex := 5, descriptorIndex := 6, attributes := #[] }] 33 0 #[] #[])
  fields := #[]
  methods := #[k0m0]
  instanceTypes := #[]
  staticTypes := #[]
  resolved := Array.replicate 124 none
  statics := none }

def pool1 : Array CpInfo := pool [(2, .class_ 4), (1, u "java/lang/Object"), (0, u "<init>"), (0, u "()V"), (0, .integer 65535), (0, .integer 2147483647), (0, .methodref 10 11), (0, .class_ 12), (0, .nameAndType 13 14), (0, u "com/example/iron_satchel/ironsatchel/PercentEncodingIsEscapeAtPinLaw"), (0, u "make"), (0, u "([CI)Ljava/lang/String;"), (0, .methodref 10 16), (0, .nameAndType 17 18), (0, u "isHex"), (0, u "(C)Z"), (0, .methodref 20 21), (0, .class_ 22), (0, .nameAndType 23 24), (0, u "com/example/iron_satchel/ironsatchel/PercentEncoding"), (0, u "isEscapeAt"), (0, u "(Ljava/lang/String;I)Z"), (0, .class_ 26), (0, u "java/lang/String"), (0, .methodref 25 28), (0, .nameAndType 5 29), (0, u "([C)V"), (2, u "law"), (0, u "(IIIIII)Z")] 5

def k1m0 : Method := { name := "<init>", desc := "()V", sig := { parameters := [], returnType := none }, accessFlags := 1, code := none }
def k1c1 : Code := { maxStack := 5, maxLocals := 11, code := code, exceptionTable := #[], attributes := #[] }
def k1m1 : Method := { name := "law", desc := "(IIIIII)Z", sig := { parameters := [.int, .int, .int, .int, .int, .int], returnType := some .boolean }, accessFlags := 9, code := some k1c1 }
def k1c2 : Code := { maxStack := 7, maxLocals := 2, code := method_3_code, exceptionTable := #[], attributes := #[] }
def k1m2 : Method := { name := "make", desc := "([CI)Ljava/lang/String;", sig := { parameters := [(.array .char), .int], returnType := some (.object "java/lang/String") }, accessFlags := 10, code := some k1c2 }
def k1c3 : Code := { maxStack := 2, maxLocals := 1, code := method_4_code, exceptionTable := #[], attributes := #[] }
def k1m3 : Method := { name := "isHex", desc := "(C)Z", sig := { parameters := [.char], returnType := some .boolean }, accessFlags := 10, code := some k1c3 }
/-- com/example/iron_satchel/ironsatchel/PercentEncodingIsEscapeAtPinLaw -/
def k1 : Class := { plain "com/example/iron_satchel/ironsatchel/PercentEncodingIsEscapeAtPinLaw" (some 0) with
  accessFlags := 49
  interfaces := #[]
  cf := some (fileOf pool1 10 #[] #[{ accessFlags := 1, nameIndex := 5, descriptorIndex := 6, attributes := #[] }, { accessFlags := 9, nameIndex := 32, descriptorIndex := 33, attributes := #[] }, { accessFlags := 10, nameIndex := 13, descriptorIndex := 14, attributes := #[] }, { accessFlags := 10, nameIndex := 17, descriptorIndex := 18, attributes := #[] }] 49 2 #[] #[])
  fields := #[]
  methods := #[k1m0, k1m1, k1m2, k1m3]
  instanceTypes := #[]
  staticTypes := #[]
  resolved := Array.replicate 39 none
  statics := none }

def pool2 : Array CpInfo := pool [(1, .class_ 2), (0, u "java/io/Serializable"), (0, .class_ 4), (0, u "java/lang/Object")] 2

/-- java/io/Serializable -/
def k2 : Class := { plain "java/io/Serializable" (some 0) with
  accessFlags := 1537
  interfaces := #[]
  cf := some (fileOf pool2 1 #[] #[] 1537 3 #[] #[])
  fields := #[]
  methods := #[]
  instanceTypes := #[]
  staticTypes := #[]
  resolved := Array.replicate 7 none
  statics := none }

def pool3 : Array CpInfo := pool [(1, .class_ 2), (0, u "java/lang/Comparable"), (0, .class_ 4), (0, u "java/lang/Object")] 7

/-- java/lang/Comparable -/
def k3 : Class := { plain "java/lang/Comparable" (some 0) with
  accessFlags := 1537
  interfaces := #[]
  cf := some (fileOf pool3 1 #[] #[] 1537 3 #[] #[])
  fields := #[]
  methods := #[]
  instanceTypes := #[]
  staticTypes := #[]
  resolved := Array.replicate 12 none
  statics := none }

def pool4 : Array CpInfo := pool [(2, .class_ 4), (1, u "java/lang/CharSequence"), (42, .class_ 48), (0, u "java/lang/CharSequence$1CodePointIterator"), (10, .class_ 60), (0, u "java/lang/CharSequence$1CharIterator"), (5, .class_ 67), (0, u "java/lang/Object")] 63

/-- java/lang/CharSequence -/
def k4 : Class := { plain "java/lang/CharSequence" (some 0) with
  accessFlags := 1537
  interfaces := #[]
  cf := some (fileOf pool4 2 #[.nestMembers #[47, 59]] #[] 1537 66 #[] #[])
  fields := #[]
  methods := #[]
  instanceTypes := #[]
  staticTypes := #[]
  resolved := Array.replicate 131 none
  statics := none }

def pool5 : Array CpInfo := pool [(1, .class_ 2), (0, u "java/lang/constant/Constable"), (0, .class_ 4), (0, u "java/lang/Object")] 6

/-- java/lang/constant/Constable -/
def k5 : Class := { plain "java/lang/constant/Constable" (some 0) with
  accessFlags := 1537
  interfaces := #[]
  cf := some (fileOf pool5 1 #[] #[] 1537 3 #[] #[])
  fields := #[]
  methods := #[]
  instanceTypes := #[]
  staticTypes := #[]
  resolved := Array.replicate 11 none
  statics := none }

def pool6 : Array CpInfo := pool [(1, .class_ 2), (0, u "java/lang/constant/ConstantDesc"), (0, .class_ 4), (0, u "java/lang/Object")] 32

/-- java/lang/constant/ConstantDesc -/
def k6 : Class := { plain "java/lang/constant/ConstantDesc" (some 0) with
  accessFlags := 1537
  interfaces := #[]
  cf := some (fileOf pool6 1 #[] #[] 1537 3 #[] #[])
  fields := #[]
  methods := #[]
  instanceTypes := #[]
  staticTypes := #[]
  resolved := Array.replicate 37 none
  statics := none }

def pool7 : Array CpInfo := pool [(1, .methodref 2 3), (0, .class_ 4), (0, .nameAndType 5 6), (0, u "java/lang/Object"), (0, u "<init>"), (0, u "()V"), (2, .fieldref 10 11), (0, .class_ 12), (0, .nameAndType 13 14), (0, u "java/lang/String"), (0, u "value"), (0, u "[B"), (0, .fieldref 10 16), (0, .nameAndType 17 18), (0, u "coder"), (0, u "B"), (2, u "hash"), (0, u "I"), (2, u "hashIsZero"), (0, u "Z"), (0, .methodref 10 28), (0, .nameAndType 5 29), (0, u "([CIILjava/lang/Void;)V"), (8, .fieldref 10 39), (0, .nameAndType 40 26), (0, u "COMPACT_STRINGS"), (1, .class_ 44), (1, u "java/lang/StringUTF16"), (0, u "compress"), (1, .methodref 42 48), (0, .nameAndType 49 50), (0, u "coderFromArrayLen"), (0, u "([BI)B"), (56, .class_ 109), (1, u "java/lang/StringLatin1"), (32, u "()Z"), (34, .methodref 42 178), (0, .nameAndType 45 179), (0, u "([CII)[B"), (154, u "()I"), (0, .methodref 10 336), (0, .nameAndType 17 337), (0, u "()B"), (25, u "([BI)C"), (27, u "(II)V"), (35, u "(I)C"), (64, .methodref 10 493), (0, .nameAndType 494 142), (0, u "isLatin1"), (0, .methodref 107 496), (0, .nameAndType 497 363), (0, u "charAt"), (0, .methodref 42 496), (2, u "checkIndex"), (5, u "length"), (67, .class_ 576), (0, u "java/lang/CharSequence"), (22, u "CASE_INSENSITIVE_ORDER"), (0, u "Ljava/util/Comparator;"), (409, u "([C)V"), (42, .fieldref 1054 1055), (0, .class_ 1056), (0, .nameAndType 1057 1058), (0, u "jdk/internal/util/Preconditions"), (0, u "SIOOBE_FORMATTER"), (0, u "Ljava/util/function/BiFunction;"), (0, .methodref 1054 1060), (0, .nameAndType 501 1061), (0, u "(IILjava/util/function/BiFunction;)I"), (39, u "serialPersistentFields"), (0, u "[Ljava/io/ObjectStreamField;"), (0, .class_ 1104), (0, u "java/lang/String$CaseInsensitiveComparator"), (1, .class_ 1107), (0, u "java/io/Serializable"), (0, .class_ 1109), (0, u "java/lang/Comparable"), (0, .class_ 1111), (0, u "java/lang/constant/Constable"), (0, .class_ 1113), (0, u "java/lang/constant/ConstantDesc"), (2, u "serialVersionUID"), (0, u "J"), (3, u "REPL"), (0, u "C"), (2, u "LATIN1"), (1, u "UTF16")] 323

def k7m0 : Method := { name := "<init>", desc := "()V", sig := { parameters := [], returnType := none }, accessFlags := 1, code := none }
def k7c1 : Code := { maxStack := 5, maxLocals := 2, code := jdk_42_method_3_code, exceptionTable := #[], attributes := #[] }
def k7m1 : Method := { name := "<init>", desc := "([C)V", sig := { parameters := [(.array .char)], returnType := none }, accessFlags := 1, code := some k7c1 }
def k7c2 : Code := { maxStack := 2, maxLocals := 1, code := jdk_42_method_54_code, exceptionTable := #[], attributes := #[] }
def k7m2 : Method := { name := "length", desc := "()I", sig := { parameters := [], returnType := some .int }, accessFlags := 1, code := some k7c2 }
def k7c3 : Code := { maxStack := 2, maxLocals := 2, code := jdk_42_method_56_code, exceptionTable := #[], attributes := #[] }
def k7m3 : Method := { name := "charAt", desc := "(I)C", sig := { parameters := [.int], returnType := some .char }, accessFlags := 1, code := some k7c3 }
def k7c4 : Code := { maxStack := 4, maxLocals := 6, code := jdk_42_method_149_code, exceptionTable := #[], attributes := #[] }
def k7m4 : Method := { name := "<init>", desc := "([CIILjava/lang/Void;)V", sig := { parameters := [(.array .char), .int, .int, (.object "java/lang/Void")], returnType := none }, accessFlags := 2, code := some k7c4 }
def k7c5 : Code := { maxStack := 1, maxLocals := 1, code := jdk_42_method_152_code, exceptionTable := #[], attributes := #[] }
def k7m5 : Method := { name := "coder", desc := "()B", sig := { parameters := [], returnType := some .byte }, accessFlags := 0, code := some k7c5 }
def k7c6 : Code := { maxStack := 1, maxLocals := 1, code := jdk_42_method_154_code, exceptionTable := #[], attributes := #[] }
def k7m6 : Method := { name := "isLatin1", desc := "()Z", sig := { parameters := [], returnType := some .boolean }, accessFlags := 0, code := some k7c6 }
def k7c7 : Code := { maxStack := 3, maxLocals := 2, code := jdk_42_method_155_code, exceptionTable := #[], attributes := #[] }
def k7m7 : Method := { name := "checkIndex", desc := "(II)V", sig := { parameters := [.int, .int], returnType := none }, accessFlags := 8, code := some k7c7 }
/-- java/lang/String -/
def k7 : Class := { plain "java/lang/String" (some 0) with
  accessFlags := 49
  interfaces := #[2, 3, 4, 5, 6]
  cf := some (fileOf pool7 10 #[.nestMembers #[1103]] #[{ accessFlags := 1, nameIndex := 5, descriptorIndex := 6, attributes := #[] }, { accessFlags := 1, nameIndex := 5, descriptorIndex := 1010, attributes := #[] }, { accessFlags := 1, nameIndex := 507, descriptorIndex := 334, attributes := #[] }, { accessFlags := 1, nameIndex := 497, descriptorIndex := 427, attributes := #[] }, { accessFlags := 2, nameIndex := 5, descriptorIndex := 29, attributes := #[] }, { accessFlags := 0, nameIndex := 17, descriptorIndex := 337, attributes := #[] }, { accessFlags := 0, nameIndex := 494, descriptorIndex := 142, attributes := #[] }, { accessFlags := 8, nameIndex := 501, descriptorIndex := 391, attributes := #[] }] 49 2 #[1106, 1108, 575, 1110, 1112] #[{ accessFlags := 18, nameIndex := 13, descriptorIndex := 14, attributes := #[] }, { accessFlags := 18, nameIndex := 17, descriptorIndex := 18, attributes := #[] }, { accessFlags := 2, nameIndex := 21, descriptorIndex := 22, attributes := #[] }, { accessFlags := 2, nameIndex := 25, descriptorIndex := 26, attributes := #[] }, { accessFlags := 26, nameIndex := 1116, descriptorIndex := 1117, attributes := #[] }, { accessFlags := 24, nameIndex := 40, descriptorIndex := 26, attributes := #[] }, { accessFlags := 26, nameIndex := 1101, descriptorIndex := 1102, attributes := #[] }, { accessFlags := 26, nameIndex := 1121, descriptorIndex := 1122, attributes := #[] }, { accessFlags := 25, nameIndex := 599, descriptorIndex := 600, attributes := #[] }, { accessFlags := 24, nameIndex := 1125, descriptorIndex := 18, attributes := #[] }, { accessFlags := 24, nameIndex := 1127, descriptorIndex := 18, attributes := #[] }])
  fields := #[{ name := "value", type := (.array .byte), accessFlags := 18, slot := 0, constantValue := 0 }, { name := "coder", type := .byte, accessFlags := 18, slot := 1, constantValue := 0 }, { name := "hash", type := .int, accessFlags := 2, slot := 2, constantValue := 0 }, { name := "hashIsZero", type := .boolean, accessFlags := 2, slot := 3, constantValue := 0 }, { name := "serialVersionUID", type := .long, accessFlags := 26, slot := 0, constantValue := 0 }, { name := "COMPACT_STRINGS", type := .boolean, accessFlags := 24, slot := 1, constantValue := 0 }, { name := "serialPersistentFields", type := (.array (.object "java/io/ObjectStreamField")), accessFlags := 26, slot := 2, constantValue := 0 }, { name := "REPL", type := .char, accessFlags := 26, slot := 3, constantValue := 0 }, { name := "CASE_INSENSITIVE_ORDER", type := (.object "java/util/Comparator"), accessFlags := 25, slot := 4, constantValue := 0 }, { name := "LATIN1", type := .byte, accessFlags := 24, slot := 5, constantValue := 0 }, { name := "UTF16", type := .byte, accessFlags := 24, slot := 6, constantValue := 0 }]
  methods := #[k7m0, k7m1, k7m2, k7m3, k7m4, k7m5, k7m6, k7m7]
  instanceTypes := #[(.array .byte), .byte, .int, .boolean]
  staticTypes := #[.long, .boolean, (.array (.object "java/io/ObjectStreamField")), .char, (.object "java/util/Comparator"), .byte, .byte]
  resolved := Array.replicate 1451 none
  statics := some 0 }

def pool8 : Array CpInfo := pool [(3, .class_ 4), (0, u "java/lang/String"), (1, .class_ 8), (1, u "java/lang/Object"), (0, u "<init>"), (0, u "()V"), (0, .methodref 12 13), (0, .class_ 14), (0, .nameAndType 15 16), (0, u "java/lang/StringUTF16"), (0, u "newBytesLength"), (0, u "(I)I"), (3, .integer 1073741823), (23, .fieldref 12 45), (0, .nameAndType 46 47), (0, u "$assertionsDisabled"), (0, u "Z"), (0, .methodref 12 49), (0, .nameAndType 50 51), (0, u "length"), (0, u "([B)I"), (7, .fieldref 12 60), (0, .nameAndType 61 62), (0, u "HI_BYTE_SHIFT"), (0, u "I"), (0, .fieldref 12 64), (0, .nameAndType 65 62), (0, u "LO_BYTE_SHIFT"), (1, .methodref 12 68), (0, .nameAndType 69 70), (0, u "checkIndex"), (0, u "(I[B)V"), (0, .methodref 12 72), (0, .nameAndType 73 74), (0, u "getChar"), (0, u "([BI)C"), (32, .methodref 12 108), (0, .nameAndType 109 110), (0, u "newBytesFor"), (0, u "(I)[B"), (0, .methodref 12 112), (0, .nameAndType 113 114), (0, u "putChar"), (0, u "([BII)V"), (0, .methodref 12 116), (0, .nameAndType 117 118), (0, u "compress"), (0, u "([CI[BII)I"), (0, .methodref 12 120), (0, .nameAndType 121 122), (0, u "toBytes"), (0, u "([CII)[B"), (138, u "coderFromArrayLen"), (0, u "([BI)B"), (106, .class_ 371), (1, u "java/lang/StringUTF16$LinesSpliterator"), (20, u "charAt"), (21, .methodref 3 415), (0, .nameAndType 69 416), (0, u "(II)V"), (13, u "MAX_LENGTH"), (196, .class_ 628), (0, u "java/lang/StringUTF16$CodePointsSpliterator"), (0, .class_ 630), (0, u "java/lang/StringUTF16$CharsSpliterator")] 4

def k8m0 : Method := { name := "<init>", desc := "()V", sig := { parameters := [], returnType := none }, accessFlags := 0, code := none }
def k8c1 : Code := { maxStack := 1, maxLocals := 1, code := jdk_52_method_2_code, exceptionTable := #[], attributes := #[] }
def k8m1 : Method := { name := "newBytesFor", desc := "(I)[B", sig := { parameters := [.int], returnType := some (.array .byte) }, accessFlags := 9, code := some k8c1 }
def k8c2 : Code := { maxStack := 4, maxLocals := 1, code := jdk_52_method_3_code, exceptionTable := #[], attributes := #[] }
def k8m2 : Method := { name := "newBytesLength", desc := "(I)I", sig := { parameters := [.int], returnType := some .int }, accessFlags := 9, code := some k8c2 }
def k8c3 : Code := { maxStack := 4, maxLocals := 3, code := jdk_52_method_4_code, exceptionTable := #[], attributes := #[] }
def k8m3 : Method := { name := "putChar", desc := "([BII)V", sig := { parameters := [(.array .byte), .int, .int], returnType := none }, accessFlags := 8, code := some k8c3 }
def k8c4 : Code := { maxStack := 3, maxLocals := 2, code := jdk_52_method_5_code, exceptionTable := #[], attributes := #[] }
def k8m4 : Method := { name := "getChar", desc := "([BI)C", sig := { parameters := [(.array .byte), .int], returnType := some .char }, accessFlags := 8, code := some k8c4 }
def k8c5 : Code := { maxStack := 2, maxLocals := 1, code := jdk_52_method_6_code, exceptionTable := #[], attributes := #[] }
def k8m5 : Method := { name := "length", desc := "([B)I", sig := { parameters := [(.array .byte)], returnType := some .int }, accessFlags := 9, code := some k8c5 }
def k8c6 : Code := { maxStack := 4, maxLocals := 5, code := jdk_52_method_14_code, exceptionTable := #[], attributes := #[] }
def k8m6 : Method := { name := "toBytes", desc := "([CII)[B", sig := { parameters := [(.array .char), .int, .int], returnType := some (.array .byte) }, accessFlags := 9, code := some k8c6 }
def k8c7 : Code := { maxStack := 2, maxLocals := 2, code := jdk_52_method_15_code, exceptionTable := #[], attributes := #[] }
def k8m7 : Method := { name := "coderFromArrayLen", desc := "([BI)B", sig := { parameters := [(.array .byte), .int], returnType := some .byte }, accessFlags := 8, code := some k8c7 }
def k8c8 : Code := { maxStack := 5, maxLocals := 6, code := jdk_52_method_16_code, exceptionTable := #[], attributes := #[] }
def k8m8 : Method := { name := "compress", desc := "([CII)[B", sig := { parameters := [(.array .char), .int, .int], returnType := some (.array .byte) }, accessFlags := 9, code := some k8c8 }
def k8c9 : Code := { maxStack := 3, maxLocals := 7, code := jdk_52_method_21_code, exceptionTable := #[], attributes := #[] }
def k8m9 : Method := { name := "compress", desc := "([CI[BII)I", sig := { parameters := [(.array .char), .int, (.array .byte), .int, .int], returnType := some .int }, accessFlags := 9, code := some k8c9 }
def k8c10 : Code := { maxStack := 2, maxLocals := 2, code := jdk_52_method_83_code, exceptionTable := #[], attributes := #[] }
def k8m10 : Method := { name := "charAt", desc := "([BI)C", sig := { parameters := [(.array .byte), .int], returnType := some .char }, accessFlags := 9, code := some k8c10 }
def k8c11 : Code := { maxStack := 2, maxLocals := 2, code := jdk_52_method_91_code, exceptionTable := #[], attributes := #[] }
def k8m11 : Method := { name := "checkIndex", desc := "(I[B)V", sig := { parameters := [.int, (.array .byte)], returnType := none }, accessFlags := 9, code := some k8c11 }
/-- java/lang/StringUTF16 -/
def k8 : Class := { plain "java/lang/StringUTF16" (some 0) with
  accessFlags := 48
  interfaces := #[]
  cf := some (fileOf pool8 12 #[.nestMembers #[627, 629, 369]] #[{ accessFlags := 0, nameIndex := 9, descriptorIndex := 10, attributes := #[] }, { accessFlags := 9, nameIndex := 109, descriptorIndex := 110, attributes := #[] }, { accessFlags := 9, nameIndex := 15, descriptorIndex := 16, attributes := #[] }, { accessFlags := 8, nameIndex := 113, descriptorIndex := 114, attributes := #[] }, { accessFlags := 8, nameIndex := 73, descriptorIndex := 74, attributes := #[] }, { accessFlags := 9, nameIndex := 50, descriptorIndex := 51, attributes := #[] }, { accessFlags := 9, nameIndex := 121, descriptorIndex := 122, attributes := #[] }, { accessFlags := 8, nameIndex := 261, descriptorIndex := 262, attributes := #[] }, { accessFlags := 9, nameIndex := 117, descriptorIndex := 122, attributes := #[] }, { accessFlags := 9, nameIndex := 117, descriptorIndex := 118, attributes := #[] }, { accessFlags := 9, nameIndex := 392, descriptorIndex := 74, attributes := #[] }, { accessFlags := 9, nameIndex := 69, descriptorIndex := 70, attributes := #[] }] 48 6 #[] #[{ accessFlags := 26, nameIndex := 61, descriptorIndex := 62, attributes := #[] }, { accessFlags := 26, nameIndex := 65, descriptorIndex := 62, attributes := #[] }, { accessFlags := 24, nameIndex := 430, descriptorIndex := 62, attributes := #[] }, { accessFlags := 4120, nameIndex := 46, descriptorIndex := 47, attributes := #[] }])
  fields := #[{ name := "HI_BYTE_SHIFT", type := .int, accessFlags := 26, slot := 0, constantValue := 0 }, { name := "LO_BYTE_SHIFT", type := .int, accessFlags := 26, slot := 1, constantValue := 0 }, { name := "MAX_LENGTH", type := .int, accessFlags := 24, slot := 2, constantValue := 0 }, { name := "$assertionsDisabled", type := .boolean, accessFlags := 4120, slot := 3, constantValue := 0 }]
  methods := #[k8m0, k8m1, k8m2, k8m3, k8m4, k8m5, k8m6, k8m7, k8m8, k8m9, k8m10, k8m11]
  instanceTypes := #[]
  staticTypes := #[.int, .int, .int, .boolean]
  resolved := Array.replicate 635 none
  statics := some 1 }

def pool9 : Array CpInfo := pool [(2, .class_ 4), (1, u "java/lang/Object"), (0, u "<init>"), (0, u "()V"), (0, .methodref 8 9), (0, .class_ 10), (0, .nameAndType 11 12), (0, u "java/lang/String"), (0, u "length"), (0, u "()I"), (0, .methodref 8 14), (0, .nameAndType 15 16), (0, u "charAt"), (0, u "(I)C"), (1, .class_ 20), (1, u "com/example/iron_satchel/ironsatchel/PercentEncoding"), (0, u "isEscapeAt"), (0, u "(Ljava/lang/String;I)Z"), (10, .class_ 35), (1, u "java/util/HexFormat"), (16, .methodref 33 53), (0, .nameAndType 54 55), (0, u "isHexDigit"), (0, u "(I)Z"), (0, u "REFUSED_IN_PATHS"), (0, u "Ljava/lang/String;")] 28

def k9m0 : Method := { name := "<init>", desc := "()V", sig := { parameters := [], returnType := none }, accessFlags := 2, code := none }
def k9c1 : Code := { maxStack := 3, maxLocals := 2, code := prog_13_method_3_code, exceptionTable := #[], attributes := #[] }
def k9m1 : Method := { name := "isEscapeAt", desc := "(Ljava/lang/String;I)Z", sig := { parameters := [(.object "java/lang/String"), .int], returnType := some .boolean }, accessFlags := 8, code := some k9c1 }
/-- com/example/iron_satchel/ironsatchel/PercentEncoding -/
def k9 : Class := { plain "com/example/iron_satchel/ironsatchel/PercentEncoding" (some 0) with
  accessFlags := 33
  interfaces := #[]
  cf := some (fileOf pool9 18 #[] #[{ accessFlags := 2, nameIndex := 5, descriptorIndex := 6, attributes := #[] }, { accessFlags := 8, nameIndex := 21, descriptorIndex := 22, attributes := #[] }] 33 2 #[] #[{ accessFlags := 24, nameIndex := 56, descriptorIndex := 57, attributes := #[] }])
  fields := #[{ name := "REFUSED_IN_PATHS", type := (.object "java/lang/String"), accessFlags := 24, slot := 0, constantValue := 0 }]
  methods := #[k9m0, k9m1]
  instanceTypes := #[]
  staticTypes := #[(.object "java/lang/String")]
  resolved := Array.replicate 86 none
  statics := none }

def pool10 : Array CpInfo := pool [(1, .class_ 2), (0, u "java/lang/String"), (1, .class_ 6), (1, u "java/lang/Object"), (0, u "<init>"), (0, u "()V"), (0, .methodref 1 10), (0, .nameAndType 11 12), (0, u "checkIndex"), (0, u "(II)V"), (1, .class_ 16), (1, u "java/lang/StringLatin1"), (36, u "([BI)C"), (67, u "$assertionsDisabled"), (0, u "Z"), (98, .class_ 223), (1, u "java/lang/StringLatin1$LinesSpliterator"), (28, u "charAt"), (137, .class_ 391), (0, u "java/lang/StringLatin1$CharsSpliterator")] 3

def k10m0 : Method := { name := "<init>", desc := "()V", sig := { parameters := [], returnType := none }, accessFlags := 0, code := none }
def k10c1 : Code := { maxStack := 2, maxLocals := 2, code := jdk_43_method_2_code, exceptionTable := #[], attributes := #[] }
def k10m1 : Method := { name := "charAt", desc := "([BI)C", sig := { parameters := [(.array .byte), .int], returnType := some .char }, accessFlags := 9, code := some k10c1 }
/-- java/lang/StringLatin1 -/
def k10 : Class := { plain "java/lang/StringLatin1" (some 0) with
  accessFlags := 48
  interfaces := #[]
  cf := some (fileOf pool10 14 #[.nestMembers #[390, 221]] #[{ accessFlags := 0, nameIndex := 7, descriptorIndex := 8, attributes := #[] }, { accessFlags := 9, nameIndex := 252, descriptorIndex := 53, attributes := #[] }] 48 4 #[] #[{ accessFlags := 4120, nameIndex := 121, descriptorIndex := 122, attributes := #[] }])
  fields := #[{ name := "$assertionsDisabled", type := .boolean, accessFlags := 4120, slot := 0, constantValue := 0 }]
  methods := #[k10m0, k10m1]
  instanceTypes := #[]
  staticTypes := #[.boolean]
  resolved := Array.replicate 395 none
  statics := none }

def pool11 : Array CpInfo := pool [(2, .class_ 4), (1, u "java/lang/Object"), (0, u "<init>"), (0, u "()V"), (17, .class_ 26), (1, u "jdk/internal/util/Preconditions"), (6, u "checkIndex"), (21, .class_ 56), (0, u "jdk/internal/util/Preconditions$4"), (57, .class_ 115), (0, u "jdk/internal/util/Preconditions$1"), (7, u "SIOOBE_FORMATTER"), (0, u "Ljava/util/function/BiFunction;"), (0, .class_ 126), (0, u "jdk/internal/util/Preconditions$2"), (3, u "AIOOBE_FORMATTER"), (0, .class_ 132), (0, u "jdk/internal/util/Preconditions$3"), (3, u "IOOBE_FORMATTER"), (41, u "(IILjava/util/function/BiFunction;)I")] 15

def k11m0 : Method := { name := "<init>", desc := "()V", sig := { parameters := [], returnType := none }, accessFlags := 1, code := none }
def k11c1 : Code := { maxStack := 3, maxLocals := 3, code := jdk_41_method_11_code, exceptionTable := #[], attributes := #[] }
def k11m1 : Method := { name := "checkIndex", desc := "(IILjava/util/function/BiFunction;)I", sig := { parameters := [.int, .int, (.object "java/util/function/BiFunction")], returnType := some .int }, accessFlags := 9, code := some k11c1 }
/-- jdk/internal/util/Preconditions -/
def k11 : Class := { plain "jdk/internal/util/Preconditions" (some 0) with
  accessFlags := 33
  interfaces := #[]
  cf := some (fileOf pool11 24 #[.nestMembers #[55, 131, 125, 114]] #[{ accessFlags := 1, nameIndex := 5, descriptorIndex := 6, attributes := #[] }, { accessFlags := 9, nameIndex := 33, descriptorIndex := 178, attributes := #[] }] 33 2 #[] #[{ accessFlags := 25, nameIndex := 123, descriptorIndex := 124, attributes := #[] }, { accessFlags := 25, nameIndex := 130, descriptorIndex := 124, attributes := #[] }, { accessFlags := 25, nameIndex := 136, descriptorIndex := 124, attributes := #[] }])
  fields := #[{ name := "SIOOBE_FORMATTER", type := (.object "java/util/function/BiFunction"), accessFlags := 25, slot := 0, constantValue := 0 }, { name := "AIOOBE_FORMATTER", type := (.object "java/util/function/BiFunction"), accessFlags := 25, slot := 1, constantValue := 0 }, { name := "IOOBE_FORMATTER", type := (.object "java/util/function/BiFunction"), accessFlags := 25, slot := 2, constantValue := 0 }]
  methods := #[k11m0, k11m1]
  instanceTypes := #[]
  staticTypes := #[(.object "java/util/function/BiFunction"), (.object "java/util/function/BiFunction"), (.object "java/util/function/BiFunction")]
  resolved := Array.replicate 194 none
  statics := some 2 }

def pool12 : Array CpInfo := pool [(2, .class_ 4), (1, u "java/lang/Object"), (3, u "delimiter"), (9, .class_ 20), (1, u "java/util/HexFormat"), (0, u "Ljava/lang/String;"), (1, u "prefix"), (3, u "suffix"), (4, u "digits"), (0, u "[B"), (2, u "HEX_FORMAT"), (0, u "Ljava/util/HexFormat;"), (4, u "LOWERCASE_DIGITS"), (5, u "UPPERCASE_DIGITS"), (85, u "jla"), (0, u "Ljdk/internal/access/JavaLangAccess;"), (55, u "EMPTY_BYTES"), (29, u "$assertionsDisabled"), (0, u "Z"), (44, .fieldref 18 268), (0, .nameAndType 269 33), (0, u "DIGITS"), (127, u "isHexDigit"), (0, u "(I)Z")] 12

def k12c0 : Code := { maxStack := 2, maxLocals := 1, code := jdk_2580_method_35_code, exceptionTable := #[], attributes := #[] }
def k12m0 : Method := { name := "isHexDigit", desc := "(I)Z", sig := { parameters := [.int], returnType := some .boolean }, accessFlags := 9, code := some k12c0 }
/-- java/util/HexFormat -/
def k12 : Class := { plain "java/util/HexFormat" (some 0) with
  accessFlags := 49
  interfaces := #[]
  cf := some (fileOf pool12 18 #[] #[{ accessFlags := 9, nameIndex := 397, descriptorIndex := 398, attributes := #[] }] 49 2 #[] #[{ accessFlags := 26, nameIndex := 134, descriptorIndex := 135, attributes := #[] }, { accessFlags := 26, nameIndex := 48, descriptorIndex := 33, attributes := #[] }, { accessFlags := 26, nameIndex := 42, descriptorIndex := 33, attributes := #[] }, { accessFlags := 26, nameIndex := 269, descriptorIndex := 33, attributes := #[] }, { accessFlags := 26, nameIndex := 36, descriptorIndex := 37, attributes := #[] }, { accessFlags := 26, nameIndex := 191, descriptorIndex := 33, attributes := #[] }, { accessFlags := 18, nameIndex := 8, descriptorIndex := 21, attributes := #[] }, { accessFlags := 18, nameIndex := 23, descriptorIndex := 21, attributes := #[] }, { accessFlags := 18, nameIndex := 27, descriptorIndex := 21, attributes := #[] }, { accessFlags := 18, nameIndex := 32, descriptorIndex := 33, attributes := #[] }, { accessFlags := 4120, nameIndex := 221, descriptorIndex := 222, attributes := #[] }])
  fields := #[{ name := "jla", type := (.object "jdk/internal/access/JavaLangAccess"), accessFlags := 26, slot := 0, constantValue := 0 }, { name := "UPPERCASE_DIGITS", type := (.array .byte), accessFlags := 26, slot := 1, constantValue := 0 }, { name := "LOWERCASE_DIGITS", type := (.array .byte), accessFlags := 26, slot := 2, constantValue := 0 }, { name := "DIGITS", type := (.array .byte), accessFlags := 26, slot := 3, constantValue := 0 }, { name := "HEX_FORMAT", type := (.object "java/util/HexFormat"), accessFlags := 26, slot := 4, constantValue := 0 }, { name := "EMPTY_BYTES", type := (.array .byte), accessFlags := 26, slot := 5, constantValue := 0 }, { name := "delimiter", type := (.object "java/lang/String"), accessFlags := 18, slot := 0, constantValue := 0 }, { name := "prefix", type := (.object "java/lang/String"), accessFlags := 18, slot := 1, constantValue := 0 }, { name := "suffix", type := (.object "java/lang/String"), accessFlags := 18, slot := 2, constantValue := 0 }, { name := "digits", type := (.array .byte), accessFlags := 18, slot := 3, constantValue := 0 }, { name := "$assertionsDisabled", type := .boolean, accessFlags := 4120, slot := 6, constantValue := 0 }]
  methods := #[k12m0]
  instanceTypes := #[(.object "java/lang/String"), (.object "java/lang/String"), (.object "java/lang/String"), (.array .byte)]
  staticTypes := #[(.object "jdk/internal/access/JavaLangAccess"), (.array .byte), (.array .byte), (.array .byte), (.object "java/util/HexFormat"), (.array .byte), .boolean]
  resolved := Array.replicate 411 none
  statics := some 3 }

def pool13 : Array CpInfo := pool [(9, u "<init>"), (6, .class_ 18), (1, u "java/lang/Object"), (0, u "()V"), (1, .class_ 23), (1, u "jdk/internal/util/ArraysSupport"), (0, u "LOG2_ARRAY_LONG_INDEX_SCALE"), (0, u "I"), (2, u "U"), (0, u "Ljdk/internal/misc/Unsafe;"), (8, u "BIG_ENDIAN"), (0, u "Z"), (8, u "LOG2_BYTE_BIT_SIZE"), (4, u "LOG2_ARRAY_INT_INDEX_SCALE"), (54, u "JLA"), (0, u "Ljdk/internal/access/JavaLangAccess;"), (11, u "LOG2_ARRAY_BOOLEAN_INDEX_SCALE"), (9, u "LOG2_ARRAY_BYTE_INDEX_SCALE"), (5, u "LOG2_ARRAY_CHAR_INDEX_SCALE"), (5, u "LOG2_ARRAY_SHORT_INDEX_SCALE"), (18, u "LOG2_ARRAY_FLOAT_INDEX_SCALE"), (24, u "LOG2_ARRAY_DOUBLE_INDEX_SCALE"), (89, u "T_BOOLEAN"), (2, u "T_CHAR"), (1, u "T_FLOAT"), (1, u "T_DOUBLE"), (1, u "T_BYTE"), (1, u "T_SHORT"), (1, u "T_INT"), (1, u "T_LONG"), (1, u "SOFT_MAX_ARRAY_LENGTH")] 83

def k13m0 : Method := { name := "<init>", desc := "()V", sig := { parameters := [], returnType := none }, accessFlags := 2, code := none }
/-- jdk/internal/util/ArraysSupport -/
def k13 : Class := { plain "jdk/internal/util/ArraysSupport" (some 0) with
  accessFlags := 33
  interfaces := #[]
  cf := some (fileOf pool13 21 #[] #[{ accessFlags := 2, nameIndex := 9, descriptorIndex := 19, attributes := #[] }] 33 16 #[] #[{ accessFlags := 24, nameIndex := 28, descriptorIndex := 29, attributes := #[] }, { accessFlags := 26, nameIndex := 38, descriptorIndex := 39, attributes := #[] }, { accessFlags := 25, nameIndex := 121, descriptorIndex := 25, attributes := #[] }, { accessFlags := 25, nameIndex := 131, descriptorIndex := 25, attributes := #[] }, { accessFlags := 25, nameIndex := 137, descriptorIndex := 25, attributes := #[] }, { accessFlags := 25, nameIndex := 143, descriptorIndex := 25, attributes := #[] }, { accessFlags := 25, nameIndex := 53, descriptorIndex := 25, attributes := #[] }, { accessFlags := 25, nameIndex := 24, descriptorIndex := 25, attributes := #[] }, { accessFlags := 25, nameIndex := 162, descriptorIndex := 25, attributes := #[] }, { accessFlags := 25, nameIndex := 187, descriptorIndex := 25, attributes := #[] }, { accessFlags := 26, nameIndex := 48, descriptorIndex := 25, attributes := #[] }, { accessFlags := 25, nameIndex := 277, descriptorIndex := 25, attributes := #[] }, { accessFlags := 25, nameIndex := 280, descriptorIndex := 25, attributes := #[] }, { accessFlags := 25, nameIndex := 282, descriptorIndex := 25, attributes := #[] }, { accessFlags := 25, nameIndex := 284, descriptorIndex := 25, attributes := #[] }, { accessFlags := 25, nameIndex := 286, descriptorIndex := 25, attributes := #[] }, { accessFlags := 25, nameIndex := 288, descriptorIndex := 25, attributes := #[] }, { accessFlags := 25, nameIndex := 290, descriptorIndex := 25, attributes := #[] }, { accessFlags := 25, nameIndex := 292, descriptorIndex := 25, attributes := #[] }, { accessFlags := 26, nameIndex := 108, descriptorIndex := 109, attributes := #[] }, { accessFlags := 25, nameIndex := 294, descriptorIndex := 25, attributes := #[] }])
  fields := #[{ name := "U", type := (.object "jdk/internal/misc/Unsafe"), accessFlags := 24, slot := 0, constantValue := 0 }, { name := "BIG_ENDIAN", type := .boolean, accessFlags := 26, slot := 1, constantValue := 0 }, { name := "LOG2_ARRAY_BOOLEAN_INDEX_SCALE", type := .int, accessFlags := 25, slot := 2, constantValue := 0 }, { name := "LOG2_ARRAY_BYTE_INDEX_SCALE", type := .int, accessFlags := 25, slot := 3, constantValue := 0 }, { name := "LOG2_ARRAY_CHAR_INDEX_SCALE", type := .int, accessFlags := 25, slot := 4, constantValue := 0 }, { name := "LOG2_ARRAY_SHORT_INDEX_SCALE", type := .int, accessFlags := 25, slot := 5, constantValue := 0 }, { name := "LOG2_ARRAY_INT_INDEX_SCALE", type := .int, accessFlags := 25, slot := 6, constantValue := 0 }, { name := "LOG2_ARRAY_LONG_INDEX_SCALE", type := .int, accessFlags := 25, slot := 7, constantValue := 0 }, { name := "LOG2_ARRAY_FLOAT_INDEX_SCALE", type := .int, accessFlags := 25, slot := 8, constantValue := 0 }, { name := "LOG2_ARRAY_DOUBLE_INDEX_SCALE", type := .int, accessFlags := 25, slot := 9, constantValue := 0 }, { name := "LOG2_BYTE_BIT_SIZE", type := .int, accessFlags := 26, slot := 10, constantValue := 0 }, { name := "T_BOOLEAN", type := .int, accessFlags := 25, slot := 11, constantValue := 0 }, { name := "T_CHAR", type := .int, accessFlags := 25, slot := 12, constantValue := 0 }, { name := "T_FLOAT", type := .int, accessFlags := 25, slot := 13, constantValue := 0 }, { name := "T_DOUBLE", type := .int, accessFlags := 25, slot := 14, constantValue := 0 }, { name := "T_BYTE", type := .int, accessFlags := 25, slot := 15, constantValue := 0 }, { name := "T_SHORT", type := .int, accessFlags := 25, slot := 16, constantValue := 0 }, { name := "T_INT", type := .int, accessFlags := 25, slot := 17, constantValue := 0 }, { name := "T_LONG", type := .int, accessFlags := 25, slot := 18, constantValue := 0 }, { name := "JLA", type := (.object "jdk/internal/access/JavaLangAccess"), accessFlags := 26, slot := 19, constantValue := 0 }, { name := "SOFT_MAX_ARRAY_LENGTH", type := .int, accessFlags := 25, slot := 20, constantValue := 0 }]
  methods := #[k13m0]
  instanceTypes := #[]
  staticTypes := #[(.object "jdk/internal/misc/Unsafe"), .boolean, .int, .int, .int, .int, .int, .int, .int, .int, .int, .int, .int, .int, .int, .int, .int, .int, .int, (.object "jdk/internal/access/JavaLangAccess"), .int]
  resolved := Array.replicate 378 none
  statics := none }

def pool14 : Array CpInfo := pool [(1, u "java/lang/Cloneable"), (0, .class_ 1), (0, u "java/lang/Object"), (0, .class_ 3)] 3

/-- java/lang/Cloneable -/
def k14 : Class := { plain "java/lang/Cloneable" (some 0) with
  accessFlags := 1537
  interfaces := #[]
  cf := some (fileOf pool14 2 #[] #[] 1537 4 #[] #[])
  fields := #[]
  methods := #[]
  instanceTypes := #[]
  staticTypes := #[]
  resolved := Array.replicate 8 none
  statics := none }

/-- the primitive byte -/
def k15 : Class := { plain "byte" none with kind := .primitive 'B', accessFlags := 0x411 }
/-- [B -/
def k16 : Class := { plain "[B" (some 0) with kind := .array 15 .byte, interfaces := #[14, 2], accessFlags := 1041 }

/-- the primitive char -/
def k17 : Class := { plain "char" none with kind := .primitive 'C', accessFlags := 0x411 }
/-- [C -/
def k18 : Class := { plain "[C" (some 0) with kind := .array 17 .char, interfaces := #[14, 2], accessFlags := 1041 }

/-- the primitive int -/
def k19 : Class := { plain "int" none with kind := .primitive 'I', accessFlags := 0x411 }
/-- [I -/
def k20 : Class := { plain "[I" (some 0) with kind := .array 19 .int, interfaces := #[14, 2], accessFlags := 1041 }

def heap : Heap := #[{ cls := 7, slots := #[.long 0, .int 1, .null, .int 0, .null, .int 0, .int 0], vm := .statics 7 },
  { cls := 8, slots := #[.int 0, .int 8, .int 0, .int 1], vm := .statics 8 },
  { cls := 11, slots := #[.null, .null, .null], vm := .statics 11 },
  { cls := 12, slots := #[.null, .null, .null, .ref 4, .null, .null, .int 0], vm := .statics 12 },
  { cls := 16, slots := #[.int (-1), .int (-1), .int (-1), .int (-1), .int (-1), .int (-1), .int (-1), .int (-1), .int (-1), .int (-1), .int (-1), .int (-1), .int (-1), .int (-1), .int (-1), .int (-1), .int (-1), .int (-1), .int (-1), .int (-1), .int (-1), .int (-1), .int (-1), .int (-1), .int (-1), .int (-1), .int (-1), .int (-1), .int (-1), .int (-1), .int (-1), .int (-1), .int (-1), .int (-1), .int (-1), .int (-1), .int (-1), .int (-1), .int (-1), .int (-1), .int (-1), .int (-1), .int (-1), .int (-1), .int (-1), .int (-1), .int (-1), .int (-1), .int 0, .int 1, .int 2, .int 3, .int 4, .int 5, .int 6, .int 7, .int 8, .int 9, .int (-1), .int (-1), .int (-1), .int (-1), .int (-1), .int (-1), .int (-1), .int 10, .int 11, .int 12, .int 13, .int 14, .int 15, .int (-1), .int (-1), .int (-1), .int (-1), .int (-1), .int (-1), .int (-1), .int (-1), .int (-1), .int (-1), .int (-1), .int (-1), .int (-1), .int (-1), .int (-1), .int (-1), .int (-1), .int (-1), .int (-1), .int (-1), .int (-1), .int (-1), .int (-1), .int (-1), .int (-1), .int (-1), .int 10, .int 11, .int 12, .int 13, .int 14, .int 15, .int (-1), .int (-1), .int (-1), .int (-1), .int (-1), .int (-1), .int (-1), .int (-1), .int (-1), .int (-1), .int (-1), .int (-1), .int (-1), .int (-1), .int (-1), .int (-1), .int (-1), .int (-1), .int (-1), .int (-1), .int (-1), .int (-1), .int (-1), .int (-1), .int (-1), .int (-1), .int (-1), .int (-1), .int (-1), .int (-1), .int (-1), .int (-1), .int (-1), .int (-1), .int (-1), .int (-1), .int (-1), .int (-1), .int (-1), .int (-1), .int (-1), .int (-1), .int (-1), .int (-1), .int (-1), .int (-1), .int (-1), .int (-1), .int (-1), .int (-1), .int (-1), .int (-1), .int (-1), .int (-1), .int (-1), .int (-1), .int (-1), .int (-1), .int (-1), .int (-1), .int (-1), .int (-1), .int (-1), .int (-1), .int (-1), .int (-1), .int (-1), .int (-1), .int (-1), .int (-1), .int (-1), .int (-1), .int (-1), .int (-1), .int (-1), .int (-1), .int (-1), .int (-1), .int (-1), .int (-1), .int (-1), .int (-1), .int (-1), .int (-1), .int (-1), .int (-1), .int (-1), .int (-1), .int (-1), .int (-1), .int (-1), .int (-1), .int (-1), .int (-1), .int (-1), .int (-1), .int (-1), .int (-1), .int (-1), .int (-1), .int (-1), .int (-1), .int (-1), .int (-1), .int (-1), .int (-1), .int (-1), .int (-1), .int (-1), .int (-1), .int (-1), .int (-1), .int (-1), .int (-1), .int (-1), .int (-1), .int (-1), .int (-1), .int (-1), .int (-1), .int (-1), .int (-1), .int (-1), .int (-1), .int (-1), .int (-1), .int (-1), .int (-1), .int (-1), .int (-1), .int (-1), .int (-1), .int (-1), .int (-1), .int (-1), .int (-1), .int (-1), .int (-1), .int (-1), .int (-1), .int (-1), .int (-1), .int (-1), .int (-1), .int (-1), .int (-1), .int (-1), .int (-1), .int (-1), .int (-1), .int (-1), .int (-1), .int (-1)], vm := .none },
  { cls := 13, slots := #[], vm := .none }]
def classes : Array Class := #[k0, k1, k2, k3, k4, k5, k6, k7, k8, k9, k10, k11, k12, k13, k14, k15, k16, k17, k18, k19, k20]
def interned : List (Array UInt16 × Addr) := []
def slotsUsed : Nat := 277
def theMethod : MethodId := ⟨1, 1⟩
def args0 : Array Value := #[.int 1, .int 1, .int 1, .int 1, .int 1, .int 1]
def aboutOver (below : List Frame) : State where
  vm := { classes := classes, interned := interned.toArray }
  heap := heap
  slotsUsed := slotsUsed
  threads := #[{ frames := .invoking theMethod args0 :: below }]
def below0 : List Frame := [.native { method := ⟨0, 0⟩, args := #[] }]
def about1 : State := aboutOver below0
def p0 : Program := .bare "" "" ""
def e0 : Env := launch0.env 0 0 0
theorem w_frames : about1.frames = Frame.invoking theMethod args0 :: below0 := rfl
set_option maxRecDepth 65536 in
theorem w_args : argsFit about1.vm theMethod args0 = true := by decide +kernel
set_option maxRecDepth 65536 in
theorem w_heap : heapFits about1 = true := by decide +kernel
set_option maxRecDepth 65536 in
theorem w_runnable : about1.curStatus? = some .runnable := by decide +kernel
set_option maxRecDepth 65536 in
theorem w_alone : about1.alone = true := by decide +kernel
set_option maxRecDepth 65536 in
theorem w_named : about1.methodNamed? x = some theMethod := by decide +kernel
set_option maxRecDepth 65536 in
theorem w_hears : about1.hears theMethod below0 = true := by decide +kernel
set_option maxRecDepth 65536 in
theorem w_ripe : about1.ripe theMethod args0 below0 = true := by decide +kernel
theorem w_running : about1.status = .running := rfl
set_option maxRecDepth 65536 in
theorem w_room : about1.hasRoom e0.platform room_1 = true :=
  launch0.hasRoom_least _ room_1 (by decide +kernel) (by decide +kernel) (by decide +kernel) (by decide +kernel) (by decide +kernel) (by decide +kernel)
theorem allAtoms_all (ts : List Jvm.Cond) (a : Array Jvm.Value) (st : Jvm.State) : (allAtoms ts).before a st = ts.all (fun c => c.before a st) := by
  induction ts with
  | nil => rfl
  | cons c t ih =>
    show (Jvm.Cond.and c (allAtoms t)).before a st = _
    rw [Jvm.Cond.before_and, ih, List.all_cons]
def words1 : List Jvm.Cond := Jvm.Cond.code x code maxLocals ret :: tables_1
/-- a 'code' word, met by the world's own term for the bytes: nothing is compared byte by byte -/
theorem code_word {y : MethodName} {bytes : ByteArray} {mx : Nat} {rt : Option FieldType} {a : Array Value} {s : State} {m : MethodId} {meth : Method} {c : Code} (h1 : s.methodNamed? y = some m) (h2 : s.vm.method? m = some meth) (h3 : meth.code = some c) (h4 : c.code = bytes)
    (h5 : (c.maxLocals == mx && c.exceptionTable.isEmpty && decide (c.maxStack ≤ mostOperands) && decide (meth.sig.returnType = rt) && !meth.locks && decide (parseMethodDescriptor y.desc = some meth.sig)) = true) : (Jvm.Cond.code y bytes mx rt).before a s = true := by
  simp only [Bool.and_eq_true, beq_iff_eq, Bool.not_eq_true', decide_eq_true_eq] at h5
  obtain ⟨⟨⟨⟨⟨g1, g2⟩, g3⟩, g4⟩, g5⟩, g6⟩ := h5
  simp [Cond.before, Cond.holds, Cond.value, h1, h2, h3, h4, g1, g2, g3, g4, g5, g6]
def isCode : Jvm.Cond → Bool
  | .code _ _ _ _ => true
  | _ => false
theorem all_split {L : List Jvm.Cond} {P : Jvm.Cond → Bool} (h1 : L.all (fun c => isCode c || P c) = true) (h2 : ∀ c ∈ L.filter isCode, P c = true) : L.all P = true := by
  refine List.all_eq_true.mpr fun c hc => ?_
  have h := List.all_eq_true.mp h1 c hc
  rcases Bool.eq_false_or_eq_true (isCode c) with hi | hi
  · exact h2 c (List.mem_filter.mpr ⟨hc, hi⟩)
  · simpa [hi] using h
set_option maxRecDepth 65536 in
theorem w_c0 : (Jvm.Cond.code x code maxLocals ret).before args0 about1 = true := code_word (m := ⟨1, 1⟩) (meth := k1m1) (c := k1c1) (by decide +kernel) rfl rfl rfl (by decide +kernel)
set_option maxRecDepth 65536 in
theorem w_c1 : (Jvm.Cond.code ({ cls := "com/example/iron_satchel/ironsatchel/PercentEncodingIsEscapeAtPinLaw", name := "make", desc := "([CI)Ljava/lang/String;" } : Jvm.MethodName) method_3_code (2 : Nat) (Option.some (Jvm.ClassFile.FieldType.object "java/lang/String"))).before args0 about1 = true := code_word (m := ⟨1, 2⟩) (meth := k1m2) (c := k1c2) (by decide +kernel) rfl rfl rfl (by decide +kernel)
set_option maxRecDepth 65536 in
theorem w_c2 : (Jvm.Cond.code ({ cls := "java/lang/String", name := "<init>", desc := "([C)V" } : Jvm.MethodName) jdk_42_method_3_code (2 : Nat) (Option.none : Option Jvm.ClassFile.FieldType)).before args0 about1 = true := code_word (m := ⟨7, 1⟩) (meth := k7m1) (c := k7c1) (by decide +kernel) rfl rfl rfl (by decide +kernel)
set_option maxRecDepth 65536 in
theorem w_c3 : (Jvm.Cond.code ({ cls := "java/lang/String", name := "<init>", desc := "([CIILjava/lang/Void;)V" } : Jvm.MethodName) jdk_42_method_149_code (6 : Nat) (Option.none : Option Jvm.ClassFile.FieldType)).before args0 about1 = true := code_word (m := ⟨7, 4⟩) (meth := k7m4) (c := k7c4) (by decide +kernel) rfl rfl rfl (by decide +kernel)
set_option maxRecDepth 65536 in
theorem w_c4 : (Jvm.Cond.code ({ cls := "java/lang/Object", name := "<init>", desc := "()V" } : Jvm.MethodName) object_method_1_code (1 : Nat) (Option.none : Option Jvm.ClassFile.FieldType)).before args0 about1 = true := code_word (m := ⟨0, 0⟩) (meth := k0m0) (c := k0c0) (by decide +kernel) rfl rfl rfl (by decide +kernel)
set_option maxRecDepth 65536 in
theorem w_c5 : (Jvm.Cond.code ({ cls := "java/lang/StringUTF16", name := "compress", desc := "([CII)[B" } : Jvm.MethodName) jdk_52_method_16_code (6 : Nat) (Option.some (Jvm.ClassFile.FieldType.array Jvm.ClassFile.FieldType.byte))).before args0 about1 = true := code_word (m := ⟨8, 8⟩) (meth := k8m8) (c := k8c8) (by decide +kernel) rfl rfl rfl (by decide +kernel)
set_option maxRecDepth 65536 in
theorem w_c6 : (Jvm.Cond.code ({ cls := "java/lang/StringUTF16", name := "compress", desc := "([CI[BII)I" } : Jvm.MethodName) jdk_52_method_21_code (7 : Nat) (Option.some Jvm.ClassFile.FieldType.int)).before args0 about1 = true := code_word (m := ⟨8, 9⟩) (meth := k8m9) (c := k8c9) (by decide +kernel) rfl rfl rfl (by decide +kernel)
set_option maxRecDepth 65536 in
theorem w_c7 : (Jvm.Cond.code ({ cls := "java/lang/StringUTF16", name := "coderFromArrayLen", desc := "([BI)B" } : Jvm.MethodName) jdk_52_method_15_code (2 : Nat) (Option.some Jvm.ClassFile.FieldType.byte)).before args0 about1 = true := code_word (m := ⟨8, 7⟩) (meth := k8m7) (c := k8c7) (by decide +kernel) rfl rfl rfl (by decide +kernel)
set_option maxRecDepth 65536 in
theorem w_c8 : (Jvm.Cond.code ({ cls := "com/example/iron_satchel/ironsatchel/PercentEncoding", name := "isEscapeAt", desc := "(Ljava/lang/String;I)Z" } : Jvm.MethodName) prog_13_method_3_code (2 : Nat) (Option.some Jvm.ClassFile.FieldType.boolean)).before args0 about1 = true := code_word (m := ⟨9, 1⟩) (meth := k9m1) (c := k9c1) (by decide +kernel) rfl rfl rfl (by decide +kernel)
set_option maxRecDepth 65536 in
theorem w_c9 : (Jvm.Cond.code ({ cls := "java/lang/String", name := "charAt", desc := "(I)C" } : Jvm.MethodName) jdk_42_method_56_code (2 : Nat) (Option.some Jvm.ClassFile.FieldType.char)).before args0 about1 = true := code_word (m := ⟨7, 3⟩) (meth := k7m3) (c := k7c3) (by decide +kernel) rfl rfl rfl (by decide +kernel)
set_option maxRecDepth 65536 in
theorem w_c10 : (Jvm.Cond.code ({ cls := "java/lang/String", name := "isLatin1", desc := "()Z" } : Jvm.MethodName) jdk_42_method_154_code (1 : Nat) (Option.some Jvm.ClassFile.FieldType.boolean)).before args0 about1 = true := code_word (m := ⟨7, 6⟩) (meth := k7m6) (c := k7c6) (by decide +kernel) rfl rfl rfl (by decide +kernel)
set_option maxRecDepth 65536 in
theorem w_c11 : (Jvm.Cond.code ({ cls := "java/lang/StringLatin1", name := "charAt", desc := "([BI)C" } : Jvm.MethodName) jdk_43_method_2_code (2 : Nat) (Option.some Jvm.ClassFile.FieldType.char)).before args0 about1 = true := code_word (m := ⟨10, 1⟩) (meth := k10m1) (c := k10c1) (by decide +kernel) rfl rfl rfl (by decide +kernel)
set_option maxRecDepth 65536 in
theorem w_c12 : (Jvm.Cond.code ({ cls := "java/lang/String", name := "checkIndex", desc := "(II)V" } : Jvm.MethodName) jdk_42_method_155_code (2 : Nat) (Option.none : Option Jvm.ClassFile.FieldType)).before args0 about1 = true := code_word (m := ⟨7, 7⟩) (meth := k7m7) (c := k7c7) (by decide +kernel) rfl rfl rfl (by decide +kernel)
set_option maxRecDepth 65536 in
theorem w_c13 : (Jvm.Cond.code ({ cls := "jdk/internal/util/Preconditions", name := "checkIndex", desc := "(IILjava/util/function/BiFunction;)I" } : Jvm.MethodName) jdk_41_method_11_code (3 : Nat) (Option.some Jvm.ClassFile.FieldType.int)).before args0 about1 = true := code_word (m := ⟨11, 1⟩) (meth := k11m1) (c := k11c1) (by decide +kernel) rfl rfl rfl (by decide +kernel)
set_option maxRecDepth 65536 in
theorem w_c14 : (Jvm.Cond.code ({ cls := "java/lang/StringUTF16", name := "toBytes", desc := "([CII)[B" } : Jvm.MethodName) jdk_52_method_14_code (5 : Nat) (Option.some (Jvm.ClassFile.FieldType.array Jvm.ClassFile.FieldType.byte))).before args0 about1 = true := code_word (m := ⟨8, 6⟩) (meth := k8m6) (c := k8c6) (by decide +kernel) rfl rfl rfl (by decide +kernel)
set_option maxRecDepth 65536 in
theorem w_c15 : (Jvm.Cond.code ({ cls := "java/lang/StringUTF16", name := "newBytesFor", desc := "(I)[B" } : Jvm.MethodName) jdk_52_method_2_code (1 : Nat) (Option.some (Jvm.ClassFile.FieldType.array Jvm.ClassFile.FieldType.byte))).before args0 about1 = true := code_word (m := ⟨8, 1⟩) (meth := k8m1) (c := k8c1) (by decide +kernel) rfl rfl rfl (by decide +kernel)
set_option maxRecDepth 65536 in
theorem w_c16 : (Jvm.Cond.code ({ cls := "java/lang/StringUTF16", name := "newBytesLength", desc := "(I)I" } : Jvm.MethodName) jdk_52_method_3_code (1 : Nat) (Option.some Jvm.ClassFile.FieldType.int)).before args0 about1 = true := code_word (m := ⟨8, 2⟩) (meth := k8m2) (c := k8c2) (by decide +kernel) rfl rfl rfl (by decide +kernel)
set_option maxRecDepth 65536 in
theorem w_c17 : (Jvm.Cond.code ({ cls := "java/lang/StringUTF16", name := "putChar", desc := "([BII)V" } : Jvm.MethodName) jdk_52_method_4_code (3 : Nat) (Option.none : Option Jvm.ClassFile.FieldType)).before args0 about1 = true := code_word (m := ⟨8, 3⟩) (meth := k8m3) (c := k8c3) (by decide +kernel) rfl rfl rfl (by decide +kernel)
set_option maxRecDepth 65536 in
theorem w_c18 : (Jvm.Cond.code ({ cls := "java/lang/StringUTF16", name := "getChar", desc := "([BI)C" } : Jvm.MethodName) jdk_52_method_5_code (2 : Nat) (Option.some Jvm.ClassFile.FieldType.char)).before args0 about1 = true := code_word (m := ⟨8, 4⟩) (meth := k8m4) (c := k8c4) (by decide +kernel) rfl rfl rfl (by decide +kernel)
set_option maxRecDepth 65536 in
theorem w_c19 : (Jvm.Cond.code ({ cls := "java/lang/StringUTF16", name := "charAt", desc := "([BI)C" } : Jvm.MethodName) jdk_52_method_83_code (2 : Nat) (Option.some Jvm.ClassFile.FieldType.char)).before args0 about1 = true := code_word (m := ⟨8, 10⟩) (meth := k8m10) (c := k8c10) (by decide +kernel) rfl rfl rfl (by decide +kernel)
set_option maxRecDepth 65536 in
theorem w_c20 : (Jvm.Cond.code ({ cls := "java/lang/StringUTF16", name := "checkIndex", desc := "(I[B)V" } : Jvm.MethodName) jdk_52_method_91_code (2 : Nat) (Option.none : Option Jvm.ClassFile.FieldType)).before args0 about1 = true := code_word (m := ⟨8, 11⟩) (meth := k8m11) (c := k8c11) (by decide +kernel) rfl rfl rfl (by decide +kernel)
set_option maxRecDepth 65536 in
theorem w_c21 : (Jvm.Cond.code ({ cls := "java/lang/StringUTF16", name := "length", desc := "([B)I" } : Jvm.MethodName) jdk_52_method_6_code (1 : Nat) (Option.some Jvm.ClassFile.FieldType.int)).before args0 about1 = true := code_word (m := ⟨8, 5⟩) (meth := k8m5) (c := k8c5) (by decide +kernel) rfl rfl rfl (by decide +kernel)
set_option maxRecDepth 65536 in
theorem w_c22 : (Jvm.Cond.code ({ cls := "java/lang/String", name := "length", desc := "()I" } : Jvm.MethodName) jdk_42_method_54_code (1 : Nat) (Option.some Jvm.ClassFile.FieldType.int)).before args0 about1 = true := code_word (m := ⟨7, 2⟩) (meth := k7m2) (c := k7c2) (by decide +kernel) rfl rfl rfl (by decide +kernel)
set_option maxRecDepth 65536 in
theorem w_c23 : (Jvm.Cond.code ({ cls := "java/lang/String", name := "coder", desc := "()B" } : Jvm.MethodName) jdk_42_method_152_code (1 : Nat) (Option.some Jvm.ClassFile.FieldType.byte)).before args0 about1 = true := code_word (m := ⟨7, 5⟩) (meth := k7m5) (c := k7c5) (by decide +kernel) rfl rfl rfl (by decide +kernel)
set_option maxRecDepth 65536 in
theorem w_c24 : (Jvm.Cond.code ({ cls := "com/example/iron_satchel/ironsatchel/PercentEncodingIsEscapeAtPinLaw", name := "isHex", desc := "(C)Z" } : Jvm.MethodName) method_4_code (1 : Nat) (Option.some Jvm.ClassFile.FieldType.boolean)).before args0 about1 = true := code_word (m := ⟨1, 3⟩) (meth := k1m3) (c := k1c3) (by decide +kernel) rfl rfl rfl (by decide +kernel)
set_option maxRecDepth 65536 in
theorem w_c25 : (Jvm.Cond.code ({ cls := "java/util/HexFormat", name := "isHexDigit", desc := "(I)Z" } : Jvm.MethodName) jdk_2580_method_35_code (1 : Nat) (Option.some Jvm.ClassFile.FieldType.boolean)).before args0 about1 = true := code_word (m := ⟨12, 0⟩) (meth := k12m0) (c := k12c0) (by decide +kernel) rfl rfl rfl (by decide +kernel)
def codes1 : List Jvm.Cond := [Jvm.Cond.code x code maxLocals ret, Jvm.Cond.code ({ cls := "com/example/iron_satchel/ironsatchel/PercentEncodingIsEscapeAtPinLaw", name := "make", desc := "([CI)Ljava/lang/String;" } : Jvm.MethodName) method_3_code (2 : Nat) (Option.some (Jvm.ClassFile.FieldType.object "java/lang/String")), Jvm.Cond.code ({ cls := "java/lang/String", name := "<init>", desc := "([C)V" } : Jvm.MethodName) jdk_42_method_3_code (2 : Nat) (Option.none : Option Jvm.ClassFile.FieldType), Jvm.Cond.code ({ cls := "java/lang/String", name := "<init>", desc := "([CIILjava/lang/Void;)V" } : Jvm.MethodName) jdk_42_method_149_code (6 : Nat) (Option.none : Option Jvm.ClassFile.FieldType), Jvm.Cond.code ({ cls := "java/lang/Object", name := "<init>", desc := "()V" } : Jvm.MethodName) object_method_1_code (1 : Nat) (Option.none : Option Jvm.ClassFile.FieldType), Jvm.Cond.code ({ cls := "java/lang/StringUTF16", name := "compress", desc := "([CII)[B" } : Jvm.MethodName) jdk_52_method_16_code (6 : Nat) (Option.some (Jvm.ClassFile.FieldType.array Jvm.ClassFile.FieldType.byte)), Jvm.Cond.code ({ cls := "java/lang/StringUTF16", name := "compress", desc := "([CI[BII)I" } : Jvm.MethodName) jdk_52_method_21_code (7 : Nat) (Option.some Jvm.ClassFile.FieldType.int), Jvm.Cond.code ({ cls := "java/lang/StringUTF16", name := "coderFromArrayLen", desc := "([BI)B" } : Jvm.MethodName) jdk_52_method_15_code (2 : Nat) (Option.some Jvm.ClassFile.FieldType.byte), Jvm.Cond.code ({ cls := "com/example/iron_satchel/ironsatchel/PercentEncoding", name := "isEscapeAt", desc := "(Ljava/lang/String;I)Z" } : Jvm.MethodName) prog_13_method_3_code (2 : Nat) (Option.some Jvm.ClassFile.FieldType.boolean), Jvm.Cond.code ({ cls := "java/lang/String", name := "charAt", desc := "(I)C" } : Jvm.MethodName) jdk_42_method_56_code (2 : Nat) (Option.some Jvm.ClassFile.FieldType.char), Jvm.Cond.code ({ cls := "java/lang/String", name := "isLatin1", desc := "()Z" } : Jvm.MethodName) jdk_42_method_154_code (1 : Nat) (Option.some Jvm.ClassFile.FieldType.boolean), Jvm.Cond.code ({ cls := "java/lang/StringLatin1", name := "charAt", desc := "([BI)C" } : Jvm.MethodName) jdk_43_method_2_code (2 : Nat) (Option.some Jvm.ClassFile.FieldType.char), Jvm.Cond.code ({ cls := "java/lang/String", name := "checkIndex", desc := "(II)V" } : Jvm.MethodName) jdk_42_method_155_code (2 : Nat) (Option.none : Option Jvm.ClassFile.FieldType), Jvm.Cond.code ({ cls := "jdk/internal/util/Preconditions", name := "checkIndex", desc := "(IILjava/util/function/BiFunction;)I" } : Jvm.MethodName) jdk_41_method_11_code (3 : Nat) (Option.some Jvm.ClassFile.FieldType.int), Jvm.Cond.code ({ cls := "java/lang/StringUTF16", name := "toBytes", desc := "([CII)[B" } : Jvm.MethodName) jdk_52_method_14_code (5 : Nat) (Option.some (Jvm.ClassFile.FieldType.array Jvm.ClassFile.FieldType.byte)), Jvm.Cond.code ({ cls := "java/lang/StringUTF16", name := "newBytesFor", desc := "(I)[B" } : Jvm.MethodName) jdk_52_method_2_code (1 : Nat) (Option.some (Jvm.ClassFile.FieldType.array Jvm.ClassFile.FieldType.byte)), Jvm.Cond.code ({ cls := "java/lang/StringUTF16", name := "newBytesLength", desc := "(I)I" } : Jvm.MethodName) jdk_52_method_3_code (1 : Nat) (Option.some Jvm.ClassFile.FieldType.int), Jvm.Cond.code ({ cls := "java/lang/StringUTF16", name := "putChar", desc := "([BII)V" } : Jvm.MethodName) jdk_52_method_4_code (3 : Nat) (Option.none : Option Jvm.ClassFile.FieldType), Jvm.Cond.code ({ cls := "java/lang/StringUTF16", name := "getChar", desc := "([BI)C" } : Jvm.MethodName) jdk_52_method_5_code (2 : Nat) (Option.some Jvm.ClassFile.FieldType.char), Jvm.Cond.code ({ cls := "java/lang/StringUTF16", name := "charAt", desc := "([BI)C" } : Jvm.MethodName) jdk_52_method_83_code (2 : Nat) (Option.some Jvm.ClassFile.FieldType.char), Jvm.Cond.code ({ cls := "java/lang/StringUTF16", name := "checkIndex", desc := "(I[B)V" } : Jvm.MethodName) jdk_52_method_91_code (2 : Nat) (Option.none : Option Jvm.ClassFile.FieldType), Jvm.Cond.code ({ cls := "java/lang/StringUTF16", name := "length", desc := "([B)I" } : Jvm.MethodName) jdk_52_method_6_code (1 : Nat) (Option.some Jvm.ClassFile.FieldType.int), Jvm.Cond.code ({ cls := "java/lang/String", name := "length", desc := "()I" } : Jvm.MethodName) jdk_42_method_54_code (1 : Nat) (Option.some Jvm.ClassFile.FieldType.int), Jvm.Cond.code ({ cls := "java/lang/String", name := "coder", desc := "()B" } : Jvm.MethodName) jdk_42_method_152_code (1 : Nat) (Option.some Jvm.ClassFile.FieldType.byte), Jvm.Cond.code ({ cls := "com/example/iron_satchel/ironsatchel/PercentEncodingIsEscapeAtPinLaw", name := "isHex", desc := "(C)Z" } : Jvm.MethodName) method_4_code (1 : Nat) (Option.some Jvm.ClassFile.FieldType.boolean), Jvm.Cond.code ({ cls := "java/util/HexFormat", name := "isHexDigit", desc := "(I)Z" } : Jvm.MethodName) jdk_2580_method_35_code (1 : Nat) (Option.some Jvm.ClassFile.FieldType.boolean)]
set_option maxRecDepth 65536 in
theorem codes_eq : words1.filter isCode = codes1 := rfl
theorem w_codes : ∀ c ∈ words1.filter isCode, c.before args0 about1 = true := by
  rw [codes_eq]
  intro c hc
  simp only [codes1, List.mem_cons, List.not_mem_nil, or_false] at hc
  rcases hc with rfl | rfl | rfl | rfl | rfl | rfl | rfl | rfl | rfl | rfl | rfl | rfl | rfl | rfl | rfl | rfl | rfl | rfl | rfl | rfl | rfl | rfl | rfl | rfl | rfl | rfl
  · exact w_c0
  · exact w_c1
  · exact w_c2
  · exact w_c3
  · exact w_c4
  · exact w_c5
  · exact w_c6
  · exact w_c7
  · exact w_c8
  · exact w_c9
  · exact w_c10
  · exact w_c11
  · exact w_c12
  · exact w_c13
  · exact w_c14
  · exact w_c15
  · exact w_c16
  · exact w_c17
  · exact w_c18
  · exact w_c19
  · exact w_c20
  · exact w_c21
  · exact w_c22
  · exact w_c23
  · exact w_c24
  · exact w_c25
set_option maxRecDepth 65536 in
theorem w_t1 : (words1.take 24).all (fun c => isCode c || c.before args0 about1) = true := by decide +kernel
set_option maxRecDepth 65536 in
theorem w_t2 : ((words1.drop 24).take 24).all (fun c => isCode c || c.before args0 about1) = true := by decide +kernel
set_option maxRecDepth 65536 in
theorem w_t3 : (((words1.drop 24).drop 24).take 24).all (fun c => isCode c || c.before args0 about1) = true := by decide +kernel
set_option maxRecDepth 65536 in
theorem w_t4 : ((((words1.drop 24).drop 24).drop 24).take 24).all (fun c => isCode c || c.before args0 about1) = true := by decide +kernel
set_option maxRecDepth 65536 in
theorem w_t5 : ((((words1.drop 24).drop 24).drop 24).drop 24).all (fun c => isCode c || c.before args0 about1) = true := by decide +kernel
theorem w_tables : (allAtoms (Jvm.Cond.code x code maxLocals ret :: tables_1)).before args0 about1 = true := by
  rw [allAtoms_all]
  show words1.all (fun c => c.before args0 about1) = true
  refine all_split ?_ w_codes
  rw [← List.take_append_drop 24 words1, List.all_append, w_t1, ← List.take_append_drop 24 (words1.drop 24), List.all_append, w_t2, ← List.take_append_drop 24 ((words1.drop 24).drop 24), List.all_append, w_t3, ← List.take_append_drop 24 (((words1.drop 24).drop 24).drop 24), List.all_append, w_t4, w_t5]
  rfl
set_option maxRecDepth 65536 in
theorem w_rest : rest_1_c.before args0 about1 = true := by decide +kernel
set_option maxRecDepth 65536 in
theorem w_case : (Jvm.Cond.and given_1 narrow_1).before args0 about1 = true := by decide +kernel
theorem w_applies : (headSpec (Jvm.Cond.code x code maxLocals ret :: tables_1) room_1).applies x e0.platform about1 = true :=
  (Spec.applies_iff w_frames).mpr ⟨w_running, w_runnable, w_alone, w_named, w_hears, w_ripe, w_room, w_tables⟩
theorem atStart : AtStart classFile x code maxLocals ret World_1 tables_1 room_1 Calls_1 rest_1 Pre_1 launch0 p0 e0 about1 theMethod args0 below0 :=
  ⟨lists_1, trivial, launch0.admits_env _ _ _, launch0.least_env, fairChoices_fair.cas, fairChoices_fair.clock, w_frames, w_args, w_heap, w_applies, trivial, w_rest, w_case⟩
end start1
theorem witness_1 : WitnessClaimed_1 := ⟨start1.p0, start1.e0, start1.about1, start1.theMethod, start1.args0, start1.below0, start1.atStart⟩
end Jvm.Pilot.@@N@@
