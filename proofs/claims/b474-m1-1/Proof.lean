import JvmDerived
import JvmDerived.Pilot.@@N@@Statement
import JvmDerived.Pilot.@@N@@Code
set_option linter.unusedVariables false
set_option linter.unusedSimpArgs false
namespace Jvm.Pilot.@@N@@
open Jvm Jvm.ClassFile Sem Op Lib Jvm.Free Jvm.Stand Jvm.LawKit Jvm.RoadKit Bundle Jvm.Pilot.@@N@@.Jvm.D
section OwnKit
variable {p : Program} {l : Launch} {e : Env} {R : Room} {s : State} {m : MethodId} {args : Array Value} {below : List Frame} {meth : Method} {c : Code} {T : State} {locs : List Loc} {cells slots : Nat} {Z : State} {h : Heap}
def own_Post (Q : Option Value → Heap → List Loc → Prop) (k n : Nat) (below : List Frame) (U : State) (t : State) (o : Outcome) : Prop :=
  t.status = .running ∧ Ended t below o ∧ ∃ v L, o = .returned v ∧ Q v t.heap L ∧ FrameEnd U o t L k n
def own_Fin (tb : Tables) (e : Env) (below : List Frame) (P : State → Outcome → Prop) (t0 : State) : Prop := ∃ t o, Steps tb e below t0 t ∧ P t o
theorem own_go {tb : Tables} {P : State → Outcome → Prop} {t0 t1 : State} (st : ∀ t, Steps tb e below t1 t → Steps tb e below t0 t) (q : own_Fin tb e below P t1) : own_Fin tb e below P t0 := by
  obtain ⟨t, o, h1, h2⟩ := q
  exact ⟨t, o, st _ h1, h2⟩
theorem own_retI {x : MethodName} {S : Spec} {code : ByteArray} {mx : Nat} {rt : Option FieldType} {s₁ : State} {Q : Option Value → Heap → List Loc → Prop} {kc kn : Nat} (X : Stand p l e R s m args below meth c T locs cells slots) (hx : p.tables.exec = Jvm.exec) (Bd : BodyLoose p l x S code mx rt e s m args below meth c s₁) {pc : Nat} {Ls : Array Slot} {z : Int32} {t : FieldType} {rest : List Value} (hret : meth.sig.returnType = some t) (hn : narrow t (.int z) = .int z)
    (ht : t = .int ∨ t = .boolean ∨ t = .byte ∨ t = .char ∨ t = .short) (hd : decode c.code pc = .ok (.ireturn, 1)) (hQ : Q (some (.int z)) T.heap locs) (hc : cells ≤ kc) (hs : slots ≤ kn) : own_Fin p.tables e below (own_Post Q kc kn below s) (T.setTop (mkF m pc Ls (.int z :: rest))) := by
  obtain ⟨fs, hr, hrun, hended, hW, hsame⟩ := X.leave (v := some (.int z)) (fun h => by rw [hret] at h; cases h) Bd.notSynchronized
  exact ⟨_, _, retOut X hx hret hn (Or.inl ⟨rfl, ht, z, rfl⟩) hd hr, hrun, hended, _, _, rfl, hQ, ⟨_, rfl⟩, hW, hsame.mono hc hs⟩
theorem own_retJ {x : MethodName} {S : Spec} {code : ByteArray} {mx : Nat} {rt : Option FieldType} {s₁ : State} {Q : Option Value → Heap → List Loc → Prop} {kc kn : Nat} (X : Stand p l e R s m args below meth c T locs cells slots) (hx : p.tables.exec = Jvm.exec) (Bd : BodyLoose p l x S code mx rt e s m args below meth c s₁) {pc : Nat} {Ls : Array Slot} {z : Int64} {rest : List Value} (hret : meth.sig.returnType = some .long)
    (hd : decode c.code pc = .ok (.lreturn, 1)) (hQ : Q (some (.long z)) T.heap locs) (hc : cells ≤ kc) (hs : slots ≤ kn) : own_Fin p.tables e below (own_Post Q kc kn below s) (T.setTop (mkF m pc Ls (.long z :: rest))) := by
  obtain ⟨fs, hr, hrun, hended, hW, hsame⟩ := X.leave (v := some (.long z)) (fun h => by rw [hret] at h; cases h) Bd.notSynchronized
  exact ⟨_, _, retOut X hx hret rfl (Or.inr (Or.inl ⟨rfl, rfl, z, rfl⟩)) hd hr, hrun, hended, _, _, rfl, hQ, ⟨_, rfl⟩, hW, hsame.mono hc hs⟩
theorem own_retA {x : MethodName} {S : Spec} {code : ByteArray} {mx : Nat} {rt : Option FieldType} {s₁ : State} {Q : Option Value → Heap → List Loc → Prop} {kc kn : Nat} (X : Stand p l e R s m args below meth c T locs cells slots) (hx : p.tables.exec = Jvm.exec) (Bd : BodyLoose p l x S code mx rt e s m args below meth c s₁) {pc : Nat} {Ls : Array Slot} {w : Value} {t : FieldType} {rest : List Value} (hret : meth.sig.returnType = some t) (ht : t.isReference = true) (hw : w.isRef = true) (hn : narrow t w = w)
    (hd : decode c.code pc = .ok (.areturn, 1)) (hQ : Q (some w) T.heap locs) (hc : cells ≤ kc) (hs : slots ≤ kn) : own_Fin p.tables e below (own_Post Q kc kn below s) (T.setTop (mkF m pc Ls (w :: rest))) := by
  obtain ⟨fs, hr, hrun, hended, hW, hsame⟩ := X.leave (v := some w) (fun h => by rw [hret] at h; cases h) Bd.notSynchronized
  exact ⟨_, _, retOut X hx hret hn (Or.inr (Or.inr (Or.inr (Or.inr ⟨rfl, ht, hw⟩)))) hd hr, hrun, hended, _, _, rfl, hQ, ⟨_, rfl⟩, hW, hsame.mono hc hs⟩
theorem own_ret0 {x : MethodName} {S : Spec} {code : ByteArray} {mx : Nat} {s₁ : State} {Q : Option Value → Heap → List Loc → Prop} {kc kn : Nat} (X : Stand p l e R s m args below meth c T locs cells slots) (hx : p.tables.exec = Jvm.exec) (Bd : BodyLoose p l x S code mx none e s m args below meth c s₁) {pc : Nat} {Ls : Array Slot}
    (hd : decode c.code pc = .ok (.return_, 1)) (hQ : Q none T.heap locs) (hc : cells ≤ kc) (hs : slots ≤ kn) : own_Fin p.tables e below (own_Post Q kc kn below s) (T.setTop (mkF m pc Ls [])) := by
  obtain ⟨fs, hr, hrun, hended, hW, hsame⟩ := X.leave (v := none) (fun _ => rfl) Bd.notSynchronized
  exact ⟨_, _, X.returnOut hx Bd.returns hd hr, hrun, hended, _, _, rfl, hQ, ⟨_, rfl⟩, hW, hsame.mono hc hs⟩
theorem own_alen {a : Addr} {k : ClassId} {ty : FieldType} {n : Int32} {vs : List Value} {d : Value} (X : Stand p l e R s m args below meth c T locs cells slots) (hx : p.tables.exec = Jvm.exec) (hZ : Z.Warmed39 s.vm) (eT : T.heap = h) (V : Arv Z h a k ty n vs d) {g : JFrame} (hg : g.method = m) {rest : List Value} (hs : g.stack = .ref a :: rest) (hd : decode c.code g.pc = .ok (.arraylength, 1)) (target : State)
    (q : Steps p.tables e below (T.setTop { g with pc := g.pc + 1, stack := .int n :: rest }) target) : Steps p.tables e below (T.setTop g) target := by
  obtain ⟨cl, A, -, S, M, -, -⟩ := V
  refine X.arraylength hx (by rw [eT]; exact A.1) (State.isArrayOf_alike hZ.alike A.2.1) hg hs hd _ ?_
  rw [len_of S M]; exact q
theorem own_laload {a : Addr} {k : ClassId} {n : Int32} {vs : List Value} {d : Value} (X : Stand p l e R s m args below meth c T locs cells slots) (hx : p.tables.exec = Jvm.exec) (hZ : Z.Warmed39 s.vm) (eT : T.heap = h) (V : Arv Z h a k .long n vs d) {j : Int32} (hj : ¬ j < 0 ∧ j < n) {v : Value} (hv : vs.getD j.toNatClampNeg d = v) {g : JFrame} (hg : g.method = m) {rest : List Value} (hs : g.stack = .int j :: .ref a :: rest) (hd : decode c.code g.pc = .ok (.laload, 1)) (target : State)
    (q : Steps p.tables e below (T.setTop { g with pc := g.pc + 1, stack := v :: rest }) target) : Steps p.tables e below (T.setTop g) target := by
  obtain ⟨cl, A, -, S, M, H, -⟩ := V
  exact X.laload hx (by rw [eT]; exact A.1) (State.isArrayOf_alike hZ.alike A.2.1) A.2.2 (inb_of S hj) (Has.at H (inb_of S hj) hv) hg hs hd _ q
theorem own_iaload {a : Addr} {k : ClassId} {n : Int32} {vs : List Value} {d : Value} (X : Stand p l e R s m args below meth c T locs cells slots) (hx : p.tables.exec = Jvm.exec) (hZ : Z.Warmed39 s.vm) (eT : T.heap = h) (V : Arv Z h a k .int n vs d) {j : Int32} (hj : ¬ j < 0 ∧ j < n) {v : Value} (hv : vs.getD j.toNatClampNeg d = v) {g : JFrame} (hg : g.method = m) {rest : List Value} (hs : g.stack = .int j :: .ref a :: rest) (hd : decode c.code g.pc = .ok (.iaload, 1)) (target : State)
    (q : Steps p.tables e below (T.setTop { g with pc := g.pc + 1, stack := v :: rest }) target) : Steps p.tables e below (T.setTop g) target := by
  obtain ⟨cl, A, -, S, M, H, -⟩ := V
  exact X.iaload hx (by rw [eT]; exact A.1) (State.isArrayOf_alike hZ.alike A.2.1) A.2.2 (inb_of S hj) (Has.at H (inb_of S hj) hv) hg hs hd _ q
theorem own_caload {a : Addr} {k : ClassId} {n : Int32} {vs : List Value} {d : Value} (X : Stand p l e R s m args below meth c T locs cells slots) (hx : p.tables.exec = Jvm.exec) (hZ : Z.Warmed39 s.vm) (eT : T.heap = h) (V : Arv Z h a k .char n vs d) {j : Int32} (hj : ¬ j < 0 ∧ j < n) {v : Value} (hv : vs.getD j.toNatClampNeg d = v) {g : JFrame} (hg : g.method = m) {rest : List Value} (hs : g.stack = .int j :: .ref a :: rest) (hd : decode c.code g.pc = .ok (.caload, 1)) (target : State)
    (q : Steps p.tables e below (T.setTop { g with pc := g.pc + 1, stack := v :: rest }) target) : Steps p.tables e below (T.setTop g) target := by
  obtain ⟨cl, A, -, S, M, H, -⟩ := V
  exact X.caload hx (by rw [eT]; exact A.1) (State.isArrayOf_alike hZ.alike A.2.1) A.2.2 (inb_of S hj) (Has.at H (inb_of S hj) hv) hg hs hd _ q
theorem own_baload {a : Addr} {k : ClassId} {n : Int32} {vs : List Value} {d : Value} (X : Stand p l e R s m args below meth c T locs cells slots) (hx : p.tables.exec = Jvm.exec) (hZ : Z.Warmed39 s.vm) (eT : T.heap = h) (V : Arv Z h a k .byte n vs d) {j : Int32} (hj : ¬ j < 0 ∧ j < n) {v : Value} (hv : vs.getD j.toNatClampNeg d = v) {g : JFrame} (hg : g.method = m) {rest : List Value} (hs : g.stack = .int j :: .ref a :: rest) (hd : decode c.code g.pc = .ok (.baload, 1)) (target : State)
    (q : Steps p.tables e below (T.setTop { g with pc := g.pc + 1, stack := v :: rest }) target) : Steps p.tables e below (T.setTop g) target := by
  obtain ⟨cl, A, -, S, M, H, -⟩ := V
  exact X.baloadBytes hx (by rw [eT]; exact A.1) (State.isArrayOf_alike hZ.alike A.2.1) A.2.2 (inb_of S hj) (Has.at H (inb_of S hj) hv) hg hs hd _ q
theorem own_aaload {a : Addr} {k : ClassId} {ty : FieldType} {n : Int32} {vs : List Value} {d : Value} (X : Stand p l e R s m args below meth c T locs cells slots) (hx : p.tables.exec = Jvm.exec) (hZ : Z.Warmed39 s.vm) (eT : T.heap = h) (V : Arv Z h a k ty n vs d) {j : Int32} (hj : ¬ j < 0 ∧ j < n) {v : Value} (hr : ty.isReference = true) (hv : vs.getD j.toNatClampNeg d = v) {g : JFrame} (hg : g.method = m) {rest : List Value} (hs : g.stack = .int j :: .ref a :: rest) (hd : decode c.code g.pc = .ok (.aaload, 1)) (target : State)
    (q : Steps p.tables e below (T.setTop { g with pc := g.pc + 1, stack := v :: rest }) target) : Steps p.tables e below (T.setTop g) target := by
  obtain ⟨cl, A, -, S, M, H, -⟩ := V
  exact X.aaload hx (by rw [eT]; exact A.1) (State.isArrayOf_alike hZ.alike A.2.1) hr A.2.2 (inb_of S hj) (Has.at H (inb_of S hj) hv) hg hs hd _ q
theorem own_stJ {a : Addr} {k : ClassId} {n : Int32} {vs : List Value} {d : Value} (X : Stand p l e R s m args below meth c T locs cells slots) (hx : p.tables.exec = Jvm.exec) (hZ : Z.Warmed39 s.vm) (eT : T.heap = h) (V : Arv Z h a k .long n vs d) {j : Int32} (hj : ¬ j < 0 ∧ j < n) {i : Nat} (hji : j.toNatClampNeg = i) (hi : i < vs.length) {x : Int64} {g : JFrame} (hg : g.method = m) {rest : List Value} (hs : g.stack = .long x :: .int j :: .ref a :: rest) (hd : decode c.code g.pc = .ok (.lastore, 1)) :
    ∃ T' h', Stand p l e R s m args below meth c T' (locs ++ [⟨a, j.toNatClampNeg⟩]) cells slots ∧ T'.heap = h' ∧ Wr h h' a j.toNatClampNeg (.long x) ∧ Arv Z h' a k .long n (vs.set i (.long x)) d ∧ ∀ target, Steps p.tables e below (T'.setTop { g with pc := g.pc + 1, stack := rest }) target → Steps p.tables e below (T.setTop g) target := by
  obtain ⟨cl, A, q1, S, M, H, G⟩ := V
  obtain ⟨T', h', X', e', W, st⟩ := stJ X hx hZ eT A (j := j) (inb_of S hj) hg hs hd
  exact ⟨T', h', X', e', W, Arv.set A q1 S M H G rfl W i hji hi, st⟩
theorem own_stC {a : Addr} {k : ClassId} {n : Int32} {vs : List Value} {d : Value} (X : Stand p l e R s m args below meth c T locs cells slots) (hx : p.tables.exec = Jvm.exec) (hZ : Z.Warmed39 s.vm) (eT : T.heap = h) (V : Arv Z h a k .char n vs d) {j : Int32} (hj : ¬ j < 0 ∧ j < n) {i : Nat} (hji : j.toNatClampNeg = i) (hi : i < vs.length) {x : Int32} {g : JFrame} (hg : g.method = m) {rest : List Value} (hs : g.stack = .int x :: .int j :: .ref a :: rest) (hd : decode c.code g.pc = .ok (.castore, 1)) :
    ∃ T' h', Stand p l e R s m args below meth c T' (locs ++ [⟨a, j.toNatClampNeg⟩]) cells slots ∧ T'.heap = h' ∧ Wr h h' a j.toNatClampNeg (.int (nar .char x)) ∧ Arv Z h' a k .char n (vs.set i (.int (nar .char x))) d ∧ ∀ target, Steps p.tables e below (T'.setTop { g with pc := g.pc + 1, stack := rest }) target → Steps p.tables e below (T.setTop g) target := by
  obtain ⟨cl, A, q1, S, M, H, G⟩ := V
  obtain ⟨T', h', X', e', W, st⟩ := stC X hx hZ eT A (j := j) (inb_of S hj) hg hs hd
  exact ⟨T', h', X', e', W, Arv.set A q1 S M H G (fits_nar_char _) W i hji hi, st⟩
theorem own_notface {C : String} {y z y' : MethodName} (hsel : (Jvm.Cond.selects C y z).before args s = true) (hc : y'.cls = z.cls) : NotFace s y' := fun r0 h0 => by
  obtain ⟨c2, r2, m2, q1, q2, q3, q4, kP, hkP, hkPi⟩ := Cond.selects_spec hsel
  have f1 := findClass_of_methodNamed h0
  have f2 := findClass_of_methodNamed q3
  rw [hc, f2] at f1
  rw [← Option.some.inj f1]
  exact ⟨kP, hkP, hkPi⟩
end OwnKit
def own_rem (t w : Int64) : Int64 := t - (t / w) * w
def own_fmod (t w : Int64) : Int64 := if own_rem t w < 0 then own_rem t w + w else own_rem t w
def own_start (t w : Int64) : Int64 := t - own_fmod t w
def own_stop (s w : Int64) : Int64 := if s + w < s then (9223372036854775807 : Int64) else s + w
def own_w (k : Int32) : Int64 := if k = 0 then 60000000000 else if k = 1 then 600000000000 else if k = 2 then 3600000000000 else if k = 3 then 21600000000000 else if k = 4 then 86400000000000 else if k = 5 then 691200000000000 else if k = 6 then 5529600000000000 else if k = 7 then 44236800000000000 else 353894400000000000
def own_wd (i : Nat) : Int64 := if i = 0 then 60000000000 else if i = 1 then 600000000000 else if i = 2 then 3600000000000 else if i = 3 then 21600000000000 else if i = 4 then 86400000000000 else if i = 5 then 691200000000000 else if i = 6 then 5529600000000000 else if i = 7 then 44236800000000000 else 353894400000000000
def own_ok (wd v0 v1 v2 v3 v4 v5 : Int64) : Prop := ¬ v1 < wd ∧ (¬ v0 < wd ∨ v2 < own_start v5 wd) ∧ ¬ v5 < own_start v5 wd ∧ ¬ own_start v5 wd < v3 ∧ ¬ v4 < own_stop (own_start v5 wd) wd
def own_fits (k : Int32) (r0 r1 v0 v1 v2 v3 v4 v5 : Int64) : Prop := r0 = own_start v5 (own_w k) ∧ r1 = own_stop (own_start v5 (own_w k)) (own_w k) ∧ (k = 0 ∨ own_ok (own_w k) v0 v1 v2 v3 v4 v5) ∧ (k = 8 ∨ ¬ own_ok (own_w (k + 1)) v0 v1 v2 v3 v4 v5)
theorem own_pos_ne {w : Int64} (h : 0 < w) : w ≠ 0 := by rintro rfl; exact absurd h (by decide)
theorem own_w_pos (k : Int32) : 0 < own_w k := by unfold own_w; repeat' split
                                                  all_goals decide
theorem own_wd_pos (i : Nat) : 0 < own_wd i := by unfold own_wd; repeat' split
                                                  all_goals decide
theorem own_bm {n : Int} (h1 : -9223372036854775808 ≤ n) (h2 : n < 9223372036854775808) : n.bmod (2 ^ 64) = n := Int.bmod_eq_of_le (by omega) (by omega)
theorem own_tdiv_mul (a b : Int) (hb : 0 < b) : (0 ≤ a → 0 ≤ a.tdiv b * b ∧ a.tdiv b * b ≤ a) ∧ (a < 0 → a ≤ a.tdiv b * b ∧ a.tdiv b * b ≤ 0) := by
  have e := Int.tmod_def a b
  have l1 := Int.tmod_lt_of_pos a hb
  rw [Int.mul_comm] at e
  constructor
  · intro ha
    have q := Int.tmod_nonneg b ha
    have d : 0 ≤ a.tdiv b := Int.tdiv_nonneg ha (Int.le_of_lt hb)
    have := Int.mul_nonneg d (Int.le_of_lt hb)
    omega
  · intro ha
    have q := Int.tmod_nonneg (a := -a) b (by omega)
    rw [Int.neg_tmod] at q
    have d : 0 ≤ (-a).tdiv b := Int.tdiv_nonneg (by omega) (Int.le_of_lt hb)
    have m := Int.mul_nonneg d (Int.le_of_lt hb)
    rw [Int.neg_tdiv, Int.neg_mul] at m
    omega
theorem own_rem_int {t w : Int64} (hw : 0 < w) : (own_rem t w).toInt = t.toInt.tmod w.toInt := by
  have hp : 0 < w.toInt := by have := Int64.lt_iff_toInt_lt.mp hw; simpa using this
  have hd : (t / w).toInt = t.toInt.tdiv w.toInt := Int64.toInt_div_of_ne_right _ _ (by rintro rfl; exact absurd hw (by decide))
  have lo := t.le_toInt
  have hi := t.toInt_lt
  have tm := own_tdiv_mul t.toInt w.toInt hp
  have hm : ((t / w) * w).toInt = t.toInt.tdiv w.toInt * w.toInt := by
    rw [Int64.toInt_mul, hd]
    apply own_bm <;> rcases Int.lt_or_le t.toInt 0 with c | c
    · have := tm.2 c; omega
    · have := tm.1 c; omega
    · have := tm.2 c; omega
    · have := tm.1 c; omega
  unfold own_rem
  rw [Int64.toInt_sub, hm, Int.tmod_def, Int.mul_comm w.toInt]
  apply own_bm <;> rcases Int.lt_or_le t.toInt 0 with c | c
  · have := tm.2 c; omega
  · have := tm.1 c; omega
  · have := tm.2 c; omega
  · have := tm.1 c; omega
theorem own_rem_neg {t w : Int64} (hw : 0 < w) (h : own_rem t w < 0) : t < 0 := by
  have hp : 0 < w.toInt := by have := Int64.lt_iff_toInt_lt.mp hw; simpa using this
  rw [Int64.lt_iff_toInt_lt, own_rem_int hw] at h
  rw [Int64.lt_iff_toInt_lt]
  rcases Int.lt_or_le t.toInt 0 with c | c
  · simpa using c
  · have := Int.tmod_nonneg w.toInt c
    simp at h; omega
theorem own_rem_neg' {t w : Int64} (hw : 0 < w) (h : t < 0) (hn : ¬ own_rem t w = 0) : own_rem t w < 0 := by
  have ht : t.toInt < 0 := by have := Int64.lt_iff_toInt_lt.mp h; simpa using this
  rw [Int64.lt_iff_toInt_lt, own_rem_int hw]
  have q := Int.tmod_nonneg (a := -t.toInt) w.toInt (by omega)
  rw [Int.neg_tmod] at q
  have : t.toInt.tmod w.toInt ≠ 0 := fun z => hn (Int64.toInt_inj.mp (by rw [own_rem_int hw, z]; rfl))
  simp; omega
theorem own_xor_neg (x y : Int64) : x ^^^ y < 0 ↔ ¬ (x < 0 ↔ y < 0) := Jvm.Free.XT.xor_neg64 x y
theorem own_pos_nn {w : Int64} (hw : 0 < w) : ¬ w < 0 := fun h => by
  rw [Int64.lt_iff_toInt_lt] at hw h; simp at hw h; omega
theorem own_fm1 {t w : Int64} (hw : 0 < w) (h1 : ¬ (t ^^^ w) < 0) : t - (t / w) * w = own_fmod t w := by
  show own_rem t w = own_fmod t w
  unfold own_fmod
  rw [if_neg]
  intro hr
  exact h1 ((own_xor_neg t w).mpr fun q => own_pos_nn hw (q.mp (own_rem_neg hw hr)))
theorem own_fm21 {t w : Int64} (hw : 0 < w) (h1 : (t ^^^ w) < 0) (h2 : t - (t / w) * w = 0) : t - (t / w) * w = own_fmod t w := by
  show own_rem t w = own_fmod t w
  unfold own_fmod
  rw [if_neg]
  intro hr
  rw [show own_rem t w = 0 from h2] at hr
  exact absurd hr (by decide)
theorem own_fm20 {t w : Int64} (hw : 0 < w) (h1 : (t ^^^ w) < 0) (h2 : ¬ t - (t / w) * w = 0) : (t - (t / w) * w) + w = own_fmod t w := by
  show own_rem t w + w = own_fmod t w
  unfold own_fmod
  rw [if_pos]
  refine own_rem_neg' hw ?_ h2
  rcases Classical.em (t < 0) with q | q
  · exact q
  · exact absurd h1 (fun z => (own_xor_neg t w).mp z ⟨fun y => absurd y q, fun y => absurd y (own_pos_nn hw)⟩)
theorem own_stop_max {s w : Int64} (hw : 0 < w) (h : (9223372036854775807 : Int64) - w < s) : own_stop s w = 9223372036854775807 := by
  unfold own_stop
  rw [if_pos]
  have lo := s.le_toInt; have hi := s.toInt_lt; have lw := w.le_toInt; have hi' := w.toInt_lt
  have hp : 0 < w.toInt := by have := Int64.lt_iff_toInt_lt.mp hw; simpa using this
  rw [Int64.lt_iff_toInt_lt] at h ⊢
  simp only [Int64.toInt_sub, Int64.toInt_add, Int64.toInt_ofNat] at h ⊢
  have e : ((9223372036854775807 : Nat) : Int).bmod Int64.size = 9223372036854775807 := by decide
  rw [e] at h
  rw [own_bm (by omega) (by omega)] at h
  have e2 : (s.toInt + w.toInt).bmod (2 ^ 64) = s.toInt + w.toInt - 18446744073709551616 := by
    rw [← Int.sub_bmod_right]
    exact own_bm (by simp; omega) (by simp; omega)
  rw [e2]; omega
theorem own_stop_add {s w : Int64} (hw : 0 < w) (h : ¬ (9223372036854775807 : Int64) - w < s) : own_stop s w = s + w := by
  unfold own_stop
  rw [if_neg]
  have lo := s.le_toInt; have hi := s.toInt_lt; have lw := w.le_toInt; have hi' := w.toInt_lt
  have hp : 0 < w.toInt := by have := Int64.lt_iff_toInt_lt.mp hw; simpa using this
  rw [Int64.lt_iff_toInt_lt] at h ⊢
  simp only [Int64.toInt_sub, Int64.toInt_add, Int64.toInt_ofNat] at h ⊢
  have e : ((9223372036854775807 : Nat) : Int).bmod Int64.size = 9223372036854775807 := by decide
  rw [e] at h
  rw [own_bm (by omega) (by omega)] at h
  rw [own_bm (by omega) (by omega)]; omega
theorem own_i8 {i : Nat} (hi : i + 1 ≤ 8) : i = 0 ∨ i = 1 ∨ i = 2 ∨ i = 3 ∨ i = 4 ∨ i = 5 ∨ i = 6 ∨ i = 7 := by omega
theorem own_idx {i : Nat} (hi : i + 1 ≤ 8) : ¬ Int32.ofNat (i + 1) < 0 ∧ Int32.ofNat (i + 1) < 9 := by
  rcases own_i8 hi with rfl | rfl | rfl | rfl | rfl | rfl | rfl | rfl <;> decide
theorem own_sp {i : Nat} (hi : i + 1 ≤ 8) : (0 : Int32) < Int32.ofNat (i + 1) := by
  rcases own_i8 hi with rfl | rfl | rfl | rfl | rfl | rfl | rfl | rfl <;> decide
theorem own_z0 : ¬ (0 : Int32) < Int32.ofNat 0 := by decide
theorem own_dec (i : Nat) : Int32.ofNat (i + 1) + Int32.ofInt (-1) = Int32.ofNat i := by
  rw [Int32.ofNat_add, Int32.add_assoc]
  have : (Int32.ofNat 1 + Int32.ofInt (-1)) = 0 := by decide
  rw [this, Int32.add_zero]
theorem own_ext {P : Nat → Prop} {i : Nat} (hno : ∀ j, i + 1 < j → j ≤ 8 → ¬ P j) (h : ¬ P (i + 1)) : ∀ j, i < j → j ≤ 8 → ¬ P j := fun j h1 h2 => by
  rcases Nat.lt_or_ge (i + 1) j with q | q
  · exact hno j q h2
  · obtain rfl : j = i + 1 := by omega
    exact h
theorem own_fits_of {i : Nat} {k : Int32} {v0 v1 v2 v3 v4 v5 : Int64} (hk : own_w k = own_wd i ∧ (i = 0 → k = 0) ∧ (k = 8 ∨ (own_w (k + 1) = own_wd (i + 1) ∧ i + 1 ≤ 8))) (hok : i = 0 ∨ own_ok (own_wd i) v0 v1 v2 v3 v4 v5) (hno : ∀ j, i < j → j ≤ 8 → ¬ own_ok (own_wd j) v0 v1 v2 v3 v4 v5) :
    own_fits k (own_start v5 (own_wd i)) (own_stop (own_start v5 (own_wd i)) (own_wd i)) v0 v1 v2 v3 v4 v5 := by
  obtain ⟨h1, h2, h3⟩ := hk
  refine ⟨by rw [h1], by rw [h1], ?_, ?_⟩
  · rcases hok with q | q
    · exact Or.inl (h2 q)
    · exact Or.inr (by rw [h1]; exact q)
  · rcases h3 with q | ⟨q, r⟩
    · exact Or.inl q
    · exact Or.inr (by rw [q]; exact hno _ (Nat.lt_succ_self _) r)
theorem own_wat {i : Nat} (hi : i + 1 ≤ 8) : [Value.long (60000000000 : Int64), .long (600000000000 : Int64), .long (3600000000000 : Int64), .long (21600000000000 : Int64), .long (86400000000000 : Int64), .long (691200000000000 : Int64), .long (5529600000000000 : Int64), .long (44236800000000000 : Int64), .long (353894400000000000 : Int64)].getD (Int32.ofNat (i + 1)).toNatClampNeg (.long (0 : Int64)) = .long (own_wd (i + 1)) := by
  rcases own_i8 hi with rfl | rfl | rfl | rfl | rfl | rfl | rfl | rfl <;> rfl
theorem d6_0 : decode jdk_29_method_52_code 0 = .ok (.lload_n 0, 1) := by decide +kernel
theorem d6_1 : decode jdk_29_method_52_code 1 = .ok (.lload_n 2, 1) := by decide +kernel
theorem d6_2 : decode jdk_29_method_52_code 2 = .ok (.lrem, 1) := by decide +kernel
theorem d6_3 : decode jdk_29_method_52_code 3 = .ok (.lstore 4, 2) := by decide +kernel
theorem d6_5 : decode jdk_29_method_52_code 5 = .ok (.lload_n 0, 1) := by decide +kernel
theorem d6_6 : decode jdk_29_method_52_code 6 = .ok (.lload_n 2, 1) := by decide +kernel
theorem d6_7 : decode jdk_29_method_52_code 7 = .ok (.lxor, 1) := by decide +kernel
theorem d6_8 : decode jdk_29_method_52_code 8 = .ok (.lconst 0, 1) := by decide +kernel
theorem d6_9 : decode jdk_29_method_52_code 9 = .ok (.lcmp, 1) := by decide +kernel
theorem d6_10 : decode jdk_29_method_52_code 10 = .ok (.ifCond .ge 15, 3) := by decide +kernel
theorem d6_13 : decode jdk_29_method_52_code 13 = .ok (.lload 4, 2) := by decide +kernel
theorem d6_15 : decode jdk_29_method_52_code 15 = .ok (.lconst 0, 1) := by decide +kernel
theorem d6_16 : decode jdk_29_method_52_code 16 = .ok (.lcmp, 1) := by decide +kernel
theorem d6_17 : decode jdk_29_method_52_code 17 = .ok (.ifCond .eq 8, 3) := by decide +kernel
theorem d6_25 : decode jdk_29_method_52_code 25 = .ok (.lload 4, 2) := by decide +kernel
theorem d6_27 : decode jdk_29_method_52_code 27 = .ok (.lreturn, 1) := by decide +kernel
theorem d6_20 : decode jdk_29_method_52_code 20 = .ok (.lload 4, 2) := by decide +kernel
theorem d6_22 : decode jdk_29_method_52_code 22 = .ok (.lload_n 2, 1) := by decide +kernel
theorem d6_23 : decode jdk_29_method_52_code 23 = .ok (.ladd, 1) := by decide +kernel
theorem d6_24 : decode jdk_29_method_52_code 24 = .ok (.lreturn, 1) := by decide +kernel
theorem pn_0 : plainName "com/example/wynik/wynik/store/RangeLayout" = true := by first | (simp [plainName, overriddenIn]; done) | decide +kernel
theorem d5_0 : decode prog_54_method_4_code 0 = .ok (.lload_n 0, 1) := by decide +kernel
theorem d5_1 : decode prog_54_method_4_code 1 = .ok (.lload_n 0, 1) := by decide +kernel
theorem d5_2 : decode prog_54_method_4_code 2 = .ok (.lload_n 2, 1) := by decide +kernel
theorem d5_3 : decode prog_54_method_4_code 3 = .ok (.invokestatic 53, 3) := by decide +kernel
theorem pd_1 : parseMethodDescriptor "(JJ)J" = some ⟨[.long, .long], some .long⟩ := by decide +kernel
theorem d5_6 : decode prog_54_method_4_code 6 = .ok (.lsub, 1) := by decide +kernel
theorem d5_7 : decode prog_54_method_4_code 7 = .ok (.lreturn, 1) := by decide +kernel
theorem d4_0 : decode prog_54_method_5_code 0 = .ok (.lload_n 0, 1) := by decide +kernel
theorem d4_1 : decode prog_54_method_5_code 1 = .ok (.lload_n 2, 1) := by decide +kernel
theorem d4_2 : decode prog_54_method_5_code 2 = .ok (.invokestatic 59, 3) := by decide +kernel
theorem d4_5 : decode prog_54_method_5_code 5 = .ok (.lstore 4, 2) := by decide +kernel
theorem d4_7 : decode prog_54_method_5_code 7 = .ok (.lload 4, 2) := by decide +kernel
theorem d4_9 : decode prog_54_method_5_code 9 = .ok (.ldc2_w 51, 3) := by decide +kernel
theorem d4_12 : decode prog_54_method_5_code 12 = .ok (.lload_n 2, 1) := by decide +kernel
theorem d4_13 : decode prog_54_method_5_code 13 = .ok (.lsub, 1) := by decide +kernel
theorem d4_14 : decode prog_54_method_5_code 14 = .ok (.lcmp, 1) := by decide +kernel
theorem d4_15 : decode prog_54_method_5_code 15 = .ok (.ifCond .le 9, 3) := by decide +kernel
theorem d4_18 : decode prog_54_method_5_code 18 = .ok (.ldc2_w 51, 3) := by decide +kernel
theorem d4_21 : decode prog_54_method_5_code 21 = .ok (.goto 7, 3) := by decide +kernel
theorem d4_28 : decode prog_54_method_5_code 28 = .ok (.lstore 6, 2) := by decide +kernel
theorem d4_30 : decode prog_54_method_5_code 30 = .ok (.iconst 2, 1) := by decide +kernel
theorem d4_31 : decode prog_54_method_5_code 31 = .ok (.newarray .long, 2) := by decide +kernel
theorem d4_33 : decode prog_54_method_5_code 33 = .ok (.dup, 1) := by decide +kernel
theorem d4_34 : decode prog_54_method_5_code 34 = .ok (.iconst 0, 1) := by decide +kernel
theorem d4_35 : decode prog_54_method_5_code 35 = .ok (.lload 4, 2) := by decide +kernel
theorem d4_37 : decode prog_54_method_5_code 37 = .ok (.lastore, 1) := by decide +kernel
theorem d4_38 : decode prog_54_method_5_code 38 = .ok (.dup, 1) := by decide +kernel
theorem d4_39 : decode prog_54_method_5_code 39 = .ok (.iconst 1, 1) := by decide +kernel
theorem d4_40 : decode prog_54_method_5_code 40 = .ok (.lload 6, 2) := by decide +kernel
theorem d4_42 : decode prog_54_method_5_code 42 = .ok (.lastore, 1) := by decide +kernel
theorem d4_43 : decode prog_54_method_5_code 43 = .ok (.areturn, 1) := by decide +kernel
theorem d4_24 : decode prog_54_method_5_code 24 = .ok (.lload 4, 2) := by decide +kernel
theorem d4_26 : decode prog_54_method_5_code 26 = .ok (.lload_n 2, 1) := by decide +kernel
theorem d4_27 : decode prog_54_method_5_code 27 = .ok (.ladd, 1) := by decide +kernel
theorem d1_0 : decode prog_54_method_1_code 0 = .ok (.aload_n 0, 1) := by decide +kernel
theorem d1_1 : decode prog_54_method_1_code 1 = .ok (.invokespecial 1, 3) := by decide +kernel
theorem d1_4 : decode prog_54_method_1_code 4 = .ok (.aload_n 0, 1) := by decide +kernel
theorem d1_5 : decode prog_54_method_1_code 5 = .ok (.lload_n 1, 1) := by decide +kernel
theorem d1_6 : decode prog_54_method_1_code 6 = .ok (.putfield 7, 3) := by decide +kernel
theorem d1_9 : decode prog_54_method_1_code 9 = .ok (.aload_n 0, 1) := by decide +kernel
theorem d1_10 : decode prog_54_method_1_code 10 = .ok (.lload_n 3, 1) := by decide +kernel
theorem d1_11 : decode prog_54_method_1_code 11 = .ok (.putfield 13, 3) := by decide +kernel
theorem d1_14 : decode prog_54_method_1_code 14 = .ok (.aload_n 0, 1) := by decide +kernel
theorem d1_15 : decode prog_54_method_1_code 15 = .ok (.lload 5, 2) := by decide +kernel
theorem d1_17 : decode prog_54_method_1_code 17 = .ok (.putfield 16, 3) := by decide +kernel
theorem d1_20 : decode prog_54_method_1_code 20 = .ok (.aload_n 0, 1) := by decide +kernel
theorem d1_21 : decode prog_54_method_1_code 21 = .ok (.lload 7, 2) := by decide +kernel
theorem d1_23 : decode prog_54_method_1_code 23 = .ok (.putfield 19, 3) := by decide +kernel
theorem d1_26 : decode prog_54_method_1_code 26 = .ok (.aload_n 0, 1) := by decide +kernel
theorem d1_27 : decode prog_54_method_1_code 27 = .ok (.lload 9, 2) := by decide +kernel
theorem d1_29 : decode prog_54_method_1_code 29 = .ok (.putfield 22, 3) := by decide +kernel
theorem d1_32 : decode prog_54_method_1_code 32 = .ok (.return_, 1) := by decide +kernel
theorem pn_2 : plainName "com/example/wynik/wynik/store/RangeLayoutRangeAtPinLaw" = true := by first | (simp [plainName, overriddenIn]; done) | decide +kernel
theorem d8_0 : decode method_3_code 0 = .ok (.iload_n 0, 1) := by decide +kernel
theorem d8_1 : decode method_3_code 1 = .ok (.ifCond .ne 7, 3) := by decide +kernel
theorem d8_4 : decode method_3_code 4 = .ok (.ldc2_w 22, 3) := by decide +kernel
theorem d8_7 : decode method_3_code 7 = .ok (.lreturn, 1) := by decide +kernel
theorem d8_8 : decode method_3_code 8 = .ok (.iload_n 0, 1) := by decide +kernel
theorem d8_9 : decode method_3_code 9 = .ok (.iconst 1, 1) := by decide +kernel
theorem d8_10 : decode method_3_code 10 = .ok (.if_icmp .ne 7, 3) := by decide +kernel
theorem d8_13 : decode method_3_code 13 = .ok (.ldc2_w 24, 3) := by decide +kernel
theorem d8_16 : decode method_3_code 16 = .ok (.lreturn, 1) := by decide +kernel
theorem d8_17 : decode method_3_code 17 = .ok (.iload_n 0, 1) := by decide +kernel
theorem d8_18 : decode method_3_code 18 = .ok (.iconst 2, 1) := by decide +kernel
theorem d8_19 : decode method_3_code 19 = .ok (.if_icmp .ne 7, 3) := by decide +kernel
theorem d8_22 : decode method_3_code 22 = .ok (.ldc2_w 26, 3) := by decide +kernel
theorem d8_25 : decode method_3_code 25 = .ok (.lreturn, 1) := by decide +kernel
theorem d8_26 : decode method_3_code 26 = .ok (.iload_n 0, 1) := by decide +kernel
theorem d8_27 : decode method_3_code 27 = .ok (.iconst 3, 1) := by decide +kernel
theorem d8_28 : decode method_3_code 28 = .ok (.if_icmp .ne 7, 3) := by decide +kernel
theorem d8_31 : decode method_3_code 31 = .ok (.ldc2_w 28, 3) := by decide +kernel
theorem d8_34 : decode method_3_code 34 = .ok (.lreturn, 1) := by decide +kernel
theorem d8_35 : decode method_3_code 35 = .ok (.iload_n 0, 1) := by decide +kernel
theorem d8_36 : decode method_3_code 36 = .ok (.iconst 4, 1) := by decide +kernel
theorem d8_37 : decode method_3_code 37 = .ok (.if_icmp .ne 7, 3) := by decide +kernel
theorem d8_40 : decode method_3_code 40 = .ok (.ldc2_w 30, 3) := by decide +kernel
theorem d8_43 : decode method_3_code 43 = .ok (.lreturn, 1) := by decide +kernel
theorem d8_44 : decode method_3_code 44 = .ok (.iload_n 0, 1) := by decide +kernel
theorem d8_45 : decode method_3_code 45 = .ok (.iconst 5, 1) := by decide +kernel
theorem d8_46 : decode method_3_code 46 = .ok (.if_icmp .ne 7, 3) := by decide +kernel
theorem d8_49 : decode method_3_code 49 = .ok (.ldc2_w 32, 3) := by decide +kernel
theorem d8_52 : decode method_3_code 52 = .ok (.lreturn, 1) := by decide +kernel
theorem d8_53 : decode method_3_code 53 = .ok (.iload_n 0, 1) := by decide +kernel
theorem d8_54 : decode method_3_code 54 = .ok (.bipush 6, 2) := by decide +kernel
theorem d8_56 : decode method_3_code 56 = .ok (.if_icmp .ne 7, 3) := by decide +kernel
theorem d8_59 : decode method_3_code 59 = .ok (.ldc2_w 34, 3) := by decide +kernel
theorem d8_62 : decode method_3_code 62 = .ok (.lreturn, 1) := by decide +kernel
theorem d8_63 : decode method_3_code 63 = .ok (.iload_n 0, 1) := by decide +kernel
theorem d8_64 : decode method_3_code 64 = .ok (.bipush 7, 2) := by decide +kernel
theorem d8_66 : decode method_3_code 66 = .ok (.if_icmp .ne 7, 3) := by decide +kernel
theorem d8_69 : decode method_3_code 69 = .ok (.ldc2_w 36, 3) := by decide +kernel
theorem d8_72 : decode method_3_code 72 = .ok (.lreturn, 1) := by decide +kernel
theorem d8_73 : decode method_3_code 73 = .ok (.ldc2_w 38, 3) := by decide +kernel
theorem d8_76 : decode method_3_code 76 = .ok (.lreturn, 1) := by decide +kernel
theorem d9_0 : decode method_4_code 0 = .ok (.lload_n 0, 1) := by decide +kernel
theorem d9_1 : decode method_4_code 1 = .ok (.lload_n 2, 1) := by decide +kernel
theorem d9_2 : decode method_4_code 2 = .ok (.lrem, 1) := by decide +kernel
theorem d9_3 : decode method_4_code 3 = .ok (.lstore 4, 2) := by decide +kernel
theorem d9_5 : decode method_4_code 5 = .ok (.lload 4, 2) := by decide +kernel
theorem d9_7 : decode method_4_code 7 = .ok (.lconst 0, 1) := by decide +kernel
theorem d9_8 : decode method_4_code 8 = .ok (.lcmp, 1) := by decide +kernel
theorem d9_9 : decode method_4_code 9 = .ok (.ifCond .ge 9, 3) := by decide +kernel
theorem d9_12 : decode method_4_code 12 = .ok (.lload 4, 2) := by decide +kernel
theorem d9_14 : decode method_4_code 14 = .ok (.lload_n 2, 1) := by decide +kernel
theorem d9_15 : decode method_4_code 15 = .ok (.ladd, 1) := by decide +kernel
theorem d9_16 : decode method_4_code 16 = .ok (.lstore 4, 2) := by decide +kernel
theorem d9_18 : decode method_4_code 18 = .ok (.lload_n 0, 1) := by decide +kernel
theorem d9_19 : decode method_4_code 19 = .ok (.lload 4, 2) := by decide +kernel
theorem d9_21 : decode method_4_code 21 = .ok (.lsub, 1) := by decide +kernel
theorem d9_22 : decode method_4_code 22 = .ok (.lreturn, 1) := by decide +kernel
theorem d10_0 : decode method_5_code 0 = .ok (.lload_n 0, 1) := by decide +kernel
theorem d10_1 : decode method_5_code 1 = .ok (.lload_n 2, 1) := by decide +kernel
theorem d10_2 : decode method_5_code 2 = .ok (.ladd, 1) := by decide +kernel
theorem d10_3 : decode method_5_code 3 = .ok (.lstore 4, 2) := by decide +kernel
theorem d10_5 : decode method_5_code 5 = .ok (.lload 4, 2) := by decide +kernel
theorem d10_7 : decode method_5_code 7 = .ok (.lload_n 0, 1) := by decide +kernel
theorem d10_8 : decode method_5_code 8 = .ok (.lcmp, 1) := by decide +kernel
theorem d10_9 : decode method_5_code 9 = .ok (.ifCond .ge 7, 3) := by decide +kernel
theorem d10_12 : decode method_5_code 12 = .ok (.ldc2_w 42, 3) := by decide +kernel
theorem d10_15 : decode method_5_code 15 = .ok (.lreturn, 1) := by decide +kernel
theorem d10_16 : decode method_5_code 16 = .ok (.lload 4, 2) := by decide +kernel
theorem d10_18 : decode method_5_code 18 = .ok (.lreturn, 1) := by decide +kernel
theorem d11_0 : decode method_6_code 0 = .ok (.iload_n 0, 1) := by decide +kernel
theorem d11_1 : decode method_6_code 1 = .ok (.invokestatic 44, 3) := by decide +kernel
theorem pd_3 : parseMethodDescriptor "(I)J" = some ⟨[.int], some .long⟩ := by decide +kernel
theorem d11_4 : decode method_6_code 4 = .ok (.lstore_n 2, 1) := by decide +kernel
theorem d11_5 : decode method_6_code 5 = .ok (.aload_n 1, 1) := by decide +kernel
theorem d11_6 : decode method_6_code 6 = .ok (.iconst 5, 1) := by decide +kernel
theorem d11_7 : decode method_6_code 7 = .ok (.laload, 1) := by decide +kernel
theorem d11_8 : decode method_6_code 8 = .ok (.lload_n 2, 1) := by decide +kernel
theorem d11_9 : decode method_6_code 9 = .ok (.invokestatic 48, 3) := by decide +kernel
theorem d11_12 : decode method_6_code 12 = .ok (.lstore 4, 2) := by decide +kernel
theorem d11_14 : decode method_6_code 14 = .ok (.lload 4, 2) := by decide +kernel
theorem d11_16 : decode method_6_code 16 = .ok (.lload_n 2, 1) := by decide +kernel
theorem d11_17 : decode method_6_code 17 = .ok (.invokestatic 52, 3) := by decide +kernel
theorem d11_20 : decode method_6_code 20 = .ok (.lstore 6, 2) := by decide +kernel
theorem d11_22 : decode method_6_code 22 = .ok (.lload_n 2, 1) := by decide +kernel
theorem d11_23 : decode method_6_code 23 = .ok (.aload_n 1, 1) := by decide +kernel
theorem d11_24 : decode method_6_code 24 = .ok (.iconst 1, 1) := by decide +kernel
theorem d11_25 : decode method_6_code 25 = .ok (.laload, 1) := by decide +kernel
theorem d11_26 : decode method_6_code 26 = .ok (.lcmp, 1) := by decide +kernel
theorem d11_27 : decode method_6_code 27 = .ok (.ifCond .gt 51, 3) := by decide +kernel
theorem d11_78 : decode method_6_code 78 = .ok (.iconst 0, 1) := by decide +kernel
theorem d11_79 : decode method_6_code 79 = .ok (.ireturn, 1) := by decide +kernel
theorem d11_30 : decode method_6_code 30 = .ok (.lload_n 2, 1) := by decide +kernel
theorem d11_31 : decode method_6_code 31 = .ok (.aload_n 1, 1) := by decide +kernel
theorem d11_32 : decode method_6_code 32 = .ok (.iconst 0, 1) := by decide +kernel
theorem d11_33 : decode method_6_code 33 = .ok (.laload, 1) := by decide +kernel
theorem d11_34 : decode method_6_code 34 = .ok (.lcmp, 1) := by decide +kernel
theorem d11_35 : decode method_6_code 35 = .ok (.ifCond .le 12, 3) := by decide +kernel
theorem d11_38 : decode method_6_code 38 = .ok (.lload 4, 2) := by decide +kernel
theorem d11_40 : decode method_6_code 40 = .ok (.aload_n 1, 1) := by decide +kernel
theorem d11_41 : decode method_6_code 41 = .ok (.iconst 2, 1) := by decide +kernel
theorem d11_42 : decode method_6_code 42 = .ok (.laload, 1) := by decide +kernel
theorem d11_43 : decode method_6_code 43 = .ok (.lcmp, 1) := by decide +kernel
theorem d11_44 : decode method_6_code 44 = .ok (.ifCond .le 34, 3) := by decide +kernel
theorem d11_47 : decode method_6_code 47 = .ok (.lload 4, 2) := by decide +kernel
theorem d11_49 : decode method_6_code 49 = .ok (.aload_n 1, 1) := by decide +kernel
theorem d11_50 : decode method_6_code 50 = .ok (.iconst 5, 1) := by decide +kernel
theorem d11_51 : decode method_6_code 51 = .ok (.laload, 1) := by decide +kernel
theorem d11_52 : decode method_6_code 52 = .ok (.lcmp, 1) := by decide +kernel
theorem d11_53 : decode method_6_code 53 = .ok (.ifCond .gt 25, 3) := by decide +kernel
theorem d11_56 : decode method_6_code 56 = .ok (.lload 4, 2) := by decide +kernel
theorem d11_58 : decode method_6_code 58 = .ok (.aload_n 1, 1) := by decide +kernel
theorem d11_59 : decode method_6_code 59 = .ok (.iconst 3, 1) := by decide +kernel
theorem d11_60 : decode method_6_code 60 = .ok (.laload, 1) := by decide +kernel
theorem d11_61 : decode method_6_code 61 = .ok (.lcmp, 1) := by decide +kernel
theorem d11_62 : decode method_6_code 62 = .ok (.ifCond .lt 16, 3) := by decide +kernel
theorem d11_65 : decode method_6_code 65 = .ok (.lload 6, 2) := by decide +kernel
theorem d11_67 : decode method_6_code 67 = .ok (.aload_n 1, 1) := by decide +kernel
theorem d11_68 : decode method_6_code 68 = .ok (.iconst 4, 1) := by decide +kernel
theorem d11_69 : decode method_6_code 69 = .ok (.laload, 1) := by decide +kernel
theorem d11_70 : decode method_6_code 70 = .ok (.lcmp, 1) := by decide +kernel
theorem d11_71 : decode method_6_code 71 = .ok (.ifCond .gt 7, 3) := by decide +kernel
theorem d11_74 : decode method_6_code 74 = .ok (.iconst 1, 1) := by decide +kernel
theorem d11_75 : decode method_6_code 75 = .ok (.goto 4, 3) := by decide +kernel
theorem d7_0 : decode method_7_code 0 = .ok (.iload_n 1, 1) := by decide +kernel
theorem d7_1 : decode method_7_code 1 = .ok (.invokestatic 44, 3) := by decide +kernel
theorem d7_4 : decode method_7_code 4 = .ok (.lstore_n 3, 1) := by decide +kernel
theorem d7_5 : decode method_7_code 5 = .ok (.aload_n 2, 1) := by decide +kernel
theorem d7_6 : decode method_7_code 6 = .ok (.iconst 5, 1) := by decide +kernel
theorem d7_7 : decode method_7_code 7 = .ok (.laload, 1) := by decide +kernel
theorem d7_8 : decode method_7_code 8 = .ok (.lload_n 3, 1) := by decide +kernel
theorem d7_9 : decode method_7_code 9 = .ok (.invokestatic 48, 3) := by decide +kernel
theorem d7_12 : decode method_7_code 12 = .ok (.lstore 5, 2) := by decide +kernel
theorem d7_14 : decode method_7_code 14 = .ok (.lload 5, 2) := by decide +kernel
theorem d7_16 : decode method_7_code 16 = .ok (.lload_n 3, 1) := by decide +kernel
theorem d7_17 : decode method_7_code 17 = .ok (.invokestatic 52, 3) := by decide +kernel
theorem d7_20 : decode method_7_code 20 = .ok (.lstore 7, 2) := by decide +kernel
theorem d7_22 : decode method_7_code 22 = .ok (.aload_n 0, 1) := by decide +kernel
theorem d7_23 : decode method_7_code 23 = .ok (.iconst 0, 1) := by decide +kernel
theorem d7_24 : decode method_7_code 24 = .ok (.laload, 1) := by decide +kernel
theorem d7_25 : decode method_7_code 25 = .ok (.lload 5, 2) := by decide +kernel
theorem d7_27 : decode method_7_code 27 = .ok (.lcmp, 1) := by decide +kernel
theorem d7_28 : decode method_7_code 28 = .ok (.ifCond .ne 12, 3) := by decide +kernel
theorem d7_31 : decode method_7_code 31 = .ok (.aload_n 0, 1) := by decide +kernel
theorem d7_32 : decode method_7_code 32 = .ok (.iconst 1, 1) := by decide +kernel
theorem d7_33 : decode method_7_code 33 = .ok (.laload, 1) := by decide +kernel
theorem d7_34 : decode method_7_code 34 = .ok (.lload 7, 2) := by decide +kernel
theorem d7_36 : decode method_7_code 36 = .ok (.lcmp, 1) := by decide +kernel
theorem d7_37 : decode method_7_code 37 = .ok (.ifCond .eq 5, 3) := by decide +kernel
theorem d7_42 : decode method_7_code 42 = .ok (.iload_n 1, 1) := by decide +kernel
theorem d7_43 : decode method_7_code 43 = .ok (.ifCond .eq 11, 3) := by decide +kernel
theorem d7_54 : decode method_7_code 54 = .ok (.iconst 1, 1) := by decide +kernel
theorem d7_55 : decode method_7_code 55 = .ok (.goto 4, 3) := by decide +kernel
theorem d7_59 : decode method_7_code 59 = .ok (.istore 9, 2) := by decide +kernel
theorem d7_61 : decode method_7_code 61 = .ok (.iload_n 1, 1) := by decide +kernel
theorem d7_62 : decode method_7_code 62 = .ok (.bipush 8, 2) := by decide +kernel
theorem d7_64 : decode method_7_code 64 = .ok (.if_icmp .eq 13, 3) := by decide +kernel
theorem d7_77 : decode method_7_code 77 = .ok (.iconst 1, 1) := by decide +kernel
theorem d7_78 : decode method_7_code 78 = .ok (.goto 4, 3) := by decide +kernel
theorem d7_82 : decode method_7_code 82 = .ok (.istore 10, 2) := by decide +kernel
theorem d7_84 : decode method_7_code 84 = .ok (.iload 9, 2) := by decide +kernel
theorem d7_86 : decode method_7_code 86 = .ok (.ifCond .eq 12, 3) := by decide +kernel
theorem d7_89 : decode method_7_code 89 = .ok (.iload 10, 2) := by decide +kernel
theorem d7_91 : decode method_7_code 91 = .ok (.ifCond .eq 7, 3) := by decide +kernel
theorem d7_94 : decode method_7_code 94 = .ok (.iconst 1, 1) := by decide +kernel
theorem d7_95 : decode method_7_code 95 = .ok (.goto 4, 3) := by decide +kernel
theorem d7_99 : decode method_7_code 99 = .ok (.ireturn, 1) := by decide +kernel
theorem d7_67 : decode method_7_code 67 = .ok (.iload_n 1, 1) := by decide +kernel
theorem d7_68 : decode method_7_code 68 = .ok (.iconst 1, 1) := by decide +kernel
theorem d7_69 : decode method_7_code 69 = .ok (.iadd, 1) := by decide +kernel
theorem d7_70 : decode method_7_code 70 = .ok (.aload_n 2, 1) := by decide +kernel
theorem d7_71 : decode method_7_code 71 = .ok (.invokestatic 55, 3) := by decide +kernel
theorem pd_4 : parseMethodDescriptor "(I[J)Z" = some ⟨[.int, (.array .long)], some .boolean⟩ := by decide +kernel
theorem d7_74 : decode method_7_code 74 = .ok (.ifCond .ne 7, 3) := by decide +kernel
theorem d7_81 : decode method_7_code 81 = .ok (.iconst 0, 1) := by decide +kernel
theorem d7_98 : decode method_7_code 98 = .ok (.iconst 0, 1) := by decide +kernel
theorem d7_46 : decode method_7_code 46 = .ok (.iload_n 1, 1) := by decide +kernel
theorem d7_47 : decode method_7_code 47 = .ok (.aload_n 2, 1) := by decide +kernel
theorem d7_48 : decode method_7_code 48 = .ok (.invokestatic 55, 3) := by decide +kernel
theorem d7_51 : decode method_7_code 51 = .ok (.ifCond .eq 7, 3) := by decide +kernel
theorem d7_58 : decode method_7_code 58 = .ok (.iconst 0, 1) := by decide +kernel
theorem d7_40 : decode method_7_code 40 = .ok (.iconst 0, 1) := by decide +kernel
theorem d7_41 : decode method_7_code 41 = .ok (.ireturn, 1) := by decide +kernel
theorem d3_0 : decode prog_54_method_2_code 0 = .ok (.getstatic 25, 3) := by decide +kernel
theorem d3_3 : decode prog_54_method_2_code 3 = .ok (.arraylength, 1) := by decide +kernel
theorem d3_4 : decode prog_54_method_2_code 4 = .ok (.iconst 1, 1) := by decide +kernel
theorem d3_5 : decode prog_54_method_2_code 5 = .ok (.isub, 1) := by decide +kernel
theorem d3_6 : decode prog_54_method_2_code 6 = .ok (.istore_n 3, 1) := by decide +kernel
theorem d3_7 : decode prog_54_method_2_code 7 = .ok (.iload_n 3, 1) := by decide +kernel
theorem d3_8 : decode prog_54_method_2_code 8 = .ok (.ifCond .le 109, 3) := by decide +kernel
theorem d3_117 : decode prog_54_method_2_code 117 = .ok (.lload_n 1, 1) := by decide +kernel
theorem d3_118 : decode prog_54_method_2_code 118 = .ok (.getstatic 33, 3) := by decide +kernel
theorem d3_121 : decode prog_54_method_2_code 121 = .ok (.invokestatic 29, 3) := by decide +kernel
theorem pd_5 : parseMethodDescriptor "(JJ)[J" = some ⟨[.long, .long], some (.array .long)⟩ := by decide +kernel
theorem d3_124 : decode prog_54_method_2_code 124 = .ok (.areturn, 1) := by decide +kernel
theorem d3_11 : decode prog_54_method_2_code 11 = .ok (.getstatic 25, 3) := by decide +kernel
theorem d3_14 : decode prog_54_method_2_code 14 = .ok (.iload_n 3, 1) := by decide +kernel
theorem d3_15 : decode prog_54_method_2_code 15 = .ok (.laload, 1) := by decide +kernel
theorem d3_16 : decode prog_54_method_2_code 16 = .ok (.aload_n 0, 1) := by decide +kernel
theorem d3_17 : decode prog_54_method_2_code 17 = .ok (.getfield 13, 3) := by decide +kernel
theorem d3_20 : decode prog_54_method_2_code 20 = .ok (.lcmp, 1) := by decide +kernel
theorem d3_21 : decode prog_54_method_2_code 21 = .ok (.ifCond .le 6, 3) := by decide +kernel
theorem d3_24 : decode prog_54_method_2_code 24 = .ok (.goto 87, 3) := by decide +kernel
theorem d3_111 : decode prog_54_method_2_code 111 = .ok (.iinc 3 (-1), 3) := by decide +kernel
theorem d3_114 : decode prog_54_method_2_code 114 = .ok (.goto (-107), 3) := by decide +kernel
theorem d3_27 : decode prog_54_method_2_code 27 = .ok (.lload_n 1, 1) := by decide +kernel
theorem d3_28 : decode prog_54_method_2_code 28 = .ok (.getstatic 25, 3) := by decide +kernel
theorem d3_31 : decode prog_54_method_2_code 31 = .ok (.iload_n 3, 1) := by decide +kernel
theorem d3_32 : decode prog_54_method_2_code 32 = .ok (.laload, 1) := by decide +kernel
theorem d3_33 : decode prog_54_method_2_code 33 = .ok (.invokestatic 29, 3) := by decide +kernel
theorem d3_36 : decode prog_54_method_2_code 36 = .ok (.astore 4, 2) := by decide +kernel
theorem d3_38 : decode prog_54_method_2_code 38 = .ok (.getstatic 25, 3) := by decide +kernel
theorem d3_41 : decode prog_54_method_2_code 41 = .ok (.iload_n 3, 1) := by decide +kernel
theorem d3_42 : decode prog_54_method_2_code 42 = .ok (.laload, 1) := by decide +kernel
theorem d3_43 : decode prog_54_method_2_code 43 = .ok (.aload_n 0, 1) := by decide +kernel
theorem d3_44 : decode prog_54_method_2_code 44 = .ok (.getfield 7, 3) := by decide +kernel
theorem d3_47 : decode prog_54_method_2_code 47 = .ok (.lcmp, 1) := by decide +kernel
theorem d3_48 : decode prog_54_method_2_code 48 = .ok (.ifCond .le 15, 3) := by decide +kernel
theorem d3_51 : decode prog_54_method_2_code 51 = .ok (.aload 4, 2) := by decide +kernel
theorem d3_53 : decode prog_54_method_2_code 53 = .ok (.iconst 0, 1) := by decide +kernel
theorem d3_54 : decode prog_54_method_2_code 54 = .ok (.laload, 1) := by decide +kernel
theorem d3_55 : decode prog_54_method_2_code 55 = .ok (.aload_n 0, 1) := by decide +kernel
theorem d3_56 : decode prog_54_method_2_code 56 = .ok (.getfield 16, 3) := by decide +kernel
theorem d3_59 : decode prog_54_method_2_code 59 = .ok (.lcmp, 1) := by decide +kernel
theorem d3_60 : decode prog_54_method_2_code 60 = .ok (.ifCond .le 7, 3) := by decide +kernel
theorem d3_63 : decode prog_54_method_2_code 63 = .ok (.iconst 1, 1) := by decide +kernel
theorem d3_64 : decode prog_54_method_2_code 64 = .ok (.goto 4, 3) := by decide +kernel
theorem d3_68 : decode prog_54_method_2_code 68 = .ok (.istore 5, 2) := by decide +kernel
theorem d3_70 : decode prog_54_method_2_code 70 = .ok (.iload 5, 2) := by decide +kernel
theorem d3_72 : decode prog_54_method_2_code 72 = .ok (.ifCond .eq 39, 3) := by decide +kernel
theorem d3_75 : decode prog_54_method_2_code 75 = .ok (.aload 4, 2) := by decide +kernel
theorem d3_77 : decode prog_54_method_2_code 77 = .ok (.iconst 0, 1) := by decide +kernel
theorem d3_78 : decode prog_54_method_2_code 78 = .ok (.laload, 1) := by decide +kernel
theorem d3_79 : decode prog_54_method_2_code 79 = .ok (.lload_n 1, 1) := by decide +kernel
theorem d3_80 : decode prog_54_method_2_code 80 = .ok (.lcmp, 1) := by decide +kernel
theorem d3_81 : decode prog_54_method_2_code 81 = .ok (.ifCond .gt 30, 3) := by decide +kernel
theorem d3_84 : decode prog_54_method_2_code 84 = .ok (.aload 4, 2) := by decide +kernel
theorem d3_86 : decode prog_54_method_2_code 86 = .ok (.iconst 0, 1) := by decide +kernel
theorem d3_87 : decode prog_54_method_2_code 87 = .ok (.laload, 1) := by decide +kernel
theorem d3_88 : decode prog_54_method_2_code 88 = .ok (.aload_n 0, 1) := by decide +kernel
theorem d3_89 : decode prog_54_method_2_code 89 = .ok (.getfield 19, 3) := by decide +kernel
theorem d3_92 : decode prog_54_method_2_code 92 = .ok (.lcmp, 1) := by decide +kernel
theorem d3_93 : decode prog_54_method_2_code 93 = .ok (.ifCond .lt 18, 3) := by decide +kernel
theorem d3_96 : decode prog_54_method_2_code 96 = .ok (.aload 4, 2) := by decide +kernel
theorem d3_98 : decode prog_54_method_2_code 98 = .ok (.iconst 1, 1) := by decide +kernel
theorem d3_99 : decode prog_54_method_2_code 99 = .ok (.laload, 1) := by decide +kernel
theorem d3_100 : decode prog_54_method_2_code 100 = .ok (.aload_n 0, 1) := by decide +kernel
theorem d3_101 : decode prog_54_method_2_code 101 = .ok (.getfield 22, 3) := by decide +kernel
theorem d3_104 : decode prog_54_method_2_code 104 = .ok (.lcmp, 1) := by decide +kernel
theorem d3_105 : decode prog_54_method_2_code 105 = .ok (.ifCond .gt 6, 3) := by decide +kernel
theorem d3_108 : decode prog_54_method_2_code 108 = .ok (.aload 4, 2) := by decide +kernel
theorem d3_110 : decode prog_54_method_2_code 110 = .ok (.areturn, 1) := by decide +kernel
theorem d3_67 : decode prog_54_method_2_code 67 = .ok (.iconst 0, 1) := by decide +kernel
theorem pd_6 : parseMethodDescriptor "(JJJJJ)V" = some ⟨[.long, .long, .long, .long, .long], none⟩ := by decide +kernel
theorem pd_7 : parseMethodDescriptor "(J)[J" = some ⟨[.long], some (.array .long)⟩ := by decide +kernel
theorem pd_8 : parseMethodDescriptor "([JI[J)Z" = some ⟨[(.array .long), .int, (.array .long)], some .boolean⟩ := by decide +kernel
def Q_rm_fm (Z : State) (t : Int64) (w : Int64) (h0 : Heap) (n0 : Nat) (v : Option Value) (h : Heap) (L : List Loc) : Prop := v = some (.long (own_fmod t w)) ∧ Fr n0 L ∧ h = h0
theorem ef_rm_fm (m : MethodId) (t : Int64) (w : Int64) : entryFrame m #[(.long t), (.long w)] 6 = mkF m 0 #[.val (.long t), .second, .val (.long w), .second, .unset, .unset] [] := by first | (simp [entryFrame, mkF, argsToLocals, Value.category]; done) | rfl
set_option maxRecDepth 65536 in
set_option maxHeartbeats 40000000 in
theorem rm_fm (l : Launch) (Z : State) (a0 : Array Value) (hw : ∀ d ∈ tables_1, d.before a0 Z = true) (ws : List Jvm.Cond) (t : Int64) (w : Int64) (h0 : Heap) (n0 : Nat) (Z0 : n0 ≤ h0.size) (hw0 : 0 < w) :
    MetFree l (⟨"java/lang/Math", "floorMod", "(JJ)J"⟩ : MethodName) (head1 (Jvm.Cond.code (⟨"java/lang/Math", "floorMod", "(JJ)J"⟩ : MethodName) jdk_29_method_52_code 6 (some .long) :: ws) ({ frames := 0, cells := 0, slots := 0, locals := 0 } : Room)) (fun a_ U_ => a_ = #[(.long t), (.long w)] ∧ Z.Warmed39 U_.vm ∧ U_.heap = h0) (fun _ _ _ _ _ => True) (fun _ U_ o_ V_ => ∃ v_ L_, o_ = .returned v_ ∧ (Q_rm_fm Z t w h0 n0) v_ V_.heap L_ ∧ FrameEnd U_ o_ V_ L_ ({ frames := 0, cells := 0, slots := 0, locals := 0 } : Room).cells ({ frames := 0, cells := 0, slots := 0, locals := 0 } : Room).slots) := by
  refine MetFree.of_bodySF (Jvm.Free.JP.mathPlain rfl (by decide +kernel)) hisR ?_
  intro p e s m args below meth c s₁ Bd hml0 hP hK
  obtain ⟨rfl, hZ, hh⟩ := hP
  have hx := Bd.exec
  have hby := Bd.bytes
  have hml : c.maxLocals = 6 := hml0
  have hown : s.vm.findClass "java/lang/Math" = some m.cls := findClass_of_methodNamed Bd.named
  have hnm := (name_of_methodNamed Bd.named Bd.method).1
  have X0 : Stand p l e ({ frames := 0, cells := 0, slots := 0, locals := 0 } : Room) s m #[(.long t), (.long w)] below meth c s₁ [] 0 0 := Stand.of_body Bd
  have e0 : s₁.heap = h0 := by rw [← hh, Bd.state]; rfl
  have N0 := Fr.nil n0
  have K0 : Keep h0 h0 [] := Keep.refl _ _
  show own_Fin p.tables e below (own_Post (Q_rm_fm Z t w h0 n0) ({ frames := 0, cells := 0, slots := 0, locals := 0 } : Room).cells ({ frames := 0, cells := 0, slots := 0, locals := 0 } : Room).slots below s) _
  refine own_go (fun _ kk_ => castTop (ef_rm_fm m t w) kk_) ?_
  refine own_go (fun _ kk_ => XS.lloadN X0.here hx rfl (hb hby d6_0) rfl kk_) ?_
  refine own_go (fun _ kk_ => XS.lloadN X0.here hx rfl (hb hby d6_1) rfl kk_) ?_
  show own_Fin p.tables e below _ (s₁.setTop (mkF m 2 #[.val (.long t), .second, .val (.long w), .second, .unset, .unset] [(.long w), (.long t)]))
  refine own_go (fun _ kk_ => XS.lrem X0.here hx rfl (hb hby d6_2) rfl (own_pos_ne hw0) kk_) ?_
  refine own_go (fun _ kk_ => XS.lstore X0.here hx rfl (hb hby d6_3) rfl (l' := #[.val (.long t), .second, .val (.long w), .second, .val (.long (t - (t / w) * w)), .second]) rfl kk_) ?_
  refine own_go (fun _ kk_ => XS.lloadN X0.here hx rfl (hb hby d6_5) rfl kk_) ?_
  refine own_go (fun _ kk_ => XS.lloadN X0.here hx rfl (hb hby d6_6) rfl kk_) ?_
  show own_Fin p.tables e below _ (s₁.setTop (mkF m 7 #[.val (.long t), .second, .val (.long w), .second, .val (.long (t - (t / w) * w)), .second] [(.long w), (.long t)]))
  refine own_go (fun _ kk_ => XS.lxor X0.here hx rfl (hb hby d6_7) rfl kk_) ?_
  refine own_go (fun _ kk_ => XS.lconst X0.here hx rfl (hb hby d6_8) kk_) ?_
  show own_Fin p.tables e below _ (s₁.setTop (mkF m 9 #[.val (.long t), .second, .val (.long w), .second, .val (.long (t - (t / w) * w)), .second] [(.long (0 : Int64)), (.long (t ^^^ w))]))
  refine own_go (fun _ kk_ => XS.lcmp X0.here hx rfl (hb hby d6_9) rfl kk_) ?_
  show own_Fin p.tables e below _ (s₁.setTop (mkF m 10 #[.val (.long t), .second, .val (.long w), .second, .val (.long (t - (t / w) * w)), .second] [(.int (lcmpW (t ^^^ w) (0 : Int64)))]))
  by_cases hc1 : (t ^^^ w) < (0 : Int64)
  · skip
    refine own_go (fun _ kk_ => XS.ifNo X0.here hx rfl (hb hby d6_10) rfl (Jvm.Free.XT.ll_ge_f hc1) kk_) ?_
    refine own_go (fun _ kk_ => XS.lload X0.here hx rfl (hb hby d6_13) rfl kk_) ?_
    refine own_go (fun _ kk_ => XS.lconst X0.here hx rfl (hb hby d6_15) kk_) ?_
    show own_Fin p.tables e below _ (s₁.setTop (mkF m 16 #[.val (.long t), .second, .val (.long w), .second, .val (.long (t - (t / w) * w)), .second] [(.long (0 : Int64)), (.long (t - (t / w) * w))]))
    refine own_go (fun _ kk_ => XS.lcmp X0.here hx rfl (hb hby d6_16) rfl kk_) ?_
    show own_Fin p.tables e below _ (s₁.setTop (mkF m 17 #[.val (.long t), .second, .val (.long w), .second, .val (.long (t - (t / w) * w)), .second] [(.int (lcmpW (t - (t / w) * w) (0 : Int64)))]))
    by_cases hc2 : (t - (t / w) * w) = (0 : Int64)
    · skip
      refine own_go (fun _ kk_ => XS.ifYes X0.here hx rfl (pc0 := 17) (pc' := 25) rfl (hb hby d6_17) rfl (Jvm.Free.XT.ll_eq_t hc2) (by decide) (by decide) kk_) ?_
      refine own_go (fun _ kk_ => XS.lload X0.here hx rfl (hb hby d6_25) rfl kk_) ?_
      show own_Fin p.tables e below _ (s₁.setTop (mkF m 27 #[.val (.long t), .second, .val (.long w), .second, .val (.long (t - (t / w) * w)), .second] [(.long (t - (t / w) * w))]))
      refine own_retJ X0 hx Bd Bd.returns (hb hby d6_27) ?_ (by decide) (by decide)
      show (Q_rm_fm Z t w h0 n0) (some (.long (t - (t / w) * w))) s₁.heap _
      rw [e0]
      refine ⟨?_, N0, rfl⟩
      exact congrArg (fun z => some (Value.long z)) (own_fm21 hw0 hc1 hc2)
    · skip
      refine own_go (fun _ kk_ => XS.ifNo X0.here hx rfl (hb hby d6_17) rfl (Jvm.Free.XT.ll_eq_f hc2) kk_) ?_
      refine own_go (fun _ kk_ => XS.lload X0.here hx rfl (hb hby d6_20) rfl kk_) ?_
      refine own_go (fun _ kk_ => XS.lloadN X0.here hx rfl (hb hby d6_22) rfl kk_) ?_
      show own_Fin p.tables e below _ (s₁.setTop (mkF m 23 #[.val (.long t), .second, .val (.long w), .second, .val (.long (t - (t / w) * w)), .second] [(.long w), (.long (t - (t / w) * w))]))
      refine own_go (fun _ kk_ => XS.ladd X0.here hx rfl (hb hby d6_23) rfl kk_) ?_
      show own_Fin p.tables e below _ (s₁.setTop (mkF m 24 #[.val (.long t), .second, .val (.long w), .second, .val (.long (t - (t / w) * w)), .second] [(.long ((t - (t / w) * w) + w))]))
      refine own_retJ X0 hx Bd Bd.returns (hb hby d6_24) ?_ (by decide) (by decide)
      show (Q_rm_fm Z t w h0 n0) (some (.long ((t - (t / w) * w) + w))) s₁.heap _
      rw [e0]
      refine ⟨?_, N0, rfl⟩
      exact congrArg (fun z => some (Value.long z)) (own_fm20 hw0 hc1 hc2)
  · skip
    refine own_go (fun _ kk_ => XS.ifYes X0.here hx rfl (pc0 := 10) (pc' := 25) rfl (hb hby d6_10) rfl (Jvm.Free.XT.ll_ge_t hc1) (by decide) (by decide) kk_) ?_
    refine own_go (fun _ kk_ => XS.lload X0.here hx rfl (hb hby d6_25) rfl kk_) ?_
    show own_Fin p.tables e below _ (s₁.setTop (mkF m 27 #[.val (.long t), .second, .val (.long w), .second, .val (.long (t - (t / w) * w)), .second] [(.long (t - (t / w) * w))]))
    refine own_retJ X0 hx Bd Bd.returns (hb hby d6_27) ?_ (by decide) (by decide)
    show (Q_rm_fm Z t w h0 n0) (some (.long (t - (t / w) * w))) s₁.heap _
    rw [e0]
    refine ⟨?_, N0, rfl⟩
    exact congrArg (fun z => some (Value.long z)) (own_fm1 hw0 hc1)
def Q_rm_ps (Z : State) (t : Int64) (w : Int64) (h0 : Heap) (n0 : Nat) (v : Option Value) (h : Heap) (L : List Loc) : Prop := v = some (.long (own_start t w)) ∧ Fr n0 L ∧ h = h0
theorem ef_rm_ps (m : MethodId) (t : Int64) (w : Int64) : entryFrame m #[(.long t), (.long w)] 4 = mkF m 0 #[.val (.long t), .second, .val (.long w), .second] [] := by first | (simp [entryFrame, mkF, argsToLocals, Value.category]; done) | rfl
set_option maxRecDepth 65536 in
set_option maxHeartbeats 40000000 in
theorem rm_ps (l : Launch) (Z : State) (a0 : Array Value) (hw : ∀ d ∈ tables_1, d.before a0 Z = true) (ws : List Jvm.Cond) (t : Int64) (w : Int64) (h0 : Heap) (n0 : Nat) (Z0 : n0 ≤ h0.size) (hw0 : 0 < w) :
    MetFree l (⟨"com/example/wynik/wynik/store/RangeLayout", "periodStart", "(JJ)J"⟩ : MethodName) (head1 (Jvm.Cond.code (⟨"com/example/wynik/wynik/store/RangeLayout", "periodStart", "(JJ)J"⟩ : MethodName) prog_54_method_4_code 4 (some .long) :: ws) ({ frames := 1, cells := 0, slots := 0, locals := 24 } : Room)) (fun a_ U_ => a_ = #[(.long t), (.long w)] ∧ Z.Warmed39 U_.vm ∧ U_.heap = h0) (fun _ _ _ _ _ => True) (fun _ U_ o_ V_ => ∃ v_ L_, o_ = .returned v_ ∧ (Q_rm_ps Z t w h0 n0) v_ V_.heap L_ ∧ FrameEnd U_ o_ V_ L_ ({ frames := 1, cells := 0, slots := 0, locals := 24 } : Room).cells ({ frames := 1, cells := 0, slots := 0, locals := 24 } : Room).slots) := by
  refine MetFree.of_bodySF (plainFor_of_name pn_0) hisR ?_
  intro p e s m args below meth c s₁ Bd hml0 hP hK
  obtain ⟨rfl, hZ, hh⟩ := hP
  have hx := Bd.exec
  have hby := Bd.bytes
  have hml : c.maxLocals = 4 := hml0
  have hown : s.vm.findClass "com/example/wynik/wynik/store/RangeLayout" = some m.cls := findClass_of_methodNamed Bd.named
  have hnm := (name_of_methodNamed Bd.named Bd.method).1
  have X0 : Stand p l e ({ frames := 1, cells := 0, slots := 0, locals := 24 } : Room) s m #[(.long t), (.long w)] below meth c s₁ [] 0 0 := Stand.of_body Bd
  have e0 : s₁.heap = h0 := by rw [← hh, Bd.state]; rfl
  have N0 := Fr.nil n0
  have K0 : Keep h0 h0 [] := Keep.refl _ _
  show own_Fin p.tables e below (own_Post (Q_rm_ps Z t w h0 n0) ({ frames := 1, cells := 0, slots := 0, locals := 24 } : Room).cells ({ frames := 1, cells := 0, slots := 0, locals := 24 } : Room).slots below s) _
  refine own_go (fun _ kk_ => castTop (ef_rm_ps m t w) kk_) ?_
  refine own_go (fun _ kk_ => XS.lloadN X0.here hx rfl (hb hby d5_0) rfl kk_) ?_
  refine own_go (fun _ kk_ => XS.lloadN X0.here hx rfl (hb hby d5_1) rfl kk_) ?_
  refine own_go (fun _ kk_ => XS.lloadN X0.here hx rfl (hb hby d5_2) rfl kk_) ?_
  show own_Fin p.tables e below _ (s₁.setTop (mkF m 3 #[.val (.long t), .second, .val (.long w), .second] [(.long w), (.long t), (.long t)]))
  obtain ⟨_, _, ⟨T3, L3, k3, n3⟩, -, X3, ⟨Lc3, hQ3, l3, y3, z3⟩, st3⟩ := Jvm.LawKit.callS X0 hx (y := (⟨"java/lang/Math", "floorMod", "(JJ)J"⟩ : MethodName)) hown (mvT hZ (hw _ (List.mem_of_getElem? (i := 34) rfl))) (mvT hZ (hw _ (List.mem_of_getElem? (i := 35) rfl))) (mvT hZ (hw _ (List.mem_of_getElem? (i := 36) rfl))) (mvT hZ (hw _ (List.mem_of_getElem? (i := 37) rfl))) (by decide) (backOf (W := 2) (rm_fm l Z a0 hw [] t w  h0 n0 (Nat.le_trans Z0 K0.1) hw0) hZ (hw _ (List.mem_of_getElem? (i := 37) rfl)) (hw _ (List.mem_of_getElem? (i := 36) rfl)) (by decide) (by decide)) (g := (mkF m 3 #[.val (.long t), .second, .val (.long w), .second] [(.long w), (.long t), (.long t)])) rfl (by rw [hml]; rfl) (argsL := [(.long t), (.long w)]) (rest := [(.long t)]) (lenOf pd_1 rfl) rfl (by show 2 * 0 + _ ≤ _; exact Nat.le_of_eq rfl) (hb hby d5_3) (fun _ _ => ⟨rfl, e0, (by decide : 0 + 0 ≤ _), (by decide : 0 + 0 ≤ _)⟩)
  dsimp only [Pt.U, Pt.locs, Pt.cells, Pt.slots] at X3 l3 y3 z3 st3 hQ3
  subst l3 y3 z3
  obtain ⟨rfl, N3q, e3⟩ := hQ3
  have N3 := Fr.app N0 N3q
  refine own_go st3 ?_
  show own_Fin p.tables e below _ (T3.setTop (mkF m 6 #[.val (.long t), .second, .val (.long w), .second] [(.long (own_fmod t w)), (.long t)]))
  refine own_go (fun _ kk_ => XS.lsub X3.here hx rfl (hb hby d5_6) rfl kk_) ?_
  show own_Fin p.tables e below _ (T3.setTop (mkF m 7 #[.val (.long t), .second, .val (.long w), .second] [(.long (t - (own_fmod t w)))]))
  refine own_retJ X3 hx Bd Bd.returns (hb hby d5_7) ?_ (by decide) (by decide)
  show (Q_rm_ps Z t w h0 n0) (some (.long (t - (own_fmod t w)))) T3.heap _
  rw [e3]
  exact ⟨rfl, N3, rfl⟩
def Q_rm_pe (Z : State) (t : Int64) (w : Int64) (h0 : Heap) (n0 : Nat) (v : Option Value) (h : Heap) (L : List Loc) : Prop := ∃ (a : Addr) (k : ClassId), v = some (.ref a) ∧ Fr n0 L ∧ Keep h0 h [] ∧ h0.size ≤ a ∧ Arv Z h a k .long (2 : Int32) [.long (own_start t w), .long (own_stop (own_start t w) w)] (.long (0 : Int64))
theorem ef_rm_pe (m : MethodId) (t : Int64) (w : Int64) : entryFrame m #[(.long t), (.long w)] 8 = mkF m 0 #[.val (.long t), .second, .val (.long w), .second, .unset, .unset, .unset, .unset] [] := by first | (simp [entryFrame, mkF, argsToLocals, Value.category]; done) | rfl
set_option maxRecDepth 65536 in
set_option maxHeartbeats 40000000 in
theorem rm_pe (l : Launch) (Z : State) (a0 : Array Value) (hw : ∀ d ∈ tables_1, d.before a0 Z = true) (ws : List Jvm.Cond) (t : Int64) (w : Int64) (h0 : Heap) (n0 : Nat) (Z0 : n0 ≤ h0.size) (hw0 : 0 < w) :
    MetFree l (⟨"com/example/wynik/wynik/store/RangeLayout", "period", "(JJ)[J"⟩ : MethodName) (head1 (Jvm.Cond.code (⟨"com/example/wynik/wynik/store/RangeLayout", "period", "(JJ)[J"⟩ : MethodName) prog_54_method_5_code 8 (some (.array .long)) :: ws) ({ frames := 2, cells := 1, slots := 2, locals := 48 } : Room)) (fun a_ U_ => a_ = #[(.long t), (.long w)] ∧ Z.Warmed39 U_.vm ∧ U_.heap = h0) (fun _ _ _ _ _ => True) (fun _ U_ o_ V_ => ∃ v_ L_, o_ = .returned v_ ∧ (Q_rm_pe Z t w h0 n0) v_ V_.heap L_ ∧ FrameEnd U_ o_ V_ L_ ({ frames := 2, cells := 1, slots := 2, locals := 48 } : Room).cells ({ frames := 2, cells := 1, slots := 2, locals := 48 } : Room).slots) := by
  refine MetFree.of_bodySF (plainFor_of_name pn_0) hisR ?_
  intro p e s m args below meth c s₁ Bd hml0 hP hK
  obtain ⟨rfl, hZ, hh⟩ := hP
  have hx := Bd.exec
  have hby := Bd.bytes
  have hml : c.maxLocals = 8 := hml0
  have hown : s.vm.findClass "com/example/wynik/wynik/store/RangeLayout" = some m.cls := findClass_of_methodNamed Bd.named
  have hnm := (name_of_methodNamed Bd.named Bd.method).1
  have X0 : Stand p l e ({ frames := 2, cells := 1, slots := 2, locals := 48 } : Room) s m #[(.long t), (.long w)] below meth c s₁ [] 0 0 := Stand.of_body Bd
  have e0 : s₁.heap = h0 := by rw [← hh, Bd.state]; rfl
  have N0 := Fr.nil n0
  have K0 : Keep h0 h0 [] := Keep.refl _ _
  show own_Fin p.tables e below (own_Post (Q_rm_pe Z t w h0 n0) ({ frames := 2, cells := 1, slots := 2, locals := 48 } : Room).cells ({ frames := 2, cells := 1, slots := 2, locals := 48 } : Room).slots below s) _
  refine own_go (fun _ kk_ => castTop (ef_rm_pe m t w) kk_) ?_
  refine own_go (fun _ kk_ => XS.lloadN X0.here hx rfl (hb hby d4_0) rfl kk_) ?_
  refine own_go (fun _ kk_ => XS.lloadN X0.here hx rfl (hb hby d4_1) rfl kk_) ?_
  show own_Fin p.tables e below _ (s₁.setTop (mkF m 2 #[.val (.long t), .second, .val (.long w), .second, .unset, .unset, .unset, .unset] [(.long w), (.long t)]))
  obtain ⟨_, _, ⟨T4, L4, k4, n4⟩, -, X4, ⟨Lc4, hQ4, l4, y4, z4⟩, st4⟩ := Jvm.LawKit.callS X0 hx (y := (⟨"com/example/wynik/wynik/store/RangeLayout", "periodStart", "(JJ)J"⟩ : MethodName)) hown (mvT hZ (hw _ (List.mem_of_getElem? (i := 31) rfl))) (mvT hZ (hw _ (List.mem_of_getElem? (i := 32) rfl))) (mvT hZ (hw _ (List.mem_of_getElem? (i := 2) rfl))) (mvT hZ (hw _ (List.mem_of_getElem? (i := 33) rfl))) (by decide) (backOf (W := 0) (rm_ps l Z a0 hw [] t w  h0 n0 (Nat.le_trans Z0 K0.1) hw0) hZ (hw _ (List.mem_of_getElem? (i := 33) rfl)) (hw _ (List.mem_of_getElem? (i := 2) rfl)) (by decide) (by decide)) (g := (mkF m 2 #[.val (.long t), .second, .val (.long w), .second, .unset, .unset, .unset, .unset] [(.long w), (.long t)])) rfl (by rw [hml]; rfl) (argsL := [(.long t), (.long w)]) (rest := []) (lenOf pd_1 rfl) rfl (by show 2 * 0 + _ ≤ _; exact Nat.le_of_eq rfl) (hb hby d4_2) (fun _ _ => ⟨rfl, e0, (by decide : 0 + 0 ≤ _), (by decide : 0 + 0 ≤ _)⟩)
  dsimp only [Pt.U, Pt.locs, Pt.cells, Pt.slots] at X4 l4 y4 z4 st4 hQ4
  subst l4 y4 z4
  obtain ⟨rfl, N4q, e4⟩ := hQ4
  have N4 := Fr.app N0 N4q
  refine own_go st4 ?_
  refine own_go (fun _ kk_ => XS.lstore X4.here hx rfl (hb hby d4_5) rfl (l' := #[.val (.long t), .second, .val (.long w), .second, .val (.long (own_start t w)), .second, .unset, .unset]) rfl kk_) ?_
  refine own_go (fun _ kk_ => XS.lload X4.here hx rfl (hb hby d4_7) rfl kk_) ?_
  show own_Fin p.tables e below _ (T4.setTop (mkF m 9 #[.val (.long t), .second, .val (.long w), .second, .val (.long (own_start t w)), .second, .unset, .unset] [(.long (own_start t w))]))
  refine own_go (fun _ kk_ => Jvm.Stand.ldc2J X4 hx hown (mvT hZ (hw _ (List.mem_of_getElem? (i := 38) rfl))) (g := (mkF m 9 #[.val (.long t), .second, .val (.long w), .second, .val (.long (own_start t w)), .second, .unset, .unset] [(.long (own_start t w))])) rfl (hb hby d4_9) kk_) ?_
  refine own_go (fun _ kk_ => XS.lloadN X4.here hx rfl (hb hby d4_12) rfl kk_) ?_
  show own_Fin p.tables e below _ (T4.setTop (mkF m 13 #[.val (.long t), .second, .val (.long w), .second, .val (.long (own_start t w)), .second, .unset, .unset] [(.long w), (.long (9223372036854775807 : Int64)), (.long (own_start t w))]))
  refine own_go (fun _ kk_ => XS.lsub X4.here hx rfl (hb hby d4_13) rfl kk_) ?_
  show own_Fin p.tables e below _ (T4.setTop (mkF m 14 #[.val (.long t), .second, .val (.long w), .second, .val (.long (own_start t w)), .second, .unset, .unset] [(.long ((9223372036854775807 : Int64) - w)), (.long (own_start t w))]))
  refine own_go (fun _ kk_ => XS.lcmp X4.here hx rfl (hb hby d4_14) rfl kk_) ?_
  show own_Fin p.tables e below _ (T4.setTop (mkF m 15 #[.val (.long t), .second, .val (.long w), .second, .val (.long (own_start t w)), .second, .unset, .unset] [(.int (lcmpW (own_start t w) ((9223372036854775807 : Int64) - w)))]))
  by_cases hc5 : ((9223372036854775807 : Int64) - w) < (own_start t w)
  · skip
    refine own_go (fun _ kk_ => XS.ifNo X4.here hx rfl (hb hby d4_15) rfl (Jvm.Free.XT.ll_le_f hc5) kk_) ?_
    show own_Fin p.tables e below _ (T4.setTop (mkF m 18 #[.val (.long t), .second, .val (.long w), .second, .val (.long (own_start t w)), .second, .unset, .unset] []))
    refine own_go (fun _ kk_ => Jvm.Stand.ldc2J X4 hx hown (mvT hZ (hw _ (List.mem_of_getElem? (i := 38) rfl))) (g := (mkF m 18 #[.val (.long t), .second, .val (.long w), .second, .val (.long (own_start t w)), .second, .unset, .unset] [])) rfl (hb hby d4_18) kk_) ?_
    refine own_go (fun _ kk_ => XS.goto X4.here hx rfl (pc0 := 21) (pc' := 28) rfl (hb hby d4_21) (by decide) (by decide) kk_) ?_
    refine own_go (fun _ kk_ => XS.lstore X4.here hx rfl (hb hby d4_28) rfl (l' := #[.val (.long t), .second, .val (.long w), .second, .val (.long (own_start t w)), .second, .val (.long (9223372036854775807 : Int64)), .second]) rfl kk_) ?_
    refine own_go (fun _ kk_ => XS.iconst X4.here hx rfl (hb hby d4_30) kk_) ?_
    show own_Fin p.tables e below _ (T4.setTop (mkF m 31 #[.val (.long t), .second, .val (.long w), .second, .val (.long (own_start t w)), .second, .val (.long (9223372036854775807 : Int64)), .second] [(.int (2 : Int32))]))
    obtain ⟨T6, h6, k6, X6, e6, E6, A6, st6⟩ := newP X4 hx hZ (hw _ (List.mem_of_getElem? (i := 39) rfl)) e4 (g := (mkF m 31 #[.val (.long t), .second, .val (.long w), .second, .val (.long (own_start t w)), .second, .val (.long (9223372036854775807 : Int64)), .second] [(.int (2 : Int32))])) rfl (hb hby d4_31) rfl (by decide) (cap := 2) (by decide) (by decide) (by decide) (by decide)
    obtain ⟨b6, g6⟩ : ∃ z, z = h0.size := ⟨_, rfl⟩
    rw [← g6] at A6 st6
    have sz_b6 : h0.size ≤ b6 := Nat.le_trans K0.1 (Nat.le_of_eq g6.symm)
    have g_b6 : n0 ≤ b6 := Nat.le_trans Z0 sz_b6
    have K7 := K0.ext E6
    have V6 : Arv Z h6 b6 k6 .long (2 : Int32) [(.long (0 : Int64)), (.long (0 : Int64))] (.long (0 : Int64)) := (Arv.new A6 (by decide)).pad (pad_rep [] (.long (0 : Int64)) 2)
    refine own_go st6 ?_
    refine own_go (fun _ kk_ => XS.dup X6.here hx rfl (hb hby d4_33) rfl rfl kk_) ?_
    refine own_go (fun _ kk_ => XS.iconst X6.here hx rfl (hb hby d4_34) kk_) ?_
    refine own_go (fun _ kk_ => XS.lload X6.here hx rfl (hb hby d4_35) rfl kk_) ?_
    show own_Fin p.tables e below _ (T6.setTop (mkF m 37 #[.val (.long t), .second, .val (.long w), .second, .val (.long (own_start t w)), .second, .val (.long (9223372036854775807 : Int64)), .second] [(.long (own_start t w)), (.int (0 : Int32)), (.ref b6), (.ref b6)]))
    obtain ⟨T8, h8, X8, e8, W8, V8, st8⟩ := own_stJ X6 hx hZ e6 V6 (by decide) (i := 0) rfl (Nat.le_of_ble_eq_true rfl) (g := (mkF m 37 #[.val (.long t), .second, .val (.long w), .second, .val (.long (own_start t w)), .second, .val (.long (9223372036854775807 : Int64)), .second] [(.long (own_start t w)), (.int (0 : Int32)), (.ref b6), (.ref b6)])) rfl rfl (hb hby d4_37)
    replace V6 : Arv Z h8 b6 k6 .long (2 : Int32) [(.long (own_start t w)), (.long (0 : Int64))] (.long (0 : Int64)) := V8
    have N8 := Fr.snoc X8 N4 g_b6
    refine own_go st8 ?_
    have K9 := K7.wr W8 (Or.inr sz_b6)
    refine own_go (fun _ kk_ => XS.dup X8.here hx rfl (hb hby d4_38) rfl rfl kk_) ?_
    refine own_go (fun _ kk_ => XS.iconst X8.here hx rfl (hb hby d4_39) kk_) ?_
    refine own_go (fun _ kk_ => XS.lload X8.here hx rfl (hb hby d4_40) rfl kk_) ?_
    show own_Fin p.tables e below _ (T8.setTop (mkF m 42 #[.val (.long t), .second, .val (.long w), .second, .val (.long (own_start t w)), .second, .val (.long (9223372036854775807 : Int64)), .second] [(.long (9223372036854775807 : Int64)), (.int (1 : Int32)), (.ref b6), (.ref b6)]))
    obtain ⟨T10, h10, X10, e10, W10, V10, st10⟩ := own_stJ X8 hx hZ e8 V6 (by decide) (i := 1) rfl (Nat.le_of_ble_eq_true rfl) (g := (mkF m 42 #[.val (.long t), .second, .val (.long w), .second, .val (.long (own_start t w)), .second, .val (.long (9223372036854775807 : Int64)), .second] [(.long (9223372036854775807 : Int64)), (.int (1 : Int32)), (.ref b6), (.ref b6)])) rfl rfl (hb hby d4_42)
    replace V6 : Arv Z h10 b6 k6 .long (2 : Int32) [(.long (own_start t w)), (.long (9223372036854775807 : Int64))] (.long (0 : Int64)) := V10
    have N10 := Fr.snoc X10 N8 g_b6
    refine own_go st10 ?_
    have K11 := K9.wr W10 (Or.inr sz_b6)
    show own_Fin p.tables e below _ (T10.setTop (mkF m 43 #[.val (.long t), .second, .val (.long w), .second, .val (.long (own_start t w)), .second, .val (.long (9223372036854775807 : Int64)), .second] [(.ref b6)]))
    refine own_retA X10 hx Bd (t := (.array .long)) Bd.returns rfl rfl rfl (hb hby d4_43) ?_ (by decide) (by decide)
    show (Q_rm_pe Z t w h0 n0) (some (.ref b6)) T10.heap _
    rw [e10]
    refine ⟨_, k6, rfl, N10, K11, sz_b6, ?_⟩
    rw [own_stop_max hw0 hc5]
    exact V6
  · skip
    refine own_go (fun _ kk_ => XS.ifYes X4.here hx rfl (pc0 := 15) (pc' := 24) rfl (hb hby d4_15) rfl (Jvm.Free.XT.ll_le_t hc5) (by decide) (by decide) kk_) ?_
    refine own_go (fun _ kk_ => XS.lload X4.here hx rfl (hb hby d4_24) rfl kk_) ?_
    refine own_go (fun _ kk_ => XS.lloadN X4.here hx rfl (hb hby d4_26) rfl kk_) ?_
    show own_Fin p.tables e below _ (T4.setTop (mkF m 27 #[.val (.long t), .second, .val (.long w), .second, .val (.long (own_start t w)), .second, .unset, .unset] [(.long w), (.long (own_start t w))]))
    refine own_go (fun _ kk_ => XS.ladd X4.here hx rfl (hb hby d4_27) rfl kk_) ?_
    refine own_go (fun _ kk_ => XS.lstore X4.here hx rfl (hb hby d4_28) rfl (l' := #[.val (.long t), .second, .val (.long w), .second, .val (.long (own_start t w)), .second, .val (.long ((own_start t w) + w)), .second]) rfl kk_) ?_
    refine own_go (fun _ kk_ => XS.iconst X4.here hx rfl (hb hby d4_30) kk_) ?_
    show own_Fin p.tables e below _ (T4.setTop (mkF m 31 #[.val (.long t), .second, .val (.long w), .second, .val (.long (own_start t w)), .second, .val (.long ((own_start t w) + w)), .second] [(.int (2 : Int32))]))
    obtain ⟨T12, h12, k12, X12, e12, E12, A12, st12⟩ := newP X4 hx hZ (hw _ (List.mem_of_getElem? (i := 39) rfl)) e4 (g := (mkF m 31 #[.val (.long t), .second, .val (.long w), .second, .val (.long (own_start t w)), .second, .val (.long ((own_start t w) + w)), .second] [(.int (2 : Int32))])) rfl (hb hby d4_31) rfl (by decide) (cap := 2) (by decide) (by decide) (by decide) (by decide)
    obtain ⟨b12, g12⟩ : ∃ z, z = h0.size := ⟨_, rfl⟩
    rw [← g12] at A12 st12
    have sz_b12 : h0.size ≤ b12 := Nat.le_trans K0.1 (Nat.le_of_eq g12.symm)
    have g_b12 : n0 ≤ b12 := Nat.le_trans Z0 sz_b12
    have K13 := K0.ext E12
    have V12 : Arv Z h12 b12 k12 .long (2 : Int32) [(.long (0 : Int64)), (.long (0 : Int64))] (.long (0 : Int64)) := (Arv.new A12 (by decide)).pad (pad_rep [] (.long (0 : Int64)) 2)
    refine own_go st12 ?_
    refine own_go (fun _ kk_ => XS.dup X12.here hx rfl (hb hby d4_33) rfl rfl kk_) ?_
    refine own_go (fun _ kk_ => XS.iconst X12.here hx rfl (hb hby d4_34) kk_) ?_
    refine own_go (fun _ kk_ => XS.lload X12.here hx rfl (hb hby d4_35) rfl kk_) ?_
    show own_Fin p.tables e below _ (T12.setTop (mkF m 37 #[.val (.long t), .second, .val (.long w), .second, .val (.long (own_start t w)), .second, .val (.long ((own_start t w) + w)), .second] [(.long (own_start t w)), (.int (0 : Int32)), (.ref b12), (.ref b12)]))
    obtain ⟨T14, h14, X14, e14, W14, V14, st14⟩ := own_stJ X12 hx hZ e12 V12 (by decide) (i := 0) rfl (Nat.le_of_ble_eq_true rfl) (g := (mkF m 37 #[.val (.long t), .second, .val (.long w), .second, .val (.long (own_start t w)), .second, .val (.long ((own_start t w) + w)), .second] [(.long (own_start t w)), (.int (0 : Int32)), (.ref b12), (.ref b12)])) rfl rfl (hb hby d4_37)
    replace V12 : Arv Z h14 b12 k12 .long (2 : Int32) [(.long (own_start t w)), (.long (0 : Int64))] (.long (0 : Int64)) := V14
    have N14 := Fr.snoc X14 N4 g_b12
    refine own_go st14 ?_
    have K15 := K13.wr W14 (Or.inr sz_b12)
    refine own_go (fun _ kk_ => XS.dup X14.here hx rfl (hb hby d4_38) rfl rfl kk_) ?_
    refine own_go (fun _ kk_ => XS.iconst X14.here hx rfl (hb hby d4_39) kk_) ?_
    refine own_go (fun _ kk_ => XS.lload X14.here hx rfl (hb hby d4_40) rfl kk_) ?_
    show own_Fin p.tables e below _ (T14.setTop (mkF m 42 #[.val (.long t), .second, .val (.long w), .second, .val (.long (own_start t w)), .second, .val (.long ((own_start t w) + w)), .second] [(.long ((own_start t w) + w)), (.int (1 : Int32)), (.ref b12), (.ref b12)]))
    obtain ⟨T16, h16, X16, e16, W16, V16, st16⟩ := own_stJ X14 hx hZ e14 V12 (by decide) (i := 1) rfl (Nat.le_of_ble_eq_true rfl) (g := (mkF m 42 #[.val (.long t), .second, .val (.long w), .second, .val (.long (own_start t w)), .second, .val (.long ((own_start t w) + w)), .second] [(.long ((own_start t w) + w)), (.int (1 : Int32)), (.ref b12), (.ref b12)])) rfl rfl (hb hby d4_42)
    replace V12 : Arv Z h16 b12 k12 .long (2 : Int32) [(.long (own_start t w)), (.long ((own_start t w) + w))] (.long (0 : Int64)) := V16
    have N16 := Fr.snoc X16 N14 g_b12
    refine own_go st16 ?_
    have K17 := K15.wr W16 (Or.inr sz_b12)
    show own_Fin p.tables e below _ (T16.setTop (mkF m 43 #[.val (.long t), .second, .val (.long w), .second, .val (.long (own_start t w)), .second, .val (.long ((own_start t w) + w)), .second] [(.ref b12)]))
    refine own_retA X16 hx Bd (t := (.array .long)) Bd.returns rfl rfl rfl (hb hby d4_43) ?_ (by decide) (by decide)
    show (Q_rm_pe Z t w h0 n0) (some (.ref b12)) T16.heap _
    rw [e16]
    refine ⟨_, k12, rfl, N16, K17, sz_b12, ?_⟩
    rw [own_stop_add hw0 hc5]
    exact V12
def Q_rm_in (Z : State) (a : Addr) (v0 : Int64) (v1 : Int64) (v2 : Int64) (v3 : Int64) (v4 : Int64) (h0 : Heap) (n0 : Nat) (v : Option Value) (h : Heap) (L : List Loc) : Prop := v = none ∧ Fr n0 L ∧ Keep h0 h [a] ∧ Fld Z h a "com/example/wynik/wynik/store/RangeLayout" "width" "J" (.long v0) ∧ Fld Z h a "com/example/wynik/wynik/store/RangeLayout" "widest" "J" (.long v1) ∧ Fld Z h a "com/example/wynik/wynik/store/RangeLayout" "horizon" "J" (.long v2) ∧ Fld Z h a "com/example/wynik/wynik/store/RangeLayout" "from" "J" (.long v3) ∧ Fld Z h a "com/example/wynik/wynik/store/RangeLayout" "until" "J" (.long v4)
theorem ef_rm_in (m : MethodId) (a : Addr) (v0 : Int64) (v1 : Int64) (v2 : Int64) (v3 : Int64) (v4 : Int64) : entryFrame m #[(.ref a), (.long v0), (.long v1), (.long v2), (.long v3), (.long v4)] 11 = mkF m 0 #[.val (.ref a), .val (.long v0), .second, .val (.long v1), .second, .val (.long v2), .second, .val (.long v3), .second, .val (.long v4), .second] [] := by first | (simp [entryFrame, mkF, argsToLocals, Value.category]; done) | rfl
set_option maxRecDepth 65536 in
set_option maxHeartbeats 40000000 in
theorem rm_in (l : Launch) (Z : State) (a0 : Array Value) (hw : ∀ d ∈ tables_1, d.before a0 Z = true) (ws : List Jvm.Cond) (a : Addr) (v0 : Int64) (v1 : Int64) (v2 : Int64) (v3 : Int64) (v4 : Int64) (h0 : Heap) (n0 : Nat) (Z0 : n0 ≤ h0.size) (E_a : Exa Z h0 a "com/example/wynik/wynik/store/RangeLayout") (F_width : Fld Z h0 a "com/example/wynik/wynik/store/RangeLayout" "width" "J" (.long (0 : Int64))) (F_widest : Fld Z h0 a "com/example/wynik/wynik/store/RangeLayout" "widest" "J" (.long (0 : Int64))) (F_horizon : Fld Z h0 a "com/example/wynik/wynik/store/RangeLayout" "horizon" "J" (.long (0 : Int64))) (F_from : Fld Z h0 a "com/example/wynik/wynik/store/RangeLayout" "from" "J" (.long (0 : Int64))) (F_until : Fld Z h0 a "com/example/wynik/wynik/store/RangeLayout" "until" "J" (.long (0 : Int64))) (g_a : n0 ≤ a) :
    MetFree l (⟨"com/example/wynik/wynik/store/RangeLayout", "<init>", "(JJJJJ)V"⟩ : MethodName) (head1 (Jvm.Cond.code (⟨"com/example/wynik/wynik/store/RangeLayout", "<init>", "(JJJJJ)V"⟩ : MethodName) prog_54_method_1_code 11 none :: ws) ({ frames := 1, cells := 0, slots := 0, locals := 12 } : Room)) (fun a_ U_ => a_ = #[(.ref a), (.long v0), (.long v1), (.long v2), (.long v3), (.long v4)] ∧ Z.Warmed39 U_.vm ∧ U_.heap = h0) (fun _ _ _ _ _ => True) (fun _ U_ o_ V_ => ∃ v_ L_, o_ = .returned v_ ∧ (Q_rm_in Z a v0 v1 v2 v3 v4 h0 n0) v_ V_.heap L_ ∧ FrameEnd U_ o_ V_ L_ ({ frames := 1, cells := 0, slots := 0, locals := 12 } : Room).cells ({ frames := 1, cells := 0, slots := 0, locals := 12 } : Room).slots) := by
  refine MetFree.of_bodySF (plainFor_of_name pn_0) hisR ?_
  intro p e s m args below meth c s₁ Bd hml0 hP hK
  obtain ⟨rfl, hZ, hh⟩ := hP
  have hx := Bd.exec
  have hby := Bd.bytes
  have hml : c.maxLocals = 11 := hml0
  have hown : s.vm.findClass "com/example/wynik/wynik/store/RangeLayout" = some m.cls := findClass_of_methodNamed Bd.named
  have hnm := (name_of_methodNamed Bd.named Bd.method).1
  have X0 : Stand p l e ({ frames := 1, cells := 0, slots := 0, locals := 12 } : Room) s m #[(.ref a), (.long v0), (.long v1), (.long v2), (.long v3), (.long v4)] below meth c s₁ [] 0 0 := Stand.of_body Bd
  have e0 : s₁.heap = h0 := by rw [← hh, Bd.state]; rfl
  have N0 := Fr.nil n0
  have K0 : Keep h0 h0 [a] := Keep.refl _ _
  show own_Fin p.tables e below (own_Post (Q_rm_in Z a v0 v1 v2 v3 v4 h0 n0) ({ frames := 1, cells := 0, slots := 0, locals := 12 } : Room).cells ({ frames := 1, cells := 0, slots := 0, locals := 12 } : Room).slots below s) _
  refine own_go (fun _ kk_ => castTop (ef_rm_in m a v0 v1 v2 v3 v4) kk_) ?_
  refine own_go (fun _ kk_ => XS.aloadN X0.here hx rfl (hb hby d1_0) rfl rfl kk_) ?_
  show own_Fin p.tables e below _ (s₁.setTop (mkF m 1 #[.val (.ref a), .val (.long v0), .second, .val (.long v1), .second, .val (.long v2), .second, .val (.long v3), .second, .val (.long v4), .second] [(.ref a)]))
  obtain ⟨T18, X18, e18, st18⟩ := initO X0 hx hZ hown (hw _ (List.mem_of_getElem? (i := 6) rfl)) (hw _ (List.mem_of_getElem? (i := 7) rfl)) (hw _ (List.mem_of_getElem? (i := 8) rfl)) e0 (g := (mkF m 1 #[.val (.ref a), .val (.long v0), .second, .val (.long v1), .second, .val (.long v2), .second, .val (.long v3), .second, .val (.long v4), .second] [(.ref a)])) rfl (by rw [hml]; rfl) rfl (hb hby d1_1) (by decide) (W := 0) (by show 2 * 0 + _ ≤ _; exact Nat.le_of_eq rfl) (by decide)
  refine own_go st18 ?_
  refine own_go (fun _ kk_ => XS.aloadN X18.here hx rfl (hb hby d1_4) rfl rfl kk_) ?_
  refine own_go (fun _ kk_ => XS.lloadN X18.here hx rfl (hb hby d1_5) rfl kk_) ?_
  show own_Fin p.tables e below _ (T18.setTop (mkF m 6 #[.val (.ref a), .val (.long v0), .second, .val (.long v1), .second, .val (.long v2), .second, .val (.long v3), .second, .val (.long v4), .second] [(.long v0), (.ref a)]))
  obtain ⟨T19, h19, X19, e19, W19, st19⟩ := putF X18 hx hZ hown (host := "") (Or.inl (hw _ (List.mem_of_getElem? (i := 9) rfl))) Via.refl e18 F_width E_a (Or.inr ⟨(hw _ (List.mem_of_getElem? (i := 10) rfl)), rfl, hnm⟩) (hw _ (List.mem_of_getElem? (i := 1) rfl)) (ty := .long) (by decide) rfl rfl (g := (mkF m 6 #[.val (.ref a), .val (.long v0), .second, .val (.long v1), .second, .val (.long v2), .second, .val (.long v3), .second, .val (.long v4), .second] [(.long v0), (.ref a)])) rfl rfl (hb hby d1_6)
  have N19 := Fr.snoc X19 N0 g_a
  replace F_width := F_width.same W19
  refine own_go st19 ?_
  replace E_a := E_a.wr W19
  replace F_widest := F_widest.other W19 (Or.inr (slot_ne (Or.inr (hw _ (List.mem_of_getElem? (i := 12) rfl))) (Or.inr (hw _ (List.mem_of_getElem? (i := 10) rfl))) (by decide) (t := .long) (t' := .long) (by decide) (by decide)))
  replace F_horizon := F_horizon.other W19 (Or.inr (slot_ne (Or.inr (hw _ (List.mem_of_getElem? (i := 14) rfl))) (Or.inr (hw _ (List.mem_of_getElem? (i := 10) rfl))) (by decide) (t := .long) (t' := .long) (by decide) (by decide)))
  replace F_from := F_from.other W19 (Or.inr (slot_ne (Or.inr (hw _ (List.mem_of_getElem? (i := 16) rfl))) (Or.inr (hw _ (List.mem_of_getElem? (i := 10) rfl))) (by decide) (t := .long) (t' := .long) (by decide) (by decide)))
  replace F_until := F_until.other W19 (Or.inr (slot_ne (Or.inr (hw _ (List.mem_of_getElem? (i := 18) rfl))) (Or.inr (hw _ (List.mem_of_getElem? (i := 10) rfl))) (by decide) (t := .long) (t' := .long) (by decide) (by decide)))
  have K20 := K0.wr W19 (Or.inl (by simp))
  refine own_go (fun _ kk_ => XS.aloadN X19.here hx rfl (hb hby d1_9) rfl rfl kk_) ?_
  refine own_go (fun _ kk_ => XS.lloadN X19.here hx rfl (hb hby d1_10) rfl kk_) ?_
  show own_Fin p.tables e below _ (T19.setTop (mkF m 11 #[.val (.ref a), .val (.long v0), .second, .val (.long v1), .second, .val (.long v2), .second, .val (.long v3), .second, .val (.long v4), .second] [(.long v1), (.ref a)]))
  obtain ⟨T21, h21, X21, e21, W21, st21⟩ := putF X19 hx hZ hown (host := "") (Or.inl (hw _ (List.mem_of_getElem? (i := 11) rfl))) Via.refl e19 F_widest E_a (Or.inr ⟨(hw _ (List.mem_of_getElem? (i := 12) rfl)), rfl, hnm⟩) (hw _ (List.mem_of_getElem? (i := 1) rfl)) (ty := .long) (by decide) rfl rfl (g := (mkF m 11 #[.val (.ref a), .val (.long v0), .second, .val (.long v1), .second, .val (.long v2), .second, .val (.long v3), .second, .val (.long v4), .second] [(.long v1), (.ref a)])) rfl rfl (hb hby d1_11)
  have N21 := Fr.snoc X21 N19 g_a
  replace F_widest := F_widest.same W21
  refine own_go st21 ?_
  replace E_a := E_a.wr W21
  replace F_width := F_width.other W21 (Or.inr (slot_ne (Or.inr (hw _ (List.mem_of_getElem? (i := 10) rfl))) (Or.inr (hw _ (List.mem_of_getElem? (i := 12) rfl))) (by decide) (t := .long) (t' := .long) (by decide) (by decide)))
  replace F_horizon := F_horizon.other W21 (Or.inr (slot_ne (Or.inr (hw _ (List.mem_of_getElem? (i := 14) rfl))) (Or.inr (hw _ (List.mem_of_getElem? (i := 12) rfl))) (by decide) (t := .long) (t' := .long) (by decide) (by decide)))
  replace F_from := F_from.other W21 (Or.inr (slot_ne (Or.inr (hw _ (List.mem_of_getElem? (i := 16) rfl))) (Or.inr (hw _ (List.mem_of_getElem? (i := 12) rfl))) (by decide) (t := .long) (t' := .long) (by decide) (by decide)))
  replace F_until := F_until.other W21 (Or.inr (slot_ne (Or.inr (hw _ (List.mem_of_getElem? (i := 18) rfl))) (Or.inr (hw _ (List.mem_of_getElem? (i := 12) rfl))) (by decide) (t := .long) (t' := .long) (by decide) (by decide)))
  have K22 := K20.wr W21 (Or.inl (by simp))
  refine own_go (fun _ kk_ => XS.aloadN X21.here hx rfl (hb hby d1_14) rfl rfl kk_) ?_
  refine own_go (fun _ kk_ => XS.lload X21.here hx rfl (hb hby d1_15) rfl kk_) ?_
  show own_Fin p.tables e below _ (T21.setTop (mkF m 17 #[.val (.ref a), .val (.long v0), .second, .val (.long v1), .second, .val (.long v2), .second, .val (.long v3), .second, .val (.long v4), .second] [(.long v2), (.ref a)]))
  obtain ⟨T23, h23, X23, e23, W23, st23⟩ := putF X21 hx hZ hown (host := "") (Or.inl (hw _ (List.mem_of_getElem? (i := 13) rfl))) Via.refl e21 F_horizon E_a (Or.inr ⟨(hw _ (List.mem_of_getElem? (i := 14) rfl)), rfl, hnm⟩) (hw _ (List.mem_of_getElem? (i := 1) rfl)) (ty := .long) (by decide) rfl rfl (g := (mkF m 17 #[.val (.ref a), .val (.long v0), .second, .val (.long v1), .second, .val (.long v2), .second, .val (.long v3), .second, .val (.long v4), .second] [(.long v2), (.ref a)])) rfl rfl (hb hby d1_17)
  have N23 := Fr.snoc X23 N21 g_a
  replace F_horizon := F_horizon.same W23
  refine own_go st23 ?_
  replace E_a := E_a.wr W23
  replace F_width := F_width.other W23 (Or.inr (slot_ne (Or.inr (hw _ (List.mem_of_getElem? (i := 10) rfl))) (Or.inr (hw _ (List.mem_of_getElem? (i := 14) rfl))) (by decide) (t := .long) (t' := .long) (by decide) (by decide)))
  replace F_widest := F_widest.other W23 (Or.inr (slot_ne (Or.inr (hw _ (List.mem_of_getElem? (i := 12) rfl))) (Or.inr (hw _ (List.mem_of_getElem? (i := 14) rfl))) (by decide) (t := .long) (t' := .long) (by decide) (by decide)))
  replace F_from := F_from.other W23 (Or.inr (slot_ne (Or.inr (hw _ (List.mem_of_getElem? (i := 16) rfl))) (Or.inr (hw _ (List.mem_of_getElem? (i := 14) rfl))) (by decide) (t := .long) (t' := .long) (by decide) (by decide)))
  replace F_until := F_until.other W23 (Or.inr (slot_ne (Or.inr (hw _ (List.mem_of_getElem? (i := 18) rfl))) (Or.inr (hw _ (List.mem_of_getElem? (i := 14) rfl))) (by decide) (t := .long) (t' := .long) (by decide) (by decide)))
  have K24 := K22.wr W23 (Or.inl (by simp))
  refine own_go (fun _ kk_ => XS.aloadN X23.here hx rfl (hb hby d1_20) rfl rfl kk_) ?_
  refine own_go (fun _ kk_ => XS.lload X23.here hx rfl (hb hby d1_21) rfl kk_) ?_
  show own_Fin p.tables e below _ (T23.setTop (mkF m 23 #[.val (.ref a), .val (.long v0), .second, .val (.long v1), .second, .val (.long v2), .second, .val (.long v3), .second, .val (.long v4), .second] [(.long v3), (.ref a)]))
  obtain ⟨T25, h25, X25, e25, W25, st25⟩ := putF X23 hx hZ hown (host := "") (Or.inl (hw _ (List.mem_of_getElem? (i := 15) rfl))) Via.refl e23 F_from E_a (Or.inr ⟨(hw _ (List.mem_of_getElem? (i := 16) rfl)), rfl, hnm⟩) (hw _ (List.mem_of_getElem? (i := 1) rfl)) (ty := .long) (by decide) rfl rfl (g := (mkF m 23 #[.val (.ref a), .val (.long v0), .second, .val (.long v1), .second, .val (.long v2), .second, .val (.long v3), .second, .val (.long v4), .second] [(.long v3), (.ref a)])) rfl rfl (hb hby d1_23)
  have N25 := Fr.snoc X25 N23 g_a
  replace F_from := F_from.same W25
  refine own_go st25 ?_
  replace E_a := E_a.wr W25
  replace F_width := F_width.other W25 (Or.inr (slot_ne (Or.inr (hw _ (List.mem_of_getElem? (i := 10) rfl))) (Or.inr (hw _ (List.mem_of_getElem? (i := 16) rfl))) (by decide) (t := .long) (t' := .long) (by decide) (by decide)))
  replace F_widest := F_widest.other W25 (Or.inr (slot_ne (Or.inr (hw _ (List.mem_of_getElem? (i := 12) rfl))) (Or.inr (hw _ (List.mem_of_getElem? (i := 16) rfl))) (by decide) (t := .long) (t' := .long) (by decide) (by decide)))
  replace F_horizon := F_horizon.other W25 (Or.inr (slot_ne (Or.inr (hw _ (List.mem_of_getElem? (i := 14) rfl))) (Or.inr (hw _ (List.mem_of_getElem? (i := 16) rfl))) (by decide) (t := .long) (t' := .long) (by decide) (by decide)))
  replace F_until := F_until.other W25 (Or.inr (slot_ne (Or.inr (hw _ (List.mem_of_getElem? (i := 18) rfl))) (Or.inr (hw _ (List.mem_of_getElem? (i := 16) rfl))) (by decide) (t := .long) (t' := .long) (by decide) (by decide)))
  have K26 := K24.wr W25 (Or.inl (by simp))
  refine own_go (fun _ kk_ => XS.aloadN X25.here hx rfl (hb hby d1_26) rfl rfl kk_) ?_
  refine own_go (fun _ kk_ => XS.lload X25.here hx rfl (hb hby d1_27) rfl kk_) ?_
  show own_Fin p.tables e below _ (T25.setTop (mkF m 29 #[.val (.ref a), .val (.long v0), .second, .val (.long v1), .second, .val (.long v2), .second, .val (.long v3), .second, .val (.long v4), .second] [(.long v4), (.ref a)]))
  obtain ⟨T27, h27, X27, e27, W27, st27⟩ := putF X25 hx hZ hown (host := "") (Or.inl (hw _ (List.mem_of_getElem? (i := 17) rfl))) Via.refl e25 F_until E_a (Or.inr ⟨(hw _ (List.mem_of_getElem? (i := 18) rfl)), rfl, hnm⟩) (hw _ (List.mem_of_getElem? (i := 1) rfl)) (ty := .long) (by decide) rfl rfl (g := (mkF m 29 #[.val (.ref a), .val (.long v0), .second, .val (.long v1), .second, .val (.long v2), .second, .val (.long v3), .second, .val (.long v4), .second] [(.long v4), (.ref a)])) rfl rfl (hb hby d1_29)
  have N27 := Fr.snoc X27 N25 g_a
  replace F_until := F_until.same W27
  refine own_go st27 ?_
  replace E_a := E_a.wr W27
  replace F_width := F_width.other W27 (Or.inr (slot_ne (Or.inr (hw _ (List.mem_of_getElem? (i := 10) rfl))) (Or.inr (hw _ (List.mem_of_getElem? (i := 18) rfl))) (by decide) (t := .long) (t' := .long) (by decide) (by decide)))
  replace F_widest := F_widest.other W27 (Or.inr (slot_ne (Or.inr (hw _ (List.mem_of_getElem? (i := 12) rfl))) (Or.inr (hw _ (List.mem_of_getElem? (i := 18) rfl))) (by decide) (t := .long) (t' := .long) (by decide) (by decide)))
  replace F_horizon := F_horizon.other W27 (Or.inr (slot_ne (Or.inr (hw _ (List.mem_of_getElem? (i := 14) rfl))) (Or.inr (hw _ (List.mem_of_getElem? (i := 18) rfl))) (by decide) (t := .long) (t' := .long) (by decide) (by decide)))
  replace F_from := F_from.other W27 (Or.inr (slot_ne (Or.inr (hw _ (List.mem_of_getElem? (i := 16) rfl))) (Or.inr (hw _ (List.mem_of_getElem? (i := 18) rfl))) (by decide) (t := .long) (t' := .long) (by decide) (by decide)))
  have K28 := K26.wr W27 (Or.inl (by simp))
  show own_Fin p.tables e below _ (T27.setTop (mkF m 32 #[.val (.ref a), .val (.long v0), .second, .val (.long v1), .second, .val (.long v2), .second, .val (.long v3), .second, .val (.long v4), .second] []))
  refine own_ret0 X27 hx Bd (hb hby d1_32) ?_ (by decide) (by decide)
  show (Q_rm_in Z a v0 v1 v2 v3 v4 h0 n0) none T27.heap _
  rw [e27]
  exact ⟨rfl, N27, K28, F_width, F_widest, F_horizon, F_from, F_until⟩
def Q_rm_w (Z : State) (k : Int32) (h0 : Heap) (n0 : Nat) (v : Option Value) (h : Heap) (L : List Loc) : Prop := v = some (.long (own_w k)) ∧ Fr n0 L ∧ h = h0
theorem ef_rm_w (m : MethodId) (k : Int32) : entryFrame m #[(.int k)] 1 = mkF m 0 #[.val (.int k)] [] := by first | (simp [entryFrame, mkF, argsToLocals, Value.category]; done) | rfl
set_option maxRecDepth 65536 in
set_option maxHeartbeats 40000000 in
theorem rm_w (l : Launch) (Z : State) (a0 : Array Value) (hw : ∀ d ∈ tables_1, d.before a0 Z = true) (ws : List Jvm.Cond) (k : Int32) (h0 : Heap) (n0 : Nat) (Z0 : n0 ≤ h0.size) :
    MetFree l (⟨"com/example/wynik/wynik/store/RangeLayoutRangeAtPinLaw", "w", "(I)J"⟩ : MethodName) (head1 (Jvm.Cond.code (⟨"com/example/wynik/wynik/store/RangeLayoutRangeAtPinLaw", "w", "(I)J"⟩ : MethodName) method_3_code 1 (some .long) :: ws) ({ frames := 0, cells := 0, slots := 0, locals := 0 } : Room)) (fun a_ U_ => a_ = #[(.int k)] ∧ Z.Warmed39 U_.vm ∧ U_.heap = h0) (fun _ _ _ _ _ => True) (fun _ U_ o_ V_ => ∃ v_ L_, o_ = .returned v_ ∧ (Q_rm_w Z k h0 n0) v_ V_.heap L_ ∧ FrameEnd U_ o_ V_ L_ ({ frames := 0, cells := 0, slots := 0, locals := 0 } : Room).cells ({ frames := 0, cells := 0, slots := 0, locals := 0 } : Room).slots) := by
  refine MetFree.of_bodySF (plainFor_of_name pn_2) hisR ?_
  intro p e s m args below meth c s₁ Bd hml0 hP hK
  obtain ⟨rfl, hZ, hh⟩ := hP
  have hx := Bd.exec
  have hby := Bd.bytes
  have hml : c.maxLocals = 1 := hml0
  have hown : s.vm.findClass "com/example/wynik/wynik/store/RangeLayoutRangeAtPinLaw" = some m.cls := findClass_of_methodNamed Bd.named
  have hnm := (name_of_methodNamed Bd.named Bd.method).1
  have X0 : Stand p l e ({ frames := 0, cells := 0, slots := 0, locals := 0 } : Room) s m #[(.int k)] below meth c s₁ [] 0 0 := Stand.of_body Bd
  have e0 : s₁.heap = h0 := by rw [← hh, Bd.state]; rfl
  have N0 := Fr.nil n0
  have K0 : Keep h0 h0 [] := Keep.refl _ _
  show own_Fin p.tables e below (own_Post (Q_rm_w Z k h0 n0) ({ frames := 0, cells := 0, slots := 0, locals := 0 } : Room).cells ({ frames := 0, cells := 0, slots := 0, locals := 0 } : Room).slots below s) _
  refine own_go (fun _ kk_ => castTop (ef_rm_w m k) kk_) ?_
  refine own_go (fun _ kk_ => XS.iloadN X0.here hx rfl (hb hby d8_0) rfl kk_) ?_
  show own_Fin p.tables e below _ (s₁.setTop (mkF m 1 #[.val (.int k)] [(.int k)]))
  by_cases hc29 : k = (0 : Int32)
  · skip
    refine own_go (fun _ kk_ => XS.ifNo X0.here hx rfl (hb hby d8_1) rfl ((if0 _ _).trans (teq hc29).2) kk_) ?_
    show own_Fin p.tables e below _ (s₁.setTop (mkF m 4 #[.val (.int k)] []))
    refine own_go (fun _ kk_ => Jvm.Stand.ldc2J X0 hx hown (mvT hZ (hw _ (List.mem_of_getElem? (i := 47) rfl))) (g := (mkF m 4 #[.val (.int k)] [])) rfl (hb hby d8_4) kk_) ?_
    show own_Fin p.tables e below _ (s₁.setTop (mkF m 7 #[.val (.int k)] [(.long (60000000000 : Int64))]))
    refine own_retJ X0 hx Bd Bd.returns (hb hby d8_7) ?_ (by decide) (by decide)
    show (Q_rm_w Z k h0 n0) (some (.long (60000000000 : Int64))) s₁.heap _
    rw [e0]
    refine ⟨?_, N0, rfl⟩
    simp [own_w, hc29]
  · skip
    refine own_go (fun _ kk_ => XS.ifYes X0.here hx rfl (pc0 := 1) (pc' := 8) rfl (hb hby d8_1) rfl ((if0 _ _).trans (feq hc29).2) (by decide) (by decide) kk_) ?_
    refine own_go (fun _ kk_ => XS.iloadN X0.here hx rfl (hb hby d8_8) rfl kk_) ?_
    refine own_go (fun _ kk_ => XS.iconst X0.here hx rfl (hb hby d8_9) kk_) ?_
    show own_Fin p.tables e below _ (s₁.setTop (mkF m 10 #[.val (.int k)] [(.int (1 : Int32)), (.int k)]))
    by_cases hc30 : k = (1 : Int32)
    · skip
      refine own_go (fun _ kk_ => XS.icmpNo X0.here hx rfl (hb hby d8_10) rfl (teq hc30).2 kk_) ?_
      show own_Fin p.tables e below _ (s₁.setTop (mkF m 13 #[.val (.int k)] []))
      refine own_go (fun _ kk_ => Jvm.Stand.ldc2J X0 hx hown (mvT hZ (hw _ (List.mem_of_getElem? (i := 57) rfl))) (g := (mkF m 13 #[.val (.int k)] [])) rfl (hb hby d8_13) kk_) ?_
      show own_Fin p.tables e below _ (s₁.setTop (mkF m 16 #[.val (.int k)] [(.long (600000000000 : Int64))]))
      refine own_retJ X0 hx Bd Bd.returns (hb hby d8_16) ?_ (by decide) (by decide)
      show (Q_rm_w Z k h0 n0) (some (.long (600000000000 : Int64))) s₁.heap _
      rw [e0]
      refine ⟨?_, N0, rfl⟩
      simp [own_w, hc29, hc30]
    · skip
      refine own_go (fun _ kk_ => XS.icmpYes X0.here hx rfl (pc0 := 10) (pc' := 17) rfl (hb hby d8_10) rfl (feq hc30).2 (by decide) (by decide) kk_) ?_
      refine own_go (fun _ kk_ => XS.iloadN X0.here hx rfl (hb hby d8_17) rfl kk_) ?_
      refine own_go (fun _ kk_ => XS.iconst X0.here hx rfl (hb hby d8_18) kk_) ?_
      show own_Fin p.tables e below _ (s₁.setTop (mkF m 19 #[.val (.int k)] [(.int (2 : Int32)), (.int k)]))
      by_cases hc31 : k = (2 : Int32)
      · skip
        refine own_go (fun _ kk_ => XS.icmpNo X0.here hx rfl (hb hby d8_19) rfl (teq hc31).2 kk_) ?_
        show own_Fin p.tables e below _ (s₁.setTop (mkF m 22 #[.val (.int k)] []))
        refine own_go (fun _ kk_ => Jvm.Stand.ldc2J X0 hx hown (mvT hZ (hw _ (List.mem_of_getElem? (i := 58) rfl))) (g := (mkF m 22 #[.val (.int k)] [])) rfl (hb hby d8_22) kk_) ?_
        show own_Fin p.tables e below _ (s₁.setTop (mkF m 25 #[.val (.int k)] [(.long (3600000000000 : Int64))]))
        refine own_retJ X0 hx Bd Bd.returns (hb hby d8_25) ?_ (by decide) (by decide)
        show (Q_rm_w Z k h0 n0) (some (.long (3600000000000 : Int64))) s₁.heap _
        rw [e0]
        refine ⟨?_, N0, rfl⟩
        simp [own_w, hc29, hc30, hc31]
      · skip
        refine own_go (fun _ kk_ => XS.icmpYes X0.here hx rfl (pc0 := 19) (pc' := 26) rfl (hb hby d8_19) rfl (feq hc31).2 (by decide) (by decide) kk_) ?_
        refine own_go (fun _ kk_ => XS.iloadN X0.here hx rfl (hb hby d8_26) rfl kk_) ?_
        refine own_go (fun _ kk_ => XS.iconst X0.here hx rfl (hb hby d8_27) kk_) ?_
        show own_Fin p.tables e below _ (s₁.setTop (mkF m 28 #[.val (.int k)] [(.int (3 : Int32)), (.int k)]))
        by_cases hc32 : k = (3 : Int32)
        · skip
          refine own_go (fun _ kk_ => XS.icmpNo X0.here hx rfl (hb hby d8_28) rfl (teq hc32).2 kk_) ?_
          show own_Fin p.tables e below _ (s₁.setTop (mkF m 31 #[.val (.int k)] []))
          refine own_go (fun _ kk_ => Jvm.Stand.ldc2J X0 hx hown (mvT hZ (hw _ (List.mem_of_getElem? (i := 59) rfl))) (g := (mkF m 31 #[.val (.int k)] [])) rfl (hb hby d8_31) kk_) ?_
          show own_Fin p.tables e below _ (s₁.setTop (mkF m 34 #[.val (.int k)] [(.long (21600000000000 : Int64))]))
          refine own_retJ X0 hx Bd Bd.returns (hb hby d8_34) ?_ (by decide) (by decide)
          show (Q_rm_w Z k h0 n0) (some (.long (21600000000000 : Int64))) s₁.heap _
          rw [e0]
          refine ⟨?_, N0, rfl⟩
          simp [own_w, hc29, hc30, hc31, hc32]
        · skip
          refine own_go (fun _ kk_ => XS.icmpYes X0.here hx rfl (pc0 := 28) (pc' := 35) rfl (hb hby d8_28) rfl (feq hc32).2 (by decide) (by decide) kk_) ?_
          refine own_go (fun _ kk_ => XS.iloadN X0.here hx rfl (hb hby d8_35) rfl kk_) ?_
          refine own_go (fun _ kk_ => XS.iconst X0.here hx rfl (hb hby d8_36) kk_) ?_
          show own_Fin p.tables e below _ (s₁.setTop (mkF m 37 #[.val (.int k)] [(.int (4 : Int32)), (.int k)]))
          by_cases hc33 : k = (4 : Int32)
          · skip
            refine own_go (fun _ kk_ => XS.icmpNo X0.here hx rfl (hb hby d8_37) rfl (teq hc33).2 kk_) ?_
            show own_Fin p.tables e below _ (s₁.setTop (mkF m 40 #[.val (.int k)] []))
            refine own_go (fun _ kk_ => Jvm.Stand.ldc2J X0 hx hown (mvT hZ (hw _ (List.mem_of_getElem? (i := 60) rfl))) (g := (mkF m 40 #[.val (.int k)] [])) rfl (hb hby d8_40) kk_) ?_
            show own_Fin p.tables e below _ (s₁.setTop (mkF m 43 #[.val (.int k)] [(.long (86400000000000 : Int64))]))
            refine own_retJ X0 hx Bd Bd.returns (hb hby d8_43) ?_ (by decide) (by decide)
            show (Q_rm_w Z k h0 n0) (some (.long (86400000000000 : Int64))) s₁.heap _
            rw [e0]
            refine ⟨?_, N0, rfl⟩
            simp [own_w, hc29, hc30, hc31, hc32, hc33]
          · skip
            refine own_go (fun _ kk_ => XS.icmpYes X0.here hx rfl (pc0 := 37) (pc' := 44) rfl (hb hby d8_37) rfl (feq hc33).2 (by decide) (by decide) kk_) ?_
            refine own_go (fun _ kk_ => XS.iloadN X0.here hx rfl (hb hby d8_44) rfl kk_) ?_
            refine own_go (fun _ kk_ => XS.iconst X0.here hx rfl (hb hby d8_45) kk_) ?_
            show own_Fin p.tables e below _ (s₁.setTop (mkF m 46 #[.val (.int k)] [(.int (5 : Int32)), (.int k)]))
            by_cases hc34 : k = (5 : Int32)
            · skip
              refine own_go (fun _ kk_ => XS.icmpNo X0.here hx rfl (hb hby d8_46) rfl (teq hc34).2 kk_) ?_
              show own_Fin p.tables e below _ (s₁.setTop (mkF m 49 #[.val (.int k)] []))
              refine own_go (fun _ kk_ => Jvm.Stand.ldc2J X0 hx hown (mvT hZ (hw _ (List.mem_of_getElem? (i := 61) rfl))) (g := (mkF m 49 #[.val (.int k)] [])) rfl (hb hby d8_49) kk_) ?_
              show own_Fin p.tables e below _ (s₁.setTop (mkF m 52 #[.val (.int k)] [(.long (691200000000000 : Int64))]))
              refine own_retJ X0 hx Bd Bd.returns (hb hby d8_52) ?_ (by decide) (by decide)
              show (Q_rm_w Z k h0 n0) (some (.long (691200000000000 : Int64))) s₁.heap _
              rw [e0]
              refine ⟨?_, N0, rfl⟩
              simp [own_w, hc29, hc30, hc31, hc32, hc33, hc34]
            · skip
              refine own_go (fun _ kk_ => XS.icmpYes X0.here hx rfl (pc0 := 46) (pc' := 53) rfl (hb hby d8_46) rfl (feq hc34).2 (by decide) (by decide) kk_) ?_
              refine own_go (fun _ kk_ => XS.iloadN X0.here hx rfl (hb hby d8_53) rfl kk_) ?_
              refine own_go (fun _ kk_ => XS.bipush X0.here hx rfl (hb hby d8_54) kk_) ?_
              show own_Fin p.tables e below _ (s₁.setTop (mkF m 56 #[.val (.int k)] [(.int (6 : Int32)), (.int k)]))
              by_cases hc35 : k = (6 : Int32)
              · skip
                refine own_go (fun _ kk_ => XS.icmpNo X0.here hx rfl (hb hby d8_56) rfl (teq hc35).2 kk_) ?_
                show own_Fin p.tables e below _ (s₁.setTop (mkF m 59 #[.val (.int k)] []))
                refine own_go (fun _ kk_ => Jvm.Stand.ldc2J X0 hx hown (mvT hZ (hw _ (List.mem_of_getElem? (i := 62) rfl))) (g := (mkF m 59 #[.val (.int k)] [])) rfl (hb hby d8_59) kk_) ?_
                show own_Fin p.tables e below _ (s₁.setTop (mkF m 62 #[.val (.int k)] [(.long (5529600000000000 : Int64))]))
                refine own_retJ X0 hx Bd Bd.returns (hb hby d8_62) ?_ (by decide) (by decide)
                show (Q_rm_w Z k h0 n0) (some (.long (5529600000000000 : Int64))) s₁.heap _
                rw [e0]
                refine ⟨?_, N0, rfl⟩
                simp [own_w, hc29, hc30, hc31, hc32, hc33, hc34, hc35]
              · skip
                refine own_go (fun _ kk_ => XS.icmpYes X0.here hx rfl (pc0 := 56) (pc' := 63) rfl (hb hby d8_56) rfl (feq hc35).2 (by decide) (by decide) kk_) ?_
                refine own_go (fun _ kk_ => XS.iloadN X0.here hx rfl (hb hby d8_63) rfl kk_) ?_
                refine own_go (fun _ kk_ => XS.bipush X0.here hx rfl (hb hby d8_64) kk_) ?_
                show own_Fin p.tables e below _ (s₁.setTop (mkF m 66 #[.val (.int k)] [(.int (7 : Int32)), (.int k)]))
                by_cases hc36 : k = (7 : Int32)
                · skip
                  refine own_go (fun _ kk_ => XS.icmpNo X0.here hx rfl (hb hby d8_66) rfl (teq hc36).2 kk_) ?_
                  show own_Fin p.tables e below _ (s₁.setTop (mkF m 69 #[.val (.int k)] []))
                  refine own_go (fun _ kk_ => Jvm.Stand.ldc2J X0 hx hown (mvT hZ (hw _ (List.mem_of_getElem? (i := 63) rfl))) (g := (mkF m 69 #[.val (.int k)] [])) rfl (hb hby d8_69) kk_) ?_
                  show own_Fin p.tables e below _ (s₁.setTop (mkF m 72 #[.val (.int k)] [(.long (44236800000000000 : Int64))]))
                  refine own_retJ X0 hx Bd Bd.returns (hb hby d8_72) ?_ (by decide) (by decide)
                  show (Q_rm_w Z k h0 n0) (some (.long (44236800000000000 : Int64))) s₁.heap _
                  rw [e0]
                  refine ⟨?_, N0, rfl⟩
                  simp [own_w, hc29, hc30, hc31, hc32, hc33, hc34, hc35, hc36]
                · skip
                  refine own_go (fun _ kk_ => XS.icmpYes X0.here hx rfl (pc0 := 66) (pc' := 73) rfl (hb hby d8_66) rfl (feq hc36).2 (by decide) (by decide) kk_) ?_
                  show own_Fin p.tables e below _ (s₁.setTop (mkF m 73 #[.val (.int k)] []))
                  refine own_go (fun _ kk_ => Jvm.Stand.ldc2J X0 hx hown (mvT hZ (hw _ (List.mem_of_getElem? (i := 64) rfl))) (g := (mkF m 73 #[.val (.int k)] [])) rfl (hb hby d8_73) kk_) ?_
                  show own_Fin p.tables e below _ (s₁.setTop (mkF m 76 #[.val (.int k)] [(.long (353894400000000000 : Int64))]))
                  refine own_retJ X0 hx Bd Bd.returns (hb hby d8_76) ?_ (by decide) (by decide)
                  show (Q_rm_w Z k h0 n0) (some (.long (353894400000000000 : Int64))) s₁.heap _
                  rw [e0]
                  refine ⟨?_, N0, rfl⟩
                  simp [own_w, hc29, hc30, hc31, hc32, hc33, hc34, hc35, hc36]
def Q_rm_st (Z : State) (t : Int64) (w : Int64) (h0 : Heap) (n0 : Nat) (v : Option Value) (h : Heap) (L : List Loc) : Prop := v = some (.long (own_start t w)) ∧ Fr n0 L ∧ h = h0
theorem ef_rm_st (m : MethodId) (t : Int64) (w : Int64) : entryFrame m #[(.long t), (.long w)] 6 = mkF m 0 #[.val (.long t), .second, .val (.long w), .second, .unset, .unset] [] := by first | (simp [entryFrame, mkF, argsToLocals, Value.category]; done) | rfl
set_option maxRecDepth 65536 in
set_option maxHeartbeats 40000000 in
theorem rm_st (l : Launch) (Z : State) (a0 : Array Value) (hw : ∀ d ∈ tables_1, d.before a0 Z = true) (ws : List Jvm.Cond) (t : Int64) (w : Int64) (h0 : Heap) (n0 : Nat) (Z0 : n0 ≤ h0.size) (hw0 : 0 < w) :
    MetFree l (⟨"com/example/wynik/wynik/store/RangeLayoutRangeAtPinLaw", "start", "(JJ)J"⟩ : MethodName) (head1 (Jvm.Cond.code (⟨"com/example/wynik/wynik/store/RangeLayoutRangeAtPinLaw", "start", "(JJ)J"⟩ : MethodName) method_4_code 6 (some .long) :: ws) ({ frames := 0, cells := 0, slots := 0, locals := 0 } : Room)) (fun a_ U_ => a_ = #[(.long t), (.long w)] ∧ Z.Warmed39 U_.vm ∧ U_.heap = h0) (fun _ _ _ _ _ => True) (fun _ U_ o_ V_ => ∃ v_ L_, o_ = .returned v_ ∧ (Q_rm_st Z t w h0 n0) v_ V_.heap L_ ∧ FrameEnd U_ o_ V_ L_ ({ frames := 0, cells := 0, slots := 0, locals := 0 } : Room).cells ({ frames := 0, cells := 0, slots := 0, locals := 0 } : Room).slots) := by
  refine MetFree.of_bodySF (plainFor_of_name pn_2) hisR ?_
  intro p e s m args below meth c s₁ Bd hml0 hP hK
  obtain ⟨rfl, hZ, hh⟩ := hP
  have hx := Bd.exec
  have hby := Bd.bytes
  have hml : c.maxLocals = 6 := hml0
  have hown : s.vm.findClass "com/example/wynik/wynik/store/RangeLayoutRangeAtPinLaw" = some m.cls := findClass_of_methodNamed Bd.named
  have hnm := (name_of_methodNamed Bd.named Bd.method).1
  have X0 : Stand p l e ({ frames := 0, cells := 0, slots := 0, locals := 0 } : Room) s m #[(.long t), (.long w)] below meth c s₁ [] 0 0 := Stand.of_body Bd
  have e0 : s₁.heap = h0 := by rw [← hh, Bd.state]; rfl
  have N0 := Fr.nil n0
  have K0 : Keep h0 h0 [] := Keep.refl _ _
  show own_Fin p.tables e below (own_Post (Q_rm_st Z t w h0 n0) ({ frames := 0, cells := 0, slots := 0, locals := 0 } : Room).cells ({ frames := 0, cells := 0, slots := 0, locals := 0 } : Room).slots below s) _
  refine own_go (fun _ kk_ => castTop (ef_rm_st m t w) kk_) ?_
  refine own_go (fun _ kk_ => XS.lloadN X0.here hx rfl (hb hby d9_0) rfl kk_) ?_
  refine own_go (fun _ kk_ => XS.lloadN X0.here hx rfl (hb hby d9_1) rfl kk_) ?_
  show own_Fin p.tables e below _ (s₁.setTop (mkF m 2 #[.val (.long t), .second, .val (.long w), .second, .unset, .unset] [(.long w), (.long t)]))
  refine own_go (fun _ kk_ => XS.lrem X0.here hx rfl (hb hby d9_2) rfl (own_pos_ne hw0) kk_) ?_
  refine own_go (fun _ kk_ => XS.lstore X0.here hx rfl (hb hby d9_3) rfl (l' := #[.val (.long t), .second, .val (.long w), .second, .val (.long (t - (t / w) * w)), .second]) rfl kk_) ?_
  refine own_go (fun _ kk_ => XS.lload X0.here hx rfl (hb hby d9_5) rfl kk_) ?_
  refine own_go (fun _ kk_ => XS.lconst X0.here hx rfl (hb hby d9_7) kk_) ?_
  show own_Fin p.tables e below _ (s₁.setTop (mkF m 8 #[.val (.long t), .second, .val (.long w), .second, .val (.long (t - (t / w) * w)), .second] [(.long (0 : Int64)), (.long (t - (t / w) * w))]))
  refine own_go (fun _ kk_ => XS.lcmp X0.here hx rfl (hb hby d9_8) rfl kk_) ?_
  show own_Fin p.tables e below _ (s₁.setTop (mkF m 9 #[.val (.long t), .second, .val (.long w), .second, .val (.long (t - (t / w) * w)), .second] [(.int (lcmpW (t - (t / w) * w) (0 : Int64)))]))
  by_cases hc37 : (t - (t / w) * w) < (0 : Int64)
  · skip
    refine own_go (fun _ kk_ => XS.ifNo X0.here hx rfl (hb hby d9_9) rfl (Jvm.Free.XT.ll_ge_f hc37) kk_) ?_
    refine own_go (fun _ kk_ => XS.lload X0.here hx rfl (hb hby d9_12) rfl kk_) ?_
    refine own_go (fun _ kk_ => XS.lloadN X0.here hx rfl (hb hby d9_14) rfl kk_) ?_
    show own_Fin p.tables e below _ (s₁.setTop (mkF m 15 #[.val (.long t), .second, .val (.long w), .second, .val (.long (t - (t / w) * w)), .second] [(.long w), (.long (t - (t / w) * w))]))
    refine own_go (fun _ kk_ => XS.ladd X0.here hx rfl (hb hby d9_15) rfl kk_) ?_
    refine own_go (fun _ kk_ => XS.lstore X0.here hx rfl (hb hby d9_16) rfl (l' := #[.val (.long t), .second, .val (.long w), .second, .val (.long ((t - (t / w) * w) + w)), .second]) rfl kk_) ?_
    refine own_go (fun _ kk_ => XS.lloadN X0.here hx rfl (hb hby d9_18) rfl kk_) ?_
    refine own_go (fun _ kk_ => XS.lload X0.here hx rfl (hb hby d9_19) rfl kk_) ?_
    show own_Fin p.tables e below _ (s₁.setTop (mkF m 21 #[.val (.long t), .second, .val (.long w), .second, .val (.long ((t - (t / w) * w) + w)), .second] [(.long ((t - (t / w) * w) + w)), (.long t)]))
    refine own_go (fun _ kk_ => XS.lsub X0.here hx rfl (hb hby d9_21) rfl kk_) ?_
    show own_Fin p.tables e below _ (s₁.setTop (mkF m 22 #[.val (.long t), .second, .val (.long w), .second, .val (.long ((t - (t / w) * w) + w)), .second] [(.long (t - ((t - (t / w) * w) + w)))]))
    refine own_retJ X0 hx Bd Bd.returns (hb hby d9_22) ?_ (by decide) (by decide)
    show (Q_rm_st Z t w h0 n0) (some (.long (t - ((t - (t / w) * w) + w)))) s₁.heap _
    rw [e0]
    refine ⟨?_, N0, rfl⟩
    simp [own_start, own_fmod, own_rem, hc37]
  · skip
    refine own_go (fun _ kk_ => XS.ifYes X0.here hx rfl (pc0 := 9) (pc' := 18) rfl (hb hby d9_9) rfl (Jvm.Free.XT.ll_ge_t hc37) (by decide) (by decide) kk_) ?_
    refine own_go (fun _ kk_ => XS.lloadN X0.here hx rfl (hb hby d9_18) rfl kk_) ?_
    refine own_go (fun _ kk_ => XS.lload X0.here hx rfl (hb hby d9_19) rfl kk_) ?_
    show own_Fin p.tables e below _ (s₁.setTop (mkF m 21 #[.val (.long t), .second, .val (.long w), .second, .val (.long (t - (t / w) * w)), .second] [(.long (t - (t / w) * w)), (.long t)]))
    refine own_go (fun _ kk_ => XS.lsub X0.here hx rfl (hb hby d9_21) rfl kk_) ?_
    show own_Fin p.tables e below _ (s₁.setTop (mkF m 22 #[.val (.long t), .second, .val (.long w), .second, .val (.long (t - (t / w) * w)), .second] [(.long (t - (t - (t / w) * w)))]))
    refine own_retJ X0 hx Bd Bd.returns (hb hby d9_22) ?_ (by decide) (by decide)
    show (Q_rm_st Z t w h0 n0) (some (.long (t - (t - (t / w) * w)))) s₁.heap _
    rw [e0]
    refine ⟨?_, N0, rfl⟩
    simp [own_start, own_fmod, own_rem, hc37]
def Q_rm_sp (Z : State) (t : Int64) (w : Int64) (h0 : Heap) (n0 : Nat) (v : Option Value) (h : Heap) (L : List Loc) : Prop := v = some (.long (own_stop t w)) ∧ Fr n0 L ∧ h = h0
theorem ef_rm_sp (m : MethodId) (t : Int64) (w : Int64) : entryFrame m #[(.long t), (.long w)] 6 = mkF m 0 #[.val (.long t), .second, .val (.long w), .second, .unset, .unset] [] := by first | (simp [entryFrame, mkF, argsToLocals, Value.category]; done) | rfl
set_option maxRecDepth 65536 in
set_option maxHeartbeats 40000000 in
theorem rm_sp (l : Launch) (Z : State) (a0 : Array Value) (hw : ∀ d ∈ tables_1, d.before a0 Z = true) (ws : List Jvm.Cond) (t : Int64) (w : Int64) (h0 : Heap) (n0 : Nat) (Z0 : n0 ≤ h0.size) :
    MetFree l (⟨"com/example/wynik/wynik/store/RangeLayoutRangeAtPinLaw", "stop", "(JJ)J"⟩ : MethodName) (head1 (Jvm.Cond.code (⟨"com/example/wynik/wynik/store/RangeLayoutRangeAtPinLaw", "stop", "(JJ)J"⟩ : MethodName) method_5_code 6 (some .long) :: ws) ({ frames := 0, cells := 0, slots := 0, locals := 0 } : Room)) (fun a_ U_ => a_ = #[(.long t), (.long w)] ∧ Z.Warmed39 U_.vm ∧ U_.heap = h0) (fun _ _ _ _ _ => True) (fun _ U_ o_ V_ => ∃ v_ L_, o_ = .returned v_ ∧ (Q_rm_sp Z t w h0 n0) v_ V_.heap L_ ∧ FrameEnd U_ o_ V_ L_ ({ frames := 0, cells := 0, slots := 0, locals := 0 } : Room).cells ({ frames := 0, cells := 0, slots := 0, locals := 0 } : Room).slots) := by
  refine MetFree.of_bodySF (plainFor_of_name pn_2) hisR ?_
  intro p e s m args below meth c s₁ Bd hml0 hP hK
  obtain ⟨rfl, hZ, hh⟩ := hP
  have hx := Bd.exec
  have hby := Bd.bytes
  have hml : c.maxLocals = 6 := hml0
  have hown : s.vm.findClass "com/example/wynik/wynik/store/RangeLayoutRangeAtPinLaw" = some m.cls := findClass_of_methodNamed Bd.named
  have hnm := (name_of_methodNamed Bd.named Bd.method).1
  have X0 : Stand p l e ({ frames := 0, cells := 0, slots := 0, locals := 0 } : Room) s m #[(.long t), (.long w)] below meth c s₁ [] 0 0 := Stand.of_body Bd
  have e0 : s₁.heap = h0 := by rw [← hh, Bd.state]; rfl
  have N0 := Fr.nil n0
  have K0 : Keep h0 h0 [] := Keep.refl _ _
  show own_Fin p.tables e below (own_Post (Q_rm_sp Z t w h0 n0) ({ frames := 0, cells := 0, slots := 0, locals := 0 } : Room).cells ({ frames := 0, cells := 0, slots := 0, locals := 0 } : Room).slots below s) _
  refine own_go (fun _ kk_ => castTop (ef_rm_sp m t w) kk_) ?_
  refine own_go (fun _ kk_ => XS.lloadN X0.here hx rfl (hb hby d10_0) rfl kk_) ?_
  refine own_go (fun _ kk_ => XS.lloadN X0.here hx rfl (hb hby d10_1) rfl kk_) ?_
  show own_Fin p.tables e below _ (s₁.setTop (mkF m 2 #[.val (.long t), .second, .val (.long w), .second, .unset, .unset] [(.long w), (.long t)]))
  refine own_go (fun _ kk_ => XS.ladd X0.here hx rfl (hb hby d10_2) rfl kk_) ?_
  refine own_go (fun _ kk_ => XS.lstore X0.here hx rfl (hb hby d10_3) rfl (l' := #[.val (.long t), .second, .val (.long w), .second, .val (.long (t + w)), .second]) rfl kk_) ?_
  refine own_go (fun _ kk_ => XS.lload X0.here hx rfl (hb hby d10_5) rfl kk_) ?_
  refine own_go (fun _ kk_ => XS.lloadN X0.here hx rfl (hb hby d10_7) rfl kk_) ?_
  show own_Fin p.tables e below _ (s₁.setTop (mkF m 8 #[.val (.long t), .second, .val (.long w), .second, .val (.long (t + w)), .second] [(.long t), (.long (t + w))]))
  refine own_go (fun _ kk_ => XS.lcmp X0.here hx rfl (hb hby d10_8) rfl kk_) ?_
  show own_Fin p.tables e below _ (s₁.setTop (mkF m 9 #[.val (.long t), .second, .val (.long w), .second, .val (.long (t + w)), .second] [(.int (lcmpW (t + w) t))]))
  by_cases hc38 : (t + w) < t
  · skip
    refine own_go (fun _ kk_ => XS.ifNo X0.here hx rfl (hb hby d10_9) rfl (Jvm.Free.XT.ll_ge_f hc38) kk_) ?_
    show own_Fin p.tables e below _ (s₁.setTop (mkF m 12 #[.val (.long t), .second, .val (.long w), .second, .val (.long (t + w)), .second] []))
    refine own_go (fun _ kk_ => Jvm.Stand.ldc2J X0 hx hown (mvT hZ (hw _ (List.mem_of_getElem? (i := 65) rfl))) (g := (mkF m 12 #[.val (.long t), .second, .val (.long w), .second, .val (.long (t + w)), .second] [])) rfl (hb hby d10_12) kk_) ?_
    show own_Fin p.tables e below _ (s₁.setTop (mkF m 15 #[.val (.long t), .second, .val (.long w), .second, .val (.long (t + w)), .second] [(.long (9223372036854775807 : Int64))]))
    refine own_retJ X0 hx Bd Bd.returns (hb hby d10_15) ?_ (by decide) (by decide)
    show (Q_rm_sp Z t w h0 n0) (some (.long (9223372036854775807 : Int64))) s₁.heap _
    rw [e0]
    refine ⟨?_, N0, rfl⟩
    simp [own_stop, hc38]
  · skip
    refine own_go (fun _ kk_ => XS.ifYes X0.here hx rfl (pc0 := 9) (pc' := 16) rfl (hb hby d10_9) rfl (Jvm.Free.XT.ll_ge_t hc38) (by decide) (by decide) kk_) ?_
    refine own_go (fun _ kk_ => XS.lload X0.here hx rfl (hb hby d10_16) rfl kk_) ?_
    show own_Fin p.tables e below _ (s₁.setTop (mkF m 18 #[.val (.long t), .second, .val (.long w), .second, .val (.long (t + w)), .second] [(.long (t + w))]))
    refine own_retJ X0 hx Bd Bd.returns (hb hby d10_18) ?_ (by decide) (by decide)
    show (Q_rm_sp Z t w h0 n0) (some (.long (t + w))) s₁.heap _
    rw [e0]
    refine ⟨?_, N0, rfl⟩
    simp [own_stop, hc38]
def Q_rm_ok (Z : State) (k : Int32) (pa : Addr) (pk : ClassId) (v0 : Int64) (v1 : Int64) (v2 : Int64) (v3 : Int64) (v4 : Int64) (v5 : Int64) (h0 : Heap) (n0 : Nat) (v : Option Value) (h : Heap) (L : List Loc) : Prop := ∃ z : Int32, v = some (.int z) ∧ Fr n0 L ∧ h = h0 ∧ ((z = 1 ∧ own_ok (own_w k) v0 v1 v2 v3 v4 v5) ∨ (z = 0 ∧ ¬ own_ok (own_w k) v0 v1 v2 v3 v4 v5))
theorem ef_rm_ok (m : MethodId) (k : Int32) (pa : Addr) (v0 : Int64) (v1 : Int64) (v2 : Int64) (v3 : Int64) (v4 : Int64) (v5 : Int64) : entryFrame m #[(.int k), (.ref pa)] 8 = mkF m 0 #[.val (.int k), .val (.ref pa), .unset, .unset, .unset, .unset, .unset, .unset] [] := by first | (simp [entryFrame, mkF, argsToLocals, Value.category]; done) | rfl
set_option maxRecDepth 65536 in
set_option maxHeartbeats 40000000 in
theorem rm_ok (l : Launch) (Z : State) (a0 : Array Value) (hw : ∀ d ∈ tables_1, d.before a0 Z = true) (ws : List Jvm.Cond) (k : Int32) (pa : Addr) (pk : ClassId) (v0 : Int64) (v1 : Int64) (v2 : Int64) (v3 : Int64) (v4 : Int64) (v5 : Int64) (h0 : Heap) (n0 : Nat) (Z0 : n0 ≤ h0.size) (V_p : Arv Z h0 pa pk .long (6 : Int32) [.long v0, .long v1, .long v2, .long v3, .long v4, .long v5] (.long (0 : Int64))) :
    MetFree l (⟨"com/example/wynik/wynik/store/RangeLayoutRangeAtPinLaw", "ok", "(I[J)Z"⟩ : MethodName) (head1 (Jvm.Cond.code (⟨"com/example/wynik/wynik/store/RangeLayoutRangeAtPinLaw", "ok", "(I[J)Z"⟩ : MethodName) method_6_code 8 (some .boolean) :: ws) ({ frames := 1, cells := 0, slots := 0, locals := 24 } : Room)) (fun a_ U_ => a_ = #[(.int k), (.ref pa)] ∧ Z.Warmed39 U_.vm ∧ U_.heap = h0) (fun _ _ _ _ _ => True) (fun _ U_ o_ V_ => ∃ v_ L_, o_ = .returned v_ ∧ (Q_rm_ok Z k pa pk v0 v1 v2 v3 v4 v5 h0 n0) v_ V_.heap L_ ∧ FrameEnd U_ o_ V_ L_ ({ frames := 1, cells := 0, slots := 0, locals := 24 } : Room).cells ({ frames := 1, cells := 0, slots := 0, locals := 24 } : Room).slots) := by
  refine MetFree.of_bodySF (plainFor_of_name pn_2) hisR ?_
  intro p e s m args below meth c s₁ Bd hml0 hP hK
  obtain ⟨rfl, hZ, hh⟩ := hP
  have hx := Bd.exec
  have hby := Bd.bytes
  have hml : c.maxLocals = 8 := hml0
  have hown : s.vm.findClass "com/example/wynik/wynik/store/RangeLayoutRangeAtPinLaw" = some m.cls := findClass_of_methodNamed Bd.named
  have hnm := (name_of_methodNamed Bd.named Bd.method).1
  have X0 : Stand p l e ({ frames := 1, cells := 0, slots := 0, locals := 24 } : Room) s m #[(.int k), (.ref pa)] below meth c s₁ [] 0 0 := Stand.of_body Bd
  have e0 : s₁.heap = h0 := by rw [← hh, Bd.state]; rfl
  have N0 := Fr.nil n0
  have K0 : Keep h0 h0 [] := Keep.refl _ _
  show own_Fin p.tables e below (own_Post (Q_rm_ok Z k pa pk v0 v1 v2 v3 v4 v5 h0 n0) ({ frames := 1, cells := 0, slots := 0, locals := 24 } : Room).cells ({ frames := 1, cells := 0, slots := 0, locals := 24 } : Room).slots below s) _
  refine own_go (fun _ kk_ => castTop (ef_rm_ok m k pa v0 v1 v2 v3 v4 v5) kk_) ?_
  refine own_go (fun _ kk_ => XS.iloadN X0.here hx rfl (hb hby d11_0) rfl kk_) ?_
  show own_Fin p.tables e below _ (s₁.setTop (mkF m 1 #[.val (.int k), .val (.ref pa), .unset, .unset, .unset, .unset, .unset, .unset] [(.int k)]))
  obtain ⟨_, _, ⟨T39, L39, k39, n39⟩, -, X39, ⟨Lc39, hQ39, l39, y39, z39⟩, st39⟩ := Jvm.LawKit.callS X0 hx (y := (⟨"com/example/wynik/wynik/store/RangeLayoutRangeAtPinLaw", "w", "(I)J"⟩ : MethodName)) hown (mvT hZ (hw _ (List.mem_of_getElem? (i := 44) rfl))) (mvT hZ (hw _ (List.mem_of_getElem? (i := 45) rfl))) (mvT hZ (hw _ (List.mem_of_getElem? (i := 42) rfl))) (mvT hZ (hw _ (List.mem_of_getElem? (i := 46) rfl))) (by decide) (backOf (W := 0) (rm_w l Z a0 hw [] k  h0 n0 (Nat.le_trans Z0 K0.1) ) hZ (hw _ (List.mem_of_getElem? (i := 46) rfl)) (hw _ (List.mem_of_getElem? (i := 42) rfl)) (by decide) (by decide)) (g := (mkF m 1 #[.val (.int k), .val (.ref pa), .unset, .unset, .unset, .unset, .unset, .unset] [(.int k)])) rfl (by rw [hml]; rfl) (argsL := [(.int k)]) (rest := []) (lenOf pd_3 rfl) rfl (by show 2 * 0 + _ ≤ _; exact Nat.le_of_eq rfl) (hb hby d11_1) (fun _ _ => ⟨rfl, e0, (by decide : 0 + 0 ≤ _), (by decide : 0 + 0 ≤ _)⟩)
  dsimp only [Pt.U, Pt.locs, Pt.cells, Pt.slots] at X39 l39 y39 z39 st39 hQ39
  subst l39 y39 z39
  obtain ⟨rfl, N39q, e39⟩ := hQ39
  have N39 := Fr.app N0 N39q
  refine own_go st39 ?_
  refine own_go (fun _ kk_ => XS.lstoreN X39.here hx rfl (hb hby d11_4) rfl (l' := #[.val (.int k), .val (.ref pa), .val (.long (own_w k)), .second, .unset, .unset, .unset, .unset]) rfl kk_) ?_
  refine own_go (fun _ kk_ => XS.aloadN X39.here hx rfl (hb hby d11_5) rfl rfl kk_) ?_
  refine own_go (fun _ kk_ => XS.iconst X39.here hx rfl (hb hby d11_6) kk_) ?_
  show own_Fin p.tables e below _ (T39.setTop (mkF m 7 #[.val (.int k), .val (.ref pa), .val (.long (own_w k)), .second, .unset, .unset, .unset, .unset] [(.int (5 : Int32)), (.ref pa)]))
  refine own_go (fun _ kk_ => own_laload X39 hx hZ e39 V_p (by decide) (v := (.long v5)) (rfl) (g := (mkF m 7 #[.val (.int k), .val (.ref pa), .val (.long (own_w k)), .second, .unset, .unset, .unset, .unset] [(.int (5 : Int32)), (.ref pa)])) rfl rfl (hb hby d11_7) _ kk_) ?_
  refine own_go (fun _ kk_ => XS.lloadN X39.here hx rfl (hb hby d11_8) rfl kk_) ?_
  show own_Fin p.tables e below _ (T39.setTop (mkF m 9 #[.val (.int k), .val (.ref pa), .val (.long (own_w k)), .second, .unset, .unset, .unset, .unset] [(.long (own_w k)), (.long v5)]))
  obtain ⟨_, _, ⟨T40, L40, k40, n40⟩, -, X40, ⟨Lc40, hQ40, l40, y40, z40⟩, st40⟩ := Jvm.LawKit.callS X39 hx (y := (⟨"com/example/wynik/wynik/store/RangeLayoutRangeAtPinLaw", "start", "(JJ)J"⟩ : MethodName)) hown (mvT hZ (hw _ (List.mem_of_getElem? (i := 48) rfl))) (mvT hZ (hw _ (List.mem_of_getElem? (i := 49) rfl))) (mvT hZ (hw _ (List.mem_of_getElem? (i := 42) rfl))) (mvT hZ (hw _ (List.mem_of_getElem? (i := 50) rfl))) (by decide) (backOf (W := 0) (rm_st l Z a0 hw [] v5 (own_w k)  h0 n0 (Nat.le_trans Z0 K0.1) (own_w_pos _)) hZ (hw _ (List.mem_of_getElem? (i := 50) rfl)) (hw _ (List.mem_of_getElem? (i := 42) rfl)) (by decide) (by decide)) (g := (mkF m 9 #[.val (.int k), .val (.ref pa), .val (.long (own_w k)), .second, .unset, .unset, .unset, .unset] [(.long (own_w k)), (.long v5)])) rfl (by rw [hml]; rfl) (argsL := [(.long v5), (.long (own_w k))]) (rest := []) (lenOf pd_1 rfl) rfl (by show 2 * 0 + _ ≤ _; exact Nat.le_of_eq rfl) (hb hby d11_9) (fun _ _ => ⟨rfl, e39, (by decide : 0 + 0 ≤ _), (by decide : 0 + 0 ≤ _)⟩)
  dsimp only [Pt.U, Pt.locs, Pt.cells, Pt.slots] at X40 l40 y40 z40 st40 hQ40
  subst l40 y40 z40
  obtain ⟨rfl, N40q, e40⟩ := hQ40
  have N40 := Fr.app N39 N40q
  refine own_go st40 ?_
  refine own_go (fun _ kk_ => XS.lstore X40.here hx rfl (hb hby d11_12) rfl (l' := #[.val (.int k), .val (.ref pa), .val (.long (own_w k)), .second, .val (.long (own_start v5 (own_w k))), .second, .unset, .unset]) rfl kk_) ?_
  refine own_go (fun _ kk_ => XS.lload X40.here hx rfl (hb hby d11_14) rfl kk_) ?_
  refine own_go (fun _ kk_ => XS.lloadN X40.here hx rfl (hb hby d11_16) rfl kk_) ?_
  show own_Fin p.tables e below _ (T40.setTop (mkF m 17 #[.val (.int k), .val (.ref pa), .val (.long (own_w k)), .second, .val (.long (own_start v5 (own_w k))), .second, .unset, .unset] [(.long (own_w k)), (.long (own_start v5 (own_w k)))]))
  obtain ⟨_, _, ⟨T41, L41, k41, n41⟩, -, X41, ⟨Lc41, hQ41, l41, y41, z41⟩, st41⟩ := Jvm.LawKit.callS X40 hx (y := (⟨"com/example/wynik/wynik/store/RangeLayoutRangeAtPinLaw", "stop", "(JJ)J"⟩ : MethodName)) hown (mvT hZ (hw _ (List.mem_of_getElem? (i := 51) rfl))) (mvT hZ (hw _ (List.mem_of_getElem? (i := 52) rfl))) (mvT hZ (hw _ (List.mem_of_getElem? (i := 42) rfl))) (mvT hZ (hw _ (List.mem_of_getElem? (i := 53) rfl))) (by decide) (backOf (W := 0) (rm_sp l Z a0 hw [] (own_start v5 (own_w k)) (own_w k)  h0 n0 (Nat.le_trans Z0 K0.1) ) hZ (hw _ (List.mem_of_getElem? (i := 53) rfl)) (hw _ (List.mem_of_getElem? (i := 42) rfl)) (by decide) (by decide)) (g := (mkF m 17 #[.val (.int k), .val (.ref pa), .val (.long (own_w k)), .second, .val (.long (own_start v5 (own_w k))), .second, .unset, .unset] [(.long (own_w k)), (.long (own_start v5 (own_w k)))])) rfl (by rw [hml]; rfl) (argsL := [(.long (own_start v5 (own_w k))), (.long (own_w k))]) (rest := []) (lenOf pd_1 rfl) rfl (by show 2 * 0 + _ ≤ _; exact Nat.le_of_eq rfl) (hb hby d11_17) (fun _ _ => ⟨rfl, e40, (by decide : 0 + 0 ≤ _), (by decide : 0 + 0 ≤ _)⟩)
  dsimp only [Pt.U, Pt.locs, Pt.cells, Pt.slots] at X41 l41 y41 z41 st41 hQ41
  subst l41 y41 z41
  obtain ⟨rfl, N41q, e41⟩ := hQ41
  have N41 := Fr.app N40 N41q
  refine own_go st41 ?_
  refine own_go (fun _ kk_ => XS.lstore X41.here hx rfl (hb hby d11_20) rfl (l' := #[.val (.int k), .val (.ref pa), .val (.long (own_w k)), .second, .val (.long (own_start v5 (own_w k))), .second, .val (.long (own_stop (own_start v5 (own_w k)) (own_w k))), .second]) rfl kk_) ?_
  refine own_go (fun _ kk_ => XS.lloadN X41.here hx rfl (hb hby d11_22) rfl kk_) ?_
  refine own_go (fun _ kk_ => XS.aloadN X41.here hx rfl (hb hby d11_23) rfl rfl kk_) ?_
  refine own_go (fun _ kk_ => XS.iconst X41.here hx rfl (hb hby d11_24) kk_) ?_
  show own_Fin p.tables e below _ (T41.setTop (mkF m 25 #[.val (.int k), .val (.ref pa), .val (.long (own_w k)), .second, .val (.long (own_start v5 (own_w k))), .second, .val (.long (own_stop (own_start v5 (own_w k)) (own_w k))), .second] [(.int (1 : Int32)), (.ref pa), (.long (own_w k))]))
  refine own_go (fun _ kk_ => own_laload X41 hx hZ e41 V_p (by decide) (v := (.long v1)) (rfl) (g := (mkF m 25 #[.val (.int k), .val (.ref pa), .val (.long (own_w k)), .second, .val (.long (own_start v5 (own_w k))), .second, .val (.long (own_stop (own_start v5 (own_w k)) (own_w k))), .second] [(.int (1 : Int32)), (.ref pa), (.long (own_w k))])) rfl rfl (hb hby d11_25) _ kk_) ?_
  show own_Fin p.tables e below _ (T41.setTop (mkF m 26 #[.val (.int k), .val (.ref pa), .val (.long (own_w k)), .second, .val (.long (own_start v5 (own_w k))), .second, .val (.long (own_stop (own_start v5 (own_w k)) (own_w k))), .second] [(.long v1), (.long (own_w k))]))
  refine own_go (fun _ kk_ => XS.lcmp X41.here hx rfl (hb hby d11_26) rfl kk_) ?_
  show own_Fin p.tables e below _ (T41.setTop (mkF m 27 #[.val (.int k), .val (.ref pa), .val (.long (own_w k)), .second, .val (.long (own_start v5 (own_w k))), .second, .val (.long (own_stop (own_start v5 (own_w k)) (own_w k))), .second] [(.int (lcmpW (own_w k) v1))]))
  by_cases hc42 : v1 < (own_w k)
  · skip
    refine own_go (fun _ kk_ => XS.ifYes X41.here hx rfl (pc0 := 27) (pc' := 78) rfl (hb hby d11_27) rfl (Jvm.Free.XT.ll_gt_t hc42) (by decide) (by decide) kk_) ?_
    refine own_go (fun _ kk_ => XS.iconst X41.here hx rfl (hb hby d11_78) kk_) ?_
    show own_Fin p.tables e below _ (T41.setTop (mkF m 79 #[.val (.int k), .val (.ref pa), .val (.long (own_w k)), .second, .val (.long (own_start v5 (own_w k))), .second, .val (.long (own_stop (own_start v5 (own_w k)) (own_w k))), .second] [(.int (0 : Int32))]))
    refine own_retI X41 hx Bd (t := .boolean) Bd.returns rfl (by simp) (hb hby d11_79) ?_ (by decide) (by decide)
    show (Q_rm_ok Z k pa pk v0 v1 v2 v3 v4 v5 h0 n0) (some (.int (0 : Int32))) T41.heap _
    rw [e41]
    refine ⟨_, rfl, N41, rfl, ?_⟩
    exact Or.inr ⟨rfl, by simp [own_ok, hc42]⟩
  · skip
    refine own_go (fun _ kk_ => XS.ifNo X41.here hx rfl (hb hby d11_27) rfl (Jvm.Free.XT.ll_gt_f hc42) kk_) ?_
    refine own_go (fun _ kk_ => XS.lloadN X41.here hx rfl (hb hby d11_30) rfl kk_) ?_
    refine own_go (fun _ kk_ => XS.aloadN X41.here hx rfl (hb hby d11_31) rfl rfl kk_) ?_
    refine own_go (fun _ kk_ => XS.iconst X41.here hx rfl (hb hby d11_32) kk_) ?_
    show own_Fin p.tables e below _ (T41.setTop (mkF m 33 #[.val (.int k), .val (.ref pa), .val (.long (own_w k)), .second, .val (.long (own_start v5 (own_w k))), .second, .val (.long (own_stop (own_start v5 (own_w k)) (own_w k))), .second] [(.int (0 : Int32)), (.ref pa), (.long (own_w k))]))
    refine own_go (fun _ kk_ => own_laload X41 hx hZ e41 V_p (by decide) (v := (.long v0)) (rfl) (g := (mkF m 33 #[.val (.int k), .val (.ref pa), .val (.long (own_w k)), .second, .val (.long (own_start v5 (own_w k))), .second, .val (.long (own_stop (own_start v5 (own_w k)) (own_w k))), .second] [(.int (0 : Int32)), (.ref pa), (.long (own_w k))])) rfl rfl (hb hby d11_33) _ kk_) ?_
    show own_Fin p.tables e below _ (T41.setTop (mkF m 34 #[.val (.int k), .val (.ref pa), .val (.long (own_w k)), .second, .val (.long (own_start v5 (own_w k))), .second, .val (.long (own_stop (own_start v5 (own_w k)) (own_w k))), .second] [(.long v0), (.long (own_w k))]))
    refine own_go (fun _ kk_ => XS.lcmp X41.here hx rfl (hb hby d11_34) rfl kk_) ?_
    show own_Fin p.tables e below _ (T41.setTop (mkF m 35 #[.val (.int k), .val (.ref pa), .val (.long (own_w k)), .second, .val (.long (own_start v5 (own_w k))), .second, .val (.long (own_stop (own_start v5 (own_w k)) (own_w k))), .second] [(.int (lcmpW (own_w k) v0))]))
    by_cases hc43 : v0 < (own_w k)
    · skip
      refine own_go (fun _ kk_ => XS.ifNo X41.here hx rfl (hb hby d11_35) rfl (Jvm.Free.XT.ll_le_f hc43) kk_) ?_
      refine own_go (fun _ kk_ => XS.lload X41.here hx rfl (hb hby d11_38) rfl kk_) ?_
      refine own_go (fun _ kk_ => XS.aloadN X41.here hx rfl (hb hby d11_40) rfl rfl kk_) ?_
      refine own_go (fun _ kk_ => XS.iconst X41.here hx rfl (hb hby d11_41) kk_) ?_
      show own_Fin p.tables e below _ (T41.setTop (mkF m 42 #[.val (.int k), .val (.ref pa), .val (.long (own_w k)), .second, .val (.long (own_start v5 (own_w k))), .second, .val (.long (own_stop (own_start v5 (own_w k)) (own_w k))), .second] [(.int (2 : Int32)), (.ref pa), (.long (own_start v5 (own_w k)))]))
      refine own_go (fun _ kk_ => own_laload X41 hx hZ e41 V_p (by decide) (v := (.long v2)) (rfl) (g := (mkF m 42 #[.val (.int k), .val (.ref pa), .val (.long (own_w k)), .second, .val (.long (own_start v5 (own_w k))), .second, .val (.long (own_stop (own_start v5 (own_w k)) (own_w k))), .second] [(.int (2 : Int32)), (.ref pa), (.long (own_start v5 (own_w k)))])) rfl rfl (hb hby d11_42) _ kk_) ?_
      show own_Fin p.tables e below _ (T41.setTop (mkF m 43 #[.val (.int k), .val (.ref pa), .val (.long (own_w k)), .second, .val (.long (own_start v5 (own_w k))), .second, .val (.long (own_stop (own_start v5 (own_w k)) (own_w k))), .second] [(.long v2), (.long (own_start v5 (own_w k)))]))
      refine own_go (fun _ kk_ => XS.lcmp X41.here hx rfl (hb hby d11_43) rfl kk_) ?_
      show own_Fin p.tables e below _ (T41.setTop (mkF m 44 #[.val (.int k), .val (.ref pa), .val (.long (own_w k)), .second, .val (.long (own_start v5 (own_w k))), .second, .val (.long (own_stop (own_start v5 (own_w k)) (own_w k))), .second] [(.int (lcmpW (own_start v5 (own_w k)) v2))]))
      by_cases hc44 : v2 < (own_start v5 (own_w k))
      · skip
        refine own_go (fun _ kk_ => XS.ifNo X41.here hx rfl (hb hby d11_44) rfl (Jvm.Free.XT.ll_le_f hc44) kk_) ?_
        refine own_go (fun _ kk_ => XS.lload X41.here hx rfl (hb hby d11_47) rfl kk_) ?_
        refine own_go (fun _ kk_ => XS.aloadN X41.here hx rfl (hb hby d11_49) rfl rfl kk_) ?_
        refine own_go (fun _ kk_ => XS.iconst X41.here hx rfl (hb hby d11_50) kk_) ?_
        show own_Fin p.tables e below _ (T41.setTop (mkF m 51 #[.val (.int k), .val (.ref pa), .val (.long (own_w k)), .second, .val (.long (own_start v5 (own_w k))), .second, .val (.long (own_stop (own_start v5 (own_w k)) (own_w k))), .second] [(.int (5 : Int32)), (.ref pa), (.long (own_start v5 (own_w k)))]))
        refine own_go (fun _ kk_ => own_laload X41 hx hZ e41 V_p (by decide) (v := (.long v5)) (rfl) (g := (mkF m 51 #[.val (.int k), .val (.ref pa), .val (.long (own_w k)), .second, .val (.long (own_start v5 (own_w k))), .second, .val (.long (own_stop (own_start v5 (own_w k)) (own_w k))), .second] [(.int (5 : Int32)), (.ref pa), (.long (own_start v5 (own_w k)))])) rfl rfl (hb hby d11_51) _ kk_) ?_
        show own_Fin p.tables e below _ (T41.setTop (mkF m 52 #[.val (.int k), .val (.ref pa), .val (.long (own_w k)), .second, .val (.long (own_start v5 (own_w k))), .second, .val (.long (own_stop (own_start v5 (own_w k)) (own_w k))), .second] [(.long v5), (.long (own_start v5 (own_w k)))]))
        refine own_go (fun _ kk_ => XS.lcmp X41.here hx rfl (hb hby d11_52) rfl kk_) ?_
        show own_Fin p.tables e below _ (T41.setTop (mkF m 53 #[.val (.int k), .val (.ref pa), .val (.long (own_w k)), .second, .val (.long (own_start v5 (own_w k))), .second, .val (.long (own_stop (own_start v5 (own_w k)) (own_w k))), .second] [(.int (lcmpW (own_start v5 (own_w k)) v5))]))
        by_cases hc45 : v5 < (own_start v5 (own_w k))
        · skip
          refine own_go (fun _ kk_ => XS.ifYes X41.here hx rfl (pc0 := 53) (pc' := 78) rfl (hb hby d11_53) rfl (Jvm.Free.XT.ll_gt_t hc45) (by decide) (by decide) kk_) ?_
          refine own_go (fun _ kk_ => XS.iconst X41.here hx rfl (hb hby d11_78) kk_) ?_
          show own_Fin p.tables e below _ (T41.setTop (mkF m 79 #[.val (.int k), .val (.ref pa), .val (.long (own_w k)), .second, .val (.long (own_start v5 (own_w k))), .second, .val (.long (own_stop (own_start v5 (own_w k)) (own_w k))), .second] [(.int (0 : Int32))]))
          refine own_retI X41 hx Bd (t := .boolean) Bd.returns rfl (by simp) (hb hby d11_79) ?_ (by decide) (by decide)
          show (Q_rm_ok Z k pa pk v0 v1 v2 v3 v4 v5 h0 n0) (some (.int (0 : Int32))) T41.heap _
          rw [e41]
          refine ⟨_, rfl, N41, rfl, ?_⟩
          exact Or.inr ⟨rfl, by simp [own_ok, hc42, hc43, hc44, hc45]⟩
        · skip
          refine own_go (fun _ kk_ => XS.ifNo X41.here hx rfl (hb hby d11_53) rfl (Jvm.Free.XT.ll_gt_f hc45) kk_) ?_
          refine own_go (fun _ kk_ => XS.lload X41.here hx rfl (hb hby d11_56) rfl kk_) ?_
          refine own_go (fun _ kk_ => XS.aloadN X41.here hx rfl (hb hby d11_58) rfl rfl kk_) ?_
          refine own_go (fun _ kk_ => XS.iconst X41.here hx rfl (hb hby d11_59) kk_) ?_
          show own_Fin p.tables e below _ (T41.setTop (mkF m 60 #[.val (.int k), .val (.ref pa), .val (.long (own_w k)), .second, .val (.long (own_start v5 (own_w k))), .second, .val (.long (own_stop (own_start v5 (own_w k)) (own_w k))), .second] [(.int (3 : Int32)), (.ref pa), (.long (own_start v5 (own_w k)))]))
          refine own_go (fun _ kk_ => own_laload X41 hx hZ e41 V_p (by decide) (v := (.long v3)) (rfl) (g := (mkF m 60 #[.val (.int k), .val (.ref pa), .val (.long (own_w k)), .second, .val (.long (own_start v5 (own_w k))), .second, .val (.long (own_stop (own_start v5 (own_w k)) (own_w k))), .second] [(.int (3 : Int32)), (.ref pa), (.long (own_start v5 (own_w k)))])) rfl rfl (hb hby d11_60) _ kk_) ?_
          show own_Fin p.tables e below _ (T41.setTop (mkF m 61 #[.val (.int k), .val (.ref pa), .val (.long (own_w k)), .second, .val (.long (own_start v5 (own_w k))), .second, .val (.long (own_stop (own_start v5 (own_w k)) (own_w k))), .second] [(.long v3), (.long (own_start v5 (own_w k)))]))
          refine own_go (fun _ kk_ => XS.lcmp X41.here hx rfl (hb hby d11_61) rfl kk_) ?_
          show own_Fin p.tables e below _ (T41.setTop (mkF m 62 #[.val (.int k), .val (.ref pa), .val (.long (own_w k)), .second, .val (.long (own_start v5 (own_w k))), .second, .val (.long (own_stop (own_start v5 (own_w k)) (own_w k))), .second] [(.int (lcmpW (own_start v5 (own_w k)) v3))]))
          by_cases hc46 : (own_start v5 (own_w k)) < v3
          · skip
            refine own_go (fun _ kk_ => XS.ifYes X41.here hx rfl (pc0 := 62) (pc' := 78) rfl (hb hby d11_62) rfl (Jvm.Free.XT.ll_lt_t hc46) (by decide) (by decide) kk_) ?_
            refine own_go (fun _ kk_ => XS.iconst X41.here hx rfl (hb hby d11_78) kk_) ?_
            show own_Fin p.tables e below _ (T41.setTop (mkF m 79 #[.val (.int k), .val (.ref pa), .val (.long (own_w k)), .second, .val (.long (own_start v5 (own_w k))), .second, .val (.long (own_stop (own_start v5 (own_w k)) (own_w k))), .second] [(.int (0 : Int32))]))
            refine own_retI X41 hx Bd (t := .boolean) Bd.returns rfl (by simp) (hb hby d11_79) ?_ (by decide) (by decide)
            show (Q_rm_ok Z k pa pk v0 v1 v2 v3 v4 v5 h0 n0) (some (.int (0 : Int32))) T41.heap _
            rw [e41]
            refine ⟨_, rfl, N41, rfl, ?_⟩
            exact Or.inr ⟨rfl, by simp [own_ok, hc42, hc43, hc44, hc45, hc46]⟩
          · skip
            refine own_go (fun _ kk_ => XS.ifNo X41.here hx rfl (hb hby d11_62) rfl (Jvm.Free.XT.ll_lt_f hc46) kk_) ?_
            refine own_go (fun _ kk_ => XS.lload X41.here hx rfl (hb hby d11_65) rfl kk_) ?_
            refine own_go (fun _ kk_ => XS.aloadN X41.here hx rfl (hb hby d11_67) rfl rfl kk_) ?_
            refine own_go (fun _ kk_ => XS.iconst X41.here hx rfl (hb hby d11_68) kk_) ?_
            show own_Fin p.tables e below _ (T41.setTop (mkF m 69 #[.val (.int k), .val (.ref pa), .val (.long (own_w k)), .second, .val (.long (own_start v5 (own_w k))), .second, .val (.long (own_stop (own_start v5 (own_w k)) (own_w k))), .second] [(.int (4 : Int32)), (.ref pa), (.long (own_stop (own_start v5 (own_w k)) (own_w k)))]))
            refine own_go (fun _ kk_ => own_laload X41 hx hZ e41 V_p (by decide) (v := (.long v4)) (rfl) (g := (mkF m 69 #[.val (.int k), .val (.ref pa), .val (.long (own_w k)), .second, .val (.long (own_start v5 (own_w k))), .second, .val (.long (own_stop (own_start v5 (own_w k)) (own_w k))), .second] [(.int (4 : Int32)), (.ref pa), (.long (own_stop (own_start v5 (own_w k)) (own_w k)))])) rfl rfl (hb hby d11_69) _ kk_) ?_
            show own_Fin p.tables e below _ (T41.setTop (mkF m 70 #[.val (.int k), .val (.ref pa), .val (.long (own_w k)), .second, .val (.long (own_start v5 (own_w k))), .second, .val (.long (own_stop (own_start v5 (own_w k)) (own_w k))), .second] [(.long v4), (.long (own_stop (own_start v5 (own_w k)) (own_w k)))]))
            refine own_go (fun _ kk_ => XS.lcmp X41.here hx rfl (hb hby d11_70) rfl kk_) ?_
            show own_Fin p.tables e below _ (T41.setTop (mkF m 71 #[.val (.int k), .val (.ref pa), .val (.long (own_w k)), .second, .val (.long (own_start v5 (own_w k))), .second, .val (.long (own_stop (own_start v5 (own_w k)) (own_w k))), .second] [(.int (lcmpW (own_stop (own_start v5 (own_w k)) (own_w k)) v4))]))
            by_cases hc47 : v4 < (own_stop (own_start v5 (own_w k)) (own_w k))
            · skip
              refine own_go (fun _ kk_ => XS.ifYes X41.here hx rfl (pc0 := 71) (pc' := 78) rfl (hb hby d11_71) rfl (Jvm.Free.XT.ll_gt_t hc47) (by decide) (by decide) kk_) ?_
              refine own_go (fun _ kk_ => XS.iconst X41.here hx rfl (hb hby d11_78) kk_) ?_
              show own_Fin p.tables e below _ (T41.setTop (mkF m 79 #[.val (.int k), .val (.ref pa), .val (.long (own_w k)), .second, .val (.long (own_start v5 (own_w k))), .second, .val (.long (own_stop (own_start v5 (own_w k)) (own_w k))), .second] [(.int (0 : Int32))]))
              refine own_retI X41 hx Bd (t := .boolean) Bd.returns rfl (by simp) (hb hby d11_79) ?_ (by decide) (by decide)
              show (Q_rm_ok Z k pa pk v0 v1 v2 v3 v4 v5 h0 n0) (some (.int (0 : Int32))) T41.heap _
              rw [e41]
              refine ⟨_, rfl, N41, rfl, ?_⟩
              exact Or.inr ⟨rfl, by simp [own_ok, hc42, hc43, hc44, hc45, hc46, hc47]⟩
            · skip
              refine own_go (fun _ kk_ => XS.ifNo X41.here hx rfl (hb hby d11_71) rfl (Jvm.Free.XT.ll_gt_f hc47) kk_) ?_
              refine own_go (fun _ kk_ => XS.iconst X41.here hx rfl (hb hby d11_74) kk_) ?_
              refine own_go (fun _ kk_ => XS.goto X41.here hx rfl (pc0 := 75) (pc' := 79) rfl (hb hby d11_75) (by decide) (by decide) kk_) ?_
              show own_Fin p.tables e below _ (T41.setTop (mkF m 79 #[.val (.int k), .val (.ref pa), .val (.long (own_w k)), .second, .val (.long (own_start v5 (own_w k))), .second, .val (.long (own_stop (own_start v5 (own_w k)) (own_w k))), .second] [(.int (1 : Int32))]))
              refine own_retI X41 hx Bd (t := .boolean) Bd.returns rfl (by simp) (hb hby d11_79) ?_ (by decide) (by decide)
              show (Q_rm_ok Z k pa pk v0 v1 v2 v3 v4 v5 h0 n0) (some (.int (1 : Int32))) T41.heap _
              rw [e41]
              refine ⟨_, rfl, N41, rfl, ?_⟩
              exact Or.inl ⟨rfl, by simp [own_ok, hc42, hc43, hc44, hc45, hc46, hc47]⟩
      · skip
        refine own_go (fun _ kk_ => XS.ifYes X41.here hx rfl (pc0 := 44) (pc' := 78) rfl (hb hby d11_44) rfl (Jvm.Free.XT.ll_le_t hc44) (by decide) (by decide) kk_) ?_
        refine own_go (fun _ kk_ => XS.iconst X41.here hx rfl (hb hby d11_78) kk_) ?_
        show own_Fin p.tables e below _ (T41.setTop (mkF m 79 #[.val (.int k), .val (.ref pa), .val (.long (own_w k)), .second, .val (.long (own_start v5 (own_w k))), .second, .val (.long (own_stop (own_start v5 (own_w k)) (own_w k))), .second] [(.int (0 : Int32))]))
        refine own_retI X41 hx Bd (t := .boolean) Bd.returns rfl (by simp) (hb hby d11_79) ?_ (by decide) (by decide)
        show (Q_rm_ok Z k pa pk v0 v1 v2 v3 v4 v5 h0 n0) (some (.int (0 : Int32))) T41.heap _
        rw [e41]
        refine ⟨_, rfl, N41, rfl, ?_⟩
        exact Or.inr ⟨rfl, by simp [own_ok, hc42, hc43, hc44]⟩
    · skip
      refine own_go (fun _ kk_ => XS.ifYes X41.here hx rfl (pc0 := 35) (pc' := 47) rfl (hb hby d11_35) rfl (Jvm.Free.XT.ll_le_t hc43) (by decide) (by decide) kk_) ?_
      refine own_go (fun _ kk_ => XS.lload X41.here hx rfl (hb hby d11_47) rfl kk_) ?_
      refine own_go (fun _ kk_ => XS.aloadN X41.here hx rfl (hb hby d11_49) rfl rfl kk_) ?_
      refine own_go (fun _ kk_ => XS.iconst X41.here hx rfl (hb hby d11_50) kk_) ?_
      show own_Fin p.tables e below _ (T41.setTop (mkF m 51 #[.val (.int k), .val (.ref pa), .val (.long (own_w k)), .second, .val (.long (own_start v5 (own_w k))), .second, .val (.long (own_stop (own_start v5 (own_w k)) (own_w k))), .second] [(.int (5 : Int32)), (.ref pa), (.long (own_start v5 (own_w k)))]))
      refine own_go (fun _ kk_ => own_laload X41 hx hZ e41 V_p (by decide) (v := (.long v5)) (rfl) (g := (mkF m 51 #[.val (.int k), .val (.ref pa), .val (.long (own_w k)), .second, .val (.long (own_start v5 (own_w k))), .second, .val (.long (own_stop (own_start v5 (own_w k)) (own_w k))), .second] [(.int (5 : Int32)), (.ref pa), (.long (own_start v5 (own_w k)))])) rfl rfl (hb hby d11_51) _ kk_) ?_
      show own_Fin p.tables e below _ (T41.setTop (mkF m 52 #[.val (.int k), .val (.ref pa), .val (.long (own_w k)), .second, .val (.long (own_start v5 (own_w k))), .second, .val (.long (own_stop (own_start v5 (own_w k)) (own_w k))), .second] [(.long v5), (.long (own_start v5 (own_w k)))]))
      refine own_go (fun _ kk_ => XS.lcmp X41.here hx rfl (hb hby d11_52) rfl kk_) ?_
      show own_Fin p.tables e below _ (T41.setTop (mkF m 53 #[.val (.int k), .val (.ref pa), .val (.long (own_w k)), .second, .val (.long (own_start v5 (own_w k))), .second, .val (.long (own_stop (own_start v5 (own_w k)) (own_w k))), .second] [(.int (lcmpW (own_start v5 (own_w k)) v5))]))
      by_cases hc48 : v5 < (own_start v5 (own_w k))
      · skip
        refine own_go (fun _ kk_ => XS.ifYes X41.here hx rfl (pc0 := 53) (pc' := 78) rfl (hb hby d11_53) rfl (Jvm.Free.XT.ll_gt_t hc48) (by decide) (by decide) kk_) ?_
        refine own_go (fun _ kk_ => XS.iconst X41.here hx rfl (hb hby d11_78) kk_) ?_
        show own_Fin p.tables e below _ (T41.setTop (mkF m 79 #[.val (.int k), .val (.ref pa), .val (.long (own_w k)), .second, .val (.long (own_start v5 (own_w k))), .second, .val (.long (own_stop (own_start v5 (own_w k)) (own_w k))), .second] [(.int (0 : Int32))]))
        refine own_retI X41 hx Bd (t := .boolean) Bd.returns rfl (by simp) (hb hby d11_79) ?_ (by decide) (by decide)
        show (Q_rm_ok Z k pa pk v0 v1 v2 v3 v4 v5 h0 n0) (some (.int (0 : Int32))) T41.heap _
        rw [e41]
        refine ⟨_, rfl, N41, rfl, ?_⟩
        exact Or.inr ⟨rfl, by simp [own_ok, hc42, hc43, hc48]⟩
      · skip
        refine own_go (fun _ kk_ => XS.ifNo X41.here hx rfl (hb hby d11_53) rfl (Jvm.Free.XT.ll_gt_f hc48) kk_) ?_
        refine own_go (fun _ kk_ => XS.lload X41.here hx rfl (hb hby d11_56) rfl kk_) ?_
        refine own_go (fun _ kk_ => XS.aloadN X41.here hx rfl (hb hby d11_58) rfl rfl kk_) ?_
        refine own_go (fun _ kk_ => XS.iconst X41.here hx rfl (hb hby d11_59) kk_) ?_
        show own_Fin p.tables e below _ (T41.setTop (mkF m 60 #[.val (.int k), .val (.ref pa), .val (.long (own_w k)), .second, .val (.long (own_start v5 (own_w k))), .second, .val (.long (own_stop (own_start v5 (own_w k)) (own_w k))), .second] [(.int (3 : Int32)), (.ref pa), (.long (own_start v5 (own_w k)))]))
        refine own_go (fun _ kk_ => own_laload X41 hx hZ e41 V_p (by decide) (v := (.long v3)) (rfl) (g := (mkF m 60 #[.val (.int k), .val (.ref pa), .val (.long (own_w k)), .second, .val (.long (own_start v5 (own_w k))), .second, .val (.long (own_stop (own_start v5 (own_w k)) (own_w k))), .second] [(.int (3 : Int32)), (.ref pa), (.long (own_start v5 (own_w k)))])) rfl rfl (hb hby d11_60) _ kk_) ?_
        show own_Fin p.tables e below _ (T41.setTop (mkF m 61 #[.val (.int k), .val (.ref pa), .val (.long (own_w k)), .second, .val (.long (own_start v5 (own_w k))), .second, .val (.long (own_stop (own_start v5 (own_w k)) (own_w k))), .second] [(.long v3), (.long (own_start v5 (own_w k)))]))
        refine own_go (fun _ kk_ => XS.lcmp X41.here hx rfl (hb hby d11_61) rfl kk_) ?_
        show own_Fin p.tables e below _ (T41.setTop (mkF m 62 #[.val (.int k), .val (.ref pa), .val (.long (own_w k)), .second, .val (.long (own_start v5 (own_w k))), .second, .val (.long (own_stop (own_start v5 (own_w k)) (own_w k))), .second] [(.int (lcmpW (own_start v5 (own_w k)) v3))]))
        by_cases hc49 : (own_start v5 (own_w k)) < v3
        · skip
          refine own_go (fun _ kk_ => XS.ifYes X41.here hx rfl (pc0 := 62) (pc' := 78) rfl (hb hby d11_62) rfl (Jvm.Free.XT.ll_lt_t hc49) (by decide) (by decide) kk_) ?_
          refine own_go (fun _ kk_ => XS.iconst X41.here hx rfl (hb hby d11_78) kk_) ?_
          show own_Fin p.tables e below _ (T41.setTop (mkF m 79 #[.val (.int k), .val (.ref pa), .val (.long (own_w k)), .second, .val (.long (own_start v5 (own_w k))), .second, .val (.long (own_stop (own_start v5 (own_w k)) (own_w k))), .second] [(.int (0 : Int32))]))
          refine own_retI X41 hx Bd (t := .boolean) Bd.returns rfl (by simp) (hb hby d11_79) ?_ (by decide) (by decide)
          show (Q_rm_ok Z k pa pk v0 v1 v2 v3 v4 v5 h0 n0) (some (.int (0 : Int32))) T41.heap _
          rw [e41]
          refine ⟨_, rfl, N41, rfl, ?_⟩
          exact Or.inr ⟨rfl, by simp [own_ok, hc42, hc43, hc48, hc49]⟩
        · skip
          refine own_go (fun _ kk_ => XS.ifNo X41.here hx rfl (hb hby d11_62) rfl (Jvm.Free.XT.ll_lt_f hc49) kk_) ?_
          refine own_go (fun _ kk_ => XS.lload X41.here hx rfl (hb hby d11_65) rfl kk_) ?_
          refine own_go (fun _ kk_ => XS.aloadN X41.here hx rfl (hb hby d11_67) rfl rfl kk_) ?_
          refine own_go (fun _ kk_ => XS.iconst X41.here hx rfl (hb hby d11_68) kk_) ?_
          show own_Fin p.tables e below _ (T41.setTop (mkF m 69 #[.val (.int k), .val (.ref pa), .val (.long (own_w k)), .second, .val (.long (own_start v5 (own_w k))), .second, .val (.long (own_stop (own_start v5 (own_w k)) (own_w k))), .second] [(.int (4 : Int32)), (.ref pa), (.long (own_stop (own_start v5 (own_w k)) (own_w k)))]))
          refine own_go (fun _ kk_ => own_laload X41 hx hZ e41 V_p (by decide) (v := (.long v4)) (rfl) (g := (mkF m 69 #[.val (.int k), .val (.ref pa), .val (.long (own_w k)), .second, .val (.long (own_start v5 (own_w k))), .second, .val (.long (own_stop (own_start v5 (own_w k)) (own_w k))), .second] [(.int (4 : Int32)), (.ref pa), (.long (own_stop (own_start v5 (own_w k)) (own_w k)))])) rfl rfl (hb hby d11_69) _ kk_) ?_
          show own_Fin p.tables e below _ (T41.setTop (mkF m 70 #[.val (.int k), .val (.ref pa), .val (.long (own_w k)), .second, .val (.long (own_start v5 (own_w k))), .second, .val (.long (own_stop (own_start v5 (own_w k)) (own_w k))), .second] [(.long v4), (.long (own_stop (own_start v5 (own_w k)) (own_w k)))]))
          refine own_go (fun _ kk_ => XS.lcmp X41.here hx rfl (hb hby d11_70) rfl kk_) ?_
          show own_Fin p.tables e below _ (T41.setTop (mkF m 71 #[.val (.int k), .val (.ref pa), .val (.long (own_w k)), .second, .val (.long (own_start v5 (own_w k))), .second, .val (.long (own_stop (own_start v5 (own_w k)) (own_w k))), .second] [(.int (lcmpW (own_stop (own_start v5 (own_w k)) (own_w k)) v4))]))
          by_cases hc50 : v4 < (own_stop (own_start v5 (own_w k)) (own_w k))
          · skip
            refine own_go (fun _ kk_ => XS.ifYes X41.here hx rfl (pc0 := 71) (pc' := 78) rfl (hb hby d11_71) rfl (Jvm.Free.XT.ll_gt_t hc50) (by decide) (by decide) kk_) ?_
            refine own_go (fun _ kk_ => XS.iconst X41.here hx rfl (hb hby d11_78) kk_) ?_
            show own_Fin p.tables e below _ (T41.setTop (mkF m 79 #[.val (.int k), .val (.ref pa), .val (.long (own_w k)), .second, .val (.long (own_start v5 (own_w k))), .second, .val (.long (own_stop (own_start v5 (own_w k)) (own_w k))), .second] [(.int (0 : Int32))]))
            refine own_retI X41 hx Bd (t := .boolean) Bd.returns rfl (by simp) (hb hby d11_79) ?_ (by decide) (by decide)
            show (Q_rm_ok Z k pa pk v0 v1 v2 v3 v4 v5 h0 n0) (some (.int (0 : Int32))) T41.heap _
            rw [e41]
            refine ⟨_, rfl, N41, rfl, ?_⟩
            exact Or.inr ⟨rfl, by simp [own_ok, hc42, hc43, hc48, hc49, hc50]⟩
          · skip
            refine own_go (fun _ kk_ => XS.ifNo X41.here hx rfl (hb hby d11_71) rfl (Jvm.Free.XT.ll_gt_f hc50) kk_) ?_
            refine own_go (fun _ kk_ => XS.iconst X41.here hx rfl (hb hby d11_74) kk_) ?_
            refine own_go (fun _ kk_ => XS.goto X41.here hx rfl (pc0 := 75) (pc' := 79) rfl (hb hby d11_75) (by decide) (by decide) kk_) ?_
            show own_Fin p.tables e below _ (T41.setTop (mkF m 79 #[.val (.int k), .val (.ref pa), .val (.long (own_w k)), .second, .val (.long (own_start v5 (own_w k))), .second, .val (.long (own_stop (own_start v5 (own_w k)) (own_w k))), .second] [(.int (1 : Int32))]))
            refine own_retI X41 hx Bd (t := .boolean) Bd.returns rfl (by simp) (hb hby d11_79) ?_ (by decide) (by decide)
            show (Q_rm_ok Z k pa pk v0 v1 v2 v3 v4 v5 h0 n0) (some (.int (1 : Int32))) T41.heap _
            rw [e41]
            refine ⟨_, rfl, N41, rfl, ?_⟩
            exact Or.inl ⟨rfl, by simp [own_ok, hc42, hc43, hc48, hc49, hc50]⟩
def Q_rm_fi (Z : State) (ra : Addr) (k : Int32) (pa : Addr) (rk : ClassId) (pk : ClassId) (r0 : Int64) (r1 : Int64) (v0 : Int64) (v1 : Int64) (v2 : Int64) (v3 : Int64) (v4 : Int64) (v5 : Int64) (h0 : Heap) (n0 : Nat) (v : Option Value) (h : Heap) (L : List Loc) : Prop := ∃ z : Int32, v = some (.int z) ∧ Fr n0 L ∧ h = h0 ∧ (z = 0 ∨ z = 1) ∧ (own_fits k r0 r1 v0 v1 v2 v3 v4 v5 → z = 1)
theorem ef_rm_fi (m : MethodId) (ra : Addr) (k : Int32) (pa : Addr) (r0 : Int64) (r1 : Int64) (v0 : Int64) (v1 : Int64) (v2 : Int64) (v3 : Int64) (v4 : Int64) (v5 : Int64) : entryFrame m #[(.ref ra), (.int k), (.ref pa)] 11 = mkF m 0 #[.val (.ref ra), .val (.int k), .val (.ref pa), .unset, .unset, .unset, .unset, .unset, .unset, .unset, .unset] [] := by first | (simp [entryFrame, mkF, argsToLocals, Value.category]; done) | rfl
set_option maxRecDepth 65536 in
set_option maxHeartbeats 40000000 in
theorem rm_fi (l : Launch) (Z : State) (a0 : Array Value) (hw : ∀ d ∈ tables_1, d.before a0 Z = true) (ws : List Jvm.Cond) (ra : Addr) (k : Int32) (pa : Addr) (rk : ClassId) (pk : ClassId) (r0 : Int64) (r1 : Int64) (v0 : Int64) (v1 : Int64) (v2 : Int64) (v3 : Int64) (v4 : Int64) (v5 : Int64) (h0 : Heap) (n0 : Nat) (Z0 : n0 ≤ h0.size) (V_r : Arv Z h0 ra rk .long (2 : Int32) [.long r0, .long r1] (.long (0 : Int64))) (V_p : Arv Z h0 pa pk .long (6 : Int32) [.long v0, .long v1, .long v2, .long v3, .long v4, .long v5] (.long (0 : Int64))) :
    MetFree l (⟨"com/example/wynik/wynik/store/RangeLayoutRangeAtPinLaw", "fits", "([JI[J)Z"⟩ : MethodName) (head1 (Jvm.Cond.code (⟨"com/example/wynik/wynik/store/RangeLayoutRangeAtPinLaw", "fits", "([JI[J)Z"⟩ : MethodName) method_7_code 11 (some .boolean) :: ws) ({ frames := 2, cells := 0, slots := 0, locals := 48 } : Room)) (fun a_ U_ => a_ = #[(.ref ra), (.int k), (.ref pa)] ∧ Z.Warmed39 U_.vm ∧ U_.heap = h0) (fun _ _ _ _ _ => True) (fun _ U_ o_ V_ => ∃ v_ L_, o_ = .returned v_ ∧ (Q_rm_fi Z ra k pa rk pk r0 r1 v0 v1 v2 v3 v4 v5 h0 n0) v_ V_.heap L_ ∧ FrameEnd U_ o_ V_ L_ ({ frames := 2, cells := 0, slots := 0, locals := 48 } : Room).cells ({ frames := 2, cells := 0, slots := 0, locals := 48 } : Room).slots) := by
  refine MetFree.of_bodySF (plainFor_of_name pn_2) hisR ?_
  intro p e s m args below meth c s₁ Bd hml0 hP hK
  obtain ⟨rfl, hZ, hh⟩ := hP
  have hx := Bd.exec
  have hby := Bd.bytes
  have hml : c.maxLocals = 11 := hml0
  have hown : s.vm.findClass "com/example/wynik/wynik/store/RangeLayoutRangeAtPinLaw" = some m.cls := findClass_of_methodNamed Bd.named
  have hnm := (name_of_methodNamed Bd.named Bd.method).1
  have X0 : Stand p l e ({ frames := 2, cells := 0, slots := 0, locals := 48 } : Room) s m #[(.ref ra), (.int k), (.ref pa)] below meth c s₁ [] 0 0 := Stand.of_body Bd
  have e0 : s₁.heap = h0 := by rw [← hh, Bd.state]; rfl
  have N0 := Fr.nil n0
  have K0 : Keep h0 h0 [] := Keep.refl _ _
  show own_Fin p.tables e below (own_Post (Q_rm_fi Z ra k pa rk pk r0 r1 v0 v1 v2 v3 v4 v5 h0 n0) ({ frames := 2, cells := 0, slots := 0, locals := 48 } : Room).cells ({ frames := 2, cells := 0, slots := 0, locals := 48 } : Room).slots below s) _
  refine own_go (fun _ kk_ => castTop (ef_rm_fi m ra k pa r0 r1 v0 v1 v2 v3 v4 v5) kk_) ?_
  refine own_go (fun _ kk_ => XS.iloadN X0.here hx rfl (hb hby d7_0) rfl kk_) ?_
  show own_Fin p.tables e below _ (s₁.setTop (mkF m 1 #[.val (.ref ra), .val (.int k), .val (.ref pa), .unset, .unset, .unset, .unset, .unset, .unset, .unset, .unset] [(.int k)]))
  obtain ⟨_, _, ⟨T51, L51, k51, n51⟩, -, X51, ⟨Lc51, hQ51, l51, y51, z51⟩, st51⟩ := Jvm.LawKit.callS X0 hx (y := (⟨"com/example/wynik/wynik/store/RangeLayoutRangeAtPinLaw", "w", "(I)J"⟩ : MethodName)) hown (mvT hZ (hw _ (List.mem_of_getElem? (i := 44) rfl))) (mvT hZ (hw _ (List.mem_of_getElem? (i := 45) rfl))) (mvT hZ (hw _ (List.mem_of_getElem? (i := 42) rfl))) (mvT hZ (hw _ (List.mem_of_getElem? (i := 46) rfl))) (by decide) (backOf (W := 0) (rm_w l Z a0 hw [] k  h0 n0 (Nat.le_trans Z0 K0.1) ) hZ (hw _ (List.mem_of_getElem? (i := 46) rfl)) (hw _ (List.mem_of_getElem? (i := 42) rfl)) (by decide) (by decide)) (g := (mkF m 1 #[.val (.ref ra), .val (.int k), .val (.ref pa), .unset, .unset, .unset, .unset, .unset, .unset, .unset, .unset] [(.int k)])) rfl (by rw [hml]; rfl) (argsL := [(.int k)]) (rest := []) (lenOf pd_3 rfl) rfl (by show 2 * 0 + _ ≤ _; exact Nat.le_of_eq rfl) (hb hby d7_1) (fun _ _ => ⟨rfl, e0, (by decide : 0 + 0 ≤ _), (by decide : 0 + 0 ≤ _)⟩)
  dsimp only [Pt.U, Pt.locs, Pt.cells, Pt.slots] at X51 l51 y51 z51 st51 hQ51
  subst l51 y51 z51
  obtain ⟨rfl, N51q, e51⟩ := hQ51
  have N51 := Fr.app N0 N51q
  refine own_go st51 ?_
  refine own_go (fun _ kk_ => XS.lstoreN X51.here hx rfl (hb hby d7_4) rfl (l' := #[.val (.ref ra), .val (.int k), .val (.ref pa), .val (.long (own_w k)), .second, .unset, .unset, .unset, .unset, .unset, .unset]) rfl kk_) ?_
  refine own_go (fun _ kk_ => XS.aloadN X51.here hx rfl (hb hby d7_5) rfl rfl kk_) ?_
  refine own_go (fun _ kk_ => XS.iconst X51.here hx rfl (hb hby d7_6) kk_) ?_
  show own_Fin p.tables e below _ (T51.setTop (mkF m 7 #[.val (.ref ra), .val (.int k), .val (.ref pa), .val (.long (own_w k)), .second, .unset, .unset, .unset, .unset, .unset, .unset] [(.int (5 : Int32)), (.ref pa)]))
  refine own_go (fun _ kk_ => own_laload X51 hx hZ e51 V_p (by decide) (v := (.long v5)) (rfl) (g := (mkF m 7 #[.val (.ref ra), .val (.int k), .val (.ref pa), .val (.long (own_w k)), .second, .unset, .unset, .unset, .unset, .unset, .unset] [(.int (5 : Int32)), (.ref pa)])) rfl rfl (hb hby d7_7) _ kk_) ?_
  refine own_go (fun _ kk_ => XS.lloadN X51.here hx rfl (hb hby d7_8) rfl kk_) ?_
  show own_Fin p.tables e below _ (T51.setTop (mkF m 9 #[.val (.ref ra), .val (.int k), .val (.ref pa), .val (.long (own_w k)), .second, .unset, .unset, .unset, .unset, .unset, .unset] [(.long (own_w k)), (.long v5)]))
  obtain ⟨_, _, ⟨T52, L52, k52, n52⟩, -, X52, ⟨Lc52, hQ52, l52, y52, z52⟩, st52⟩ := Jvm.LawKit.callS X51 hx (y := (⟨"com/example/wynik/wynik/store/RangeLayoutRangeAtPinLaw", "start", "(JJ)J"⟩ : MethodName)) hown (mvT hZ (hw _ (List.mem_of_getElem? (i := 48) rfl))) (mvT hZ (hw _ (List.mem_of_getElem? (i := 49) rfl))) (mvT hZ (hw _ (List.mem_of_getElem? (i := 42) rfl))) (mvT hZ (hw _ (List.mem_of_getElem? (i := 50) rfl))) (by decide) (backOf (W := 0) (rm_st l Z a0 hw [] v5 (own_w k)  h0 n0 (Nat.le_trans Z0 K0.1) (own_w_pos _)) hZ (hw _ (List.mem_of_getElem? (i := 50) rfl)) (hw _ (List.mem_of_getElem? (i := 42) rfl)) (by decide) (by decide)) (g := (mkF m 9 #[.val (.ref ra), .val (.int k), .val (.ref pa), .val (.long (own_w k)), .second, .unset, .unset, .unset, .unset, .unset, .unset] [(.long (own_w k)), (.long v5)])) rfl (by rw [hml]; rfl) (argsL := [(.long v5), (.long (own_w k))]) (rest := []) (lenOf pd_1 rfl) rfl (by show 2 * 0 + _ ≤ _; exact Nat.le_of_eq rfl) (hb hby d7_9) (fun _ _ => ⟨rfl, e51, (by decide : 0 + 0 ≤ _), (by decide : 0 + 0 ≤ _)⟩)
  dsimp only [Pt.U, Pt.locs, Pt.cells, Pt.slots] at X52 l52 y52 z52 st52 hQ52
  subst l52 y52 z52
  obtain ⟨rfl, N52q, e52⟩ := hQ52
  have N52 := Fr.app N51 N52q
  refine own_go st52 ?_
  refine own_go (fun _ kk_ => XS.lstore X52.here hx rfl (hb hby d7_12) rfl (l' := #[.val (.ref ra), .val (.int k), .val (.ref pa), .val (.long (own_w k)), .second, .val (.long (own_start v5 (own_w k))), .second, .unset, .unset, .unset, .unset]) rfl kk_) ?_
  refine own_go (fun _ kk_ => XS.lload X52.here hx rfl (hb hby d7_14) rfl kk_) ?_
  refine own_go (fun _ kk_ => XS.lloadN X52.here hx rfl (hb hby d7_16) rfl kk_) ?_
  show own_Fin p.tables e below _ (T52.setTop (mkF m 17 #[.val (.ref ra), .val (.int k), .val (.ref pa), .val (.long (own_w k)), .second, .val (.long (own_start v5 (own_w k))), .second, .unset, .unset, .unset, .unset] [(.long (own_w k)), (.long (own_start v5 (own_w k)))]))
  obtain ⟨_, _, ⟨T53, L53, k53, n53⟩, -, X53, ⟨Lc53, hQ53, l53, y53, z53⟩, st53⟩ := Jvm.LawKit.callS X52 hx (y := (⟨"com/example/wynik/wynik/store/RangeLayoutRangeAtPinLaw", "stop", "(JJ)J"⟩ : MethodName)) hown (mvT hZ (hw _ (List.mem_of_getElem? (i := 51) rfl))) (mvT hZ (hw _ (List.mem_of_getElem? (i := 52) rfl))) (mvT hZ (hw _ (List.mem_of_getElem? (i := 42) rfl))) (mvT hZ (hw _ (List.mem_of_getElem? (i := 53) rfl))) (by decide) (backOf (W := 0) (rm_sp l Z a0 hw [] (own_start v5 (own_w k)) (own_w k)  h0 n0 (Nat.le_trans Z0 K0.1) ) hZ (hw _ (List.mem_of_getElem? (i := 53) rfl)) (hw _ (List.mem_of_getElem? (i := 42) rfl)) (by decide) (by decide)) (g := (mkF m 17 #[.val (.ref ra), .val (.int k), .val (.ref pa), .val (.long (own_w k)), .second, .val (.long (own_start v5 (own_w k))), .second, .unset, .unset, .unset, .unset] [(.long (own_w k)), (.long (own_start v5 (own_w k)))])) rfl (by rw [hml]; rfl) (argsL := [(.long (own_start v5 (own_w k))), (.long (own_w k))]) (rest := []) (lenOf pd_1 rfl) rfl (by show 2 * 0 + _ ≤ _; exact Nat.le_of_eq rfl) (hb hby d7_17) (fun _ _ => ⟨rfl, e52, (by decide : 0 + 0 ≤ _), (by decide : 0 + 0 ≤ _)⟩)
  dsimp only [Pt.U, Pt.locs, Pt.cells, Pt.slots] at X53 l53 y53 z53 st53 hQ53
  subst l53 y53 z53
  obtain ⟨rfl, N53q, e53⟩ := hQ53
  have N53 := Fr.app N52 N53q
  refine own_go st53 ?_
  refine own_go (fun _ kk_ => XS.lstore X53.here hx rfl (hb hby d7_20) rfl (l' := #[.val (.ref ra), .val (.int k), .val (.ref pa), .val (.long (own_w k)), .second, .val (.long (own_start v5 (own_w k))), .second, .val (.long (own_stop (own_start v5 (own_w k)) (own_w k))), .second, .unset, .unset]) rfl kk_) ?_
  refine own_go (fun _ kk_ => XS.aloadN X53.here hx rfl (hb hby d7_22) rfl rfl kk_) ?_
  refine own_go (fun _ kk_ => XS.iconst X53.here hx rfl (hb hby d7_23) kk_) ?_
  show own_Fin p.tables e below _ (T53.setTop (mkF m 24 #[.val (.ref ra), .val (.int k), .val (.ref pa), .val (.long (own_w k)), .second, .val (.long (own_start v5 (own_w k))), .second, .val (.long (own_stop (own_start v5 (own_w k)) (own_w k))), .second, .unset, .unset] [(.int (0 : Int32)), (.ref ra)]))
  refine own_go (fun _ kk_ => own_laload X53 hx hZ e53 V_r (by decide) (v := (.long r0)) (rfl) (g := (mkF m 24 #[.val (.ref ra), .val (.int k), .val (.ref pa), .val (.long (own_w k)), .second, .val (.long (own_start v5 (own_w k))), .second, .val (.long (own_stop (own_start v5 (own_w k)) (own_w k))), .second, .unset, .unset] [(.int (0 : Int32)), (.ref ra)])) rfl rfl (hb hby d7_24) _ kk_) ?_
  refine own_go (fun _ kk_ => XS.lload X53.here hx rfl (hb hby d7_25) rfl kk_) ?_
  show own_Fin p.tables e below _ (T53.setTop (mkF m 27 #[.val (.ref ra), .val (.int k), .val (.ref pa), .val (.long (own_w k)), .second, .val (.long (own_start v5 (own_w k))), .second, .val (.long (own_stop (own_start v5 (own_w k)) (own_w k))), .second, .unset, .unset] [(.long (own_start v5 (own_w k))), (.long r0)]))
  refine own_go (fun _ kk_ => XS.lcmp X53.here hx rfl (hb hby d7_27) rfl kk_) ?_
  show own_Fin p.tables e below _ (T53.setTop (mkF m 28 #[.val (.ref ra), .val (.int k), .val (.ref pa), .val (.long (own_w k)), .second, .val (.long (own_start v5 (own_w k))), .second, .val (.long (own_stop (own_start v5 (own_w k)) (own_w k))), .second, .unset, .unset] [(.int (lcmpW r0 (own_start v5 (own_w k))))]))
  by_cases hc54 : r0 = (own_start v5 (own_w k))
  · skip
    refine own_go (fun _ kk_ => XS.ifNo X53.here hx rfl (hb hby d7_28) rfl (Jvm.Free.XT.ll_ne_f hc54) kk_) ?_
    refine own_go (fun _ kk_ => XS.aloadN X53.here hx rfl (hb hby d7_31) rfl rfl kk_) ?_
    refine own_go (fun _ kk_ => XS.iconst X53.here hx rfl (hb hby d7_32) kk_) ?_
    show own_Fin p.tables e below _ (T53.setTop (mkF m 33 #[.val (.ref ra), .val (.int k), .val (.ref pa), .val (.long (own_w k)), .second, .val (.long (own_start v5 (own_w k))), .second, .val (.long (own_stop (own_start v5 (own_w k)) (own_w k))), .second, .unset, .unset] [(.int (1 : Int32)), (.ref ra)]))
    refine own_go (fun _ kk_ => own_laload X53 hx hZ e53 V_r (by decide) (v := (.long r1)) (rfl) (g := (mkF m 33 #[.val (.ref ra), .val (.int k), .val (.ref pa), .val (.long (own_w k)), .second, .val (.long (own_start v5 (own_w k))), .second, .val (.long (own_stop (own_start v5 (own_w k)) (own_w k))), .second, .unset, .unset] [(.int (1 : Int32)), (.ref ra)])) rfl rfl (hb hby d7_33) _ kk_) ?_
    refine own_go (fun _ kk_ => XS.lload X53.here hx rfl (hb hby d7_34) rfl kk_) ?_
    show own_Fin p.tables e below _ (T53.setTop (mkF m 36 #[.val (.ref ra), .val (.int k), .val (.ref pa), .val (.long (own_w k)), .second, .val (.long (own_start v5 (own_w k))), .second, .val (.long (own_stop (own_start v5 (own_w k)) (own_w k))), .second, .unset, .unset] [(.long (own_stop (own_start v5 (own_w k)) (own_w k))), (.long r1)]))
    refine own_go (fun _ kk_ => XS.lcmp X53.here hx rfl (hb hby d7_36) rfl kk_) ?_
    show own_Fin p.tables e below _ (T53.setTop (mkF m 37 #[.val (.ref ra), .val (.int k), .val (.ref pa), .val (.long (own_w k)), .second, .val (.long (own_start v5 (own_w k))), .second, .val (.long (own_stop (own_start v5 (own_w k)) (own_w k))), .second, .unset, .unset] [(.int (lcmpW r1 (own_stop (own_start v5 (own_w k)) (own_w k))))]))
    by_cases hc55 : r1 = (own_stop (own_start v5 (own_w k)) (own_w k))
    · skip
      refine own_go (fun _ kk_ => XS.ifYes X53.here hx rfl (pc0 := 37) (pc' := 42) rfl (hb hby d7_37) rfl (Jvm.Free.XT.ll_eq_t hc55) (by decide) (by decide) kk_) ?_
      refine own_go (fun _ kk_ => XS.iloadN X53.here hx rfl (hb hby d7_42) rfl kk_) ?_
      show own_Fin p.tables e below _ (T53.setTop (mkF m 43 #[.val (.ref ra), .val (.int k), .val (.ref pa), .val (.long (own_w k)), .second, .val (.long (own_start v5 (own_w k))), .second, .val (.long (own_stop (own_start v5 (own_w k)) (own_w k))), .second, .unset, .unset] [(.int k)]))
      by_cases hc56 : k = (0 : Int32)
      · skip
        refine own_go (fun _ kk_ => XS.ifYes X53.here hx rfl (pc0 := 43) (pc' := 54) rfl (hb hby d7_43) rfl ((if0 _ _).trans (teq hc56).1) (by decide) (by decide) kk_) ?_
        refine own_go (fun _ kk_ => XS.iconst X53.here hx rfl (hb hby d7_54) kk_) ?_
        refine own_go (fun _ kk_ => XS.goto X53.here hx rfl (pc0 := 55) (pc' := 59) rfl (hb hby d7_55) (by decide) (by decide) kk_) ?_
        refine own_go (fun _ kk_ => XS.istore X53.here hx rfl (hb hby d7_59) rfl (l' := #[.val (.ref ra), .val (.int k), .val (.ref pa), .val (.long (own_w k)), .second, .val (.long (own_start v5 (own_w k))), .second, .val (.long (own_stop (own_start v5 (own_w k)) (own_w k))), .second, .val (.int (1 : Int32)), .unset]) rfl kk_) ?_
        refine own_go (fun _ kk_ => XS.iloadN X53.here hx rfl (hb hby d7_61) rfl kk_) ?_
        refine own_go (fun _ kk_ => XS.bipush X53.here hx rfl (hb hby d7_62) kk_) ?_
        show own_Fin p.tables e below _ (T53.setTop (mkF m 64 #[.val (.ref ra), .val (.int k), .val (.ref pa), .val (.long (own_w k)), .second, .val (.long (own_start v5 (own_w k))), .second, .val (.long (own_stop (own_start v5 (own_w k)) (own_w k))), .second, .val (.int (1 : Int32)), .unset] [(.int (8 : Int32)), (.int k)]))
        by_cases hc57 : k = (8 : Int32)
        · skip
          refine own_go (fun _ kk_ => XS.icmpYes X53.here hx rfl (pc0 := 64) (pc' := 77) rfl (hb hby d7_64) rfl (teq hc57).1 (by decide) (by decide) kk_) ?_
          refine own_go (fun _ kk_ => XS.iconst X53.here hx rfl (hb hby d7_77) kk_) ?_
          refine own_go (fun _ kk_ => XS.goto X53.here hx rfl (pc0 := 78) (pc' := 82) rfl (hb hby d7_78) (by decide) (by decide) kk_) ?_
          refine own_go (fun _ kk_ => XS.istore X53.here hx rfl (hb hby d7_82) rfl (l' := #[.val (.ref ra), .val (.int k), .val (.ref pa), .val (.long (own_w k)), .second, .val (.long (own_start v5 (own_w k))), .second, .val (.long (own_stop (own_start v5 (own_w k)) (own_w k))), .second, .val (.int (1 : Int32)), .val (.int (1 : Int32))]) rfl kk_) ?_
          refine own_go (fun _ kk_ => XS.iload X53.here hx rfl (hb hby d7_84) rfl kk_) ?_
          show own_Fin p.tables e below _ (T53.setTop (mkF m 86 #[.val (.ref ra), .val (.int k), .val (.ref pa), .val (.long (own_w k)), .second, .val (.long (own_start v5 (own_w k))), .second, .val (.long (own_stop (own_start v5 (own_w k)) (own_w k))), .second, .val (.int (1 : Int32)), .val (.int (1 : Int32))] [(.int (1 : Int32))]))
          refine own_go (fun _ kk_ => XS.ifNo X53.here hx rfl (hb hby d7_86) rfl ((if0 _ _).trans (feq (by decide : ¬ (1 : Int32) = (0 : Int32))).1) kk_) ?_
          refine own_go (fun _ kk_ => XS.iload X53.here hx rfl (hb hby d7_89) rfl kk_) ?_
          show own_Fin p.tables e below _ (T53.setTop (mkF m 91 #[.val (.ref ra), .val (.int k), .val (.ref pa), .val (.long (own_w k)), .second, .val (.long (own_start v5 (own_w k))), .second, .val (.long (own_stop (own_start v5 (own_w k)) (own_w k))), .second, .val (.int (1 : Int32)), .val (.int (1 : Int32))] [(.int (1 : Int32))]))
          refine own_go (fun _ kk_ => XS.ifNo X53.here hx rfl (hb hby d7_91) rfl ((if0 _ _).trans (feq (by decide : ¬ (1 : Int32) = (0 : Int32))).1) kk_) ?_
          refine own_go (fun _ kk_ => XS.iconst X53.here hx rfl (hb hby d7_94) kk_) ?_
          refine own_go (fun _ kk_ => XS.goto X53.here hx rfl (pc0 := 95) (pc' := 99) rfl (hb hby d7_95) (by decide) (by decide) kk_) ?_
          show own_Fin p.tables e below _ (T53.setTop (mkF m 99 #[.val (.ref ra), .val (.int k), .val (.ref pa), .val (.long (own_w k)), .second, .val (.long (own_start v5 (own_w k))), .second, .val (.long (own_stop (own_start v5 (own_w k)) (own_w k))), .second, .val (.int (1 : Int32)), .val (.int (1 : Int32))] [(.int (1 : Int32))]))
          refine own_retI X53 hx Bd (t := .boolean) Bd.returns rfl (by simp) (hb hby d7_99) ?_ (by decide) (by decide)
          show (Q_rm_fi Z ra k pa rk pk r0 r1 v0 v1 v2 v3 v4 v5 h0 n0) (some (.int (1 : Int32))) T53.heap _
          rw [e53]
          refine ⟨_, rfl, N53, rfl, by decide, ?_⟩
          intro _; rfl
        · skip
          refine own_go (fun _ kk_ => XS.icmpNo X53.here hx rfl (hb hby d7_64) rfl (feq hc57).1 kk_) ?_
          refine own_go (fun _ kk_ => XS.iloadN X53.here hx rfl (hb hby d7_67) rfl kk_) ?_
          refine own_go (fun _ kk_ => XS.iconst X53.here hx rfl (hb hby d7_68) kk_) ?_
          show own_Fin p.tables e below _ (T53.setTop (mkF m 69 #[.val (.ref ra), .val (.int k), .val (.ref pa), .val (.long (own_w k)), .second, .val (.long (own_start v5 (own_w k))), .second, .val (.long (own_stop (own_start v5 (own_w k)) (own_w k))), .second, .val (.int (1 : Int32)), .unset] [(.int (1 : Int32)), (.int k)]))
          refine own_go (fun _ kk_ => XS.iadd X53.here hx rfl (hb hby d7_69) rfl kk_) ?_
          refine own_go (fun _ kk_ => XS.aloadN X53.here hx rfl (hb hby d7_70) rfl rfl kk_) ?_
          show own_Fin p.tables e below _ (T53.setTop (mkF m 71 #[.val (.ref ra), .val (.int k), .val (.ref pa), .val (.long (own_w k)), .second, .val (.long (own_start v5 (own_w k))), .second, .val (.long (own_stop (own_start v5 (own_w k)) (own_w k))), .second, .val (.int (1 : Int32)), .unset] [(.ref pa), (.int (k + (1 : Int32)))]))
          obtain ⟨_, _, ⟨T58, L58, k58, n58⟩, -, X58, ⟨Lc58, hQ58, l58, y58, z58⟩, st58⟩ := Jvm.LawKit.callS X53 hx (y := (⟨"com/example/wynik/wynik/store/RangeLayoutRangeAtPinLaw", "ok", "(I[J)Z"⟩ : MethodName)) hown (mvT hZ (hw _ (List.mem_of_getElem? (i := 54) rfl))) (mvT hZ (hw _ (List.mem_of_getElem? (i := 55) rfl))) (mvT hZ (hw _ (List.mem_of_getElem? (i := 42) rfl))) (mvT hZ (hw _ (List.mem_of_getElem? (i := 56) rfl))) (by decide) (backOf (W := 0) (rm_ok l Z a0 hw [] (k + (1 : Int32)) pa pk v0 v1 v2 v3 v4 v5 h0 n0 (Nat.le_trans Z0 K0.1) V_p) hZ (hw _ (List.mem_of_getElem? (i := 56) rfl)) (hw _ (List.mem_of_getElem? (i := 42) rfl)) (by decide) (by decide)) (g := (mkF m 71 #[.val (.ref ra), .val (.int k), .val (.ref pa), .val (.long (own_w k)), .second, .val (.long (own_start v5 (own_w k))), .second, .val (.long (own_stop (own_start v5 (own_w k)) (own_w k))), .second, .val (.int (1 : Int32)), .unset] [(.ref pa), (.int (k + (1 : Int32)))])) rfl (by rw [hml]; rfl) (argsL := [(.int (k + (1 : Int32))), (.ref pa)]) (rest := []) (lenOf pd_4 rfl) rfl (by show 2 * 0 + _ ≤ _; exact Nat.le_of_eq rfl) (hb hby d7_71) (fun _ _ => ⟨rfl, e53, (by decide : 0 + 0 ≤ _), (by decide : 0 + 0 ≤ _)⟩)
          dsimp only [Pt.U, Pt.locs, Pt.cells, Pt.slots] at X58 l58 y58 z58 st58 hQ58
          subst l58 y58 z58
          obtain ⟨z58, rfl, N58q, e58, ok58⟩ := hQ58
          have N58 := Fr.app N53 N58q
          refine own_go st58 ?_
          show own_Fin p.tables e below _ (T58.setTop (mkF m 74 #[.val (.ref ra), .val (.int k), .val (.ref pa), .val (.long (own_w k)), .second, .val (.long (own_start v5 (own_w k))), .second, .val (.long (own_stop (own_start v5 (own_w k)) (own_w k))), .second, .val (.int (1 : Int32)), .unset] [(.int z58)]))
          by_cases hc59 : z58 = (0 : Int32)
          · skip
            refine own_go (fun _ kk_ => XS.ifNo X58.here hx rfl (hb hby d7_74) rfl ((if0 _ _).trans (teq hc59).2) kk_) ?_
            refine own_go (fun _ kk_ => XS.iconst X58.here hx rfl (hb hby d7_77) kk_) ?_
            refine own_go (fun _ kk_ => XS.goto X58.here hx rfl (pc0 := 78) (pc' := 82) rfl (hb hby d7_78) (by decide) (by decide) kk_) ?_
            refine own_go (fun _ kk_ => XS.istore X58.here hx rfl (hb hby d7_82) rfl (l' := #[.val (.ref ra), .val (.int k), .val (.ref pa), .val (.long (own_w k)), .second, .val (.long (own_start v5 (own_w k))), .second, .val (.long (own_stop (own_start v5 (own_w k)) (own_w k))), .second, .val (.int (1 : Int32)), .val (.int (1 : Int32))]) rfl kk_) ?_
            refine own_go (fun _ kk_ => XS.iload X58.here hx rfl (hb hby d7_84) rfl kk_) ?_
            show own_Fin p.tables e below _ (T58.setTop (mkF m 86 #[.val (.ref ra), .val (.int k), .val (.ref pa), .val (.long (own_w k)), .second, .val (.long (own_start v5 (own_w k))), .second, .val (.long (own_stop (own_start v5 (own_w k)) (own_w k))), .second, .val (.int (1 : Int32)), .val (.int (1 : Int32))] [(.int (1 : Int32))]))
            refine own_go (fun _ kk_ => XS.ifNo X58.here hx rfl (hb hby d7_86) rfl ((if0 _ _).trans (feq (by decide : ¬ (1 : Int32) = (0 : Int32))).1) kk_) ?_
            refine own_go (fun _ kk_ => XS.iload X58.here hx rfl (hb hby d7_89) rfl kk_) ?_
            show own_Fin p.tables e below _ (T58.setTop (mkF m 91 #[.val (.ref ra), .val (.int k), .val (.ref pa), .val (.long (own_w k)), .second, .val (.long (own_start v5 (own_w k))), .second, .val (.long (own_stop (own_start v5 (own_w k)) (own_w k))), .second, .val (.int (1 : Int32)), .val (.int (1 : Int32))] [(.int (1 : Int32))]))
            refine own_go (fun _ kk_ => XS.ifNo X58.here hx rfl (hb hby d7_91) rfl ((if0 _ _).trans (feq (by decide : ¬ (1 : Int32) = (0 : Int32))).1) kk_) ?_
            refine own_go (fun _ kk_ => XS.iconst X58.here hx rfl (hb hby d7_94) kk_) ?_
            refine own_go (fun _ kk_ => XS.goto X58.here hx rfl (pc0 := 95) (pc' := 99) rfl (hb hby d7_95) (by decide) (by decide) kk_) ?_
            show own_Fin p.tables e below _ (T58.setTop (mkF m 99 #[.val (.ref ra), .val (.int k), .val (.ref pa), .val (.long (own_w k)), .second, .val (.long (own_start v5 (own_w k))), .second, .val (.long (own_stop (own_start v5 (own_w k)) (own_w k))), .second, .val (.int (1 : Int32)), .val (.int (1 : Int32))] [(.int (1 : Int32))]))
            refine own_retI X58 hx Bd (t := .boolean) Bd.returns rfl (by simp) (hb hby d7_99) ?_ (by decide) (by decide)
            show (Q_rm_fi Z ra k pa rk pk r0 r1 v0 v1 v2 v3 v4 v5 h0 n0) (some (.int (1 : Int32))) T58.heap _
            rw [e58]
            refine ⟨_, rfl, N58, rfl, by decide, ?_⟩
            intro _; rfl
          · skip
            refine own_go (fun _ kk_ => XS.ifYes X58.here hx rfl (pc0 := 74) (pc' := 81) rfl (hb hby d7_74) rfl ((if0 _ _).trans (feq hc59).2) (by decide) (by decide) kk_) ?_
            refine own_go (fun _ kk_ => XS.iconst X58.here hx rfl (hb hby d7_81) kk_) ?_
            refine own_go (fun _ kk_ => XS.istore X58.here hx rfl (hb hby d7_82) rfl (l' := #[.val (.ref ra), .val (.int k), .val (.ref pa), .val (.long (own_w k)), .second, .val (.long (own_start v5 (own_w k))), .second, .val (.long (own_stop (own_start v5 (own_w k)) (own_w k))), .second, .val (.int (1 : Int32)), .val (.int (0 : Int32))]) rfl kk_) ?_
            refine own_go (fun _ kk_ => XS.iload X58.here hx rfl (hb hby d7_84) rfl kk_) ?_
            show own_Fin p.tables e below _ (T58.setTop (mkF m 86 #[.val (.ref ra), .val (.int k), .val (.ref pa), .val (.long (own_w k)), .second, .val (.long (own_start v5 (own_w k))), .second, .val (.long (own_stop (own_start v5 (own_w k)) (own_w k))), .second, .val (.int (1 : Int32)), .val (.int (0 : Int32))] [(.int (1 : Int32))]))
            refine own_go (fun _ kk_ => XS.ifNo X58.here hx rfl (hb hby d7_86) rfl ((if0 _ _).trans (feq (by decide : ¬ (1 : Int32) = (0 : Int32))).1) kk_) ?_
            refine own_go (fun _ kk_ => XS.iload X58.here hx rfl (hb hby d7_89) rfl kk_) ?_
            show own_Fin p.tables e below _ (T58.setTop (mkF m 91 #[.val (.ref ra), .val (.int k), .val (.ref pa), .val (.long (own_w k)), .second, .val (.long (own_start v5 (own_w k))), .second, .val (.long (own_stop (own_start v5 (own_w k)) (own_w k))), .second, .val (.int (1 : Int32)), .val (.int (0 : Int32))] [(.int (0 : Int32))]))
            refine own_go (fun _ kk_ => XS.ifYes X58.here hx rfl (pc0 := 91) (pc' := 98) rfl (hb hby d7_91) rfl ((if0 _ _).trans (teq (by decide : (0 : Int32) = (0 : Int32))).1) (by decide) (by decide) kk_) ?_
            refine own_go (fun _ kk_ => XS.iconst X58.here hx rfl (hb hby d7_98) kk_) ?_
            show own_Fin p.tables e below _ (T58.setTop (mkF m 99 #[.val (.ref ra), .val (.int k), .val (.ref pa), .val (.long (own_w k)), .second, .val (.long (own_start v5 (own_w k))), .second, .val (.long (own_stop (own_start v5 (own_w k)) (own_w k))), .second, .val (.int (1 : Int32)), .val (.int (0 : Int32))] [(.int (0 : Int32))]))
            refine own_retI X58 hx Bd (t := .boolean) Bd.returns rfl (by simp) (hb hby d7_99) ?_ (by decide) (by decide)
            show (Q_rm_fi Z ra k pa rk pk r0 r1 v0 v1 v2 v3 v4 v5 h0 n0) (some (.int (0 : Int32))) T58.heap _
            rw [e58]
            refine ⟨_, rfl, N58, rfl, by decide, ?_⟩
            intro hf
            exfalso
            obtain ⟨f0, f1, f2, f3⟩ := hf
            have _ok0 := ok58
            first | exact hc54 f0 | exact hc55 f1 | (simp_all; done) | grind
      · skip
        refine own_go (fun _ kk_ => XS.ifNo X53.here hx rfl (hb hby d7_43) rfl ((if0 _ _).trans (feq hc56).1) kk_) ?_
        refine own_go (fun _ kk_ => XS.iloadN X53.here hx rfl (hb hby d7_46) rfl kk_) ?_
        refine own_go (fun _ kk_ => XS.aloadN X53.here hx rfl (hb hby d7_47) rfl rfl kk_) ?_
        show own_Fin p.tables e below _ (T53.setTop (mkF m 48 #[.val (.ref ra), .val (.int k), .val (.ref pa), .val (.long (own_w k)), .second, .val (.long (own_start v5 (own_w k))), .second, .val (.long (own_stop (own_start v5 (own_w k)) (own_w k))), .second, .unset, .unset] [(.ref pa), (.int k)]))
        obtain ⟨_, _, ⟨T60, L60, k60, n60⟩, -, X60, ⟨Lc60, hQ60, l60, y60, z60⟩, st60⟩ := Jvm.LawKit.callS X53 hx (y := (⟨"com/example/wynik/wynik/store/RangeLayoutRangeAtPinLaw", "ok", "(I[J)Z"⟩ : MethodName)) hown (mvT hZ (hw _ (List.mem_of_getElem? (i := 54) rfl))) (mvT hZ (hw _ (List.mem_of_getElem? (i := 55) rfl))) (mvT hZ (hw _ (List.mem_of_getElem? (i := 42) rfl))) (mvT hZ (hw _ (List.mem_of_getElem? (i := 56) rfl))) (by decide) (backOf (W := 0) (rm_ok l Z a0 hw [] k pa pk v0 v1 v2 v3 v4 v5 h0 n0 (Nat.le_trans Z0 K0.1) V_p) hZ (hw _ (List.mem_of_getElem? (i := 56) rfl)) (hw _ (List.mem_of_getElem? (i := 42) rfl)) (by decide) (by decide)) (g := (mkF m 48 #[.val (.ref ra), .val (.int k), .val (.ref pa), .val (.long (own_w k)), .second, .val (.long (own_start v5 (own_w k))), .second, .val (.long (own_stop (own_start v5 (own_w k)) (own_w k))), .second, .unset, .unset] [(.ref pa), (.int k)])) rfl (by rw [hml]; rfl) (argsL := [(.int k), (.ref pa)]) (rest := []) (lenOf pd_4 rfl) rfl (by show 2 * 0 + _ ≤ _; exact Nat.le_of_eq rfl) (hb hby d7_48) (fun _ _ => ⟨rfl, e53, (by decide : 0 + 0 ≤ _), (by decide : 0 + 0 ≤ _)⟩)
        dsimp only [Pt.U, Pt.locs, Pt.cells, Pt.slots] at X60 l60 y60 z60 st60 hQ60
        subst l60 y60 z60
        obtain ⟨z60, rfl, N60q, e60, ok60⟩ := hQ60
        have N60 := Fr.app N53 N60q
        refine own_go st60 ?_
        show own_Fin p.tables e below _ (T60.setTop (mkF m 51 #[.val (.ref ra), .val (.int k), .val (.ref pa), .val (.long (own_w k)), .second, .val (.long (own_start v5 (own_w k))), .second, .val (.long (own_stop (own_start v5 (own_w k)) (own_w k))), .second, .unset, .unset] [(.int z60)]))
        by_cases hc61 : z60 = (0 : Int32)
        · skip
          refine own_go (fun _ kk_ => XS.ifYes X60.here hx rfl (pc0 := 51) (pc' := 58) rfl (hb hby d7_51) rfl ((if0 _ _).trans (teq hc61).1) (by decide) (by decide) kk_) ?_
          refine own_go (fun _ kk_ => XS.iconst X60.here hx rfl (hb hby d7_58) kk_) ?_
          refine own_go (fun _ kk_ => XS.istore X60.here hx rfl (hb hby d7_59) rfl (l' := #[.val (.ref ra), .val (.int k), .val (.ref pa), .val (.long (own_w k)), .second, .val (.long (own_start v5 (own_w k))), .second, .val (.long (own_stop (own_start v5 (own_w k)) (own_w k))), .second, .val (.int (0 : Int32)), .unset]) rfl kk_) ?_
          refine own_go (fun _ kk_ => XS.iloadN X60.here hx rfl (hb hby d7_61) rfl kk_) ?_
          refine own_go (fun _ kk_ => XS.bipush X60.here hx rfl (hb hby d7_62) kk_) ?_
          show own_Fin p.tables e below _ (T60.setTop (mkF m 64 #[.val (.ref ra), .val (.int k), .val (.ref pa), .val (.long (own_w k)), .second, .val (.long (own_start v5 (own_w k))), .second, .val (.long (own_stop (own_start v5 (own_w k)) (own_w k))), .second, .val (.int (0 : Int32)), .unset] [(.int (8 : Int32)), (.int k)]))
          by_cases hc62 : k = (8 : Int32)
          · skip
            refine own_go (fun _ kk_ => XS.icmpYes X60.here hx rfl (pc0 := 64) (pc' := 77) rfl (hb hby d7_64) rfl (teq hc62).1 (by decide) (by decide) kk_) ?_
            refine own_go (fun _ kk_ => XS.iconst X60.here hx rfl (hb hby d7_77) kk_) ?_
            refine own_go (fun _ kk_ => XS.goto X60.here hx rfl (pc0 := 78) (pc' := 82) rfl (hb hby d7_78) (by decide) (by decide) kk_) ?_
            refine own_go (fun _ kk_ => XS.istore X60.here hx rfl (hb hby d7_82) rfl (l' := #[.val (.ref ra), .val (.int k), .val (.ref pa), .val (.long (own_w k)), .second, .val (.long (own_start v5 (own_w k))), .second, .val (.long (own_stop (own_start v5 (own_w k)) (own_w k))), .second, .val (.int (0 : Int32)), .val (.int (1 : Int32))]) rfl kk_) ?_
            refine own_go (fun _ kk_ => XS.iload X60.here hx rfl (hb hby d7_84) rfl kk_) ?_
            show own_Fin p.tables e below _ (T60.setTop (mkF m 86 #[.val (.ref ra), .val (.int k), .val (.ref pa), .val (.long (own_w k)), .second, .val (.long (own_start v5 (own_w k))), .second, .val (.long (own_stop (own_start v5 (own_w k)) (own_w k))), .second, .val (.int (0 : Int32)), .val (.int (1 : Int32))] [(.int (0 : Int32))]))
            refine own_go (fun _ kk_ => XS.ifYes X60.here hx rfl (pc0 := 86) (pc' := 98) rfl (hb hby d7_86) rfl ((if0 _ _).trans (teq (by decide : (0 : Int32) = (0 : Int32))).1) (by decide) (by decide) kk_) ?_
            refine own_go (fun _ kk_ => XS.iconst X60.here hx rfl (hb hby d7_98) kk_) ?_
            show own_Fin p.tables e below _ (T60.setTop (mkF m 99 #[.val (.ref ra), .val (.int k), .val (.ref pa), .val (.long (own_w k)), .second, .val (.long (own_start v5 (own_w k))), .second, .val (.long (own_stop (own_start v5 (own_w k)) (own_w k))), .second, .val (.int (0 : Int32)), .val (.int (1 : Int32))] [(.int (0 : Int32))]))
            refine own_retI X60 hx Bd (t := .boolean) Bd.returns rfl (by simp) (hb hby d7_99) ?_ (by decide) (by decide)
            show (Q_rm_fi Z ra k pa rk pk r0 r1 v0 v1 v2 v3 v4 v5 h0 n0) (some (.int (0 : Int32))) T60.heap _
            rw [e60]
            refine ⟨_, rfl, N60, rfl, by decide, ?_⟩
            intro hf
            exfalso
            obtain ⟨f0, f1, f2, f3⟩ := hf
            have _ok0 := ok60
            first | exact hc54 f0 | exact hc55 f1 | (simp_all; done) | grind
          · skip
            refine own_go (fun _ kk_ => XS.icmpNo X60.here hx rfl (hb hby d7_64) rfl (feq hc62).1 kk_) ?_
            refine own_go (fun _ kk_ => XS.iloadN X60.here hx rfl (hb hby d7_67) rfl kk_) ?_
            refine own_go (fun _ kk_ => XS.iconst X60.here hx rfl (hb hby d7_68) kk_) ?_
            show own_Fin p.tables e below _ (T60.setTop (mkF m 69 #[.val (.ref ra), .val (.int k), .val (.ref pa), .val (.long (own_w k)), .second, .val (.long (own_start v5 (own_w k))), .second, .val (.long (own_stop (own_start v5 (own_w k)) (own_w k))), .second, .val (.int (0 : Int32)), .unset] [(.int (1 : Int32)), (.int k)]))
            refine own_go (fun _ kk_ => XS.iadd X60.here hx rfl (hb hby d7_69) rfl kk_) ?_
            refine own_go (fun _ kk_ => XS.aloadN X60.here hx rfl (hb hby d7_70) rfl rfl kk_) ?_
            show own_Fin p.tables e below _ (T60.setTop (mkF m 71 #[.val (.ref ra), .val (.int k), .val (.ref pa), .val (.long (own_w k)), .second, .val (.long (own_start v5 (own_w k))), .second, .val (.long (own_stop (own_start v5 (own_w k)) (own_w k))), .second, .val (.int (0 : Int32)), .unset] [(.ref pa), (.int (k + (1 : Int32)))]))
            obtain ⟨_, _, ⟨T63, L63, k63, n63⟩, -, X63, ⟨Lc63, hQ63, l63, y63, z63⟩, st63⟩ := Jvm.LawKit.callS X60 hx (y := (⟨"com/example/wynik/wynik/store/RangeLayoutRangeAtPinLaw", "ok", "(I[J)Z"⟩ : MethodName)) hown (mvT hZ (hw _ (List.mem_of_getElem? (i := 54) rfl))) (mvT hZ (hw _ (List.mem_of_getElem? (i := 55) rfl))) (mvT hZ (hw _ (List.mem_of_getElem? (i := 42) rfl))) (mvT hZ (hw _ (List.mem_of_getElem? (i := 56) rfl))) (by decide) (backOf (W := 0) (rm_ok l Z a0 hw [] (k + (1 : Int32)) pa pk v0 v1 v2 v3 v4 v5 h0 n0 (Nat.le_trans Z0 K0.1) V_p) hZ (hw _ (List.mem_of_getElem? (i := 56) rfl)) (hw _ (List.mem_of_getElem? (i := 42) rfl)) (by decide) (by decide)) (g := (mkF m 71 #[.val (.ref ra), .val (.int k), .val (.ref pa), .val (.long (own_w k)), .second, .val (.long (own_start v5 (own_w k))), .second, .val (.long (own_stop (own_start v5 (own_w k)) (own_w k))), .second, .val (.int (0 : Int32)), .unset] [(.ref pa), (.int (k + (1 : Int32)))])) rfl (by rw [hml]; rfl) (argsL := [(.int (k + (1 : Int32))), (.ref pa)]) (rest := []) (lenOf pd_4 rfl) rfl (by show 2 * 0 + _ ≤ _; exact Nat.le_of_eq rfl) (hb hby d7_71) (fun _ _ => ⟨rfl, e60, (by decide : 0 + 0 ≤ _), (by decide : 0 + 0 ≤ _)⟩)
            dsimp only [Pt.U, Pt.locs, Pt.cells, Pt.slots] at X63 l63 y63 z63 st63 hQ63
            subst l63 y63 z63
            obtain ⟨z63, rfl, N63q, e63, ok63⟩ := hQ63
            have N63 := Fr.app N60 N63q
            refine own_go st63 ?_
            show own_Fin p.tables e below _ (T63.setTop (mkF m 74 #[.val (.ref ra), .val (.int k), .val (.ref pa), .val (.long (own_w k)), .second, .val (.long (own_start v5 (own_w k))), .second, .val (.long (own_stop (own_start v5 (own_w k)) (own_w k))), .second, .val (.int (0 : Int32)), .unset] [(.int z63)]))
            by_cases hc64 : z63 = (0 : Int32)
            · skip
              refine own_go (fun _ kk_ => XS.ifNo X63.here hx rfl (hb hby d7_74) rfl ((if0 _ _).trans (teq hc64).2) kk_) ?_
              refine own_go (fun _ kk_ => XS.iconst X63.here hx rfl (hb hby d7_77) kk_) ?_
              refine own_go (fun _ kk_ => XS.goto X63.here hx rfl (pc0 := 78) (pc' := 82) rfl (hb hby d7_78) (by decide) (by decide) kk_) ?_
              refine own_go (fun _ kk_ => XS.istore X63.here hx rfl (hb hby d7_82) rfl (l' := #[.val (.ref ra), .val (.int k), .val (.ref pa), .val (.long (own_w k)), .second, .val (.long (own_start v5 (own_w k))), .second, .val (.long (own_stop (own_start v5 (own_w k)) (own_w k))), .second, .val (.int (0 : Int32)), .val (.int (1 : Int32))]) rfl kk_) ?_
              refine own_go (fun _ kk_ => XS.iload X63.here hx rfl (hb hby d7_84) rfl kk_) ?_
              show own_Fin p.tables e below _ (T63.setTop (mkF m 86 #[.val (.ref ra), .val (.int k), .val (.ref pa), .val (.long (own_w k)), .second, .val (.long (own_start v5 (own_w k))), .second, .val (.long (own_stop (own_start v5 (own_w k)) (own_w k))), .second, .val (.int (0 : Int32)), .val (.int (1 : Int32))] [(.int (0 : Int32))]))
              refine own_go (fun _ kk_ => XS.ifYes X63.here hx rfl (pc0 := 86) (pc' := 98) rfl (hb hby d7_86) rfl ((if0 _ _).trans (teq (by decide : (0 : Int32) = (0 : Int32))).1) (by decide) (by decide) kk_) ?_
              refine own_go (fun _ kk_ => XS.iconst X63.here hx rfl (hb hby d7_98) kk_) ?_
              show own_Fin p.tables e below _ (T63.setTop (mkF m 99 #[.val (.ref ra), .val (.int k), .val (.ref pa), .val (.long (own_w k)), .second, .val (.long (own_start v5 (own_w k))), .second, .val (.long (own_stop (own_start v5 (own_w k)) (own_w k))), .second, .val (.int (0 : Int32)), .val (.int (1 : Int32))] [(.int (0 : Int32))]))
              refine own_retI X63 hx Bd (t := .boolean) Bd.returns rfl (by simp) (hb hby d7_99) ?_ (by decide) (by decide)
              show (Q_rm_fi Z ra k pa rk pk r0 r1 v0 v1 v2 v3 v4 v5 h0 n0) (some (.int (0 : Int32))) T63.heap _
              rw [e63]
              refine ⟨_, rfl, N63, rfl, by decide, ?_⟩
              intro hf
              exfalso
              obtain ⟨f0, f1, f2, f3⟩ := hf
              have _ok0 := ok60
              have _ok1 := ok63
              first | exact hc54 f0 | exact hc55 f1 | (simp_all; done) | grind
            · skip
              refine own_go (fun _ kk_ => XS.ifYes X63.here hx rfl (pc0 := 74) (pc' := 81) rfl (hb hby d7_74) rfl ((if0 _ _).trans (feq hc64).2) (by decide) (by decide) kk_) ?_
              refine own_go (fun _ kk_ => XS.iconst X63.here hx rfl (hb hby d7_81) kk_) ?_
              refine own_go (fun _ kk_ => XS.istore X63.here hx rfl (hb hby d7_82) rfl (l' := #[.val (.ref ra), .val (.int k), .val (.ref pa), .val (.long (own_w k)), .second, .val (.long (own_start v5 (own_w k))), .second, .val (.long (own_stop (own_start v5 (own_w k)) (own_w k))), .second, .val (.int (0 : Int32)), .val (.int (0 : Int32))]) rfl kk_) ?_
              refine own_go (fun _ kk_ => XS.iload X63.here hx rfl (hb hby d7_84) rfl kk_) ?_
              show own_Fin p.tables e below _ (T63.setTop (mkF m 86 #[.val (.ref ra), .val (.int k), .val (.ref pa), .val (.long (own_w k)), .second, .val (.long (own_start v5 (own_w k))), .second, .val (.long (own_stop (own_start v5 (own_w k)) (own_w k))), .second, .val (.int (0 : Int32)), .val (.int (0 : Int32))] [(.int (0 : Int32))]))
              refine own_go (fun _ kk_ => XS.ifYes X63.here hx rfl (pc0 := 86) (pc' := 98) rfl (hb hby d7_86) rfl ((if0 _ _).trans (teq (by decide : (0 : Int32) = (0 : Int32))).1) (by decide) (by decide) kk_) ?_
              refine own_go (fun _ kk_ => XS.iconst X63.here hx rfl (hb hby d7_98) kk_) ?_
              show own_Fin p.tables e below _ (T63.setTop (mkF m 99 #[.val (.ref ra), .val (.int k), .val (.ref pa), .val (.long (own_w k)), .second, .val (.long (own_start v5 (own_w k))), .second, .val (.long (own_stop (own_start v5 (own_w k)) (own_w k))), .second, .val (.int (0 : Int32)), .val (.int (0 : Int32))] [(.int (0 : Int32))]))
              refine own_retI X63 hx Bd (t := .boolean) Bd.returns rfl (by simp) (hb hby d7_99) ?_ (by decide) (by decide)
              show (Q_rm_fi Z ra k pa rk pk r0 r1 v0 v1 v2 v3 v4 v5 h0 n0) (some (.int (0 : Int32))) T63.heap _
              rw [e63]
              refine ⟨_, rfl, N63, rfl, by decide, ?_⟩
              intro hf
              exfalso
              obtain ⟨f0, f1, f2, f3⟩ := hf
              have _ok0 := ok60
              have _ok1 := ok63
              first | exact hc54 f0 | exact hc55 f1 | (simp_all; done) | grind
        · skip
          refine own_go (fun _ kk_ => XS.ifNo X60.here hx rfl (hb hby d7_51) rfl ((if0 _ _).trans (feq hc61).1) kk_) ?_
          refine own_go (fun _ kk_ => XS.iconst X60.here hx rfl (hb hby d7_54) kk_) ?_
          refine own_go (fun _ kk_ => XS.goto X60.here hx rfl (pc0 := 55) (pc' := 59) rfl (hb hby d7_55) (by decide) (by decide) kk_) ?_
          refine own_go (fun _ kk_ => XS.istore X60.here hx rfl (hb hby d7_59) rfl (l' := #[.val (.ref ra), .val (.int k), .val (.ref pa), .val (.long (own_w k)), .second, .val (.long (own_start v5 (own_w k))), .second, .val (.long (own_stop (own_start v5 (own_w k)) (own_w k))), .second, .val (.int (1 : Int32)), .unset]) rfl kk_) ?_
          refine own_go (fun _ kk_ => XS.iloadN X60.here hx rfl (hb hby d7_61) rfl kk_) ?_
          refine own_go (fun _ kk_ => XS.bipush X60.here hx rfl (hb hby d7_62) kk_) ?_
          show own_Fin p.tables e below _ (T60.setTop (mkF m 64 #[.val (.ref ra), .val (.int k), .val (.ref pa), .val (.long (own_w k)), .second, .val (.long (own_start v5 (own_w k))), .second, .val (.long (own_stop (own_start v5 (own_w k)) (own_w k))), .second, .val (.int (1 : Int32)), .unset] [(.int (8 : Int32)), (.int k)]))
          by_cases hc65 : k = (8 : Int32)
          · skip
            refine own_go (fun _ kk_ => XS.icmpYes X60.here hx rfl (pc0 := 64) (pc' := 77) rfl (hb hby d7_64) rfl (teq hc65).1 (by decide) (by decide) kk_) ?_
            refine own_go (fun _ kk_ => XS.iconst X60.here hx rfl (hb hby d7_77) kk_) ?_
            refine own_go (fun _ kk_ => XS.goto X60.here hx rfl (pc0 := 78) (pc' := 82) rfl (hb hby d7_78) (by decide) (by decide) kk_) ?_
            refine own_go (fun _ kk_ => XS.istore X60.here hx rfl (hb hby d7_82) rfl (l' := #[.val (.ref ra), .val (.int k), .val (.ref pa), .val (.long (own_w k)), .second, .val (.long (own_start v5 (own_w k))), .second, .val (.long (own_stop (own_start v5 (own_w k)) (own_w k))), .second, .val (.int (1 : Int32)), .val (.int (1 : Int32))]) rfl kk_) ?_
            refine own_go (fun _ kk_ => XS.iload X60.here hx rfl (hb hby d7_84) rfl kk_) ?_
            show own_Fin p.tables e below _ (T60.setTop (mkF m 86 #[.val (.ref ra), .val (.int k), .val (.ref pa), .val (.long (own_w k)), .second, .val (.long (own_start v5 (own_w k))), .second, .val (.long (own_stop (own_start v5 (own_w k)) (own_w k))), .second, .val (.int (1 : Int32)), .val (.int (1 : Int32))] [(.int (1 : Int32))]))
            refine own_go (fun _ kk_ => XS.ifNo X60.here hx rfl (hb hby d7_86) rfl ((if0 _ _).trans (feq (by decide : ¬ (1 : Int32) = (0 : Int32))).1) kk_) ?_
            refine own_go (fun _ kk_ => XS.iload X60.here hx rfl (hb hby d7_89) rfl kk_) ?_
            show own_Fin p.tables e below _ (T60.setTop (mkF m 91 #[.val (.ref ra), .val (.int k), .val (.ref pa), .val (.long (own_w k)), .second, .val (.long (own_start v5 (own_w k))), .second, .val (.long (own_stop (own_start v5 (own_w k)) (own_w k))), .second, .val (.int (1 : Int32)), .val (.int (1 : Int32))] [(.int (1 : Int32))]))
            refine own_go (fun _ kk_ => XS.ifNo X60.here hx rfl (hb hby d7_91) rfl ((if0 _ _).trans (feq (by decide : ¬ (1 : Int32) = (0 : Int32))).1) kk_) ?_
            refine own_go (fun _ kk_ => XS.iconst X60.here hx rfl (hb hby d7_94) kk_) ?_
            refine own_go (fun _ kk_ => XS.goto X60.here hx rfl (pc0 := 95) (pc' := 99) rfl (hb hby d7_95) (by decide) (by decide) kk_) ?_
            show own_Fin p.tables e below _ (T60.setTop (mkF m 99 #[.val (.ref ra), .val (.int k), .val (.ref pa), .val (.long (own_w k)), .second, .val (.long (own_start v5 (own_w k))), .second, .val (.long (own_stop (own_start v5 (own_w k)) (own_w k))), .second, .val (.int (1 : Int32)), .val (.int (1 : Int32))] [(.int (1 : Int32))]))
            refine own_retI X60 hx Bd (t := .boolean) Bd.returns rfl (by simp) (hb hby d7_99) ?_ (by decide) (by decide)
            show (Q_rm_fi Z ra k pa rk pk r0 r1 v0 v1 v2 v3 v4 v5 h0 n0) (some (.int (1 : Int32))) T60.heap _
            rw [e60]
            refine ⟨_, rfl, N60, rfl, by decide, ?_⟩
            intro _; rfl
          · skip
            refine own_go (fun _ kk_ => XS.icmpNo X60.here hx rfl (hb hby d7_64) rfl (feq hc65).1 kk_) ?_
            refine own_go (fun _ kk_ => XS.iloadN X60.here hx rfl (hb hby d7_67) rfl kk_) ?_
            refine own_go (fun _ kk_ => XS.iconst X60.here hx rfl (hb hby d7_68) kk_) ?_
            show own_Fin p.tables e below _ (T60.setTop (mkF m 69 #[.val (.ref ra), .val (.int k), .val (.ref pa), .val (.long (own_w k)), .second, .val (.long (own_start v5 (own_w k))), .second, .val (.long (own_stop (own_start v5 (own_w k)) (own_w k))), .second, .val (.int (1 : Int32)), .unset] [(.int (1 : Int32)), (.int k)]))
            refine own_go (fun _ kk_ => XS.iadd X60.here hx rfl (hb hby d7_69) rfl kk_) ?_
            refine own_go (fun _ kk_ => XS.aloadN X60.here hx rfl (hb hby d7_70) rfl rfl kk_) ?_
            show own_Fin p.tables e below _ (T60.setTop (mkF m 71 #[.val (.ref ra), .val (.int k), .val (.ref pa), .val (.long (own_w k)), .second, .val (.long (own_start v5 (own_w k))), .second, .val (.long (own_stop (own_start v5 (own_w k)) (own_w k))), .second, .val (.int (1 : Int32)), .unset] [(.ref pa), (.int (k + (1 : Int32)))]))
            obtain ⟨_, _, ⟨T66, L66, k66, n66⟩, -, X66, ⟨Lc66, hQ66, l66, y66, z66⟩, st66⟩ := Jvm.LawKit.callS X60 hx (y := (⟨"com/example/wynik/wynik/store/RangeLayoutRangeAtPinLaw", "ok", "(I[J)Z"⟩ : MethodName)) hown (mvT hZ (hw _ (List.mem_of_getElem? (i := 54) rfl))) (mvT hZ (hw _ (List.mem_of_getElem? (i := 55) rfl))) (mvT hZ (hw _ (List.mem_of_getElem? (i := 42) rfl))) (mvT hZ (hw _ (List.mem_of_getElem? (i := 56) rfl))) (by decide) (backOf (W := 0) (rm_ok l Z a0 hw [] (k + (1 : Int32)) pa pk v0 v1 v2 v3 v4 v5 h0 n0 (Nat.le_trans Z0 K0.1) V_p) hZ (hw _ (List.mem_of_getElem? (i := 56) rfl)) (hw _ (List.mem_of_getElem? (i := 42) rfl)) (by decide) (by decide)) (g := (mkF m 71 #[.val (.ref ra), .val (.int k), .val (.ref pa), .val (.long (own_w k)), .second, .val (.long (own_start v5 (own_w k))), .second, .val (.long (own_stop (own_start v5 (own_w k)) (own_w k))), .second, .val (.int (1 : Int32)), .unset] [(.ref pa), (.int (k + (1 : Int32)))])) rfl (by rw [hml]; rfl) (argsL := [(.int (k + (1 : Int32))), (.ref pa)]) (rest := []) (lenOf pd_4 rfl) rfl (by show 2 * 0 + _ ≤ _; exact Nat.le_of_eq rfl) (hb hby d7_71) (fun _ _ => ⟨rfl, e60, (by decide : 0 + 0 ≤ _), (by decide : 0 + 0 ≤ _)⟩)
            dsimp only [Pt.U, Pt.locs, Pt.cells, Pt.slots] at X66 l66 y66 z66 st66 hQ66
            subst l66 y66 z66
            obtain ⟨z66, rfl, N66q, e66, ok66⟩ := hQ66
            have N66 := Fr.app N60 N66q
            refine own_go st66 ?_
            show own_Fin p.tables e below _ (T66.setTop (mkF m 74 #[.val (.ref ra), .val (.int k), .val (.ref pa), .val (.long (own_w k)), .second, .val (.long (own_start v5 (own_w k))), .second, .val (.long (own_stop (own_start v5 (own_w k)) (own_w k))), .second, .val (.int (1 : Int32)), .unset] [(.int z66)]))
            by_cases hc67 : z66 = (0 : Int32)
            · skip
              refine own_go (fun _ kk_ => XS.ifNo X66.here hx rfl (hb hby d7_74) rfl ((if0 _ _).trans (teq hc67).2) kk_) ?_
              refine own_go (fun _ kk_ => XS.iconst X66.here hx rfl (hb hby d7_77) kk_) ?_
              refine own_go (fun _ kk_ => XS.goto X66.here hx rfl (pc0 := 78) (pc' := 82) rfl (hb hby d7_78) (by decide) (by decide) kk_) ?_
              refine own_go (fun _ kk_ => XS.istore X66.here hx rfl (hb hby d7_82) rfl (l' := #[.val (.ref ra), .val (.int k), .val (.ref pa), .val (.long (own_w k)), .second, .val (.long (own_start v5 (own_w k))), .second, .val (.long (own_stop (own_start v5 (own_w k)) (own_w k))), .second, .val (.int (1 : Int32)), .val (.int (1 : Int32))]) rfl kk_) ?_
              refine own_go (fun _ kk_ => XS.iload X66.here hx rfl (hb hby d7_84) rfl kk_) ?_
              show own_Fin p.tables e below _ (T66.setTop (mkF m 86 #[.val (.ref ra), .val (.int k), .val (.ref pa), .val (.long (own_w k)), .second, .val (.long (own_start v5 (own_w k))), .second, .val (.long (own_stop (own_start v5 (own_w k)) (own_w k))), .second, .val (.int (1 : Int32)), .val (.int (1 : Int32))] [(.int (1 : Int32))]))
              refine own_go (fun _ kk_ => XS.ifNo X66.here hx rfl (hb hby d7_86) rfl ((if0 _ _).trans (feq (by decide : ¬ (1 : Int32) = (0 : Int32))).1) kk_) ?_
              refine own_go (fun _ kk_ => XS.iload X66.here hx rfl (hb hby d7_89) rfl kk_) ?_
              show own_Fin p.tables e below _ (T66.setTop (mkF m 91 #[.val (.ref ra), .val (.int k), .val (.ref pa), .val (.long (own_w k)), .second, .val (.long (own_start v5 (own_w k))), .second, .val (.long (own_stop (own_start v5 (own_w k)) (own_w k))), .second, .val (.int (1 : Int32)), .val (.int (1 : Int32))] [(.int (1 : Int32))]))
              refine own_go (fun _ kk_ => XS.ifNo X66.here hx rfl (hb hby d7_91) rfl ((if0 _ _).trans (feq (by decide : ¬ (1 : Int32) = (0 : Int32))).1) kk_) ?_
              refine own_go (fun _ kk_ => XS.iconst X66.here hx rfl (hb hby d7_94) kk_) ?_
              refine own_go (fun _ kk_ => XS.goto X66.here hx rfl (pc0 := 95) (pc' := 99) rfl (hb hby d7_95) (by decide) (by decide) kk_) ?_
              show own_Fin p.tables e below _ (T66.setTop (mkF m 99 #[.val (.ref ra), .val (.int k), .val (.ref pa), .val (.long (own_w k)), .second, .val (.long (own_start v5 (own_w k))), .second, .val (.long (own_stop (own_start v5 (own_w k)) (own_w k))), .second, .val (.int (1 : Int32)), .val (.int (1 : Int32))] [(.int (1 : Int32))]))
              refine own_retI X66 hx Bd (t := .boolean) Bd.returns rfl (by simp) (hb hby d7_99) ?_ (by decide) (by decide)
              show (Q_rm_fi Z ra k pa rk pk r0 r1 v0 v1 v2 v3 v4 v5 h0 n0) (some (.int (1 : Int32))) T66.heap _
              rw [e66]
              refine ⟨_, rfl, N66, rfl, by decide, ?_⟩
              intro _; rfl
            · skip
              refine own_go (fun _ kk_ => XS.ifYes X66.here hx rfl (pc0 := 74) (pc' := 81) rfl (hb hby d7_74) rfl ((if0 _ _).trans (feq hc67).2) (by decide) (by decide) kk_) ?_
              refine own_go (fun _ kk_ => XS.iconst X66.here hx rfl (hb hby d7_81) kk_) ?_
              refine own_go (fun _ kk_ => XS.istore X66.here hx rfl (hb hby d7_82) rfl (l' := #[.val (.ref ra), .val (.int k), .val (.ref pa), .val (.long (own_w k)), .second, .val (.long (own_start v5 (own_w k))), .second, .val (.long (own_stop (own_start v5 (own_w k)) (own_w k))), .second, .val (.int (1 : Int32)), .val (.int (0 : Int32))]) rfl kk_) ?_
              refine own_go (fun _ kk_ => XS.iload X66.here hx rfl (hb hby d7_84) rfl kk_) ?_
              show own_Fin p.tables e below _ (T66.setTop (mkF m 86 #[.val (.ref ra), .val (.int k), .val (.ref pa), .val (.long (own_w k)), .second, .val (.long (own_start v5 (own_w k))), .second, .val (.long (own_stop (own_start v5 (own_w k)) (own_w k))), .second, .val (.int (1 : Int32)), .val (.int (0 : Int32))] [(.int (1 : Int32))]))
              refine own_go (fun _ kk_ => XS.ifNo X66.here hx rfl (hb hby d7_86) rfl ((if0 _ _).trans (feq (by decide : ¬ (1 : Int32) = (0 : Int32))).1) kk_) ?_
              refine own_go (fun _ kk_ => XS.iload X66.here hx rfl (hb hby d7_89) rfl kk_) ?_
              show own_Fin p.tables e below _ (T66.setTop (mkF m 91 #[.val (.ref ra), .val (.int k), .val (.ref pa), .val (.long (own_w k)), .second, .val (.long (own_start v5 (own_w k))), .second, .val (.long (own_stop (own_start v5 (own_w k)) (own_w k))), .second, .val (.int (1 : Int32)), .val (.int (0 : Int32))] [(.int (0 : Int32))]))
              refine own_go (fun _ kk_ => XS.ifYes X66.here hx rfl (pc0 := 91) (pc' := 98) rfl (hb hby d7_91) rfl ((if0 _ _).trans (teq (by decide : (0 : Int32) = (0 : Int32))).1) (by decide) (by decide) kk_) ?_
              refine own_go (fun _ kk_ => XS.iconst X66.here hx rfl (hb hby d7_98) kk_) ?_
              show own_Fin p.tables e below _ (T66.setTop (mkF m 99 #[.val (.ref ra), .val (.int k), .val (.ref pa), .val (.long (own_w k)), .second, .val (.long (own_start v5 (own_w k))), .second, .val (.long (own_stop (own_start v5 (own_w k)) (own_w k))), .second, .val (.int (1 : Int32)), .val (.int (0 : Int32))] [(.int (0 : Int32))]))
              refine own_retI X66 hx Bd (t := .boolean) Bd.returns rfl (by simp) (hb hby d7_99) ?_ (by decide) (by decide)
              show (Q_rm_fi Z ra k pa rk pk r0 r1 v0 v1 v2 v3 v4 v5 h0 n0) (some (.int (0 : Int32))) T66.heap _
              rw [e66]
              refine ⟨_, rfl, N66, rfl, by decide, ?_⟩
              intro hf
              exfalso
              obtain ⟨f0, f1, f2, f3⟩ := hf
              have _ok0 := ok60
              have _ok1 := ok66
              first | exact hc54 f0 | exact hc55 f1 | (simp_all; done) | grind
    · skip
      refine own_go (fun _ kk_ => XS.ifNo X53.here hx rfl (hb hby d7_37) rfl (Jvm.Free.XT.ll_eq_f hc55) kk_) ?_
      refine own_go (fun _ kk_ => XS.iconst X53.here hx rfl (hb hby d7_40) kk_) ?_
      show own_Fin p.tables e below _ (T53.setTop (mkF m 41 #[.val (.ref ra), .val (.int k), .val (.ref pa), .val (.long (own_w k)), .second, .val (.long (own_start v5 (own_w k))), .second, .val (.long (own_stop (own_start v5 (own_w k)) (own_w k))), .second, .unset, .unset] [(.int (0 : Int32))]))
      refine own_retI X53 hx Bd (t := .boolean) Bd.returns rfl (by simp) (hb hby d7_41) ?_ (by decide) (by decide)
      show (Q_rm_fi Z ra k pa rk pk r0 r1 v0 v1 v2 v3 v4 v5 h0 n0) (some (.int (0 : Int32))) T53.heap _
      rw [e53]
      refine ⟨_, rfl, N53, rfl, by decide, ?_⟩
      intro hf
      exfalso
      obtain ⟨f0, f1, f2, f3⟩ := hf
      first | exact hc54 f0 | exact hc55 f1 | (simp_all; done) | grind
  · skip
    refine own_go (fun _ kk_ => XS.ifYes X53.here hx rfl (pc0 := 28) (pc' := 40) rfl (hb hby d7_28) rfl (Jvm.Free.XT.ll_ne_t hc54) (by decide) (by decide) kk_) ?_
    refine own_go (fun _ kk_ => XS.iconst X53.here hx rfl (hb hby d7_40) kk_) ?_
    show own_Fin p.tables e below _ (T53.setTop (mkF m 41 #[.val (.ref ra), .val (.int k), .val (.ref pa), .val (.long (own_w k)), .second, .val (.long (own_start v5 (own_w k))), .second, .val (.long (own_stop (own_start v5 (own_w k)) (own_w k))), .second, .unset, .unset] [(.int (0 : Int32))]))
    refine own_retI X53 hx Bd (t := .boolean) Bd.returns rfl (by simp) (hb hby d7_41) ?_ (by decide) (by decide)
    show (Q_rm_fi Z ra k pa rk pk r0 r1 v0 v1 v2 v3 v4 v5 h0 n0) (some (.int (0 : Int32))) T53.heap _
    rw [e53]
    refine ⟨_, rfl, N53, rfl, by decide, ?_⟩
    intro hf
    exfalso
    obtain ⟨f0, f1, f2, f3⟩ := hf
    first | exact hc54 f0 | exact hc54 f1 | (simp_all; done) | grind
def Q_rm_ra (Z : State) (o : Addr) (t : Int64) (v0 : Int64) (v1 : Int64) (v2 : Int64) (v3 : Int64) (v4 : Int64) (wa : Addr) (wk : ClassId) (h0 : Heap) (n0 : Nat) (v : Option Value) (h : Heap) (L : List Loc) : Prop := ∃ (a : Addr) (k : ClassId) (i : Nat), v = some (.ref a) ∧ Fr n0 L ∧ Keep h0 h [] ∧ h0.size ≤ a ∧ Arv Z h a k .long (2 : Int32) [.long (own_start t (own_wd i)), .long (own_stop (own_start t (own_wd i)) (own_wd i))] (.long (0 : Int64)) ∧ i ≤ 8 ∧ (i = 0 ∨ own_ok (own_wd i) v0 v1 v2 v3 v4 t) ∧ ∀ j, i < j → j ≤ 8 → ¬ own_ok (own_wd j) v0 v1 v2 v3 v4 t
theorem ef_rm_ra (m : MethodId) (o : Addr) (t : Int64) (v0 : Int64) (v1 : Int64) (v2 : Int64) (v3 : Int64) (v4 : Int64) (wa : Addr) : entryFrame m #[(.ref o), (.long t)] 6 = mkF m 0 #[.val (.ref o), .val (.long t), .second, .unset, .unset, .unset] [] := by first | (simp [entryFrame, mkF, argsToLocals, Value.category]; done) | rfl
set_option maxRecDepth 65536 in
set_option maxHeartbeats 40000000 in
theorem rm_ra (l : Launch) (Z : State) (a0 : Array Value) (hw : ∀ d ∈ tables_1, d.before a0 Z = true) (ws : List Jvm.Cond) (o : Addr) (t : Int64) (v0 : Int64) (v1 : Int64) (v2 : Int64) (v3 : Int64) (v4 : Int64) (wa : Addr) (wk : ClassId) (h0 : Heap) (n0 : Nat) (Z0 : n0 ≤ h0.size) (F_width : Fld Z h0 o "com/example/wynik/wynik/store/RangeLayout" "width" "J" (.long v0)) (F_widest : Fld Z h0 o "com/example/wynik/wynik/store/RangeLayout" "widest" "J" (.long v1)) (F_horizon : Fld Z h0 o "com/example/wynik/wynik/store/RangeLayout" "horizon" "J" (.long v2)) (F_from : Fld Z h0 o "com/example/wynik/wynik/store/RangeLayout" "from" "J" (.long v3)) (F_until : Fld Z h0 o "com/example/wynik/wynik/store/RangeLayout" "until" "J" (.long v4)) (S_W : Sta Z Z.heap "com/example/wynik/wynik/store/RangeLayout" "WIDTHS" "[J" (.ref wa)) (S_M : Sta Z Z.heap "com/example/wynik/wynik/store/RangeLayout" "MINUTE" "J" (.long (60000000000 : Int64))) (V_W : Arv Z Z.heap wa wk .long (9 : Int32) [.long (60000000000 : Int64), .long (600000000000 : Int64), .long (3600000000000 : Int64), .long (21600000000000 : Int64), .long (86400000000000 : Int64), .long (691200000000000 : Int64), .long (5529600000000000 : Int64), .long (44236800000000000 : Int64), .long (353894400000000000 : Int64)] (.long (0 : Int64))) (O0 : Old Z n0 h0) :
    MetFree l (⟨"com/example/wynik/wynik/store/RangeLayout", "rangeAt", "(J)[J"⟩ : MethodName) (head1 (Jvm.Cond.code (⟨"com/example/wynik/wynik/store/RangeLayout", "rangeAt", "(J)[J"⟩ : MethodName) prog_54_method_2_code 6 (some (.array .long)) :: ws) ({ frames := 3, cells := 9, slots := 18, locals := 72 } : Room)) (fun a_ U_ => a_ = #[(.ref o), (.long t)] ∧ Z.Warmed39 U_.vm ∧ U_.heap = h0) (fun _ _ _ _ _ => True) (fun _ U_ o_ V_ => ∃ v_ L_, o_ = .returned v_ ∧ (Q_rm_ra Z o t v0 v1 v2 v3 v4 wa wk h0 n0) v_ V_.heap L_ ∧ FrameEnd U_ o_ V_ L_ ({ frames := 3, cells := 9, slots := 18, locals := 72 } : Room).cells ({ frames := 3, cells := 9, slots := 18, locals := 72 } : Room).slots) := by
  refine MetFree.of_bodySF (plainFor_of_name pn_0) hisR ?_
  intro p e s m args below meth c s₁ Bd hml0 hP hK
  obtain ⟨rfl, hZ, hh⟩ := hP
  have hx := Bd.exec
  have hby := Bd.bytes
  have hml : c.maxLocals = 6 := hml0
  have hown : s.vm.findClass "com/example/wynik/wynik/store/RangeLayout" = some m.cls := findClass_of_methodNamed Bd.named
  have hnm := (name_of_methodNamed Bd.named Bd.method).1
  have X0 : Stand p l e ({ frames := 3, cells := 9, slots := 18, locals := 72 } : Room) s m #[(.ref o), (.long t)] below meth c s₁ [] 0 0 := Stand.of_body Bd
  have e0 : s₁.heap = h0 := by rw [← hh, Bd.state]; rfl
  have N0 := Fr.nil n0
  have K0 : Keep h0 h0 [] := Keep.refl _ _
  show own_Fin p.tables e below (own_Post (Q_rm_ra Z o t v0 v1 v2 v3 v4 wa wk h0 n0) ({ frames := 3, cells := 9, slots := 18, locals := 72 } : Room).cells ({ frames := 3, cells := 9, slots := 18, locals := 72 } : Room).slots below s) _
  refine own_go (fun _ kk_ => castTop (ef_rm_ra m o t v0 v1 v2 v3 v4 wa) kk_) ?_
  show own_Fin p.tables e below _ (s₁.setTop (mkF m 0 #[.val (.ref o), .val (.long t), .second, .unset, .unset, .unset] []))
  obtain ⟨T68, X68, e68, st68⟩ := getS2 X0 hx hZ hown (host := "") (Or.inl (hw _ (List.mem_of_getElem? (i := 24) rfl))) Via.refl e0 (S_W.ext O0.2) (g := (mkF m 0 #[.val (.ref o), .val (.long t), .second, .unset, .unset, .unset] [])) rfl (hb hby d3_0)
  refine own_go st68 ?_
  show own_Fin p.tables e below _ (T68.setTop (mkF m 3 #[.val (.ref o), .val (.long t), .second, .unset, .unset, .unset] [(.ref wa)]))
  refine own_go (fun _ kk_ => own_alen X68 hx hZ e68 (V_W.ext O0.2) (g := (mkF m 3 #[.val (.ref o), .val (.long t), .second, .unset, .unset, .unset] [(.ref wa)])) rfl rfl (hb hby d3_3) _ kk_) ?_
  refine own_go (fun _ kk_ => XS.iconst X68.here hx rfl (hb hby d3_4) kk_) ?_
  show own_Fin p.tables e below _ (T68.setTop (mkF m 5 #[.val (.ref o), .val (.long t), .second, .unset, .unset, .unset] [(.int (1 : Int32)), (.int (9 : Int32))]))
  refine own_go (fun _ kk_ => XS.isub X68.here hx rfl (hb hby d3_5) rfl kk_) ?_
  refine own_go (fun _ kk_ => XS.istoreN X68.here hx rfl (hb hby d3_6) rfl (l' := #[.val (.ref o), .val (.long t), .second, .val (.int (8 : Int32)), .unset, .unset]) rfl kk_) ?_
  show own_Fin p.tables e below _ (T68.setTop (mkF m 7 #[.val (.ref o), .val (.long t), .second, .val (.int (8 : Int32)), .unset, .unset] []))
  have loop : ∀ (i : Nat) (hi8 : i ≤ 8) (hno : ∀ j, i < j → j ≤ 8 → ¬ own_ok (own_wd j) v0 v1 v2 v3 v4 t) (TL : State) (lL : List Loc) (cL sL : Nat) (hL : Heap) (XL : Stand p l e ({ frames := 3, cells := 9, slots := 18, locals := 72 } : Room) s m #[(.ref o), (.long t)] below meth c TL lL cL sL) (eL : TL.heap = hL) (NL : Fr n0 lL) (KL : Keep h0 hL []) (bc : cL + (i + 1) ≤ 9) (bs : sL + 2 * (i + 1) ≤ 18) (s4 s5 : Slot) (hs4 : One s4) (hs5 : One s5), own_Fin p.tables e below (own_Post (Q_rm_ra Z o t v0 v1 v2 v3 v4 wa wk h0 n0) ({ frames := 3, cells := 9, slots := 18, locals := 72 } : Room).cells ({ frames := 3, cells := 9, slots := 18, locals := 72 } : Room).slots below s) (TL.setTop (mkF m 7 #[.val (.ref o), .val (.long t), .second, .val (.int (Int32.ofNat i)), s4, s5] [])) := by
    intro i
    induction i with
    | zero =>
      intro hi8 hno TL lL cL sL hL XL eL NL KL bc bs s4 s5 hs4 hs5
      replace F_width := F_width.keep KL nin0
      replace F_widest := F_widest.keep KL nin0
      replace F_horizon := F_horizon.keep KL nin0
      replace F_from := F_from.keep KL nin0
      replace F_until := F_until.keep KL nin0
      replace O0 := O0.keep KL all0
      refine own_go (fun _ kk_ => XS.iloadN XL.here hx rfl (hb hby d3_7) rfl kk_) ?_
      show own_Fin p.tables e below _ (TL.setTop (mkF m 8 #[.val (.ref o), .val (.long t), .second, .val (.int (Int32.ofNat 0)), s4, s5] [(.int (Int32.ofNat 0))]))
      refine own_go (fun _ kk_ => XS.ifYes XL.here hx rfl (pc0 := 8) (pc' := 117) rfl (hb hby d3_8) rfl ((if0 _ _).trans (flt own_z0).2.2.2) (by decide) (by decide) kk_) ?_
      refine own_go (fun _ kk_ => XS.lloadN XL.here hx rfl (hb hby d3_117) rfl kk_) ?_
      show own_Fin p.tables e below _ (TL.setTop (mkF m 118 #[.val (.ref o), .val (.long t), .second, .val (.int (Int32.ofNat 0)), s4, s5] [(.long t)]))
      obtain ⟨T69, X69, e69, st69⟩ := getS2 XL hx hZ hown (host := "") (Or.inl (hw _ (List.mem_of_getElem? (i := 26) rfl))) Via.refl eL (S_M.ext O0.2) (g := (mkF m 118 #[.val (.ref o), .val (.long t), .second, .val (.int (Int32.ofNat 0)), s4, s5] [(.long t)])) rfl (hb hby d3_118)
      refine own_go st69 ?_
      show own_Fin p.tables e below _ (T69.setTop (mkF m 121 #[.val (.ref o), .val (.long t), .second, .val (.int (Int32.ofNat 0)), s4, s5] [(.long (60000000000 : Int64)), (.long t)]))
      obtain ⟨_, _, ⟨T70, L70, k70, n70⟩, -, X70, ⟨Lc70, hQ70, l70, y70, z70⟩, st70⟩ := Jvm.LawKit.callS X69 hx (y := (⟨"com/example/wynik/wynik/store/RangeLayout", "period", "(JJ)[J"⟩ : MethodName)) hown (mvT hZ (hw _ (List.mem_of_getElem? (i := 28) rfl))) (mvT hZ (hw _ (List.mem_of_getElem? (i := 29) rfl))) (mvT hZ (hw _ (List.mem_of_getElem? (i := 2) rfl))) (mvT hZ (hw _ (List.mem_of_getElem? (i := 30) rfl))) (by decide) (backOf (W := 0) (rm_pe l Z a0 hw [] t (60000000000 : Int64) hL n0 (Nat.le_trans Z0 KL.1) (by decide)) hZ (hw _ (List.mem_of_getElem? (i := 30) rfl)) (hw _ (List.mem_of_getElem? (i := 2) rfl)) (by decide) (by decide)) (g := (mkF m 121 #[.val (.ref o), .val (.long t), .second, .val (.int (Int32.ofNat 0)), s4, s5] [(.long (60000000000 : Int64)), (.long t)])) rfl (by rw [hml]; rfl) (argsL := [(.long t), (.long (60000000000 : Int64))]) (rest := []) (lenOf pd_5 rfl) rfl (by show 2 * 0 + _ ≤ _; exact Nat.le_of_eq rfl) (hb hby d3_121) (fun _ _ => ⟨rfl, e69, (by show cL + 1 ≤ 9; omega), (by show sL + 2 ≤ 18; omega)⟩)
      dsimp only [Pt.U, Pt.locs, Pt.cells, Pt.slots] at X70 l70 y70 z70 st70 hQ70
      subst l70 y70 z70
      obtain ⟨r70, kk70, rfl, N70q, KK70, sz70, V70⟩ := hQ70
      have N70 := Fr.app NL N70q
      have sz_r70 : h0.size ≤ r70 := Nat.le_trans KL.1 sz70
      have g_r70 : n0 ≤ r70 := Nat.le_trans Z0 sz_r70
      have ne71 : o ≠ r70 := Nat.ne_of_lt (Nat.lt_of_lt_of_le F_width.lt sz70)
      have ne72 : wa ≠ r70 := O0.ne V_W.lt g_r70
      replace F_width := F_width.keep KK70 nin0
      replace F_widest := F_widest.keep KK70 nin0
      replace F_horizon := F_horizon.keep KK70 nin0
      replace F_from := F_from.keep KK70 nin0
      replace F_until := F_until.keep KK70 nin0
      replace O0 := O0.keep KK70 all0
      have K73 := KL.trans KK70 all0
      refine own_go st70 ?_
      show own_Fin p.tables e below _ (T70.setTop (mkF m 124 #[.val (.ref o), .val (.long t), .second, .val (.int (Int32.ofNat 0)), s4, s5] [(.ref r70)]))
      refine own_retA X70 hx Bd (t := (.array .long)) Bd.returns rfl rfl rfl (hb hby d3_124) ?_ (by show (cL + 1) ≤ 9; omega) (by show (sL + 2) ≤ 18; omega)
      show (Q_rm_ra Z o t v0 v1 v2 v3 v4 wa wk h0 n0) (some (.ref r70)) T70.heap _
      refine ⟨_, _, 0, rfl, N70, K73, sz_r70, V70, by omega, ?_, hno⟩
      exact Or.inl rfl
    | succ i ih =>
      intro hi8 hno TL lL cL sL hL XL eL NL KL bc bs s4 s5 hs4 hs5
      have hi : i + 1 ≤ 8 := hi8
      replace F_width := F_width.keep KL nin0
      replace F_widest := F_widest.keep KL nin0
      replace F_horizon := F_horizon.keep KL nin0
      replace F_from := F_from.keep KL nin0
      replace F_until := F_until.keep KL nin0
      replace O0 := O0.keep KL all0
      refine own_go (fun _ kk_ => XS.iloadN XL.here hx rfl (hb hby d3_7) rfl kk_) ?_
      show own_Fin p.tables e below _ (TL.setTop (mkF m 8 #[.val (.ref o), .val (.long t), .second, .val (.int (Int32.ofNat (i + 1))), s4, s5] [(.int (Int32.ofNat (i + 1)))]))
      refine own_go (fun _ kk_ => XS.ifNo XL.here hx rfl (hb hby d3_8) rfl ((if0 _ _).trans (tlt (own_sp hi)).2.2.2) kk_) ?_
      show own_Fin p.tables e below _ (TL.setTop (mkF m 11 #[.val (.ref o), .val (.long t), .second, .val (.int (Int32.ofNat (i + 1))), s4, s5] []))
      obtain ⟨T74, X74, e74, st74⟩ := getS2 XL hx hZ hown (host := "") (Or.inl (hw _ (List.mem_of_getElem? (i := 24) rfl))) Via.refl eL (S_W.ext O0.2) (g := (mkF m 11 #[.val (.ref o), .val (.long t), .second, .val (.int (Int32.ofNat (i + 1))), s4, s5] [])) rfl (hb hby d3_11)
      refine own_go st74 ?_
      refine own_go (fun _ kk_ => XS.iloadN X74.here hx rfl (hb hby d3_14) rfl kk_) ?_
      show own_Fin p.tables e below _ (T74.setTop (mkF m 15 #[.val (.ref o), .val (.long t), .second, .val (.int (Int32.ofNat (i + 1))), s4, s5] [(.int (Int32.ofNat (i + 1))), (.ref wa)]))
      refine own_go (fun _ kk_ => own_laload X74 hx hZ e74 (V_W.ext O0.2) (own_idx hi) (v := (.long (own_wd (i + 1)))) (own_wat hi) (g := (mkF m 15 #[.val (.ref o), .val (.long t), .second, .val (.int (Int32.ofNat (i + 1))), s4, s5] [(.int (Int32.ofNat (i + 1))), (.ref wa)])) rfl rfl (hb hby d3_15) _ kk_) ?_
      refine own_go (fun _ kk_ => XS.aloadN X74.here hx rfl (hb hby d3_16) rfl rfl kk_) ?_
      show own_Fin p.tables e below _ (T74.setTop (mkF m 17 #[.val (.ref o), .val (.long t), .second, .val (.int (Int32.ofNat (i + 1))), s4, s5] [(.ref o), (.long (own_wd (i + 1)))]))
      obtain ⟨T75, X75, e75, st75⟩ := getF X74 hx hZ hown (host := "") (Or.inl (hw _ (List.mem_of_getElem? (i := 11) rfl))) Via.refl e74 F_widest (g := (mkF m 17 #[.val (.ref o), .val (.long t), .second, .val (.int (Int32.ofNat (i + 1))), s4, s5] [(.ref o), (.long (own_wd (i + 1)))])) rfl rfl (hb hby d3_17)
      refine own_go st75 ?_
      show own_Fin p.tables e below _ (T75.setTop (mkF m 20 #[.val (.ref o), .val (.long t), .second, .val (.int (Int32.ofNat (i + 1))), s4, s5] [(.long v1), (.long (own_wd (i + 1)))]))
      refine own_go (fun _ kk_ => XS.lcmp X75.here hx rfl (hb hby d3_20) rfl kk_) ?_
      show own_Fin p.tables e below _ (T75.setTop (mkF m 21 #[.val (.ref o), .val (.long t), .second, .val (.int (Int32.ofNat (i + 1))), s4, s5] [(.int (lcmpW (own_wd (i + 1)) v1))]))
      by_cases hc76 : v1 < (own_wd (i + 1))
      · skip
        refine own_go (fun _ kk_ => XS.ifNo X75.here hx rfl (hb hby d3_21) rfl (Jvm.Free.XT.ll_le_f hc76) kk_) ?_
        refine own_go (fun _ kk_ => XS.goto X75.here hx rfl (pc0 := 24) (pc' := 111) rfl (hb hby d3_24) (by decide) (by decide) kk_) ?_
        show own_Fin p.tables e below _ (T75.setTop (mkF m 111 #[.val (.ref o), .val (.long t), .second, .val (.int (Int32.ofNat (i + 1))), s4, s5] []))
        refine own_go (fun _ kk_ => XS.iinc X75.here hx rfl (hb hby d3_111) rfl (l' := #[.val (.ref o), .val (.long t), .second, .val (.int ((Int32.ofNat (i + 1)) + Int32.ofInt (-1))), s4, s5]) rfl kk_) ?_
        refine own_go (fun _ kk_ => XS.goto X75.here hx rfl (pc0 := 114) (pc' := 7) rfl (hb hby d3_114) (by decide) (by decide) kk_) ?_
        show own_Fin p.tables e below _ (T75.setTop (mkF m 7 #[.val (.ref o), .val (.long t), .second, .val (.int ((Int32.ofNat (i + 1)) + Int32.ofInt (-1))), s4, s5] []))
        rw [own_dec i]
        refine ih (by omega) ?_ _ _ _ _ _ X75 e75 NL KL (by omega) (by omega) _ _ hs4 hs5
        refine own_ext hno ?_
        simp [own_ok, hc76]
      · skip
        refine own_go (fun _ kk_ => XS.ifYes X75.here hx rfl (pc0 := 21) (pc' := 27) rfl (hb hby d3_21) rfl (Jvm.Free.XT.ll_le_t hc76) (by decide) (by decide) kk_) ?_
        refine own_go (fun _ kk_ => XS.lloadN X75.here hx rfl (hb hby d3_27) rfl kk_) ?_
        show own_Fin p.tables e below _ (T75.setTop (mkF m 28 #[.val (.ref o), .val (.long t), .second, .val (.int (Int32.ofNat (i + 1))), s4, s5] [(.long t)]))
        obtain ⟨T77, X77, e77, st77⟩ := getS2 X75 hx hZ hown (host := "") (Or.inl (hw _ (List.mem_of_getElem? (i := 24) rfl))) Via.refl e75 (S_W.ext O0.2) (g := (mkF m 28 #[.val (.ref o), .val (.long t), .second, .val (.int (Int32.ofNat (i + 1))), s4, s5] [(.long t)])) rfl (hb hby d3_28)
        refine own_go st77 ?_
        refine own_go (fun _ kk_ => XS.iloadN X77.here hx rfl (hb hby d3_31) rfl kk_) ?_
        show own_Fin p.tables e below _ (T77.setTop (mkF m 32 #[.val (.ref o), .val (.long t), .second, .val (.int (Int32.ofNat (i + 1))), s4, s5] [(.int (Int32.ofNat (i + 1))), (.ref wa), (.long t)]))
        refine own_go (fun _ kk_ => own_laload X77 hx hZ e77 (V_W.ext O0.2) (own_idx hi) (v := (.long (own_wd (i + 1)))) (own_wat hi) (g := (mkF m 32 #[.val (.ref o), .val (.long t), .second, .val (.int (Int32.ofNat (i + 1))), s4, s5] [(.int (Int32.ofNat (i + 1))), (.ref wa), (.long t)])) rfl rfl (hb hby d3_32) _ kk_) ?_
        show own_Fin p.tables e below _ (T77.setTop (mkF m 33 #[.val (.ref o), .val (.long t), .second, .val (.int (Int32.ofNat (i + 1))), s4, s5] [(.long (own_wd (i + 1))), (.long t)]))
        obtain ⟨_, _, ⟨T78, L78, k78, n78⟩, -, X78, ⟨Lc78, hQ78, l78, y78, z78⟩, st78⟩ := Jvm.LawKit.callS X77 hx (y := (⟨"com/example/wynik/wynik/store/RangeLayout", "period", "(JJ)[J"⟩ : MethodName)) hown (mvT hZ (hw _ (List.mem_of_getElem? (i := 28) rfl))) (mvT hZ (hw _ (List.mem_of_getElem? (i := 29) rfl))) (mvT hZ (hw _ (List.mem_of_getElem? (i := 2) rfl))) (mvT hZ (hw _ (List.mem_of_getElem? (i := 30) rfl))) (by decide) (backOf (W := 0) (rm_pe l Z a0 hw [] t (own_wd (i + 1)) hL n0 (Nat.le_trans Z0 KL.1) (own_wd_pos _)) hZ (hw _ (List.mem_of_getElem? (i := 30) rfl)) (hw _ (List.mem_of_getElem? (i := 2) rfl)) (by decide) (by decide)) (g := (mkF m 33 #[.val (.ref o), .val (.long t), .second, .val (.int (Int32.ofNat (i + 1))), s4, s5] [(.long (own_wd (i + 1))), (.long t)])) rfl (by rw [hml]; rfl) (argsL := [(.long t), (.long (own_wd (i + 1)))]) (rest := []) (lenOf pd_5 rfl) rfl (by show 2 * 0 + _ ≤ _; exact Nat.le_of_eq rfl) (hb hby d3_33) (fun _ _ => ⟨rfl, e77, (by show cL + 1 ≤ 9; omega), (by show sL + 2 ≤ 18; omega)⟩)
        dsimp only [Pt.U, Pt.locs, Pt.cells, Pt.slots] at X78 l78 y78 z78 st78 hQ78
        subst l78 y78 z78
        obtain ⟨r78, kk78, rfl, N78q, KK78, sz78, V78⟩ := hQ78
        have N78 := Fr.app NL N78q
        have sz_r78 : h0.size ≤ r78 := Nat.le_trans KL.1 sz78
        have g_r78 : n0 ≤ r78 := Nat.le_trans Z0 sz_r78
        have ne79 : o ≠ r78 := Nat.ne_of_lt (Nat.lt_of_lt_of_le F_width.lt sz78)
        have ne80 : wa ≠ r78 := O0.ne V_W.lt g_r78
        replace F_width := F_width.keep KK78 nin0
        replace F_widest := F_widest.keep KK78 nin0
        replace F_horizon := F_horizon.keep KK78 nin0
        replace F_from := F_from.keep KK78 nin0
        replace F_until := F_until.keep KK78 nin0
        replace O0 := O0.keep KK78 all0
        have K81 := KL.trans KK78 all0
        refine own_go st78 ?_
        refine own_go (fun _ kk_ => XS.astore X78.here hx rfl (hb hby d3_36) rfl rfl (l' := #[.val (.ref o), .val (.long t), .second, .val (.int (Int32.ofNat (i + 1))), .val (.ref r78), s5]) (XS.store1 rfl hs4 rfl) kk_) ?_
        show own_Fin p.tables e below _ (T78.setTop (mkF m 38 #[.val (.ref o), .val (.long t), .second, .val (.int (Int32.ofNat (i + 1))), .val (.ref r78), s5] []))
        obtain ⟨T82, X82, e82, st82⟩ := getS2 X78 hx hZ hown (host := "") (Or.inl (hw _ (List.mem_of_getElem? (i := 24) rfl))) Via.refl rfl (S_W.ext O0.2) (g := (mkF m 38 #[.val (.ref o), .val (.long t), .second, .val (.int (Int32.ofNat (i + 1))), .val (.ref r78), s5] [])) rfl (hb hby d3_38)
        refine own_go st82 ?_
        refine own_go (fun _ kk_ => XS.iloadN X82.here hx rfl (hb hby d3_41) rfl kk_) ?_
        show own_Fin p.tables e below _ (T82.setTop (mkF m 42 #[.val (.ref o), .val (.long t), .second, .val (.int (Int32.ofNat (i + 1))), .val (.ref r78), s5] [(.int (Int32.ofNat (i + 1))), (.ref wa)]))
        refine own_go (fun _ kk_ => own_laload X82 hx hZ e82 (V_W.ext O0.2) (own_idx hi) (v := (.long (own_wd (i + 1)))) (own_wat hi) (g := (mkF m 42 #[.val (.ref o), .val (.long t), .second, .val (.int (Int32.ofNat (i + 1))), .val (.ref r78), s5] [(.int (Int32.ofNat (i + 1))), (.ref wa)])) rfl rfl (hb hby d3_42) _ kk_) ?_
        refine own_go (fun _ kk_ => XS.aloadN X82.here hx rfl (hb hby d3_43) rfl rfl kk_) ?_
        show own_Fin p.tables e below _ (T82.setTop (mkF m 44 #[.val (.ref o), .val (.long t), .second, .val (.int (Int32.ofNat (i + 1))), .val (.ref r78), s5] [(.ref o), (.long (own_wd (i + 1)))]))
        obtain ⟨T83, X83, e83, st83⟩ := getF X82 hx hZ hown (host := "") (Or.inl (hw _ (List.mem_of_getElem? (i := 9) rfl))) Via.refl e82 F_width (g := (mkF m 44 #[.val (.ref o), .val (.long t), .second, .val (.int (Int32.ofNat (i + 1))), .val (.ref r78), s5] [(.ref o), (.long (own_wd (i + 1)))])) rfl rfl (hb hby d3_44)
        refine own_go st83 ?_
        show own_Fin p.tables e below _ (T83.setTop (mkF m 47 #[.val (.ref o), .val (.long t), .second, .val (.int (Int32.ofNat (i + 1))), .val (.ref r78), s5] [(.long v0), (.long (own_wd (i + 1)))]))
        refine own_go (fun _ kk_ => XS.lcmp X83.here hx rfl (hb hby d3_47) rfl kk_) ?_
        show own_Fin p.tables e below _ (T83.setTop (mkF m 48 #[.val (.ref o), .val (.long t), .second, .val (.int (Int32.ofNat (i + 1))), .val (.ref r78), s5] [(.int (lcmpW (own_wd (i + 1)) v0))]))
        by_cases hc84 : v0 < (own_wd (i + 1))
        · skip
          refine own_go (fun _ kk_ => XS.ifNo X83.here hx rfl (hb hby d3_48) rfl (Jvm.Free.XT.ll_le_f hc84) kk_) ?_
          refine own_go (fun _ kk_ => XS.aload X83.here hx rfl (hb hby d3_51) rfl rfl kk_) ?_
          refine own_go (fun _ kk_ => XS.iconst X83.here hx rfl (hb hby d3_53) kk_) ?_
          show own_Fin p.tables e below _ (T83.setTop (mkF m 54 #[.val (.ref o), .val (.long t), .second, .val (.int (Int32.ofNat (i + 1))), .val (.ref r78), s5] [(.int (0 : Int32)), (.ref r78)]))
          refine own_go (fun _ kk_ => own_laload X83 hx hZ e83 V78 (by decide) (v := (.long (own_start t (own_wd (i + 1))))) (rfl) (g := (mkF m 54 #[.val (.ref o), .val (.long t), .second, .val (.int (Int32.ofNat (i + 1))), .val (.ref r78), s5] [(.int (0 : Int32)), (.ref r78)])) rfl rfl (hb hby d3_54) _ kk_) ?_
          refine own_go (fun _ kk_ => XS.aloadN X83.here hx rfl (hb hby d3_55) rfl rfl kk_) ?_
          show own_Fin p.tables e below _ (T83.setTop (mkF m 56 #[.val (.ref o), .val (.long t), .second, .val (.int (Int32.ofNat (i + 1))), .val (.ref r78), s5] [(.ref o), (.long (own_start t (own_wd (i + 1))))]))
          obtain ⟨T85, X85, e85, st85⟩ := getF X83 hx hZ hown (host := "") (Or.inl (hw _ (List.mem_of_getElem? (i := 13) rfl))) Via.refl e83 F_horizon (g := (mkF m 56 #[.val (.ref o), .val (.long t), .second, .val (.int (Int32.ofNat (i + 1))), .val (.ref r78), s5] [(.ref o), (.long (own_start t (own_wd (i + 1))))])) rfl rfl (hb hby d3_56)
          refine own_go st85 ?_
          show own_Fin p.tables e below _ (T85.setTop (mkF m 59 #[.val (.ref o), .val (.long t), .second, .val (.int (Int32.ofNat (i + 1))), .val (.ref r78), s5] [(.long v2), (.long (own_start t (own_wd (i + 1))))]))
          refine own_go (fun _ kk_ => XS.lcmp X85.here hx rfl (hb hby d3_59) rfl kk_) ?_
          show own_Fin p.tables e below _ (T85.setTop (mkF m 60 #[.val (.ref o), .val (.long t), .second, .val (.int (Int32.ofNat (i + 1))), .val (.ref r78), s5] [(.int (lcmpW (own_start t (own_wd (i + 1))) v2))]))
          by_cases hc86 : v2 < (own_start t (own_wd (i + 1)))
          · skip
            refine own_go (fun _ kk_ => XS.ifNo X85.here hx rfl (hb hby d3_60) rfl (Jvm.Free.XT.ll_le_f hc86) kk_) ?_
            refine own_go (fun _ kk_ => XS.iconst X85.here hx rfl (hb hby d3_63) kk_) ?_
            refine own_go (fun _ kk_ => XS.goto X85.here hx rfl (pc0 := 64) (pc' := 68) rfl (hb hby d3_64) (by decide) (by decide) kk_) ?_
            refine own_go (fun _ kk_ => XS.istore X85.here hx rfl (hb hby d3_68) rfl (l' := #[.val (.ref o), .val (.long t), .second, .val (.int (Int32.ofNat (i + 1))), .val (.ref r78), .val (.int (1 : Int32))]) (XS.store1 rfl hs5 rfl) kk_) ?_
            refine own_go (fun _ kk_ => XS.iload X85.here hx rfl (hb hby d3_70) rfl kk_) ?_
            show own_Fin p.tables e below _ (T85.setTop (mkF m 72 #[.val (.ref o), .val (.long t), .second, .val (.int (Int32.ofNat (i + 1))), .val (.ref r78), .val (.int (1 : Int32))] [(.int (1 : Int32))]))
            refine own_go (fun _ kk_ => XS.ifNo X85.here hx rfl (hb hby d3_72) rfl ((if0 _ _).trans (feq (by decide : ¬ (1 : Int32) = (0 : Int32))).1) kk_) ?_
            refine own_go (fun _ kk_ => XS.aload X85.here hx rfl (hb hby d3_75) rfl rfl kk_) ?_
            refine own_go (fun _ kk_ => XS.iconst X85.here hx rfl (hb hby d3_77) kk_) ?_
            show own_Fin p.tables e below _ (T85.setTop (mkF m 78 #[.val (.ref o), .val (.long t), .second, .val (.int (Int32.ofNat (i + 1))), .val (.ref r78), .val (.int (1 : Int32))] [(.int (0 : Int32)), (.ref r78)]))
            refine own_go (fun _ kk_ => own_laload X85 hx hZ e85 V78 (by decide) (v := (.long (own_start t (own_wd (i + 1))))) (rfl) (g := (mkF m 78 #[.val (.ref o), .val (.long t), .second, .val (.int (Int32.ofNat (i + 1))), .val (.ref r78), .val (.int (1 : Int32))] [(.int (0 : Int32)), (.ref r78)])) rfl rfl (hb hby d3_78) _ kk_) ?_
            refine own_go (fun _ kk_ => XS.lloadN X85.here hx rfl (hb hby d3_79) rfl kk_) ?_
            show own_Fin p.tables e below _ (T85.setTop (mkF m 80 #[.val (.ref o), .val (.long t), .second, .val (.int (Int32.ofNat (i + 1))), .val (.ref r78), .val (.int (1 : Int32))] [(.long t), (.long (own_start t (own_wd (i + 1))))]))
            refine own_go (fun _ kk_ => XS.lcmp X85.here hx rfl (hb hby d3_80) rfl kk_) ?_
            show own_Fin p.tables e below _ (T85.setTop (mkF m 81 #[.val (.ref o), .val (.long t), .second, .val (.int (Int32.ofNat (i + 1))), .val (.ref r78), .val (.int (1 : Int32))] [(.int (lcmpW (own_start t (own_wd (i + 1))) t))]))
            by_cases hc87 : t < (own_start t (own_wd (i + 1)))
            · skip
              refine own_go (fun _ kk_ => XS.ifYes X85.here hx rfl (pc0 := 81) (pc' := 111) rfl (hb hby d3_81) rfl (Jvm.Free.XT.ll_gt_t hc87) (by decide) (by decide) kk_) ?_
              show own_Fin p.tables e below _ (T85.setTop (mkF m 111 #[.val (.ref o), .val (.long t), .second, .val (.int (Int32.ofNat (i + 1))), .val (.ref r78), .val (.int (1 : Int32))] []))
              refine own_go (fun _ kk_ => XS.iinc X85.here hx rfl (hb hby d3_111) rfl (l' := #[.val (.ref o), .val (.long t), .second, .val (.int ((Int32.ofNat (i + 1)) + Int32.ofInt (-1))), .val (.ref r78), .val (.int (1 : Int32))]) rfl kk_) ?_
              refine own_go (fun _ kk_ => XS.goto X85.here hx rfl (pc0 := 114) (pc' := 7) rfl (hb hby d3_114) (by decide) (by decide) kk_) ?_
              show own_Fin p.tables e below _ (T85.setTop (mkF m 7 #[.val (.ref o), .val (.long t), .second, .val (.int ((Int32.ofNat (i + 1)) + Int32.ofInt (-1))), .val (.ref r78), .val (.int (1 : Int32))] []))
              rw [own_dec i]
              refine ih (by omega) ?_ _ _ _ _ _ X85 e85 N78 K81 (by omega) (by omega) _ _ (One.val rfl) (One.val rfl)
              refine own_ext hno ?_
              simp [own_ok, hc76, hc84, hc86, hc87]
            · skip
              refine own_go (fun _ kk_ => XS.ifNo X85.here hx rfl (hb hby d3_81) rfl (Jvm.Free.XT.ll_gt_f hc87) kk_) ?_
              refine own_go (fun _ kk_ => XS.aload X85.here hx rfl (hb hby d3_84) rfl rfl kk_) ?_
              refine own_go (fun _ kk_ => XS.iconst X85.here hx rfl (hb hby d3_86) kk_) ?_
              show own_Fin p.tables e below _ (T85.setTop (mkF m 87 #[.val (.ref o), .val (.long t), .second, .val (.int (Int32.ofNat (i + 1))), .val (.ref r78), .val (.int (1 : Int32))] [(.int (0 : Int32)), (.ref r78)]))
              refine own_go (fun _ kk_ => own_laload X85 hx hZ e85 V78 (by decide) (v := (.long (own_start t (own_wd (i + 1))))) (rfl) (g := (mkF m 87 #[.val (.ref o), .val (.long t), .second, .val (.int (Int32.ofNat (i + 1))), .val (.ref r78), .val (.int (1 : Int32))] [(.int (0 : Int32)), (.ref r78)])) rfl rfl (hb hby d3_87) _ kk_) ?_
              refine own_go (fun _ kk_ => XS.aloadN X85.here hx rfl (hb hby d3_88) rfl rfl kk_) ?_
              show own_Fin p.tables e below _ (T85.setTop (mkF m 89 #[.val (.ref o), .val (.long t), .second, .val (.int (Int32.ofNat (i + 1))), .val (.ref r78), .val (.int (1 : Int32))] [(.ref o), (.long (own_start t (own_wd (i + 1))))]))
              obtain ⟨T88, X88, e88, st88⟩ := getF X85 hx hZ hown (host := "") (Or.inl (hw _ (List.mem_of_getElem? (i := 15) rfl))) Via.refl e85 F_from (g := (mkF m 89 #[.val (.ref o), .val (.long t), .second, .val (.int (Int32.ofNat (i + 1))), .val (.ref r78), .val (.int (1 : Int32))] [(.ref o), (.long (own_start t (own_wd (i + 1))))])) rfl rfl (hb hby d3_89)
              refine own_go st88 ?_
              show own_Fin p.tables e below _ (T88.setTop (mkF m 92 #[.val (.ref o), .val (.long t), .second, .val (.int (Int32.ofNat (i + 1))), .val (.ref r78), .val (.int (1 : Int32))] [(.long v3), (.long (own_start t (own_wd (i + 1))))]))
              refine own_go (fun _ kk_ => XS.lcmp X88.here hx rfl (hb hby d3_92) rfl kk_) ?_
              show own_Fin p.tables e below _ (T88.setTop (mkF m 93 #[.val (.ref o), .val (.long t), .second, .val (.int (Int32.ofNat (i + 1))), .val (.ref r78), .val (.int (1 : Int32))] [(.int (lcmpW (own_start t (own_wd (i + 1))) v3))]))
              by_cases hc89 : (own_start t (own_wd (i + 1))) < v3
              · skip
                refine own_go (fun _ kk_ => XS.ifYes X88.here hx rfl (pc0 := 93) (pc' := 111) rfl (hb hby d3_93) rfl (Jvm.Free.XT.ll_lt_t hc89) (by decide) (by decide) kk_) ?_
                show own_Fin p.tables e below _ (T88.setTop (mkF m 111 #[.val (.ref o), .val (.long t), .second, .val (.int (Int32.ofNat (i + 1))), .val (.ref r78), .val (.int (1 : Int32))] []))
                refine own_go (fun _ kk_ => XS.iinc X88.here hx rfl (hb hby d3_111) rfl (l' := #[.val (.ref o), .val (.long t), .second, .val (.int ((Int32.ofNat (i + 1)) + Int32.ofInt (-1))), .val (.ref r78), .val (.int (1 : Int32))]) rfl kk_) ?_
                refine own_go (fun _ kk_ => XS.goto X88.here hx rfl (pc0 := 114) (pc' := 7) rfl (hb hby d3_114) (by decide) (by decide) kk_) ?_
                show own_Fin p.tables e below _ (T88.setTop (mkF m 7 #[.val (.ref o), .val (.long t), .second, .val (.int ((Int32.ofNat (i + 1)) + Int32.ofInt (-1))), .val (.ref r78), .val (.int (1 : Int32))] []))
                rw [own_dec i]
                refine ih (by omega) ?_ _ _ _ _ _ X88 e88 N78 K81 (by omega) (by omega) _ _ (One.val rfl) (One.val rfl)
                refine own_ext hno ?_
                simp [own_ok, hc76, hc84, hc86, hc87, hc89]
              · skip
                refine own_go (fun _ kk_ => XS.ifNo X88.here hx rfl (hb hby d3_93) rfl (Jvm.Free.XT.ll_lt_f hc89) kk_) ?_
                refine own_go (fun _ kk_ => XS.aload X88.here hx rfl (hb hby d3_96) rfl rfl kk_) ?_
                refine own_go (fun _ kk_ => XS.iconst X88.here hx rfl (hb hby d3_98) kk_) ?_
                show own_Fin p.tables e below _ (T88.setTop (mkF m 99 #[.val (.ref o), .val (.long t), .second, .val (.int (Int32.ofNat (i + 1))), .val (.ref r78), .val (.int (1 : Int32))] [(.int (1 : Int32)), (.ref r78)]))
                refine own_go (fun _ kk_ => own_laload X88 hx hZ e88 V78 (by decide) (v := (.long (own_stop (own_start t (own_wd (i + 1))) (own_wd (i + 1))))) (rfl) (g := (mkF m 99 #[.val (.ref o), .val (.long t), .second, .val (.int (Int32.ofNat (i + 1))), .val (.ref r78), .val (.int (1 : Int32))] [(.int (1 : Int32)), (.ref r78)])) rfl rfl (hb hby d3_99) _ kk_) ?_
                refine own_go (fun _ kk_ => XS.aloadN X88.here hx rfl (hb hby d3_100) rfl rfl kk_) ?_
                show own_Fin p.tables e below _ (T88.setTop (mkF m 101 #[.val (.ref o), .val (.long t), .second, .val (.int (Int32.ofNat (i + 1))), .val (.ref r78), .val (.int (1 : Int32))] [(.ref o), (.long (own_stop (own_start t (own_wd (i + 1))) (own_wd (i + 1))))]))
                obtain ⟨T90, X90, e90, st90⟩ := getF X88 hx hZ hown (host := "") (Or.inl (hw _ (List.mem_of_getElem? (i := 17) rfl))) Via.refl e88 F_until (g := (mkF m 101 #[.val (.ref o), .val (.long t), .second, .val (.int (Int32.ofNat (i + 1))), .val (.ref r78), .val (.int (1 : Int32))] [(.ref o), (.long (own_stop (own_start t (own_wd (i + 1))) (own_wd (i + 1))))])) rfl rfl (hb hby d3_101)
                refine own_go st90 ?_
                show own_Fin p.tables e below _ (T90.setTop (mkF m 104 #[.val (.ref o), .val (.long t), .second, .val (.int (Int32.ofNat (i + 1))), .val (.ref r78), .val (.int (1 : Int32))] [(.long v4), (.long (own_stop (own_start t (own_wd (i + 1))) (own_wd (i + 1))))]))
                refine own_go (fun _ kk_ => XS.lcmp X90.here hx rfl (hb hby d3_104) rfl kk_) ?_
                show own_Fin p.tables e below _ (T90.setTop (mkF m 105 #[.val (.ref o), .val (.long t), .second, .val (.int (Int32.ofNat (i + 1))), .val (.ref r78), .val (.int (1 : Int32))] [(.int (lcmpW (own_stop (own_start t (own_wd (i + 1))) (own_wd (i + 1))) v4))]))
                by_cases hc91 : v4 < (own_stop (own_start t (own_wd (i + 1))) (own_wd (i + 1)))
                · skip
                  refine own_go (fun _ kk_ => XS.ifYes X90.here hx rfl (pc0 := 105) (pc' := 111) rfl (hb hby d3_105) rfl (Jvm.Free.XT.ll_gt_t hc91) (by decide) (by decide) kk_) ?_
                  show own_Fin p.tables e below _ (T90.setTop (mkF m 111 #[.val (.ref o), .val (.long t), .second, .val (.int (Int32.ofNat (i + 1))), .val (.ref r78), .val (.int (1 : Int32))] []))
                  refine own_go (fun _ kk_ => XS.iinc X90.here hx rfl (hb hby d3_111) rfl (l' := #[.val (.ref o), .val (.long t), .second, .val (.int ((Int32.ofNat (i + 1)) + Int32.ofInt (-1))), .val (.ref r78), .val (.int (1 : Int32))]) rfl kk_) ?_
                  refine own_go (fun _ kk_ => XS.goto X90.here hx rfl (pc0 := 114) (pc' := 7) rfl (hb hby d3_114) (by decide) (by decide) kk_) ?_
                  show own_Fin p.tables e below _ (T90.setTop (mkF m 7 #[.val (.ref o), .val (.long t), .second, .val (.int ((Int32.ofNat (i + 1)) + Int32.ofInt (-1))), .val (.ref r78), .val (.int (1 : Int32))] []))
                  rw [own_dec i]
                  refine ih (by omega) ?_ _ _ _ _ _ X90 e90 N78 K81 (by omega) (by omega) _ _ (One.val rfl) (One.val rfl)
                  refine own_ext hno ?_
                  simp [own_ok, hc76, hc84, hc86, hc87, hc89, hc91]
                · skip
                  refine own_go (fun _ kk_ => XS.ifNo X90.here hx rfl (hb hby d3_105) rfl (Jvm.Free.XT.ll_gt_f hc91) kk_) ?_
                  refine own_go (fun _ kk_ => XS.aload X90.here hx rfl (hb hby d3_108) rfl rfl kk_) ?_
                  show own_Fin p.tables e below _ (T90.setTop (mkF m 110 #[.val (.ref o), .val (.long t), .second, .val (.int (Int32.ofNat (i + 1))), .val (.ref r78), .val (.int (1 : Int32))] [(.ref r78)]))
                  refine own_retA X90 hx Bd (t := (.array .long)) Bd.returns rfl rfl rfl (hb hby d3_110) ?_ (by show (cL + 1) ≤ 9; omega) (by show (sL + 2) ≤ 18; omega)
                  show (Q_rm_ra Z o t v0 v1 v2 v3 v4 wa wk h0 n0) (some (.ref r78)) T90.heap _
                  rw [e90]
                  refine ⟨_, _, (i + 1), rfl, N78, K81, sz_r78, V78, by omega, ?_, hno⟩
                  exact Or.inr (by simp [own_ok, hc76, hc84, hc86, hc87, hc89, hc91])
          · skip
            refine own_go (fun _ kk_ => XS.ifYes X85.here hx rfl (pc0 := 60) (pc' := 67) rfl (hb hby d3_60) rfl (Jvm.Free.XT.ll_le_t hc86) (by decide) (by decide) kk_) ?_
            refine own_go (fun _ kk_ => XS.iconst X85.here hx rfl (hb hby d3_67) kk_) ?_
            refine own_go (fun _ kk_ => XS.istore X85.here hx rfl (hb hby d3_68) rfl (l' := #[.val (.ref o), .val (.long t), .second, .val (.int (Int32.ofNat (i + 1))), .val (.ref r78), .val (.int (0 : Int32))]) (XS.store1 rfl hs5 rfl) kk_) ?_
            refine own_go (fun _ kk_ => XS.iload X85.here hx rfl (hb hby d3_70) rfl kk_) ?_
            show own_Fin p.tables e below _ (T85.setTop (mkF m 72 #[.val (.ref o), .val (.long t), .second, .val (.int (Int32.ofNat (i + 1))), .val (.ref r78), .val (.int (0 : Int32))] [(.int (0 : Int32))]))
            refine own_go (fun _ kk_ => XS.ifYes X85.here hx rfl (pc0 := 72) (pc' := 111) rfl (hb hby d3_72) rfl ((if0 _ _).trans (teq (by decide : (0 : Int32) = (0 : Int32))).1) (by decide) (by decide) kk_) ?_
            show own_Fin p.tables e below _ (T85.setTop (mkF m 111 #[.val (.ref o), .val (.long t), .second, .val (.int (Int32.ofNat (i + 1))), .val (.ref r78), .val (.int (0 : Int32))] []))
            refine own_go (fun _ kk_ => XS.iinc X85.here hx rfl (hb hby d3_111) rfl (l' := #[.val (.ref o), .val (.long t), .second, .val (.int ((Int32.ofNat (i + 1)) + Int32.ofInt (-1))), .val (.ref r78), .val (.int (0 : Int32))]) rfl kk_) ?_
            refine own_go (fun _ kk_ => XS.goto X85.here hx rfl (pc0 := 114) (pc' := 7) rfl (hb hby d3_114) (by decide) (by decide) kk_) ?_
            show own_Fin p.tables e below _ (T85.setTop (mkF m 7 #[.val (.ref o), .val (.long t), .second, .val (.int ((Int32.ofNat (i + 1)) + Int32.ofInt (-1))), .val (.ref r78), .val (.int (0 : Int32))] []))
            rw [own_dec i]
            refine ih (by omega) ?_ _ _ _ _ _ X85 e85 N78 K81 (by omega) (by omega) _ _ (One.val rfl) (One.val rfl)
            refine own_ext hno ?_
            simp [own_ok, hc76, hc84, hc86]
        · skip
          refine own_go (fun _ kk_ => XS.ifYes X83.here hx rfl (pc0 := 48) (pc' := 63) rfl (hb hby d3_48) rfl (Jvm.Free.XT.ll_le_t hc84) (by decide) (by decide) kk_) ?_
          refine own_go (fun _ kk_ => XS.iconst X83.here hx rfl (hb hby d3_63) kk_) ?_
          refine own_go (fun _ kk_ => XS.goto X83.here hx rfl (pc0 := 64) (pc' := 68) rfl (hb hby d3_64) (by decide) (by decide) kk_) ?_
          refine own_go (fun _ kk_ => XS.istore X83.here hx rfl (hb hby d3_68) rfl (l' := #[.val (.ref o), .val (.long t), .second, .val (.int (Int32.ofNat (i + 1))), .val (.ref r78), .val (.int (1 : Int32))]) (XS.store1 rfl hs5 rfl) kk_) ?_
          refine own_go (fun _ kk_ => XS.iload X83.here hx rfl (hb hby d3_70) rfl kk_) ?_
          show own_Fin p.tables e below _ (T83.setTop (mkF m 72 #[.val (.ref o), .val (.long t), .second, .val (.int (Int32.ofNat (i + 1))), .val (.ref r78), .val (.int (1 : Int32))] [(.int (1 : Int32))]))
          refine own_go (fun _ kk_ => XS.ifNo X83.here hx rfl (hb hby d3_72) rfl ((if0 _ _).trans (feq (by decide : ¬ (1 : Int32) = (0 : Int32))).1) kk_) ?_
          refine own_go (fun _ kk_ => XS.aload X83.here hx rfl (hb hby d3_75) rfl rfl kk_) ?_
          refine own_go (fun _ kk_ => XS.iconst X83.here hx rfl (hb hby d3_77) kk_) ?_
          show own_Fin p.tables e below _ (T83.setTop (mkF m 78 #[.val (.ref o), .val (.long t), .second, .val (.int (Int32.ofNat (i + 1))), .val (.ref r78), .val (.int (1 : Int32))] [(.int (0 : Int32)), (.ref r78)]))
          refine own_go (fun _ kk_ => own_laload X83 hx hZ e83 V78 (by decide) (v := (.long (own_start t (own_wd (i + 1))))) (rfl) (g := (mkF m 78 #[.val (.ref o), .val (.long t), .second, .val (.int (Int32.ofNat (i + 1))), .val (.ref r78), .val (.int (1 : Int32))] [(.int (0 : Int32)), (.ref r78)])) rfl rfl (hb hby d3_78) _ kk_) ?_
          refine own_go (fun _ kk_ => XS.lloadN X83.here hx rfl (hb hby d3_79) rfl kk_) ?_
          show own_Fin p.tables e below _ (T83.setTop (mkF m 80 #[.val (.ref o), .val (.long t), .second, .val (.int (Int32.ofNat (i + 1))), .val (.ref r78), .val (.int (1 : Int32))] [(.long t), (.long (own_start t (own_wd (i + 1))))]))
          refine own_go (fun _ kk_ => XS.lcmp X83.here hx rfl (hb hby d3_80) rfl kk_) ?_
          show own_Fin p.tables e below _ (T83.setTop (mkF m 81 #[.val (.ref o), .val (.long t), .second, .val (.int (Int32.ofNat (i + 1))), .val (.ref r78), .val (.int (1 : Int32))] [(.int (lcmpW (own_start t (own_wd (i + 1))) t))]))
          by_cases hc92 : t < (own_start t (own_wd (i + 1)))
          · skip
            refine own_go (fun _ kk_ => XS.ifYes X83.here hx rfl (pc0 := 81) (pc' := 111) rfl (hb hby d3_81) rfl (Jvm.Free.XT.ll_gt_t hc92) (by decide) (by decide) kk_) ?_
            show own_Fin p.tables e below _ (T83.setTop (mkF m 111 #[.val (.ref o), .val (.long t), .second, .val (.int (Int32.ofNat (i + 1))), .val (.ref r78), .val (.int (1 : Int32))] []))
            refine own_go (fun _ kk_ => XS.iinc X83.here hx rfl (hb hby d3_111) rfl (l' := #[.val (.ref o), .val (.long t), .second, .val (.int ((Int32.ofNat (i + 1)) + Int32.ofInt (-1))), .val (.ref r78), .val (.int (1 : Int32))]) rfl kk_) ?_
            refine own_go (fun _ kk_ => XS.goto X83.here hx rfl (pc0 := 114) (pc' := 7) rfl (hb hby d3_114) (by decide) (by decide) kk_) ?_
            show own_Fin p.tables e below _ (T83.setTop (mkF m 7 #[.val (.ref o), .val (.long t), .second, .val (.int ((Int32.ofNat (i + 1)) + Int32.ofInt (-1))), .val (.ref r78), .val (.int (1 : Int32))] []))
            rw [own_dec i]
            refine ih (by omega) ?_ _ _ _ _ _ X83 e83 N78 K81 (by omega) (by omega) _ _ (One.val rfl) (One.val rfl)
            refine own_ext hno ?_
            simp [own_ok, hc76, hc84, hc92]
          · skip
            refine own_go (fun _ kk_ => XS.ifNo X83.here hx rfl (hb hby d3_81) rfl (Jvm.Free.XT.ll_gt_f hc92) kk_) ?_
            refine own_go (fun _ kk_ => XS.aload X83.here hx rfl (hb hby d3_84) rfl rfl kk_) ?_
            refine own_go (fun _ kk_ => XS.iconst X83.here hx rfl (hb hby d3_86) kk_) ?_
            show own_Fin p.tables e below _ (T83.setTop (mkF m 87 #[.val (.ref o), .val (.long t), .second, .val (.int (Int32.ofNat (i + 1))), .val (.ref r78), .val (.int (1 : Int32))] [(.int (0 : Int32)), (.ref r78)]))
            refine own_go (fun _ kk_ => own_laload X83 hx hZ e83 V78 (by decide) (v := (.long (own_start t (own_wd (i + 1))))) (rfl) (g := (mkF m 87 #[.val (.ref o), .val (.long t), .second, .val (.int (Int32.ofNat (i + 1))), .val (.ref r78), .val (.int (1 : Int32))] [(.int (0 : Int32)), (.ref r78)])) rfl rfl (hb hby d3_87) _ kk_) ?_
            refine own_go (fun _ kk_ => XS.aloadN X83.here hx rfl (hb hby d3_88) rfl rfl kk_) ?_
            show own_Fin p.tables e below _ (T83.setTop (mkF m 89 #[.val (.ref o), .val (.long t), .second, .val (.int (Int32.ofNat (i + 1))), .val (.ref r78), .val (.int (1 : Int32))] [(.ref o), (.long (own_start t (own_wd (i + 1))))]))
            obtain ⟨T93, X93, e93, st93⟩ := getF X83 hx hZ hown (host := "") (Or.inl (hw _ (List.mem_of_getElem? (i := 15) rfl))) Via.refl e83 F_from (g := (mkF m 89 #[.val (.ref o), .val (.long t), .second, .val (.int (Int32.ofNat (i + 1))), .val (.ref r78), .val (.int (1 : Int32))] [(.ref o), (.long (own_start t (own_wd (i + 1))))])) rfl rfl (hb hby d3_89)
            refine own_go st93 ?_
            show own_Fin p.tables e below _ (T93.setTop (mkF m 92 #[.val (.ref o), .val (.long t), .second, .val (.int (Int32.ofNat (i + 1))), .val (.ref r78), .val (.int (1 : Int32))] [(.long v3), (.long (own_start t (own_wd (i + 1))))]))
            refine own_go (fun _ kk_ => XS.lcmp X93.here hx rfl (hb hby d3_92) rfl kk_) ?_
            show own_Fin p.tables e below _ (T93.setTop (mkF m 93 #[.val (.ref o), .val (.long t), .second, .val (.int (Int32.ofNat (i + 1))), .val (.ref r78), .val (.int (1 : Int32))] [(.int (lcmpW (own_start t (own_wd (i + 1))) v3))]))
            by_cases hc94 : (own_start t (own_wd (i + 1))) < v3
            · skip
              refine own_go (fun _ kk_ => XS.ifYes X93.here hx rfl (pc0 := 93) (pc' := 111) rfl (hb hby d3_93) rfl (Jvm.Free.XT.ll_lt_t hc94) (by decide) (by decide) kk_) ?_
              show own_Fin p.tables e below _ (T93.setTop (mkF m 111 #[.val (.ref o), .val (.long t), .second, .val (.int (Int32.ofNat (i + 1))), .val (.ref r78), .val (.int (1 : Int32))] []))
              refine own_go (fun _ kk_ => XS.iinc X93.here hx rfl (hb hby d3_111) rfl (l' := #[.val (.ref o), .val (.long t), .second, .val (.int ((Int32.ofNat (i + 1)) + Int32.ofInt (-1))), .val (.ref r78), .val (.int (1 : Int32))]) rfl kk_) ?_
              refine own_go (fun _ kk_ => XS.goto X93.here hx rfl (pc0 := 114) (pc' := 7) rfl (hb hby d3_114) (by decide) (by decide) kk_) ?_
              show own_Fin p.tables e below _ (T93.setTop (mkF m 7 #[.val (.ref o), .val (.long t), .second, .val (.int ((Int32.ofNat (i + 1)) + Int32.ofInt (-1))), .val (.ref r78), .val (.int (1 : Int32))] []))
              rw [own_dec i]
              refine ih (by omega) ?_ _ _ _ _ _ X93 e93 N78 K81 (by omega) (by omega) _ _ (One.val rfl) (One.val rfl)
              refine own_ext hno ?_
              simp [own_ok, hc76, hc84, hc92, hc94]
            · skip
              refine own_go (fun _ kk_ => XS.ifNo X93.here hx rfl (hb hby d3_93) rfl (Jvm.Free.XT.ll_lt_f hc94) kk_) ?_
              refine own_go (fun _ kk_ => XS.aload X93.here hx rfl (hb hby d3_96) rfl rfl kk_) ?_
              refine own_go (fun _ kk_ => XS.iconst X93.here hx rfl (hb hby d3_98) kk_) ?_
              show own_Fin p.tables e below _ (T93.setTop (mkF m 99 #[.val (.ref o), .val (.long t), .second, .val (.int (Int32.ofNat (i + 1))), .val (.ref r78), .val (.int (1 : Int32))] [(.int (1 : Int32)), (.ref r78)]))
              refine own_go (fun _ kk_ => own_laload X93 hx hZ e93 V78 (by decide) (v := (.long (own_stop (own_start t (own_wd (i + 1))) (own_wd (i + 1))))) (rfl) (g := (mkF m 99 #[.val (.ref o), .val (.long t), .second, .val (.int (Int32.ofNat (i + 1))), .val (.ref r78), .val (.int (1 : Int32))] [(.int (1 : Int32)), (.ref r78)])) rfl rfl (hb hby d3_99) _ kk_) ?_
              refine own_go (fun _ kk_ => XS.aloadN X93.here hx rfl (hb hby d3_100) rfl rfl kk_) ?_
              show own_Fin p.tables e below _ (T93.setTop (mkF m 101 #[.val (.ref o), .val (.long t), .second, .val (.int (Int32.ofNat (i + 1))), .val (.ref r78), .val (.int (1 : Int32))] [(.ref o), (.long (own_stop (own_start t (own_wd (i + 1))) (own_wd (i + 1))))]))
              obtain ⟨T95, X95, e95, st95⟩ := getF X93 hx hZ hown (host := "") (Or.inl (hw _ (List.mem_of_getElem? (i := 17) rfl))) Via.refl e93 F_until (g := (mkF m 101 #[.val (.ref o), .val (.long t), .second, .val (.int (Int32.ofNat (i + 1))), .val (.ref r78), .val (.int (1 : Int32))] [(.ref o), (.long (own_stop (own_start t (own_wd (i + 1))) (own_wd (i + 1))))])) rfl rfl (hb hby d3_101)
              refine own_go st95 ?_
              show own_Fin p.tables e below _ (T95.setTop (mkF m 104 #[.val (.ref o), .val (.long t), .second, .val (.int (Int32.ofNat (i + 1))), .val (.ref r78), .val (.int (1 : Int32))] [(.long v4), (.long (own_stop (own_start t (own_wd (i + 1))) (own_wd (i + 1))))]))
              refine own_go (fun _ kk_ => XS.lcmp X95.here hx rfl (hb hby d3_104) rfl kk_) ?_
              show own_Fin p.tables e below _ (T95.setTop (mkF m 105 #[.val (.ref o), .val (.long t), .second, .val (.int (Int32.ofNat (i + 1))), .val (.ref r78), .val (.int (1 : Int32))] [(.int (lcmpW (own_stop (own_start t (own_wd (i + 1))) (own_wd (i + 1))) v4))]))
              by_cases hc96 : v4 < (own_stop (own_start t (own_wd (i + 1))) (own_wd (i + 1)))
              · skip
                refine own_go (fun _ kk_ => XS.ifYes X95.here hx rfl (pc0 := 105) (pc' := 111) rfl (hb hby d3_105) rfl (Jvm.Free.XT.ll_gt_t hc96) (by decide) (by decide) kk_) ?_
                show own_Fin p.tables e below _ (T95.setTop (mkF m 111 #[.val (.ref o), .val (.long t), .second, .val (.int (Int32.ofNat (i + 1))), .val (.ref r78), .val (.int (1 : Int32))] []))
                refine own_go (fun _ kk_ => XS.iinc X95.here hx rfl (hb hby d3_111) rfl (l' := #[.val (.ref o), .val (.long t), .second, .val (.int ((Int32.ofNat (i + 1)) + Int32.ofInt (-1))), .val (.ref r78), .val (.int (1 : Int32))]) rfl kk_) ?_
                refine own_go (fun _ kk_ => XS.goto X95.here hx rfl (pc0 := 114) (pc' := 7) rfl (hb hby d3_114) (by decide) (by decide) kk_) ?_
                show own_Fin p.tables e below _ (T95.setTop (mkF m 7 #[.val (.ref o), .val (.long t), .second, .val (.int ((Int32.ofNat (i + 1)) + Int32.ofInt (-1))), .val (.ref r78), .val (.int (1 : Int32))] []))
                rw [own_dec i]
                refine ih (by omega) ?_ _ _ _ _ _ X95 e95 N78 K81 (by omega) (by omega) _ _ (One.val rfl) (One.val rfl)
                refine own_ext hno ?_
                simp [own_ok, hc76, hc84, hc92, hc94, hc96]
              · skip
                refine own_go (fun _ kk_ => XS.ifNo X95.here hx rfl (hb hby d3_105) rfl (Jvm.Free.XT.ll_gt_f hc96) kk_) ?_
                refine own_go (fun _ kk_ => XS.aload X95.here hx rfl (hb hby d3_108) rfl rfl kk_) ?_
                show own_Fin p.tables e below _ (T95.setTop (mkF m 110 #[.val (.ref o), .val (.long t), .second, .val (.int (Int32.ofNat (i + 1))), .val (.ref r78), .val (.int (1 : Int32))] [(.ref r78)]))
                refine own_retA X95 hx Bd (t := (.array .long)) Bd.returns rfl rfl rfl (hb hby d3_110) ?_ (by show (cL + 1) ≤ 9; omega) (by show (sL + 2) ≤ 18; omega)
                show (Q_rm_ra Z o t v0 v1 v2 v3 v4 wa wk h0 n0) (some (.ref r78)) T95.heap _
                rw [e95]
                refine ⟨_, _, (i + 1), rfl, N78, K81, sz_r78, V78, by omega, ?_, hno⟩
                exact Or.inr (by simp [own_ok, hc76, hc84, hc92, hc94, hc96])
  exact loop 8 (Nat.le_refl _) (fun j h1 h2 => absurd h1 (by omega)) _ _ _ _ _ X68 e68 N0 K0 (by decide) (by decide) _ _ One.u One.u
def Q_rm_law (Z : State) (v0 : Int64) (v1 : Int64) (v2 : Int64) (v3 : Int64) (v4 : Int64) (v5 : Int64) (wa : Addr) (wk : ClassId) (h0 : Heap) (n0 : Nat) (v : Option Value) (h : Heap) (L : List Loc) : Prop := v = some (.int 1) ∧ Fr n0 L
theorem ef_rm_law (m : MethodId) (v0 : Int64) (v1 : Int64) (v2 : Int64) (v3 : Int64) (v4 : Int64) (v5 : Int64) (wa : Addr) : entryFrame m #[(.long v0), (.long v1), (.long v2), (.long v3), (.long v4), (.long v5)] maxLocals = mkF m 0 #[.val (.long v0), .second, .val (.long v1), .second, .val (.long v2), .second, .val (.long v3), .second, .val (.long v4), .second, .val (.long v5), .second, .unset, .unset, .unset] [] := by first | (simp [entryFrame, mkF, argsToLocals, Value.category, maxLocals]; done) | rfl
set_option maxRecDepth 65536 in
set_option maxHeartbeats 40000000 in
theorem rm_law (l : Launch) (Z : State) (a0 : Array Value) (hw : ∀ d ∈ tables_1, d.before a0 Z = true) (ws : List Jvm.Cond) (v0 : Int64) (v1 : Int64) (v2 : Int64) (v3 : Int64) (v4 : Int64) (v5 : Int64) (wa : Addr) (wk : ClassId) (h0 : Heap) (n0 : Nat) (Z0 : n0 ≤ h0.size) (S_W : Sta Z Z.heap "com/example/wynik/wynik/store/RangeLayout" "WIDTHS" "[J" (.ref wa)) (S_M : Sta Z Z.heap "com/example/wynik/wynik/store/RangeLayout" "MINUTE" "J" (.long (60000000000 : Int64))) (V_W : Arv Z Z.heap wa wk .long (9 : Int32) [.long (60000000000 : Int64), .long (600000000000 : Int64), .long (3600000000000 : Int64), .long (21600000000000 : Int64), .long (86400000000000 : Int64), .long (691200000000000 : Int64), .long (5529600000000000 : Int64), .long (44236800000000000 : Int64), .long (353894400000000000 : Int64)] (.long (0 : Int64))) (O0 : Old Z n0 h0) :
    MetFree l x (head1 (Jvm.Cond.code x code maxLocals ret :: ws) room_1) (fun a_ U_ => a_ = #[(.long v0), (.long v1), (.long v2), (.long v3), (.long v4), (.long v5)] ∧ Z.Warmed39 U_.vm ∧ U_.heap = h0) (fun _ _ _ _ _ => True) (fun _ U_ o_ V_ => ∃ v_ L_, o_ = .returned v_ ∧ (Q_rm_law Z v0 v1 v2 v3 v4 v5 wa wk h0 n0) v_ V_.heap L_ ∧ FrameEnd U_ o_ V_ L_ room_1.cells room_1.slots) := by
  refine MetFree.of_bodySF (plainFor_of_name pn_2) hisR ?_
  intro p e s m args below meth c s₁ Bd hml0 hP hK
  obtain ⟨rfl, hZ, hh⟩ := hP
  have hx := Bd.exec
  have hby := Bd.bytes
  have hml : c.maxLocals = 15 := hml0
  have hown : s.vm.findClass "com/example/wynik/wynik/store/RangeLayoutRangeAtPinLaw" = some m.cls := findClass_of_methodNamed Bd.named
  have hnm := (name_of_methodNamed Bd.named Bd.method).1
  have X0 : Stand p l e room_1 s m #[(.long v0), (.long v1), (.long v2), (.long v3), (.long v4), (.long v5)] below meth c s₁ [] 0 0 := Stand.of_body Bd
  have e0 : s₁.heap = h0 := by rw [← hh, Bd.state]; rfl
  have N0 := Fr.nil n0
  have K0 : Keep h0 h0 [] := Keep.refl _ _
  show own_Fin p.tables e below (own_Post (Q_rm_law Z v0 v1 v2 v3 v4 v5 wa wk h0 n0) room_1.cells room_1.slots below s) _
  refine own_go (fun _ kk_ => castTop (ef_rm_law m v0 v1 v2 v3 v4 v5 wa) kk_) ?_
  show own_Fin p.tables e below _ (s₁.setTop (mkF m 0 #[.val (.long v0), .second, .val (.long v1), .second, .val (.long v2), .second, .val (.long v3), .second, .val (.long v4), .second, .val (.long v5), .second, .unset, .unset, .unset] []))
  obtain ⟨T97, h97, X97, e97, E97, A97, D97, -, st97⟩ := newO X0 hx hZ hown (hw _ (List.mem_of_getElem? (i := 0) rfl)) (hw _ (List.mem_of_getElem? (i := 1) rfl)) (hw _ (List.mem_of_getElem? (i := 2) rfl)) e0 (g := (mkF m 0 #[.val (.long v0), .second, .val (.long v1), .second, .val (.long v2), .second, .val (.long v3), .second, .val (.long v4), .second, .val (.long v5), .second, .unset, .unset, .unset] [])) rfl (hb hby at_0) (by decide) (by decide)
  obtain ⟨b97, g97⟩ : ∃ z, z = h0.size := ⟨_, rfl⟩
  rw [← g97] at A97 D97 st97
  have sz_b97 : h0.size ≤ b97 := Nat.le_trans K0.1 (Nat.le_of_eq g97.symm)
  have g_b97 : n0 ≤ b97 := Nat.le_trans Z0 sz_b97
  replace O0 := O0.ext E97
  have K98 := K0.ext E97
  have F97_width : Fld Z h97 b97 "com/example/wynik/wynik/store/RangeLayout" "width" "J" (.long (0 : Int64)) := D97 (Or.inr (hw _ (List.mem_of_getElem? (i := 10) rfl))) (ty := .long) (by decide)
  have F97_widest : Fld Z h97 b97 "com/example/wynik/wynik/store/RangeLayout" "widest" "J" (.long (0 : Int64)) := D97 (Or.inr (hw _ (List.mem_of_getElem? (i := 12) rfl))) (ty := .long) (by decide)
  have F97_horizon : Fld Z h97 b97 "com/example/wynik/wynik/store/RangeLayout" "horizon" "J" (.long (0 : Int64)) := D97 (Or.inr (hw _ (List.mem_of_getElem? (i := 14) rfl))) (ty := .long) (by decide)
  have F97_from : Fld Z h97 b97 "com/example/wynik/wynik/store/RangeLayout" "from" "J" (.long (0 : Int64)) := D97 (Or.inr (hw _ (List.mem_of_getElem? (i := 16) rfl))) (ty := .long) (by decide)
  have F97_until : Fld Z h97 b97 "com/example/wynik/wynik/store/RangeLayout" "until" "J" (.long (0 : Int64)) := D97 (Or.inr (hw _ (List.mem_of_getElem? (i := 18) rfl))) (ty := .long) (by decide)
  refine own_go st97 ?_
  refine own_go (fun _ kk_ => XS.dup X97.here hx rfl (hb hby at_3) rfl rfl kk_) ?_
  refine own_go (fun _ kk_ => XS.lloadN X97.here hx rfl (hb hby at_4) rfl kk_) ?_
  refine own_go (fun _ kk_ => XS.lloadN X97.here hx rfl (hb hby at_5) rfl kk_) ?_
  refine own_go (fun _ kk_ => XS.lload X97.here hx rfl (hb hby at_6) rfl kk_) ?_
  refine own_go (fun _ kk_ => XS.lload X97.here hx rfl (hb hby at_8) rfl kk_) ?_
  refine own_go (fun _ kk_ => XS.lload X97.here hx rfl (hb hby at_10) rfl kk_) ?_
  show own_Fin p.tables e below _ (T97.setTop (mkF m 12 #[.val (.long v0), .second, .val (.long v1), .second, .val (.long v2), .second, .val (.long v3), .second, .val (.long v4), .second, .val (.long v5), .second, .unset, .unset, .unset] [(.long v4), (.long v3), (.long v2), (.long v1), (.long v0), (.ref b97), (.ref b97)]))
  obtain ⟨_, _, ⟨T99, L99, k99, n99⟩, -, X99, ⟨Lc99, hQ99, l99, y99, z99⟩, st99⟩ := X97.specialBack hx (y := (⟨"com/example/wynik/wynik/store/RangeLayout", "<init>", "(JJJJJ)V"⟩ : MethodName)) rfl hown (mvT hZ (hw _ (List.mem_of_getElem? (i := 3) rfl))) (mvT hZ (hw _ (List.mem_of_getElem? (i := 4) rfl))) (mvT hZ (hw _ (List.mem_of_getElem? (i := 5) rfl))) (by decide) (backOf (W := 1) (rm_in l Z a0 hw [] b97 v0 v1 v2 v3 v4 h97 n0 (Nat.le_trans Z0 K98.1) A97 F97_width F97_widest F97_horizon F97_from F97_until g_b97) hZ (hw _ (List.mem_of_getElem? (i := 5) rfl)) (hw _ (List.mem_of_getElem? (i := 2) rfl)) (by decide) (by decide)) (g := (mkF m 12 #[.val (.long v0), .second, .val (.long v1), .second, .val (.long v2), .second, .val (.long v3), .second, .val (.long v4), .second, .val (.long v5), .second, .unset, .unset, .unset] [(.long v4), (.long v3), (.long v2), (.long v1), (.long v0), (.ref b97), (.ref b97)])) rfl (by rw [hml]; rfl) (Steps.refl _) (a := b97) (argsL := [(.long v0), (.long v1), (.long v2), (.long v3), (.long v4)]) (rest := [(.ref b97)]) (lenOf pd_6 rfl) rfl (by show 2 * 0 + _ ≤ _; exact Nat.le_of_eq rfl) (hb hby at_12) (fun _ _ => ⟨rfl, e97, (by decide : 1 + 0 ≤ _), (by decide : 5 + 0 ≤ _)⟩)
  dsimp only [Pt.U, Pt.locs, Pt.cells, Pt.slots] at X99 l99 y99 z99 st99 hQ99
  subst l99 y99 z99
  obtain ⟨rfl, N99q, KK99, G99_width, G99_widest, G99_horizon, G99_from, G99_until⟩ := hQ99
  have N99 := Fr.app N0 N99q
  replace O0 := O0.keep KK99 (allS g_b97 (all0))
  replace A97 := A97.keep KK99
  have K100 := K98.trans KK99 (allS (Or.inr sz_b97) all0)
  refine own_go (fun _ kk_ => st99.trans kk_) ?_
  refine own_go (fun _ kk_ => XS.astore X99.here hx rfl (hb hby at_15) rfl rfl (l' := #[.val (.long v0), .second, .val (.long v1), .second, .val (.long v2), .second, .val (.long v3), .second, .val (.long v4), .second, .val (.long v5), .second, .val (.ref b97), .unset, .unset]) rfl kk_) ?_
  refine own_go (fun _ kk_ => XS.aload X99.here hx rfl (hb hby at_17) rfl rfl kk_) ?_
  refine own_go (fun _ kk_ => XS.lload X99.here hx rfl (hb hby at_19) rfl kk_) ?_
  show own_Fin p.tables e below _ (T99.setTop (mkF m 21 #[.val (.long v0), .second, .val (.long v1), .second, .val (.long v2), .second, .val (.long v3), .second, .val (.long v4), .second, .val (.long v5), .second, .val (.ref b97), .unset, .unset] [(.long v5), (.ref b97)]))
  obtain ⟨cq101, kq101, qa101, qb101, qc101⟩ := isOf hZ rfl A97
  obtain ⟨_, _, ⟨T101, L101, k101, n101⟩, -, X101, ⟨Lc101, hQ101, l101, y101, z101⟩, st101⟩ := X99.virtualBack hx (y := (⟨"com/example/wynik/wynik/store/RangeLayout", "rangeAt", "(J)[J"⟩ : MethodName)) (z := (⟨"com/example/wynik/wynik/store/RangeLayout", "rangeAt", "(J)[J"⟩ : MethodName)) hown (mvT hZ (hw _ (List.mem_of_getElem? (i := 19) rfl))) (mvT hZ (hw _ (List.mem_of_getElem? (i := 20) rfl))) (own_notface (args := #[]) (mvT hZ (hw _ (List.mem_of_getElem? (i := 22) rfl))) rfl) (mvT hZ (hw _ (List.mem_of_getElem? (i := 22) rfl))) (mvT hZ (hw _ (List.mem_of_getElem? (i := 21) rfl))) (by decide) (backOf (W := 0) (rm_ra l Z a0 hw [] b97 v5 v0 v1 v2 v3 v4 wa wk T99.heap n0 (Nat.le_trans Z0 K100.1) G99_width G99_widest G99_horizon G99_from G99_until S_W S_M V_W O0) hZ (hw _ (List.mem_of_getElem? (i := 23) rfl)) (hw _ (List.mem_of_getElem? (i := 2) rfl)) (by decide) (by decide)) qa101 qc101 (g := (mkF m 21 #[.val (.long v0), .second, .val (.long v1), .second, .val (.long v2), .second, .val (.long v3), .second, .val (.long v4), .second, .val (.long v5), .second, .val (.ref b97), .unset, .unset] [(.long v5), (.ref b97)])) rfl (by rw [hml]; rfl) (Steps.refl _) (argsL := [(.long v5)]) (rest := []) (lenOf pd_7 rfl) rfl (by show 2 * 0 + _ ≤ _; exact Nat.le_of_eq rfl) (hb hby at_21) (fun _ _ => ⟨rfl, rfl, (by decide : 1 + 9 ≤ _), (by decide : 5 + 18 ≤ _)⟩)
  dsimp only [Pt.U, Pt.locs, Pt.cells, Pt.slots] at X101 l101 y101 z101 st101 hQ101
  subst l101 y101 z101
  obtain ⟨r101, kk101, ix, rfl, N101q, KK101, sz101, V101, hix, hok, hno⟩ := hQ101
  have N101 := Fr.app N99 N101q
  have sz_r101 : h0.size ≤ r101 := Nat.le_trans K100.1 sz101
  have g_r101 : n0 ≤ r101 := Nat.le_trans Z0 sz_r101
  have ne102 : b97 ≠ r101 := Nat.ne_of_lt (Nat.lt_of_lt_of_le A97.lt sz101)
  replace O0 := O0.keep KK101 all0
  replace A97 := A97.keep KK101
  replace G99_width := G99_width.keep KK101 nin0
  replace G99_widest := G99_widest.keep KK101 nin0
  replace G99_horizon := G99_horizon.keep KK101 nin0
  replace G99_from := G99_from.keep KK101 nin0
  replace G99_until := G99_until.keep KK101 nin0
  have K103 := K100.trans KK101 all0
  refine own_go (fun _ kk_ => st101.trans kk_) ?_
  refine own_go (fun _ kk_ => XS.astore X101.here hx rfl (hb hby at_24) rfl rfl (l' := #[.val (.long v0), .second, .val (.long v1), .second, .val (.long v2), .second, .val (.long v3), .second, .val (.long v4), .second, .val (.long v5), .second, .val (.ref b97), .val (.ref r101), .unset]) rfl kk_) ?_
  refine own_go (fun _ kk_ => XS.aload X101.here hx rfl (hb hby at_26) rfl rfl kk_) ?_
  show own_Fin p.tables e below _ (T101.setTop (mkF m 28 #[.val (.long v0), .second, .val (.long v1), .second, .val (.long v2), .second, .val (.long v3), .second, .val (.long v4), .second, .val (.long v5), .second, .val (.ref b97), .val (.ref r101), .unset] [(.ref r101)]))
  refine own_go (fun _ kk_ => XS.ifnullNo X101.here hx rfl (hb hby at_28) rfl kk_) ?_
  refine own_go (fun _ kk_ => XS.aload X101.here hx rfl (hb hby at_31) rfl rfl kk_) ?_
  show own_Fin p.tables e below _ (T101.setTop (mkF m 33 #[.val (.long v0), .second, .val (.long v1), .second, .val (.long v2), .second, .val (.long v3), .second, .val (.long v4), .second, .val (.long v5), .second, .val (.ref b97), .val (.ref r101), .unset] [(.ref r101)]))
  refine own_go (fun _ kk_ => own_alen X101 hx hZ rfl V101 (g := (mkF m 33 #[.val (.long v0), .second, .val (.long v1), .second, .val (.long v2), .second, .val (.long v3), .second, .val (.long v4), .second, .val (.long v5), .second, .val (.ref b97), .val (.ref r101), .unset] [(.ref r101)])) rfl rfl (hb hby at_33) _ kk_) ?_
  refine own_go (fun _ kk_ => XS.iconst X101.here hx rfl (hb hby at_34) kk_) ?_
  show own_Fin p.tables e below _ (T101.setTop (mkF m 35 #[.val (.long v0), .second, .val (.long v1), .second, .val (.long v2), .second, .val (.long v3), .second, .val (.long v4), .second, .val (.long v5), .second, .val (.ref b97), .val (.ref r101), .unset] [(.int (2 : Int32)), (.int (2 : Int32))]))
  refine own_go (fun _ kk_ => XS.icmpYes X101.here hx rfl (pc0 := 35) (pc' := 40) rfl (hb hby at_35) rfl (teq (by decide : (2 : Int32) = (2 : Int32))).1 (by decide) (by decide) kk_) ?_
  refine own_go (fun _ kk_ => XS.bipush X101.here hx rfl (hb hby at_40) kk_) ?_
  show own_Fin p.tables e below _ (T101.setTop (mkF m 42 #[.val (.long v0), .second, .val (.long v1), .second, .val (.long v2), .second, .val (.long v3), .second, .val (.long v4), .second, .val (.long v5), .second, .val (.ref b97), .val (.ref r101), .unset] [(.int (6 : Int32))]))
  obtain ⟨T104, h104, k104, X104, e104, E104, A104, st104⟩ := newP X101 hx hZ (hw _ (List.mem_of_getElem? (i := 39) rfl)) rfl (g := (mkF m 42 #[.val (.long v0), .second, .val (.long v1), .second, .val (.long v2), .second, .val (.long v3), .second, .val (.long v4), .second, .val (.long v5), .second, .val (.ref b97), .val (.ref r101), .unset] [(.int (6 : Int32))])) rfl (hb hby at_42) rfl (by decide) (cap := 6) (by decide) (by decide) (by decide) (by decide)
  obtain ⟨b104, g104⟩ : ∃ z, z = T101.heap.size := ⟨_, rfl⟩
  rw [← g104] at A104 st104
  have sz_b104 : h0.size ≤ b104 := Nat.le_trans K103.1 (Nat.le_of_eq g104.symm)
  have g_b104 : n0 ≤ b104 := Nat.le_trans Z0 sz_b104
  have ne105 : b97 ≠ b104 := Nat.ne_of_lt (Nat.lt_of_lt_of_le A97.lt (Nat.le_of_eq g104.symm))
  have ne106 : r101 ≠ b104 := Nat.ne_of_lt (Nat.lt_of_lt_of_le V101.lt (Nat.le_of_eq g104.symm))
  replace O0 := O0.ext E104
  replace A97 := A97.ext E104
  replace G99_width := G99_width.ext E104
  replace G99_widest := G99_widest.ext E104
  replace G99_horizon := G99_horizon.ext E104
  replace G99_from := G99_from.ext E104
  replace G99_until := G99_until.ext E104
  replace V101 := V101.ext E104
  have K107 := K103.ext E104
  have V104 : Arv Z h104 b104 k104 .long (6 : Int32) [(.long (0 : Int64)), (.long (0 : Int64)), (.long (0 : Int64)), (.long (0 : Int64)), (.long (0 : Int64)), (.long (0 : Int64))] (.long (0 : Int64)) := (Arv.new A104 (by decide)).pad (pad_rep [] (.long (0 : Int64)) 6)
  refine own_go st104 ?_
  refine own_go (fun _ kk_ => XS.dup X104.here hx rfl (hb hby at_44) rfl rfl kk_) ?_
  refine own_go (fun _ kk_ => XS.iconst X104.here hx rfl (hb hby at_45) kk_) ?_
  refine own_go (fun _ kk_ => XS.lloadN X104.here hx rfl (hb hby at_46) rfl kk_) ?_
  show own_Fin p.tables e below _ (T104.setTop (mkF m 47 #[.val (.long v0), .second, .val (.long v1), .second, .val (.long v2), .second, .val (.long v3), .second, .val (.long v4), .second, .val (.long v5), .second, .val (.ref b97), .val (.ref r101), .unset] [(.long v0), (.int (0 : Int32)), (.ref b104), (.ref b104)]))
  obtain ⟨T108, h108, X108, e108, W108, V108, st108⟩ := own_stJ X104 hx hZ e104 V104 (by decide) (i := 0) rfl (Nat.le_of_ble_eq_true rfl) (g := (mkF m 47 #[.val (.long v0), .second, .val (.long v1), .second, .val (.long v2), .second, .val (.long v3), .second, .val (.long v4), .second, .val (.long v5), .second, .val (.ref b97), .val (.ref r101), .unset] [(.long v0), (.int (0 : Int32)), (.ref b104), (.ref b104)])) rfl rfl (hb hby at_47)
  replace V104 : Arv Z h108 b104 k104 .long (6 : Int32) [(.long v0), (.long (0 : Int64)), (.long (0 : Int64)), (.long (0 : Int64)), (.long (0 : Int64)), (.long (0 : Int64))] (.long (0 : Int64)) := V108
  have N108 := Fr.snoc X108 N101 g_b104
  refine own_go st108 ?_
  replace O0 := O0.wr W108 g_b104
  replace A97 := A97.wr W108
  replace G99_width := G99_width.other W108 (Or.inl ne105)
  replace G99_widest := G99_widest.other W108 (Or.inl ne105)
  replace G99_horizon := G99_horizon.other W108 (Or.inl ne105)
  replace G99_from := G99_from.other W108 (Or.inl ne105)
  replace G99_until := G99_until.other W108 (Or.inl ne105)
  replace V101 := V101.other W108 ne106
  have K109 := K107.wr W108 (Or.inr sz_b104)
  refine own_go (fun _ kk_ => XS.dup X108.here hx rfl (hb hby at_48) rfl rfl kk_) ?_
  refine own_go (fun _ kk_ => XS.iconst X108.here hx rfl (hb hby at_49) kk_) ?_
  refine own_go (fun _ kk_ => XS.lloadN X108.here hx rfl (hb hby at_50) rfl kk_) ?_
  show own_Fin p.tables e below _ (T108.setTop (mkF m 51 #[.val (.long v0), .second, .val (.long v1), .second, .val (.long v2), .second, .val (.long v3), .second, .val (.long v4), .second, .val (.long v5), .second, .val (.ref b97), .val (.ref r101), .unset] [(.long v1), (.int (1 : Int32)), (.ref b104), (.ref b104)]))
  obtain ⟨T110, h110, X110, e110, W110, V110, st110⟩ := own_stJ X108 hx hZ e108 V104 (by decide) (i := 1) rfl (Nat.le_of_ble_eq_true rfl) (g := (mkF m 51 #[.val (.long v0), .second, .val (.long v1), .second, .val (.long v2), .second, .val (.long v3), .second, .val (.long v4), .second, .val (.long v5), .second, .val (.ref b97), .val (.ref r101), .unset] [(.long v1), (.int (1 : Int32)), (.ref b104), (.ref b104)])) rfl rfl (hb hby at_51)
  replace V104 : Arv Z h110 b104 k104 .long (6 : Int32) [(.long v0), (.long v1), (.long (0 : Int64)), (.long (0 : Int64)), (.long (0 : Int64)), (.long (0 : Int64))] (.long (0 : Int64)) := V110
  have N110 := Fr.snoc X110 N108 g_b104
  refine own_go st110 ?_
  replace O0 := O0.wr W110 g_b104
  replace A97 := A97.wr W110
  replace G99_width := G99_width.other W110 (Or.inl ne105)
  replace G99_widest := G99_widest.other W110 (Or.inl ne105)
  replace G99_horizon := G99_horizon.other W110 (Or.inl ne105)
  replace G99_from := G99_from.other W110 (Or.inl ne105)
  replace G99_until := G99_until.other W110 (Or.inl ne105)
  replace V101 := V101.other W110 ne106
  have K111 := K109.wr W110 (Or.inr sz_b104)
  refine own_go (fun _ kk_ => XS.dup X110.here hx rfl (hb hby at_52) rfl rfl kk_) ?_
  refine own_go (fun _ kk_ => XS.iconst X110.here hx rfl (hb hby at_53) kk_) ?_
  refine own_go (fun _ kk_ => XS.lload X110.here hx rfl (hb hby at_54) rfl kk_) ?_
  show own_Fin p.tables e below _ (T110.setTop (mkF m 56 #[.val (.long v0), .second, .val (.long v1), .second, .val (.long v2), .second, .val (.long v3), .second, .val (.long v4), .second, .val (.long v5), .second, .val (.ref b97), .val (.ref r101), .unset] [(.long v2), (.int (2 : Int32)), (.ref b104), (.ref b104)]))
  obtain ⟨T112, h112, X112, e112, W112, V112, st112⟩ := own_stJ X110 hx hZ e110 V104 (by decide) (i := 2) rfl (Nat.le_of_ble_eq_true rfl) (g := (mkF m 56 #[.val (.long v0), .second, .val (.long v1), .second, .val (.long v2), .second, .val (.long v3), .second, .val (.long v4), .second, .val (.long v5), .second, .val (.ref b97), .val (.ref r101), .unset] [(.long v2), (.int (2 : Int32)), (.ref b104), (.ref b104)])) rfl rfl (hb hby at_56)
  replace V104 : Arv Z h112 b104 k104 .long (6 : Int32) [(.long v0), (.long v1), (.long v2), (.long (0 : Int64)), (.long (0 : Int64)), (.long (0 : Int64))] (.long (0 : Int64)) := V112
  have N112 := Fr.snoc X112 N110 g_b104
  refine own_go st112 ?_
  replace O0 := O0.wr W112 g_b104
  replace A97 := A97.wr W112
  replace G99_width := G99_width.other W112 (Or.inl ne105)
  replace G99_widest := G99_widest.other W112 (Or.inl ne105)
  replace G99_horizon := G99_horizon.other W112 (Or.inl ne105)
  replace G99_from := G99_from.other W112 (Or.inl ne105)
  replace G99_until := G99_until.other W112 (Or.inl ne105)
  replace V101 := V101.other W112 ne106
  have K113 := K111.wr W112 (Or.inr sz_b104)
  refine own_go (fun _ kk_ => XS.dup X112.here hx rfl (hb hby at_57) rfl rfl kk_) ?_
  refine own_go (fun _ kk_ => XS.iconst X112.here hx rfl (hb hby at_58) kk_) ?_
  refine own_go (fun _ kk_ => XS.lload X112.here hx rfl (hb hby at_59) rfl kk_) ?_
  show own_Fin p.tables e below _ (T112.setTop (mkF m 61 #[.val (.long v0), .second, .val (.long v1), .second, .val (.long v2), .second, .val (.long v3), .second, .val (.long v4), .second, .val (.long v5), .second, .val (.ref b97), .val (.ref r101), .unset] [(.long v3), (.int (3 : Int32)), (.ref b104), (.ref b104)]))
  obtain ⟨T114, h114, X114, e114, W114, V114, st114⟩ := own_stJ X112 hx hZ e112 V104 (by decide) (i := 3) rfl (Nat.le_of_ble_eq_true rfl) (g := (mkF m 61 #[.val (.long v0), .second, .val (.long v1), .second, .val (.long v2), .second, .val (.long v3), .second, .val (.long v4), .second, .val (.long v5), .second, .val (.ref b97), .val (.ref r101), .unset] [(.long v3), (.int (3 : Int32)), (.ref b104), (.ref b104)])) rfl rfl (hb hby at_61)
  replace V104 : Arv Z h114 b104 k104 .long (6 : Int32) [(.long v0), (.long v1), (.long v2), (.long v3), (.long (0 : Int64)), (.long (0 : Int64))] (.long (0 : Int64)) := V114
  have N114 := Fr.snoc X114 N112 g_b104
  refine own_go st114 ?_
  replace O0 := O0.wr W114 g_b104
  replace A97 := A97.wr W114
  replace G99_width := G99_width.other W114 (Or.inl ne105)
  replace G99_widest := G99_widest.other W114 (Or.inl ne105)
  replace G99_horizon := G99_horizon.other W114 (Or.inl ne105)
  replace G99_from := G99_from.other W114 (Or.inl ne105)
  replace G99_until := G99_until.other W114 (Or.inl ne105)
  replace V101 := V101.other W114 ne106
  have K115 := K113.wr W114 (Or.inr sz_b104)
  refine own_go (fun _ kk_ => XS.dup X114.here hx rfl (hb hby at_62) rfl rfl kk_) ?_
  refine own_go (fun _ kk_ => XS.iconst X114.here hx rfl (hb hby at_63) kk_) ?_
  refine own_go (fun _ kk_ => XS.lload X114.here hx rfl (hb hby at_64) rfl kk_) ?_
  show own_Fin p.tables e below _ (T114.setTop (mkF m 66 #[.val (.long v0), .second, .val (.long v1), .second, .val (.long v2), .second, .val (.long v3), .second, .val (.long v4), .second, .val (.long v5), .second, .val (.ref b97), .val (.ref r101), .unset] [(.long v4), (.int (4 : Int32)), (.ref b104), (.ref b104)]))
  obtain ⟨T116, h116, X116, e116, W116, V116, st116⟩ := own_stJ X114 hx hZ e114 V104 (by decide) (i := 4) rfl (Nat.le_of_ble_eq_true rfl) (g := (mkF m 66 #[.val (.long v0), .second, .val (.long v1), .second, .val (.long v2), .second, .val (.long v3), .second, .val (.long v4), .second, .val (.long v5), .second, .val (.ref b97), .val (.ref r101), .unset] [(.long v4), (.int (4 : Int32)), (.ref b104), (.ref b104)])) rfl rfl (hb hby at_66)
  replace V104 : Arv Z h116 b104 k104 .long (6 : Int32) [(.long v0), (.long v1), (.long v2), (.long v3), (.long v4), (.long (0 : Int64))] (.long (0 : Int64)) := V116
  have N116 := Fr.snoc X116 N114 g_b104
  refine own_go st116 ?_
  replace O0 := O0.wr W116 g_b104
  replace A97 := A97.wr W116
  replace G99_width := G99_width.other W116 (Or.inl ne105)
  replace G99_widest := G99_widest.other W116 (Or.inl ne105)
  replace G99_horizon := G99_horizon.other W116 (Or.inl ne105)
  replace G99_from := G99_from.other W116 (Or.inl ne105)
  replace G99_until := G99_until.other W116 (Or.inl ne105)
  replace V101 := V101.other W116 ne106
  have K117 := K115.wr W116 (Or.inr sz_b104)
  refine own_go (fun _ kk_ => XS.dup X116.here hx rfl (hb hby at_67) rfl rfl kk_) ?_
  refine own_go (fun _ kk_ => XS.iconst X116.here hx rfl (hb hby at_68) kk_) ?_
  refine own_go (fun _ kk_ => XS.lload X116.here hx rfl (hb hby at_69) rfl kk_) ?_
  show own_Fin p.tables e below _ (T116.setTop (mkF m 71 #[.val (.long v0), .second, .val (.long v1), .second, .val (.long v2), .second, .val (.long v3), .second, .val (.long v4), .second, .val (.long v5), .second, .val (.ref b97), .val (.ref r101), .unset] [(.long v5), (.int (5 : Int32)), (.ref b104), (.ref b104)]))
  obtain ⟨T118, h118, X118, e118, W118, V118, st118⟩ := own_stJ X116 hx hZ e116 V104 (by decide) (i := 5) rfl (Nat.le_of_ble_eq_true rfl) (g := (mkF m 71 #[.val (.long v0), .second, .val (.long v1), .second, .val (.long v2), .second, .val (.long v3), .second, .val (.long v4), .second, .val (.long v5), .second, .val (.ref b97), .val (.ref r101), .unset] [(.long v5), (.int (5 : Int32)), (.ref b104), (.ref b104)])) rfl rfl (hb hby at_71)
  replace V104 : Arv Z h118 b104 k104 .long (6 : Int32) [(.long v0), (.long v1), (.long v2), (.long v3), (.long v4), (.long v5)] (.long (0 : Int64)) := V118
  have N118 := Fr.snoc X118 N116 g_b104
  refine own_go st118 ?_
  replace O0 := O0.wr W118 g_b104
  replace A97 := A97.wr W118
  replace G99_width := G99_width.other W118 (Or.inl ne105)
  replace G99_widest := G99_widest.other W118 (Or.inl ne105)
  replace G99_horizon := G99_horizon.other W118 (Or.inl ne105)
  replace G99_from := G99_from.other W118 (Or.inl ne105)
  replace G99_until := G99_until.other W118 (Or.inl ne105)
  replace V101 := V101.other W118 ne106
  have K119 := K117.wr W118 (Or.inr sz_b104)
  refine own_go (fun _ kk_ => XS.astore X118.here hx rfl (hb hby at_72) rfl rfl (l' := #[.val (.long v0), .second, .val (.long v1), .second, .val (.long v2), .second, .val (.long v3), .second, .val (.long v4), .second, .val (.long v5), .second, .val (.ref b97), .val (.ref r101), .val (.ref b104)]) rfl kk_) ?_
  refine own_go (fun _ kk_ => XS.aload X118.here hx rfl (hb hby at_74) rfl rfl kk_) ?_
  refine own_go (fun _ kk_ => XS.iconst X118.here hx rfl (hb hby at_76) kk_) ?_
  refine own_go (fun _ kk_ => XS.aload X118.here hx rfl (hb hby at_77) rfl rfl kk_) ?_
  show own_Fin p.tables e below _ (T118.setTop (mkF m 79 #[.val (.long v0), .second, .val (.long v1), .second, .val (.long v2), .second, .val (.long v3), .second, .val (.long v4), .second, .val (.long v5), .second, .val (.ref b97), .val (.ref r101), .val (.ref b104)] [(.ref b104), (.int (0 : Int32)), (.ref r101)]))
  obtain ⟨_, _, ⟨T120, L120, k120, n120⟩, -, X120, ⟨Lc120, hQ120, l120, y120, z120⟩, st120⟩ := Jvm.LawKit.callS X118 hx (y := (⟨"com/example/wynik/wynik/store/RangeLayoutRangeAtPinLaw", "fits", "([JI[J)Z"⟩ : MethodName)) hown (mvT hZ (hw _ (List.mem_of_getElem? (i := 40) rfl))) (mvT hZ (hw _ (List.mem_of_getElem? (i := 41) rfl))) (mvT hZ (hw _ (List.mem_of_getElem? (i := 42) rfl))) (mvT hZ (hw _ (List.mem_of_getElem? (i := 43) rfl))) (by decide) (backOf (W := 0) (rm_fi l Z a0 hw [] r101 (0 : Int32) b104 kk101 k104 (own_start v5 (own_wd ix)) (own_stop (own_start v5 (own_wd ix)) (own_wd ix)) v0 v1 v2 v3 v4 v5 h118 n0 (Nat.le_trans Z0 K119.1) V101 V104) hZ (hw _ (List.mem_of_getElem? (i := 43) rfl)) (hw _ (List.mem_of_getElem? (i := 42) rfl)) (by decide) (by decide)) (g := (mkF m 79 #[.val (.long v0), .second, .val (.long v1), .second, .val (.long v2), .second, .val (.long v3), .second, .val (.long v4), .second, .val (.long v5), .second, .val (.ref b97), .val (.ref r101), .val (.ref b104)] [(.ref b104), (.int (0 : Int32)), (.ref r101)])) rfl (by rw [hml]; rfl) (argsL := [(.ref r101), (.int (0 : Int32)), (.ref b104)]) (rest := []) (lenOf pd_8 rfl) rfl (by show 2 * 0 + _ ≤ _; exact Nat.le_of_eq rfl) (hb hby at_79) (fun _ _ => ⟨rfl, e118, (by decide : 11 + 0 ≤ _), (by decide : 29 + 0 ≤ _)⟩)
  dsimp only [Pt.U, Pt.locs, Pt.cells, Pt.slots] at X120 l120 y120 z120 st120 hQ120
  subst l120 y120 z120
  obtain ⟨z120, rfl, N120q, e120, zz120, fi120⟩ := hQ120
  have N120 := Fr.app N118 N120q
  refine own_go st120 ?_
  show own_Fin p.tables e below _ (T120.setTop (mkF m 82 #[.val (.long v0), .second, .val (.long v1), .second, .val (.long v2), .second, .val (.long v3), .second, .val (.long v4), .second, .val (.long v5), .second, .val (.ref b97), .val (.ref r101), .val (.ref b104)] [(.int z120)]))
  by_cases hc121 : z120 = (0 : Int32)
  · skip
    refine own_go (fun _ kk_ => XS.ifNo X120.here hx rfl (hb hby at_82) rfl ((if0 _ _).trans (teq hc121).2) kk_) ?_
    refine own_go (fun _ kk_ => XS.aload X120.here hx rfl (hb hby at_85) rfl rfl kk_) ?_
    refine own_go (fun _ kk_ => XS.iconst X120.here hx rfl (hb hby at_87) kk_) ?_
    refine own_go (fun _ kk_ => XS.aload X120.here hx rfl (hb hby at_88) rfl rfl kk_) ?_
    show own_Fin p.tables e below _ (T120.setTop (mkF m 90 #[.val (.long v0), .second, .val (.long v1), .second, .val (.long v2), .second, .val (.long v3), .second, .val (.long v4), .second, .val (.long v5), .second, .val (.ref b97), .val (.ref r101), .val (.ref b104)] [(.ref b104), (.int (1 : Int32)), (.ref r101)]))
    obtain ⟨_, _, ⟨T122, L122, k122, n122⟩, -, X122, ⟨Lc122, hQ122, l122, y122, z122⟩, st122⟩ := Jvm.LawKit.callS X120 hx (y := (⟨"com/example/wynik/wynik/store/RangeLayoutRangeAtPinLaw", "fits", "([JI[J)Z"⟩ : MethodName)) hown (mvT hZ (hw _ (List.mem_of_getElem? (i := 40) rfl))) (mvT hZ (hw _ (List.mem_of_getElem? (i := 41) rfl))) (mvT hZ (hw _ (List.mem_of_getElem? (i := 42) rfl))) (mvT hZ (hw _ (List.mem_of_getElem? (i := 43) rfl))) (by decide) (backOf (W := 0) (rm_fi l Z a0 hw [] r101 (1 : Int32) b104 kk101 k104 (own_start v5 (own_wd ix)) (own_stop (own_start v5 (own_wd ix)) (own_wd ix)) v0 v1 v2 v3 v4 v5 h118 n0 (Nat.le_trans Z0 K119.1) V101 V104) hZ (hw _ (List.mem_of_getElem? (i := 43) rfl)) (hw _ (List.mem_of_getElem? (i := 42) rfl)) (by decide) (by decide)) (g := (mkF m 90 #[.val (.long v0), .second, .val (.long v1), .second, .val (.long v2), .second, .val (.long v3), .second, .val (.long v4), .second, .val (.long v5), .second, .val (.ref b97), .val (.ref r101), .val (.ref b104)] [(.ref b104), (.int (1 : Int32)), (.ref r101)])) rfl (by rw [hml]; rfl) (argsL := [(.ref r101), (.int (1 : Int32)), (.ref b104)]) (rest := []) (lenOf pd_8 rfl) rfl (by show 2 * 0 + _ ≤ _; exact Nat.le_of_eq rfl) (hb hby at_90) (fun _ _ => ⟨rfl, e120, (by decide : 11 + 0 ≤ _), (by decide : 29 + 0 ≤ _)⟩)
    dsimp only [Pt.U, Pt.locs, Pt.cells, Pt.slots] at X122 l122 y122 z122 st122 hQ122
    subst l122 y122 z122
    obtain ⟨z122, rfl, N122q, e122, zz122, fi122⟩ := hQ122
    have N122 := Fr.app N120 N122q
    refine own_go st122 ?_
    show own_Fin p.tables e below _ (T122.setTop (mkF m 93 #[.val (.long v0), .second, .val (.long v1), .second, .val (.long v2), .second, .val (.long v3), .second, .val (.long v4), .second, .val (.long v5), .second, .val (.ref b97), .val (.ref r101), .val (.ref b104)] [(.int z122)]))
    by_cases hc123 : z122 = (0 : Int32)
    · skip
      refine own_go (fun _ kk_ => XS.ifNo X122.here hx rfl (hb hby at_93) rfl ((if0 _ _).trans (teq hc123).2) kk_) ?_
      refine own_go (fun _ kk_ => XS.aload X122.here hx rfl (hb hby at_96) rfl rfl kk_) ?_
      refine own_go (fun _ kk_ => XS.iconst X122.here hx rfl (hb hby at_98) kk_) ?_
      refine own_go (fun _ kk_ => XS.aload X122.here hx rfl (hb hby at_99) rfl rfl kk_) ?_
      show own_Fin p.tables e below _ (T122.setTop (mkF m 101 #[.val (.long v0), .second, .val (.long v1), .second, .val (.long v2), .second, .val (.long v3), .second, .val (.long v4), .second, .val (.long v5), .second, .val (.ref b97), .val (.ref r101), .val (.ref b104)] [(.ref b104), (.int (2 : Int32)), (.ref r101)]))
      obtain ⟨_, _, ⟨T124, L124, k124, n124⟩, -, X124, ⟨Lc124, hQ124, l124, y124, z124⟩, st124⟩ := Jvm.LawKit.callS X122 hx (y := (⟨"com/example/wynik/wynik/store/RangeLayoutRangeAtPinLaw", "fits", "([JI[J)Z"⟩ : MethodName)) hown (mvT hZ (hw _ (List.mem_of_getElem? (i := 40) rfl))) (mvT hZ (hw _ (List.mem_of_getElem? (i := 41) rfl))) (mvT hZ (hw _ (List.mem_of_getElem? (i := 42) rfl))) (mvT hZ (hw _ (List.mem_of_getElem? (i := 43) rfl))) (by decide) (backOf (W := 0) (rm_fi l Z a0 hw [] r101 (2 : Int32) b104 kk101 k104 (own_start v5 (own_wd ix)) (own_stop (own_start v5 (own_wd ix)) (own_wd ix)) v0 v1 v2 v3 v4 v5 h118 n0 (Nat.le_trans Z0 K119.1) V101 V104) hZ (hw _ (List.mem_of_getElem? (i := 43) rfl)) (hw _ (List.mem_of_getElem? (i := 42) rfl)) (by decide) (by decide)) (g := (mkF m 101 #[.val (.long v0), .second, .val (.long v1), .second, .val (.long v2), .second, .val (.long v3), .second, .val (.long v4), .second, .val (.long v5), .second, .val (.ref b97), .val (.ref r101), .val (.ref b104)] [(.ref b104), (.int (2 : Int32)), (.ref r101)])) rfl (by rw [hml]; rfl) (argsL := [(.ref r101), (.int (2 : Int32)), (.ref b104)]) (rest := []) (lenOf pd_8 rfl) rfl (by show 2 * 0 + _ ≤ _; exact Nat.le_of_eq rfl) (hb hby at_101) (fun _ _ => ⟨rfl, e122, (by decide : 11 + 0 ≤ _), (by decide : 29 + 0 ≤ _)⟩)
      dsimp only [Pt.U, Pt.locs, Pt.cells, Pt.slots] at X124 l124 y124 z124 st124 hQ124
      subst l124 y124 z124
      obtain ⟨z124, rfl, N124q, e124, zz124, fi124⟩ := hQ124
      have N124 := Fr.app N122 N124q
      refine own_go st124 ?_
      show own_Fin p.tables e below _ (T124.setTop (mkF m 104 #[.val (.long v0), .second, .val (.long v1), .second, .val (.long v2), .second, .val (.long v3), .second, .val (.long v4), .second, .val (.long v5), .second, .val (.ref b97), .val (.ref r101), .val (.ref b104)] [(.int z124)]))
      by_cases hc125 : z124 = (0 : Int32)
      · skip
        refine own_go (fun _ kk_ => XS.ifNo X124.here hx rfl (hb hby at_104) rfl ((if0 _ _).trans (teq hc125).2) kk_) ?_
        refine own_go (fun _ kk_ => XS.aload X124.here hx rfl (hb hby at_107) rfl rfl kk_) ?_
        refine own_go (fun _ kk_ => XS.iconst X124.here hx rfl (hb hby at_109) kk_) ?_
        refine own_go (fun _ kk_ => XS.aload X124.here hx rfl (hb hby at_110) rfl rfl kk_) ?_
        show own_Fin p.tables e below _ (T124.setTop (mkF m 112 #[.val (.long v0), .second, .val (.long v1), .second, .val (.long v2), .second, .val (.long v3), .second, .val (.long v4), .second, .val (.long v5), .second, .val (.ref b97), .val (.ref r101), .val (.ref b104)] [(.ref b104), (.int (3 : Int32)), (.ref r101)]))
        obtain ⟨_, _, ⟨T126, L126, k126, n126⟩, -, X126, ⟨Lc126, hQ126, l126, y126, z126⟩, st126⟩ := Jvm.LawKit.callS X124 hx (y := (⟨"com/example/wynik/wynik/store/RangeLayoutRangeAtPinLaw", "fits", "([JI[J)Z"⟩ : MethodName)) hown (mvT hZ (hw _ (List.mem_of_getElem? (i := 40) rfl))) (mvT hZ (hw _ (List.mem_of_getElem? (i := 41) rfl))) (mvT hZ (hw _ (List.mem_of_getElem? (i := 42) rfl))) (mvT hZ (hw _ (List.mem_of_getElem? (i := 43) rfl))) (by decide) (backOf (W := 0) (rm_fi l Z a0 hw [] r101 (3 : Int32) b104 kk101 k104 (own_start v5 (own_wd ix)) (own_stop (own_start v5 (own_wd ix)) (own_wd ix)) v0 v1 v2 v3 v4 v5 h118 n0 (Nat.le_trans Z0 K119.1) V101 V104) hZ (hw _ (List.mem_of_getElem? (i := 43) rfl)) (hw _ (List.mem_of_getElem? (i := 42) rfl)) (by decide) (by decide)) (g := (mkF m 112 #[.val (.long v0), .second, .val (.long v1), .second, .val (.long v2), .second, .val (.long v3), .second, .val (.long v4), .second, .val (.long v5), .second, .val (.ref b97), .val (.ref r101), .val (.ref b104)] [(.ref b104), (.int (3 : Int32)), (.ref r101)])) rfl (by rw [hml]; rfl) (argsL := [(.ref r101), (.int (3 : Int32)), (.ref b104)]) (rest := []) (lenOf pd_8 rfl) rfl (by show 2 * 0 + _ ≤ _; exact Nat.le_of_eq rfl) (hb hby at_112) (fun _ _ => ⟨rfl, e124, (by decide : 11 + 0 ≤ _), (by decide : 29 + 0 ≤ _)⟩)
        dsimp only [Pt.U, Pt.locs, Pt.cells, Pt.slots] at X126 l126 y126 z126 st126 hQ126
        subst l126 y126 z126
        obtain ⟨z126, rfl, N126q, e126, zz126, fi126⟩ := hQ126
        have N126 := Fr.app N124 N126q
        refine own_go st126 ?_
        show own_Fin p.tables e below _ (T126.setTop (mkF m 115 #[.val (.long v0), .second, .val (.long v1), .second, .val (.long v2), .second, .val (.long v3), .second, .val (.long v4), .second, .val (.long v5), .second, .val (.ref b97), .val (.ref r101), .val (.ref b104)] [(.int z126)]))
        by_cases hc127 : z126 = (0 : Int32)
        · skip
          refine own_go (fun _ kk_ => XS.ifNo X126.here hx rfl (hb hby at_115) rfl ((if0 _ _).trans (teq hc127).2) kk_) ?_
          refine own_go (fun _ kk_ => XS.aload X126.here hx rfl (hb hby at_118) rfl rfl kk_) ?_
          refine own_go (fun _ kk_ => XS.iconst X126.here hx rfl (hb hby at_120) kk_) ?_
          refine own_go (fun _ kk_ => XS.aload X126.here hx rfl (hb hby at_121) rfl rfl kk_) ?_
          show own_Fin p.tables e below _ (T126.setTop (mkF m 123 #[.val (.long v0), .second, .val (.long v1), .second, .val (.long v2), .second, .val (.long v3), .second, .val (.long v4), .second, .val (.long v5), .second, .val (.ref b97), .val (.ref r101), .val (.ref b104)] [(.ref b104), (.int (4 : Int32)), (.ref r101)]))
          obtain ⟨_, _, ⟨T128, L128, k128, n128⟩, -, X128, ⟨Lc128, hQ128, l128, y128, z128⟩, st128⟩ := Jvm.LawKit.callS X126 hx (y := (⟨"com/example/wynik/wynik/store/RangeLayoutRangeAtPinLaw", "fits", "([JI[J)Z"⟩ : MethodName)) hown (mvT hZ (hw _ (List.mem_of_getElem? (i := 40) rfl))) (mvT hZ (hw _ (List.mem_of_getElem? (i := 41) rfl))) (mvT hZ (hw _ (List.mem_of_getElem? (i := 42) rfl))) (mvT hZ (hw _ (List.mem_of_getElem? (i := 43) rfl))) (by decide) (backOf (W := 0) (rm_fi l Z a0 hw [] r101 (4 : Int32) b104 kk101 k104 (own_start v5 (own_wd ix)) (own_stop (own_start v5 (own_wd ix)) (own_wd ix)) v0 v1 v2 v3 v4 v5 h118 n0 (Nat.le_trans Z0 K119.1) V101 V104) hZ (hw _ (List.mem_of_getElem? (i := 43) rfl)) (hw _ (List.mem_of_getElem? (i := 42) rfl)) (by decide) (by decide)) (g := (mkF m 123 #[.val (.long v0), .second, .val (.long v1), .second, .val (.long v2), .second, .val (.long v3), .second, .val (.long v4), .second, .val (.long v5), .second, .val (.ref b97), .val (.ref r101), .val (.ref b104)] [(.ref b104), (.int (4 : Int32)), (.ref r101)])) rfl (by rw [hml]; rfl) (argsL := [(.ref r101), (.int (4 : Int32)), (.ref b104)]) (rest := []) (lenOf pd_8 rfl) rfl (by show 2 * 0 + _ ≤ _; exact Nat.le_of_eq rfl) (hb hby at_123) (fun _ _ => ⟨rfl, e126, (by decide : 11 + 0 ≤ _), (by decide : 29 + 0 ≤ _)⟩)
          dsimp only [Pt.U, Pt.locs, Pt.cells, Pt.slots] at X128 l128 y128 z128 st128 hQ128
          subst l128 y128 z128
          obtain ⟨z128, rfl, N128q, e128, zz128, fi128⟩ := hQ128
          have N128 := Fr.app N126 N128q
          refine own_go st128 ?_
          show own_Fin p.tables e below _ (T128.setTop (mkF m 126 #[.val (.long v0), .second, .val (.long v1), .second, .val (.long v2), .second, .val (.long v3), .second, .val (.long v4), .second, .val (.long v5), .second, .val (.ref b97), .val (.ref r101), .val (.ref b104)] [(.int z128)]))
          by_cases hc129 : z128 = (0 : Int32)
          · skip
            refine own_go (fun _ kk_ => XS.ifNo X128.here hx rfl (hb hby at_126) rfl ((if0 _ _).trans (teq hc129).2) kk_) ?_
            refine own_go (fun _ kk_ => XS.aload X128.here hx rfl (hb hby at_129) rfl rfl kk_) ?_
            refine own_go (fun _ kk_ => XS.iconst X128.here hx rfl (hb hby at_131) kk_) ?_
            refine own_go (fun _ kk_ => XS.aload X128.here hx rfl (hb hby at_132) rfl rfl kk_) ?_
            show own_Fin p.tables e below _ (T128.setTop (mkF m 134 #[.val (.long v0), .second, .val (.long v1), .second, .val (.long v2), .second, .val (.long v3), .second, .val (.long v4), .second, .val (.long v5), .second, .val (.ref b97), .val (.ref r101), .val (.ref b104)] [(.ref b104), (.int (5 : Int32)), (.ref r101)]))
            obtain ⟨_, _, ⟨T130, L130, k130, n130⟩, -, X130, ⟨Lc130, hQ130, l130, y130, z130⟩, st130⟩ := Jvm.LawKit.callS X128 hx (y := (⟨"com/example/wynik/wynik/store/RangeLayoutRangeAtPinLaw", "fits", "([JI[J)Z"⟩ : MethodName)) hown (mvT hZ (hw _ (List.mem_of_getElem? (i := 40) rfl))) (mvT hZ (hw _ (List.mem_of_getElem? (i := 41) rfl))) (mvT hZ (hw _ (List.mem_of_getElem? (i := 42) rfl))) (mvT hZ (hw _ (List.mem_of_getElem? (i := 43) rfl))) (by decide) (backOf (W := 0) (rm_fi l Z a0 hw [] r101 (5 : Int32) b104 kk101 k104 (own_start v5 (own_wd ix)) (own_stop (own_start v5 (own_wd ix)) (own_wd ix)) v0 v1 v2 v3 v4 v5 h118 n0 (Nat.le_trans Z0 K119.1) V101 V104) hZ (hw _ (List.mem_of_getElem? (i := 43) rfl)) (hw _ (List.mem_of_getElem? (i := 42) rfl)) (by decide) (by decide)) (g := (mkF m 134 #[.val (.long v0), .second, .val (.long v1), .second, .val (.long v2), .second, .val (.long v3), .second, .val (.long v4), .second, .val (.long v5), .second, .val (.ref b97), .val (.ref r101), .val (.ref b104)] [(.ref b104), (.int (5 : Int32)), (.ref r101)])) rfl (by rw [hml]; rfl) (argsL := [(.ref r101), (.int (5 : Int32)), (.ref b104)]) (rest := []) (lenOf pd_8 rfl) rfl (by show 2 * 0 + _ ≤ _; exact Nat.le_of_eq rfl) (hb hby at_134) (fun _ _ => ⟨rfl, e128, (by decide : 11 + 0 ≤ _), (by decide : 29 + 0 ≤ _)⟩)
            dsimp only [Pt.U, Pt.locs, Pt.cells, Pt.slots] at X130 l130 y130 z130 st130 hQ130
            subst l130 y130 z130
            obtain ⟨z130, rfl, N130q, e130, zz130, fi130⟩ := hQ130
            have N130 := Fr.app N128 N130q
            refine own_go st130 ?_
            show own_Fin p.tables e below _ (T130.setTop (mkF m 137 #[.val (.long v0), .second, .val (.long v1), .second, .val (.long v2), .second, .val (.long v3), .second, .val (.long v4), .second, .val (.long v5), .second, .val (.ref b97), .val (.ref r101), .val (.ref b104)] [(.int z130)]))
            by_cases hc131 : z130 = (0 : Int32)
            · skip
              refine own_go (fun _ kk_ => XS.ifNo X130.here hx rfl (hb hby at_137) rfl ((if0 _ _).trans (teq hc131).2) kk_) ?_
              refine own_go (fun _ kk_ => XS.aload X130.here hx rfl (hb hby at_140) rfl rfl kk_) ?_
              refine own_go (fun _ kk_ => XS.bipush X130.here hx rfl (hb hby at_142) kk_) ?_
              refine own_go (fun _ kk_ => XS.aload X130.here hx rfl (hb hby at_144) rfl rfl kk_) ?_
              show own_Fin p.tables e below _ (T130.setTop (mkF m 146 #[.val (.long v0), .second, .val (.long v1), .second, .val (.long v2), .second, .val (.long v3), .second, .val (.long v4), .second, .val (.long v5), .second, .val (.ref b97), .val (.ref r101), .val (.ref b104)] [(.ref b104), (.int (6 : Int32)), (.ref r101)]))
              obtain ⟨_, _, ⟨T132, L132, k132, n132⟩, -, X132, ⟨Lc132, hQ132, l132, y132, z132⟩, st132⟩ := Jvm.LawKit.callS X130 hx (y := (⟨"com/example/wynik/wynik/store/RangeLayoutRangeAtPinLaw", "fits", "([JI[J)Z"⟩ : MethodName)) hown (mvT hZ (hw _ (List.mem_of_getElem? (i := 40) rfl))) (mvT hZ (hw _ (List.mem_of_getElem? (i := 41) rfl))) (mvT hZ (hw _ (List.mem_of_getElem? (i := 42) rfl))) (mvT hZ (hw _ (List.mem_of_getElem? (i := 43) rfl))) (by decide) (backOf (W := 0) (rm_fi l Z a0 hw [] r101 (6 : Int32) b104 kk101 k104 (own_start v5 (own_wd ix)) (own_stop (own_start v5 (own_wd ix)) (own_wd ix)) v0 v1 v2 v3 v4 v5 h118 n0 (Nat.le_trans Z0 K119.1) V101 V104) hZ (hw _ (List.mem_of_getElem? (i := 43) rfl)) (hw _ (List.mem_of_getElem? (i := 42) rfl)) (by decide) (by decide)) (g := (mkF m 146 #[.val (.long v0), .second, .val (.long v1), .second, .val (.long v2), .second, .val (.long v3), .second, .val (.long v4), .second, .val (.long v5), .second, .val (.ref b97), .val (.ref r101), .val (.ref b104)] [(.ref b104), (.int (6 : Int32)), (.ref r101)])) rfl (by rw [hml]; rfl) (argsL := [(.ref r101), (.int (6 : Int32)), (.ref b104)]) (rest := []) (lenOf pd_8 rfl) rfl (by show 2 * 0 + _ ≤ _; exact Nat.le_of_eq rfl) (hb hby at_146) (fun _ _ => ⟨rfl, e130, (by decide : 11 + 0 ≤ _), (by decide : 29 + 0 ≤ _)⟩)
              dsimp only [Pt.U, Pt.locs, Pt.cells, Pt.slots] at X132 l132 y132 z132 st132 hQ132
              subst l132 y132 z132
              obtain ⟨z132, rfl, N132q, e132, zz132, fi132⟩ := hQ132
              have N132 := Fr.app N130 N132q
              refine own_go st132 ?_
              show own_Fin p.tables e below _ (T132.setTop (mkF m 149 #[.val (.long v0), .second, .val (.long v1), .second, .val (.long v2), .second, .val (.long v3), .second, .val (.long v4), .second, .val (.long v5), .second, .val (.ref b97), .val (.ref r101), .val (.ref b104)] [(.int z132)]))
              by_cases hc133 : z132 = (0 : Int32)
              · skip
                refine own_go (fun _ kk_ => XS.ifNo X132.here hx rfl (hb hby at_149) rfl ((if0 _ _).trans (teq hc133).2) kk_) ?_
                refine own_go (fun _ kk_ => XS.aload X132.here hx rfl (hb hby at_152) rfl rfl kk_) ?_
                refine own_go (fun _ kk_ => XS.bipush X132.here hx rfl (hb hby at_154) kk_) ?_
                refine own_go (fun _ kk_ => XS.aload X132.here hx rfl (hb hby at_156) rfl rfl kk_) ?_
                show own_Fin p.tables e below _ (T132.setTop (mkF m 158 #[.val (.long v0), .second, .val (.long v1), .second, .val (.long v2), .second, .val (.long v3), .second, .val (.long v4), .second, .val (.long v5), .second, .val (.ref b97), .val (.ref r101), .val (.ref b104)] [(.ref b104), (.int (7 : Int32)), (.ref r101)]))
                obtain ⟨_, _, ⟨T134, L134, k134, n134⟩, -, X134, ⟨Lc134, hQ134, l134, y134, z134⟩, st134⟩ := Jvm.LawKit.callS X132 hx (y := (⟨"com/example/wynik/wynik/store/RangeLayoutRangeAtPinLaw", "fits", "([JI[J)Z"⟩ : MethodName)) hown (mvT hZ (hw _ (List.mem_of_getElem? (i := 40) rfl))) (mvT hZ (hw _ (List.mem_of_getElem? (i := 41) rfl))) (mvT hZ (hw _ (List.mem_of_getElem? (i := 42) rfl))) (mvT hZ (hw _ (List.mem_of_getElem? (i := 43) rfl))) (by decide) (backOf (W := 0) (rm_fi l Z a0 hw [] r101 (7 : Int32) b104 kk101 k104 (own_start v5 (own_wd ix)) (own_stop (own_start v5 (own_wd ix)) (own_wd ix)) v0 v1 v2 v3 v4 v5 h118 n0 (Nat.le_trans Z0 K119.1) V101 V104) hZ (hw _ (List.mem_of_getElem? (i := 43) rfl)) (hw _ (List.mem_of_getElem? (i := 42) rfl)) (by decide) (by decide)) (g := (mkF m 158 #[.val (.long v0), .second, .val (.long v1), .second, .val (.long v2), .second, .val (.long v3), .second, .val (.long v4), .second, .val (.long v5), .second, .val (.ref b97), .val (.ref r101), .val (.ref b104)] [(.ref b104), (.int (7 : Int32)), (.ref r101)])) rfl (by rw [hml]; rfl) (argsL := [(.ref r101), (.int (7 : Int32)), (.ref b104)]) (rest := []) (lenOf pd_8 rfl) rfl (by show 2 * 0 + _ ≤ _; exact Nat.le_of_eq rfl) (hb hby at_158) (fun _ _ => ⟨rfl, e132, (by decide : 11 + 0 ≤ _), (by decide : 29 + 0 ≤ _)⟩)
                dsimp only [Pt.U, Pt.locs, Pt.cells, Pt.slots] at X134 l134 y134 z134 st134 hQ134
                subst l134 y134 z134
                obtain ⟨z134, rfl, N134q, e134, zz134, fi134⟩ := hQ134
                have N134 := Fr.app N132 N134q
                refine own_go st134 ?_
                show own_Fin p.tables e below _ (T134.setTop (mkF m 161 #[.val (.long v0), .second, .val (.long v1), .second, .val (.long v2), .second, .val (.long v3), .second, .val (.long v4), .second, .val (.long v5), .second, .val (.ref b97), .val (.ref r101), .val (.ref b104)] [(.int z134)]))
                by_cases hc135 : z134 = (0 : Int32)
                · skip
                  refine own_go (fun _ kk_ => XS.ifNo X134.here hx rfl (hb hby at_161) rfl ((if0 _ _).trans (teq hc135).2) kk_) ?_
                  refine own_go (fun _ kk_ => XS.aload X134.here hx rfl (hb hby at_164) rfl rfl kk_) ?_
                  refine own_go (fun _ kk_ => XS.bipush X134.here hx rfl (hb hby at_166) kk_) ?_
                  refine own_go (fun _ kk_ => XS.aload X134.here hx rfl (hb hby at_168) rfl rfl kk_) ?_
                  show own_Fin p.tables e below _ (T134.setTop (mkF m 170 #[.val (.long v0), .second, .val (.long v1), .second, .val (.long v2), .second, .val (.long v3), .second, .val (.long v4), .second, .val (.long v5), .second, .val (.ref b97), .val (.ref r101), .val (.ref b104)] [(.ref b104), (.int (8 : Int32)), (.ref r101)]))
                  obtain ⟨_, _, ⟨T136, L136, k136, n136⟩, -, X136, ⟨Lc136, hQ136, l136, y136, z136⟩, st136⟩ := Jvm.LawKit.callS X134 hx (y := (⟨"com/example/wynik/wynik/store/RangeLayoutRangeAtPinLaw", "fits", "([JI[J)Z"⟩ : MethodName)) hown (mvT hZ (hw _ (List.mem_of_getElem? (i := 40) rfl))) (mvT hZ (hw _ (List.mem_of_getElem? (i := 41) rfl))) (mvT hZ (hw _ (List.mem_of_getElem? (i := 42) rfl))) (mvT hZ (hw _ (List.mem_of_getElem? (i := 43) rfl))) (by decide) (backOf (W := 0) (rm_fi l Z a0 hw [] r101 (8 : Int32) b104 kk101 k104 (own_start v5 (own_wd ix)) (own_stop (own_start v5 (own_wd ix)) (own_wd ix)) v0 v1 v2 v3 v4 v5 h118 n0 (Nat.le_trans Z0 K119.1) V101 V104) hZ (hw _ (List.mem_of_getElem? (i := 43) rfl)) (hw _ (List.mem_of_getElem? (i := 42) rfl)) (by decide) (by decide)) (g := (mkF m 170 #[.val (.long v0), .second, .val (.long v1), .second, .val (.long v2), .second, .val (.long v3), .second, .val (.long v4), .second, .val (.long v5), .second, .val (.ref b97), .val (.ref r101), .val (.ref b104)] [(.ref b104), (.int (8 : Int32)), (.ref r101)])) rfl (by rw [hml]; rfl) (argsL := [(.ref r101), (.int (8 : Int32)), (.ref b104)]) (rest := []) (lenOf pd_8 rfl) rfl (by show 2 * 0 + _ ≤ _; exact Nat.le_of_eq rfl) (hb hby at_170) (fun _ _ => ⟨rfl, e134, (by decide : 11 + 0 ≤ _), (by decide : 29 + 0 ≤ _)⟩)
                  dsimp only [Pt.U, Pt.locs, Pt.cells, Pt.slots] at X136 l136 y136 z136 st136 hQ136
                  subst l136 y136 z136
                  obtain ⟨z136, rfl, N136q, e136, zz136, fi136⟩ := hQ136
                  have N136 := Fr.app N134 N136q
                  refine own_go st136 ?_
                  show own_Fin p.tables e below _ (T136.setTop (mkF m 173 #[.val (.long v0), .second, .val (.long v1), .second, .val (.long v2), .second, .val (.long v3), .second, .val (.long v4), .second, .val (.long v5), .second, .val (.ref b97), .val (.ref r101), .val (.ref b104)] [(.int z136)]))
                  have hz8 : ¬ z136 = 0 := by
                    intro q8
                    have hix' : ix = 0 ∨ ix = 1 ∨ ix = 2 ∨ ix = 3 ∨ ix = 4 ∨ ix = 5 ∨ ix = 6 ∨ ix = 7 ∨ ix = 8 := by omega
                    rcases hix' with rfl | rfl | rfl | rfl | rfl | rfl | rfl | rfl | rfl
                    · have q := fi120 (own_fits_of (i := 0) (by decide) hok hno)
                      rw [hc121] at q
                      exact absurd q (by decide)
                    · have q := fi122 (own_fits_of (i := 1) (by decide) hok hno)
                      rw [hc123] at q
                      exact absurd q (by decide)
                    · have q := fi124 (own_fits_of (i := 2) (by decide) hok hno)
                      rw [hc125] at q
                      exact absurd q (by decide)
                    · have q := fi126 (own_fits_of (i := 3) (by decide) hok hno)
                      rw [hc127] at q
                      exact absurd q (by decide)
                    · have q := fi128 (own_fits_of (i := 4) (by decide) hok hno)
                      rw [hc129] at q
                      exact absurd q (by decide)
                    · have q := fi130 (own_fits_of (i := 5) (by decide) hok hno)
                      rw [hc131] at q
                      exact absurd q (by decide)
                    · have q := fi132 (own_fits_of (i := 6) (by decide) hok hno)
                      rw [hc133] at q
                      exact absurd q (by decide)
                    · have q := fi134 (own_fits_of (i := 7) (by decide) hok hno)
                      rw [hc135] at q
                      exact absurd q (by decide)
                    · have q := fi136 (own_fits_of (i := 8) (by decide) hok hno)
                      rw [q8] at q
                      exact absurd q (by decide)
                  refine own_go (fun _ kk_ => XS.ifNo X136.here hx rfl (hb hby at_173) rfl ((if0 _ _).trans (feq hz8).1) kk_) ?_
                  refine own_go (fun _ kk_ => XS.iconst X136.here hx rfl (hb hby at_176) kk_) ?_
                  refine own_go (fun _ kk_ => XS.goto X136.here hx rfl (pc0 := 177) (pc' := 181) rfl (hb hby at_177) (by decide) (by decide) kk_) ?_
                  show own_Fin p.tables e below _ (T136.setTop (mkF m 181 #[.val (.long v0), .second, .val (.long v1), .second, .val (.long v2), .second, .val (.long v3), .second, .val (.long v4), .second, .val (.long v5), .second, .val (.ref b97), .val (.ref r101), .val (.ref b104)] [(.int (1 : Int32))]))
                  refine own_retI X136 hx Bd (t := .boolean) Bd.returns rfl (by simp) (hb hby at_181) ?_ (by decide) (by decide)
                  show (Q_rm_law Z v0 v1 v2 v3 v4 v5 wa wk h0 n0) (some (.int (1 : Int32))) T136.heap _
                  rw [e136]
                  exact ⟨rfl, N136⟩
                · skip
                  refine own_go (fun _ kk_ => XS.ifYes X134.here hx rfl (pc0 := 161) (pc' := 176) rfl (hb hby at_161) rfl ((if0 _ _).trans (feq hc135).2) (by decide) (by decide) kk_) ?_
                  refine own_go (fun _ kk_ => XS.iconst X134.here hx rfl (hb hby at_176) kk_) ?_
                  refine own_go (fun _ kk_ => XS.goto X134.here hx rfl (pc0 := 177) (pc' := 181) rfl (hb hby at_177) (by decide) (by decide) kk_) ?_
                  show own_Fin p.tables e below _ (T134.setTop (mkF m 181 #[.val (.long v0), .second, .val (.long v1), .second, .val (.long v2), .second, .val (.long v3), .second, .val (.long v4), .second, .val (.long v5), .second, .val (.ref b97), .val (.ref r101), .val (.ref b104)] [(.int (1 : Int32))]))
                  refine own_retI X134 hx Bd (t := .boolean) Bd.returns rfl (by simp) (hb hby at_181) ?_ (by decide) (by decide)
                  show (Q_rm_law Z v0 v1 v2 v3 v4 v5 wa wk h0 n0) (some (.int (1 : Int32))) T134.heap _
                  rw [e134]
                  exact ⟨rfl, N134⟩
              · skip
                refine own_go (fun _ kk_ => XS.ifYes X132.here hx rfl (pc0 := 149) (pc' := 176) rfl (hb hby at_149) rfl ((if0 _ _).trans (feq hc133).2) (by decide) (by decide) kk_) ?_
                refine own_go (fun _ kk_ => XS.iconst X132.here hx rfl (hb hby at_176) kk_) ?_
                refine own_go (fun _ kk_ => XS.goto X132.here hx rfl (pc0 := 177) (pc' := 181) rfl (hb hby at_177) (by decide) (by decide) kk_) ?_
                show own_Fin p.tables e below _ (T132.setTop (mkF m 181 #[.val (.long v0), .second, .val (.long v1), .second, .val (.long v2), .second, .val (.long v3), .second, .val (.long v4), .second, .val (.long v5), .second, .val (.ref b97), .val (.ref r101), .val (.ref b104)] [(.int (1 : Int32))]))
                refine own_retI X132 hx Bd (t := .boolean) Bd.returns rfl (by simp) (hb hby at_181) ?_ (by decide) (by decide)
                show (Q_rm_law Z v0 v1 v2 v3 v4 v5 wa wk h0 n0) (some (.int (1 : Int32))) T132.heap _
                rw [e132]
                exact ⟨rfl, N132⟩
            · skip
              refine own_go (fun _ kk_ => XS.ifYes X130.here hx rfl (pc0 := 137) (pc' := 176) rfl (hb hby at_137) rfl ((if0 _ _).trans (feq hc131).2) (by decide) (by decide) kk_) ?_
              refine own_go (fun _ kk_ => XS.iconst X130.here hx rfl (hb hby at_176) kk_) ?_
              refine own_go (fun _ kk_ => XS.goto X130.here hx rfl (pc0 := 177) (pc' := 181) rfl (hb hby at_177) (by decide) (by decide) kk_) ?_
              show own_Fin p.tables e below _ (T130.setTop (mkF m 181 #[.val (.long v0), .second, .val (.long v1), .second, .val (.long v2), .second, .val (.long v3), .second, .val (.long v4), .second, .val (.long v5), .second, .val (.ref b97), .val (.ref r101), .val (.ref b104)] [(.int (1 : Int32))]))
              refine own_retI X130 hx Bd (t := .boolean) Bd.returns rfl (by simp) (hb hby at_181) ?_ (by decide) (by decide)
              show (Q_rm_law Z v0 v1 v2 v3 v4 v5 wa wk h0 n0) (some (.int (1 : Int32))) T130.heap _
              rw [e130]
              exact ⟨rfl, N130⟩
          · skip
            refine own_go (fun _ kk_ => XS.ifYes X128.here hx rfl (pc0 := 126) (pc' := 176) rfl (hb hby at_126) rfl ((if0 _ _).trans (feq hc129).2) (by decide) (by decide) kk_) ?_
            refine own_go (fun _ kk_ => XS.iconst X128.here hx rfl (hb hby at_176) kk_) ?_
            refine own_go (fun _ kk_ => XS.goto X128.here hx rfl (pc0 := 177) (pc' := 181) rfl (hb hby at_177) (by decide) (by decide) kk_) ?_
            show own_Fin p.tables e below _ (T128.setTop (mkF m 181 #[.val (.long v0), .second, .val (.long v1), .second, .val (.long v2), .second, .val (.long v3), .second, .val (.long v4), .second, .val (.long v5), .second, .val (.ref b97), .val (.ref r101), .val (.ref b104)] [(.int (1 : Int32))]))
            refine own_retI X128 hx Bd (t := .boolean) Bd.returns rfl (by simp) (hb hby at_181) ?_ (by decide) (by decide)
            show (Q_rm_law Z v0 v1 v2 v3 v4 v5 wa wk h0 n0) (some (.int (1 : Int32))) T128.heap _
            rw [e128]
            exact ⟨rfl, N128⟩
        · skip
          refine own_go (fun _ kk_ => XS.ifYes X126.here hx rfl (pc0 := 115) (pc' := 176) rfl (hb hby at_115) rfl ((if0 _ _).trans (feq hc127).2) (by decide) (by decide) kk_) ?_
          refine own_go (fun _ kk_ => XS.iconst X126.here hx rfl (hb hby at_176) kk_) ?_
          refine own_go (fun _ kk_ => XS.goto X126.here hx rfl (pc0 := 177) (pc' := 181) rfl (hb hby at_177) (by decide) (by decide) kk_) ?_
          show own_Fin p.tables e below _ (T126.setTop (mkF m 181 #[.val (.long v0), .second, .val (.long v1), .second, .val (.long v2), .second, .val (.long v3), .second, .val (.long v4), .second, .val (.long v5), .second, .val (.ref b97), .val (.ref r101), .val (.ref b104)] [(.int (1 : Int32))]))
          refine own_retI X126 hx Bd (t := .boolean) Bd.returns rfl (by simp) (hb hby at_181) ?_ (by decide) (by decide)
          show (Q_rm_law Z v0 v1 v2 v3 v4 v5 wa wk h0 n0) (some (.int (1 : Int32))) T126.heap _
          rw [e126]
          exact ⟨rfl, N126⟩
      · skip
        refine own_go (fun _ kk_ => XS.ifYes X124.here hx rfl (pc0 := 104) (pc' := 176) rfl (hb hby at_104) rfl ((if0 _ _).trans (feq hc125).2) (by decide) (by decide) kk_) ?_
        refine own_go (fun _ kk_ => XS.iconst X124.here hx rfl (hb hby at_176) kk_) ?_
        refine own_go (fun _ kk_ => XS.goto X124.here hx rfl (pc0 := 177) (pc' := 181) rfl (hb hby at_177) (by decide) (by decide) kk_) ?_
        show own_Fin p.tables e below _ (T124.setTop (mkF m 181 #[.val (.long v0), .second, .val (.long v1), .second, .val (.long v2), .second, .val (.long v3), .second, .val (.long v4), .second, .val (.long v5), .second, .val (.ref b97), .val (.ref r101), .val (.ref b104)] [(.int (1 : Int32))]))
        refine own_retI X124 hx Bd (t := .boolean) Bd.returns rfl (by simp) (hb hby at_181) ?_ (by decide) (by decide)
        show (Q_rm_law Z v0 v1 v2 v3 v4 v5 wa wk h0 n0) (some (.int (1 : Int32))) T124.heap _
        rw [e124]
        exact ⟨rfl, N124⟩
    · skip
      refine own_go (fun _ kk_ => XS.ifYes X122.here hx rfl (pc0 := 93) (pc' := 176) rfl (hb hby at_93) rfl ((if0 _ _).trans (feq hc123).2) (by decide) (by decide) kk_) ?_
      refine own_go (fun _ kk_ => XS.iconst X122.here hx rfl (hb hby at_176) kk_) ?_
      refine own_go (fun _ kk_ => XS.goto X122.here hx rfl (pc0 := 177) (pc' := 181) rfl (hb hby at_177) (by decide) (by decide) kk_) ?_
      show own_Fin p.tables e below _ (T122.setTop (mkF m 181 #[.val (.long v0), .second, .val (.long v1), .second, .val (.long v2), .second, .val (.long v3), .second, .val (.long v4), .second, .val (.long v5), .second, .val (.ref b97), .val (.ref r101), .val (.ref b104)] [(.int (1 : Int32))]))
      refine own_retI X122 hx Bd (t := .boolean) Bd.returns rfl (by simp) (hb hby at_181) ?_ (by decide) (by decide)
      show (Q_rm_law Z v0 v1 v2 v3 v4 v5 wa wk h0 n0) (some (.int (1 : Int32))) T122.heap _
      rw [e122]
      exact ⟨rfl, N122⟩
  · skip
    refine own_go (fun _ kk_ => XS.ifYes X120.here hx rfl (pc0 := 82) (pc' := 176) rfl (hb hby at_82) rfl ((if0 _ _).trans (feq hc121).2) (by decide) (by decide) kk_) ?_
    refine own_go (fun _ kk_ => XS.iconst X120.here hx rfl (hb hby at_176) kk_) ?_
    refine own_go (fun _ kk_ => XS.goto X120.here hx rfl (pc0 := 177) (pc' := 181) rfl (hb hby at_177) (by decide) (by decide) kk_) ?_
    show own_Fin p.tables e below _ (T120.setTop (mkF m 181 #[.val (.long v0), .second, .val (.long v1), .second, .val (.long v2), .second, .val (.long v3), .second, .val (.long v4), .second, .val (.long v5), .second, .val (.ref b97), .val (.ref r101), .val (.ref b104)] [(.int (1 : Int32))]))
    refine own_retI X120 hx Bd (t := .boolean) Bd.returns rfl (by simp) (hb hby at_181) ?_ (by decide) (by decide)
    show (Q_rm_law Z v0 v1 v2 v3 v4 v5 wa wk h0 n0) (some (.int (1 : Int32))) T120.heap _
    rw [e120]
    exact ⟨rfl, N120⟩
section OwnStart
variable {args : Array Value} {s : State}
theorem own_eqL {t : Term} {c : Int64} (h : (Jvm.Cond.eq t (.long c)).value args s none s [] = some true) : t.eval args s none [] s = some (.long c) := by
  obtain ⟨x, y, hx, hy, k1, -⟩ := cmp_v (Or.inl h)
  cases Option.some.inj (hy.symm.trans (long_at c))
  cases x <;> simp [Kin, Value.isRef] at k1
  have q := gotT (eq_L hx hy) h
  rw [hx, q]
theorem own_eqI {t : Term} {c : Int32} (h : (Jvm.Cond.eq t (.int c)).value args s none s [] = some true) : t.eval args s none [] s = some (.int c) := by
  obtain ⟨x, y, hx, hy, k1, -⟩ := cmp_v (Or.inl h)
  cases Option.some.inj (hy.symm.trans (Term.int_eval c))
  cases x <;> simp [Kin, Value.isRef] at k1
  have q := gotT (Cond.eq_ints hx hy) h
  rw [hx, q]
theorem own_eqR {t u : Term} {a : Addr} (hu : u.eval args s none [] s = some (.ref a)) (h : (Jvm.Cond.eq t u).value args s none s [] = some true) : t.eval args s none [] s = some (.ref a) := by
  obtain ⟨x, y, hx, hy, k1, -⟩ := cmp_v (Or.inl h)
  cases Option.some.inj (hy.symm.trans hu)
  have hr : x.isRef = true := by cases x <;> simp [Kin, Value.isRef] at k1 ⊢
  have q := gotT (eq_R hx hy hr rfl) h
  rw [hx, q]
theorem own_arr {t : Term} {a : Addr} {ty : FieldType} {N : Int32} (ev : t.eval args s none [] s = some (.ref a)) (h1 : (Jvm.Cond.arrayOf t ty).value args s none s [] = some true) (h2 : (Jvm.Cond.eq (Term.length t) (.int N)).value args s none s [] = some true) :
    ∃ cl, Arr s s.heap a cl ty ∧ s.arrayAt? a = some cl ∧ cl.slots.size < 2 ^ 31 ∧ cl.slots.size.toInt32 = N := by
  obtain ⟨cl, A⟩ := Arr.start ev h1
  have aa : s.arrayAt? a = some cl := A.fin (hal := Vm.Alike.refl _)
  have hlen := own_eqI h2
  simp only [Term.eval, ev, Option.bind_eq_bind, Option.bind_some, aa] at hlen
  split at hlen
  · rename_i q; exact ⟨cl, A, aa, q, by simpa using hlen⟩
  · cases hlen
theorem own_elL {t : Term} {a : Addr} {cl : Cell} {j : Int32} {c : Int64} (ev : t.eval args s none [] s = some (.ref a)) (aa : s.arrayAt? a = some cl) (hj : ¬ j < 0) (h : (Jvm.Cond.eq (Term.elem t (.int j)) (.long c)).value args s none s [] = some true) : cl.slots[j.toNatClampNeg]? = some (.long c) := by
  have q := own_eqL h
  rwa [elem_f ev (Term.int_eval j) aa hj] at q
theorem own_elI {t : Term} {a : Addr} {cl : Cell} {j : Int32} {c : Int32} (ev : t.eval args s none [] s = some (.ref a)) (aa : s.arrayAt? a = some cl) (hj : ¬ j < 0) (h : (Jvm.Cond.eq (Term.elem t (.int j)) (.int c)).value args s none s [] = some true) : cl.slots[j.toNatClampNeg]? = some (.int c) := by
  have q := own_eqI h
  rwa [elem_f ev (Term.int_eval j) aa hj] at q
theorem own_elR {t u : Term} {a b : Addr} {cl : Cell} {j : Int32} (ev : t.eval args s none [] s = some (.ref a)) (aa : s.arrayAt? a = some cl) (hj : ¬ j < 0) (hu : u.eval args s none [] s = some (.ref b)) (h : (Jvm.Cond.eq (Term.elem t (.int j)) u).value args s none s [] = some true) : cl.slots[j.toNatClampNeg]? = some (.ref b) := by
  have q := own_eqR hu h
  rwa [elem_f ev (Term.int_eval j) aa hj] at q
end OwnStart
set_option maxRecDepth 65536 in
set_option maxHeartbeats 40000000 in
theorem comes_1 {Post : Tables → Env → Array Value → State → Outcome → State → Prop} (hpost : ∀ tb e args s v u, (limb_1_1.after args s (.returned v) u = true ∧ limb_1_2.after args s (.returned v) u = true ∧ True) → FrameEnd s (.returned v) u (Jvm.fieldLocs frame_1_writes args s ++ Jvm.arrayLocs frame_1_arrays args s ++ Jvm.staticLocs frame_1_statics s) 32 128 → Post tb e args s (.returned v) u) :
    ArmFor flags0 classFile x code maxLocals ret World_1 tables_1 room_1 Calls_1 rest_1 Pre_1 Post := by
  intro l hfl _ _ p e ha hc hk s m args below hf hA hF happ hP
  obtain ⟨hcalls, hrest, hpre⟩ := hP
  obtain ⟨-, -, -, hnamed, -, -, -, hat⟩ := (Spec.applies_iff hf).mp happ
  obtain ⟨hg, hn⟩ := and_e (Cond.before_iff.mp (show (Jvm.Cond.and given_1 narrow_1).before args s = true from hpre))
  obtain ⟨h1, hg⟩ := and_e hg
  obtain ⟨g0, hg⟩ := and_e hg
  obtain ⟨g1, hg⟩ := and_e hg
  obtain ⟨g2, hg⟩ := and_e hg
  obtain ⟨g3, hg⟩ := and_e hg
  obtain ⟨g4, g5⟩ := and_e hg
  obtain ⟨w0, w1, w2, w3, w4, w5, rfl⟩ : ∃ w0 w1 w2 w3 w4 w5 : Value, args = #[w0, w1, w2, w3, w4, w5] := by
    have hs : args.size = 6 := by simpa [Cond.value, given_1] using h1
    obtain ⟨L⟩ := args
    match L, hs with
    | [w0, w1, w2, w3, w4, w5], _ => exact ⟨w0, w1, w2, w3, w4, w5, rfl⟩
  have hw := fun d (hd : d ∈ tables_1) => atoms_spec (ws := Jvm.Cond.code x code maxLocals ret :: tables_1) hat d (List.mem_cons_of_mem _ hd)
  have hfit : Fit s := fun {y c} hc i hi => by
    obtain ⟨ha, rfl⟩ := Array.getElem?_eq_some_iff.mp hc
    have q := List.all_eq_true.mp ((Array.all_eq_true_iff_forall_mem.mp hF) _ (Array.getElem_mem ha)) i (List.mem_range.mpr hi)
    simpa [Array.getElem?_eq_getElem hi] using q
  obtain ⟨i0, e0⟩ := isL_v g0
  obtain rfl : w0 = (.long i0) := Option.some.inj e0
  obtain ⟨i1, e1⟩ := isL_v g1
  obtain rfl : w1 = (.long i1) := Option.some.inj e1
  obtain ⟨i2, e2⟩ := isL_v g2
  obtain rfl : w2 = (.long i2) := Option.some.inj e2
  obtain ⟨i3, e3⟩ := isL_v g3
  obtain rfl : w3 = (.long i3) := Option.some.inj e3
  obtain ⟨i4, e4⟩ := isL_v g4
  obtain rfl : w4 = (.long i4) := Option.some.inj e4
  obtain ⟨i5, e5⟩ := isL_v g5
  obtain rfl : w5 = (.long i5) := Option.some.inj e5
  obtain ⟨n1, hn⟩ := and_e hn
  obtain ⟨n2, hn⟩ := and_e hn
  obtain ⟨n3, hn⟩ := and_e hn
  obtain ⟨m0, hn⟩ := and_e hn
  obtain ⟨m1, hn⟩ := and_e hn
  obtain ⟨m2, hn⟩ := and_e hn
  obtain ⟨m3, hn⟩ := and_e hn
  obtain ⟨m4, hn⟩ := and_e hn
  obtain ⟨m5, hn⟩ := and_e hn
  obtain ⟨m6, hn⟩ := and_e hn
  obtain ⟨m7, m8⟩ := and_e hn
  obtain ⟨wa, ev⟩ := arr_v n1
  have SW := Sta.start ev (Or.inr ⟨(hw _ (List.mem_of_getElem? (i := 2) rfl)), (hw _ (List.mem_of_getElem? (i := 25) rfl))⟩)
  have SM := Sta.start (own_eqL n3) (Or.inr ⟨(hw _ (List.mem_of_getElem? (i := 2) rfl)), (hw _ (List.mem_of_getElem? (i := 27) rfl))⟩)
  obtain ⟨cl, A, aa, hsz⟩ := own_arr ev n1 n2
  have V := Arv.start (dv := .long (0 : Int64)) (z := 9) (vs := [.long (60000000000 : Int64), .long (600000000000 : Int64), .long (3600000000000 : Int64), .long (21600000000000 : Int64), .long (86400000000000 : Int64), .long (691200000000000 : Int64), .long (5529600000000000 : Int64), .long (44236800000000000 : Int64), .long (353894400000000000 : Int64)]) hfit A hsz.1 hsz.2 (by decide) rfl
    ⟨own_elL ev aa (j := 0) (by decide) m0, own_elL ev aa (j := 1) (by decide) m1, own_elL ev aa (j := 2) (by decide) m2, own_elL ev aa (j := 3) (by decide) m3, own_elL ev aa (j := 4) (by decide) m4, own_elL ev aa (j := 5) (by decide) m5, own_elL ev aa (j := 6) (by decide) m6, own_elL ev aa (j := 7) (by decide) m7, own_elL ev aa (j := 8) (by decide) m8, trivial⟩
  obtain ⟨n, o, h1, h2, h3, _, L, rfl, ⟨rfl, N⟩, hq⟩ := rm_law l s _ hw tables_1 i0 i1 i2 i3 i4 i5 wa cl.cls s.heap s.heap.size (Nat.le_refl _) SW SM V (Old.start s) p e ha hc hk s m _ below hf ((Spec.applies_iff_loose hf).mp happ).1 ⟨rfl, State.Warmed39.refl s, rfl⟩ trivial
  refine ⟨n, _, h1, h2, h3, hpost _ _ _ _ _ _ ⟨Cond.after_iff.mpr rfl, Cond.after_iff.mpr (eq_i res_at (Term.int_eval (1)) rfl), trivial⟩ ⟨hq.1, hq.2.1, (hq.2.2.sift fun y hy => Or.inr (N y hy)).mono (by decide) (by decide)⟩⟩
theorem main_1_1 : Claimed_1_1 := comes_1 fun _ _ _ _ _ _ h hF => ⟨h.1, hF⟩
theorem main_1_2 : Claimed_1_2 := comes_1 fun _ _ _ _ _ _ h hF => ⟨h.2.1, hF⟩
end Jvm.Pilot.@@N@@
namespace Jvm.Pilot.@@N@@
open Jvm Jvm.ClassFile Sem Op Lib Jvm.Free Jvm.Stand Jvm.Pilot.@@N@@.Jvm.D
/-! MADE BY PROGRAM (witnessworld.py) out of the Statement's table words and the real class files: 12 classes; the members and pool entries that the words name. The judged class is class 1, her method 1. -/
namespace start1
open Jvm.ClassFile
def u (s : String) : CpInfo := .utf8 (stringToUtf16 s)
/-- a pool by its gaps: so many unusable entries, then the entry; so many at the end -/
def gap : Nat → List CpInfo → List CpInfo
  | 0, r => r
  | n + 1, r => .unusable :: gap n r
def poolList (es : List (Nat × CpInfo)) (last : Nat) : List CpInfo := es.foldr (fun e r => gap e.1 (e.2 :: r)) (gap last [])
def pool (es : List (Nat × CpInfo)) (last : Nat) : Array CpInfo := ⟨poolList es last⟩
def fileOf (pool : Array CpInfo) (this : Nat) (attrs : Array Attribute := #[]) (ms : Array MethodInfo := #[]) (fl : Nat := 33) (sup : Nat := 0) (ifs : Array Nat := #[]) (fds : Array FieldInfo := #[]) : ClassFile where
  minorVersion := 0
  majorVersion := 65
  constantPool := pool
  accessFlags := fl
  thisClass := this
  superClass := sup
  interfaces := ifs
  fields := fds
  methods := ms
  attributes := attrs
def plain (name : String) (sup : Option ClassId) : Class where
  name := name
  kind := .ordinary
  loader := none
  accessFlags := 33
  super := sup
  interfaces := #[]
  cf := none
  fields := #[]
  methods := #[]
  instanceTypes := #[]
  staticTypes := #[]
  resolved := #[]
  callSites := []
  init := .initialized
  statics := none
  mirror := none

def pool0 : Array CpInfo := pool [(5, u "<init>"), (0, u "()V"), (1, .class_ 10), (1, u "java/lang/Object")] 113

def k0c0 : Code := { maxStack := 0, maxLocals := 1, code := object_method_1_code, exceptionTable := #[], attributes := #[] }
def k0m0 : Method := { name := "<init>", desc := "()V", sig := { parameters := [], returnType := none }, accessFlags := 1, code := some k0c0 }
/-- java/lang/Object -/
def k0 : Class := { plain "java/lang/Object" none with
  accessFlags := 33
  interfaces := #[]
  cf := some (fileOf pool0 8 #[] #[{ accessFlags := 1, nameIndex := 5, descriptorIndex := 6, attributes := #[] }] 33 0 #[] #[])
  fields := #[]
  methods := #[k0m0]
  instanceTypes := #[]
  staticTypes := #[]
  resolved := Array.replicate 124 none
  statics := none }

def pool1 : Array CpInfo := pool [(2, .class_ 4), (1, u "java/lang/Object"), (0, u "<init>"), (0, u "()V"), (0, .class_ 8), (0, u "com/example/wynik/wynik/store/RangeLayout"), (0, .methodref 7 10), (0, .nameAndType 5 11), (0, u "(JJJJJ)V"), (0, .methodref 7 13), (0, .nameAndType 14 15), (0, u "rangeAt"), (0, u "(J)[J"), (0, .methodref 17 18), (0, .class_ 19), (0, .nameAndType 20 21), (0, u "com/example/wynik/wynik/store/RangeLayoutRangeAtPinLaw"), (0, u "fits"), (0, u "([JI[J)Z"), (0, .long 60000000000), (1, .long 600000000000), (1, .long 3600000000000), (1, .long 21600000000000), (1, .long 86400000000000), (1, .long 691200000000000), (1, .long 5529600000000000), (1, .long 44236800000000000), (1, .long 353894400000000000), (3, .long 9223372036854775807), (1, .methodref 17 45), (0, .nameAndType 46 47), (0, u "w"), (0, u "(I)J"), (0, .methodref 17 49), (0, .nameAndType 50 51), (0, u "start"), (0, u "(JJ)J"), (0, .methodref 17 53), (0, .nameAndType 54 51), (0, u "stop"), (0, .methodref 17 56), (0, .nameAndType 57 58), (0, u "ok"), (0, u "(I[J)Z"), (2, u "law"), (0, u "(JJJJJJ)Z")] 5

def k1m0 : Method := { name := "<init>", desc := "()V", sig := { parameters := [], returnType := none }, accessFlags := 1, code := none }
def k1c1 : Code := { maxStack := 12, maxLocals := 15, code := code, exceptionTable := #[], attributes := #[] }
def k1m1 : Method := { name := "law", desc := "(JJJJJJ)Z", sig := { parameters := [.long, .long, .long, .long, .long, .long], returnType := some .boolean }, accessFlags := 9, code := some k1c1 }
def k1c2 : Code := { maxStack := 2, maxLocals := 1, code := method_3_code, exceptionTable := #[], attributes := #[] }
def k1m2 : Method := { name := "w", desc := "(I)J", sig := { parameters := [.int], returnType := some .long }, accessFlags := 10, code := some k1c2 }
def k1c3 : Code := { maxStack := 4, maxLocals := 6, code := method_4_code, exceptionTable := #[], attributes := #[] }
def k1m3 : Method := { name := "start", desc := "(JJ)J", sig := { parameters := [.long, .long], returnType := some .long }, accessFlags := 10, code := some k1c3 }
def k1c4 : Code := { maxStack := 4, maxLocals := 6, code := method_5_code, exceptionTable := #[], attributes := #[] }
def k1m4 : Method := { name := "stop", desc := "(JJ)J", sig := { parameters := [.long, .long], returnType := some .long }, accessFlags := 10, code := some k1c4 }
def k1c5 : Code := { maxStack := 4, maxLocals := 8, code := method_6_code, exceptionTable := #[], attributes := #[] }
def k1m5 : Method := { name := "ok", desc := "(I[J)Z", sig := { parameters := [.int, (.array .long)], returnType := some .boolean }, accessFlags := 10, code := some k1c5 }
def k1c6 : Code := { maxStack := 4, maxLocals := 11, code := method_7_code, exceptionTable := #[], attributes := #[] }
def k1m6 : Method := { name := "fits", desc := "([JI[J)Z", sig := { parameters := [(.array .long), .int, (.array .long)], returnType := some .boolean }, accessFlags := 10, code := some k1c6 }
/-- com/example/wynik/wynik/store/RangeLayoutRangeAtPinLaw -/
def k1 : Class := { plain "com/example/wynik/wynik/store/RangeLayoutRangeAtPinLaw" (some 0) with
  accessFlags := 49
  interfaces := #[]
  cf := some (fileOf pool1 17 #[] #[{ accessFlags := 1, nameIndex := 5, descriptorIndex := 6, attributes := #[] }, { accessFlags := 9, nameIndex := 61, descriptorIndex := 62, attributes := #[] }, { accessFlags := 10, nameIndex := 46, descriptorIndex := 47, attributes := #[] }, { accessFlags := 10, nameIndex := 50, descriptorIndex := 51, attributes := #[] }, { accessFlags := 10, nameIndex := 54, descriptorIndex := 51, attributes := #[] }, { accessFlags := 10, nameIndex := 57, descriptorIndex := 58, attributes := #[] }, { accessFlags := 10, nameIndex := 20, descriptorIndex := 21, attributes := #[] }] 49 2 #[] #[])
  fields := #[]
  methods := #[k1m0, k1m1, k1m2, k1m3, k1m4, k1m5, k1m6]
  instanceTypes := #[]
  staticTypes := #[]
  resolved := Array.replicate 68 none
  statics := none }

def pool2 : Array CpInfo := pool [(1, .methodref 2 3), (0, .class_ 4), (0, .nameAndType 5 6), (0, u "java/lang/Object"), (0, u "<init>"), (0, u "()V"), (0, .fieldref 8 9), (0, .class_ 10), (0, .nameAndType 11 12), (0, u "com/example/wynik/wynik/store/RangeLayout"), (0, u "width"), (0, u "J"), (0, .fieldref 8 14), (0, .nameAndType 15 12), (0, u "widest"), (0, .fieldref 8 17), (0, .nameAndType 18 12), (0, u "horizon"), (0, .fieldref 8 20), (0, .nameAndType 21 12), (0, u "from"), (0, .fieldref 8 23), (0, .nameAndType 24 12), (0, u "until"), (0, .fieldref 8 26), (0, .nameAndType 27 28), (0, u "WIDTHS"), (0, u "[J"), (0, .methodref 8 30), (0, .nameAndType 31 32), (0, u "period"), (0, u "(JJ)[J"), (0, .fieldref 8 34), (0, .nameAndType 35 12), (0, u "MINUTE"), (5, u "rangeAt"), (0, u "(J)[J"), (8, .long 9223372036854775807), (1, .methodref 54 55), (0, .class_ 56), (0, .nameAndType 57 58), (0, u "java/lang/Math"), (0, u "floorMod"), (0, u "(JJ)J"), (0, .methodref 8 60), (0, .nameAndType 61 58), (0, u "periodStart"), (20, u "DAY"), (0, u "(JJJJJ)V")] 11

def k2c0 : Code := { maxStack := 3, maxLocals := 11, code := prog_54_method_1_code, exceptionTable := #[], attributes := #[] }
def k2m0 : Method := { name := "<init>", desc := "(JJJJJ)V", sig := { parameters := [.long, .long, .long, .long, .long], returnType := none }, accessFlags := 0, code := some k2c0 }
def k2c1 : Code := { maxStack := 4, maxLocals := 6, code := prog_54_method_2_code, exceptionTable := #[], attributes := #[] }
def k2m1 : Method := { name := "rangeAt", desc := "(J)[J", sig := { parameters := [.long], returnType := some (.array .long) }, accessFlags := 0, code := some k2c1 }
def k2c2 : Code := { maxStack := 6, maxLocals := 4, code := prog_54_method_4_code, exceptionTable := #[], attributes := #[] }
def k2m2 : Method := { name := "periodStart", desc := "(JJ)J", sig := { parameters := [.long, .long], returnType := some .long }, accessFlags := 8, code := some k2c2 }
def k2c3 : Code := { maxStack := 6, maxLocals := 8, code := prog_54_method_5_code, exceptionTable := #[], attributes := #[] }
def k2m3 : Method := { name := "period", desc := "(JJ)[J", sig := { parameters := [.long, .long], returnType := some (.array .long) }, accessFlags := 10, code := some k2c3 }
/-- com/example/wynik/wynik/store/RangeLayout -/
def k2 : Class := { plain "com/example/wynik/wynik/store/RangeLayout" (some 0) with
  accessFlags := 32
  interfaces := #[]
  cf := some (fileOf pool2 8 #[] #[{ accessFlags := 0, nameIndex := 5, descriptorIndex := 83, attributes := #[] }, { accessFlags := 0, nameIndex := 41, descriptorIndex := 42, attributes := #[] }, { accessFlags := 8, nameIndex := 61, descriptorIndex := 58, attributes := #[] }, { accessFlags := 10, nameIndex := 31, descriptorIndex := 32, attributes := #[] }] 32 2 #[] #[{ accessFlags := 24, nameIndex := 27, descriptorIndex := 28, attributes := #[] }, { accessFlags := 24, nameIndex := 35, descriptorIndex := 12, attributes := #[] }, { accessFlags := 24, nameIndex := 82, descriptorIndex := 12, attributes := #[] }, { accessFlags := 18, nameIndex := 11, descriptorIndex := 12, attributes := #[] }, { accessFlags := 18, nameIndex := 15, descriptorIndex := 12, attributes := #[] }, { accessFlags := 18, nameIndex := 18, descriptorIndex := 12, attributes := #[] }, { accessFlags := 18, nameIndex := 21, descriptorIndex := 12, attributes := #[] }, { accessFlags := 18, nameIndex := 24, descriptorIndex := 12, attributes := #[] }])
  fields := #[{ name := "WIDTHS", type := (.array .long), accessFlags := 24, slot := 0, constantValue := 0 }, { name := "MINUTE", type := .long, accessFlags := 24, slot := 1, constantValue := 0 }, { name := "DAY", type := .long, accessFlags := 24, slot := 2, constantValue := 0 }, { name := "width", type := .long, accessFlags := 18, slot := 0, constantValue := 0 }, { name := "widest", type := .long, accessFlags := 18, slot := 1, constantValue := 0 }, { name := "horizon", type := .long, accessFlags := 18, slot := 2, constantValue := 0 }, { name := "from", type := .long, accessFlags := 18, slot := 3, constantValue := 0 }, { name := "until", type := .long, accessFlags := 18, slot := 4, constantValue := 0 }]
  methods := #[k2m0, k2m1, k2m2, k2m3]
  instanceTypes := #[.long, .long, .long, .long, .long]
  staticTypes := #[(.array .long), .long, .long]
  resolved := Array.replicate 95 none
  statics := some 0 }

def pool3 : Array CpInfo := pool [(1, .class_ 2), (0, u "java/lang/Math"), (1, .class_ 6), (1, u "java/lang/Object"), (0, u "<init>"), (0, u "()V"), (89, .class_ 100), (1, u "java/lang/Math$RandomNumberGeneratorHolder"), (20, u "(JJ)J"), (26, u "floorMod"), (23, u "negativeZeroFloatBits"), (0, u "J"), (2, u "negativeZeroDoubleBits"), (68, u "$assertionsDisabled"), (0, u "Z"), (91, u "twoToTheDoubleScaleDown"), (0, u "D"), (4, u "twoToTheDoubleScaleUp"), (9, u "E"), (3, u "PI"), (2, u "TAU"), (2, u "DEGREES_TO_RADIANS"), (0, u "RADIANS_TO_DEGREES")] 94

def k3m0 : Method := { name := "<init>", desc := "()V", sig := { parameters := [], returnType := none }, accessFlags := 2, code := none }
def k3c1 : Code := { maxStack := 4, maxLocals := 6, code := jdk_29_method_52_code, exceptionTable := #[], attributes := #[] }
def k3m1 : Method := { name := "floorMod", desc := "(JJ)J", sig := { parameters := [.long, .long], returnType := some .long }, accessFlags := 9, code := some k3c1 }
/-- java/lang/Math -/
def k3 : Class := { plain "java/lang/Math" (some 0) with
  accessFlags := 49
  interfaces := #[]
  cf := some (fileOf pool3 1 #[.nestMembers #[98]] #[{ accessFlags := 2, nameIndex := 7, descriptorIndex := 8, attributes := #[] }, { accessFlags := 9, nameIndex := 148, descriptorIndex := 121, attributes := #[] }] 49 4 #[] #[{ accessFlags := 25, nameIndex := 354, descriptorIndex := 339, attributes := #[] }, { accessFlags := 25, nameIndex := 358, descriptorIndex := 339, attributes := #[] }, { accessFlags := 25, nameIndex := 361, descriptorIndex := 339, attributes := #[] }, { accessFlags := 26, nameIndex := 364, descriptorIndex := 339, attributes := #[] }, { accessFlags := 26, nameIndex := 365, descriptorIndex := 339, attributes := #[] }, { accessFlags := 26, nameIndex := 172, descriptorIndex := 173, attributes := #[] }, { accessFlags := 26, nameIndex := 176, descriptorIndex := 173, attributes := #[] }, { accessFlags := 8, nameIndex := 344, descriptorIndex := 339, attributes := #[] }, { accessFlags := 8, nameIndex := 338, descriptorIndex := 339, attributes := #[] }, { accessFlags := 4120, nameIndex := 245, descriptorIndex := 246, attributes := #[] }])
  fields := #[{ name := "E", type := .double, accessFlags := 25, slot := 0, constantValue := 0 }, { name := "PI", type := .double, accessFlags := 25, slot := 1, constantValue := 0 }, { name := "TAU", type := .double, accessFlags := 25, slot := 2, constantValue := 0 }, { name := "DEGREES_TO_RADIANS", type := .double, accessFlags := 26, slot := 3, constantValue := 0 }, { name := "RADIANS_TO_DEGREES", type := .double, accessFlags := 26, slot := 4, constantValue := 0 }, { name := "negativeZeroFloatBits", type := .long, accessFlags := 26, slot := 5, constantValue := 0 }, { name := "negativeZeroDoubleBits", type := .long, accessFlags := 26, slot := 6, constantValue := 0 }, { name := "twoToTheDoubleScaleUp", type := .double, accessFlags := 8, slot := 7, constantValue := 0 }, { name := "twoToTheDoubleScaleDown", type := .double, accessFlags := 8, slot := 8, constantValue := 0 }, { name := "$assertionsDisabled", type := .boolean, accessFlags := 4120, slot := 9, constantValue := 0 }]
  methods := #[k3m0, k3m1]
  instanceTypes := #[]
  staticTypes := #[.double, .double, .double, .double, .double, .long, .long, .double, .double, .boolean]
  resolved := Array.replicate 460 none
  statics := none }

def pool4 : Array CpInfo := pool [(1, u "java/lang/Cloneable"), (0, .class_ 1), (0, u "java/lang/Object"), (0, .class_ 3)] 3

/-- java/lang/Cloneable -/
def k4 : Class := { plain "java/lang/Cloneable" (some 0) with
  accessFlags := 1537
  interfaces := #[]
  cf := some (fileOf pool4 2 #[] #[] 1537 4 #[] #[])
  fields := #[]
  methods := #[]
  instanceTypes := #[]
  staticTypes := #[]
  resolved := Array.replicate 8 none
  statics := none }

def pool5 : Array CpInfo := pool [(1, u "java/io/Serializable"), (0, .class_ 1), (0, u "java/lang/Object"), (0, .class_ 3)] 3

/-- java/io/Serializable -/
def k5 : Class := { plain "java/io/Serializable" (some 0) with
  accessFlags := 1537
  interfaces := #[]
  cf := some (fileOf pool5 2 #[] #[] 1537 4 #[] #[])
  fields := #[]
  methods := #[]
  instanceTypes := #[]
  staticTypes := #[]
  resolved := Array.replicate 8 none
  statics := none }

/-- the primitive byte -/
def k6 : Class := { plain "byte" none with kind := .primitive 'B', accessFlags := 0x411 }
/-- [B -/
def k7 : Class := { plain "[B" (some 0) with kind := .array 6 .byte, interfaces := #[4, 5], accessFlags := 1041 }

/-- the primitive int -/
def k8 : Class := { plain "int" none with kind := .primitive 'I', accessFlags := 0x411 }
/-- [I -/
def k9 : Class := { plain "[I" (some 0) with kind := .array 8 .int, interfaces := #[4, 5], accessFlags := 1041 }

/-- the primitive long -/
def k10 : Class := { plain "long" none with kind := .primitive 'J', accessFlags := 0x411 }
/-- [J -/
def k11 : Class := { plain "[J" (some 0) with kind := .array 10 .long, interfaces := #[4, 5], accessFlags := 1041 }

def heap : Heap := #[{ cls := 2, slots := #[.ref 1, .long 60000000000, .long 0], vm := .statics 2 },
  { cls := 11, slots := #[.long 60000000000, .long 600000000000, .long 3600000000000, .long 21600000000000, .long 86400000000000, .long 691200000000000, .long 5529600000000000, .long 44236800000000000, .long 353894400000000000], vm := .none }]
def classes : Array Class := #[k0, k1, k2, k3, k4, k5, k6, k7, k8, k9, k10, k11]
def interned : List (Array UInt16 × Addr) := []
def slotsUsed : Nat := 12
def theMethod : MethodId := ⟨1, 1⟩
def args0 : Array Value := #[.long 0, .long 0, .long 0, .long 0, .long 0, .long 0]
def aboutOver (below : List Frame) : State where
  vm := { classes := classes, interned := interned.toArray }
  heap := heap
  slotsUsed := slotsUsed
  threads := #[{ frames := .invoking theMethod args0 :: below }]
def below0 : List Frame := [.native { method := ⟨0, 0⟩, args := #[] }]
def about1 : State := aboutOver below0
def p0 : Program := .bare "" "" ""
def e0 : Env := launch0.env 0 0 0
theorem w_frames : about1.frames = Frame.invoking theMethod args0 :: below0 := rfl
set_option maxRecDepth 65536 in
theorem w_args : argsFit about1.vm theMethod args0 = true := by decide +kernel
set_option maxRecDepth 65536 in
theorem w_heap : heapFits about1 = true := by decide +kernel
set_option maxRecDepth 65536 in
theorem w_runnable : about1.curStatus? = some .runnable := by decide +kernel
set_option maxRecDepth 65536 in
theorem w_alone : about1.alone = true := by decide +kernel
set_option maxRecDepth 65536 in
theorem w_named : about1.methodNamed? x = some theMethod := by decide +kernel
set_option maxRecDepth 65536 in
theorem w_hears : about1.hears theMethod below0 = true := by decide +kernel
set_option maxRecDepth 65536 in
theorem w_ripe : about1.ripe theMethod args0 below0 = true := by decide +kernel
theorem w_running : about1.status = .running := rfl
set_option maxRecDepth 65536 in
theorem w_room : about1.hasRoom e0.platform room_1 = true :=
  launch0.hasRoom_least _ room_1 (by decide +kernel) (by decide +kernel) (by decide +kernel) (by decide +kernel) (by decide +kernel) (by decide +kernel)
theorem allAtoms_all (ts : List Jvm.Cond) (a : Array Jvm.Value) (st : Jvm.State) : (allAtoms ts).before a st = ts.all (fun c => c.before a st) := by
  induction ts with
  | nil => rfl
  | cons c t ih =>
    show (Jvm.Cond.and c (allAtoms t)).before a st = _
    rw [Jvm.Cond.before_and, ih, List.all_cons]
def words1 : List Jvm.Cond := Jvm.Cond.code x code maxLocals ret :: tables_1
/-- a 'code' word, met by the world's own term for the bytes: nothing is compared byte by byte -/
theorem code_word {y : MethodName} {bytes : ByteArray} {mx : Nat} {rt : Option FieldType} {a : Array Value} {s : State} {m : MethodId} {meth : Method} {c : Code} (h1 : s.methodNamed? y = some m) (h2 : s.vm.method? m = some meth) (h3 : meth.code = some c) (h4 : c.code = bytes)
    (h5 : (c.maxLocals == mx && c.exceptionTable.isEmpty && decide (c.maxStack ≤ mostOperands) && decide (meth.sig.returnType = rt) && !meth.locks && decide (parseMethodDescriptor y.desc = some meth.sig)) = true) : (Jvm.Cond.code y bytes mx rt).before a s = true := by
  simp only [Bool.and_eq_true, beq_iff_eq, Bool.not_eq_true', decide_eq_true_eq] at h5
  obtain ⟨⟨⟨⟨⟨g1, g2⟩, g3⟩, g4⟩, g5⟩, g6⟩ := h5
  simp [Cond.before, Cond.holds, Cond.value, h1, h2, h3, h4, g1, g2, g3, g4, g5, g6]
def isCode : Jvm.Cond → Bool
  | .code _ _ _ _ => true
  | _ => false
theorem all_split {L : List Jvm.Cond} {P : Jvm.Cond → Bool} (h1 : L.all (fun c => isCode c || P c) = true) (h2 : ∀ c ∈ L.filter isCode, P c = true) : L.all P = true := by
  refine List.all_eq_true.mpr fun c hc => ?_
  have h := List.all_eq_true.mp h1 c hc
  rcases Bool.eq_false_or_eq_true (isCode c) with hi | hi
  · exact h2 c (List.mem_filter.mpr ⟨hc, hi⟩)
  · simpa [hi] using h
set_option maxRecDepth 65536 in
theorem w_c0 : (Jvm.Cond.code x code maxLocals ret).before args0 about1 = true := code_word (m := ⟨1, 1⟩) (meth := k1m1) (c := k1c1) (by decide +kernel) rfl rfl rfl (by decide +kernel)
set_option maxRecDepth 65536 in
theorem w_c1 : (Jvm.Cond.code ({ cls := "com/example/wynik/wynik/store/RangeLayout", name := "<init>", desc := "(JJJJJ)V" } : Jvm.MethodName) prog_54_method_1_code (11 : Nat) (Option.none : Option Jvm.ClassFile.FieldType)).before args0 about1 = true := code_word (m := ⟨2, 0⟩) (meth := k2m0) (c := k2c0) (by decide +kernel) rfl rfl rfl (by decide +kernel)
set_option maxRecDepth 65536 in
theorem w_c2 : (Jvm.Cond.code ({ cls := "java/lang/Object", name := "<init>", desc := "()V" } : Jvm.MethodName) object_method_1_code (1 : Nat) (Option.none : Option Jvm.ClassFile.FieldType)).before args0 about1 = true := code_word (m := ⟨0, 0⟩) (meth := k0m0) (c := k0c0) (by decide +kernel) rfl rfl rfl (by decide +kernel)
set_option maxRecDepth 65536 in
theorem w_c3 : (Jvm.Cond.code ({ cls := "com/example/wynik/wynik/store/RangeLayout", name := "rangeAt", desc := "(J)[J" } : Jvm.MethodName) prog_54_method_2_code (6 : Nat) (Option.some (Jvm.ClassFile.FieldType.array Jvm.ClassFile.FieldType.long))).before args0 about1 = true := code_word (m := ⟨2, 1⟩) (meth := k2m1) (c := k2c1) (by decide +kernel) rfl rfl rfl (by decide +kernel)
set_option maxRecDepth 65536 in
theorem w_c4 : (Jvm.Cond.code ({ cls := "com/example/wynik/wynik/store/RangeLayout", name := "period", desc := "(JJ)[J" } : Jvm.MethodName) prog_54_method_5_code (8 : Nat) (Option.some (Jvm.ClassFile.FieldType.array Jvm.ClassFile.FieldType.long))).before args0 about1 = true := code_word (m := ⟨2, 3⟩) (meth := k2m3) (c := k2c3) (by decide +kernel) rfl rfl rfl (by decide +kernel)
set_option maxRecDepth 65536 in
theorem w_c5 : (Jvm.Cond.code ({ cls := "com/example/wynik/wynik/store/RangeLayout", name := "periodStart", desc := "(JJ)J" } : Jvm.MethodName) prog_54_method_4_code (4 : Nat) (Option.some Jvm.ClassFile.FieldType.long)).before args0 about1 = true := code_word (m := ⟨2, 2⟩) (meth := k2m2) (c := k2c2) (by decide +kernel) rfl rfl rfl (by decide +kernel)
set_option maxRecDepth 65536 in
theorem w_c6 : (Jvm.Cond.code ({ cls := "java/lang/Math", name := "floorMod", desc := "(JJ)J" } : Jvm.MethodName) jdk_29_method_52_code (6 : Nat) (Option.some Jvm.ClassFile.FieldType.long)).before args0 about1 = true := code_word (m := ⟨3, 1⟩) (meth := k3m1) (c := k3c1) (by decide +kernel) rfl rfl rfl (by decide +kernel)
set_option maxRecDepth 65536 in
theorem w_c7 : (Jvm.Cond.code ({ cls := "com/example/wynik/wynik/store/RangeLayoutRangeAtPinLaw", name := "fits", desc := "([JI[J)Z" } : Jvm.MethodName) method_7_code (11 : Nat) (Option.some Jvm.ClassFile.FieldType.boolean)).before args0 about1 = true := code_word (m := ⟨1, 6⟩) (meth := k1m6) (c := k1c6) (by decide +kernel) rfl rfl rfl (by decide +kernel)
set_option maxRecDepth 65536 in
theorem w_c8 : (Jvm.Cond.code ({ cls := "com/example/wynik/wynik/store/RangeLayoutRangeAtPinLaw", name := "w", desc := "(I)J" } : Jvm.MethodName) method_3_code (1 : Nat) (Option.some Jvm.ClassFile.FieldType.long)).before args0 about1 = true := code_word (m := ⟨1, 2⟩) (meth := k1m2) (c := k1c2) (by decide +kernel) rfl rfl rfl (by decide +kernel)
set_option maxRecDepth 65536 in
theorem w_c9 : (Jvm.Cond.code ({ cls := "com/example/wynik/wynik/store/RangeLayoutRangeAtPinLaw", name := "start", desc := "(JJ)J" } : Jvm.MethodName) method_4_code (6 : Nat) (Option.some Jvm.ClassFile.FieldType.long)).before args0 about1 = true := code_word (m := ⟨1, 3⟩) (meth := k1m3) (c := k1c3) (by decide +kernel) rfl rfl rfl (by decide +kernel)
set_option maxRecDepth 65536 in
theorem w_c10 : (Jvm.Cond.code ({ cls := "com/example/wynik/wynik/store/RangeLayoutRangeAtPinLaw", name := "stop", desc := "(JJ)J" } : Jvm.MethodName) method_5_code (6 : Nat) (Option.some Jvm.ClassFile.FieldType.long)).before args0 about1 = true := code_word (m := ⟨1, 4⟩) (meth := k1m4) (c := k1c4) (by decide +kernel) rfl rfl rfl (by decide +kernel)
set_option maxRecDepth 65536 in
theorem w_c11 : (Jvm.Cond.code ({ cls := "com/example/wynik/wynik/store/RangeLayoutRangeAtPinLaw", name := "ok", desc := "(I[J)Z" } : Jvm.MethodName) method_6_code (8 : Nat) (Option.some Jvm.ClassFile.FieldType.boolean)).before args0 about1 = true := code_word (m := ⟨1, 5⟩) (meth := k1m5) (c := k1c5) (by decide +kernel) rfl rfl rfl (by decide +kernel)
def codes1 : List Jvm.Cond := [Jvm.Cond.code x code maxLocals ret, Jvm.Cond.code ({ cls := "com/example/wynik/wynik/store/RangeLayout", name := "<init>", desc := "(JJJJJ)V" } : Jvm.MethodName) prog_54_method_1_code (11 : Nat) (Option.none : Option Jvm.ClassFile.FieldType), Jvm.Cond.code ({ cls := "java/lang/Object", name := "<init>", desc := "()V" } : Jvm.MethodName) object_method_1_code (1 : Nat) (Option.none : Option Jvm.ClassFile.FieldType), Jvm.Cond.code ({ cls := "com/example/wynik/wynik/store/RangeLayout", name := "rangeAt", desc := "(J)[J" } : Jvm.MethodName) prog_54_method_2_code (6 : Nat) (Option.some (Jvm.ClassFile.FieldType.array Jvm.ClassFile.FieldType.long)), Jvm.Cond.code ({ cls := "com/example/wynik/wynik/store/RangeLayout", name := "period", desc := "(JJ)[J" } : Jvm.MethodName) prog_54_method_5_code (8 : Nat) (Option.some (Jvm.ClassFile.FieldType.array Jvm.ClassFile.FieldType.long)), Jvm.Cond.code ({ cls := "com/example/wynik/wynik/store/RangeLayout", name := "periodStart", desc := "(JJ)J" } : Jvm.MethodName) prog_54_method_4_code (4 : Nat) (Option.some Jvm.ClassFile.FieldType.long), Jvm.Cond.code ({ cls := "java/lang/Math", name := "floorMod", desc := "(JJ)J" } : Jvm.MethodName) jdk_29_method_52_code (6 : Nat) (Option.some Jvm.ClassFile.FieldType.long), Jvm.Cond.code ({ cls := "com/example/wynik/wynik/store/RangeLayoutRangeAtPinLaw", name := "fits", desc := "([JI[J)Z" } : Jvm.MethodName) method_7_code (11 : Nat) (Option.some Jvm.ClassFile.FieldType.boolean), Jvm.Cond.code ({ cls := "com/example/wynik/wynik/store/RangeLayoutRangeAtPinLaw", name := "w", desc := "(I)J" } : Jvm.MethodName) method_3_code (1 : Nat) (Option.some Jvm.ClassFile.FieldType.long), Jvm.Cond.code ({ cls := "com/example/wynik/wynik/store/RangeLayoutRangeAtPinLaw", name := "start", desc := "(JJ)J" } : Jvm.MethodName) method_4_code (6 : Nat) (Option.some Jvm.ClassFile.FieldType.long), Jvm.Cond.code ({ cls := "com/example/wynik/wynik/store/RangeLayoutRangeAtPinLaw", name := "stop", desc := "(JJ)J" } : Jvm.MethodName) method_5_code (6 : Nat) (Option.some Jvm.ClassFile.FieldType.long), Jvm.Cond.code ({ cls := "com/example/wynik/wynik/store/RangeLayoutRangeAtPinLaw", name := "ok", desc := "(I[J)Z" } : Jvm.MethodName) method_6_code (8 : Nat) (Option.some Jvm.ClassFile.FieldType.boolean)]
set_option maxRecDepth 65536 in
theorem codes_eq : words1.filter isCode = codes1 := rfl
theorem w_codes : ∀ c ∈ words1.filter isCode, c.before args0 about1 = true := by
  rw [codes_eq]
  intro c hc
  simp only [codes1, List.mem_cons, List.not_mem_nil, or_false] at hc
  rcases hc with rfl | rfl | rfl | rfl | rfl | rfl | rfl | rfl | rfl | rfl | rfl | rfl
  · exact w_c0
  · exact w_c1
  · exact w_c2
  · exact w_c3
  · exact w_c4
  · exact w_c5
  · exact w_c6
  · exact w_c7
  · exact w_c8
  · exact w_c9
  · exact w_c10
  · exact w_c11
set_option maxRecDepth 65536 in
theorem w_t1 : (words1.take 24).all (fun c => isCode c || c.before args0 about1) = true := by decide +kernel
set_option maxRecDepth 65536 in
theorem w_t2 : ((words1.drop 24).take 24).all (fun c => isCode c || c.before args0 about1) = true := by decide +kernel
set_option maxRecDepth 65536 in
theorem w_t3 : ((words1.drop 24).drop 24).all (fun c => isCode c || c.before args0 about1) = true := by decide +kernel
theorem w_tables : (allAtoms (Jvm.Cond.code x code maxLocals ret :: tables_1)).before args0 about1 = true := by
  rw [allAtoms_all]
  show words1.all (fun c => c.before args0 about1) = true
  refine all_split ?_ w_codes
  rw [← List.take_append_drop 24 words1, List.all_append, w_t1, ← List.take_append_drop 24 (words1.drop 24), List.all_append, w_t2, w_t3]
  rfl
set_option maxRecDepth 65536 in
theorem w_case : (Jvm.Cond.and given_1 narrow_1).before args0 about1 = true := by decide +kernel
theorem w_applies : (headSpec (Jvm.Cond.code x code maxLocals ret :: tables_1) room_1).applies x e0.platform about1 = true :=
  (Spec.applies_iff w_frames).mpr ⟨w_running, w_runnable, w_alone, w_named, w_hears, w_ripe, w_room, w_tables⟩
theorem atStart : AtStart classFile x code maxLocals ret World_1 tables_1 room_1 Calls_1 rest_1 Pre_1 launch0 p0 e0 about1 theMethod args0 below0 :=
  ⟨lists_1, trivial, launch0.admits_env _ _ _, launch0.least_env, fairChoices_fair.cas, fairChoices_fair.clock, w_frames, w_args, w_heap, w_applies, trivial, trivial, w_case⟩
end start1
theorem witness_1 : WitnessClaimed_1 := ⟨start1.p0, start1.e0, start1.about1, start1.theMethod, start1.args0, start1.below0, start1.atStart⟩
end Jvm.Pilot.@@N@@
