import JvmDerived
import JvmDerived.Pilot.@@N@@Statement
import JvmDerived.Pilot.@@N@@Code
set_option linter.unusedVariables false
set_option linter.unusedSimpArgs false
@@BLOCK:NumsL.lean.txt@@
namespace Jvm.Pilot.@@N@@
open Jvm Jvm.ClassFile Sem Op Lib Jvm.Free Jvm.Stand Jvm.LawKit Jvm.RoadKit Bundle Jvm.Pilot.@@N@@.Jvm.D
section OwnKit
variable {p : Program} {l : Launch} {e : Env} {R : Room} {s : State} {m : MethodId} {args : Array Value} {below : List Frame} {meth : Method} {c : Code} {T T' : State} {locs : List Loc} {cells slots : Nat} {Z : State} {h : Heap} {a0 : Array Value}
/-- from the state T with the frame g on top the method comes to its end, and what it leaves meets E -/
def own_WP (p : Program) (e : Env) (below : List Frame) (E : Outcome → State → Prop) (T : State) (g : JFrame) : Prop :=
  ∃ s₂ o, Steps p.tables e below (T.setTop g) s₂ ∧ s₂.status = .running ∧ Ended s₂ below o ∧ E o s₂
/-- it returns, and what it leaves meets Q within K cells and N slots -/
def own_E (s : State) (Q : Option Value → Heap → List Loc → Prop) (K N : Nat) (o : Outcome) (t : State) : Prop := ∃ v L, o = .returned v ∧ Q v t.heap L ∧ FrameEnd s o t L K N
variable {Q : Option Value → Heap → List Loc → Prop} {K N : Nat} {g g' : JFrame} {E : Outcome → State → Prop}
theorem own_go (h : ∀ t, Steps p.tables e below (T'.setTop g') t → Steps p.tables e below (T.setTop g) t) (k : own_WP p e below E T' g') : own_WP p e below E T g := by
  obtain ⟨s₂, o, h1, h2⟩ := k
  exact ⟨s₂, o, h s₂ h1, h2⟩
theorem own_tr (h : Steps p.tables e below (T.setTop g) (T'.setTop g')) (k : own_WP p e below E T' g') : own_WP p e below E T g := by
  obtain ⟨s₂, o, h1, h2⟩ := k
  exact ⟨s₂, o, h.trans h1, h2⟩
theorem own_end (X : Stand p l e R s m args below meth c T locs cells slots) (hlk : meth.locks = false) {v : Option Value} (hv : meth.sig.returnType = none → v = none)
    (hs : ∀ fs, (∀ (f : JFrame) (acts : List Action), f.method = m → f.locked = none → f.entered = [] → (doReturn e (T.setTop f) acts v).1 = T.setFrames fs) → Steps p.tables e below (T.setTop g) (T.setFrames fs))
    (hk : cells ≤ K) (hn : slots ≤ N) (hq : Q v T.heap locs) : own_WP p e below (own_E s Q K N) T g := by
  obtain ⟨fs, hr, hrun, hended, hW, hsame⟩ := X.leave hv hlk
  exact ⟨_, _, hs fs hr, hrun, hended, _, _, rfl, hq, ⟨_, rfl⟩, hW, hsame.mono hk hn⟩
theorem own_retV (X : Stand p l e R s m args below meth c T locs cells slots) (hx : p.tables.exec = Jvm.exec) (hlk : meth.locks = false) {pc : Nat} {Ls : Array Slot} (hret : meth.sig.returnType = none) (hd : decode c.code pc = .ok (.return_, 1))
    (hk : cells ≤ K) (hn : slots ≤ N) (hq : Q none T.heap locs) : own_WP p e below (own_E s Q K N) T (mkF m pc Ls []) :=
  own_end X hlk (fun _ => rfl) (fun fs hr => X.returnOut hx hret hd hr) hk hn hq
theorem own_retI (X : Stand p l e R s m args below meth c T locs cells slots) (hx : p.tables.exec = Jvm.exec) (hlk : meth.locks = false) {pc : Nat} {Ls : Array Slot} {z : Int32} (hret : meth.sig.returnType = some .int) (hd : decode c.code pc = .ok (.ireturn, 1))
    (hk : cells ≤ K) (hn : slots ≤ N) (hq : Q (some (.int z)) T.heap locs) : own_WP p e below (own_E s Q K N) T (mkF m pc Ls [.int z]) :=
  own_end X hlk (fun h => by rw [hret] at h; cases h) (fun fs hr => retOut X hx hret rfl (Or.inl ⟨rfl, Or.inl rfl, z, rfl⟩) hd hr) hk hn hq
theorem own_retJ (X : Stand p l e R s m args below meth c T locs cells slots) (hx : p.tables.exec = Jvm.exec) (hlk : meth.locks = false) {pc : Nat} {Ls : Array Slot} {z : Int64} (hret : meth.sig.returnType = some .long) (hd : decode c.code pc = .ok (.lreturn, 1))
    (hk : cells ≤ K) (hn : slots ≤ N) (hq : Q (some (.long z)) T.heap locs) : own_WP p e below (own_E s Q K N) T (mkF m pc Ls [.long z]) :=
  own_end X hlk (fun h => by rw [hret] at h; cases h) (fun fs hr => X.lreturnOut hx hret hd hr) hk hn hq
theorem own_retA (X : Stand p l e R s m args below meth c T locs cells slots) (hx : p.tables.exec = Jvm.exec) (hlk : meth.locks = false) {pc : Nat} {Ls : Array Slot} {w : Value} (hw : w.isRef = true) {t : FieldType} (ht : t.isReference = true) (hret : meth.sig.returnType = some t) (hd : decode c.code pc = .ok (.areturn, 1))
    (hk : cells ≤ K) (hn : slots ≤ N) (hq : Q (some w) T.heap locs) : own_WP p e below (own_E s Q K N) T (mkF m pc Ls [w]) :=
  own_end X hlk (fun h => by rw [hret] at h; cases h) (fun fs hr => X.areturnOut hx hw hret ht hd hr) hk hn hq
theorem own_retN (X : Stand p l e R s m args below meth c T locs cells slots) (hx : p.tables.exec = Jvm.exec) (hlk : meth.locks = false) {pc : Nat} {Ls : Array Slot} {z : Int32} {t : FieldType} (ht : t = .boolean ∨ t = .byte ∨ t = .char ∨ t = .short) (hret : meth.sig.returnType = some t) (hd : decode c.code pc = .ok (.ireturn, 1))
    (hk : cells ≤ K) (hn : slots ≤ N) (hq : Q (some (.int (nar t z))) T.heap locs) : own_WP p e below (own_E s Q K N) T (mkF m pc Ls [.int z]) :=
  own_end X hlk (fun h => by rw [hret] at h; cases h) (fun fs hr => retN X hx hret ht hd hr) hk hn hq
theorem own_len (X : Stand p l e R s m args below meth c T locs cells slots) (hx : p.tables.exec = Jvm.exec) (hZ : Z.Warmed39 s.vm) (eT : T.heap = h) {a : Addr} {k : ClassId} {ty : FieldType} {n : Int32} {vs : List Value} {d : Value} (V : Arv Z h a k ty n vs d)
    {pc : Nat} {Ls : Array Slot} {S : List Value} (hd : decode c.code pc = .ok (.arraylength, 1)) (kk : own_WP p e below E T (mkF m (pc + 1) Ls (.int n :: S))) : own_WP p e below E T (mkF m pc Ls (.ref a :: S)) := by
  obtain ⟨cl, A, q, S1, M, H, G⟩ := V
  refine own_go (fun t k => X.arraylength hx (by rw [eT]; exact A.1) (State.isArrayOf_alike hZ.alike A.2.1) (g := mkF m pc Ls (.ref a :: S)) rfl rfl hd t k) ?_
  rw [len_of S1 M]
  exact kk
theorem own_at {cl : Cell} {n j : Int32} {vs : List Value} {d w : Value} (S1 : cl.slots.size = n.toNatClampNeg) (H : Has cl vs d) (hj : ¬ j < 0 ∧ j < n) (hv : vs.getD j.toNatClampNeg d = w) : cl.slots[j.toNatClampNeg]? = some w :=
  H.at (inb_of S1 hj) hv
theorem own_ldI (X : Stand p l e R s m args below meth c T locs cells slots) (hx : p.tables.exec = Jvm.exec) (hZ : Z.Warmed39 s.vm) (eT : T.heap = h) {a : Addr} {k : ClassId} {n j w : Int32} {vs : List Value} {d : Value} (V : Arv Z h a k .int n vs d) (hj : ¬ j < 0 ∧ j < n) (hv : vs.getD j.toNatClampNeg d = .int w)
    {pc : Nat} {Ls : Array Slot} {S : List Value} (hd : decode c.code pc = .ok (.iaload, 1)) (kk : own_WP p e below E T (mkF m (pc + 1) Ls (.int w :: S))) : own_WP p e below E T (mkF m pc Ls (.int j :: .ref a :: S)) := by
  obtain ⟨cl, A, q, S1, M, H, G⟩ := V
  exact own_go (fun t k => X.iaload hx (j := j) (v := .int w) (by rw [eT]; exact A.1) (State.isArrayOf_alike hZ.alike A.2.1) A.2.2 (inb_of S1 hj) (own_at S1 H hj hv) (g := mkF m pc Ls (.int j :: .ref a :: S)) rfl rfl hd t k) kk
theorem own_ldJ (X : Stand p l e R s m args below meth c T locs cells slots) (hx : p.tables.exec = Jvm.exec) (hZ : Z.Warmed39 s.vm) (eT : T.heap = h) {a : Addr} {k : ClassId} {n j : Int32} {w : Int64} {vs : List Value} {d : Value} (V : Arv Z h a k .long n vs d) (hj : ¬ j < 0 ∧ j < n) (hv : vs.getD j.toNatClampNeg d = .long w)
    {pc : Nat} {Ls : Array Slot} {S : List Value} (hd : decode c.code pc = .ok (.laload, 1)) (kk : own_WP p e below E T (mkF m (pc + 1) Ls (.long w :: S))) : own_WP p e below E T (mkF m pc Ls (.int j :: .ref a :: S)) := by
  obtain ⟨cl, A, q, S1, M, H, G⟩ := V
  exact own_go (fun t k => X.laload hx (j := j) (v := .long w) (by rw [eT]; exact A.1) (State.isArrayOf_alike hZ.alike A.2.1) A.2.2 (inb_of S1 hj) (own_at S1 H hj hv) (g := mkF m pc Ls (.int j :: .ref a :: S)) rfl rfl hd t k) kk
theorem own_ldB (X : Stand p l e R s m args below meth c T locs cells slots) (hx : p.tables.exec = Jvm.exec) (hZ : Z.Warmed39 s.vm) (eT : T.heap = h) {a : Addr} {k : ClassId} {n j w : Int32} {vs : List Value} {d : Value} (V : Arv Z h a k .byte n vs d) (hj : ¬ j < 0 ∧ j < n) (hv : vs.getD j.toNatClampNeg d = .int w)
    {pc : Nat} {Ls : Array Slot} {S : List Value} (hd : decode c.code pc = .ok (.baload, 1)) (kk : own_WP p e below E T (mkF m (pc + 1) Ls (.int w :: S))) : own_WP p e below E T (mkF m pc Ls (.int j :: .ref a :: S)) := by
  obtain ⟨cl, A, q, S1, M, H, G⟩ := V
  exact own_go (fun t k => X.baloadBytes hx (j := j) (v := .int w) (by rw [eT]; exact A.1) (State.isArrayOf_alike hZ.alike A.2.1) A.2.2 (inb_of S1 hj) (own_at S1 H hj hv) (g := mkF m pc Ls (.int j :: .ref a :: S)) rfl rfl hd t k) kk
theorem own_ldR (X : Stand p l e R s m args below meth c T locs cells slots) (hx : p.tables.exec = Jvm.exec) (hZ : Z.Warmed39 s.vm) (eT : T.heap = h) {a : Addr} {k : ClassId} {ty : FieldType} (hty : ty.isReference = true) {n j : Int32} {w : Value} {vs : List Value} {d : Value} (V : Arv Z h a k ty n vs d) (hj : ¬ j < 0 ∧ j < n) (hv : vs.getD j.toNatClampNeg d = w)
    {pc : Nat} {Ls : Array Slot} {S : List Value} (hd : decode c.code pc = .ok (.aaload, 1)) (kk : own_WP p e below E T (mkF m (pc + 1) Ls (w :: S))) : own_WP p e below E T (mkF m pc Ls (.int j :: .ref a :: S)) := by
  obtain ⟨cl, A, q, S1, M, H, G⟩ := V
  exact own_go (fun t k => X.aaload hx (j := j) (v := w) (by rw [eT]; exact A.1) (State.isArrayOf_alike hZ.alike A.2.1) hty A.2.2 (inb_of S1 hj) (own_at S1 H hj hv) (g := mkF m pc Ls (.int j :: .ref a :: S)) rfl rfl hd t k) kk
theorem own_stI (X : Stand p l e R s m args below meth c T locs cells slots) (hx : p.tables.exec = Jvm.exec) (hZ : Z.Warmed39 s.vm) (eT : T.heap = h) {a : Addr} {k : ClassId} {n j x : Int32} {vs : List Value} {d : Value} (V : Arv Z h a k .int n vs d) (hj : ¬ j < 0 ∧ j < n) {i : Nat} (hji : j.toNatClampNeg = i) (hi : i < vs.length)
    {pc : Nat} {Ls : Array Slot} {S : List Value} (hd : decode c.code pc = .ok (.iastore, 1))
    (kk : ∀ T' h', Stand p l e R s m args below meth c T' (locs ++ [⟨a, j.toNatClampNeg⟩]) cells slots → T'.heap = h' → Wr h h' a j.toNatClampNeg (.int x) → Arv Z h' a k .int n (vs.set i (.int x)) d → own_WP p e below E T' (mkF m (pc + 1) Ls S)) : own_WP p e below E T (mkF m pc Ls (.int x :: .int j :: .ref a :: S)) := by
  obtain ⟨cl, A, q, S1, M, H, G⟩ := V
  obtain ⟨T', h', X', e', W', st⟩ := stI X hx hZ eT A (j := j) (inb_of S1 hj) (g := mkF m pc Ls (.int x :: .int j :: .ref a :: S)) rfl rfl hd
  exact own_go st (kk T' h' X' e' W' (Arv.set A q S1 M H G rfl W' i hji hi))
theorem own_stJ (X : Stand p l e R s m args below meth c T locs cells slots) (hx : p.tables.exec = Jvm.exec) (hZ : Z.Warmed39 s.vm) (eT : T.heap = h) {a : Addr} {k : ClassId} {n j : Int32} {x : Int64} {vs : List Value} {d : Value} (V : Arv Z h a k .long n vs d) (hj : ¬ j < 0 ∧ j < n) {i : Nat} (hji : j.toNatClampNeg = i) (hi : i < vs.length)
    {pc : Nat} {Ls : Array Slot} {S : List Value} (hd : decode c.code pc = .ok (.lastore, 1))
    (kk : ∀ T' h', Stand p l e R s m args below meth c T' (locs ++ [⟨a, j.toNatClampNeg⟩]) cells slots → T'.heap = h' → Wr h h' a j.toNatClampNeg (.long x) → Arv Z h' a k .long n (vs.set i (.long x)) d → own_WP p e below E T' (mkF m (pc + 1) Ls S)) : own_WP p e below E T (mkF m pc Ls (.long x :: .int j :: .ref a :: S)) := by
  obtain ⟨cl, A, q, S1, M, H, G⟩ := V
  obtain ⟨T', h', X', e', W', st⟩ := stJ X hx hZ eT A (j := j) (inb_of S1 hj) (g := mkF m pc Ls (.long x :: .int j :: .ref a :: S)) rfl rfl hd
  exact own_go st (kk T' h' X' e' W' (Arv.set A q S1 M H G rfl W' i hji hi))
theorem own_stB (X : Stand p l e R s m args below meth c T locs cells slots) (hx : p.tables.exec = Jvm.exec) (hZ : Z.Warmed39 s.vm) (eT : T.heap = h) {a : Addr} {k : ClassId} {n j x : Int32} {vs : List Value} {d : Value} (V : Arv Z h a k .byte n vs d) (hj : ¬ j < 0 ∧ j < n) {i : Nat} (hji : j.toNatClampNeg = i) (hi : i < vs.length)
    {pc : Nat} {Ls : Array Slot} {S : List Value} (hd : decode c.code pc = .ok (.bastore, 1))
    (kk : ∀ T' h', Stand p l e R s m args below meth c T' (locs ++ [⟨a, j.toNatClampNeg⟩]) cells slots → T'.heap = h' → Wr h h' a j.toNatClampNeg (.int (nar .byte x)) → Arv Z h' a k .byte n (vs.set i (.int (nar .byte x))) d → own_WP p e below E T' (mkF m (pc + 1) Ls S)) : own_WP p e below E T (mkF m pc Ls (.int x :: .int j :: .ref a :: S)) := by
  obtain ⟨cl, A, q, S1, M, H, G⟩ := V
  obtain ⟨T', h', X', e', W', st⟩ := stB X hx hZ eT A (j := j) (inb_of S1 hj) (g := mkF m pc Ls (.int x :: .int j :: .ref a :: S)) rfl rfl hd
  exact own_go st (kk T' h' X' e' W' (Arv.set A q S1 M H G (fits_nar_byte x) W' i hji hi))
theorem own_nm {x a : Addr} (h : x ≠ a) : x ∉ [a] := fun q => h (List.mem_singleton.mp q)
theorem own_nm0 {x : Addr} : x ∉ ([] : List Addr) := List.not_mem_nil
theorem own_nm2 {x a b : Addr} (h : x ≠ a) (h' : x ≠ b) : x ∉ [a, b] := fun q => by
  rcases List.mem_cons.mp q with r | r
  · exact h r
  · exact h' (List.mem_singleton.mp r)
theorem own_le {h0 h : Heap} {n0 : Nat} {ws : List Addr} (Z0 : n0 ≤ h0.size) (K : Keep h0 h ws) : n0 ≤ h.size := Nat.le_trans Z0 K.1
end OwnKit
open Jvm.Kit in
theorem own_mod33 (a : Int32) : 0 ≤ ((a &&& 2147483647) % 33).toInt ∧ ((a &&& 2147483647) % 33).toInt < 33 := by
  have e1 : (a &&& 2147483647).toInt = a.toInt % 2 ^ 31 := i32_mask a 2147483647 (k := 31) (by decide) (by decide)
  have e2 : ((a &&& 2147483647) % 33).toInt = (a &&& 2147483647).toInt % (33 : Int32).toInt := i32_rem_nonneg (by omega)
  have e3 : (33 : Int32).toInt = 33 := rfl
  rw [e2, e3]
  omega
open Jvm.Kit in
theorem own_words (w n : Int32) (h0 : 0 ≤ w.toInt) (h1 : w.toInt < 33) (h2 : 0 ≤ n.toInt) :
    let r := ((((w.toInt64 * n.toInt64) + (64 : Int64)) - (1 : Int64)) / (64 : Int64)).toInt32
    ¬ r.toInt64 < 0 ∧ ¬ (64 : Int64) * r.toInt64 < w.toInt64 * n.toInt64 ∧ (64 : Int64) * r.toInt64 < w.toInt64 * n.toInt64 + 64 := by
  intro r
  have h3 : n.toInt < 2147483648 := n.toInt_lt
  have b1 : 0 ≤ w.toInt * n.toInt := Int.mul_nonneg h0 h2
  have b2 : w.toInt * n.toInt ≤ 32 * 2147483647 := Int.mul_le_mul (by omega) (by omega) h2 (by omega)
  have m1 : (w.toInt64 * n.toInt64).toInt = w.toInt * n.toInt := by
    rw [i64_mul (by rw [i64_of_i32, i64_of_i32]; omega) (by rw [i64_of_i32, i64_of_i32]; omega), i64_of_i32, i64_of_i32]
  generalize hb : w.toInt * n.toInt = B at *
  have e64 : (64 : Int64).toInt = 64 := rfl
  have e1 : (1 : Int64).toInt = 1 := rfl
  have e0 : (0 : Int64).toInt = 0 := rfl
  have m2 : (w.toInt64 * n.toInt64 + 64).toInt = B + 64 := by rw [i64_add (by omega) (by omega)]; omega
  have m3 : (w.toInt64 * n.toInt64 + 64 - 1).toInt = B + 63 := by rw [i64_sub (by omega) (by omega)]; omega
  have m4 : ((w.toInt64 * n.toInt64 + 64 - 1) / 64).toInt = (B + 63) / 64 := by
    rw [i64_div (by omega), m3, e64, Int.tdiv_eq_ediv_of_nonneg (by omega)]
  have m5 : r.toInt = (B + 63) / 64 := by
    show (((w.toInt64 * n.toInt64 + 64 - 1) / 64).toInt32).toInt = _
    rw [i32_of_i64 (by omega) (by omega), m4]
  have m6 : r.toInt64.toInt = (B + 63) / 64 := by rw [i64_of_i32, m5]
  have m7 : ((64 : Int64) * r.toInt64).toInt = 64 * ((B + 63) / 64) := by
    rw [i64_mul (by rw [m6, e64]; omega) (by rw [m6, e64]; omega), m6, e64]
  refine ⟨?_, ?_, ?_⟩
  · rw [Int64.lt_iff_toInt_lt]; omega
  · rw [Int64.lt_iff_toInt_lt]; omega
  · rw [Int64.lt_iff_toInt_lt]; omega


def own_wc (w n : Int32) : Int32 := ((((w.toInt64 * n.toInt64) + (64 : Int64)) - (1 : Int64)) / (64 : Int64)).toInt32
theorem d1_0 : decode prog_23_method_3_code 0 = .ok (.iload_n 0, 1) := by decide +kernel
theorem d1_1 : decode prog_23_method_3_code 1 = .ok (.i2l, 1) := by decide +kernel
theorem d1_2 : decode prog_23_method_3_code 2 = .ok (.iload_n 1, 1) := by decide +kernel
theorem d1_3 : decode prog_23_method_3_code 3 = .ok (.i2l, 1) := by decide +kernel
theorem d1_4 : decode prog_23_method_3_code 4 = .ok (.lmul, 1) := by decide +kernel
theorem d1_5 : decode prog_23_method_3_code 5 = .ok (.ldc2_w 67, 3) := by decide +kernel
theorem d1_8 : decode prog_23_method_3_code 8 = .ok (.ladd, 1) := by decide +kernel
theorem d1_9 : decode prog_23_method_3_code 9 = .ok (.lconst 1, 1) := by decide +kernel
theorem d1_10 : decode prog_23_method_3_code 10 = .ok (.lsub, 1) := by decide +kernel
theorem d1_11 : decode prog_23_method_3_code 11 = .ok (.ldc2_w 67, 3) := by decide +kernel
theorem d1_14 : decode prog_23_method_3_code 14 = .ok (.ldiv, 1) := by decide +kernel
theorem d1_15 : decode prog_23_method_3_code 15 = .ok (.l2i, 1) := by decide +kernel
theorem d1_16 : decode prog_23_method_3_code 16 = .ok (.ireturn, 1) := by decide +kernel
theorem own_pn26658 : plainName "com/example/bijecta/bijecta/mph/PackedArray" = true := by first | (simp [plainName, overriddenIn]; done) | decide +kernel
theorem ef_1 (m : MethodId) (zw : Int32) (zn : Int32) : entryFrame m #[(.int zw), (.int zn)] 2 = mkF m 0 #[.val (.int zw), .val (.int zn)] [] := by first | (simp [entryFrame, mkF, argsToLocals, Value.category]; done) | rfl
def Q1 (Z : State) (zw : Int32) (zn : Int32) (h0 : Heap) (n0 : Nat) (v : Option Value) (h : Heap) (L : List Loc) : Prop := v = some (.int (own_wc zw zn)) ∧ Fr n0 L ∧ h = h0
set_option maxRecDepth 65536 in
set_option maxHeartbeats 40000000 in
theorem rm1 (l : Launch) (Z : State) (a0 : Array Value) (hw : ∀ d ∈ tables_1, d.before a0 Z = true) (ws : List Jvm.Cond) (zw : Int32) (zn : Int32) (h0 : Heap) (n0 : Nat) (Z0 : n0 ≤ h0.size)  :
    MetFree l (⟨"com/example/bijecta/bijecta/mph/PackedArray", "wordCount", "(II)I"⟩ : MethodName) (head1 (Jvm.Cond.code (⟨"com/example/bijecta/bijecta/mph/PackedArray", "wordCount", "(II)I"⟩ : MethodName) prog_23_method_3_code 2 (some .int) :: ws) ({ frames := 0, cells := 0, slots := 0, locals := 0 } : Room)) (fun a U => a = #[(.int zw), (.int zn)] ∧ Z.Warmed39 U.vm ∧ U.heap = h0) (fun _ _ _ _ _ => True) (fun _ U o U' => ∃ v L, o = .returned v ∧ Q1 Z zw zn h0 n0 v U'.heap L ∧ FrameEnd U o U' L ({ frames := 0, cells := 0, slots := 0, locals := 0 } : Room).cells ({ frames := 0, cells := 0, slots := 0, locals := 0 } : Room).slots) := by
  refine MetFree.of_bodySF (plainFor_of_name own_pn26658) hisR ?_
  intro p e s m args below meth c s₁ Bd hml0 hP hK
  obtain ⟨rfl, hZ, hh⟩ := hP
  have hx := Bd.exec
  have hby := Bd.bytes
  have hml : c.maxLocals = 2 := hml0
  have hown : s.vm.findClass "com/example/bijecta/bijecta/mph/PackedArray" = some m.cls := findClass_of_methodNamed Bd.named
  have hnm := (name_of_methodNamed Bd.named Bd.method).1
  have X0 : Stand p l e ({ frames := 0, cells := 0, slots := 0, locals := 0 } : Room) s m #[(.int zw), (.int zn)] below meth c s₁ [] 0 0 := Stand.of_body Bd
  have e0 : s₁.heap = h0 := by rw [← hh, Bd.state]; rfl
  have N0 := Fr.nil n0
  have K0 := Keep.refl h0 ([] : List Addr)
  show own_WP p e below (own_E s (Q1 Z zw zn h0 n0) 0 0) s₁ (entryFrame m #[(.int zw), (.int zn)] 2)
  rw [ef_1 m zw zn]
  show own_WP _ _ _ _ s₁ (mkF m 0 #[.val (.int zw), .val (.int zn)] [])
  refine own_go (fun t k => XS.iloadN X0.here hx rfl (hb hby d1_0) rfl  k) ?_
  show own_WP _ _ _ _ s₁ (mkF m 1 #[.val (.int zw), .val (.int zn)] [(.int zw)])
  refine own_go (fun t k => XS.i2l X0.here hx rfl (hb hby d1_1) rfl k) ?_
  show own_WP _ _ _ _ s₁ (mkF m 2 #[.val (.int zw), .val (.int zn)] [(.long (zw.toInt64))])
  refine own_go (fun t k => XS.iloadN X0.here hx rfl (hb hby d1_2) rfl  k) ?_
  show own_WP _ _ _ _ s₁ (mkF m 3 #[.val (.int zw), .val (.int zn)] [(.int zn), (.long (zw.toInt64))])
  refine own_go (fun t k => XS.i2l X0.here hx rfl (hb hby d1_3) rfl k) ?_
  show own_WP _ _ _ _ s₁ (mkF m 4 #[.val (.int zw), .val (.int zn)] [(.long (zn.toInt64)), (.long (zw.toInt64))])
  refine own_go (fun t k => XS.lmul X0.here hx rfl (hb hby d1_4) rfl k) ?_
  show own_WP _ _ _ _ s₁ (mkF m 5 #[.val (.int zw), .val (.int zn)] [(.long ((zw.toInt64) * (zn.toInt64)))])
  refine own_go (fun t k => X0.ldc2Long hx hown (mvT hZ (hw _ (List.mem_of_getElem? (i := 5) rfl))) (g := (mkF m 5 #[.val (.int zw), .val (.int zn)] [(.long ((zw.toInt64) * (zn.toInt64)))])) rfl (hb hby d1_5) t k) ?_
  show own_WP _ _ _ _ s₁ (mkF m 8 #[.val (.int zw), .val (.int zn)] [(.long (64 : Int64)), (.long ((zw.toInt64) * (zn.toInt64)))])
  refine own_go (fun t k => XS.ladd X0.here hx rfl (hb hby d1_8) rfl k) ?_
  show own_WP _ _ _ _ s₁ (mkF m 9 #[.val (.int zw), .val (.int zn)] [(.long (((zw.toInt64) * (zn.toInt64)) + (64 : Int64)))])
  refine own_go (fun t k => XS.lconst X0.here hx rfl (hb hby d1_9) k) ?_
  show own_WP _ _ _ _ s₁ (mkF m 10 #[.val (.int zw), .val (.int zn)] [(.long (1 : Int64)), (.long (((zw.toInt64) * (zn.toInt64)) + (64 : Int64)))])
  refine own_go (fun t k => XS.lsub X0.here hx rfl (hb hby d1_10) rfl k) ?_
  show own_WP _ _ _ _ s₁ (mkF m 11 #[.val (.int zw), .val (.int zn)] [(.long ((((zw.toInt64) * (zn.toInt64)) + (64 : Int64)) - (1 : Int64)))])
  refine own_go (fun t k => X0.ldc2Long hx hown (mvT hZ (hw _ (List.mem_of_getElem? (i := 5) rfl))) (g := (mkF m 11 #[.val (.int zw), .val (.int zn)] [(.long ((((zw.toInt64) * (zn.toInt64)) + (64 : Int64)) - (1 : Int64)))])) rfl (hb hby d1_11) t k) ?_
  show own_WP _ _ _ _ s₁ (mkF m 14 #[.val (.int zw), .val (.int zn)] [(.long (64 : Int64)), (.long ((((zw.toInt64) * (zn.toInt64)) + (64 : Int64)) - (1 : Int64)))])
  have hnz14 : ¬ ((64 : Int64) = (0 : Int64)) := by decide
  refine own_go (fun t k => XS.ldiv X0.here hx rfl (hb hby d1_14) rfl hnz14 k) ?_
  show own_WP _ _ _ _ s₁ (mkF m 15 #[.val (.int zw), .val (.int zn)] [(.long (((((zw.toInt64) * (zn.toInt64)) + (64 : Int64)) - (1 : Int64)) / (64 : Int64)))])
  refine own_go (fun t k => XS.l2i X0.here hx rfl (hb hby d1_15) rfl k) ?_
  show own_WP _ _ _ _ s₁ (mkF m 16 #[.val (.int zw), .val (.int zn)] [(.int ((((((zw.toInt64) * (zn.toInt64)) + (64 : Int64)) - (1 : Int64)) / (64 : Int64)).toInt32))])
  refine own_retI X0 hx Bd.notSynchronized Bd.returns (hb hby d1_16) (by decide) (by decide) ?_
  rw [e0]
  exact ⟨(congrArg (fun z => some (Value.int z)) (show ((((((zw.toInt64) * (zn.toInt64)) + (64 : Int64)) - (1 : Int64)) / (64 : Int64)).toInt32) = (own_wc zw zn) from by rfl)), N0, rfl⟩
theorem own_pd31088 : parseMethodDescriptor "(II)I" = some ⟨[.int, .int], some .int⟩ := by decide +kernel
theorem own_pn78116 : plainName "com/example/bijecta/bijecta/mph/PackedArrayWordCountPinLaw" = true := by first | (simp [plainName, overriddenIn]; done) | decide +kernel
theorem ef_0 (m : MethodId) (za : Int32) (zb : Int32) : entryFrame m #[(.int za), (.int zb)] maxLocals = mkF m 0 #[.val (.int za), .val (.int zb), .unset, .unset, .unset, .unset, .unset, .unset] [] := by first | (simp [entryFrame, mkF, argsToLocals, Value.category, maxLocals]; done) | rfl
def Q0 (Z : State) (za : Int32) (zb : Int32) (h0 : Heap) (n0 : Nat) (v : Option Value) (h : Heap) (L : List Loc) : Prop := v = some (.int 1) ∧ Fr n0 L
set_option maxRecDepth 65536 in
set_option maxHeartbeats 40000000 in
theorem rm0 (l : Launch) (Z : State) (a0 : Array Value) (hw : ∀ d ∈ tables_1, d.before a0 Z = true) (ws : List Jvm.Cond) (za : Int32) (zb : Int32) (h0 : Heap) (n0 : Nat) (Z0 : n0 ≤ h0.size)  :
    MetFree l x (head1 (Jvm.Cond.code x code maxLocals ret :: ws) room_1) (fun a U => a = #[(.int za), (.int zb)] ∧ Z.Warmed39 U.vm ∧ U.heap = h0) (fun _ _ _ _ _ => True) (fun _ U o U' => ∃ v L, o = .returned v ∧ Q0 Z za zb h0 n0 v U'.heap L ∧ FrameEnd U o U' L 0 0) := by
  refine MetFree.of_bodySF (plainFor_of_name own_pn78116) hisR ?_
  intro p e s m args below meth c s₁ Bd hml0 hP hK
  obtain ⟨rfl, hZ, hh⟩ := hP
  have hx := Bd.exec
  have hby := Bd.bytes
  have hml : c.maxLocals = 8 := hml0
  have hown : s.vm.findClass "com/example/bijecta/bijecta/mph/PackedArrayWordCountPinLaw" = some m.cls := findClass_of_methodNamed Bd.named
  have hnm := (name_of_methodNamed Bd.named Bd.method).1
  have X0 : Stand p l e room_1 s m #[(.int za), (.int zb)] below meth c s₁ [] 0 0 := Stand.of_body Bd
  have e0 : s₁.heap = h0 := by rw [← hh, Bd.state]; rfl
  have N0 := Fr.nil n0
  have K0 := Keep.refl h0 ([] : List Addr)
  show own_WP p e below (own_E s (Q0 Z za zb h0 n0) 0 0) s₁ (entryFrame m #[(.int za), (.int zb)] maxLocals)
  rw [ef_0 m za zb]
  show own_WP _ _ _ _ s₁ (mkF m 0 #[.val (.int za), .val (.int zb), .unset, .unset, .unset, .unset, .unset, .unset] [])
  refine own_go (fun t k => XS.iloadN X0.here hx rfl (hb hby at_0) rfl  k) ?_
  show own_WP _ _ _ _ s₁ (mkF m 1 #[.val (.int za), .val (.int zb), .unset, .unset, .unset, .unset, .unset, .unset] [(.int za)])
  refine own_go (fun t k => X0.ldcInt hx hown (mvT hZ (hw _ (List.mem_of_getElem? (i := 0) rfl))) (g := (mkF m 1 #[.val (.int za), .val (.int zb), .unset, .unset, .unset, .unset, .unset, .unset] [(.int za)])) rfl (hb hby at_1) t k) ?_
  show own_WP _ _ _ _ s₁ (mkF m 3 #[.val (.int za), .val (.int zb), .unset, .unset, .unset, .unset, .unset, .unset] [(.int (2147483647 : Int32)), (.int za)])
  refine own_go (fun t k => XS.iand X0.here hx rfl (hb hby at_3) rfl k) ?_
  show own_WP _ _ _ _ s₁ (mkF m 4 #[.val (.int za), .val (.int zb), .unset, .unset, .unset, .unset, .unset, .unset] [(.int (za &&& (2147483647 : Int32)))])
  refine own_go (fun t k => XS.bipush X0.here hx rfl (hb hby at_4) k) ?_
  show own_WP _ _ _ _ s₁ (mkF m 6 #[.val (.int za), .val (.int zb), .unset, .unset, .unset, .unset, .unset, .unset] [(.int (33 : Int32)), (.int (za &&& (2147483647 : Int32)))])
  have hnz6 : (33 : Int32) ≠ 0 := by decide
  refine own_go (fun t k => iremM X0 hx rfl (hb hby at_6) rfl hnz6 k) ?_
  show own_WP _ _ _ _ s₁ (mkF m 7 #[.val (.int za), .val (.int zb), .unset, .unset, .unset, .unset, .unset, .unset] [(.int ((za &&& (2147483647 : Int32)) % (33 : Int32)))])
  generalize d_zw : ((za &&& (2147483647 : Int32)) % (33 : Int32)) = zw
  refine own_go (fun t k => XS.istoreN X0.here hx rfl (hb hby at_7) rfl (l' := #[.val (.int za), .val (.int zb), .val (.int zw), .unset, .unset, .unset, .unset, .unset]) rfl k) ?_
  show own_WP _ _ _ _ s₁ (mkF m 8 #[.val (.int za), .val (.int zb), .val (.int zw), .unset, .unset, .unset, .unset, .unset] [])
  refine own_go (fun t k => XS.iloadN X0.here hx rfl (hb hby at_8) rfl  k) ?_
  show own_WP _ _ _ _ s₁ (mkF m 9 #[.val (.int za), .val (.int zb), .val (.int zw), .unset, .unset, .unset, .unset, .unset] [(.int zb)])
  refine own_go (fun t k => X0.ldcInt hx hown (mvT hZ (hw _ (List.mem_of_getElem? (i := 0) rfl))) (g := (mkF m 9 #[.val (.int za), .val (.int zb), .val (.int zw), .unset, .unset, .unset, .unset, .unset] [(.int zb)])) rfl (hb hby at_9) t k) ?_
  show own_WP _ _ _ _ s₁ (mkF m 11 #[.val (.int za), .val (.int zb), .val (.int zw), .unset, .unset, .unset, .unset, .unset] [(.int (2147483647 : Int32)), (.int zb)])
  refine own_go (fun t k => XS.iand X0.here hx rfl (hb hby at_11) rfl k) ?_
  show own_WP _ _ _ _ s₁ (mkF m 12 #[.val (.int za), .val (.int zb), .val (.int zw), .unset, .unset, .unset, .unset, .unset] [(.int (zb &&& (2147483647 : Int32)))])
  generalize d_zn : (zb &&& (2147483647 : Int32)) = zn
  refine own_go (fun t k => XS.istoreN X0.here hx rfl (hb hby at_12) rfl (l' := #[.val (.int za), .val (.int zb), .val (.int zw), .val (.int zn), .unset, .unset, .unset, .unset]) rfl k) ?_
  have hw1 := own_mod33 za
  rw [d_zw] at hw1
  have hn1 : 0 ≤ zn.toInt := by rw [← d_zn, Jvm.Kit.i32_mask zb 2147483647 (k := 31) (by decide) (by decide)]; omega
  have key := own_words zw zn hw1.1 hw1.2 hn1
  show own_WP _ _ _ _ s₁ (mkF m 13 #[.val (.int za), .val (.int zb), .val (.int zw), .val (.int zn), .unset, .unset, .unset, .unset] [])
  refine own_go (fun t k => XS.iloadN X0.here hx rfl (hb hby at_13) rfl  k) ?_
  show own_WP _ _ _ _ s₁ (mkF m 14 #[.val (.int za), .val (.int zb), .val (.int zw), .val (.int zn), .unset, .unset, .unset, .unset] [(.int zw)])
  refine own_go (fun t k => XS.i2l X0.here hx rfl (hb hby at_14) rfl k) ?_
  show own_WP _ _ _ _ s₁ (mkF m 15 #[.val (.int za), .val (.int zb), .val (.int zw), .val (.int zn), .unset, .unset, .unset, .unset] [(.long (zw.toInt64))])
  refine own_go (fun t k => XS.iloadN X0.here hx rfl (hb hby at_15) rfl  k) ?_
  show own_WP _ _ _ _ s₁ (mkF m 16 #[.val (.int za), .val (.int zb), .val (.int zw), .val (.int zn), .unset, .unset, .unset, .unset] [(.int zn), (.long (zw.toInt64))])
  refine own_go (fun t k => XS.i2l X0.here hx rfl (hb hby at_16) rfl k) ?_
  show own_WP _ _ _ _ s₁ (mkF m 17 #[.val (.int za), .val (.int zb), .val (.int zw), .val (.int zn), .unset, .unset, .unset, .unset] [(.long (zn.toInt64)), (.long (zw.toInt64))])
  refine own_go (fun t k => XS.lmul X0.here hx rfl (hb hby at_17) rfl k) ?_
  show own_WP _ _ _ _ s₁ (mkF m 18 #[.val (.int za), .val (.int zb), .val (.int zw), .val (.int zn), .unset, .unset, .unset, .unset] [(.long ((zw.toInt64) * (zn.toInt64)))])
  refine own_go (fun t k => XS.lstore X0.here hx rfl (hb hby at_18) rfl (l' := #[.val (.int za), .val (.int zb), .val (.int zw), .val (.int zn), .val (.long ((zw.toInt64) * (zn.toInt64))), .second, .unset, .unset]) rfl k) ?_
  show own_WP _ _ _ _ s₁ (mkF m 20 #[.val (.int za), .val (.int zb), .val (.int zw), .val (.int zn), .val (.long ((zw.toInt64) * (zn.toInt64))), .second, .unset, .unset] [])
  refine own_go (fun t k => XS.iloadN X0.here hx rfl (hb hby at_20) rfl  k) ?_
  show own_WP _ _ _ _ s₁ (mkF m 21 #[.val (.int za), .val (.int zb), .val (.int zw), .val (.int zn), .val (.long ((zw.toInt64) * (zn.toInt64))), .second, .unset, .unset] [(.int zw)])
  refine own_go (fun t k => XS.iloadN X0.here hx rfl (hb hby at_21) rfl  k) ?_
  show own_WP _ _ _ _ s₁ (mkF m 22 #[.val (.int za), .val (.int zb), .val (.int zw), .val (.int zn), .val (.long ((zw.toInt64) * (zn.toInt64))), .second, .unset, .unset] [(.int zn), (.int zw)])
  obtain ⟨_, _, ⟨T1, L1, k1, n1⟩, -, X1, ⟨Lc1, hQ1, l1, y1, z1⟩, st1⟩ := Jvm.LawKit.callS X0 hx (y := (⟨"com/example/bijecta/bijecta/mph/PackedArray", "wordCount", "(II)I"⟩ : MethodName)) hown (mvT hZ (hw _ (List.mem_of_getElem? (i := 1) rfl))) (mvT hZ (hw _ (List.mem_of_getElem? (i := 2) rfl))) (mvT hZ (hw _ (List.mem_of_getElem? (i := 3) rfl))) (mvT hZ (hw _ (List.mem_of_getElem? (i := 4) rfl))) (by decide) (backOf (W := 0) (rm1 l Z a0 hw [] zw zn  h0 n0 (own_le Z0 K0) ) hZ (hw _ (List.mem_of_getElem? (i := 4) rfl)) (hw _ (List.mem_of_getElem? (i := 3) rfl)) (by decide) (by decide)) (g := (mkF m 22 #[.val (.int za), .val (.int zb), .val (.int zw), .val (.int zn), .val (.long ((zw.toInt64) * (zn.toInt64))), .second, .unset, .unset] [(.int zn), (.int zw)])) rfl (by rw [hml]; rfl) (argsL := [(.int zw), (.int zn)]) (rest := []) (lenOf own_pd31088 rfl) rfl (by show 2 * 0 + _ ≤ _; exact Nat.le_of_eq rfl) (hb hby at_22) (fun _ _ => ⟨rfl, e0, (by decide : 0 + 0 ≤ _), (by decide : 0 + 0 ≤ _)⟩)
  dsimp only [Pt.U, Pt.locs, Pt.cells, Pt.slots] at X1 l1 y1 z1 st1 hQ1
  subst l1 y1 z1
  obtain ⟨rfl, N1q, eq1⟩ := hQ1
  have N1 := Fr.app N0 N1q
  refine own_go st1 ?_
  show own_WP _ _ _ _ T1 (mkF m 25 #[.val (.int za), .val (.int zb), .val (.int zw), .val (.int zn), .val (.long ((zw.toInt64) * (zn.toInt64))), .second, .unset, .unset] [(.int (own_wc zw zn))])
  refine own_go (fun t k => XS.i2l X1.here hx rfl (hb hby at_25) rfl k) ?_
  show own_WP _ _ _ _ T1 (mkF m 26 #[.val (.int za), .val (.int zb), .val (.int zw), .val (.int zn), .val (.long ((zw.toInt64) * (zn.toInt64))), .second, .unset, .unset] [(.long ((own_wc zw zn).toInt64))])
  refine own_go (fun t k => XS.lstore X1.here hx rfl (hb hby at_26) rfl (l' := #[.val (.int za), .val (.int zb), .val (.int zw), .val (.int zn), .val (.long ((zw.toInt64) * (zn.toInt64))), .second, .val (.long ((own_wc zw zn).toInt64)), .second]) rfl k) ?_
  show own_WP _ _ _ _ T1 (mkF m 28 #[.val (.int za), .val (.int zb), .val (.int zw), .val (.int zn), .val (.long ((zw.toInt64) * (zn.toInt64))), .second, .val (.long ((own_wc zw zn).toInt64)), .second] [])
  refine own_go (fun t k => XS.lload X1.here hx rfl (hb hby at_28) rfl  k) ?_
  show own_WP _ _ _ _ T1 (mkF m 30 #[.val (.int za), .val (.int zb), .val (.int zw), .val (.int zn), .val (.long ((zw.toInt64) * (zn.toInt64))), .second, .val (.long ((own_wc zw zn).toInt64)), .second] [(.long ((own_wc zw zn).toInt64))])
  refine own_go (fun t k => XS.lconst X1.here hx rfl (hb hby at_30) k) ?_
  show own_WP _ _ _ _ T1 (mkF m 31 #[.val (.int za), .val (.int zb), .val (.int zw), .val (.int zn), .val (.long ((zw.toInt64) * (zn.toInt64))), .second, .val (.long ((own_wc zw zn).toInt64)), .second] [(.long (0 : Int64)), (.long ((own_wc zw zn).toInt64))])
  refine own_go (fun t k => XS.lcmp X1.here hx rfl (hb hby at_31) rfl k) ?_
  show own_WP _ _ _ _ T1 (mkF m 32 #[.val (.int za), .val (.int zb), .val (.int zw), .val (.int zn), .val (.long ((zw.toInt64) * (zn.toInt64))), .second, .val (.long ((own_wc zw zn).toInt64)), .second] [(.int (lcmpW ((own_wc zw zn).toInt64) (0 : Int64)))])
  have hc32 : ¬ (((own_wc zw zn).toInt64) < (0 : Int64)) := by
    exact key.1
  refine own_go (fun t k => XS.ifNo X1.here hx rfl (hb hby at_32) rfl ((if0 _ _).trans (flt (fun z => hc32 ((lw_lt ((own_wc zw zn).toInt64) (0 : Int64)).mp z))).1) k) ?_
  show own_WP _ _ _ _ T1 (mkF m 35 #[.val (.int za), .val (.int zb), .val (.int zw), .val (.int zn), .val (.long ((zw.toInt64) * (zn.toInt64))), .second, .val (.long ((own_wc zw zn).toInt64)), .second] [])
  refine own_go (fun t k => X1.ldc2Long hx hown (mvT hZ (hw _ (List.mem_of_getElem? (i := 6) rfl))) (g := (mkF m 35 #[.val (.int za), .val (.int zb), .val (.int zw), .val (.int zn), .val (.long ((zw.toInt64) * (zn.toInt64))), .second, .val (.long ((own_wc zw zn).toInt64)), .second] [])) rfl (hb hby at_35) t k) ?_
  show own_WP _ _ _ _ T1 (mkF m 38 #[.val (.int za), .val (.int zb), .val (.int zw), .val (.int zn), .val (.long ((zw.toInt64) * (zn.toInt64))), .second, .val (.long ((own_wc zw zn).toInt64)), .second] [(.long (64 : Int64))])
  refine own_go (fun t k => XS.lload X1.here hx rfl (hb hby at_38) rfl  k) ?_
  show own_WP _ _ _ _ T1 (mkF m 40 #[.val (.int za), .val (.int zb), .val (.int zw), .val (.int zn), .val (.long ((zw.toInt64) * (zn.toInt64))), .second, .val (.long ((own_wc zw zn).toInt64)), .second] [(.long ((own_wc zw zn).toInt64)), (.long (64 : Int64))])
  refine own_go (fun t k => XS.lmul X1.here hx rfl (hb hby at_40) rfl k) ?_
  show own_WP _ _ _ _ T1 (mkF m 41 #[.val (.int za), .val (.int zb), .val (.int zw), .val (.int zn), .val (.long ((zw.toInt64) * (zn.toInt64))), .second, .val (.long ((own_wc zw zn).toInt64)), .second] [(.long ((64 : Int64) * ((own_wc zw zn).toInt64)))])
  refine own_go (fun t k => XS.lload X1.here hx rfl (hb hby at_41) rfl  k) ?_
  show own_WP _ _ _ _ T1 (mkF m 43 #[.val (.int za), .val (.int zb), .val (.int zw), .val (.int zn), .val (.long ((zw.toInt64) * (zn.toInt64))), .second, .val (.long ((own_wc zw zn).toInt64)), .second] [(.long ((zw.toInt64) * (zn.toInt64))), (.long ((64 : Int64) * ((own_wc zw zn).toInt64)))])
  refine own_go (fun t k => XS.lcmp X1.here hx rfl (hb hby at_43) rfl k) ?_
  show own_WP _ _ _ _ T1 (mkF m 44 #[.val (.int za), .val (.int zb), .val (.int zw), .val (.int zn), .val (.long ((zw.toInt64) * (zn.toInt64))), .second, .val (.long ((own_wc zw zn).toInt64)), .second] [(.int (lcmpW ((64 : Int64) * ((own_wc zw zn).toInt64)) ((zw.toInt64) * (zn.toInt64))))])
  have hc44 : ¬ (((64 : Int64) * ((own_wc zw zn).toInt64)) < ((zw.toInt64) * (zn.toInt64))) := by
    exact key.2.1
  refine own_go (fun t k => XS.ifNo X1.here hx rfl (hb hby at_44) rfl ((if0 _ _).trans (flt (fun z => hc44 ((lw_lt ((64 : Int64) * ((own_wc zw zn).toInt64)) ((zw.toInt64) * (zn.toInt64))).mp z))).1) k) ?_
  show own_WP _ _ _ _ T1 (mkF m 47 #[.val (.int za), .val (.int zb), .val (.int zw), .val (.int zn), .val (.long ((zw.toInt64) * (zn.toInt64))), .second, .val (.long ((own_wc zw zn).toInt64)), .second] [])
  refine own_go (fun t k => X1.ldc2Long hx hown (mvT hZ (hw _ (List.mem_of_getElem? (i := 6) rfl))) (g := (mkF m 47 #[.val (.int za), .val (.int zb), .val (.int zw), .val (.int zn), .val (.long ((zw.toInt64) * (zn.toInt64))), .second, .val (.long ((own_wc zw zn).toInt64)), .second] [])) rfl (hb hby at_47) t k) ?_
  show own_WP _ _ _ _ T1 (mkF m 50 #[.val (.int za), .val (.int zb), .val (.int zw), .val (.int zn), .val (.long ((zw.toInt64) * (zn.toInt64))), .second, .val (.long ((own_wc zw zn).toInt64)), .second] [(.long (64 : Int64))])
  refine own_go (fun t k => XS.lload X1.here hx rfl (hb hby at_50) rfl  k) ?_
  show own_WP _ _ _ _ T1 (mkF m 52 #[.val (.int za), .val (.int zb), .val (.int zw), .val (.int zn), .val (.long ((zw.toInt64) * (zn.toInt64))), .second, .val (.long ((own_wc zw zn).toInt64)), .second] [(.long ((own_wc zw zn).toInt64)), (.long (64 : Int64))])
  refine own_go (fun t k => XS.lmul X1.here hx rfl (hb hby at_52) rfl k) ?_
  show own_WP _ _ _ _ T1 (mkF m 53 #[.val (.int za), .val (.int zb), .val (.int zw), .val (.int zn), .val (.long ((zw.toInt64) * (zn.toInt64))), .second, .val (.long ((own_wc zw zn).toInt64)), .second] [(.long ((64 : Int64) * ((own_wc zw zn).toInt64)))])
  refine own_go (fun t k => XS.lload X1.here hx rfl (hb hby at_53) rfl  k) ?_
  show own_WP _ _ _ _ T1 (mkF m 55 #[.val (.int za), .val (.int zb), .val (.int zw), .val (.int zn), .val (.long ((zw.toInt64) * (zn.toInt64))), .second, .val (.long ((own_wc zw zn).toInt64)), .second] [(.long ((zw.toInt64) * (zn.toInt64))), (.long ((64 : Int64) * ((own_wc zw zn).toInt64)))])
  refine own_go (fun t k => X1.ldc2Long hx hown (mvT hZ (hw _ (List.mem_of_getElem? (i := 6) rfl))) (g := (mkF m 55 #[.val (.int za), .val (.int zb), .val (.int zw), .val (.int zn), .val (.long ((zw.toInt64) * (zn.toInt64))), .second, .val (.long ((own_wc zw zn).toInt64)), .second] [(.long ((zw.toInt64) * (zn.toInt64))), (.long ((64 : Int64) * ((own_wc zw zn).toInt64)))])) rfl (hb hby at_55) t k) ?_
  show own_WP _ _ _ _ T1 (mkF m 58 #[.val (.int za), .val (.int zb), .val (.int zw), .val (.int zn), .val (.long ((zw.toInt64) * (zn.toInt64))), .second, .val (.long ((own_wc zw zn).toInt64)), .second] [(.long (64 : Int64)), (.long ((zw.toInt64) * (zn.toInt64))), (.long ((64 : Int64) * ((own_wc zw zn).toInt64)))])
  refine own_go (fun t k => XS.ladd X1.here hx rfl (hb hby at_58) rfl k) ?_
  show own_WP _ _ _ _ T1 (mkF m 59 #[.val (.int za), .val (.int zb), .val (.int zw), .val (.int zn), .val (.long ((zw.toInt64) * (zn.toInt64))), .second, .val (.long ((own_wc zw zn).toInt64)), .second] [(.long (((zw.toInt64) * (zn.toInt64)) + (64 : Int64))), (.long ((64 : Int64) * ((own_wc zw zn).toInt64)))])
  refine own_go (fun t k => XS.lcmp X1.here hx rfl (hb hby at_59) rfl k) ?_
  show own_WP _ _ _ _ T1 (mkF m 60 #[.val (.int za), .val (.int zb), .val (.int zw), .val (.int zn), .val (.long ((zw.toInt64) * (zn.toInt64))), .second, .val (.long ((own_wc zw zn).toInt64)), .second] [(.int (lcmpW ((64 : Int64) * ((own_wc zw zn).toInt64)) (((zw.toInt64) * (zn.toInt64)) + (64 : Int64))))])
  have hc60 : ((64 : Int64) * ((own_wc zw zn).toInt64)) < (((zw.toInt64) * (zn.toInt64)) + (64 : Int64)) := by
    exact key.2.2
  refine own_go (fun t k => XS.ifNo X1.here hx rfl (hb hby at_60) rfl ((if0 _ _).trans (tlt ((lw_lt ((64 : Int64) * ((own_wc zw zn).toInt64)) (((zw.toInt64) * (zn.toInt64)) + (64 : Int64))).mpr hc60)).2.1) k) ?_
  show own_WP _ _ _ _ T1 (mkF m 63 #[.val (.int za), .val (.int zb), .val (.int zw), .val (.int zn), .val (.long ((zw.toInt64) * (zn.toInt64))), .second, .val (.long ((own_wc zw zn).toInt64)), .second] [])
  refine own_go (fun t k => XS.iconst X1.here hx rfl (hb hby at_63) k) ?_
  show own_WP _ _ _ _ T1 (mkF m 64 #[.val (.int za), .val (.int zb), .val (.int zw), .val (.int zn), .val (.long ((zw.toInt64) * (zn.toInt64))), .second, .val (.long ((own_wc zw zn).toInt64)), .second] [(.int (1 : Int32))])
  refine own_go (fun t k => XS.goto X1.here hx rfl (pc0 := 64) (pc' := 68) rfl (hb hby at_64) (by decide) (by decide) k) ?_
  show own_WP _ _ _ _ T1 (mkF m 68 #[.val (.int za), .val (.int zb), .val (.int zw), .val (.int zn), .val (.long ((zw.toInt64) * (zn.toInt64))), .second, .val (.long ((own_wc zw zn).toInt64)), .second] [(.int (1 : Int32))])
  refine own_retN X1 hx Bd.notSynchronized (t := .boolean) (by simp) Bd.returns (hb hby at_68) (by decide) (by decide) ?_
  rw [eq1]
  exact ⟨rfl, N1⟩
set_option maxRecDepth 65536 in
set_option maxHeartbeats 40000000 in
theorem comes_1 {Post : Tables → Env → Array Value → State → Outcome → State → Prop} (hpost : ∀ tb e args s v u, (limb_1_1.after args s (.returned v) u = true ∧ limb_1_2.after args s (.returned v) u = true ∧ True) → FrameEnd s (.returned v) u (Jvm.fieldLocs frame_1_writes args s ++ Jvm.arrayLocs frame_1_arrays args s ++ Jvm.staticLocs frame_1_statics s) 0 0 → Post tb e args s (.returned v) u) :
    ArmFor flags0 classFile x code maxLocals ret World_1 tables_1 room_1 Calls_1 rest_1 Pre_1 Post := by
  intro l hfl _ _ p e ha hc hk s m args below hf hA hF happ hP
  obtain ⟨hcalls, hrest, hpre⟩ := hP
  obtain ⟨-, -, -, hnamed, -, -, -, hat⟩ := (Spec.applies_iff hf).mp happ
  obtain ⟨hg, hn⟩ := and_e (Cond.before_iff.mp (show (Jvm.Cond.and given_1 narrow_1).before args s = true from hpre))
  obtain ⟨u0, v0⟩ := and_e hg
  obtain ⟨u1, v1⟩ := and_e v0
  obtain ⟨w0, w1, rfl⟩ : ∃ w0 w1 : Value, args = #[w0, w1] := by
    have hs : args.size = 2 := by simpa [Cond.value, given_1] using u0
    obtain ⟨L⟩ := args
    match L, hs with
    | [w0, w1], _ => exact ⟨w0, w1, rfl⟩
  have hw := fun d (hd : d ∈ tables_1) => atoms_spec (ws := Jvm.Cond.code x code maxLocals ret :: tables_1) hat d (List.mem_cons_of_mem _ hd)
  obtain ⟨i0, ei0⟩ := is_v u1
  obtain rfl : w0 = (.int i0) := Option.some.inj ei0
  obtain ⟨i1, ei1⟩ := is_v v1
  obtain rfl : w1 = (.int i1) := Option.some.inj ei1
  obtain ⟨n, o, h1, h2, h3, _, L, rfl, ⟨rfl, N⟩, hq⟩ := rm0 l s _ hw tables_1 i0 i1  s.heap s.heap.size (Nat.le_refl _)  p e ha hc hk s m _ below hf ((Spec.applies_iff_loose hf).mp happ).1 ⟨rfl, State.Warmed39.refl s, rfl⟩ trivial
  refine ⟨n, _, h1, h2, h3, hpost _ _ _ _ _ _ ⟨Cond.after_iff.mpr rfl, Cond.after_iff.mpr (eq_i res_at (Term.int_eval (1)) rfl), trivial⟩ ⟨hq.1, hq.2.1, (hq.2.2.sift fun y hy => Or.inr (N y hy)).mono (by decide) (by decide)⟩⟩
theorem main_1_1 : Claimed_1_1 := comes_1 fun _ _ _ _ _ _ h hF => ⟨h.1, hF⟩
theorem main_1_2 : Claimed_1_2 := comes_1 fun _ _ _ _ _ _ h hF => ⟨h.2.1, hF⟩
end Jvm.Pilot.@@N@@
namespace Jvm.Pilot.@@N@@
open Jvm Jvm.ClassFile Sem Op Lib Jvm.Free Jvm.Stand Jvm.Pilot.@@N@@.Jvm.D
/-! MADE BY PROGRAM (witnessworld.py) out of the Statement's table words and the real class files: 9 classes; the members and pool entries that the words name. The judged class is class 1, her method 1. -/
namespace start1
open Jvm.ClassFile
def u (s : String) : CpInfo := .utf8 (stringToUtf16 s)
/-- a pool by its gaps: so many unusable entries, then the entry; so many at the end -/
def gap : Nat → List CpInfo → List CpInfo
  | 0, r => r
  | n + 1, r => .unusable :: gap n r
def poolList (es : List (Nat × CpInfo)) (last : Nat) : List CpInfo := es.foldr (fun e r => gap e.1 (e.2 :: r)) (gap last [])
def pool (es : List (Nat × CpInfo)) (last : Nat) : Array CpInfo := ⟨poolList es last⟩
def fileOf (pool : Array CpInfo) (this : Nat) (attrs : Array Attribute := #[]) (ms : Array MethodInfo := #[]) (fl : Nat := 33) (sup : Nat := 0) (ifs : Array Nat := #[]) (fds : Array FieldInfo := #[]) : ClassFile where
  minorVersion := 0
  majorVersion := 65
  constantPool := pool
  accessFlags := fl
  thisClass := this
  superClass := sup
  interfaces := ifs
  fields := fds
  methods := ms
  attributes := attrs
def plain (name : String) (sup : Option ClassId) : Class where
  name := name
  kind := .ordinary
  loader := none
  accessFlags := 33
  super := sup
  interfaces := #[]
  cf := none
  fields := #[]
  methods := #[]
  instanceTypes := #[]
  staticTypes := #[]
  resolved := #[]
  callSites := []
  init := .initialized
  statics := none
  mirror := none

def pool0 : Array CpInfo := pool [(5, u "<init>"), (0, u "()V"), (1, .class_ 10), (1, u "java/lang/Object")] 113

def k0m0 : Method := { name := "<init>", desc := "()V", sig := { parameters := [], returnType := none }, accessFlags := 1, code := none }
/-- java/lang/Object -/
def k0 : Class := { plain "java/lang/Object" none with
  accessFlags := 33
  interfaces := #[]
  cf := some (fileOf pool0 8 #[] #[{ accessFlags := 1, nameIndex := 5, descriptorIndex := 6, attributes := #[] }] 33 0 #[] #[])
  fields := #[]
  methods := #[k0m0]
  instanceTypes := #[]
  staticTypes := #[]
  resolved := Array.replicate 124 none
  statics := none }

def pool1 : Array CpInfo := pool [(2, .class_ 4), (1, u "java/lang/Object"), (0, u "<init>"), (0, u "()V"), (0, .integer 2147483647), (0, .methodref 9 10), (0, .class_ 11), (0, .nameAndType 12 13), (0, u "com/example/bijecta/bijecta/mph/PackedArray"), (0, u "wordCount"), (0, u "(II)I"), (0, .long 64), (1, .class_ 17), (0, u "com/example/bijecta/bijecta/mph/PackedArrayWordCountPinLaw"), (2, u "law"), (0, u "(II)Z")] 3

def k1m0 : Method := { name := "<init>", desc := "()V", sig := { parameters := [], returnType := none }, accessFlags := 1, code := none }
def k1c1 : Code := { maxStack := 6, maxLocals := 8, code := code, exceptionTable := #[], attributes := #[] }
def k1m1 : Method := { name := "law", desc := "(II)Z", sig := { parameters := [.int, .int], returnType := some .boolean }, accessFlags := 9, code := some k1c1 }
/-- com/example/bijecta/bijecta/mph/PackedArrayWordCountPinLaw -/
def k1 : Class := { plain "com/example/bijecta/bijecta/mph/PackedArrayWordCountPinLaw" (some 0) with
  accessFlags := 49
  interfaces := #[]
  cf := some (fileOf pool1 16 #[] #[{ accessFlags := 1, nameIndex := 5, descriptorIndex := 6, attributes := #[] }, { accessFlags := 9, nameIndex := 20, descriptorIndex := 21, attributes := #[] }] 49 2 #[] #[])
  fields := #[]
  methods := #[k1m0, k1m1]
  instanceTypes := #[]
  staticTypes := #[]
  resolved := Array.replicate 25 none
  statics := none }

def pool2 : Array CpInfo := pool [(2, .class_ 4), (1, u "java/lang/Object"), (2, .class_ 8), (0, u "com/example/bijecta/bijecta/mph/PackedArray"), (11, u "wordCount"), (0, u "(II)I"), (11, u "words"), (0, u "[J"), (2, u "width"), (0, u "I"), (2, u "length"), (2, u "mask"), (0, u "J"), (21, .long 64), (1, u "MAX_WIDTH")] 34

def k2c0 : Code := { maxStack := 4, maxLocals := 2, code := prog_23_method_3_code, exceptionTable := #[], attributes := #[] }
def k2m0 : Method := { name := "wordCount", desc := "(II)I", sig := { parameters := [.int, .int], returnType := some .int }, accessFlags := 9, code := some k2c0 }
/-- com/example/bijecta/bijecta/mph/PackedArray -/
def k2 : Class := { plain "com/example/bijecta/bijecta/mph/PackedArray" (some 0) with
  accessFlags := 49
  interfaces := #[]
  cf := some (fileOf pool2 7 #[] #[{ accessFlags := 9, nameIndex := 20, descriptorIndex := 21, attributes := #[] }] 49 2 #[] #[{ accessFlags := 25, nameIndex := 69, descriptorIndex := 38, attributes := #[] }, { accessFlags := 18, nameIndex := 33, descriptorIndex := 34, attributes := #[] }, { accessFlags := 18, nameIndex := 37, descriptorIndex := 38, attributes := #[] }, { accessFlags := 18, nameIndex := 41, descriptorIndex := 38, attributes := #[] }, { accessFlags := 18, nameIndex := 44, descriptorIndex := 45, attributes := #[] }])
  fields := #[{ name := "MAX_WIDTH", type := .int, accessFlags := 25, slot := 0, constantValue := 0 }, { name := "words", type := (.array .long), accessFlags := 18, slot := 0, constantValue := 0 }, { name := "width", type := .int, accessFlags := 18, slot := 1, constantValue := 0 }, { name := "length", type := .int, accessFlags := 18, slot := 2, constantValue := 0 }, { name := "mask", type := .long, accessFlags := 18, slot := 3, constantValue := 0 }]
  methods := #[k2m0]
  instanceTypes := #[(.array .long), .int, .int, .long]
  staticTypes := #[.int]
  resolved := Array.replicate 104 none
  statics := none }

def pool3 : Array CpInfo := pool [(1, u "java/lang/Cloneable"), (0, .class_ 1), (0, u "java/lang/Object"), (0, .class_ 3)] 3

/-- java/lang/Cloneable -/
def k3 : Class := { plain "java/lang/Cloneable" (some 0) with
  accessFlags := 1537
  interfaces := #[]
  cf := some (fileOf pool3 2 #[] #[] 1537 4 #[] #[])
  fields := #[]
  methods := #[]
  instanceTypes := #[]
  staticTypes := #[]
  resolved := Array.replicate 8 none
  statics := none }

def pool4 : Array CpInfo := pool [(1, u "java/io/Serializable"), (0, .class_ 1), (0, u "java/lang/Object"), (0, .class_ 3)] 3

/-- java/io/Serializable -/
def k4 : Class := { plain "java/io/Serializable" (some 0) with
  accessFlags := 1537
  interfaces := #[]
  cf := some (fileOf pool4 2 #[] #[] 1537 4 #[] #[])
  fields := #[]
  methods := #[]
  instanceTypes := #[]
  staticTypes := #[]
  resolved := Array.replicate 8 none
  statics := none }

/-- the primitive byte -/
def k5 : Class := { plain "byte" none with kind := .primitive 'B', accessFlags := 0x411 }
/-- [B -/
def k6 : Class := { plain "[B" (some 0) with kind := .array 5 .byte, interfaces := #[3, 4], accessFlags := 1041 }

/-- the primitive int -/
def k7 : Class := { plain "int" none with kind := .primitive 'I', accessFlags := 0x411 }
/-- [I -/
def k8 : Class := { plain "[I" (some 0) with kind := .array 7 .int, interfaces := #[3, 4], accessFlags := 1041 }

def heap : Heap := #[]
def classes : Array Class := #[k0, k1, k2, k3, k4, k5, k6, k7, k8]
def interned : List (Array UInt16 × Addr) := []
def slotsUsed : Nat := 0
def theMethod : MethodId := ⟨1, 1⟩
def args0 : Array Value := #[.int 5, .int 9]
def aboutOver (below : List Frame) : State where
  vm := { classes := classes, interned := interned.toArray }
  heap := heap
  slotsUsed := slotsUsed
  threads := #[{ frames := .invoking theMethod args0 :: below }]
def below0 : List Frame := [.native { method := ⟨0, 0⟩, args := #[] }]
def about1 : State := aboutOver below0
def p0 : Program := .bare "" "" ""
def e0 : Env := launch0.env 0 0 0
theorem w_frames : about1.frames = Frame.invoking theMethod args0 :: below0 := rfl
set_option maxRecDepth 65536 in
theorem w_args : argsFit about1.vm theMethod args0 = true := by decide +kernel
set_option maxRecDepth 65536 in
theorem w_heap : heapFits about1 = true := by decide +kernel
set_option maxRecDepth 65536 in
theorem w_runnable : about1.curStatus? = some .runnable := by decide +kernel
set_option maxRecDepth 65536 in
theorem w_alone : about1.alone = true := by decide +kernel
set_option maxRecDepth 65536 in
theorem w_named : about1.methodNamed? x = some theMethod := by decide +kernel
set_option maxRecDepth 65536 in
theorem w_hears : about1.hears theMethod below0 = true := by decide +kernel
set_option maxRecDepth 65536 in
theorem w_ripe : about1.ripe theMethod args0 below0 = true := by decide +kernel
theorem w_running : about1.status = .running := rfl
set_option maxRecDepth 65536 in
theorem w_room : about1.hasRoom e0.platform room_1 = true :=
  launch0.hasRoom_least _ room_1 (by decide +kernel) (by decide +kernel) (by decide +kernel) (by decide +kernel) (by decide +kernel) (by decide +kernel)
theorem allAtoms_all (ts : List Jvm.Cond) (a : Array Jvm.Value) (st : Jvm.State) : (allAtoms ts).before a st = ts.all (fun c => c.before a st) := by
  induction ts with
  | nil => rfl
  | cons c t ih =>
    show (Jvm.Cond.and c (allAtoms t)).before a st = _
    rw [Jvm.Cond.before_and, ih, List.all_cons]
def words1 : List Jvm.Cond := Jvm.Cond.code x code maxLocals ret :: tables_1
/-- a 'code' word, met by the world's own term for the bytes: nothing is compared byte by byte -/
theorem code_word {y : MethodName} {bytes : ByteArray} {mx : Nat} {rt : Option FieldType} {a : Array Value} {s : State} {m : MethodId} {meth : Method} {c : Code} (h1 : s.methodNamed? y = some m) (h2 : s.vm.method? m = some meth) (h3 : meth.code = some c) (h4 : c.code = bytes)
    (h5 : (c.maxLocals == mx && c.exceptionTable.isEmpty && decide (c.maxStack ≤ mostOperands) && decide (meth.sig.returnType = rt) && !meth.locks && decide (parseMethodDescriptor y.desc = some meth.sig)) = true) : (Jvm.Cond.code y bytes mx rt).before a s = true := by
  simp only [Bool.and_eq_true, beq_iff_eq, Bool.not_eq_true', decide_eq_true_eq] at h5
  obtain ⟨⟨⟨⟨⟨g1, g2⟩, g3⟩, g4⟩, g5⟩, g6⟩ := h5
  simp [Cond.before, Cond.holds, Cond.value, h1, h2, h3, h4, g1, g2, g3, g4, g5, g6]
def isCode : Jvm.Cond → Bool
  | .code _ _ _ _ => true
  | _ => false
theorem all_split {L : List Jvm.Cond} {P : Jvm.Cond → Bool} (h1 : L.all (fun c => isCode c || P c) = true) (h2 : ∀ c ∈ L.filter isCode, P c = true) : L.all P = true := by
  refine List.all_eq_true.mpr fun c hc => ?_
  have h := List.all_eq_true.mp h1 c hc
  rcases Bool.eq_false_or_eq_true (isCode c) with hi | hi
  · exact h2 c (List.mem_filter.mpr ⟨hc, hi⟩)
  · simpa [hi] using h
set_option maxRecDepth 65536 in
theorem w_c0 : (Jvm.Cond.code x code maxLocals ret).before args0 about1 = true := code_word (m := ⟨1, 1⟩) (meth := k1m1) (c := k1c1) (by decide +kernel) rfl rfl rfl (by decide +kernel)
set_option maxRecDepth 65536 in
theorem w_c1 : (Jvm.Cond.code ({ cls := "com/example/bijecta/bijecta/mph/PackedArray", name := "wordCount", desc := "(II)I" } : Jvm.MethodName) prog_23_method_3_code (2 : Nat) (Option.some Jvm.ClassFile.FieldType.int)).before args0 about1 = true := code_word (m := ⟨2, 0⟩) (meth := k2m0) (c := k2c0) (by decide +kernel) rfl rfl rfl (by decide +kernel)
def codes1 : List Jvm.Cond := [Jvm.Cond.code x code maxLocals ret, Jvm.Cond.code ({ cls := "com/example/bijecta/bijecta/mph/PackedArray", name := "wordCount", desc := "(II)I" } : Jvm.MethodName) prog_23_method_3_code (2 : Nat) (Option.some Jvm.ClassFile.FieldType.int)]
set_option maxRecDepth 65536 in
theorem codes_eq : words1.filter isCode = codes1 := rfl
theorem w_codes : ∀ c ∈ words1.filter isCode, c.before args0 about1 = true := by
  rw [codes_eq]
  intro c hc
  simp only [codes1, List.mem_cons, List.not_mem_nil, or_false] at hc
  rcases hc with rfl | rfl
  · exact w_c0
  · exact w_c1
set_option maxRecDepth 65536 in
theorem w_t1 : words1.all (fun c => isCode c || c.before args0 about1) = true := by decide +kernel
theorem w_tables : (allAtoms (Jvm.Cond.code x code maxLocals ret :: tables_1)).before args0 about1 = true := by
  rw [allAtoms_all]
  show words1.all (fun c => c.before args0 about1) = true
  refine all_split ?_ w_codes
  rw [w_t1]
set_option maxRecDepth 65536 in
theorem w_case : (Jvm.Cond.and given_1 narrow_1).before args0 about1 = true := by decide +kernel
theorem w_applies : (headSpec (Jvm.Cond.code x code maxLocals ret :: tables_1) room_1).applies x e0.platform about1 = true :=
  (Spec.applies_iff w_frames).mpr ⟨w_running, w_runnable, w_alone, w_named, w_hears, w_ripe, w_room, w_tables⟩
theorem atStart : AtStart classFile x code maxLocals ret World_1 tables_1 room_1 Calls_1 rest_1 Pre_1 launch0 p0 e0 about1 theMethod args0 below0 :=
  ⟨lists_1, trivial, launch0.admits_env _ _ _, launch0.least_env, fairChoices_fair.cas, fairChoices_fair.clock, w_frames, w_args, w_heap, w_applies, trivial, trivial, w_case⟩
end start1
theorem witness_1 : WitnessClaimed_1 := ⟨start1.p0, start1.e0, start1.about1, start1.theMethod, start1.args0, start1.below0, start1.atStart⟩
end Jvm.Pilot.@@N@@
