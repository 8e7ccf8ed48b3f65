import JvmDerived
import JvmDerived.Pilot.@@N@@Statement
import JvmDerived.Pilot.@@N@@Code
set_option linter.unusedVariables false
set_option linter.unusedSimpArgs false
@@BLOCK:NumsL.lean.txt@@
namespace Jvm.Pilot.@@N@@
open Jvm Jvm.ClassFile Sem Op Lib Jvm.Free Jvm.Stand Jvm.LawKit Jvm.RoadKit Bundle Jvm.Pilot.@@N@@.Jvm.D
section OwnKit
variable {p : Program} {l : Launch} {e : Env} {R : Room} {s : State} {m : MethodId} {args : Array Value} {below : List Frame} {meth : Method} {c : Code} {T T' : State} {locs : List Loc} {cells slots : Nat} {Z : State} {h : Heap} {a0 : Array Value}
/-- from the state T with the frame g on top the method comes to its end, and what it leaves meets E -/
def own_WP (p : Program) (e : Env) (below : List Frame) (E : Outcome → State → Prop) (T : State) (g : JFrame) : Prop :=
  ∃ s₂ o, Steps p.tables e below (T.setTop g) s₂ ∧ s₂.status = .running ∧ Ended s₂ below o ∧ E o s₂
/-- it returns, and what it leaves meets Q within K cells and N slots -/
def own_E (s : State) (Q : Option Value → Heap → List Loc → Prop) (K N : Nat) (o : Outcome) (t : State) : Prop := ∃ v L, o = .returned v ∧ Q v t.heap L ∧ FrameEnd s o t L K N
variable {Q : Option Value → Heap → List Loc → Prop} {K N : Nat} {g g' : JFrame} {E : Outcome → State → Prop}
theorem own_go (h : ∀ t, Steps p.tables e below (T'.setTop g') t → Steps p.tables e below (T.setTop g) t) (k : own_WP p e below E T' g') : own_WP p e below E T g := by
  obtain ⟨s₂, o, h1, h2⟩ := k
  exact ⟨s₂, o, h s₂ h1, h2⟩
theorem own_tr (h : Steps p.tables e below (T.setTop g) (T'.setTop g')) (k : own_WP p e below E T' g') : own_WP p e below E T g := by
  obtain ⟨s₂, o, h1, h2⟩ := k
  exact ⟨s₂, o, h.trans h1, h2⟩
theorem own_end (X : Stand p l e R s m args below meth c T locs cells slots) (hlk : meth.locks = false) {v : Option Value} (hv : meth.sig.returnType = none → v = none)
    (hs : ∀ fs, (∀ (f : JFrame) (acts : List Action), f.method = m → f.locked = none → f.entered = [] → (doReturn e (T.setTop f) acts v).1 = T.setFrames fs) → Steps p.tables e below (T.setTop g) (T.setFrames fs))
    (hk : cells ≤ K) (hn : slots ≤ N) (hq : Q v T.heap locs) : own_WP p e below (own_E s Q K N) T g := by
  obtain ⟨fs, hr, hrun, hended, hW, hsame⟩ := X.leave hv hlk
  exact ⟨_, _, hs fs hr, hrun, hended, _, _, rfl, hq, ⟨_, rfl⟩, hW, hsame.mono hk hn⟩
theorem own_retV (X : Stand p l e R s m args below meth c T locs cells slots) (hx : p.tables.exec = Jvm.exec) (hlk : meth.locks = false) {pc : Nat} {Ls : Array Slot} (hret : meth.sig.returnType = none) (hd : decode c.code pc = .ok (.return_, 1))
    (hk : cells ≤ K) (hn : slots ≤ N) (hq : Q none T.heap locs) : own_WP p e below (own_E s Q K N) T (mkF m pc Ls []) :=
  own_end X hlk (fun _ => rfl) (fun fs hr => X.returnOut hx hret hd hr) hk hn hq
theorem own_retI (X : Stand p l e R s m args below meth c T locs cells slots) (hx : p.tables.exec = Jvm.exec) (hlk : meth.locks = false) {pc : Nat} {Ls : Array Slot} {z : Int32} (hret : meth.sig.returnType = some .int) (hd : decode c.code pc = .ok (.ireturn, 1))
    (hk : cells ≤ K) (hn : slots ≤ N) (hq : Q (some (.int z)) T.heap locs) : own_WP p e below (own_E s Q K N) T (mkF m pc Ls [.int z]) :=
  own_end X hlk (fun h => by rw [hret] at h; cases h) (fun fs hr => retOut X hx hret rfl (Or.inl ⟨rfl, Or.inl rfl, z, rfl⟩) hd hr) hk hn hq
theorem own_retJ (X : Stand p l e R s m args below meth c T locs cells slots) (hx : p.tables.exec = Jvm.exec) (hlk : meth.locks = false) {pc : Nat} {Ls : Array Slot} {z : Int64} (hret : meth.sig.returnType = some .long) (hd : decode c.code pc = .ok (.lreturn, 1))
    (hk : cells ≤ K) (hn : slots ≤ N) (hq : Q (some (.long z)) T.heap locs) : own_WP p e below (own_E s Q K N) T (mkF m pc Ls [.long z]) :=
  own_end X hlk (fun h => by rw [hret] at h; cases h) (fun fs hr => X.lreturnOut hx hret hd hr) hk hn hq
theorem own_retA (X : Stand p l e R s m args below meth c T locs cells slots) (hx : p.tables.exec = Jvm.exec) (hlk : meth.locks = false) {pc : Nat} {Ls : Array Slot} {w : Value} (hw : w.isRef = true) {t : FieldType} (ht : t.isReference = true) (hret : meth.sig.returnType = some t) (hd : decode c.code pc = .ok (.areturn, 1))
    (hk : cells ≤ K) (hn : slots ≤ N) (hq : Q (some w) T.heap locs) : own_WP p e below (own_E s Q K N) T (mkF m pc Ls [w]) :=
  own_end X hlk (fun h => by rw [hret] at h; cases h) (fun fs hr => X.areturnOut hx hw hret ht hd hr) hk hn hq
theorem own_retN (X : Stand p l e R s m args below meth c T locs cells slots) (hx : p.tables.exec = Jvm.exec) (hlk : meth.locks = false) {pc : Nat} {Ls : Array Slot} {z : Int32} {t : FieldType} (ht : t = .boolean ∨ t = .byte ∨ t = .char ∨ t = .short) (hret : meth.sig.returnType = some t) (hd : decode c.code pc = .ok (.ireturn, 1))
    (hk : cells ≤ K) (hn : slots ≤ N) (hq : Q (some (.int (nar t z))) T.heap locs) : own_WP p e below (own_E s Q K N) T (mkF m pc Ls [.int z]) :=
  own_end X hlk (fun h => by rw [hret] at h; cases h) (fun fs hr => retN X hx hret ht hd hr) hk hn hq
theorem own_len (X : Stand p l e R s m args below meth c T locs cells slots) (hx : p.tables.exec = Jvm.exec) (hZ : Z.Warmed39 s.vm) (eT : T.heap = h) {a : Addr} {k : ClassId} {ty : FieldType} {n : Int32} {vs : List Value} {d : Value} (V : Arv Z h a k ty n vs d)
    {pc : Nat} {Ls : Array Slot} {S : List Value} (hd : decode c.code pc = .ok (.arraylength, 1)) (kk : own_WP p e below E T (mkF m (pc + 1) Ls (.int n :: S))) : own_WP p e below E T (mkF m pc Ls (.ref a :: S)) := by
  obtain ⟨cl, A, q, S1, M, H, G⟩ := V
  refine own_go (fun t k => X.arraylength hx (by rw [eT]; exact A.1) (State.isArrayOf_alike hZ.alike A.2.1) (g := mkF m pc Ls (.ref a :: S)) rfl rfl hd t k) ?_
  rw [len_of S1 M]
  exact kk
theorem own_at {cl : Cell} {n j : Int32} {vs : List Value} {d w : Value} (S1 : cl.slots.size = n.toNatClampNeg) (H : Has cl vs d) (hj : ¬ j < 0 ∧ j < n) (hv : vs.getD j.toNatClampNeg d = w) : cl.slots[j.toNatClampNeg]? = some w :=
  H.at (inb_of S1 hj) hv
theorem own_ldI (X : Stand p l e R s m args below meth c T locs cells slots) (hx : p.tables.exec = Jvm.exec) (hZ : Z.Warmed39 s.vm) (eT : T.heap = h) {a : Addr} {k : ClassId} {n j w : Int32} {vs : List Value} {d : Value} (V : Arv Z h a k .int n vs d) (hj : ¬ j < 0 ∧ j < n) (hv : vs.getD j.toNatClampNeg d = .int w)
    {pc : Nat} {Ls : Array Slot} {S : List Value} (hd : decode c.code pc = .ok (.iaload, 1)) (kk : own_WP p e below E T (mkF m (pc + 1) Ls (.int w :: S))) : own_WP p e below E T (mkF m pc Ls (.int j :: .ref a :: S)) := by
  obtain ⟨cl, A, q, S1, M, H, G⟩ := V
  exact own_go (fun t k => X.iaload hx (j := j) (v := .int w) (by rw [eT]; exact A.1) (State.isArrayOf_alike hZ.alike A.2.1) A.2.2 (inb_of S1 hj) (own_at S1 H hj hv) (g := mkF m pc Ls (.int j :: .ref a :: S)) rfl rfl hd t k) kk
theorem own_ldJ (X : Stand p l e R s m args below meth c T locs cells slots) (hx : p.tables.exec = Jvm.exec) (hZ : Z.Warmed39 s.vm) (eT : T.heap = h) {a : Addr} {k : ClassId} {n j : Int32} {w : Int64} {vs : List Value} {d : Value} (V : Arv Z h a k .long n vs d) (hj : ¬ j < 0 ∧ j < n) (hv : vs.getD j.toNatClampNeg d = .long w)
    {pc : Nat} {Ls : Array Slot} {S : List Value} (hd : decode c.code pc = .ok (.laload, 1)) (kk : own_WP p e below E T (mkF m (pc + 1) Ls (.long w :: S))) : own_WP p e below E T (mkF m pc Ls (.int j :: .ref a :: S)) := by
  obtain ⟨cl, A, q, S1, M, H, G⟩ := V
  exact own_go (fun t k => X.laload hx (j := j) (v := .long w) (by rw [eT]; exact A.1) (State.isArrayOf_alike hZ.alike A.2.1) A.2.2 (inb_of S1 hj) (own_at S1 H hj hv) (g := mkF m pc Ls (.int j :: .ref a :: S)) rfl rfl hd t k) kk
theorem own_ldB (X : Stand p l e R s m args below meth c T locs cells slots) (hx : p.tables.exec = Jvm.exec) (hZ : Z.Warmed39 s.vm) (eT : T.heap = h) {a : Addr} {k : ClassId} {n j w : Int32} {vs : List Value} {d : Value} (V : Arv Z h a k .byte n vs d) (hj : ¬ j < 0 ∧ j < n) (hv : vs.getD j.toNatClampNeg d = .int w)
    {pc : Nat} {Ls : Array Slot} {S : List Value} (hd : decode c.code pc = .ok (.baload, 1)) (kk : own_WP p e below E T (mkF m (pc + 1) Ls (.int w :: S))) : own_WP p e below E T (mkF m pc Ls (.int j :: .ref a :: S)) := by
  obtain ⟨cl, A, q, S1, M, H, G⟩ := V
  exact own_go (fun t k => X.baloadBytes hx (j := j) (v := .int w) (by rw [eT]; exact A.1) (State.isArrayOf_alike hZ.alike A.2.1) A.2.2 (inb_of S1 hj) (own_at S1 H hj hv) (g := mkF m pc Ls (.int j :: .ref a :: S)) rfl rfl hd t k) kk
theorem own_ldR (X : Stand p l e R s m args below meth c T locs cells slots) (hx : p.tables.exec = Jvm.exec) (hZ : Z.Warmed39 s.vm) (eT : T.heap = h) {a : Addr} {k : ClassId} {ty : FieldType} (hty : ty.isReference = true) {n j : Int32} {w : Value} {vs : List Value} {d : Value} (V : Arv Z h a k ty n vs d) (hj : ¬ j < 0 ∧ j < n) (hv : vs.getD j.toNatClampNeg d = w)
    {pc : Nat} {Ls : Array Slot} {S : List Value} (hd : decode c.code pc = .ok (.aaload, 1)) (kk : own_WP p e below E T (mkF m (pc + 1) Ls (w :: S))) : own_WP p e below E T (mkF m pc Ls (.int j :: .ref a :: S)) := by
  obtain ⟨cl, A, q, S1, M, H, G⟩ := V
  exact own_go (fun t k => X.aaload hx (j := j) (v := w) (by rw [eT]; exact A.1) (State.isArrayOf_alike hZ.alike A.2.1) hty A.2.2 (inb_of S1 hj) (own_at S1 H hj hv) (g := mkF m pc Ls (.int j :: .ref a :: S)) rfl rfl hd t k) kk
theorem own_stI (X : Stand p l e R s m args below meth c T locs cells slots) (hx : p.tables.exec = Jvm.exec) (hZ : Z.Warmed39 s.vm) (eT : T.heap = h) {a : Addr} {k : ClassId} {n j x : Int32} {vs : List Value} {d : Value} (V : Arv Z h a k .int n vs d) (hj : ¬ j < 0 ∧ j < n) {i : Nat} (hji : j.toNatClampNeg = i) (hi : i < vs.length)
    {pc : Nat} {Ls : Array Slot} {S : List Value} (hd : decode c.code pc = .ok (.iastore, 1))
    (kk : ∀ T' h', Stand p l e R s m args below meth c T' (locs ++ [⟨a, j.toNatClampNeg⟩]) cells slots → T'.heap = h' → Wr h h' a j.toNatClampNeg (.int x) → Arv Z h' a k .int n (vs.set i (.int x)) d → own_WP p e below E T' (mkF m (pc + 1) Ls S)) : own_WP p e below E T (mkF m pc Ls (.int x :: .int j :: .ref a :: S)) := by
  obtain ⟨cl, A, q, S1, M, H, G⟩ := V
  obtain ⟨T', h', X', e', W', st⟩ := stI X hx hZ eT A (j := j) (inb_of S1 hj) (g := mkF m pc Ls (.int x :: .int j :: .ref a :: S)) rfl rfl hd
  exact own_go st (kk T' h' X' e' W' (Arv.set A q S1 M H G rfl W' i hji hi))
theorem own_stJ (X : Stand p l e R s m args below meth c T locs cells slots) (hx : p.tables.exec = Jvm.exec) (hZ : Z.Warmed39 s.vm) (eT : T.heap = h) {a : Addr} {k : ClassId} {n j : Int32} {x : Int64} {vs : List Value} {d : Value} (V : Arv Z h a k .long n vs d) (hj : ¬ j < 0 ∧ j < n) {i : Nat} (hji : j.toNatClampNeg = i) (hi : i < vs.length)
    {pc : Nat} {Ls : Array Slot} {S : List Value} (hd : decode c.code pc = .ok (.lastore, 1))
    (kk : ∀ T' h', Stand p l e R s m args below meth c T' (locs ++ [⟨a, j.toNatClampNeg⟩]) cells slots → T'.heap = h' → Wr h h' a j.toNatClampNeg (.long x) → Arv Z h' a k .long n (vs.set i (.long x)) d → own_WP p e below E T' (mkF m (pc + 1) Ls S)) : own_WP p e below E T (mkF m pc Ls (.long x :: .int j :: .ref a :: S)) := by
  obtain ⟨cl, A, q, S1, M, H, G⟩ := V
  obtain ⟨T', h', X', e', W', st⟩ := stJ X hx hZ eT A (j := j) (inb_of S1 hj) (g := mkF m pc Ls (.long x :: .int j :: .ref a :: S)) rfl rfl hd
  exact own_go st (kk T' h' X' e' W' (Arv.set A q S1 M H G rfl W' i hji hi))
theorem own_stB (X : Stand p l e R s m args below meth c T locs cells slots) (hx : p.tables.exec = Jvm.exec) (hZ : Z.Warmed39 s.vm) (eT : T.heap = h) {a : Addr} {k : ClassId} {n j x : Int32} {vs : List Value} {d : Value} (V : Arv Z h a k .byte n vs d) (hj : ¬ j < 0 ∧ j < n) {i : Nat} (hji : j.toNatClampNeg = i) (hi : i < vs.length)
    {pc : Nat} {Ls : Array Slot} {S : List Value} (hd : decode c.code pc = .ok (.bastore, 1))
    (kk : ∀ T' h', Stand p l e R s m args below meth c T' (locs ++ [⟨a, j.toNatClampNeg⟩]) cells slots → T'.heap = h' → Wr h h' a j.toNatClampNeg (.int (nar .byte x)) → Arv Z h' a k .byte n (vs.set i (.int (nar .byte x))) d → own_WP p e below E T' (mkF m (pc + 1) Ls S)) : own_WP p e below E T (mkF m pc Ls (.int x :: .int j :: .ref a :: S)) := by
  obtain ⟨cl, A, q, S1, M, H, G⟩ := V
  obtain ⟨T', h', X', e', W', st⟩ := stB X hx hZ eT A (j := j) (inb_of S1 hj) (g := mkF m pc Ls (.int x :: .int j :: .ref a :: S)) rfl rfl hd
  exact own_go st (kk T' h' X' e' W' (Arv.set A q S1 M H G (fits_nar_byte x) W' i hji hi))
theorem own_nm {x a : Addr} (h : x ≠ a) : x ∉ [a] := fun q => h (List.mem_singleton.mp q)
theorem own_nm0 {x : Addr} : x ∉ ([] : List Addr) := List.not_mem_nil
theorem own_nm2 {x a b : Addr} (h : x ≠ a) (h' : x ≠ b) : x ∉ [a, b] := fun q => by
  rcases List.mem_cons.mp q with r | r
  · exact h r
  · exact h' (List.mem_singleton.mp r)
theorem own_le {h0 h : Heap} {n0 : Nat} {ws : List Addr} (Z0 : n0 ≤ h0.size) (K : Keep h0 h ws) : n0 ≤ h.size := Nat.le_trans Z0 K.1
end OwnKit

def own_ic (t : Int32) : Int32 := if (t &&& (32 : Int32)) = 0 then 0 else 1
theorem own_fin (b : Nat) (y : Int32) (h0 : 0 ≤ y.toInt) (h1 : y.toInt < b) : ∃ n : Fin b, y = Int32.ofNat n.1 := by
  have h2 : y.toInt < 2147483648 := y.toInt_lt
  refine ⟨⟨y.toInt.toNat, by omega⟩, ?_⟩
  apply Int32.toInt_inj.mp
  rw [Int32.toInt_ofNat_of_lt (by show y.toInt.toNat < 2 ^ 31; omega)]
  show y.toInt = (y.toInt.toNat : Int)
  omega
theorem own_k1 : ∀ n : Fin 32, own_ic ((128 : Int32) ||| Int32.ofNat n.1) = 0 ∧ ¬ own_ic ((160 : Int32) ||| Int32.ofNat n.1) = 0 := by decide +kernel
theorem own_kk (z : Int32) : own_ic ((128 : Int32) ||| (z &&& 31)) = 0 ∧ ¬ own_ic ((160 : Int32) ||| (z &&& 31)) = 0 := by
  have e : (z &&& 31).toInt = z.toInt % 2 ^ 5 := Jvm.Kit.i32_mask z 31 (k := 5) (by decide) (by decide)
  obtain ⟨n, q⟩ := own_fin 32 (z &&& 31) (by omega) (by omega)
  rw [q]
  exact own_k1 n
theorem own_c1 (z : Int32) : own_ic ((128 : Int32) ||| (z &&& 31)) = 0 := (own_kk z).1
theorem own_c2 (z : Int32) : ¬ own_ic ((160 : Int32) ||| (z &&& 31)) = 0 := (own_kk z).2
theorem own_b5 (t : Int32) : (t &&& (32 : Int32)) = 0 ↔ ¬ (((t.toUInt32 >>> ((5 : Int32) &&& 31).toUInt32).toInt32) &&& 1) = 1 := by
  have r : ((t.toUInt32 >>> ((5 : Int32) &&& 31).toUInt32).toInt32).toBitVec = t.toBitVec >>> 5 := by
    show ((t.toUInt32 >>> _).toBitVec) = _
    rw [UInt32.toBitVec_shiftRight]
    rfl
  rw [← Int32.toBitVec_inj, ← Int32.toBitVec_inj, Int32.toBitVec_and, Int32.toBitVec_and, r]
  show t.toBitVec &&& 32#32 = 0#32 ↔ ¬ (t.toBitVec >>> 5) &&& 1#32 = 1#32
  have k1 : ∀ n : Fin 32, (32#32).getLsbD n.1 = decide (n.1 = 5) := by decide
  have k2 : ∀ n : Fin 32, (1#32).getLsbD n.1 = decide (n.1 = 0) := by decide
  cases hb : t.toBitVec.getLsbD 5
  · have e1 : t.toBitVec &&& 32#32 = 0#32 := by
      apply BitVec.eq_of_getLsbD_eq
      intro i hi
      rw [BitVec.getLsbD_and, k1 ⟨i, hi⟩]
      by_cases c : i = 5
      · subst c; rw [hb]; rfl
      · simp [c]
    have e2 : ¬ (t.toBitVec >>> 5) &&& 1#32 = 1#32 := fun h => by
      have q := congrArg (fun v => BitVec.getLsbD v 0) h
      simp [BitVec.getLsbD_and, BitVec.getLsbD_ushiftRight] at q
      rw [BitVec.getLsbD_eq_getElem (by decide)] at hb
      rw [hb] at q; cases q
    exact ⟨fun _ => e2, fun _ => e1⟩
  · have e1 : ¬ t.toBitVec &&& 32#32 = 0#32 := fun h => by
      have q := congrArg (fun v => BitVec.getLsbD v 5) h
      rw [BitVec.getLsbD_and, hb] at q
      revert q; decide
    have e2 : (t.toBitVec >>> 5) &&& 1#32 = 1#32 := by
      apply BitVec.eq_of_getLsbD_eq
      intro i hi
      rw [BitVec.getLsbD_and, k2 ⟨i, hi⟩, BitVec.getLsbD_ushiftRight]
      by_cases c : i = 0
      · subst c; rw [show 5 + 0 = 5 from rfl, hb]; rfl
      · simp [c]
    exact ⟨fun h => absurd h e1, fun h => absurd e2 h⟩
theorem own_ics (t : Int32) : own_ic t = if (((t.toUInt32 >>> ((5 : Int32) &&& 31).toUInt32).toInt32) &&& 1) = 1 then 1 else 0 := by
  unfold own_ic
  by_cases h : (t &&& (32 : Int32)) = 0
  · rw [if_pos h, if_neg ((own_b5 t).mp h)]
  · rw [if_neg h]
    by_cases q : (((t.toUInt32 >>> ((5 : Int32) &&& 31).toUInt32).toInt32) &&& 1) = 1
    · rw [if_pos q]
    · exact absurd ((own_b5 t).mpr q) h
theorem d3_0 : decode jdk_22_method_1_code 0 = .ok (.aload_n 0, 1) := by decide +kernel
theorem d3_1 : decode jdk_22_method_1_code 1 = .ok (.invokespecial 1, 3) := by decide +kernel
theorem d3_4 : decode jdk_22_method_1_code 4 = .ok (.return_, 1) := by decide +kernel
theorem own_pn62436 : plainName "java/util/AbstractCollection" = true := by first | (simp [plainName, overriddenIn]; done) | decide +kernel
theorem ef_3 (m : MethodId) (zo : Addr) : entryFrame m #[(.ref zo)] 1 = mkF m 0 #[.val (.ref zo)] [] := by first | (simp [entryFrame, mkF, argsToLocals, Value.category]; done) | rfl
def Q3 (Z : State) (zo : Addr) (h0 : Heap) (n0 : Nat) (v : Option Value) (h : Heap) (L : List Loc) : Prop := v = none ∧ Fr n0 L ∧ h = h0
set_option maxRecDepth 65536 in
set_option maxHeartbeats 40000000 in
theorem rm3 (l : Launch) (Z : State) (a0 : Array Value) (hw : ∀ d ∈ tables_1, d.before a0 Z = true) (ws : List Jvm.Cond) (zo : Addr) (h0 : Heap) (n0 : Nat) (Z0 : n0 ≤ h0.size)  :
    MetFree l (⟨"java/util/AbstractCollection", "<init>", "()V"⟩ : MethodName) (head1 (Jvm.Cond.code (⟨"java/util/AbstractCollection", "<init>", "()V"⟩ : MethodName) jdk_22_method_1_code 1 none :: ws) ({ frames := 1, cells := 0, slots := 0, locals := 12 } : Room)) (fun a U => a = #[(.ref zo)] ∧ Z.Warmed39 U.vm ∧ U.heap = h0) (fun _ _ _ _ _ => True) (fun _ U o U' => ∃ v L, o = .returned v ∧ Q3 Z zo h0 n0 v U'.heap L ∧ FrameEnd U o U' L ({ frames := 1, cells := 0, slots := 0, locals := 12 } : Room).cells ({ frames := 1, cells := 0, slots := 0, locals := 12 } : Room).slots) := by
  refine MetFree.of_bodySF (plainFor_of_name own_pn62436) hisR ?_
  intro p e s m args below meth c s₁ Bd hml0 hP hK
  obtain ⟨rfl, hZ, hh⟩ := hP
  have hx := Bd.exec
  have hby := Bd.bytes
  have hml : c.maxLocals = 1 := hml0
  have hown : s.vm.findClass "java/util/AbstractCollection" = some m.cls := findClass_of_methodNamed Bd.named
  have hnm := (name_of_methodNamed Bd.named Bd.method).1
  have X0 : Stand p l e ({ frames := 1, cells := 0, slots := 0, locals := 12 } : Room) s m #[(.ref zo)] below meth c s₁ [] 0 0 := Stand.of_body Bd
  have e0 : s₁.heap = h0 := by rw [← hh, Bd.state]; rfl
  have N0 := Fr.nil n0
  have K0 := Keep.refl h0 ([] : List Addr)
  show own_WP p e below (own_E s (Q3 Z zo h0 n0) 0 0) s₁ (entryFrame m #[(.ref zo)] 1)
  rw [ef_3 m zo]
  show own_WP _ _ _ _ s₁ (mkF m 0 #[.val (.ref zo)] [])
  refine own_go (fun t k => XS.aloadN X0.here hx rfl (hb hby d3_0) rfl rfl  k) ?_
  show own_WP _ _ _ _ s₁ (mkF m 1 #[.val (.ref zo)] [(.ref zo)])
  obtain ⟨T1, X1, e1, st1⟩ := initO X0 hx hZ hown (hw _ (List.mem_of_getElem? (i := 19) rfl)) (hw _ (List.mem_of_getElem? (i := 20) rfl)) (hw _ (List.mem_of_getElem? (i := 21) rfl)) e0 (g := (mkF m 1 #[.val (.ref zo)] [(.ref zo)])) rfl (by rw [hml]; rfl) rfl (hb hby d3_1) (by decide) (W := 0) (by show 2 * 0 + _ ≤ _; exact Nat.le_of_eq rfl) (by decide)
  refine own_go st1 ?_
  show own_WP _ _ _ _ T1 (mkF m 4 #[.val (.ref zo)] [])
  refine own_retV X1 hx Bd.notSynchronized Bd.returns (hb hby d3_4) (by decide) (by decide) ?_
  rw [e1]
  exact ⟨rfl, N0, rfl⟩
theorem own_pd91897 : parseMethodDescriptor "()V" = some ⟨[], none⟩ := by decide +kernel
theorem d2_0 : decode jdk_39_method_1_code 0 = .ok (.aload_n 0, 1) := by decide +kernel
theorem d2_1 : decode jdk_39_method_1_code 1 = .ok (.invokespecial 1, 3) := by decide +kernel
theorem d2_4 : decode jdk_39_method_1_code 4 = .ok (.aload_n 0, 1) := by decide +kernel
theorem d2_5 : decode jdk_39_method_1_code 5 = .ok (.iconst 0, 1) := by decide +kernel
theorem d2_6 : decode jdk_39_method_1_code 6 = .ok (.putfield 7, 3) := by decide +kernel
theorem d2_9 : decode jdk_39_method_1_code 9 = .ok (.return_, 1) := by decide +kernel
theorem own_pn97556 : plainName "java/util/AbstractList" = true := by first | (simp [plainName, overriddenIn]; done) | decide +kernel
theorem ef_2 (m : MethodId) (zo : Addr) : entryFrame m #[(.ref zo)] 1 = mkF m 0 #[.val (.ref zo)] [] := by first | (simp [entryFrame, mkF, argsToLocals, Value.category]; done) | rfl
def Q2 (Z : State) (zo : Addr) (u0 : Value) (u1 : Value) (h0 : Heap) (n0 : Nat) (v : Option Value) (h : Heap) (L : List Loc) : Prop := v = none ∧ Fr n0 L ∧ Keep h0 h [zo] ∧ Exa Z h zo "java/util/ArrayList" ∧ Fld Z h zo "java/util/ArrayList" "elementData" "[Ljava/lang/Object;" u1
set_option maxRecDepth 65536 in
set_option maxHeartbeats 40000000 in
theorem rm2 (l : Launch) (Z : State) (a0 : Array Value) (hw : ∀ d ∈ tables_1, d.before a0 Z = true) (ws : List Jvm.Cond) (zo : Addr) (u0 : Value) (u1 : Value) (h0 : Heap) (n0 : Nat) (Z0 : n0 ≤ h0.size) (P0 : Exa Z h0 zo "java/util/ArrayList") (P1 : Fld Z h0 zo "java/util/AbstractList" "modCount" "I" u0) (P2 : Fld Z h0 zo "java/util/ArrayList" "elementData" "[Ljava/lang/Object;" u1) (g_zo : n0 ≤ zo) :
    MetFree l (⟨"java/util/AbstractList", "<init>", "()V"⟩ : MethodName) (head1 (Jvm.Cond.code (⟨"java/util/AbstractList", "<init>", "()V"⟩ : MethodName) jdk_39_method_1_code 1 none :: ws) ({ frames := 2, cells := 0, slots := 0, locals := 24 } : Room)) (fun a U => a = #[(.ref zo)] ∧ Z.Warmed39 U.vm ∧ U.heap = h0) (fun _ _ _ _ _ => True) (fun _ U o U' => ∃ v L, o = .returned v ∧ Q2 Z zo u0 u1 h0 n0 v U'.heap L ∧ FrameEnd U o U' L ({ frames := 2, cells := 0, slots := 0, locals := 24 } : Room).cells ({ frames := 2, cells := 0, slots := 0, locals := 24 } : Room).slots) := by
  refine MetFree.of_bodySF (plainFor_of_name own_pn97556) hisR ?_
  intro p e s m args below meth c s₁ Bd hml0 hP hK
  obtain ⟨rfl, hZ, hh⟩ := hP
  have hx := Bd.exec
  have hby := Bd.bytes
  have hml : c.maxLocals = 1 := hml0
  have hown : s.vm.findClass "java/util/AbstractList" = some m.cls := findClass_of_methodNamed Bd.named
  have hnm := (name_of_methodNamed Bd.named Bd.method).1
  have X0 : Stand p l e ({ frames := 2, cells := 0, slots := 0, locals := 24 } : Room) s m #[(.ref zo)] below meth c s₁ [] 0 0 := Stand.of_body Bd
  have e0 : s₁.heap = h0 := by rw [← hh, Bd.state]; rfl
  have N0 := Fr.nil n0
  have K0 := Keep.refl h0 [zo]
  show own_WP p e below (own_E s (Q2 Z zo u0 u1 h0 n0) 0 0) s₁ (entryFrame m #[(.ref zo)] 1)
  rw [ef_2 m zo]
  show own_WP _ _ _ _ s₁ (mkF m 0 #[.val (.ref zo)] [])
  refine own_go (fun t k => XS.aloadN X0.here hx rfl (hb hby d2_0) rfl rfl  k) ?_
  show own_WP _ _ _ _ s₁ (mkF m 1 #[.val (.ref zo)] [(.ref zo)])
  obtain ⟨_, _, ⟨T1, L1, k1, n1⟩, -, X1, ⟨Lc1, hQ1, l1, y1, z1⟩, st1⟩ := X0.specialBack hx (y := (⟨"java/util/AbstractCollection", "<init>", "()V"⟩ : MethodName)) rfl hown (mvT hZ (hw _ (List.mem_of_getElem? (i := 13) rfl))) (mvT hZ (hw _ (List.mem_of_getElem? (i := 14) rfl))) (mvT hZ (hw _ (List.mem_of_getElem? (i := 18) rfl))) (by decide) (backOf (W := 0) (rm3 l Z a0 hw [] zo  h0 n0 (own_le Z0 K0) ) hZ (hw _ (List.mem_of_getElem? (i := 18) rfl)) (hw _ (List.mem_of_getElem? (i := 17) rfl)) (by decide) (by decide)) (g := (mkF m 1 #[.val (.ref zo)] [(.ref zo)])) rfl (by rw [hml]; rfl) (Steps.refl _) (a := zo) (argsL := []) (rest := []) (lenOf own_pd91897 rfl) rfl (by show 2 * 0 + _ ≤ _; exact Nat.le_of_eq rfl) (hb hby d2_1) (fun _ _ => ⟨rfl, e0, (by decide : 0 + 0 ≤ _), (by decide : 0 + 0 ≤ _)⟩)
  dsimp only [Pt.U, Pt.locs, Pt.cells, Pt.slots] at X1 l1 y1 z1 st1 hQ1
  subst l1 y1 z1
  obtain ⟨rfl, N1q, eq1⟩ := hQ1
  have N1 := Fr.app N0 N1q
  refine own_tr st1 ?_
  show own_WP _ _ _ _ T1 (mkF m 4 #[.val (.ref zo)] [])
  refine own_go (fun t k => XS.aloadN X1.here hx rfl (hb hby d2_4) rfl rfl  k) ?_
  show own_WP _ _ _ _ T1 (mkF m 5 #[.val (.ref zo)] [(.ref zo)])
  refine own_go (fun t k => XS.iconst X1.here hx rfl (hb hby d2_5) k) ?_
  show own_WP _ _ _ _ T1 (mkF m 6 #[.val (.ref zo)] [(.int (0 : Int32)), (.ref zo)])
  obtain ⟨T2, h2, X2, e2, W2, st2⟩ := putF X1 hx hZ hown (host := "") (Or.inl (hw _ (List.mem_of_getElem? (i := 22) rfl))) Via.refl eq1 P1 P0 (Or.inl (hw _ (List.mem_of_getElem? (i := 23) rfl))) (hw _ (List.mem_of_getElem? (i := 2) rfl)) (ty := .int) (by decide) rfl rfl (g := (mkF m 6 #[.val (.ref zo)] [(.int (0 : Int32)), (.ref zo)])) rfl rfl (hb hby d2_6)
  refine own_go st2 ?_
  have f3 : Fld Z h2 zo "java/util/AbstractList" "modCount" "I" (.int (0 : Int32)) := P1.same W2
  have f4 : Exa Z h2 zo "java/util/ArrayList" := P0.wr W2
  have f6 : Fld Z h2 zo "java/util/ArrayList" "elementData" "[Ljava/lang/Object;" u1 := P2.other W2 (Or.inr (slot_ne (Or.inl (hw _ (List.mem_of_getElem? (i := 26) rfl))) (Or.inl (hw _ (List.mem_of_getElem? (i := 23) rfl))) (by decide) (t := (.array (.object "java/lang/Object"))) (t' := .int) (by decide) (by decide)))
  have K7 : Keep h0 h2 [zo] := K0.wr W2 (Or.inl (List.mem_of_getElem? (i := 0) rfl))
  have N8 := Fr.snoc X2 N1 g_zo
  show own_WP _ _ _ _ T2 (mkF m 9 #[.val (.ref zo)] [])
  refine own_retV X2 hx Bd.notSynchronized Bd.returns (hb hby d2_9) (by decide) (by decide) ?_
  rw [e2]
  exact ⟨rfl, N8, K7, f4, f6⟩
theorem d1_0 : decode jdk_38_method_2_code 0 = .ok (.aload_n 0, 1) := by decide +kernel
theorem d1_1 : decode jdk_38_method_2_code 1 = .ok (.invokespecial 1, 3) := by decide +kernel
theorem d1_4 : decode jdk_38_method_2_code 4 = .ok (.aload_n 0, 1) := by decide +kernel
theorem d1_5 : decode jdk_38_method_2_code 5 = .ok (.getstatic 39, 3) := by decide +kernel
theorem d1_8 : decode jdk_38_method_2_code 8 = .ok (.putfield 9, 3) := by decide +kernel
theorem d1_11 : decode jdk_38_method_2_code 11 = .ok (.return_, 1) := by decide +kernel
theorem own_pn81707 : plainName "java/util/ArrayList" = true := by first | (simp [plainName, overriddenIn]; done) | decide +kernel
theorem ef_1 (m : MethodId) (zo : Addr) : entryFrame m #[(.ref zo)] 1 = mkF m 0 #[.val (.ref zo)] [] := by first | (simp [entryFrame, mkF, argsToLocals, Value.category]; done) | rfl
def Q1 (Z : State) (zo : Addr) (u0 : Value) (u1 : Value) (zE : Addr) (h0 : Heap) (n0 : Nat) (v : Option Value) (h : Heap) (L : List Loc) : Prop := v = none ∧ Fr n0 L ∧ Keep h0 h [zo] ∧ Exa Z h zo "java/util/ArrayList"
set_option maxRecDepth 65536 in
set_option maxHeartbeats 40000000 in
theorem rm1 (l : Launch) (Z : State) (a0 : Array Value) (hw : ∀ d ∈ tables_1, d.before a0 Z = true) (ws : List Jvm.Cond) (zo : Addr) (u0 : Value) (u1 : Value) (zE : Addr) (h0 : Heap) (n0 : Nat) (Z0 : n0 ≤ h0.size) (P0 : Exa Z h0 zo "java/util/ArrayList") (P1 : Fld Z h0 zo "java/util/AbstractList" "modCount" "I" u0) (P2 : Fld Z h0 zo "java/util/ArrayList" "elementData" "[Ljava/lang/Object;" u1) (P3 : Old Z n0 h0) (P4 : Sta Z Z.heap "java/util/ArrayList" "DEFAULTCAPACITY_EMPTY_ELEMENTDATA" "[Ljava/lang/Object;" (.ref zE)) (g_zo : n0 ≤ zo) :
    MetFree l (⟨"java/util/ArrayList", "<init>", "()V"⟩ : MethodName) (head1 (Jvm.Cond.code (⟨"java/util/ArrayList", "<init>", "()V"⟩ : MethodName) jdk_38_method_2_code 1 none :: ws) ({ frames := 3, cells := 0, slots := 0, locals := 36 } : Room)) (fun a U => a = #[(.ref zo)] ∧ Z.Warmed39 U.vm ∧ U.heap = h0) (fun _ _ _ _ _ => True) (fun _ U o U' => ∃ v L, o = .returned v ∧ Q1 Z zo u0 u1 zE h0 n0 v U'.heap L ∧ FrameEnd U o U' L ({ frames := 3, cells := 0, slots := 0, locals := 36 } : Room).cells ({ frames := 3, cells := 0, slots := 0, locals := 36 } : Room).slots) := by
  refine MetFree.of_bodySF (plainFor_of_name own_pn81707) hisR ?_
  intro p e s m args below meth c s₁ Bd hml0 hP hK
  obtain ⟨rfl, hZ, hh⟩ := hP
  have hx := Bd.exec
  have hby := Bd.bytes
  have hml : c.maxLocals = 1 := hml0
  have hown : s.vm.findClass "java/util/ArrayList" = some m.cls := findClass_of_methodNamed Bd.named
  have hnm := (name_of_methodNamed Bd.named Bd.method).1
  have X0 : Stand p l e ({ frames := 3, cells := 0, slots := 0, locals := 36 } : Room) s m #[(.ref zo)] below meth c s₁ [] 0 0 := Stand.of_body Bd
  have e0 : s₁.heap = h0 := by rw [← hh, Bd.state]; rfl
  have N0 := Fr.nil n0
  have K0 := Keep.refl h0 [zo]
  show own_WP p e below (own_E s (Q1 Z zo u0 u1 zE h0 n0) 0 0) s₁ (entryFrame m #[(.ref zo)] 1)
  rw [ef_1 m zo]
  show own_WP _ _ _ _ s₁ (mkF m 0 #[.val (.ref zo)] [])
  refine own_go (fun t k => XS.aloadN X0.here hx rfl (hb hby d1_0) rfl rfl  k) ?_
  show own_WP _ _ _ _ s₁ (mkF m 1 #[.val (.ref zo)] [(.ref zo)])
  obtain ⟨_, _, ⟨T1, L1, k1, n1⟩, -, X1, ⟨Lc1, hQ1, l1, y1, z1⟩, st1⟩ := X0.specialBack hx (y := (⟨"java/util/AbstractList", "<init>", "()V"⟩ : MethodName)) rfl hown (mvT hZ (hw _ (List.mem_of_getElem? (i := 7) rfl))) (mvT hZ (hw _ (List.mem_of_getElem? (i := 8) rfl))) (mvT hZ (hw _ (List.mem_of_getElem? (i := 12) rfl))) (by decide) (backOf (W := 0) (rm2 l Z a0 hw [] zo u0 u1 h0 n0 (own_le Z0 K0) P0 P1 P2 g_zo) hZ (hw _ (List.mem_of_getElem? (i := 12) rfl)) (hw _ (List.mem_of_getElem? (i := 11) rfl)) (by decide) (by decide)) (g := (mkF m 1 #[.val (.ref zo)] [(.ref zo)])) rfl (by rw [hml]; rfl) (Steps.refl _) (a := zo) (argsL := []) (rest := []) (lenOf own_pd91897 rfl) rfl (by show 2 * 0 + _ ≤ _; exact Nat.le_of_eq rfl) (hb hby d1_1) (fun _ _ => ⟨rfl, e0, (by decide : 0 + 0 ≤ _), (by decide : 0 + 0 ≤ _)⟩)
  dsimp only [Pt.U, Pt.locs, Pt.cells, Pt.slots] at X1 l1 y1 z1 st1 hQ1
  subst l1 y1 z1
  obtain ⟨rfl, N1q, Kc1, f2, f3⟩ := hQ1
  have N1 := Fr.app N0 N1q
  refine own_tr st1 ?_
  have f4 : Exa Z T1.heap zo "java/util/ArrayList" := P0.keep Kc1
  have f7 : Old Z n0 T1.heap := P3.keep Kc1 (fun x hx => by cases List.mem_singleton.mp hx; exact g_zo)
  have K8 : Keep h0 T1.heap [zo] := K0.trans Kc1 (fun x hx => by cases List.mem_singleton.mp hx; exact Or.inl (List.mem_of_getElem? (i := 0) rfl))
  show own_WP _ _ _ _ T1 (mkF m 4 #[.val (.ref zo)] [])
  refine own_go (fun t k => XS.aloadN X1.here hx rfl (hb hby d1_4) rfl rfl  k) ?_
  show own_WP _ _ _ _ T1 (mkF m 5 #[.val (.ref zo)] [(.ref zo)])
  obtain ⟨T9, X9, e9, st9⟩ := getS2 X1 hx hZ hown (host := "") (Or.inl (hw _ (List.mem_of_getElem? (i := 24) rfl))) Via.refl rfl (P4.ext f7.2) (g := (mkF m 5 #[.val (.ref zo)] [(.ref zo)])) rfl (hb hby d1_5)
  refine own_go st9 ?_
  show own_WP _ _ _ _ T9 (mkF m 8 #[.val (.ref zo)] [(.ref zE), (.ref zo)])
  obtain ⟨T10, h10, X10, e10, W10, st10⟩ := putF X9 hx hZ hown (host := "") (Or.inl (hw _ (List.mem_of_getElem? (i := 25) rfl))) Via.refl e9 f3 f2 (Or.inl (hw _ (List.mem_of_getElem? (i := 26) rfl))) (hw _ (List.mem_of_getElem? (i := 2) rfl)) (ty := (.array (.object "java/lang/Object"))) (by decide) rfl rfl (g := (mkF m 8 #[.val (.ref zo)] [(.ref zE), (.ref zo)])) rfl rfl (hb hby d1_8)
  refine own_go st10 ?_
  have f11 : Fld Z h10 zo "java/util/ArrayList" "elementData" "[Ljava/lang/Object;" (.ref zE) := f3.same W10
  have f12 : Exa Z h10 zo "java/util/ArrayList" := f2.wr W10
  have f13 : Old Z n0 h10 := f7.wr W10 g_zo
  have K15 : Keep h0 h10 [zo] := K8.wr W10 (Or.inl (List.mem_of_getElem? (i := 0) rfl))
  have N16 := Fr.snoc X10 N1 g_zo
  show own_WP _ _ _ _ T10 (mkF m 11 #[.val (.ref zo)] [])
  refine own_retV X10 hx Bd.notSynchronized Bd.returns (hb hby d1_11) (by decide) (by decide) ?_
  rw [e10]
  exact ⟨rfl, N16, K15, f12⟩
theorem d6_0 : decode jdk_30_method_1_code 0 = .ok (.aload_n 0, 1) := by decide +kernel
theorem d6_1 : decode jdk_30_method_1_code 1 = .ok (.invokespecial 1, 3) := by decide +kernel
theorem d6_4 : decode jdk_30_method_1_code 4 = .ok (.return_, 1) := by decide +kernel
theorem own_pn22125 : plainName "java/lang/Record" = true := by first | (simp [plainName, overriddenIn]; done) | decide +kernel
theorem ef_6 (m : MethodId) (zo : Addr) : entryFrame m #[(.ref zo)] 1 = mkF m 0 #[.val (.ref zo)] [] := by first | (simp [entryFrame, mkF, argsToLocals, Value.category]; done) | rfl
def Q6 (Z : State) (zo : Addr) (h0 : Heap) (n0 : Nat) (v : Option Value) (h : Heap) (L : List Loc) : Prop := v = none ∧ Fr n0 L ∧ h = h0
set_option maxRecDepth 65536 in
set_option maxHeartbeats 40000000 in
theorem rm6 (l : Launch) (Z : State) (a0 : Array Value) (hw : ∀ d ∈ tables_1, d.before a0 Z = true) (ws : List Jvm.Cond) (zo : Addr) (h0 : Heap) (n0 : Nat) (Z0 : n0 ≤ h0.size)  :
    MetFree l (⟨"java/lang/Record", "<init>", "()V"⟩ : MethodName) (head1 (Jvm.Cond.code (⟨"java/lang/Record", "<init>", "()V"⟩ : MethodName) jdk_30_method_1_code 1 none :: ws) ({ frames := 1, cells := 0, slots := 0, locals := 12 } : Room)) (fun a U => a = #[(.ref zo)] ∧ Z.Warmed39 U.vm ∧ U.heap = h0) (fun _ _ _ _ _ => True) (fun _ U o U' => ∃ v L, o = .returned v ∧ Q6 Z zo h0 n0 v U'.heap L ∧ FrameEnd U o U' L ({ frames := 1, cells := 0, slots := 0, locals := 12 } : Room).cells ({ frames := 1, cells := 0, slots := 0, locals := 12 } : Room).slots) := by
  refine MetFree.of_bodySF (plainFor_of_name own_pn22125) hisR ?_
  intro p e s m args below meth c s₁ Bd hml0 hP hK
  obtain ⟨rfl, hZ, hh⟩ := hP
  have hx := Bd.exec
  have hby := Bd.bytes
  have hml : c.maxLocals = 1 := hml0
  have hown : s.vm.findClass "java/lang/Record" = some m.cls := findClass_of_methodNamed Bd.named
  have hnm := (name_of_methodNamed Bd.named Bd.method).1
  have X0 : Stand p l e ({ frames := 1, cells := 0, slots := 0, locals := 12 } : Room) s m #[(.ref zo)] below meth c s₁ [] 0 0 := Stand.of_body Bd
  have e0 : s₁.heap = h0 := by rw [← hh, Bd.state]; rfl
  have N0 := Fr.nil n0
  have K0 := Keep.refl h0 ([] : List Addr)
  show own_WP p e below (own_E s (Q6 Z zo h0 n0) 0 0) s₁ (entryFrame m #[(.ref zo)] 1)
  rw [ef_6 m zo]
  show own_WP _ _ _ _ s₁ (mkF m 0 #[.val (.ref zo)] [])
  refine own_go (fun t k => XS.aloadN X0.here hx rfl (hb hby d6_0) rfl rfl  k) ?_
  show own_WP _ _ _ _ s₁ (mkF m 1 #[.val (.ref zo)] [(.ref zo)])
  obtain ⟨T1, X1, e1, st1⟩ := initO X0 hx hZ hown (hw _ (List.mem_of_getElem? (i := 38) rfl)) (hw _ (List.mem_of_getElem? (i := 20) rfl)) (hw _ (List.mem_of_getElem? (i := 21) rfl)) e0 (g := (mkF m 1 #[.val (.ref zo)] [(.ref zo)])) rfl (by rw [hml]; rfl) rfl (hb hby d6_1) (by decide) (W := 0) (by show 2 * 0 + _ ≤ _; exact Nat.le_of_eq rfl) (by decide)
  refine own_go st1 ?_
  show own_WP _ _ _ _ T1 (mkF m 4 #[.val (.ref zo)] [])
  refine own_retV X1 hx Bd.notSynchronized Bd.returns (hb hby d6_4) (by decide) (by decide) ?_
  rw [e1]
  exact ⟨rfl, N0, rfl⟩
theorem d5_0 : decode prog_59_method_1_code 0 = .ok (.aload_n 0, 1) := by decide +kernel
theorem d5_1 : decode prog_59_method_1_code 1 = .ok (.invokespecial 3, 3) := by decide +kernel
theorem d5_4 : decode prog_59_method_1_code 4 = .ok (.aload_n 0, 1) := by decide +kernel
theorem d5_5 : decode prog_59_method_1_code 5 = .ok (.iload_n 1, 1) := by decide +kernel
theorem d5_6 : decode prog_59_method_1_code 6 = .ok (.putfield 9, 3) := by decide +kernel
theorem d5_9 : decode prog_59_method_1_code 9 = .ok (.aload_n 0, 1) := by decide +kernel
theorem d5_10 : decode prog_59_method_1_code 10 = .ok (.aload_n 2, 1) := by decide +kernel
theorem d5_11 : decode prog_59_method_1_code 11 = .ok (.putfield 15, 3) := by decide +kernel
theorem d5_14 : decode prog_59_method_1_code 14 = .ok (.aload_n 0, 1) := by decide +kernel
theorem d5_15 : decode prog_59_method_1_code 15 = .ok (.aload_n 3, 1) := by decide +kernel
theorem d5_16 : decode prog_59_method_1_code 16 = .ok (.putfield 19, 3) := by decide +kernel
theorem d5_19 : decode prog_59_method_1_code 19 = .ok (.return_, 1) := by decide +kernel
theorem own_pn89280 : plainName "com/example/kuvert/kuvert/cms/Der$Element" = true := by first | (simp [plainName, overriddenIn]; done) | decide +kernel
theorem ef_5 (m : MethodId) (zo : Addr) (zt : Int32) (za : Addr) (zl : Addr) : entryFrame m #[(.ref zo), (.int zt), (.ref za), (.ref zl)] 4 = mkF m 0 #[.val (.ref zo), .val (.int zt), .val (.ref za), .val (.ref zl)] [] := by first | (simp [entryFrame, mkF, argsToLocals, Value.category]; done) | rfl
def Q5 (Z : State) (zo : Addr) (zt : Int32) (za : Addr) (zl : Addr) (u0 : Value) (u1 : Value) (u2 : Value) (h0 : Heap) (n0 : Nat) (v : Option Value) (h : Heap) (L : List Loc) : Prop := v = none ∧ Fr n0 L ∧ Keep h0 h [zo] ∧ Exa Z h zo "com/example/kuvert/kuvert/cms/Der$Element" ∧ Fld Z h zo "com/example/kuvert/kuvert/cms/Der$Element" "tag" "I" (.int zt)
set_option maxRecDepth 65536 in
set_option maxHeartbeats 40000000 in
theorem rm5 (l : Launch) (Z : State) (a0 : Array Value) (hw : ∀ d ∈ tables_1, d.before a0 Z = true) (ws : List Jvm.Cond) (zo : Addr) (zt : Int32) (za : Addr) (zl : Addr) (u0 : Value) (u1 : Value) (u2 : Value) (h0 : Heap) (n0 : Nat) (Z0 : n0 ≤ h0.size) (P0 : Exa Z h0 zo "com/example/kuvert/kuvert/cms/Der$Element") (P1 : Fld Z h0 zo "com/example/kuvert/kuvert/cms/Der$Element" "tag" "I" u0) (P2 : Fld Z h0 zo "com/example/kuvert/kuvert/cms/Der$Element" "content" "[B" u1) (P3 : Fld Z h0 zo "com/example/kuvert/kuvert/cms/Der$Element" "elements" "Ljava/util/List;" u2) (g_zo : n0 ≤ zo) :
    MetFree l (⟨"com/example/kuvert/kuvert/cms/Der$Element", "<init>", "(I[BLjava/util/List;)V"⟩ : MethodName) (head1 (Jvm.Cond.code (⟨"com/example/kuvert/kuvert/cms/Der$Element", "<init>", "(I[BLjava/util/List;)V"⟩ : MethodName) prog_59_method_1_code 4 none :: ws) ({ frames := 2, cells := 0, slots := 0, locals := 24 } : Room)) (fun a U => a = #[(.ref zo), (.int zt), (.ref za), (.ref zl)] ∧ Z.Warmed39 U.vm ∧ U.heap = h0) (fun _ _ _ _ _ => True) (fun _ U o U' => ∃ v L, o = .returned v ∧ Q5 Z zo zt za zl u0 u1 u2 h0 n0 v U'.heap L ∧ FrameEnd U o U' L ({ frames := 2, cells := 0, slots := 0, locals := 24 } : Room).cells ({ frames := 2, cells := 0, slots := 0, locals := 24 } : Room).slots) := by
  refine MetFree.of_bodySF (plainFor_of_name own_pn89280) hisR ?_
  intro p e s m args below meth c s₁ Bd hml0 hP hK
  obtain ⟨rfl, hZ, hh⟩ := hP
  have hx := Bd.exec
  have hby := Bd.bytes
  have hml : c.maxLocals = 4 := hml0
  have hown : s.vm.findClass "com/example/kuvert/kuvert/cms/Der$Element" = some m.cls := findClass_of_methodNamed Bd.named
  have hnm := (name_of_methodNamed Bd.named Bd.method).1
  have X0 : Stand p l e ({ frames := 2, cells := 0, slots := 0, locals := 24 } : Room) s m #[(.ref zo), (.int zt), (.ref za), (.ref zl)] below meth c s₁ [] 0 0 := Stand.of_body Bd
  have e0 : s₁.heap = h0 := by rw [← hh, Bd.state]; rfl
  have N0 := Fr.nil n0
  have K0 := Keep.refl h0 [zo]
  show own_WP p e below (own_E s (Q5 Z zo zt za zl u0 u1 u2 h0 n0) 0 0) s₁ (entryFrame m #[(.ref zo), (.int zt), (.ref za), (.ref zl)] 4)
  rw [ef_5 m zo zt za zl]
  show own_WP _ _ _ _ s₁ (mkF m 0 #[.val (.ref zo), .val (.int zt), .val (.ref za), .val (.ref zl)] [])
  refine own_go (fun t k => XS.aloadN X0.here hx rfl (hb hby d5_0) rfl rfl  k) ?_
  show own_WP _ _ _ _ s₁ (mkF m 1 #[.val (.ref zo), .val (.int zt), .val (.ref za), .val (.ref zl)] [(.ref zo)])
  obtain ⟨_, _, ⟨T1, L1, k1, n1⟩, -, X1, ⟨Lc1, hQ1, l1, y1, z1⟩, st1⟩ := X0.specialBack hx (y := (⟨"java/lang/Record", "<init>", "()V"⟩ : MethodName)) rfl hown (mvT hZ (hw _ (List.mem_of_getElem? (i := 33) rfl))) (mvT hZ (hw _ (List.mem_of_getElem? (i := 34) rfl))) (mvT hZ (hw _ (List.mem_of_getElem? (i := 37) rfl))) (by decide) (backOf (W := 0) (rm6 l Z a0 hw [] zo  h0 n0 (own_le Z0 K0) ) hZ (hw _ (List.mem_of_getElem? (i := 37) rfl)) (hw _ (List.mem_of_getElem? (i := 36) rfl)) (by decide) (by decide)) (g := (mkF m 1 #[.val (.ref zo), .val (.int zt), .val (.ref za), .val (.ref zl)] [(.ref zo)])) rfl (by rw [hml]; rfl) (Steps.refl _) (a := zo) (argsL := []) (rest := []) (lenOf own_pd91897 rfl) rfl (by show 2 * 0 + _ ≤ _; exact Nat.le_of_eq rfl) (hb hby d5_1) (fun _ _ => ⟨rfl, e0, (by decide : 0 + 0 ≤ _), (by decide : 0 + 0 ≤ _)⟩)
  dsimp only [Pt.U, Pt.locs, Pt.cells, Pt.slots] at X1 l1 y1 z1 st1 hQ1
  subst l1 y1 z1
  obtain ⟨rfl, N1q, eq1⟩ := hQ1
  have N1 := Fr.app N0 N1q
  refine own_tr st1 ?_
  show own_WP _ _ _ _ T1 (mkF m 4 #[.val (.ref zo), .val (.int zt), .val (.ref za), .val (.ref zl)] [])
  refine own_go (fun t k => XS.aloadN X1.here hx rfl (hb hby d5_4) rfl rfl  k) ?_
  show own_WP _ _ _ _ T1 (mkF m 5 #[.val (.ref zo), .val (.int zt), .val (.ref za), .val (.ref zl)] [(.ref zo)])
  refine own_go (fun t k => XS.iloadN X1.here hx rfl (hb hby d5_5) rfl  k) ?_
  show own_WP _ _ _ _ T1 (mkF m 6 #[.val (.ref zo), .val (.int zt), .val (.ref za), .val (.ref zl)] [(.int zt), (.ref zo)])
  obtain ⟨T2, h2, X2, e2, W2, st2⟩ := putF X1 hx hZ hown (host := "") (Or.inl (hw _ (List.mem_of_getElem? (i := 39) rfl))) Via.refl eq1 P1 P0 (Or.inr ⟨(hw _ (List.mem_of_getElem? (i := 40) rfl)), rfl, hnm⟩) (hw _ (List.mem_of_getElem? (i := 28) rfl)) (ty := .int) (by decide) rfl rfl (g := (mkF m 6 #[.val (.ref zo), .val (.int zt), .val (.ref za), .val (.ref zl)] [(.int zt), (.ref zo)])) rfl rfl (hb hby d5_6)
  refine own_go st2 ?_
  have f3 : Fld Z h2 zo "com/example/kuvert/kuvert/cms/Der$Element" "tag" "I" (.int zt) := P1.same W2
  have f4 : Exa Z h2 zo "com/example/kuvert/kuvert/cms/Der$Element" := P0.wr W2
  have f6 : Fld Z h2 zo "com/example/kuvert/kuvert/cms/Der$Element" "content" "[B" u1 := P2.other W2 (Or.inr (slot_ne (Or.inr (hw _ (List.mem_of_getElem? (i := 42) rfl))) (Or.inr (hw _ (List.mem_of_getElem? (i := 40) rfl))) (by decide) (t := (.array .byte)) (t' := .int) (by decide) (by decide)))
  have f7 : Fld Z h2 zo "com/example/kuvert/kuvert/cms/Der$Element" "elements" "Ljava/util/List;" u2 := P3.other W2 (Or.inr (slot_ne (Or.inr (hw _ (List.mem_of_getElem? (i := 44) rfl))) (Or.inr (hw _ (List.mem_of_getElem? (i := 40) rfl))) (by decide) (t := (.object "java/util/List")) (t' := .int) (by decide) (by decide)))
  have K8 : Keep h0 h2 [zo] := K0.wr W2 (Or.inl (List.mem_of_getElem? (i := 0) rfl))
  have N9 := Fr.snoc X2 N1 g_zo
  show own_WP _ _ _ _ T2 (mkF m 9 #[.val (.ref zo), .val (.int zt), .val (.ref za), .val (.ref zl)] [])
  refine own_go (fun t k => XS.aloadN X2.here hx rfl (hb hby d5_9) rfl rfl  k) ?_
  show own_WP _ _ _ _ T2 (mkF m 10 #[.val (.ref zo), .val (.int zt), .val (.ref za), .val (.ref zl)] [(.ref zo)])
  refine own_go (fun t k => XS.aloadN X2.here hx rfl (hb hby d5_10) rfl rfl  k) ?_
  show own_WP _ _ _ _ T2 (mkF m 11 #[.val (.ref zo), .val (.int zt), .val (.ref za), .val (.ref zl)] [(.ref za), (.ref zo)])
  obtain ⟨T10, h10, X10, e10, W10, st10⟩ := putF X2 hx hZ hown (host := "") (Or.inl (hw _ (List.mem_of_getElem? (i := 41) rfl))) Via.refl e2 f6 f4 (Or.inr ⟨(hw _ (List.mem_of_getElem? (i := 42) rfl)), rfl, hnm⟩) (hw _ (List.mem_of_getElem? (i := 28) rfl)) (ty := (.array .byte)) (by decide) rfl rfl (g := (mkF m 11 #[.val (.ref zo), .val (.int zt), .val (.ref za), .val (.ref zl)] [(.ref za), (.ref zo)])) rfl rfl (hb hby d5_11)
  refine own_go st10 ?_
  have f11 : Fld Z h10 zo "com/example/kuvert/kuvert/cms/Der$Element" "content" "[B" (.ref za) := f6.same W10
  have f12 : Exa Z h10 zo "com/example/kuvert/kuvert/cms/Der$Element" := f4.wr W10
  have f14 : Fld Z h10 zo "com/example/kuvert/kuvert/cms/Der$Element" "elements" "Ljava/util/List;" u2 := f7.other W10 (Or.inr (slot_ne (Or.inr (hw _ (List.mem_of_getElem? (i := 44) rfl))) (Or.inr (hw _ (List.mem_of_getElem? (i := 42) rfl))) (by decide) (t := (.object "java/util/List")) (t' := (.array .byte)) (by decide) (by decide)))
  have f15 : Fld Z h10 zo "com/example/kuvert/kuvert/cms/Der$Element" "tag" "I" (.int zt) := f3.other W10 (Or.inr (slot_ne (Or.inr (hw _ (List.mem_of_getElem? (i := 40) rfl))) (Or.inr (hw _ (List.mem_of_getElem? (i := 42) rfl))) (by decide) (t := .int) (t' := (.array .byte)) (by decide) (by decide)))
  have K16 : Keep h0 h10 [zo] := K8.wr W10 (Or.inl (List.mem_of_getElem? (i := 0) rfl))
  have N17 := Fr.snoc X10 N9 g_zo
  show own_WP _ _ _ _ T10 (mkF m 14 #[.val (.ref zo), .val (.int zt), .val (.ref za), .val (.ref zl)] [])
  refine own_go (fun t k => XS.aloadN X10.here hx rfl (hb hby d5_14) rfl rfl  k) ?_
  show own_WP _ _ _ _ T10 (mkF m 15 #[.val (.ref zo), .val (.int zt), .val (.ref za), .val (.ref zl)] [(.ref zo)])
  refine own_go (fun t k => XS.aloadN X10.here hx rfl (hb hby d5_15) rfl rfl  k) ?_
  show own_WP _ _ _ _ T10 (mkF m 16 #[.val (.ref zo), .val (.int zt), .val (.ref za), .val (.ref zl)] [(.ref zl), (.ref zo)])
  obtain ⟨T18, h18, X18, e18, W18, st18⟩ := putF X10 hx hZ hown (host := "") (Or.inl (hw _ (List.mem_of_getElem? (i := 43) rfl))) Via.refl e10 f14 f12 (Or.inr ⟨(hw _ (List.mem_of_getElem? (i := 44) rfl)), rfl, hnm⟩) (hw _ (List.mem_of_getElem? (i := 28) rfl)) (ty := (.object "java/util/List")) (by decide) rfl rfl (g := (mkF m 16 #[.val (.ref zo), .val (.int zt), .val (.ref za), .val (.ref zl)] [(.ref zl), (.ref zo)])) rfl rfl (hb hby d5_16)
  refine own_go st18 ?_
  have f19 : Fld Z h18 zo "com/example/kuvert/kuvert/cms/Der$Element" "elements" "Ljava/util/List;" (.ref zl) := f14.same W18
  have f20 : Exa Z h18 zo "com/example/kuvert/kuvert/cms/Der$Element" := f12.wr W18
  have f22 : Fld Z h18 zo "com/example/kuvert/kuvert/cms/Der$Element" "tag" "I" (.int zt) := f15.other W18 (Or.inr (slot_ne (Or.inr (hw _ (List.mem_of_getElem? (i := 40) rfl))) (Or.inr (hw _ (List.mem_of_getElem? (i := 44) rfl))) (by decide) (t := .int) (t' := (.object "java/util/List")) (by decide) (by decide)))
  have f23 : Fld Z h18 zo "com/example/kuvert/kuvert/cms/Der$Element" "content" "[B" (.ref za) := f11.other W18 (Or.inr (slot_ne (Or.inr (hw _ (List.mem_of_getElem? (i := 42) rfl))) (Or.inr (hw _ (List.mem_of_getElem? (i := 44) rfl))) (by decide) (t := (.array .byte)) (t' := (.object "java/util/List")) (by decide) (by decide)))
  have K24 : Keep h0 h18 [zo] := K16.wr W18 (Or.inl (List.mem_of_getElem? (i := 0) rfl))
  have N25 := Fr.snoc X18 N17 g_zo
  show own_WP _ _ _ _ T18 (mkF m 19 #[.val (.ref zo), .val (.int zt), .val (.ref za), .val (.ref zl)] [])
  refine own_retV X18 hx Bd.notSynchronized Bd.returns (hb hby d5_19) (by decide) (by decide) ?_
  rw [e18]
  exact ⟨rfl, N25, K24, f20, f22⟩
theorem d7_0 : decode prog_58_method_1_code 0 = .ok (.sipush 128, 3) := by decide +kernel
theorem d7_3 : decode prog_58_method_1_code 3 = .ok (.iload_n 0, 1) := by decide +kernel
theorem d7_4 : decode prog_58_method_1_code 4 = .ok (.ior, 1) := by decide +kernel
theorem d7_5 : decode prog_58_method_1_code 5 = .ok (.ireturn, 1) := by decide +kernel
theorem own_pn79956 : plainName "com/example/kuvert/kuvert/cms/Der" = true := by first | (simp [plainName, overriddenIn]; done) | decide +kernel
theorem ef_7 (m : MethodId) (zi : Int32) : entryFrame m #[(.int zi)] 1 = mkF m 0 #[.val (.int zi)] [] := by first | (simp [entryFrame, mkF, argsToLocals, Value.category]; done) | rfl
def Q7 (Z : State) (zi : Int32) (h0 : Heap) (n0 : Nat) (v : Option Value) (h : Heap) (L : List Loc) : Prop := v = some (.int ((128 : Int32) ||| zi)) ∧ Fr n0 L ∧ h = h0
set_option maxRecDepth 65536 in
set_option maxHeartbeats 40000000 in
theorem rm7 (l : Launch) (Z : State) (a0 : Array Value) (hw : ∀ d ∈ tables_1, d.before a0 Z = true) (ws : List Jvm.Cond) (zi : Int32) (h0 : Heap) (n0 : Nat) (Z0 : n0 ≤ h0.size)  :
    MetFree l (⟨"com/example/kuvert/kuvert/cms/Der", "context", "(I)I"⟩ : MethodName) (head1 (Jvm.Cond.code (⟨"com/example/kuvert/kuvert/cms/Der", "context", "(I)I"⟩ : MethodName) prog_58_method_1_code 1 (some .int) :: ws) ({ frames := 0, cells := 0, slots := 0, locals := 0 } : Room)) (fun a U => a = #[(.int zi)] ∧ Z.Warmed39 U.vm ∧ U.heap = h0) (fun _ _ _ _ _ => True) (fun _ U o U' => ∃ v L, o = .returned v ∧ Q7 Z zi h0 n0 v U'.heap L ∧ FrameEnd U o U' L ({ frames := 0, cells := 0, slots := 0, locals := 0 } : Room).cells ({ frames := 0, cells := 0, slots := 0, locals := 0 } : Room).slots) := by
  refine MetFree.of_bodySF (plainFor_of_name own_pn79956) hisR ?_
  intro p e s m args below meth c s₁ Bd hml0 hP hK
  obtain ⟨rfl, hZ, hh⟩ := hP
  have hx := Bd.exec
  have hby := Bd.bytes
  have hml : c.maxLocals = 1 := hml0
  have hown : s.vm.findClass "com/example/kuvert/kuvert/cms/Der" = some m.cls := findClass_of_methodNamed Bd.named
  have hnm := (name_of_methodNamed Bd.named Bd.method).1
  have X0 : Stand p l e ({ frames := 0, cells := 0, slots := 0, locals := 0 } : Room) s m #[(.int zi)] below meth c s₁ [] 0 0 := Stand.of_body Bd
  have e0 : s₁.heap = h0 := by rw [← hh, Bd.state]; rfl
  have N0 := Fr.nil n0
  have K0 := Keep.refl h0 ([] : List Addr)
  show own_WP p e below (own_E s (Q7 Z zi h0 n0) 0 0) s₁ (entryFrame m #[(.int zi)] 1)
  rw [ef_7 m zi]
  show own_WP _ _ _ _ s₁ (mkF m 0 #[.val (.int zi)] [])
  refine own_go (fun t k => XS.sipush X0.here hx rfl (hb hby d7_0) k) ?_
  show own_WP _ _ _ _ s₁ (mkF m 3 #[.val (.int zi)] [(.int (128 : Int32))])
  refine own_go (fun t k => XS.iloadN X0.here hx rfl (hb hby d7_3) rfl  k) ?_
  show own_WP _ _ _ _ s₁ (mkF m 4 #[.val (.int zi)] [(.int zi), (.int (128 : Int32))])
  refine own_go (fun t k => XS.ior X0.here hx rfl (hb hby d7_4) rfl k) ?_
  show own_WP _ _ _ _ s₁ (mkF m 5 #[.val (.int zi)] [(.int ((128 : Int32) ||| zi))])
  refine own_retI X0 hx Bd.notSynchronized Bd.returns (hb hby d7_5) (by decide) (by decide) ?_
  rw [e0]
  exact ⟨rfl, N0, rfl⟩
theorem d8_0 : decode prog_58_method_2_code 0 = .ok (.sipush 160, 3) := by decide +kernel
theorem d8_3 : decode prog_58_method_2_code 3 = .ok (.iload_n 0, 1) := by decide +kernel
theorem d8_4 : decode prog_58_method_2_code 4 = .ok (.ior, 1) := by decide +kernel
theorem d8_5 : decode prog_58_method_2_code 5 = .ok (.ireturn, 1) := by decide +kernel
theorem ef_8 (m : MethodId) (zi : Int32) : entryFrame m #[(.int zi)] 1 = mkF m 0 #[.val (.int zi)] [] := by first | (simp [entryFrame, mkF, argsToLocals, Value.category]; done) | rfl
def Q8 (Z : State) (zi : Int32) (h0 : Heap) (n0 : Nat) (v : Option Value) (h : Heap) (L : List Loc) : Prop := v = some (.int ((160 : Int32) ||| zi)) ∧ Fr n0 L ∧ h = h0
set_option maxRecDepth 65536 in
set_option maxHeartbeats 40000000 in
theorem rm8 (l : Launch) (Z : State) (a0 : Array Value) (hw : ∀ d ∈ tables_1, d.before a0 Z = true) (ws : List Jvm.Cond) (zi : Int32) (h0 : Heap) (n0 : Nat) (Z0 : n0 ≤ h0.size)  :
    MetFree l (⟨"com/example/kuvert/kuvert/cms/Der", "contextConstructed", "(I)I"⟩ : MethodName) (head1 (Jvm.Cond.code (⟨"com/example/kuvert/kuvert/cms/Der", "contextConstructed", "(I)I"⟩ : MethodName) prog_58_method_2_code 1 (some .int) :: ws) ({ frames := 0, cells := 0, slots := 0, locals := 0 } : Room)) (fun a U => a = #[(.int zi)] ∧ Z.Warmed39 U.vm ∧ U.heap = h0) (fun _ _ _ _ _ => True) (fun _ U o U' => ∃ v L, o = .returned v ∧ Q8 Z zi h0 n0 v U'.heap L ∧ FrameEnd U o U' L ({ frames := 0, cells := 0, slots := 0, locals := 0 } : Room).cells ({ frames := 0, cells := 0, slots := 0, locals := 0 } : Room).slots) := by
  refine MetFree.of_bodySF (plainFor_of_name own_pn79956) hisR ?_
  intro p e s m args below meth c s₁ Bd hml0 hP hK
  obtain ⟨rfl, hZ, hh⟩ := hP
  have hx := Bd.exec
  have hby := Bd.bytes
  have hml : c.maxLocals = 1 := hml0
  have hown : s.vm.findClass "com/example/kuvert/kuvert/cms/Der" = some m.cls := findClass_of_methodNamed Bd.named
  have hnm := (name_of_methodNamed Bd.named Bd.method).1
  have X0 : Stand p l e ({ frames := 0, cells := 0, slots := 0, locals := 0 } : Room) s m #[(.int zi)] below meth c s₁ [] 0 0 := Stand.of_body Bd
  have e0 : s₁.heap = h0 := by rw [← hh, Bd.state]; rfl
  have N0 := Fr.nil n0
  have K0 := Keep.refl h0 ([] : List Addr)
  show own_WP p e below (own_E s (Q8 Z zi h0 n0) 0 0) s₁ (entryFrame m #[(.int zi)] 1)
  rw [ef_8 m zi]
  show own_WP _ _ _ _ s₁ (mkF m 0 #[.val (.int zi)] [])
  refine own_go (fun t k => XS.sipush X0.here hx rfl (hb hby d8_0) k) ?_
  show own_WP _ _ _ _ s₁ (mkF m 3 #[.val (.int zi)] [(.int (160 : Int32))])
  refine own_go (fun t k => XS.iloadN X0.here hx rfl (hb hby d8_3) rfl  k) ?_
  show own_WP _ _ _ _ s₁ (mkF m 4 #[.val (.int zi)] [(.int zi), (.int (160 : Int32))])
  refine own_go (fun t k => XS.ior X0.here hx rfl (hb hby d8_4) rfl k) ?_
  show own_WP _ _ _ _ s₁ (mkF m 5 #[.val (.int zi)] [(.int ((160 : Int32) ||| zi))])
  refine own_retI X0 hx Bd.notSynchronized Bd.returns (hb hby d8_5) (by decide) (by decide) ?_
  rw [e0]
  exact ⟨rfl, N0, rfl⟩
theorem d9_0 : decode prog_59_method_2_code 0 = .ok (.aload_n 0, 1) := by decide +kernel
theorem d9_1 : decode prog_59_method_2_code 1 = .ok (.getfield 9, 3) := by decide +kernel
theorem d9_4 : decode prog_59_method_2_code 4 = .ok (.bipush 32, 2) := by decide +kernel
theorem d9_6 : decode prog_59_method_2_code 6 = .ok (.iand, 1) := by decide +kernel
theorem d9_7 : decode prog_59_method_2_code 7 = .ok (.ifCond .eq 7, 3) := by decide +kernel
theorem d9_10 : decode prog_59_method_2_code 10 = .ok (.iconst 1, 1) := by decide +kernel
theorem d9_11 : decode prog_59_method_2_code 11 = .ok (.goto 4, 3) := by decide +kernel
theorem d9_14 : decode prog_59_method_2_code 14 = .ok (.iconst 0, 1) := by decide +kernel
theorem d9_15 : decode prog_59_method_2_code 15 = .ok (.ireturn, 1) := by decide +kernel
theorem ef_9 (m : MethodId) (zo : Addr) : entryFrame m #[(.ref zo)] 1 = mkF m 0 #[.val (.ref zo)] [] := by first | (simp [entryFrame, mkF, argsToLocals, Value.category]; done) | rfl
def Q9 (Z : State) (zo : Addr) (zt : Int32) (h0 : Heap) (n0 : Nat) (v : Option Value) (h : Heap) (L : List Loc) : Prop := v = some (.int (own_ic zt)) ∧ Fr n0 L ∧ h = h0
set_option maxRecDepth 65536 in
set_option maxHeartbeats 40000000 in
theorem rm9 (l : Launch) (Z : State) (a0 : Array Value) (hw : ∀ d ∈ tables_1, d.before a0 Z = true) (ws : List Jvm.Cond) (zo : Addr) (zt : Int32) (h0 : Heap) (n0 : Nat) (Z0 : n0 ≤ h0.size) (P0 : Fld Z h0 zo "com/example/kuvert/kuvert/cms/Der$Element" "tag" "I" (.int zt)) :
    MetFree l (⟨"com/example/kuvert/kuvert/cms/Der$Element", "isConstructed", "()Z"⟩ : MethodName) (head1 (Jvm.Cond.code (⟨"com/example/kuvert/kuvert/cms/Der$Element", "isConstructed", "()Z"⟩ : MethodName) prog_59_method_2_code 1 (some .boolean) :: ws) ({ frames := 0, cells := 0, slots := 0, locals := 0 } : Room)) (fun a U => a = #[(.ref zo)] ∧ Z.Warmed39 U.vm ∧ U.heap = h0) (fun _ _ _ _ _ => True) (fun _ U o U' => ∃ v L, o = .returned v ∧ Q9 Z zo zt h0 n0 v U'.heap L ∧ FrameEnd U o U' L ({ frames := 0, cells := 0, slots := 0, locals := 0 } : Room).cells ({ frames := 0, cells := 0, slots := 0, locals := 0 } : Room).slots) := by
  refine MetFree.of_bodySF (plainFor_of_name own_pn89280) hisR ?_
  intro p e s m args below meth c s₁ Bd hml0 hP hK
  obtain ⟨rfl, hZ, hh⟩ := hP
  have hx := Bd.exec
  have hby := Bd.bytes
  have hml : c.maxLocals = 1 := hml0
  have hown : s.vm.findClass "com/example/kuvert/kuvert/cms/Der$Element" = some m.cls := findClass_of_methodNamed Bd.named
  have hnm := (name_of_methodNamed Bd.named Bd.method).1
  have X0 : Stand p l e ({ frames := 0, cells := 0, slots := 0, locals := 0 } : Room) s m #[(.ref zo)] below meth c s₁ [] 0 0 := Stand.of_body Bd
  have e0 : s₁.heap = h0 := by rw [← hh, Bd.state]; rfl
  have N0 := Fr.nil n0
  have K0 := Keep.refl h0 ([] : List Addr)
  show own_WP p e below (own_E s (Q9 Z zo zt h0 n0) 0 0) s₁ (entryFrame m #[(.ref zo)] 1)
  rw [ef_9 m zo]
  show own_WP _ _ _ _ s₁ (mkF m 0 #[.val (.ref zo)] [])
  refine own_go (fun t k => XS.aloadN X0.here hx rfl (hb hby d9_0) rfl rfl  k) ?_
  show own_WP _ _ _ _ s₁ (mkF m 1 #[.val (.ref zo)] [(.ref zo)])
  obtain ⟨T1, X1, e1, st1⟩ := getF X0 hx hZ hown (host := "") (Or.inl (hw _ (List.mem_of_getElem? (i := 39) rfl))) Via.refl e0 P0 (g := (mkF m 1 #[.val (.ref zo)] [(.ref zo)])) rfl rfl (hb hby d9_1)
  refine own_go st1 ?_
  show own_WP _ _ _ _ T1 (mkF m 4 #[.val (.ref zo)] [(.int zt)])
  refine own_go (fun t k => XS.bipush X1.here hx rfl (hb hby d9_4) k) ?_
  show own_WP _ _ _ _ T1 (mkF m 6 #[.val (.ref zo)] [(.int (32 : Int32)), (.int zt)])
  refine own_go (fun t k => XS.iand X1.here hx rfl (hb hby d9_6) rfl k) ?_
  show own_WP _ _ _ _ T1 (mkF m 7 #[.val (.ref zo)] [(.int (zt &&& (32 : Int32)))])
  by_cases hc7 : (zt &&& (32 : Int32)) = (0 : Int32)
  · refine own_go (fun t k => XS.ifYes X1.here hx rfl (pc0 := 7) (pc' := 14) rfl (hb hby d9_7) rfl ((if0 _ _).trans (teq hc7).1) (by decide) (by decide) k) ?_
    show own_WP _ _ _ _ T1 (mkF m 14 #[.val (.ref zo)] [])
    refine own_go (fun t k => XS.iconst X1.here hx rfl (hb hby d9_14) k) ?_
    show own_WP _ _ _ _ T1 (mkF m 15 #[.val (.ref zo)] [(.int (0 : Int32))])
    refine own_retN X1 hx Bd.notSynchronized (t := .boolean) (by simp) Bd.returns (hb hby d9_15) (by decide) (by decide) ?_
    rw [e1]
    exact ⟨(congrArg (fun z => some (Value.int z)) (show (nar .boolean (0 : Int32)) = (own_ic zt) from by first | (simp [nar, own_ic, hc7]; done) | (simp only [if_true, if_false, eq_self, ↓reduceIte, own_ic, hc7]; first | done | rfl | decide) | (unfold own_ic; rw [if_pos hc7]; first | done | rfl))), N0, rfl⟩
  · refine own_go (fun t k => XS.ifNo X1.here hx rfl (hb hby d9_7) rfl ((if0 _ _).trans (feq hc7).1) k) ?_
    show own_WP _ _ _ _ T1 (mkF m 10 #[.val (.ref zo)] [])
    refine own_go (fun t k => XS.iconst X1.here hx rfl (hb hby d9_10) k) ?_
    show own_WP _ _ _ _ T1 (mkF m 11 #[.val (.ref zo)] [(.int (1 : Int32))])
    refine own_go (fun t k => XS.goto X1.here hx rfl (pc0 := 11) (pc' := 15) rfl (hb hby d9_11) (by decide) (by decide) k) ?_
    show own_WP _ _ _ _ T1 (mkF m 15 #[.val (.ref zo)] [(.int (1 : Int32))])
    refine own_retN X1 hx Bd.notSynchronized (t := .boolean) (by simp) Bd.returns (hb hby d9_15) (by decide) (by decide) ?_
    rw [e1]
    exact ⟨(congrArg (fun z => some (Value.int z)) (show (nar .boolean (1 : Int32)) = (own_ic zt) from by first | (simp [nar, own_ic, hc7]; done) | (simp only [if_true, if_false, eq_self, ↓reduceIte, own_ic, hc7]; first | done | rfl | decide) | (unfold own_ic; rw [if_neg hc7]; first | done | rfl))), N0, rfl⟩
theorem own_pd6974 : parseMethodDescriptor "(I[BLjava/util/List;)V" = some ⟨[.int, (.array .byte), (.object "java/util/List")], none⟩ := by decide +kernel
theorem own_pd81837 : parseMethodDescriptor "(I)I" = some ⟨[.int], some .int⟩ := by decide +kernel
theorem own_pd91901 : parseMethodDescriptor "()Z" = some ⟨[], some .boolean⟩ := by decide +kernel
theorem own_pn21814 : plainName "com/example/kuvert/kuvert/cms/ElementIsConstructedPinLaw" = true := by first | (simp [plainName, overriddenIn]; done) | decide +kernel
theorem ef_0 (m : MethodId) (zt : Int32) (zn : Int32) : entryFrame m #[(.int zt), (.int zn)] maxLocals = mkF m 0 #[.val (.int zt), .val (.int zn), .unset, .unset, .unset, .unset, .unset, .unset, .unset, .unset] [] := by first | (simp [entryFrame, mkF, argsToLocals, Value.category, maxLocals]; done) | rfl
def Q0 (Z : State) (zt : Int32) (zn : Int32) (zE : Addr) (h0 : Heap) (n0 : Nat) (v : Option Value) (h : Heap) (L : List Loc) : Prop := v = some (.int 1) ∧ Fr n0 L
set_option maxRecDepth 65536 in
set_option maxHeartbeats 40000000 in
theorem rm0 (l : Launch) (Z : State) (a0 : Array Value) (hw : ∀ d ∈ tables_1, d.before a0 Z = true) (ws : List Jvm.Cond) (zt : Int32) (zn : Int32) (zE : Addr) (h0 : Heap) (n0 : Nat) (Z0 : n0 ≤ h0.size) (P0 : Old Z n0 h0) (P1 : Sta Z Z.heap "java/util/ArrayList" "DEFAULTCAPACITY_EMPTY_ELEMENTDATA" "[Ljava/lang/Object;" (.ref zE)) :
    MetFree l x (head1 (Jvm.Cond.code x code maxLocals ret :: ws) room_1) (fun a U => a = #[(.int zt), (.int zn)] ∧ Z.Warmed39 U.vm ∧ U.heap = h0) (fun _ _ _ _ _ => True) (fun _ U o U' => ∃ v L, o = .returned v ∧ Q0 Z zt zn zE h0 n0 v U'.heap L ∧ FrameEnd U o U' L 6 15) := by
  refine MetFree.of_bodySF (plainFor_of_name own_pn21814) hisR ?_
  intro p e s m args below meth c s₁ Bd hml0 hP hK
  obtain ⟨rfl, hZ, hh⟩ := hP
  have hx := Bd.exec
  have hby := Bd.bytes
  have hml : c.maxLocals = 10 := hml0
  have hown : s.vm.findClass "com/example/kuvert/kuvert/cms/ElementIsConstructedPinLaw" = some m.cls := findClass_of_methodNamed Bd.named
  have hnm := (name_of_methodNamed Bd.named Bd.method).1
  have X0 : Stand p l e room_1 s m #[(.int zt), (.int zn)] below meth c s₁ [] 0 0 := Stand.of_body Bd
  have e0 : s₁.heap = h0 := by rw [← hh, Bd.state]; rfl
  have N0 := Fr.nil n0
  have K0 := Keep.refl h0 ([] : List Addr)
  show own_WP p e below (own_E s (Q0 Z zt zn zE h0 n0) 6 15) s₁ (entryFrame m #[(.int zt), (.int zn)] maxLocals)
  rw [ef_0 m zt zn]
  show own_WP _ _ _ _ s₁ (mkF m 0 #[.val (.int zt), .val (.int zn), .unset, .unset, .unset, .unset, .unset, .unset, .unset, .unset] [])
  refine own_go (fun t k => XS.iconst X0.here hx rfl (hb hby at_0) k) ?_
  show own_WP _ _ _ _ s₁ (mkF m 1 #[.val (.int zt), .val (.int zn), .unset, .unset, .unset, .unset, .unset, .unset, .unset, .unset] [(.int (0 : Int32))])
  obtain ⟨T1, h1, k1, X1, e1, E1, A1, G1, st1⟩ := newPE X0 hx hZ (hw _ (List.mem_of_getElem? (i := 0) rfl)) e0 (g := (mkF m 1 #[.val (.int zt), .val (.int zn), .unset, .unset, .unset, .unset, .unset, .unset, .unset, .unset] [(.int (0 : Int32))])) rfl (hb hby at_1) rfl (by decide) (cap := 0) (by decide) (by decide) (by decide) (by decide) (ad := "[B") rfl
  obtain ⟨zA, q1⟩ : ∃ z, z = h0.size := ⟨_, rfl⟩
  rw [← q1] at A1 G1 st1
  refine own_go st1 ?_
  have g_zA : n0 ≤ zA := Nat.le_trans (own_le Z0 K0) (Nat.le_of_eq q1.symm)
  have sz_zA : h0.size ≤ zA := Nat.le_trans K0.1 (Nat.le_of_eq q1.symm)
  have f2 : Old Z n0 h1 := P0.ext E1
  have K3 : Keep h0 h1 [] := K0.ext E1
  have f4 : Arv Z h1 zA k1 .byte (0 : Int32) [] (.int (0 : Int32)) := (Arv.new A1 (by decide)).pad (pad_rep [] (.int (0 : Int32)) 0)
  show own_WP _ _ _ _ T1 (mkF m 3 #[.val (.int zt), .val (.int zn), .unset, .unset, .unset, .unset, .unset, .unset, .unset, .unset] [(.ref zA)])
  refine own_go (fun t k => XS.astoreN X1.here hx rfl (hb hby at_3) rfl rfl (l' := #[.val (.int zt), .val (.int zn), .val (.ref zA), .unset, .unset, .unset, .unset, .unset, .unset, .unset]) rfl k) ?_
  show own_WP _ _ _ _ T1 (mkF m 4 #[.val (.int zt), .val (.int zn), .val (.ref zA), .unset, .unset, .unset, .unset, .unset, .unset, .unset] [])
  obtain ⟨T5, h5, X5, e5, E5, A5, D5, -, st5⟩ := newO X1 hx hZ hown (hw _ (List.mem_of_getElem? (i := 1) rfl)) (hw _ (List.mem_of_getElem? (i := 2) rfl)) (hw _ (List.mem_of_getElem? (i := 3) rfl)) e1 (g := (mkF m 4 #[.val (.int zt), .val (.int zn), .val (.ref zA), .unset, .unset, .unset, .unset, .unset, .unset, .unset] [])) rfl (hb hby at_4) (by decide) (by decide)
  obtain ⟨zL, q5⟩ : ∃ z, z = h1.size := ⟨_, rfl⟩
  rw [← q5] at A5 D5 st5
  refine own_go st5 ?_
  have g_zL : n0 ≤ zL := Nat.le_trans (own_le Z0 K3) (Nat.le_of_eq q5.symm)
  have sz_zL : h0.size ≤ zL := Nat.le_trans K3.1 (Nat.le_of_eq q5.symm)
  have ne_zA_zL : zA ≠ zL := Nat.ne_of_lt (Nat.lt_of_lt_of_le f4.lt (Nat.le_of_eq q5.symm))
  have f6 : Old Z n0 h5 := f2.ext E5
  have f7 : Arv Z h5 zA k1 .byte (0 : Int32) [] (.int (0 : Int32)) := f4.ext E5
  have K8 : Keep h0 h5 [] := K3.ext E5
  have f9 : Fld Z h5 zL "java/util/AbstractList" "modCount" "I" (.int (0 : Int32)) := D5 (Or.inl (hw _ (List.mem_of_getElem? (i := 23) rfl))) (ty := .int) (by decide)
  have f10 : Fld Z h5 zL "java/util/ArrayList" "elementData" "[Ljava/lang/Object;" .null := D5 (Or.inl (hw _ (List.mem_of_getElem? (i := 26) rfl))) (ty := (.array (.object "java/lang/Object"))) (by decide)
  show own_WP _ _ _ _ T5 (mkF m 7 #[.val (.int zt), .val (.int zn), .val (.ref zA), .unset, .unset, .unset, .unset, .unset, .unset, .unset] [(.ref zL)])
  refine own_go (fun t k => XS.dup X5.here hx rfl (hb hby at_7) rfl rfl k) ?_
  show own_WP _ _ _ _ T5 (mkF m 8 #[.val (.int zt), .val (.int zn), .val (.ref zA), .unset, .unset, .unset, .unset, .unset, .unset, .unset] [(.ref zL), (.ref zL)])
  obtain ⟨_, _, ⟨T11, L11, k11, n11⟩, -, X11, ⟨Lc11, hQ11, l11, y11, z11⟩, st11⟩ := X5.specialBack hx (y := (⟨"java/util/ArrayList", "<init>", "()V"⟩ : MethodName)) rfl hown (mvT hZ (hw _ (List.mem_of_getElem? (i := 4) rfl))) (mvT hZ (hw _ (List.mem_of_getElem? (i := 5) rfl))) (mvT hZ (hw _ (List.mem_of_getElem? (i := 6) rfl))) (by decide) (backOf (W := 1) (rm1 l Z a0 hw [] zL (.int (0 : Int32)) .null zE h5 n0 (own_le Z0 K8) A5 f9 f10 f6 P1 g_zL) hZ (hw _ (List.mem_of_getElem? (i := 6) rfl)) (hw _ (List.mem_of_getElem? (i := 3) rfl)) (by decide) (by decide)) (g := (mkF m 8 #[.val (.int zt), .val (.int zn), .val (.ref zA), .unset, .unset, .unset, .unset, .unset, .unset, .unset] [(.ref zL), (.ref zL)])) rfl (by rw [hml]; rfl) (Steps.refl _) (a := zL) (argsL := []) (rest := [(.ref zL)]) (lenOf own_pd91897 rfl) rfl (by show 2 * 0 + _ ≤ _; exact Nat.le_of_eq rfl) (hb hby at_8) (fun _ _ => ⟨rfl, e5, (by decide : 2 + 0 ≤ _), (by decide : 3 + 0 ≤ _)⟩)
  dsimp only [Pt.U, Pt.locs, Pt.cells, Pt.slots] at X11 l11 y11 z11 st11 hQ11
  subst l11 y11 z11
  obtain ⟨rfl, N11q, Kc11, f12⟩ := hQ11
  have N11 := Fr.app N0 N11q
  refine own_tr st11 ?_
  have f13 : Old Z n0 T11.heap := f6.keep Kc11 (fun x hx => by cases List.mem_singleton.mp hx; exact g_zL)
  have f14 : Arv Z T11.heap zA k1 .byte (0 : Int32) [] (.int (0 : Int32)) := f7.keep Kc11 (own_nm ne_zA_zL)
  have f15 : Exa Z T11.heap zL "java/util/ArrayList" := A5.keep Kc11
  have K18 : Keep h0 T11.heap [] := K8.trans Kc11 (fun x hx => by cases List.mem_singleton.mp hx; exact Or.inr sz_zL)
  show own_WP _ _ _ _ T11 (mkF m 11 #[.val (.int zt), .val (.int zn), .val (.ref zA), .unset, .unset, .unset, .unset, .unset, .unset, .unset] [(.ref zL)])
  refine own_go (fun t k => XS.astoreN X11.here hx rfl (hb hby at_11) rfl rfl (l' := #[.val (.int zt), .val (.int zn), .val (.ref zA), .val (.ref zL), .unset, .unset, .unset, .unset, .unset, .unset]) rfl k) ?_
  show own_WP _ _ _ _ T11 (mkF m 12 #[.val (.int zt), .val (.int zn), .val (.ref zA), .val (.ref zL), .unset, .unset, .unset, .unset, .unset, .unset] [])
  refine own_go (fun t k => XS.iloadN X11.here hx rfl (hb hby at_12) rfl  k) ?_
  show own_WP _ _ _ _ T11 (mkF m 13 #[.val (.int zt), .val (.int zn), .val (.ref zA), .val (.ref zL), .unset, .unset, .unset, .unset, .unset, .unset] [(.int zn)])
  refine own_go (fun t k => XS.bipush X11.here hx rfl (hb hby at_13) k) ?_
  show own_WP _ _ _ _ T11 (mkF m 15 #[.val (.int zt), .val (.int zn), .val (.ref zA), .val (.ref zL), .unset, .unset, .unset, .unset, .unset, .unset] [(.int (31 : Int32)), (.int zn)])
  refine own_go (fun t k => XS.iand X11.here hx rfl (hb hby at_15) rfl k) ?_
  show own_WP _ _ _ _ T11 (mkF m 16 #[.val (.int zt), .val (.int zn), .val (.ref zA), .val (.ref zL), .unset, .unset, .unset, .unset, .unset, .unset] [(.int (zn &&& (31 : Int32)))])
  generalize d_zk : (zn &&& (31 : Int32)) = zk
  refine own_go (fun t k => XS.istore X11.here hx rfl (hb hby at_16) rfl (l' := #[.val (.int zt), .val (.int zn), .val (.ref zA), .val (.ref zL), .val (.int zk), .unset, .unset, .unset, .unset, .unset]) rfl k) ?_
  show own_WP _ _ _ _ T11 (mkF m 18 #[.val (.int zt), .val (.int zn), .val (.ref zA), .val (.ref zL), .val (.int zk), .unset, .unset, .unset, .unset, .unset] [])
  refine own_go (fun t k => XS.iloadN X11.here hx rfl (hb hby at_18) rfl  k) ?_
  show own_WP _ _ _ _ T11 (mkF m 19 #[.val (.int zt), .val (.int zn), .val (.ref zA), .val (.ref zL), .val (.int zk), .unset, .unset, .unset, .unset, .unset] [(.int zt)])
  refine own_go (fun t k => XS.iconst X11.here hx rfl (hb hby at_19) k) ?_
  show own_WP _ _ _ _ T11 (mkF m 20 #[.val (.int zt), .val (.int zn), .val (.ref zA), .val (.ref zL), .val (.int zk), .unset, .unset, .unset, .unset, .unset] [(.int (5 : Int32)), (.int zt)])
  refine own_go (fun t k => XS.iushr X11.here hx rfl (hb hby at_20) rfl k) ?_
  show own_WP _ _ _ _ T11 (mkF m 21 #[.val (.int zt), .val (.int zn), .val (.ref zA), .val (.ref zL), .val (.int zk), .unset, .unset, .unset, .unset, .unset] [(.int ((zt.toUInt32 >>> ((5 : Int32) &&& 31).toUInt32).toInt32))])
  refine own_go (fun t k => XS.iconst X11.here hx rfl (hb hby at_21) k) ?_
  show own_WP _ _ _ _ T11 (mkF m 22 #[.val (.int zt), .val (.int zn), .val (.ref zA), .val (.ref zL), .val (.int zk), .unset, .unset, .unset, .unset, .unset] [(.int (1 : Int32)), (.int ((zt.toUInt32 >>> ((5 : Int32) &&& 31).toUInt32).toInt32))])
  refine own_go (fun t k => XS.iand X11.here hx rfl (hb hby at_22) rfl k) ?_
  show own_WP _ _ _ _ T11 (mkF m 23 #[.val (.int zt), .val (.int zn), .val (.ref zA), .val (.ref zL), .val (.int zk), .unset, .unset, .unset, .unset, .unset] [(.int (((zt.toUInt32 >>> ((5 : Int32) &&& 31).toUInt32).toInt32) &&& (1 : Int32)))])
  refine own_go (fun t k => XS.iconst X11.here hx rfl (hb hby at_23) k) ?_
  show own_WP _ _ _ _ T11 (mkF m 24 #[.val (.int zt), .val (.int zn), .val (.ref zA), .val (.ref zL), .val (.int zk), .unset, .unset, .unset, .unset, .unset] [(.int (1 : Int32)), (.int (((zt.toUInt32 >>> ((5 : Int32) &&& 31).toUInt32).toInt32) &&& (1 : Int32)))])
  by_cases hc24 : (((zt.toUInt32 >>> ((5 : Int32) &&& 31).toUInt32).toInt32) &&& (1 : Int32)) = (1 : Int32)
  · refine own_go (fun t k => XS.icmpNo X11.here hx rfl (hb hby at_24) rfl (teq hc24).2 k) ?_
    show own_WP _ _ _ _ T11 (mkF m 27 #[.val (.int zt), .val (.int zn), .val (.ref zA), .val (.ref zL), .val (.int zk), .unset, .unset, .unset, .unset, .unset] [])
    refine own_go (fun t k => XS.iconst X11.here hx rfl (hb hby at_27) k) ?_
    show own_WP _ _ _ _ T11 (mkF m 28 #[.val (.int zt), .val (.int zn), .val (.ref zA), .val (.ref zL), .val (.int zk), .unset, .unset, .unset, .unset, .unset] [(.int (1 : Int32))])
    refine own_go (fun t k => XS.goto X11.here hx rfl (pc0 := 28) (pc' := 32) rfl (hb hby at_28) (by decide) (by decide) k) ?_
    show own_WP _ _ _ _ T11 (mkF m 32 #[.val (.int zt), .val (.int zn), .val (.ref zA), .val (.ref zL), .val (.int zk), .unset, .unset, .unset, .unset, .unset] [(.int (1 : Int32))])
    refine own_go (fun t k => XS.istore X11.here hx rfl (hb hby at_32) rfl (l' := #[.val (.int zt), .val (.int zn), .val (.ref zA), .val (.ref zL), .val (.int zk), .val (.int (1 : Int32)), .unset, .unset, .unset, .unset]) rfl k) ?_
    show own_WP _ _ _ _ T11 (mkF m 34 #[.val (.int zt), .val (.int zn), .val (.ref zA), .val (.ref zL), .val (.int zk), .val (.int (1 : Int32)), .unset, .unset, .unset, .unset] [])
    obtain ⟨T19, h19, X19, e19, E19, A19, D19, -, st19⟩ := newO X11 hx hZ hown (hw _ (List.mem_of_getElem? (i := 27) rfl)) (hw _ (List.mem_of_getElem? (i := 28) rfl)) (hw _ (List.mem_of_getElem? (i := 29) rfl)) rfl (g := (mkF m 34 #[.val (.int zt), .val (.int zn), .val (.ref zA), .val (.ref zL), .val (.int zk), .val (.int (1 : Int32)), .unset, .unset, .unset, .unset] [])) rfl (hb hby at_34) (by decide) (by decide)
    obtain ⟨zo1, q19⟩ : ∃ z, z = T11.heap.size := ⟨_, rfl⟩
    rw [← q19] at A19 D19 st19
    refine own_go st19 ?_
    have g_zo1 : n0 ≤ zo1 := Nat.le_trans (own_le Z0 K18) (Nat.le_of_eq q19.symm)
    have sz_zo1 : h0.size ≤ zo1 := Nat.le_trans K18.1 (Nat.le_of_eq q19.symm)
    have K20 : Keep h0 h19 [] := K18.ext E19
    have f21 : Fld Z h19 zo1 "com/example/kuvert/kuvert/cms/Der$Element" "tag" "I" (.int (0 : Int32)) := D19 (Or.inr (hw _ (List.mem_of_getElem? (i := 40) rfl))) (ty := .int) (by decide)
    have f22 : Fld Z h19 zo1 "com/example/kuvert/kuvert/cms/Der$Element" "content" "[B" .null := D19 (Or.inr (hw _ (List.mem_of_getElem? (i := 42) rfl))) (ty := (.array .byte)) (by decide)
    have f23 : Fld Z h19 zo1 "com/example/kuvert/kuvert/cms/Der$Element" "elements" "Ljava/util/List;" .null := D19 (Or.inr (hw _ (List.mem_of_getElem? (i := 44) rfl))) (ty := (.object "java/util/List")) (by decide)
    show own_WP _ _ _ _ T19 (mkF m 37 #[.val (.int zt), .val (.int zn), .val (.ref zA), .val (.ref zL), .val (.int zk), .val (.int (1 : Int32)), .unset, .unset, .unset, .unset] [(.ref zo1)])
    refine own_go (fun t k => XS.dup X19.here hx rfl (hb hby at_37) rfl rfl k) ?_
    show own_WP _ _ _ _ T19 (mkF m 38 #[.val (.int zt), .val (.int zn), .val (.ref zA), .val (.ref zL), .val (.int zk), .val (.int (1 : Int32)), .unset, .unset, .unset, .unset] [(.ref zo1), (.ref zo1)])
    refine own_go (fun t k => XS.iloadN X19.here hx rfl (hb hby at_38) rfl  k) ?_
    show own_WP _ _ _ _ T19 (mkF m 39 #[.val (.int zt), .val (.int zn), .val (.ref zA), .val (.ref zL), .val (.int zk), .val (.int (1 : Int32)), .unset, .unset, .unset, .unset] [(.int zt), (.ref zo1), (.ref zo1)])
    refine own_go (fun t k => XS.aloadN X19.here hx rfl (hb hby at_39) rfl rfl  k) ?_
    show own_WP _ _ _ _ T19 (mkF m 40 #[.val (.int zt), .val (.int zn), .val (.ref zA), .val (.ref zL), .val (.int zk), .val (.int (1 : Int32)), .unset, .unset, .unset, .unset] [(.ref zA), (.int zt), (.ref zo1), (.ref zo1)])
    refine own_go (fun t k => XS.aloadN X19.here hx rfl (hb hby at_40) rfl rfl  k) ?_
    show own_WP _ _ _ _ T19 (mkF m 41 #[.val (.int zt), .val (.int zn), .val (.ref zA), .val (.ref zL), .val (.int zk), .val (.int (1 : Int32)), .unset, .unset, .unset, .unset] [(.ref zL), (.ref zA), (.int zt), (.ref zo1), (.ref zo1)])
    obtain ⟨_, _, ⟨T24, L24, k24, n24⟩, -, X24, ⟨Lc24, hQ24, l24, y24, z24⟩, st24⟩ := X19.specialBack hx (y := (⟨"com/example/kuvert/kuvert/cms/Der$Element", "<init>", "(I[BLjava/util/List;)V"⟩ : MethodName)) rfl hown (mvT hZ (hw _ (List.mem_of_getElem? (i := 30) rfl))) (mvT hZ (hw _ (List.mem_of_getElem? (i := 31) rfl))) (mvT hZ (hw _ (List.mem_of_getElem? (i := 32) rfl))) (by decide) (backOf (W := 1) (rm5 l Z a0 hw [] zo1 zt zA zL (.int (0 : Int32)) .null .null h19 n0 (own_le Z0 K20) A19 f21 f22 f23 g_zo1) hZ (hw _ (List.mem_of_getElem? (i := 32) rfl)) (hw _ (List.mem_of_getElem? (i := 29) rfl)) (by decide) (by decide)) (g := (mkF m 41 #[.val (.int zt), .val (.int zn), .val (.ref zA), .val (.ref zL), .val (.int zk), .val (.int (1 : Int32)), .unset, .unset, .unset, .unset] [(.ref zL), (.ref zA), (.int zt), (.ref zo1), (.ref zo1)])) rfl (by rw [hml]; rfl) (Steps.refl _) (a := zo1) (argsL := [(.int zt), (.ref zA), (.ref zL)]) (rest := [(.ref zo1)]) (lenOf own_pd6974 rfl) rfl (by show 2 * 0 + _ ≤ _; exact Nat.le_of_eq rfl) (hb hby at_41) (fun _ _ => ⟨rfl, e19, (by decide : 3 + 0 ≤ _), (by decide : 6 + 0 ≤ _)⟩)
    dsimp only [Pt.U, Pt.locs, Pt.cells, Pt.slots] at X24 l24 y24 z24 st24 hQ24
    subst l24 y24 z24
    obtain ⟨rfl, N24q, Kc24, f25, f26⟩ := hQ24
    have N24 := Fr.app N11 N24q
    refine own_tr st24 ?_
    have f27 : Exa Z T24.heap zo1 "com/example/kuvert/kuvert/cms/Der$Element" := A19.keep Kc24
    have K31 : Keep h0 T24.heap [] := K20.trans Kc24 (fun x hx => by cases List.mem_singleton.mp hx; exact Or.inr sz_zo1)
    show own_WP _ _ _ _ T24 (mkF m 44 #[.val (.int zt), .val (.int zn), .val (.ref zA), .val (.ref zL), .val (.int zk), .val (.int (1 : Int32)), .unset, .unset, .unset, .unset] [(.ref zo1)])
    refine own_go (fun t k => XS.astore X24.here hx rfl (hb hby at_44) rfl rfl (l' := #[.val (.int zt), .val (.int zn), .val (.ref zA), .val (.ref zL), .val (.int zk), .val (.int (1 : Int32)), .val (.ref zo1), .unset, .unset, .unset]) rfl k) ?_
    show own_WP _ _ _ _ T24 (mkF m 46 #[.val (.int zt), .val (.int zn), .val (.ref zA), .val (.ref zL), .val (.int zk), .val (.int (1 : Int32)), .val (.ref zo1), .unset, .unset, .unset] [])
    obtain ⟨T32, h32, X32, e32, E32, A32, D32, -, st32⟩ := newO X24 hx hZ hown (hw _ (List.mem_of_getElem? (i := 27) rfl)) (hw _ (List.mem_of_getElem? (i := 28) rfl)) (hw _ (List.mem_of_getElem? (i := 29) rfl)) rfl (g := (mkF m 46 #[.val (.int zt), .val (.int zn), .val (.ref zA), .val (.ref zL), .val (.int zk), .val (.int (1 : Int32)), .val (.ref zo1), .unset, .unset, .unset] [])) rfl (hb hby at_46) (by decide) (by decide)
    obtain ⟨zo2, q32⟩ : ∃ z, z = T24.heap.size := ⟨_, rfl⟩
    rw [← q32] at A32 D32 st32
    refine own_go st32 ?_
    have g_zo2 : n0 ≤ zo2 := Nat.le_trans (own_le Z0 K31) (Nat.le_of_eq q32.symm)
    have sz_zo2 : h0.size ≤ zo2 := Nat.le_trans K31.1 (Nat.le_of_eq q32.symm)
    have ne_zo1_zo2 : zo1 ≠ zo2 := Nat.ne_of_lt (Nat.lt_of_lt_of_le f25.lt (Nat.le_of_eq q32.symm))
    have f33 : Exa Z h32 zo1 "com/example/kuvert/kuvert/cms/Der$Element" := f25.ext E32
    have f34 : Fld Z h32 zo1 "com/example/kuvert/kuvert/cms/Der$Element" "tag" "I" (.int zt) := f26.ext E32
    have K35 : Keep h0 h32 [] := K31.ext E32
    have f36 : Fld Z h32 zo2 "com/example/kuvert/kuvert/cms/Der$Element" "tag" "I" (.int (0 : Int32)) := D32 (Or.inr (hw _ (List.mem_of_getElem? (i := 40) rfl))) (ty := .int) (by decide)
    have f37 : Fld Z h32 zo2 "com/example/kuvert/kuvert/cms/Der$Element" "content" "[B" .null := D32 (Or.inr (hw _ (List.mem_of_getElem? (i := 42) rfl))) (ty := (.array .byte)) (by decide)
    have f38 : Fld Z h32 zo2 "com/example/kuvert/kuvert/cms/Der$Element" "elements" "Ljava/util/List;" .null := D32 (Or.inr (hw _ (List.mem_of_getElem? (i := 44) rfl))) (ty := (.object "java/util/List")) (by decide)
    show own_WP _ _ _ _ T32 (mkF m 49 #[.val (.int zt), .val (.int zn), .val (.ref zA), .val (.ref zL), .val (.int zk), .val (.int (1 : Int32)), .val (.ref zo1), .unset, .unset, .unset] [(.ref zo2)])
    refine own_go (fun t k => XS.dup X32.here hx rfl (hb hby at_49) rfl rfl k) ?_
    show own_WP _ _ _ _ T32 (mkF m 50 #[.val (.int zt), .val (.int zn), .val (.ref zA), .val (.ref zL), .val (.int zk), .val (.int (1 : Int32)), .val (.ref zo1), .unset, .unset, .unset] [(.ref zo2), (.ref zo2)])
    refine own_go (fun t k => XS.iload X32.here hx rfl (hb hby at_50) rfl  k) ?_
    show own_WP _ _ _ _ T32 (mkF m 52 #[.val (.int zt), .val (.int zn), .val (.ref zA), .val (.ref zL), .val (.int zk), .val (.int (1 : Int32)), .val (.ref zo1), .unset, .unset, .unset] [(.int zk), (.ref zo2), (.ref zo2)])
    obtain ⟨_, _, ⟨T39, L39, k39, n39⟩, -, X39, ⟨Lc39, hQ39, l39, y39, z39⟩, st39⟩ := Jvm.LawKit.callS X32 hx (y := (⟨"com/example/kuvert/kuvert/cms/Der", "context", "(I)I"⟩ : MethodName)) hown (mvT hZ (hw _ (List.mem_of_getElem? (i := 45) rfl))) (mvT hZ (hw _ (List.mem_of_getElem? (i := 46) rfl))) (mvT hZ (hw _ (List.mem_of_getElem? (i := 47) rfl))) (mvT hZ (hw _ (List.mem_of_getElem? (i := 48) rfl))) (by decide) (backOf (W := 2) (rm7 l Z a0 hw [] zk  h32 n0 (own_le Z0 K35) ) hZ (hw _ (List.mem_of_getElem? (i := 48) rfl)) (hw _ (List.mem_of_getElem? (i := 47) rfl)) (by decide) (by decide)) (g := (mkF m 52 #[.val (.int zt), .val (.int zn), .val (.ref zA), .val (.ref zL), .val (.int zk), .val (.int (1 : Int32)), .val (.ref zo1), .unset, .unset, .unset] [(.int zk), (.ref zo2), (.ref zo2)])) rfl (by rw [hml]; rfl) (argsL := [(.int zk)]) (rest := [(.ref zo2), (.ref zo2)]) (lenOf own_pd81837 rfl) rfl (by show 2 * 0 + _ ≤ _; exact Nat.le_of_eq rfl) (hb hby at_52) (fun _ _ => ⟨rfl, e32, (by decide : 4 + 0 ≤ _), (by decide : 9 + 0 ≤ _)⟩)
    dsimp only [Pt.U, Pt.locs, Pt.cells, Pt.slots] at X39 l39 y39 z39 st39 hQ39
    subst l39 y39 z39
    obtain ⟨rfl, N39q, eq39⟩ := hQ39
    have N39 := Fr.app N24 N39q
    refine own_go st39 ?_
    show own_WP _ _ _ _ T39 (mkF m 55 #[.val (.int zt), .val (.int zn), .val (.ref zA), .val (.ref zL), .val (.int zk), .val (.int (1 : Int32)), .val (.ref zo1), .unset, .unset, .unset] [(.int ((128 : Int32) ||| zk)), (.ref zo2), (.ref zo2)])
    refine own_go (fun t k => XS.aloadN X39.here hx rfl (hb hby at_55) rfl rfl  k) ?_
    show own_WP _ _ _ _ T39 (mkF m 56 #[.val (.int zt), .val (.int zn), .val (.ref zA), .val (.ref zL), .val (.int zk), .val (.int (1 : Int32)), .val (.ref zo1), .unset, .unset, .unset] [(.ref zA), (.int ((128 : Int32) ||| zk)), (.ref zo2), (.ref zo2)])
    refine own_go (fun t k => XS.aloadN X39.here hx rfl (hb hby at_56) rfl rfl  k) ?_
    show own_WP _ _ _ _ T39 (mkF m 57 #[.val (.int zt), .val (.int zn), .val (.ref zA), .val (.ref zL), .val (.int zk), .val (.int (1 : Int32)), .val (.ref zo1), .unset, .unset, .unset] [(.ref zL), (.ref zA), (.int ((128 : Int32) ||| zk)), (.ref zo2), (.ref zo2)])
    obtain ⟨_, _, ⟨T40, L40, k40, n40⟩, -, X40, ⟨Lc40, hQ40, l40, y40, z40⟩, st40⟩ := X39.specialBack hx (y := (⟨"com/example/kuvert/kuvert/cms/Der$Element", "<init>", "(I[BLjava/util/List;)V"⟩ : MethodName)) rfl hown (mvT hZ (hw _ (List.mem_of_getElem? (i := 30) rfl))) (mvT hZ (hw _ (List.mem_of_getElem? (i := 31) rfl))) (mvT hZ (hw _ (List.mem_of_getElem? (i := 32) rfl))) (by decide) (backOf (W := 1) (rm5 l Z a0 hw [] zo2 ((128 : Int32) ||| zk) zA zL (.int (0 : Int32)) .null .null h32 n0 (own_le Z0 K35) A32 f36 f37 f38 g_zo2) hZ (hw _ (List.mem_of_getElem? (i := 32) rfl)) (hw _ (List.mem_of_getElem? (i := 29) rfl)) (by decide) (by decide)) (g := (mkF m 57 #[.val (.int zt), .val (.int zn), .val (.ref zA), .val (.ref zL), .val (.int zk), .val (.int (1 : Int32)), .val (.ref zo1), .unset, .unset, .unset] [(.ref zL), (.ref zA), (.int ((128 : Int32) ||| zk)), (.ref zo2), (.ref zo2)])) rfl (by rw [hml]; rfl) (Steps.refl _) (a := zo2) (argsL := [(.int ((128 : Int32) ||| zk)), (.ref zA), (.ref zL)]) (rest := [(.ref zo2)]) (lenOf own_pd6974 rfl) rfl (by show 2 * 0 + _ ≤ _; exact Nat.le_of_eq rfl) (hb hby at_57) (fun _ _ => ⟨rfl, eq39, (by decide : 4 + 0 ≤ _), (by decide : 9 + 0 ≤ _)⟩)
    dsimp only [Pt.U, Pt.locs, Pt.cells, Pt.slots] at X40 l40 y40 z40 st40 hQ40
    subst l40 y40 z40
    obtain ⟨rfl, N40q, Kc40, f41, f42⟩ := hQ40
    have N40 := Fr.app N39 N40q
    refine own_tr st40 ?_
    have f43 : Exa Z T40.heap zo1 "com/example/kuvert/kuvert/cms/Der$Element" := f33.keep Kc40
    have f44 : Fld Z T40.heap zo1 "com/example/kuvert/kuvert/cms/Der$Element" "tag" "I" (.int zt) := f34.keep Kc40 (own_nm ne_zo1_zo2)
    have f45 : Exa Z T40.heap zo2 "com/example/kuvert/kuvert/cms/Der$Element" := A32.keep Kc40
    have K49 : Keep h0 T40.heap [] := K35.trans Kc40 (fun x hx => by cases List.mem_singleton.mp hx; exact Or.inr sz_zo2)
    show own_WP _ _ _ _ T40 (mkF m 60 #[.val (.int zt), .val (.int zn), .val (.ref zA), .val (.ref zL), .val (.int zk), .val (.int (1 : Int32)), .val (.ref zo1), .unset, .unset, .unset] [(.ref zo2)])
    refine own_go (fun t k => XS.astore X40.here hx rfl (hb hby at_60) rfl rfl (l' := #[.val (.int zt), .val (.int zn), .val (.ref zA), .val (.ref zL), .val (.int zk), .val (.int (1 : Int32)), .val (.ref zo1), .val (.ref zo2), .unset, .unset]) rfl k) ?_
    show own_WP _ _ _ _ T40 (mkF m 62 #[.val (.int zt), .val (.int zn), .val (.ref zA), .val (.ref zL), .val (.int zk), .val (.int (1 : Int32)), .val (.ref zo1), .val (.ref zo2), .unset, .unset] [])
    obtain ⟨T50, h50, X50, e50, E50, A50, D50, -, st50⟩ := newO X40 hx hZ hown (hw _ (List.mem_of_getElem? (i := 27) rfl)) (hw _ (List.mem_of_getElem? (i := 28) rfl)) (hw _ (List.mem_of_getElem? (i := 29) rfl)) rfl (g := (mkF m 62 #[.val (.int zt), .val (.int zn), .val (.ref zA), .val (.ref zL), .val (.int zk), .val (.int (1 : Int32)), .val (.ref zo1), .val (.ref zo2), .unset, .unset] [])) rfl (hb hby at_62) (by decide) (by decide)
    obtain ⟨zo3, q50⟩ : ∃ z, z = T40.heap.size := ⟨_, rfl⟩
    rw [← q50] at A50 D50 st50
    refine own_go st50 ?_
    have g_zo3 : n0 ≤ zo3 := Nat.le_trans (own_le Z0 K49) (Nat.le_of_eq q50.symm)
    have sz_zo3 : h0.size ≤ zo3 := Nat.le_trans K49.1 (Nat.le_of_eq q50.symm)
    have ne_zo1_zo3 : zo1 ≠ zo3 := Nat.ne_of_lt (Nat.lt_of_lt_of_le f43.lt (Nat.le_of_eq q50.symm))
    have ne_zo2_zo3 : zo2 ≠ zo3 := Nat.ne_of_lt (Nat.lt_of_lt_of_le f41.lt (Nat.le_of_eq q50.symm))
    have f51 : Exa Z h50 zo1 "com/example/kuvert/kuvert/cms/Der$Element" := f43.ext E50
    have f52 : Fld Z h50 zo1 "com/example/kuvert/kuvert/cms/Der$Element" "tag" "I" (.int zt) := f44.ext E50
    have f53 : Exa Z h50 zo2 "com/example/kuvert/kuvert/cms/Der$Element" := f41.ext E50
    have f54 : Fld Z h50 zo2 "com/example/kuvert/kuvert/cms/Der$Element" "tag" "I" (.int ((128 : Int32) ||| zk)) := f42.ext E50
    have K55 : Keep h0 h50 [] := K49.ext E50
    have f56 : Fld Z h50 zo3 "com/example/kuvert/kuvert/cms/Der$Element" "tag" "I" (.int (0 : Int32)) := D50 (Or.inr (hw _ (List.mem_of_getElem? (i := 40) rfl))) (ty := .int) (by decide)
    have f57 : Fld Z h50 zo3 "com/example/kuvert/kuvert/cms/Der$Element" "content" "[B" .null := D50 (Or.inr (hw _ (List.mem_of_getElem? (i := 42) rfl))) (ty := (.array .byte)) (by decide)
    have f58 : Fld Z h50 zo3 "com/example/kuvert/kuvert/cms/Der$Element" "elements" "Ljava/util/List;" .null := D50 (Or.inr (hw _ (List.mem_of_getElem? (i := 44) rfl))) (ty := (.object "java/util/List")) (by decide)
    show own_WP _ _ _ _ T50 (mkF m 65 #[.val (.int zt), .val (.int zn), .val (.ref zA), .val (.ref zL), .val (.int zk), .val (.int (1 : Int32)), .val (.ref zo1), .val (.ref zo2), .unset, .unset] [(.ref zo3)])
    refine own_go (fun t k => XS.dup X50.here hx rfl (hb hby at_65) rfl rfl k) ?_
    show own_WP _ _ _ _ T50 (mkF m 66 #[.val (.int zt), .val (.int zn), .val (.ref zA), .val (.ref zL), .val (.int zk), .val (.int (1 : Int32)), .val (.ref zo1), .val (.ref zo2), .unset, .unset] [(.ref zo3), (.ref zo3)])
    refine own_go (fun t k => XS.iload X50.here hx rfl (hb hby at_66) rfl  k) ?_
    show own_WP _ _ _ _ T50 (mkF m 68 #[.val (.int zt), .val (.int zn), .val (.ref zA), .val (.ref zL), .val (.int zk), .val (.int (1 : Int32)), .val (.ref zo1), .val (.ref zo2), .unset, .unset] [(.int zk), (.ref zo3), (.ref zo3)])
    obtain ⟨_, _, ⟨T59, L59, k59, n59⟩, -, X59, ⟨Lc59, hQ59, l59, y59, z59⟩, st59⟩ := Jvm.LawKit.callS X50 hx (y := (⟨"com/example/kuvert/kuvert/cms/Der", "contextConstructed", "(I)I"⟩ : MethodName)) hown (mvT hZ (hw _ (List.mem_of_getElem? (i := 49) rfl))) (mvT hZ (hw _ (List.mem_of_getElem? (i := 50) rfl))) (mvT hZ (hw _ (List.mem_of_getElem? (i := 47) rfl))) (mvT hZ (hw _ (List.mem_of_getElem? (i := 51) rfl))) (by decide) (backOf (W := 2) (rm8 l Z a0 hw [] zk  h50 n0 (own_le Z0 K55) ) hZ (hw _ (List.mem_of_getElem? (i := 51) rfl)) (hw _ (List.mem_of_getElem? (i := 47) rfl)) (by decide) (by decide)) (g := (mkF m 68 #[.val (.int zt), .val (.int zn), .val (.ref zA), .val (.ref zL), .val (.int zk), .val (.int (1 : Int32)), .val (.ref zo1), .val (.ref zo2), .unset, .unset] [(.int zk), (.ref zo3), (.ref zo3)])) rfl (by rw [hml]; rfl) (argsL := [(.int zk)]) (rest := [(.ref zo3), (.ref zo3)]) (lenOf own_pd81837 rfl) rfl (by show 2 * 0 + _ ≤ _; exact Nat.le_of_eq rfl) (hb hby at_68) (fun _ _ => ⟨rfl, e50, (by decide : 5 + 0 ≤ _), (by decide : 12 + 0 ≤ _)⟩)
    dsimp only [Pt.U, Pt.locs, Pt.cells, Pt.slots] at X59 l59 y59 z59 st59 hQ59
    subst l59 y59 z59
    obtain ⟨rfl, N59q, eq59⟩ := hQ59
    have N59 := Fr.app N40 N59q
    refine own_go st59 ?_
    show own_WP _ _ _ _ T59 (mkF m 71 #[.val (.int zt), .val (.int zn), .val (.ref zA), .val (.ref zL), .val (.int zk), .val (.int (1 : Int32)), .val (.ref zo1), .val (.ref zo2), .unset, .unset] [(.int ((160 : Int32) ||| zk)), (.ref zo3), (.ref zo3)])
    refine own_go (fun t k => XS.aloadN X59.here hx rfl (hb hby at_71) rfl rfl  k) ?_
    show own_WP _ _ _ _ T59 (mkF m 72 #[.val (.int zt), .val (.int zn), .val (.ref zA), .val (.ref zL), .val (.int zk), .val (.int (1 : Int32)), .val (.ref zo1), .val (.ref zo2), .unset, .unset] [(.ref zA), (.int ((160 : Int32) ||| zk)), (.ref zo3), (.ref zo3)])
    refine own_go (fun t k => XS.aloadN X59.here hx rfl (hb hby at_72) rfl rfl  k) ?_
    show own_WP _ _ _ _ T59 (mkF m 73 #[.val (.int zt), .val (.int zn), .val (.ref zA), .val (.ref zL), .val (.int zk), .val (.int (1 : Int32)), .val (.ref zo1), .val (.ref zo2), .unset, .unset] [(.ref zL), (.ref zA), (.int ((160 : Int32) ||| zk)), (.ref zo3), (.ref zo3)])
    obtain ⟨_, _, ⟨T60, L60, k60, n60⟩, -, X60, ⟨Lc60, hQ60, l60, y60, z60⟩, st60⟩ := X59.specialBack hx (y := (⟨"com/example/kuvert/kuvert/cms/Der$Element", "<init>", "(I[BLjava/util/List;)V"⟩ : MethodName)) rfl hown (mvT hZ (hw _ (List.mem_of_getElem? (i := 30) rfl))) (mvT hZ (hw _ (List.mem_of_getElem? (i := 31) rfl))) (mvT hZ (hw _ (List.mem_of_getElem? (i := 32) rfl))) (by decide) (backOf (W := 1) (rm5 l Z a0 hw [] zo3 ((160 : Int32) ||| zk) zA zL (.int (0 : Int32)) .null .null h50 n0 (own_le Z0 K55) A50 f56 f57 f58 g_zo3) hZ (hw _ (List.mem_of_getElem? (i := 32) rfl)) (hw _ (List.mem_of_getElem? (i := 29) rfl)) (by decide) (by decide)) (g := (mkF m 73 #[.val (.int zt), .val (.int zn), .val (.ref zA), .val (.ref zL), .val (.int zk), .val (.int (1 : Int32)), .val (.ref zo1), .val (.ref zo2), .unset, .unset] [(.ref zL), (.ref zA), (.int ((160 : Int32) ||| zk)), (.ref zo3), (.ref zo3)])) rfl (by rw [hml]; rfl) (Steps.refl _) (a := zo3) (argsL := [(.int ((160 : Int32) ||| zk)), (.ref zA), (.ref zL)]) (rest := [(.ref zo3)]) (lenOf own_pd6974 rfl) rfl (by show 2 * 0 + _ ≤ _; exact Nat.le_of_eq rfl) (hb hby at_73) (fun _ _ => ⟨rfl, eq59, (by decide : 5 + 0 ≤ _), (by decide : 12 + 0 ≤ _)⟩)
    dsimp only [Pt.U, Pt.locs, Pt.cells, Pt.slots] at X60 l60 y60 z60 st60 hQ60
    subst l60 y60 z60
    obtain ⟨rfl, N60q, Kc60, f61, f62⟩ := hQ60
    have N60 := Fr.app N59 N60q
    refine own_tr st60 ?_
    have f63 : Exa Z T60.heap zo1 "com/example/kuvert/kuvert/cms/Der$Element" := f51.keep Kc60
    have f64 : Fld Z T60.heap zo1 "com/example/kuvert/kuvert/cms/Der$Element" "tag" "I" (.int zt) := f52.keep Kc60 (own_nm ne_zo1_zo3)
    have f65 : Exa Z T60.heap zo2 "com/example/kuvert/kuvert/cms/Der$Element" := f53.keep Kc60
    have f66 : Fld Z T60.heap zo2 "com/example/kuvert/kuvert/cms/Der$Element" "tag" "I" (.int ((128 : Int32) ||| zk)) := f54.keep Kc60 (own_nm ne_zo2_zo3)
    have f67 : Exa Z T60.heap zo3 "com/example/kuvert/kuvert/cms/Der$Element" := A50.keep Kc60
    have K71 : Keep h0 T60.heap [] := K55.trans Kc60 (fun x hx => by cases List.mem_singleton.mp hx; exact Or.inr sz_zo3)
    show own_WP _ _ _ _ T60 (mkF m 76 #[.val (.int zt), .val (.int zn), .val (.ref zA), .val (.ref zL), .val (.int zk), .val (.int (1 : Int32)), .val (.ref zo1), .val (.ref zo2), .unset, .unset] [(.ref zo3)])
    refine own_go (fun t k => XS.astore X60.here hx rfl (hb hby at_76) rfl rfl (l' := #[.val (.int zt), .val (.int zn), .val (.ref zA), .val (.ref zL), .val (.int zk), .val (.int (1 : Int32)), .val (.ref zo1), .val (.ref zo2), .val (.ref zo3), .unset]) rfl k) ?_
    show own_WP _ _ _ _ T60 (mkF m 78 #[.val (.int zt), .val (.int zn), .val (.ref zA), .val (.ref zL), .val (.int zk), .val (.int (1 : Int32)), .val (.ref zo1), .val (.ref zo2), .val (.ref zo3), .unset] [])
    obtain ⟨T72, h72, X72, e72, E72, A72, D72, -, st72⟩ := newO X60 hx hZ hown (hw _ (List.mem_of_getElem? (i := 27) rfl)) (hw _ (List.mem_of_getElem? (i := 28) rfl)) (hw _ (List.mem_of_getElem? (i := 29) rfl)) rfl (g := (mkF m 78 #[.val (.int zt), .val (.int zn), .val (.ref zA), .val (.ref zL), .val (.int zk), .val (.int (1 : Int32)), .val (.ref zo1), .val (.ref zo2), .val (.ref zo3), .unset] [])) rfl (hb hby at_78) (by decide) (by decide)
    obtain ⟨zo4, q72⟩ : ∃ z, z = T60.heap.size := ⟨_, rfl⟩
    rw [← q72] at A72 D72 st72
    refine own_go st72 ?_
    have g_zo4 : n0 ≤ zo4 := Nat.le_trans (own_le Z0 K71) (Nat.le_of_eq q72.symm)
    have sz_zo4 : h0.size ≤ zo4 := Nat.le_trans K71.1 (Nat.le_of_eq q72.symm)
    have ne_zo1_zo4 : zo1 ≠ zo4 := Nat.ne_of_lt (Nat.lt_of_lt_of_le f63.lt (Nat.le_of_eq q72.symm))
    have ne_zo2_zo4 : zo2 ≠ zo4 := Nat.ne_of_lt (Nat.lt_of_lt_of_le f65.lt (Nat.le_of_eq q72.symm))
    have ne_zo3_zo4 : zo3 ≠ zo4 := Nat.ne_of_lt (Nat.lt_of_lt_of_le f61.lt (Nat.le_of_eq q72.symm))
    have f73 : Exa Z h72 zo1 "com/example/kuvert/kuvert/cms/Der$Element" := f63.ext E72
    have f74 : Fld Z h72 zo1 "com/example/kuvert/kuvert/cms/Der$Element" "tag" "I" (.int zt) := f64.ext E72
    have f75 : Exa Z h72 zo2 "com/example/kuvert/kuvert/cms/Der$Element" := f65.ext E72
    have f76 : Fld Z h72 zo2 "com/example/kuvert/kuvert/cms/Der$Element" "tag" "I" (.int ((128 : Int32) ||| zk)) := f66.ext E72
    have f77 : Exa Z h72 zo3 "com/example/kuvert/kuvert/cms/Der$Element" := f61.ext E72
    have f78 : Fld Z h72 zo3 "com/example/kuvert/kuvert/cms/Der$Element" "tag" "I" (.int ((160 : Int32) ||| zk)) := f62.ext E72
    have K79 : Keep h0 h72 [] := K71.ext E72
    have f80 : Fld Z h72 zo4 "com/example/kuvert/kuvert/cms/Der$Element" "tag" "I" (.int (0 : Int32)) := D72 (Or.inr (hw _ (List.mem_of_getElem? (i := 40) rfl))) (ty := .int) (by decide)
    have f81 : Fld Z h72 zo4 "com/example/kuvert/kuvert/cms/Der$Element" "content" "[B" .null := D72 (Or.inr (hw _ (List.mem_of_getElem? (i := 42) rfl))) (ty := (.array .byte)) (by decide)
    have f82 : Fld Z h72 zo4 "com/example/kuvert/kuvert/cms/Der$Element" "elements" "Ljava/util/List;" .null := D72 (Or.inr (hw _ (List.mem_of_getElem? (i := 44) rfl))) (ty := (.object "java/util/List")) (by decide)
    show own_WP _ _ _ _ T72 (mkF m 81 #[.val (.int zt), .val (.int zn), .val (.ref zA), .val (.ref zL), .val (.int zk), .val (.int (1 : Int32)), .val (.ref zo1), .val (.ref zo2), .val (.ref zo3), .unset] [(.ref zo4)])
    refine own_go (fun t k => XS.dup X72.here hx rfl (hb hby at_81) rfl rfl k) ?_
    show own_WP _ _ _ _ T72 (mkF m 82 #[.val (.int zt), .val (.int zn), .val (.ref zA), .val (.ref zL), .val (.int zk), .val (.int (1 : Int32)), .val (.ref zo1), .val (.ref zo2), .val (.ref zo3), .unset] [(.ref zo4), (.ref zo4)])
    refine own_go (fun t k => XS.bipush X72.here hx rfl (hb hby at_82) k) ?_
    show own_WP _ _ _ _ T72 (mkF m 84 #[.val (.int zt), .val (.int zn), .val (.ref zA), .val (.ref zL), .val (.int zk), .val (.int (1 : Int32)), .val (.ref zo1), .val (.ref zo2), .val (.ref zo3), .unset] [(.int (48 : Int32)), (.ref zo4), (.ref zo4)])
    refine own_go (fun t k => XS.aloadN X72.here hx rfl (hb hby at_84) rfl rfl  k) ?_
    show own_WP _ _ _ _ T72 (mkF m 85 #[.val (.int zt), .val (.int zn), .val (.ref zA), .val (.ref zL), .val (.int zk), .val (.int (1 : Int32)), .val (.ref zo1), .val (.ref zo2), .val (.ref zo3), .unset] [(.ref zA), (.int (48 : Int32)), (.ref zo4), (.ref zo4)])
    refine own_go (fun t k => XS.aloadN X72.here hx rfl (hb hby at_85) rfl rfl  k) ?_
    show own_WP _ _ _ _ T72 (mkF m 86 #[.val (.int zt), .val (.int zn), .val (.ref zA), .val (.ref zL), .val (.int zk), .val (.int (1 : Int32)), .val (.ref zo1), .val (.ref zo2), .val (.ref zo3), .unset] [(.ref zL), (.ref zA), (.int (48 : Int32)), (.ref zo4), (.ref zo4)])
    obtain ⟨_, _, ⟨T83, L83, k83, n83⟩, -, X83, ⟨Lc83, hQ83, l83, y83, z83⟩, st83⟩ := X72.specialBack hx (y := (⟨"com/example/kuvert/kuvert/cms/Der$Element", "<init>", "(I[BLjava/util/List;)V"⟩ : MethodName)) rfl hown (mvT hZ (hw _ (List.mem_of_getElem? (i := 30) rfl))) (mvT hZ (hw _ (List.mem_of_getElem? (i := 31) rfl))) (mvT hZ (hw _ (List.mem_of_getElem? (i := 32) rfl))) (by decide) (backOf (W := 1) (rm5 l Z a0 hw [] zo4 (48 : Int32) zA zL (.int (0 : Int32)) .null .null h72 n0 (own_le Z0 K79) A72 f80 f81 f82 g_zo4) hZ (hw _ (List.mem_of_getElem? (i := 32) rfl)) (hw _ (List.mem_of_getElem? (i := 29) rfl)) (by decide) (by decide)) (g := (mkF m 86 #[.val (.int zt), .val (.int zn), .val (.ref zA), .val (.ref zL), .val (.int zk), .val (.int (1 : Int32)), .val (.ref zo1), .val (.ref zo2), .val (.ref zo3), .unset] [(.ref zL), (.ref zA), (.int (48 : Int32)), (.ref zo4), (.ref zo4)])) rfl (by rw [hml]; rfl) (Steps.refl _) (a := zo4) (argsL := [(.int (48 : Int32)), (.ref zA), (.ref zL)]) (rest := [(.ref zo4)]) (lenOf own_pd6974 rfl) rfl (by show 2 * 0 + _ ≤ _; exact Nat.le_of_eq rfl) (hb hby at_86) (fun _ _ => ⟨rfl, e72, (by decide : 6 + 0 ≤ _), (by decide : 15 + 0 ≤ _)⟩)
    dsimp only [Pt.U, Pt.locs, Pt.cells, Pt.slots] at X83 l83 y83 z83 st83 hQ83
    subst l83 y83 z83
    obtain ⟨rfl, N83q, Kc83, f84, f85⟩ := hQ83
    have N83 := Fr.app N60 N83q
    refine own_tr st83 ?_
    have f86 : Exa Z T83.heap zo1 "com/example/kuvert/kuvert/cms/Der$Element" := f73.keep Kc83
    have f87 : Fld Z T83.heap zo1 "com/example/kuvert/kuvert/cms/Der$Element" "tag" "I" (.int zt) := f74.keep Kc83 (own_nm ne_zo1_zo4)
    have f88 : Exa Z T83.heap zo2 "com/example/kuvert/kuvert/cms/Der$Element" := f75.keep Kc83
    have f89 : Fld Z T83.heap zo2 "com/example/kuvert/kuvert/cms/Der$Element" "tag" "I" (.int ((128 : Int32) ||| zk)) := f76.keep Kc83 (own_nm ne_zo2_zo4)
    have f90 : Exa Z T83.heap zo3 "com/example/kuvert/kuvert/cms/Der$Element" := f77.keep Kc83
    have f91 : Fld Z T83.heap zo3 "com/example/kuvert/kuvert/cms/Der$Element" "tag" "I" (.int ((160 : Int32) ||| zk)) := f78.keep Kc83 (own_nm ne_zo3_zo4)
    have f92 : Exa Z T83.heap zo4 "com/example/kuvert/kuvert/cms/Der$Element" := A72.keep Kc83
    have K96 : Keep h0 T83.heap [] := K79.trans Kc83 (fun x hx => by cases List.mem_singleton.mp hx; exact Or.inr sz_zo4)
    show own_WP _ _ _ _ T83 (mkF m 89 #[.val (.int zt), .val (.int zn), .val (.ref zA), .val (.ref zL), .val (.int zk), .val (.int (1 : Int32)), .val (.ref zo1), .val (.ref zo2), .val (.ref zo3), .unset] [(.ref zo4)])
    refine own_go (fun t k => XS.astore X83.here hx rfl (hb hby at_89) rfl rfl (l' := #[.val (.int zt), .val (.int zn), .val (.ref zA), .val (.ref zL), .val (.int zk), .val (.int (1 : Int32)), .val (.ref zo1), .val (.ref zo2), .val (.ref zo3), .val (.ref zo4)]) rfl k) ?_
    show own_WP _ _ _ _ T83 (mkF m 91 #[.val (.int zt), .val (.int zn), .val (.ref zA), .val (.ref zL), .val (.int zk), .val (.int (1 : Int32)), .val (.ref zo1), .val (.ref zo2), .val (.ref zo3), .val (.ref zo4)] [])
    refine own_go (fun t k => XS.aload X83.here hx rfl (hb hby at_91) rfl rfl  k) ?_
    show own_WP _ _ _ _ T83 (mkF m 93 #[.val (.int zt), .val (.int zn), .val (.ref zA), .val (.ref zL), .val (.int zk), .val (.int (1 : Int32)), .val (.ref zo1), .val (.ref zo2), .val (.ref zo3), .val (.ref zo4)] [(.ref zo1)])
    obtain ⟨cq97, kq97, q97a, q97b, q97c⟩ := isOf hZ rfl f86
    obtain ⟨_, _, ⟨T97, L97, k97, n97⟩, -, X97, ⟨Lc97, hQ97, l97, y97, z97⟩, st97⟩ := X83.virtualBack hx (y := (⟨"com/example/kuvert/kuvert/cms/Der$Element", "isConstructed", "()Z"⟩ : MethodName)) (z := (⟨"com/example/kuvert/kuvert/cms/Der$Element", "isConstructed", "()Z"⟩ : MethodName)) hown (mvT hZ (hw _ (List.mem_of_getElem? (i := 52) rfl))) (mvT hZ (hw _ (List.mem_of_getElem? (i := 53) rfl))) (notFace_of_selects (args := #[]) (mvT hZ (hw _ (List.mem_of_getElem? (i := 55) rfl)))) (mvT hZ (hw _ (List.mem_of_getElem? (i := 55) rfl))) (mvT hZ (hw _ (List.mem_of_getElem? (i := 54) rfl))) (by decide) (backOf (W := 0) (rm9 l Z a0 hw [] zo1 zt T83.heap n0 (own_le Z0 K96) f87) hZ (hw _ (List.mem_of_getElem? (i := 56) rfl)) (hw _ (List.mem_of_getElem? (i := 29) rfl)) (by decide) (by decide)) q97a q97c (g := (mkF m 93 #[.val (.int zt), .val (.int zn), .val (.ref zA), .val (.ref zL), .val (.int zk), .val (.int (1 : Int32)), .val (.ref zo1), .val (.ref zo2), .val (.ref zo3), .val (.ref zo4)] [(.ref zo1)])) rfl (by rw [hml]; rfl) (Steps.refl _) (argsL := []) (rest := []) (lenOf own_pd91901 rfl) rfl (by show 2 * 0 + _ ≤ _; exact Nat.le_of_eq rfl) (hb hby at_93) (fun _ _ => ⟨rfl, rfl, (by decide : 6 + 0 ≤ _), (by decide : 15 + 0 ≤ _)⟩)
    dsimp only [Pt.U, Pt.locs, Pt.cells, Pt.slots] at X97 l97 y97 z97 st97 hQ97
    subst l97 y97 z97
    obtain ⟨rfl, N97q, eq97⟩ := hQ97
    have N97 := Fr.app N83 N97q
    refine own_tr st97 ?_
    show own_WP _ _ _ _ T97 (mkF m 96 #[.val (.int zt), .val (.int zn), .val (.ref zA), .val (.ref zL), .val (.int zk), .val (.int (1 : Int32)), .val (.ref zo1), .val (.ref zo2), .val (.ref zo3), .val (.ref zo4)] [(.int (own_ic zt))])
    refine own_go (fun t k => XS.iload X97.here hx rfl (hb hby at_96) rfl  k) ?_
    show own_WP _ _ _ _ T97 (mkF m 98 #[.val (.int zt), .val (.int zn), .val (.ref zA), .val (.ref zL), .val (.int zk), .val (.int (1 : Int32)), .val (.ref zo1), .val (.ref zo2), .val (.ref zo3), .val (.ref zo4)] [(.int (1 : Int32)), (.int (own_ic zt))])
    have hc98 : (own_ic zt) = (1 : Int32) := by
      rw [own_ics, if_pos hc24]
    refine own_go (fun t k => XS.icmpNo X97.here hx rfl (hb hby at_98) rfl (teq hc98).2 k) ?_
    show own_WP _ _ _ _ T97 (mkF m 101 #[.val (.int zt), .val (.int zn), .val (.ref zA), .val (.ref zL), .val (.int zk), .val (.int (1 : Int32)), .val (.ref zo1), .val (.ref zo2), .val (.ref zo3), .val (.ref zo4)] [])
    refine own_go (fun t k => XS.aload X97.here hx rfl (hb hby at_101) rfl rfl  k) ?_
    show own_WP _ _ _ _ T97 (mkF m 103 #[.val (.int zt), .val (.int zn), .val (.ref zA), .val (.ref zL), .val (.int zk), .val (.int (1 : Int32)), .val (.ref zo1), .val (.ref zo2), .val (.ref zo3), .val (.ref zo4)] [(.ref zo2)])
    obtain ⟨cq98, kq98, q98a, q98b, q98c⟩ := isOf hZ eq97 f88
    obtain ⟨_, _, ⟨T98, L98, k98, n98⟩, -, X98, ⟨Lc98, hQ98, l98, y98, z98⟩, st98⟩ := X97.virtualBack hx (y := (⟨"com/example/kuvert/kuvert/cms/Der$Element", "isConstructed", "()Z"⟩ : MethodName)) (z := (⟨"com/example/kuvert/kuvert/cms/Der$Element", "isConstructed", "()Z"⟩ : MethodName)) hown (mvT hZ (hw _ (List.mem_of_getElem? (i := 52) rfl))) (mvT hZ (hw _ (List.mem_of_getElem? (i := 53) rfl))) (notFace_of_selects (args := #[]) (mvT hZ (hw _ (List.mem_of_getElem? (i := 55) rfl)))) (mvT hZ (hw _ (List.mem_of_getElem? (i := 55) rfl))) (mvT hZ (hw _ (List.mem_of_getElem? (i := 54) rfl))) (by decide) (backOf (W := 0) (rm9 l Z a0 hw [] zo2 ((128 : Int32) ||| zk) T83.heap n0 (own_le Z0 K96) f89) hZ (hw _ (List.mem_of_getElem? (i := 56) rfl)) (hw _ (List.mem_of_getElem? (i := 29) rfl)) (by decide) (by decide)) q98a q98c (g := (mkF m 103 #[.val (.int zt), .val (.int zn), .val (.ref zA), .val (.ref zL), .val (.int zk), .val (.int (1 : Int32)), .val (.ref zo1), .val (.ref zo2), .val (.ref zo3), .val (.ref zo4)] [(.ref zo2)])) rfl (by rw [hml]; rfl) (Steps.refl _) (argsL := []) (rest := []) (lenOf own_pd91901 rfl) rfl (by show 2 * 0 + _ ≤ _; exact Nat.le_of_eq rfl) (hb hby at_103) (fun _ _ => ⟨rfl, eq97, (by decide : 6 + 0 ≤ _), (by decide : 15 + 0 ≤ _)⟩)
    dsimp only [Pt.U, Pt.locs, Pt.cells, Pt.slots] at X98 l98 y98 z98 st98 hQ98
    subst l98 y98 z98
    obtain ⟨rfl, N98q, eq98⟩ := hQ98
    have N98 := Fr.app N97 N98q
    refine own_tr st98 ?_
    show own_WP _ _ _ _ T98 (mkF m 106 #[.val (.int zt), .val (.int zn), .val (.ref zA), .val (.ref zL), .val (.int zk), .val (.int (1 : Int32)), .val (.ref zo1), .val (.ref zo2), .val (.ref zo3), .val (.ref zo4)] [(.int (own_ic ((128 : Int32) ||| zk)))])
    have hc106 : (own_ic ((128 : Int32) ||| zk)) = (0 : Int32) := by
      subst d_zk
      exact own_c1 zn
    refine own_go (fun t k => XS.ifNo X98.here hx rfl (hb hby at_106) rfl ((if0 _ _).trans (teq hc106).2) k) ?_
    show own_WP _ _ _ _ T98 (mkF m 109 #[.val (.int zt), .val (.int zn), .val (.ref zA), .val (.ref zL), .val (.int zk), .val (.int (1 : Int32)), .val (.ref zo1), .val (.ref zo2), .val (.ref zo3), .val (.ref zo4)] [])
    refine own_go (fun t k => XS.aload X98.here hx rfl (hb hby at_109) rfl rfl  k) ?_
    show own_WP _ _ _ _ T98 (mkF m 111 #[.val (.int zt), .val (.int zn), .val (.ref zA), .val (.ref zL), .val (.int zk), .val (.int (1 : Int32)), .val (.ref zo1), .val (.ref zo2), .val (.ref zo3), .val (.ref zo4)] [(.ref zo3)])
    obtain ⟨cq99, kq99, q99a, q99b, q99c⟩ := isOf hZ eq98 f90
    obtain ⟨_, _, ⟨T99, L99, k99, n99⟩, -, X99, ⟨Lc99, hQ99, l99, y99, z99⟩, st99⟩ := X98.virtualBack hx (y := (⟨"com/example/kuvert/kuvert/cms/Der$Element", "isConstructed", "()Z"⟩ : MethodName)) (z := (⟨"com/example/kuvert/kuvert/cms/Der$Element", "isConstructed", "()Z"⟩ : MethodName)) hown (mvT hZ (hw _ (List.mem_of_getElem? (i := 52) rfl))) (mvT hZ (hw _ (List.mem_of_getElem? (i := 53) rfl))) (notFace_of_selects (args := #[]) (mvT hZ (hw _ (List.mem_of_getElem? (i := 55) rfl)))) (mvT hZ (hw _ (List.mem_of_getElem? (i := 55) rfl))) (mvT hZ (hw _ (List.mem_of_getElem? (i := 54) rfl))) (by decide) (backOf (W := 0) (rm9 l Z a0 hw [] zo3 ((160 : Int32) ||| zk) T83.heap n0 (own_le Z0 K96) f91) hZ (hw _ (List.mem_of_getElem? (i := 56) rfl)) (hw _ (List.mem_of_getElem? (i := 29) rfl)) (by decide) (by decide)) q99a q99c (g := (mkF m 111 #[.val (.int zt), .val (.int zn), .val (.ref zA), .val (.ref zL), .val (.int zk), .val (.int (1 : Int32)), .val (.ref zo1), .val (.ref zo2), .val (.ref zo3), .val (.ref zo4)] [(.ref zo3)])) rfl (by rw [hml]; rfl) (Steps.refl _) (argsL := []) (rest := []) (lenOf own_pd91901 rfl) rfl (by show 2 * 0 + _ ≤ _; exact Nat.le_of_eq rfl) (hb hby at_111) (fun _ _ => ⟨rfl, eq98, (by decide : 6 + 0 ≤ _), (by decide : 15 + 0 ≤ _)⟩)
    dsimp only [Pt.U, Pt.locs, Pt.cells, Pt.slots] at X99 l99 y99 z99 st99 hQ99
    subst l99 y99 z99
    obtain ⟨rfl, N99q, eq99⟩ := hQ99
    have N99 := Fr.app N98 N99q
    refine own_tr st99 ?_
    show own_WP _ _ _ _ T99 (mkF m 114 #[.val (.int zt), .val (.int zn), .val (.ref zA), .val (.ref zL), .val (.int zk), .val (.int (1 : Int32)), .val (.ref zo1), .val (.ref zo2), .val (.ref zo3), .val (.ref zo4)] [(.int (own_ic ((160 : Int32) ||| zk)))])
    have hc114 : ¬ ((own_ic ((160 : Int32) ||| zk)) = (0 : Int32)) := by
      subst d_zk
      exact own_c2 zn
    refine own_go (fun t k => XS.ifNo X99.here hx rfl (hb hby at_114) rfl ((if0 _ _).trans (feq hc114).1) k) ?_
    show own_WP _ _ _ _ T99 (mkF m 117 #[.val (.int zt), .val (.int zn), .val (.ref zA), .val (.ref zL), .val (.int zk), .val (.int (1 : Int32)), .val (.ref zo1), .val (.ref zo2), .val (.ref zo3), .val (.ref zo4)] [])
    refine own_go (fun t k => XS.aload X99.here hx rfl (hb hby at_117) rfl rfl  k) ?_
    show own_WP _ _ _ _ T99 (mkF m 119 #[.val (.int zt), .val (.int zn), .val (.ref zA), .val (.ref zL), .val (.int zk), .val (.int (1 : Int32)), .val (.ref zo1), .val (.ref zo2), .val (.ref zo3), .val (.ref zo4)] [(.ref zo4)])
    obtain ⟨cq100, kq100, q100a, q100b, q100c⟩ := isOf hZ eq99 f84
    obtain ⟨_, _, ⟨T100, L100, k100, n100⟩, -, X100, ⟨Lc100, hQ100, l100, y100, z100⟩, st100⟩ := X99.virtualBack hx (y := (⟨"com/example/kuvert/kuvert/cms/Der$Element", "isConstructed", "()Z"⟩ : MethodName)) (z := (⟨"com/example/kuvert/kuvert/cms/Der$Element", "isConstructed", "()Z"⟩ : MethodName)) hown (mvT hZ (hw _ (List.mem_of_getElem? (i := 52) rfl))) (mvT hZ (hw _ (List.mem_of_getElem? (i := 53) rfl))) (notFace_of_selects (args := #[]) (mvT hZ (hw _ (List.mem_of_getElem? (i := 55) rfl)))) (mvT hZ (hw _ (List.mem_of_getElem? (i := 55) rfl))) (mvT hZ (hw _ (List.mem_of_getElem? (i := 54) rfl))) (by decide) (backOf (W := 0) (rm9 l Z a0 hw [] zo4 (48 : Int32) T83.heap n0 (own_le Z0 K96) f85) hZ (hw _ (List.mem_of_getElem? (i := 56) rfl)) (hw _ (List.mem_of_getElem? (i := 29) rfl)) (by decide) (by decide)) q100a q100c (g := (mkF m 119 #[.val (.int zt), .val (.int zn), .val (.ref zA), .val (.ref zL), .val (.int zk), .val (.int (1 : Int32)), .val (.ref zo1), .val (.ref zo2), .val (.ref zo3), .val (.ref zo4)] [(.ref zo4)])) rfl (by rw [hml]; rfl) (Steps.refl _) (argsL := []) (rest := []) (lenOf own_pd91901 rfl) rfl (by show 2 * 0 + _ ≤ _; exact Nat.le_of_eq rfl) (hb hby at_119) (fun _ _ => ⟨rfl, eq99, (by decide : 6 + 0 ≤ _), (by decide : 15 + 0 ≤ _)⟩)
    dsimp only [Pt.U, Pt.locs, Pt.cells, Pt.slots] at X100 l100 y100 z100 st100 hQ100
    subst l100 y100 z100
    obtain ⟨rfl, N100q, eq100⟩ := hQ100
    have N100 := Fr.app N99 N100q
    refine own_tr st100 ?_
    show own_WP _ _ _ _ T100 (mkF m 122 #[.val (.int zt), .val (.int zn), .val (.ref zA), .val (.ref zL), .val (.int zk), .val (.int (1 : Int32)), .val (.ref zo1), .val (.ref zo2), .val (.ref zo3), .val (.ref zo4)] [(.int (own_ic (48 : Int32)))])
    have hc122 : ¬ ((own_ic (48 : Int32)) = (0 : Int32)) := by
      decide
    refine own_go (fun t k => XS.ifNo X100.here hx rfl (hb hby at_122) rfl ((if0 _ _).trans (feq hc122).1) k) ?_
    show own_WP _ _ _ _ T100 (mkF m 125 #[.val (.int zt), .val (.int zn), .val (.ref zA), .val (.ref zL), .val (.int zk), .val (.int (1 : Int32)), .val (.ref zo1), .val (.ref zo2), .val (.ref zo3), .val (.ref zo4)] [])
    refine own_go (fun t k => XS.iconst X100.here hx rfl (hb hby at_125) k) ?_
    show own_WP _ _ _ _ T100 (mkF m 126 #[.val (.int zt), .val (.int zn), .val (.ref zA), .val (.ref zL), .val (.int zk), .val (.int (1 : Int32)), .val (.ref zo1), .val (.ref zo2), .val (.ref zo3), .val (.ref zo4)] [(.int (1 : Int32))])
    refine own_go (fun t k => XS.goto X100.here hx rfl (pc0 := 126) (pc' := 130) rfl (hb hby at_126) (by decide) (by decide) k) ?_
    show own_WP _ _ _ _ T100 (mkF m 130 #[.val (.int zt), .val (.int zn), .val (.ref zA), .val (.ref zL), .val (.int zk), .val (.int (1 : Int32)), .val (.ref zo1), .val (.ref zo2), .val (.ref zo3), .val (.ref zo4)] [(.int (1 : Int32))])
    refine own_retN X100 hx Bd.notSynchronized (t := .boolean) (by simp) Bd.returns (hb hby at_130) (by decide) (by decide) ?_
    rw [eq100]
    exact ⟨rfl, N100⟩
  · refine own_go (fun t k => XS.icmpYes X11.here hx rfl (pc0 := 24) (pc' := 31) rfl (hb hby at_24) rfl (feq hc24).2 (by decide) (by decide) k) ?_
    show own_WP _ _ _ _ T11 (mkF m 31 #[.val (.int zt), .val (.int zn), .val (.ref zA), .val (.ref zL), .val (.int zk), .unset, .unset, .unset, .unset, .unset] [])
    refine own_go (fun t k => XS.iconst X11.here hx rfl (hb hby at_31) k) ?_
    show own_WP _ _ _ _ T11 (mkF m 32 #[.val (.int zt), .val (.int zn), .val (.ref zA), .val (.ref zL), .val (.int zk), .unset, .unset, .unset, .unset, .unset] [(.int (0 : Int32))])
    refine own_go (fun t k => XS.istore X11.here hx rfl (hb hby at_32) rfl (l' := #[.val (.int zt), .val (.int zn), .val (.ref zA), .val (.ref zL), .val (.int zk), .val (.int (0 : Int32)), .unset, .unset, .unset, .unset]) rfl k) ?_
    show own_WP _ _ _ _ T11 (mkF m 34 #[.val (.int zt), .val (.int zn), .val (.ref zA), .val (.ref zL), .val (.int zk), .val (.int (0 : Int32)), .unset, .unset, .unset, .unset] [])
    obtain ⟨T101, h101, X101, e101, E101, A101, D101, -, st101⟩ := newO X11 hx hZ hown (hw _ (List.mem_of_getElem? (i := 27) rfl)) (hw _ (List.mem_of_getElem? (i := 28) rfl)) (hw _ (List.mem_of_getElem? (i := 29) rfl)) rfl (g := (mkF m 34 #[.val (.int zt), .val (.int zn), .val (.ref zA), .val (.ref zL), .val (.int zk), .val (.int (0 : Int32)), .unset, .unset, .unset, .unset] [])) rfl (hb hby at_34) (by decide) (by decide)
    obtain ⟨zo1, q101⟩ : ∃ z, z = T11.heap.size := ⟨_, rfl⟩
    rw [← q101] at A101 D101 st101
    refine own_go st101 ?_
    have g_zo1 : n0 ≤ zo1 := Nat.le_trans (own_le Z0 K18) (Nat.le_of_eq q101.symm)
    have sz_zo1 : h0.size ≤ zo1 := Nat.le_trans K18.1 (Nat.le_of_eq q101.symm)
    have K102 : Keep h0 h101 [] := K18.ext E101
    have f103 : Fld Z h101 zo1 "com/example/kuvert/kuvert/cms/Der$Element" "tag" "I" (.int (0 : Int32)) := D101 (Or.inr (hw _ (List.mem_of_getElem? (i := 40) rfl))) (ty := .int) (by decide)
    have f104 : Fld Z h101 zo1 "com/example/kuvert/kuvert/cms/Der$Element" "content" "[B" .null := D101 (Or.inr (hw _ (List.mem_of_getElem? (i := 42) rfl))) (ty := (.array .byte)) (by decide)
    have f105 : Fld Z h101 zo1 "com/example/kuvert/kuvert/cms/Der$Element" "elements" "Ljava/util/List;" .null := D101 (Or.inr (hw _ (List.mem_of_getElem? (i := 44) rfl))) (ty := (.object "java/util/List")) (by decide)
    show own_WP _ _ _ _ T101 (mkF m 37 #[.val (.int zt), .val (.int zn), .val (.ref zA), .val (.ref zL), .val (.int zk), .val (.int (0 : Int32)), .unset, .unset, .unset, .unset] [(.ref zo1)])
    refine own_go (fun t k => XS.dup X101.here hx rfl (hb hby at_37) rfl rfl k) ?_
    show own_WP _ _ _ _ T101 (mkF m 38 #[.val (.int zt), .val (.int zn), .val (.ref zA), .val (.ref zL), .val (.int zk), .val (.int (0 : Int32)), .unset, .unset, .unset, .unset] [(.ref zo1), (.ref zo1)])
    refine own_go (fun t k => XS.iloadN X101.here hx rfl (hb hby at_38) rfl  k) ?_
    show own_WP _ _ _ _ T101 (mkF m 39 #[.val (.int zt), .val (.int zn), .val (.ref zA), .val (.ref zL), .val (.int zk), .val (.int (0 : Int32)), .unset, .unset, .unset, .unset] [(.int zt), (.ref zo1), (.ref zo1)])
    refine own_go (fun t k => XS.aloadN X101.here hx rfl (hb hby at_39) rfl rfl  k) ?_
    show own_WP _ _ _ _ T101 (mkF m 40 #[.val (.int zt), .val (.int zn), .val (.ref zA), .val (.ref zL), .val (.int zk), .val (.int (0 : Int32)), .unset, .unset, .unset, .unset] [(.ref zA), (.int zt), (.ref zo1), (.ref zo1)])
    refine own_go (fun t k => XS.aloadN X101.here hx rfl (hb hby at_40) rfl rfl  k) ?_
    show own_WP _ _ _ _ T101 (mkF m 41 #[.val (.int zt), .val (.int zn), .val (.ref zA), .val (.ref zL), .val (.int zk), .val (.int (0 : Int32)), .unset, .unset, .unset, .unset] [(.ref zL), (.ref zA), (.int zt), (.ref zo1), (.ref zo1)])
    obtain ⟨_, _, ⟨T106, L106, k106, n106⟩, -, X106, ⟨Lc106, hQ106, l106, y106, z106⟩, st106⟩ := X101.specialBack hx (y := (⟨"com/example/kuvert/kuvert/cms/Der$Element", "<init>", "(I[BLjava/util/List;)V"⟩ : MethodName)) rfl hown (mvT hZ (hw _ (List.mem_of_getElem? (i := 30) rfl))) (mvT hZ (hw _ (List.mem_of_getElem? (i := 31) rfl))) (mvT hZ (hw _ (List.mem_of_getElem? (i := 32) rfl))) (by decide) (backOf (W := 1) (rm5 l Z a0 hw [] zo1 zt zA zL (.int (0 : Int32)) .null .null h101 n0 (own_le Z0 K102) A101 f103 f104 f105 g_zo1) hZ (hw _ (List.mem_of_getElem? (i := 32) rfl)) (hw _ (List.mem_of_getElem? (i := 29) rfl)) (by decide) (by decide)) (g := (mkF m 41 #[.val (.int zt), .val (.int zn), .val (.ref zA), .val (.ref zL), .val (.int zk), .val (.int (0 : Int32)), .unset, .unset, .unset, .unset] [(.ref zL), (.ref zA), (.int zt), (.ref zo1), (.ref zo1)])) rfl (by rw [hml]; rfl) (Steps.refl _) (a := zo1) (argsL := [(.int zt), (.ref zA), (.ref zL)]) (rest := [(.ref zo1)]) (lenOf own_pd6974 rfl) rfl (by show 2 * 0 + _ ≤ _; exact Nat.le_of_eq rfl) (hb hby at_41) (fun _ _ => ⟨rfl, e101, (by decide : 3 + 0 ≤ _), (by decide : 6 + 0 ≤ _)⟩)
    dsimp only [Pt.U, Pt.locs, Pt.cells, Pt.slots] at X106 l106 y106 z106 st106 hQ106
    subst l106 y106 z106
    obtain ⟨rfl, N106q, Kc106, f107, f108⟩ := hQ106
    have N106 := Fr.app N11 N106q
    refine own_tr st106 ?_
    have f109 : Exa Z T106.heap zo1 "com/example/kuvert/kuvert/cms/Der$Element" := A101.keep Kc106
    have K113 : Keep h0 T106.heap [] := K102.trans Kc106 (fun x hx => by cases List.mem_singleton.mp hx; exact Or.inr sz_zo1)
    show own_WP _ _ _ _ T106 (mkF m 44 #[.val (.int zt), .val (.int zn), .val (.ref zA), .val (.ref zL), .val (.int zk), .val (.int (0 : Int32)), .unset, .unset, .unset, .unset] [(.ref zo1)])
    refine own_go (fun t k => XS.astore X106.here hx rfl (hb hby at_44) rfl rfl (l' := #[.val (.int zt), .val (.int zn), .val (.ref zA), .val (.ref zL), .val (.int zk), .val (.int (0 : Int32)), .val (.ref zo1), .unset, .unset, .unset]) rfl k) ?_
    show own_WP _ _ _ _ T106 (mkF m 46 #[.val (.int zt), .val (.int zn), .val (.ref zA), .val (.ref zL), .val (.int zk), .val (.int (0 : Int32)), .val (.ref zo1), .unset, .unset, .unset] [])
    obtain ⟨T114, h114, X114, e114, E114, A114, D114, -, st114⟩ := newO X106 hx hZ hown (hw _ (List.mem_of_getElem? (i := 27) rfl)) (hw _ (List.mem_of_getElem? (i := 28) rfl)) (hw _ (List.mem_of_getElem? (i := 29) rfl)) rfl (g := (mkF m 46 #[.val (.int zt), .val (.int zn), .val (.ref zA), .val (.ref zL), .val (.int zk), .val (.int (0 : Int32)), .val (.ref zo1), .unset, .unset, .unset] [])) rfl (hb hby at_46) (by decide) (by decide)
    obtain ⟨zo2, q114⟩ : ∃ z, z = T106.heap.size := ⟨_, rfl⟩
    rw [← q114] at A114 D114 st114
    refine own_go st114 ?_
    have g_zo2 : n0 ≤ zo2 := Nat.le_trans (own_le Z0 K113) (Nat.le_of_eq q114.symm)
    have sz_zo2 : h0.size ≤ zo2 := Nat.le_trans K113.1 (Nat.le_of_eq q114.symm)
    have ne_zo1_zo2 : zo1 ≠ zo2 := Nat.ne_of_lt (Nat.lt_of_lt_of_le f107.lt (Nat.le_of_eq q114.symm))
    have f115 : Exa Z h114 zo1 "com/example/kuvert/kuvert/cms/Der$Element" := f107.ext E114
    have f116 : Fld Z h114 zo1 "com/example/kuvert/kuvert/cms/Der$Element" "tag" "I" (.int zt) := f108.ext E114
    have K117 : Keep h0 h114 [] := K113.ext E114
    have f118 : Fld Z h114 zo2 "com/example/kuvert/kuvert/cms/Der$Element" "tag" "I" (.int (0 : Int32)) := D114 (Or.inr (hw _ (List.mem_of_getElem? (i := 40) rfl))) (ty := .int) (by decide)
    have f119 : Fld Z h114 zo2 "com/example/kuvert/kuvert/cms/Der$Element" "content" "[B" .null := D114 (Or.inr (hw _ (List.mem_of_getElem? (i := 42) rfl))) (ty := (.array .byte)) (by decide)
    have f120 : Fld Z h114 zo2 "com/example/kuvert/kuvert/cms/Der$Element" "elements" "Ljava/util/List;" .null := D114 (Or.inr (hw _ (List.mem_of_getElem? (i := 44) rfl))) (ty := (.object "java/util/List")) (by decide)
    show own_WP _ _ _ _ T114 (mkF m 49 #[.val (.int zt), .val (.int zn), .val (.ref zA), .val (.ref zL), .val (.int zk), .val (.int (0 : Int32)), .val (.ref zo1), .unset, .unset, .unset] [(.ref zo2)])
    refine own_go (fun t k => XS.dup X114.here hx rfl (hb hby at_49) rfl rfl k) ?_
    show own_WP _ _ _ _ T114 (mkF m 50 #[.val (.int zt), .val (.int zn), .val (.ref zA), .val (.ref zL), .val (.int zk), .val (.int (0 : Int32)), .val (.ref zo1), .unset, .unset, .unset] [(.ref zo2), (.ref zo2)])
    refine own_go (fun t k => XS.iload X114.here hx rfl (hb hby at_50) rfl  k) ?_
    show own_WP _ _ _ _ T114 (mkF m 52 #[.val (.int zt), .val (.int zn), .val (.ref zA), .val (.ref zL), .val (.int zk), .val (.int (0 : Int32)), .val (.ref zo1), .unset, .unset, .unset] [(.int zk), (.ref zo2), (.ref zo2)])
    obtain ⟨_, _, ⟨T121, L121, k121, n121⟩, -, X121, ⟨Lc121, hQ121, l121, y121, z121⟩, st121⟩ := Jvm.LawKit.callS X114 hx (y := (⟨"com/example/kuvert/kuvert/cms/Der", "context", "(I)I"⟩ : MethodName)) hown (mvT hZ (hw _ (List.mem_of_getElem? (i := 45) rfl))) (mvT hZ (hw _ (List.mem_of_getElem? (i := 46) rfl))) (mvT hZ (hw _ (List.mem_of_getElem? (i := 47) rfl))) (mvT hZ (hw _ (List.mem_of_getElem? (i := 48) rfl))) (by decide) (backOf (W := 2) (rm7 l Z a0 hw [] zk  h114 n0 (own_le Z0 K117) ) hZ (hw _ (List.mem_of_getElem? (i := 48) rfl)) (hw _ (List.mem_of_getElem? (i := 47) rfl)) (by decide) (by decide)) (g := (mkF m 52 #[.val (.int zt), .val (.int zn), .val (.ref zA), .val (.ref zL), .val (.int zk), .val (.int (0 : Int32)), .val (.ref zo1), .unset, .unset, .unset] [(.int zk), (.ref zo2), (.ref zo2)])) rfl (by rw [hml]; rfl) (argsL := [(.int zk)]) (rest := [(.ref zo2), (.ref zo2)]) (lenOf own_pd81837 rfl) rfl (by show 2 * 0 + _ ≤ _; exact Nat.le_of_eq rfl) (hb hby at_52) (fun _ _ => ⟨rfl, e114, (by decide : 4 + 0 ≤ _), (by decide : 9 + 0 ≤ _)⟩)
    dsimp only [Pt.U, Pt.locs, Pt.cells, Pt.slots] at X121 l121 y121 z121 st121 hQ121
    subst l121 y121 z121
    obtain ⟨rfl, N121q, eq121⟩ := hQ121
    have N121 := Fr.app N106 N121q
    refine own_go st121 ?_
    show own_WP _ _ _ _ T121 (mkF m 55 #[.val (.int zt), .val (.int zn), .val (.ref zA), .val (.ref zL), .val (.int zk), .val (.int (0 : Int32)), .val (.ref zo1), .unset, .unset, .unset] [(.int ((128 : Int32) ||| zk)), (.ref zo2), (.ref zo2)])
    refine own_go (fun t k => XS.aloadN X121.here hx rfl (hb hby at_55) rfl rfl  k) ?_
    show own_WP _ _ _ _ T121 (mkF m 56 #[.val (.int zt), .val (.int zn), .val (.ref zA), .val (.ref zL), .val (.int zk), .val (.int (0 : Int32)), .val (.ref zo1), .unset, .unset, .unset] [(.ref zA), (.int ((128 : Int32) ||| zk)), (.ref zo2), (.ref zo2)])
    refine own_go (fun t k => XS.aloadN X121.here hx rfl (hb hby at_56) rfl rfl  k) ?_
    show own_WP _ _ _ _ T121 (mkF m 57 #[.val (.int zt), .val (.int zn), .val (.ref zA), .val (.ref zL), .val (.int zk), .val (.int (0 : Int32)), .val (.ref zo1), .unset, .unset, .unset] [(.ref zL), (.ref zA), (.int ((128 : Int32) ||| zk)), (.ref zo2), (.ref zo2)])
    obtain ⟨_, _, ⟨T122, L122, k122, n122⟩, -, X122, ⟨Lc122, hQ122, l122, y122, z122⟩, st122⟩ := X121.specialBack hx (y := (⟨"com/example/kuvert/kuvert/cms/Der$Element", "<init>", "(I[BLjava/util/List;)V"⟩ : MethodName)) rfl hown (mvT hZ (hw _ (List.mem_of_getElem? (i := 30) rfl))) (mvT hZ (hw _ (List.mem_of_getElem? (i := 31) rfl))) (mvT hZ (hw _ (List.mem_of_getElem? (i := 32) rfl))) (by decide) (backOf (W := 1) (rm5 l Z a0 hw [] zo2 ((128 : Int32) ||| zk) zA zL (.int (0 : Int32)) .null .null h114 n0 (own_le Z0 K117) A114 f118 f119 f120 g_zo2) hZ (hw _ (List.mem_of_getElem? (i := 32) rfl)) (hw _ (List.mem_of_getElem? (i := 29) rfl)) (by decide) (by decide)) (g := (mkF m 57 #[.val (.int zt), .val (.int zn), .val (.ref zA), .val (.ref zL), .val (.int zk), .val (.int (0 : Int32)), .val (.ref zo1), .unset, .unset, .unset] [(.ref zL), (.ref zA), (.int ((128 : Int32) ||| zk)), (.ref zo2), (.ref zo2)])) rfl (by rw [hml]; rfl) (Steps.refl _) (a := zo2) (argsL := [(.int ((128 : Int32) ||| zk)), (.ref zA), (.ref zL)]) (rest := [(.ref zo2)]) (lenOf own_pd6974 rfl) rfl (by show 2 * 0 + _ ≤ _; exact Nat.le_of_eq rfl) (hb hby at_57) (fun _ _ => ⟨rfl, eq121, (by decide : 4 + 0 ≤ _), (by decide : 9 + 0 ≤ _)⟩)
    dsimp only [Pt.U, Pt.locs, Pt.cells, Pt.slots] at X122 l122 y122 z122 st122 hQ122
    subst l122 y122 z122
    obtain ⟨rfl, N122q, Kc122, f123, f124⟩ := hQ122
    have N122 := Fr.app N121 N122q
    refine own_tr st122 ?_
    have f125 : Exa Z T122.heap zo1 "com/example/kuvert/kuvert/cms/Der$Element" := f115.keep Kc122
    have f126 : Fld Z T122.heap zo1 "com/example/kuvert/kuvert/cms/Der$Element" "tag" "I" (.int zt) := f116.keep Kc122 (own_nm ne_zo1_zo2)
    have f127 : Exa Z T122.heap zo2 "com/example/kuvert/kuvert/cms/Der$Element" := A114.keep Kc122
    have K131 : Keep h0 T122.heap [] := K117.trans Kc122 (fun x hx => by cases List.mem_singleton.mp hx; exact Or.inr sz_zo2)
    show own_WP _ _ _ _ T122 (mkF m 60 #[.val (.int zt), .val (.int zn), .val (.ref zA), .val (.ref zL), .val (.int zk), .val (.int (0 : Int32)), .val (.ref zo1), .unset, .unset, .unset] [(.ref zo2)])
    refine own_go (fun t k => XS.astore X122.here hx rfl (hb hby at_60) rfl rfl (l' := #[.val (.int zt), .val (.int zn), .val (.ref zA), .val (.ref zL), .val (.int zk), .val (.int (0 : Int32)), .val (.ref zo1), .val (.ref zo2), .unset, .unset]) rfl k) ?_
    show own_WP _ _ _ _ T122 (mkF m 62 #[.val (.int zt), .val (.int zn), .val (.ref zA), .val (.ref zL), .val (.int zk), .val (.int (0 : Int32)), .val (.ref zo1), .val (.ref zo2), .unset, .unset] [])
    obtain ⟨T132, h132, X132, e132, E132, A132, D132, -, st132⟩ := newO X122 hx hZ hown (hw _ (List.mem_of_getElem? (i := 27) rfl)) (hw _ (List.mem_of_getElem? (i := 28) rfl)) (hw _ (List.mem_of_getElem? (i := 29) rfl)) rfl (g := (mkF m 62 #[.val (.int zt), .val (.int zn), .val (.ref zA), .val (.ref zL), .val (.int zk), .val (.int (0 : Int32)), .val (.ref zo1), .val (.ref zo2), .unset, .unset] [])) rfl (hb hby at_62) (by decide) (by decide)
    obtain ⟨zo3, q132⟩ : ∃ z, z = T122.heap.size := ⟨_, rfl⟩
    rw [← q132] at A132 D132 st132
    refine own_go st132 ?_
    have g_zo3 : n0 ≤ zo3 := Nat.le_trans (own_le Z0 K131) (Nat.le_of_eq q132.symm)
    have sz_zo3 : h0.size ≤ zo3 := Nat.le_trans K131.1 (Nat.le_of_eq q132.symm)
    have ne_zo1_zo3 : zo1 ≠ zo3 := Nat.ne_of_lt (Nat.lt_of_lt_of_le f125.lt (Nat.le_of_eq q132.symm))
    have ne_zo2_zo3 : zo2 ≠ zo3 := Nat.ne_of_lt (Nat.lt_of_lt_of_le f123.lt (Nat.le_of_eq q132.symm))
    have f133 : Exa Z h132 zo1 "com/example/kuvert/kuvert/cms/Der$Element" := f125.ext E132
    have f134 : Fld Z h132 zo1 "com/example/kuvert/kuvert/cms/Der$Element" "tag" "I" (.int zt) := f126.ext E132
    have f135 : Exa Z h132 zo2 "com/example/kuvert/kuvert/cms/Der$Element" := f123.ext E132
    have f136 : Fld Z h132 zo2 "com/example/kuvert/kuvert/cms/Der$Element" "tag" "I" (.int ((128 : Int32) ||| zk)) := f124.ext E132
    have K137 : Keep h0 h132 [] := K131.ext E132
    have f138 : Fld Z h132 zo3 "com/example/kuvert/kuvert/cms/Der$Element" "tag" "I" (.int (0 : Int32)) := D132 (Or.inr (hw _ (List.mem_of_getElem? (i := 40) rfl))) (ty := .int) (by decide)
    have f139 : Fld Z h132 zo3 "com/example/kuvert/kuvert/cms/Der$Element" "content" "[B" .null := D132 (Or.inr (hw _ (List.mem_of_getElem? (i := 42) rfl))) (ty := (.array .byte)) (by decide)
    have f140 : Fld Z h132 zo3 "com/example/kuvert/kuvert/cms/Der$Element" "elements" "Ljava/util/List;" .null := D132 (Or.inr (hw _ (List.mem_of_getElem? (i := 44) rfl))) (ty := (.object "java/util/List")) (by decide)
    show own_WP _ _ _ _ T132 (mkF m 65 #[.val (.int zt), .val (.int zn), .val (.ref zA), .val (.ref zL), .val (.int zk), .val (.int (0 : Int32)), .val (.ref zo1), .val (.ref zo2), .unset, .unset] [(.ref zo3)])
    refine own_go (fun t k => XS.dup X132.here hx rfl (hb hby at_65) rfl rfl k) ?_
    show own_WP _ _ _ _ T132 (mkF m 66 #[.val (.int zt), .val (.int zn), .val (.ref zA), .val (.ref zL), .val (.int zk), .val (.int (0 : Int32)), .val (.ref zo1), .val (.ref zo2), .unset, .unset] [(.ref zo3), (.ref zo3)])
    refine own_go (fun t k => XS.iload X132.here hx rfl (hb hby at_66) rfl  k) ?_
    show own_WP _ _ _ _ T132 (mkF m 68 #[.val (.int zt), .val (.int zn), .val (.ref zA), .val (.ref zL), .val (.int zk), .val (.int (0 : Int32)), .val (.ref zo1), .val (.ref zo2), .unset, .unset] [(.int zk), (.ref zo3), (.ref zo3)])
    obtain ⟨_, _, ⟨T141, L141, k141, n141⟩, -, X141, ⟨Lc141, hQ141, l141, y141, z141⟩, st141⟩ := Jvm.LawKit.callS X132 hx (y := (⟨"com/example/kuvert/kuvert/cms/Der", "contextConstructed", "(I)I"⟩ : MethodName)) hown (mvT hZ (hw _ (List.mem_of_getElem? (i := 49) rfl))) (mvT hZ (hw _ (List.mem_of_getElem? (i := 50) rfl))) (mvT hZ (hw _ (List.mem_of_getElem? (i := 47) rfl))) (mvT hZ (hw _ (List.mem_of_getElem? (i := 51) rfl))) (by decide) (backOf (W := 2) (rm8 l Z a0 hw [] zk  h132 n0 (own_le Z0 K137) ) hZ (hw _ (List.mem_of_getElem? (i := 51) rfl)) (hw _ (List.mem_of_getElem? (i := 47) rfl)) (by decide) (by decide)) (g := (mkF m 68 #[.val (.int zt), .val (.int zn), .val (.ref zA), .val (.ref zL), .val (.int zk), .val (.int (0 : Int32)), .val (.ref zo1), .val (.ref zo2), .unset, .unset] [(.int zk), (.ref zo3), (.ref zo3)])) rfl (by rw [hml]; rfl) (argsL := [(.int zk)]) (rest := [(.ref zo3), (.ref zo3)]) (lenOf own_pd81837 rfl) rfl (by show 2 * 0 + _ ≤ _; exact Nat.le_of_eq rfl) (hb hby at_68) (fun _ _ => ⟨rfl, e132, (by decide : 5 + 0 ≤ _), (by decide : 12 + 0 ≤ _)⟩)
    dsimp only [Pt.U, Pt.locs, Pt.cells, Pt.slots] at X141 l141 y141 z141 st141 hQ141
    subst l141 y141 z141
    obtain ⟨rfl, N141q, eq141⟩ := hQ141
    have N141 := Fr.app N122 N141q
    refine own_go st141 ?_
    show own_WP _ _ _ _ T141 (mkF m 71 #[.val (.int zt), .val (.int zn), .val (.ref zA), .val (.ref zL), .val (.int zk), .val (.int (0 : Int32)), .val (.ref zo1), .val (.ref zo2), .unset, .unset] [(.int ((160 : Int32) ||| zk)), (.ref zo3), (.ref zo3)])
    refine own_go (fun t k => XS.aloadN X141.here hx rfl (hb hby at_71) rfl rfl  k) ?_
    show own_WP _ _ _ _ T141 (mkF m 72 #[.val (.int zt), .val (.int zn), .val (.ref zA), .val (.ref zL), .val (.int zk), .val (.int (0 : Int32)), .val (.ref zo1), .val (.ref zo2), .unset, .unset] [(.ref zA), (.int ((160 : Int32) ||| zk)), (.ref zo3), (.ref zo3)])
    refine own_go (fun t k => XS.aloadN X141.here hx rfl (hb hby at_72) rfl rfl  k) ?_
    show own_WP _ _ _ _ T141 (mkF m 73 #[.val (.int zt), .val (.int zn), .val (.ref zA), .val (.ref zL), .val (.int zk), .val (.int (0 : Int32)), .val (.ref zo1), .val (.ref zo2), .unset, .unset] [(.ref zL), (.ref zA), (.int ((160 : Int32) ||| zk)), (.ref zo3), (.ref zo3)])
    obtain ⟨_, _, ⟨T142, L142, k142, n142⟩, -, X142, ⟨Lc142, hQ142, l142, y142, z142⟩, st142⟩ := X141.specialBack hx (y := (⟨"com/example/kuvert/kuvert/cms/Der$Element", "<init>", "(I[BLjava/util/List;)V"⟩ : MethodName)) rfl hown (mvT hZ (hw _ (List.mem_of_getElem? (i := 30) rfl))) (mvT hZ (hw _ (List.mem_of_getElem? (i := 31) rfl))) (mvT hZ (hw _ (List.mem_of_getElem? (i := 32) rfl))) (by decide) (backOf (W := 1) (rm5 l Z a0 hw [] zo3 ((160 : Int32) ||| zk) zA zL (.int (0 : Int32)) .null .null h132 n0 (own_le Z0 K137) A132 f138 f139 f140 g_zo3) hZ (hw _ (List.mem_of_getElem? (i := 32) rfl)) (hw _ (List.mem_of_getElem? (i := 29) rfl)) (by decide) (by decide)) (g := (mkF m 73 #[.val (.int zt), .val (.int zn), .val (.ref zA), .val (.ref zL), .val (.int zk), .val (.int (0 : Int32)), .val (.ref zo1), .val (.ref zo2), .unset, .unset] [(.ref zL), (.ref zA), (.int ((160 : Int32) ||| zk)), (.ref zo3), (.ref zo3)])) rfl (by rw [hml]; rfl) (Steps.refl _) (a := zo3) (argsL := [(.int ((160 : Int32) ||| zk)), (.ref zA), (.ref zL)]) (rest := [(.ref zo3)]) (lenOf own_pd6974 rfl) rfl (by show 2 * 0 + _ ≤ _; exact Nat.le_of_eq rfl) (hb hby at_73) (fun _ _ => ⟨rfl, eq141, (by decide : 5 + 0 ≤ _), (by decide : 12 + 0 ≤ _)⟩)
    dsimp only [Pt.U, Pt.locs, Pt.cells, Pt.slots] at X142 l142 y142 z142 st142 hQ142
    subst l142 y142 z142
    obtain ⟨rfl, N142q, Kc142, f143, f144⟩ := hQ142
    have N142 := Fr.app N141 N142q
    refine own_tr st142 ?_
    have f145 : Exa Z T142.heap zo1 "com/example/kuvert/kuvert/cms/Der$Element" := f133.keep Kc142
    have f146 : Fld Z T142.heap zo1 "com/example/kuvert/kuvert/cms/Der$Element" "tag" "I" (.int zt) := f134.keep Kc142 (own_nm ne_zo1_zo3)
    have f147 : Exa Z T142.heap zo2 "com/example/kuvert/kuvert/cms/Der$Element" := f135.keep Kc142
    have f148 : Fld Z T142.heap zo2 "com/example/kuvert/kuvert/cms/Der$Element" "tag" "I" (.int ((128 : Int32) ||| zk)) := f136.keep Kc142 (own_nm ne_zo2_zo3)
    have f149 : Exa Z T142.heap zo3 "com/example/kuvert/kuvert/cms/Der$Element" := A132.keep Kc142
    have K153 : Keep h0 T142.heap [] := K137.trans Kc142 (fun x hx => by cases List.mem_singleton.mp hx; exact Or.inr sz_zo3)
    show own_WP _ _ _ _ T142 (mkF m 76 #[.val (.int zt), .val (.int zn), .val (.ref zA), .val (.ref zL), .val (.int zk), .val (.int (0 : Int32)), .val (.ref zo1), .val (.ref zo2), .unset, .unset] [(.ref zo3)])
    refine own_go (fun t k => XS.astore X142.here hx rfl (hb hby at_76) rfl rfl (l' := #[.val (.int zt), .val (.int zn), .val (.ref zA), .val (.ref zL), .val (.int zk), .val (.int (0 : Int32)), .val (.ref zo1), .val (.ref zo2), .val (.ref zo3), .unset]) rfl k) ?_
    show own_WP _ _ _ _ T142 (mkF m 78 #[.val (.int zt), .val (.int zn), .val (.ref zA), .val (.ref zL), .val (.int zk), .val (.int (0 : Int32)), .val (.ref zo1), .val (.ref zo2), .val (.ref zo3), .unset] [])
    obtain ⟨T154, h154, X154, e154, E154, A154, D154, -, st154⟩ := newO X142 hx hZ hown (hw _ (List.mem_of_getElem? (i := 27) rfl)) (hw _ (List.mem_of_getElem? (i := 28) rfl)) (hw _ (List.mem_of_getElem? (i := 29) rfl)) rfl (g := (mkF m 78 #[.val (.int zt), .val (.int zn), .val (.ref zA), .val (.ref zL), .val (.int zk), .val (.int (0 : Int32)), .val (.ref zo1), .val (.ref zo2), .val (.ref zo3), .unset] [])) rfl (hb hby at_78) (by decide) (by decide)
    obtain ⟨zo4, q154⟩ : ∃ z, z = T142.heap.size := ⟨_, rfl⟩
    rw [← q154] at A154 D154 st154
    refine own_go st154 ?_
    have g_zo4 : n0 ≤ zo4 := Nat.le_trans (own_le Z0 K153) (Nat.le_of_eq q154.symm)
    have sz_zo4 : h0.size ≤ zo4 := Nat.le_trans K153.1 (Nat.le_of_eq q154.symm)
    have ne_zo1_zo4 : zo1 ≠ zo4 := Nat.ne_of_lt (Nat.lt_of_lt_of_le f145.lt (Nat.le_of_eq q154.symm))
    have ne_zo2_zo4 : zo2 ≠ zo4 := Nat.ne_of_lt (Nat.lt_of_lt_of_le f147.lt (Nat.le_of_eq q154.symm))
    have ne_zo3_zo4 : zo3 ≠ zo4 := Nat.ne_of_lt (Nat.lt_of_lt_of_le f143.lt (Nat.le_of_eq q154.symm))
    have f155 : Exa Z h154 zo1 "com/example/kuvert/kuvert/cms/Der$Element" := f145.ext E154
    have f156 : Fld Z h154 zo1 "com/example/kuvert/kuvert/cms/Der$Element" "tag" "I" (.int zt) := f146.ext E154
    have f157 : Exa Z h154 zo2 "com/example/kuvert/kuvert/cms/Der$Element" := f147.ext E154
    have f158 : Fld Z h154 zo2 "com/example/kuvert/kuvert/cms/Der$Element" "tag" "I" (.int ((128 : Int32) ||| zk)) := f148.ext E154
    have f159 : Exa Z h154 zo3 "com/example/kuvert/kuvert/cms/Der$Element" := f143.ext E154
    have f160 : Fld Z h154 zo3 "com/example/kuvert/kuvert/cms/Der$Element" "tag" "I" (.int ((160 : Int32) ||| zk)) := f144.ext E154
    have K161 : Keep h0 h154 [] := K153.ext E154
    have f162 : Fld Z h154 zo4 "com/example/kuvert/kuvert/cms/Der$Element" "tag" "I" (.int (0 : Int32)) := D154 (Or.inr (hw _ (List.mem_of_getElem? (i := 40) rfl))) (ty := .int) (by decide)
    have f163 : Fld Z h154 zo4 "com/example/kuvert/kuvert/cms/Der$Element" "content" "[B" .null := D154 (Or.inr (hw _ (List.mem_of_getElem? (i := 42) rfl))) (ty := (.array .byte)) (by decide)
    have f164 : Fld Z h154 zo4 "com/example/kuvert/kuvert/cms/Der$Element" "elements" "Ljava/util/List;" .null := D154 (Or.inr (hw _ (List.mem_of_getElem? (i := 44) rfl))) (ty := (.object "java/util/List")) (by decide)
    show own_WP _ _ _ _ T154 (mkF m 81 #[.val (.int zt), .val (.int zn), .val (.ref zA), .val (.ref zL), .val (.int zk), .val (.int (0 : Int32)), .val (.ref zo1), .val (.ref zo2), .val (.ref zo3), .unset] [(.ref zo4)])
    refine own_go (fun t k => XS.dup X154.here hx rfl (hb hby at_81) rfl rfl k) ?_
    show own_WP _ _ _ _ T154 (mkF m 82 #[.val (.int zt), .val (.int zn), .val (.ref zA), .val (.ref zL), .val (.int zk), .val (.int (0 : Int32)), .val (.ref zo1), .val (.ref zo2), .val (.ref zo3), .unset] [(.ref zo4), (.ref zo4)])
    refine own_go (fun t k => XS.bipush X154.here hx rfl (hb hby at_82) k) ?_
    show own_WP _ _ _ _ T154 (mkF m 84 #[.val (.int zt), .val (.int zn), .val (.ref zA), .val (.ref zL), .val (.int zk), .val (.int (0 : Int32)), .val (.ref zo1), .val (.ref zo2), .val (.ref zo3), .unset] [(.int (48 : Int32)), (.ref zo4), (.ref zo4)])
    refine own_go (fun t k => XS.aloadN X154.here hx rfl (hb hby at_84) rfl rfl  k) ?_
    show own_WP _ _ _ _ T154 (mkF m 85 #[.val (.int zt), .val (.int zn), .val (.ref zA), .val (.ref zL), .val (.int zk), .val (.int (0 : Int32)), .val (.ref zo1), .val (.ref zo2), .val (.ref zo3), .unset] [(.ref zA), (.int (48 : Int32)), (.ref zo4), (.ref zo4)])
    refine own_go (fun t k => XS.aloadN X154.here hx rfl (hb hby at_85) rfl rfl  k) ?_
    show own_WP _ _ _ _ T154 (mkF m 86 #[.val (.int zt), .val (.int zn), .val (.ref zA), .val (.ref zL), .val (.int zk), .val (.int (0 : Int32)), .val (.ref zo1), .val (.ref zo2), .val (.ref zo3), .unset] [(.ref zL), (.ref zA), (.int (48 : Int32)), (.ref zo4), (.ref zo4)])
    obtain ⟨_, _, ⟨T165, L165, k165, n165⟩, -, X165, ⟨Lc165, hQ165, l165, y165, z165⟩, st165⟩ := X154.specialBack hx (y := (⟨"com/example/kuvert/kuvert/cms/Der$Element", "<init>", "(I[BLjava/util/List;)V"⟩ : MethodName)) rfl hown (mvT hZ (hw _ (List.mem_of_getElem? (i := 30) rfl))) (mvT hZ (hw _ (List.mem_of_getElem? (i := 31) rfl))) (mvT hZ (hw _ (List.mem_of_getElem? (i := 32) rfl))) (by decide) (backOf (W := 1) (rm5 l Z a0 hw [] zo4 (48 : Int32) zA zL (.int (0 : Int32)) .null .null h154 n0 (own_le Z0 K161) A154 f162 f163 f164 g_zo4) hZ (hw _ (List.mem_of_getElem? (i := 32) rfl)) (hw _ (List.mem_of_getElem? (i := 29) rfl)) (by decide) (by decide)) (g := (mkF m 86 #[.val (.int zt), .val (.int zn), .val (.ref zA), .val (.ref zL), .val (.int zk), .val (.int (0 : Int32)), .val (.ref zo1), .val (.ref zo2), .val (.ref zo3), .unset] [(.ref zL), (.ref zA), (.int (48 : Int32)), (.ref zo4), (.ref zo4)])) rfl (by rw [hml]; rfl) (Steps.refl _) (a := zo4) (argsL := [(.int (48 : Int32)), (.ref zA), (.ref zL)]) (rest := [(.ref zo4)]) (lenOf own_pd6974 rfl) rfl (by show 2 * 0 + _ ≤ _; exact Nat.le_of_eq rfl) (hb hby at_86) (fun _ _ => ⟨rfl, e154, (by decide : 6 + 0 ≤ _), (by decide : 15 + 0 ≤ _)⟩)
    dsimp only [Pt.U, Pt.locs, Pt.cells, Pt.slots] at X165 l165 y165 z165 st165 hQ165
    subst l165 y165 z165
    obtain ⟨rfl, N165q, Kc165, f166, f167⟩ := hQ165
    have N165 := Fr.app N142 N165q
    refine own_tr st165 ?_
    have f168 : Exa Z T165.heap zo1 "com/example/kuvert/kuvert/cms/Der$Element" := f155.keep Kc165
    have f169 : Fld Z T165.heap zo1 "com/example/kuvert/kuvert/cms/Der$Element" "tag" "I" (.int zt) := f156.keep Kc165 (own_nm ne_zo1_zo4)
    have f170 : Exa Z T165.heap zo2 "com/example/kuvert/kuvert/cms/Der$Element" := f157.keep Kc165
    have f171 : Fld Z T165.heap zo2 "com/example/kuvert/kuvert/cms/Der$Element" "tag" "I" (.int ((128 : Int32) ||| zk)) := f158.keep Kc165 (own_nm ne_zo2_zo4)
    have f172 : Exa Z T165.heap zo3 "com/example/kuvert/kuvert/cms/Der$Element" := f159.keep Kc165
    have f173 : Fld Z T165.heap zo3 "com/example/kuvert/kuvert/cms/Der$Element" "tag" "I" (.int ((160 : Int32) ||| zk)) := f160.keep Kc165 (own_nm ne_zo3_zo4)
    have f174 : Exa Z T165.heap zo4 "com/example/kuvert/kuvert/cms/Der$Element" := A154.keep Kc165
    have K178 : Keep h0 T165.heap [] := K161.trans Kc165 (fun x hx => by cases List.mem_singleton.mp hx; exact Or.inr sz_zo4)
    show own_WP _ _ _ _ T165 (mkF m 89 #[.val (.int zt), .val (.int zn), .val (.ref zA), .val (.ref zL), .val (.int zk), .val (.int (0 : Int32)), .val (.ref zo1), .val (.ref zo2), .val (.ref zo3), .unset] [(.ref zo4)])
    refine own_go (fun t k => XS.astore X165.here hx rfl (hb hby at_89) rfl rfl (l' := #[.val (.int zt), .val (.int zn), .val (.ref zA), .val (.ref zL), .val (.int zk), .val (.int (0 : Int32)), .val (.ref zo1), .val (.ref zo2), .val (.ref zo3), .val (.ref zo4)]) rfl k) ?_
    show own_WP _ _ _ _ T165 (mkF m 91 #[.val (.int zt), .val (.int zn), .val (.ref zA), .val (.ref zL), .val (.int zk), .val (.int (0 : Int32)), .val (.ref zo1), .val (.ref zo2), .val (.ref zo3), .val (.ref zo4)] [])
    refine own_go (fun t k => XS.aload X165.here hx rfl (hb hby at_91) rfl rfl  k) ?_
    show own_WP _ _ _ _ T165 (mkF m 93 #[.val (.int zt), .val (.int zn), .val (.ref zA), .val (.ref zL), .val (.int zk), .val (.int (0 : Int32)), .val (.ref zo1), .val (.ref zo2), .val (.ref zo3), .val (.ref zo4)] [(.ref zo1)])
    obtain ⟨cq179, kq179, q179a, q179b, q179c⟩ := isOf hZ rfl f168
    obtain ⟨_, _, ⟨T179, L179, k179, n179⟩, -, X179, ⟨Lc179, hQ179, l179, y179, z179⟩, st179⟩ := X165.virtualBack hx (y := (⟨"com/example/kuvert/kuvert/cms/Der$Element", "isConstructed", "()Z"⟩ : MethodName)) (z := (⟨"com/example/kuvert/kuvert/cms/Der$Element", "isConstructed", "()Z"⟩ : MethodName)) hown (mvT hZ (hw _ (List.mem_of_getElem? (i := 52) rfl))) (mvT hZ (hw _ (List.mem_of_getElem? (i := 53) rfl))) (notFace_of_selects (args := #[]) (mvT hZ (hw _ (List.mem_of_getElem? (i := 55) rfl)))) (mvT hZ (hw _ (List.mem_of_getElem? (i := 55) rfl))) (mvT hZ (hw _ (List.mem_of_getElem? (i := 54) rfl))) (by decide) (backOf (W := 0) (rm9 l Z a0 hw [] zo1 zt T165.heap n0 (own_le Z0 K178) f169) hZ (hw _ (List.mem_of_getElem? (i := 56) rfl)) (hw _ (List.mem_of_getElem? (i := 29) rfl)) (by decide) (by decide)) q179a q179c (g := (mkF m 93 #[.val (.int zt), .val (.int zn), .val (.ref zA), .val (.ref zL), .val (.int zk), .val (.int (0 : Int32)), .val (.ref zo1), .val (.ref zo2), .val (.ref zo3), .val (.ref zo4)] [(.ref zo1)])) rfl (by rw [hml]; rfl) (Steps.refl _) (argsL := []) (rest := []) (lenOf own_pd91901 rfl) rfl (by show 2 * 0 + _ ≤ _; exact Nat.le_of_eq rfl) (hb hby at_93) (fun _ _ => ⟨rfl, rfl, (by decide : 6 + 0 ≤ _), (by decide : 15 + 0 ≤ _)⟩)
    dsimp only [Pt.U, Pt.locs, Pt.cells, Pt.slots] at X179 l179 y179 z179 st179 hQ179
    subst l179 y179 z179
    obtain ⟨rfl, N179q, eq179⟩ := hQ179
    have N179 := Fr.app N165 N179q
    refine own_tr st179 ?_
    show own_WP _ _ _ _ T179 (mkF m 96 #[.val (.int zt), .val (.int zn), .val (.ref zA), .val (.ref zL), .val (.int zk), .val (.int (0 : Int32)), .val (.ref zo1), .val (.ref zo2), .val (.ref zo3), .val (.ref zo4)] [(.int (own_ic zt))])
    refine own_go (fun t k => XS.iload X179.here hx rfl (hb hby at_96) rfl  k) ?_
    show own_WP _ _ _ _ T179 (mkF m 98 #[.val (.int zt), .val (.int zn), .val (.ref zA), .val (.ref zL), .val (.int zk), .val (.int (0 : Int32)), .val (.ref zo1), .val (.ref zo2), .val (.ref zo3), .val (.ref zo4)] [(.int (0 : Int32)), (.int (own_ic zt))])
    have hc98 : (own_ic zt) = (0 : Int32) := by
      rw [own_ics, if_neg hc24]
    refine own_go (fun t k => XS.icmpNo X179.here hx rfl (hb hby at_98) rfl (teq hc98).2 k) ?_
    show own_WP _ _ _ _ T179 (mkF m 101 #[.val (.int zt), .val (.int zn), .val (.ref zA), .val (.ref zL), .val (.int zk), .val (.int (0 : Int32)), .val (.ref zo1), .val (.ref zo2), .val (.ref zo3), .val (.ref zo4)] [])
    refine own_go (fun t k => XS.aload X179.here hx rfl (hb hby at_101) rfl rfl  k) ?_
    show own_WP _ _ _ _ T179 (mkF m 103 #[.val (.int zt), .val (.int zn), .val (.ref zA), .val (.ref zL), .val (.int zk), .val (.int (0 : Int32)), .val (.ref zo1), .val (.ref zo2), .val (.ref zo3), .val (.ref zo4)] [(.ref zo2)])
    obtain ⟨cq180, kq180, q180a, q180b, q180c⟩ := isOf hZ eq179 f170
    obtain ⟨_, _, ⟨T180, L180, k180, n180⟩, -, X180, ⟨Lc180, hQ180, l180, y180, z180⟩, st180⟩ := X179.virtualBack hx (y := (⟨"com/example/kuvert/kuvert/cms/Der$Element", "isConstructed", "()Z"⟩ : MethodName)) (z := (⟨"com/example/kuvert/kuvert/cms/Der$Element", "isConstructed", "()Z"⟩ : MethodName)) hown (mvT hZ (hw _ (List.mem_of_getElem? (i := 52) rfl))) (mvT hZ (hw _ (List.mem_of_getElem? (i := 53) rfl))) (notFace_of_selects (args := #[]) (mvT hZ (hw _ (List.mem_of_getElem? (i := 55) rfl)))) (mvT hZ (hw _ (List.mem_of_getElem? (i := 55) rfl))) (mvT hZ (hw _ (List.mem_of_getElem? (i := 54) rfl))) (by decide) (backOf (W := 0) (rm9 l Z a0 hw [] zo2 ((128 : Int32) ||| zk) T165.heap n0 (own_le Z0 K178) f171) hZ (hw _ (List.mem_of_getElem? (i := 56) rfl)) (hw _ (List.mem_of_getElem? (i := 29) rfl)) (by decide) (by decide)) q180a q180c (g := (mkF m 103 #[.val (.int zt), .val (.int zn), .val (.ref zA), .val (.ref zL), .val (.int zk), .val (.int (0 : Int32)), .val (.ref zo1), .val (.ref zo2), .val (.ref zo3), .val (.ref zo4)] [(.ref zo2)])) rfl (by rw [hml]; rfl) (Steps.refl _) (argsL := []) (rest := []) (lenOf own_pd91901 rfl) rfl (by show 2 * 0 + _ ≤ _; exact Nat.le_of_eq rfl) (hb hby at_103) (fun _ _ => ⟨rfl, eq179, (by decide : 6 + 0 ≤ _), (by decide : 15 + 0 ≤ _)⟩)
    dsimp only [Pt.U, Pt.locs, Pt.cells, Pt.slots] at X180 l180 y180 z180 st180 hQ180
    subst l180 y180 z180
    obtain ⟨rfl, N180q, eq180⟩ := hQ180
    have N180 := Fr.app N179 N180q
    refine own_tr st180 ?_
    show own_WP _ _ _ _ T180 (mkF m 106 #[.val (.int zt), .val (.int zn), .val (.ref zA), .val (.ref zL), .val (.int zk), .val (.int (0 : Int32)), .val (.ref zo1), .val (.ref zo2), .val (.ref zo3), .val (.ref zo4)] [(.int (own_ic ((128 : Int32) ||| zk)))])
    have hc106 : (own_ic ((128 : Int32) ||| zk)) = (0 : Int32) := by
      subst d_zk
      exact own_c1 zn
    refine own_go (fun t k => XS.ifNo X180.here hx rfl (hb hby at_106) rfl ((if0 _ _).trans (teq hc106).2) k) ?_
    show own_WP _ _ _ _ T180 (mkF m 109 #[.val (.int zt), .val (.int zn), .val (.ref zA), .val (.ref zL), .val (.int zk), .val (.int (0 : Int32)), .val (.ref zo1), .val (.ref zo2), .val (.ref zo3), .val (.ref zo4)] [])
    refine own_go (fun t k => XS.aload X180.here hx rfl (hb hby at_109) rfl rfl  k) ?_
    show own_WP _ _ _ _ T180 (mkF m 111 #[.val (.int zt), .val (.int zn), .val (.ref zA), .val (.ref zL), .val (.int zk), .val (.int (0 : Int32)), .val (.ref zo1), .val (.ref zo2), .val (.ref zo3), .val (.ref zo4)] [(.ref zo3)])
    obtain ⟨cq181, kq181, q181a, q181b, q181c⟩ := isOf hZ eq180 f172
    obtain ⟨_, _, ⟨T181, L181, k181, n181⟩, -, X181, ⟨Lc181, hQ181, l181, y181, z181⟩, st181⟩ := X180.virtualBack hx (y := (⟨"com/example/kuvert/kuvert/cms/Der$Element", "isConstructed", "()Z"⟩ : MethodName)) (z := (⟨"com/example/kuvert/kuvert/cms/Der$Element", "isConstructed", "()Z"⟩ : MethodName)) hown (mvT hZ (hw _ (List.mem_of_getElem? (i := 52) rfl))) (mvT hZ (hw _ (List.mem_of_getElem? (i := 53) rfl))) (notFace_of_selects (args := #[]) (mvT hZ (hw _ (List.mem_of_getElem? (i := 55) rfl)))) (mvT hZ (hw _ (List.mem_of_getElem? (i := 55) rfl))) (mvT hZ (hw _ (List.mem_of_getElem? (i := 54) rfl))) (by decide) (backOf (W := 0) (rm9 l Z a0 hw [] zo3 ((160 : Int32) ||| zk) T165.heap n0 (own_le Z0 K178) f173) hZ (hw _ (List.mem_of_getElem? (i := 56) rfl)) (hw _ (List.mem_of_getElem? (i := 29) rfl)) (by decide) (by decide)) q181a q181c (g := (mkF m 111 #[.val (.int zt), .val (.int zn), .val (.ref zA), .val (.ref zL), .val (.int zk), .val (.int (0 : Int32)), .val (.ref zo1), .val (.ref zo2), .val (.ref zo3), .val (.ref zo4)] [(.ref zo3)])) rfl (by rw [hml]; rfl) (Steps.refl _) (argsL := []) (rest := []) (lenOf own_pd91901 rfl) rfl (by show 2 * 0 + _ ≤ _; exact Nat.le_of_eq rfl) (hb hby at_111) (fun _ _ => ⟨rfl, eq180, (by decide : 6 + 0 ≤ _), (by decide : 15 + 0 ≤ _)⟩)
    dsimp only [Pt.U, Pt.locs, Pt.cells, Pt.slots] at X181 l181 y181 z181 st181 hQ181
    subst l181 y181 z181
    obtain ⟨rfl, N181q, eq181⟩ := hQ181
    have N181 := Fr.app N180 N181q
    refine own_tr st181 ?_
    show own_WP _ _ _ _ T181 (mkF m 114 #[.val (.int zt), .val (.int zn), .val (.ref zA), .val (.ref zL), .val (.int zk), .val (.int (0 : Int32)), .val (.ref zo1), .val (.ref zo2), .val (.ref zo3), .val (.ref zo4)] [(.int (own_ic ((160 : Int32) ||| zk)))])
    have hc114 : ¬ ((own_ic ((160 : Int32) ||| zk)) = (0 : Int32)) := by
      subst d_zk
      exact own_c2 zn
    refine own_go (fun t k => XS.ifNo X181.here hx rfl (hb hby at_114) rfl ((if0 _ _).trans (feq hc114).1) k) ?_
    show own_WP _ _ _ _ T181 (mkF m 117 #[.val (.int zt), .val (.int zn), .val (.ref zA), .val (.ref zL), .val (.int zk), .val (.int (0 : Int32)), .val (.ref zo1), .val (.ref zo2), .val (.ref zo3), .val (.ref zo4)] [])
    refine own_go (fun t k => XS.aload X181.here hx rfl (hb hby at_117) rfl rfl  k) ?_
    show own_WP _ _ _ _ T181 (mkF m 119 #[.val (.int zt), .val (.int zn), .val (.ref zA), .val (.ref zL), .val (.int zk), .val (.int (0 : Int32)), .val (.ref zo1), .val (.ref zo2), .val (.ref zo3), .val (.ref zo4)] [(.ref zo4)])
    obtain ⟨cq182, kq182, q182a, q182b, q182c⟩ := isOf hZ eq181 f166
    obtain ⟨_, _, ⟨T182, L182, k182, n182⟩, -, X182, ⟨Lc182, hQ182, l182, y182, z182⟩, st182⟩ := X181.virtualBack hx (y := (⟨"com/example/kuvert/kuvert/cms/Der$Element", "isConstructed", "()Z"⟩ : MethodName)) (z := (⟨"com/example/kuvert/kuvert/cms/Der$Element", "isConstructed", "()Z"⟩ : MethodName)) hown (mvT hZ (hw _ (List.mem_of_getElem? (i := 52) rfl))) (mvT hZ (hw _ (List.mem_of_getElem? (i := 53) rfl))) (notFace_of_selects (args := #[]) (mvT hZ (hw _ (List.mem_of_getElem? (i := 55) rfl)))) (mvT hZ (hw _ (List.mem_of_getElem? (i := 55) rfl))) (mvT hZ (hw _ (List.mem_of_getElem? (i := 54) rfl))) (by decide) (backOf (W := 0) (rm9 l Z a0 hw [] zo4 (48 : Int32) T165.heap n0 (own_le Z0 K178) f167) hZ (hw _ (List.mem_of_getElem? (i := 56) rfl)) (hw _ (List.mem_of_getElem? (i := 29) rfl)) (by decide) (by decide)) q182a q182c (g := (mkF m 119 #[.val (.int zt), .val (.int zn), .val (.ref zA), .val (.ref zL), .val (.int zk), .val (.int (0 : Int32)), .val (.ref zo1), .val (.ref zo2), .val (.ref zo3), .val (.ref zo4)] [(.ref zo4)])) rfl (by rw [hml]; rfl) (Steps.refl _) (argsL := []) (rest := []) (lenOf own_pd91901 rfl) rfl (by show 2 * 0 + _ ≤ _; exact Nat.le_of_eq rfl) (hb hby at_119) (fun _ _ => ⟨rfl, eq181, (by decide : 6 + 0 ≤ _), (by decide : 15 + 0 ≤ _)⟩)
    dsimp only [Pt.U, Pt.locs, Pt.cells, Pt.slots] at X182 l182 y182 z182 st182 hQ182
    subst l182 y182 z182
    obtain ⟨rfl, N182q, eq182⟩ := hQ182
    have N182 := Fr.app N181 N182q
    refine own_tr st182 ?_
    show own_WP _ _ _ _ T182 (mkF m 122 #[.val (.int zt), .val (.int zn), .val (.ref zA), .val (.ref zL), .val (.int zk), .val (.int (0 : Int32)), .val (.ref zo1), .val (.ref zo2), .val (.ref zo3), .val (.ref zo4)] [(.int (own_ic (48 : Int32)))])
    have hc122 : ¬ ((own_ic (48 : Int32)) = (0 : Int32)) := by
      decide
    refine own_go (fun t k => XS.ifNo X182.here hx rfl (hb hby at_122) rfl ((if0 _ _).trans (feq hc122).1) k) ?_
    show own_WP _ _ _ _ T182 (mkF m 125 #[.val (.int zt), .val (.int zn), .val (.ref zA), .val (.ref zL), .val (.int zk), .val (.int (0 : Int32)), .val (.ref zo1), .val (.ref zo2), .val (.ref zo3), .val (.ref zo4)] [])
    refine own_go (fun t k => XS.iconst X182.here hx rfl (hb hby at_125) k) ?_
    show own_WP _ _ _ _ T182 (mkF m 126 #[.val (.int zt), .val (.int zn), .val (.ref zA), .val (.ref zL), .val (.int zk), .val (.int (0 : Int32)), .val (.ref zo1), .val (.ref zo2), .val (.ref zo3), .val (.ref zo4)] [(.int (1 : Int32))])
    refine own_go (fun t k => XS.goto X182.here hx rfl (pc0 := 126) (pc' := 130) rfl (hb hby at_126) (by decide) (by decide) k) ?_
    show own_WP _ _ _ _ T182 (mkF m 130 #[.val (.int zt), .val (.int zn), .val (.ref zA), .val (.ref zL), .val (.int zk), .val (.int (0 : Int32)), .val (.ref zo1), .val (.ref zo2), .val (.ref zo3), .val (.ref zo4)] [(.int (1 : Int32))])
    refine own_retN X182 hx Bd.notSynchronized (t := .boolean) (by simp) Bd.returns (hb hby at_130) (by decide) (by decide) ?_
    rw [eq182]
    exact ⟨rfl, N182⟩
set_option maxRecDepth 65536 in
set_option maxHeartbeats 40000000 in
theorem comes_1 {Post : Tables → Env → Array Value → State → Outcome → State → Prop} (hpost : ∀ tb e args s v u, (limb_1_1.after args s (.returned v) u = true ∧ limb_1_2.after args s (.returned v) u = true ∧ True) → FrameEnd s (.returned v) u (Jvm.fieldLocs frame_1_writes args s ++ Jvm.arrayLocs frame_1_arrays args s ++ Jvm.staticLocs frame_1_statics s) 24 128 → Post tb e args s (.returned v) u) :
    ArmFor flags0 classFile x code maxLocals ret World_1 tables_1 room_1 Calls_1 rest_1 Pre_1 Post := by
  intro l hfl _ _ p e ha hc hk s m args below hf hA hF happ hP
  obtain ⟨hcalls, hrest, hpre⟩ := hP
  obtain ⟨-, -, -, hnamed, -, -, -, hat⟩ := (Spec.applies_iff hf).mp happ
  obtain ⟨hg, hn⟩ := and_e (Cond.before_iff.mp (show (Jvm.Cond.and given_1 narrow_1).before args s = true from hpre))
  obtain ⟨u0, v0⟩ := and_e hg
  obtain ⟨u1, v1⟩ := and_e v0
  obtain ⟨w0, w1, rfl⟩ : ∃ w0 w1 : Value, args = #[w0, w1] := by
    have hs : args.size = 2 := by simpa [Cond.value, given_1] using u0
    obtain ⟨L⟩ := args
    match L, hs with
    | [w0, w1], _ => exact ⟨w0, w1, rfl⟩
  have hw := fun d (hd : d ∈ tables_1) => atoms_spec (ws := Jvm.Cond.code x code maxLocals ret :: tables_1) hat d (List.mem_cons_of_mem _ hd)
  obtain ⟨i0, ei0⟩ := is_v u1
  obtain rfl : w0 = (.int i0) := Option.some.inj ei0
  obtain ⟨i1, ei1⟩ := is_v v1
  obtain rfl : w1 = (.int i1) := Option.some.inj ei1
  obtain ⟨hsets, hown0⟩ := atoms_of _ (rest_1_c_eq ▸ (show rest_1_c.before _ s = true from hrest))
  obtain ⟨zE, -, -, -, hE, -⟩ := Cond.exactly_spec (hsets _ (List.mem_of_getElem? (i := 7) rfl))
  have hS := Sta.start hE (Or.inr ⟨hw _ (List.mem_of_getElem? (i := 3) rfl), hsets _ (List.mem_of_getElem? (i := 2) rfl)⟩)
  obtain ⟨n, o, h1, h2, h3, _, L, rfl, ⟨rfl, N⟩, hq⟩ := rm0 l s _ hw tables_1 i0 i1 zE s.heap s.heap.size (Nat.le_refl _) (Old.start s) hS p e ha hc hk s m _ below hf ((Spec.applies_iff_loose hf).mp happ).1 ⟨rfl, State.Warmed39.refl s, rfl⟩ trivial
  refine ⟨n, _, h1, h2, h3, hpost _ _ _ _ _ _ ⟨Cond.after_iff.mpr rfl, Cond.after_iff.mpr (eq_i res_at (Term.int_eval (1)) rfl), trivial⟩ ⟨hq.1, hq.2.1, (hq.2.2.sift fun y hy => Or.inr (N y hy)).mono (by decide) (by decide)⟩⟩
theorem main_1_1 : Claimed_1_1 := comes_1 fun _ _ _ _ _ _ h hF => ⟨h.1, hF⟩
theorem main_1_2 : Claimed_1_2 := comes_1 fun _ _ _ _ _ _ h hF => ⟨h.2.1, hF⟩
end Jvm.Pilot.@@N@@
namespace Jvm.Pilot.@@N@@
open Jvm Jvm.ClassFile Sem Op Lib Jvm.Free Jvm.Stand Jvm.Pilot.@@N@@.Jvm.D
/-! MADE BY PROGRAM (witnessworld.py) out of the Statement's table words and the real class files: 20 classes; the members and pool entries that the words name. The judged class is class 1, her method 1. -/
namespace start1
open Jvm.ClassFile
def u (s : String) : CpInfo := .utf8 (stringToUtf16 s)
/-- a pool by its gaps: so many unusable entries, then the entry; so many at the end -/
def gap : Nat → List CpInfo → List CpInfo
  | 0, r => r
  | n + 1, r => .unusable :: gap n r
def poolList (es : List (Nat × CpInfo)) (last : Nat) : List CpInfo := es.foldr (fun e r => gap e.1 (e.2 :: r)) (gap last [])
def pool (es : List (Nat × CpInfo)) (last : Nat) : Array CpInfo := ⟨poolList es last⟩
def fileOf (pool : Array CpInfo) (this : Nat) (attrs : Array Attribute := #[]) (ms : Array MethodInfo := #[]) (fl : Nat := 33) (sup : Nat := 0) (ifs : Array Nat := #[]) (fds : Array FieldInfo := #[]) : ClassFile where
  minorVersion := 0
  majorVersion := 65
  constantPool := pool
  accessFlags := fl
  thisClass := this
  superClass := sup
  interfaces := ifs
  fields := fds
  methods := ms
  attributes := attrs
def plain (name : String) (sup : Option ClassId) : Class where
  name := name
  kind := .ordinary
  loader := none
  accessFlags := 33
  super := sup
  interfaces := #[]
  cf := none
  fields := #[]
  methods := #[]
  instanceTypes := #[]
  staticTypes := #[]
  resolved := #[]
  callSites := []
  init := .initialized
  statics := none
  mirror := none

def pool0 : Array CpInfo := pool [(5, u "<init>"), (0, u "()V"), (1, .class_ 10), (1, u "java/lang/Object")] 113

def k0c0 : Code := { maxStack := 0, maxLocals := 1, code := object_method_1_code, exceptionTable := #[], attributes := #[] }
def k0m0 : Method := { name := "<init>", desc := "()V", sig := { parameters := [], returnType := none }, accessFlags := 1, code := some k0c0 }
/-- java/lang/Object -/
def k0 : Class := { plain "java/lang/Object" none with
  accessFlags := 33
  interfaces := #[]
  cf := some (fileOf pool0 8 #[] #[{ accessFlags := 1, nameIndex := 5, descriptorIndex := 6, attributes := #[] }] 33 0 #[] #[])
  fields := #[]
  methods := #[k0m0]
  instanceTypes := #[]
  staticTypes := #[]
  resolved := Array.replicate 124 none
  statics := none }

def pool1 : Array CpInfo := pool [(2, .class_ 4), (0, .nameAndType 5 6), (0, u "java/lang/Object"), (0, u "<init>"), (0, u "()V"), (0, .class_ 8), (0, u "java/util/ArrayList"), (0, .methodref 7 3), (0, .class_ 11), (0, u "com/example/kuvert/kuvert/cms/Der$Element"), (0, .methodref 10 13), (0, .nameAndType 5 14), (0, u "(I[BLjava/util/List;)V"), (0, .methodref 16 17), (0, .class_ 18), (0, .nameAndType 19 20), (0, u "com/example/kuvert/kuvert/cms/Der"), (0, u "context"), (0, u "(I)I"), (0, .methodref 16 22), (0, .nameAndType 23 20), (0, u "contextConstructed"), (0, .methodref 10 25), (0, .nameAndType 26 27), (0, u "isConstructed"), (0, u "()Z"), (0, .class_ 29), (0, u "com/example/kuvert/kuvert/cms/ElementIsConstructedPinLaw"), (2, u "law"), (0, u "(II)Z")] 9

def k1m0 : Method := { name := "<init>", desc := "()V", sig := { parameters := [], returnType := none }, accessFlags := 1, code := none }
def k1c1 : Code := { maxStack := 5, maxLocals := 10, code := code, exceptionTable := #[], attributes := #[] }
def k1m1 : Method := { name := "law", desc := "(II)Z", sig := { parameters := [.int, .int], returnType := some .boolean }, accessFlags := 9, code := some k1c1 }
/-- com/example/kuvert/kuvert/cms/ElementIsConstructedPinLaw -/
def k1 : Class := { plain "com/example/kuvert/kuvert/cms/ElementIsConstructedPinLaw" (some 0) with
  accessFlags := 49
  interfaces := #[]
  cf := some (fileOf pool1 28 #[] #[{ accessFlags := 1, nameIndex := 5, descriptorIndex := 6, attributes := #[] }, { accessFlags := 9, nameIndex := 32, descriptorIndex := 33, attributes := #[] }] 49 2 #[] #[])
  fields := #[]
  methods := #[k1m0, k1m1]
  instanceTypes := #[]
  staticTypes := #[]
  resolved := Array.replicate 43 none
  statics := none }

def pool2 : Array CpInfo := pool [(8, .class_ 10), (1, u "java/lang/Iterable"), (24, .class_ 36), (0, u "java/lang/Object")] 25

/-- java/lang/Iterable -/
def k2 : Class := { plain "java/lang/Iterable" (some 0) with
  accessFlags := 1537
  interfaces := #[]
  cf := some (fileOf pool2 8 #[] #[] 1537 35 #[] #[])
  fields := #[]
  methods := #[]
  instanceTypes := #[]
  staticTypes := #[]
  resolved := Array.replicate 62 none
  statics := none }

def pool3 : Array CpInfo := pool [(10, .class_ 12), (1, u "java/util/Collection"), (47, .class_ 61), (0, u "java/lang/Object"), (0, .class_ 63), (0, u "java/lang/Iterable")] 51

/-- java/util/Collection -/
def k3 : Class := { plain "java/util/Collection" (some 0) with
  accessFlags := 1537
  interfaces := #[2]
  cf := some (fileOf pool3 10 #[] #[] 1537 60 #[62] #[])
  fields := #[]
  methods := #[]
  instanceTypes := #[]
  staticTypes := #[]
  resolved := Array.replicate 115 none
  statics := none }

def pool4 : Array CpInfo := pool [(1, .methodref 2 3), (0, .class_ 4), (0, .nameAndType 5 6), (0, u "java/lang/Object"), (0, u "<init>"), (0, u "()V"), (1, .class_ 10), (1, u "java/util/AbstractCollection"), (66, .class_ 78), (0, u "java/util/Collection")] 81

def k4c0 : Code := { maxStack := 1, maxLocals := 1, code := jdk_22_method_1_code, exceptionTable := #[], attributes := #[] }
def k4m0 : Method := { name := "<init>", desc := "()V", sig := { parameters := [], returnType := none }, accessFlags := 4, code := some k4c0 }
/-- java/util/AbstractCollection -/
def k4 : Class := { plain "java/util/AbstractCollection" (some 0) with
  accessFlags := 1057
  interfaces := #[3]
  cf := some (fileOf pool4 8 #[] #[{ accessFlags := 4, nameIndex := 5, descriptorIndex := 6, attributes := #[] }] 1057 2 #[77] #[])
  fields := #[]
  methods := #[k4m0]
  instanceTypes := #[]
  staticTypes := #[]
  resolved := Array.replicate 160 none
  statics := none }

def pool5 : Array CpInfo := pool [(8, .class_ 10), (1, u "java/util/SequencedCollection"), (15, .class_ 27), (0, u "java/lang/Object"), (0, .class_ 29), (0, u "java/util/Collection")] 27

/-- java/util/SequencedCollection -/
def k5 : Class := { plain "java/util/SequencedCollection" (some 0) with
  accessFlags := 1537
  interfaces := #[3]
  cf := some (fileOf pool5 8 #[] #[] 1537 26 #[28] #[])
  fields := #[]
  methods := #[]
  instanceTypes := #[]
  staticTypes := #[]
  resolved := Array.replicate 57 none
  statics := none }

def pool6 : Array CpInfo := pool [(8, .class_ 10), (1, u "java/util/List"), (92, .class_ 104), (0, u "java/lang/Object"), (15, .class_ 121), (0, u "java/util/SequencedCollection")] 129

/-- java/util/List -/
def k6 : Class := { plain "java/util/List" (some 0) with
  accessFlags := 1537
  interfaces := #[5]
  cf := some (fileOf pool6 8 #[] #[] 1537 103 #[120] #[])
  fields := #[]
  methods := #[]
  instanceTypes := #[]
  staticTypes := #[]
  resolved := Array.replicate 251 none
  statics := none }

def pool7 : Array CpInfo := pool [(1, .methodref 2 3), (0, .class_ 4), (0, .nameAndType 5 6), (0, u "java/util/AbstractCollection"), (0, u "<init>"), (0, u "()V"), (0, .fieldref 8 9), (0, .class_ 10), (0, .nameAndType 11 12), (0, u "java/util/AbstractList"), (0, u "modCount"), (0, u "I"), (64, .class_ 78), (0, u "java/util/AbstractList$Itr"), (3, .class_ 83), (0, u "java/util/AbstractList$ListItr"), (9, .class_ 94), (0, u "java/util/AbstractList$RandomAccessSubList"), (3, .class_ 99), (0, u "java/util/AbstractList$SubList"), (33, .class_ 134), (0, u "java/util/List"), (73, .class_ 209), (0, u "java/util/AbstractList$SubList$1"), (0, .class_ 211), (0, u "java/util/AbstractList$RandomAccessSpliterator")] 6

def k7c0 : Code := { maxStack := 2, maxLocals := 1, code := jdk_39_method_1_code, exceptionTable := #[], attributes := #[] }
def k7m0 : Method := { name := "<init>", desc := "()V", sig := { parameters := [], returnType := none }, accessFlags := 4, code := some k7c0 }
/-- java/util/AbstractList -/
def k7 : Class := { plain "java/util/AbstractList" (some 4) with
  accessFlags := 1057
  interfaces := #[6]
  cf := some (fileOf pool7 8 #[.nestMembers #[93, 98, 208, 210, 82, 77]] #[{ accessFlags := 4, nameIndex := 5, descriptorIndex := 6, attributes := #[] }] 1057 2 #[133] #[{ accessFlags := 132, nameIndex := 11, descriptorIndex := 12, attributes := #[] }])
  fields := #[{ name := "modCount", type := .int, accessFlags := 132, slot := 0, constantValue := 0 }]
  methods := #[k7m0]
  instanceTypes := #[.int]
  staticTypes := #[]
  resolved := Array.replicate 218 none
  statics := none }

def pool8 : Array CpInfo := pool [(1, .class_ 2), (0, u "java/util/RandomAccess"), (0, .class_ 4), (0, u "java/lang/Object")] 2

/-- java/util/RandomAccess -/
def k8 : Class := { plain "java/util/RandomAccess" (some 0) with
  accessFlags := 1537
  interfaces := #[]
  cf := some (fileOf pool8 1 #[] #[] 1537 3 #[] #[])
  fields := #[]
  methods := #[]
  instanceTypes := #[]
  staticTypes := #[]
  resolved := Array.replicate 7 none
  statics := none }

def pool9 : Array CpInfo := pool [(1, .class_ 2), (0, u "java/lang/Cloneable"), (0, .class_ 4), (0, u "java/lang/Object")] 2

/-- java/lang/Cloneable -/
def k9 : Class := { plain "java/lang/Cloneable" (some 0) with
  accessFlags := 1537
  interfaces := #[]
  cf := some (fileOf pool9 1 #[] #[] 1537 3 #[] #[])
  fields := #[]
  methods := #[]
  instanceTypes := #[]
  staticTypes := #[]
  resolved := Array.replicate 7 none
  statics := none }

def pool10 : Array CpInfo := pool [(1, .class_ 2), (0, u "java/io/Serializable"), (0, .class_ 4), (0, u "java/lang/Object")] 2

/-- java/io/Serializable -/
def k10 : Class := { plain "java/io/Serializable" (some 0) with
  accessFlags := 1537
  interfaces := #[]
  cf := some (fileOf pool10 1 #[] #[] 1537 3 #[] #[])
  fields := #[]
  methods := #[]
  instanceTypes := #[]
  staticTypes := #[]
  resolved := Array.replicate 7 none
  statics := none }

def pool11 : Array CpInfo := pool [(1, .methodref 2 3), (0, .class_ 4), (0, .nameAndType 5 6), (0, u "java/util/AbstractList"), (0, u "<init>"), (0, u "()V"), (2, .fieldref 10 11), (0, .class_ 12), (0, .nameAndType 13 14), (0, u "java/util/ArrayList"), (0, u "elementData"), (0, u "[Ljava/lang/Object;"), (2, u "EMPTY_ELEMENTDATA"), (21, .fieldref 10 40), (0, .nameAndType 41 14), (0, u "DEFAULTCAPACITY_EMPTY_ELEMENTDATA"), (8, u "size"), (0, u "I"), (96, .class_ 149), (0, u "java/util/List"), (112, .class_ 263), (0, u "java/util/ArrayList$ListItr"), (3, .class_ 268), (0, u "java/util/ArrayList$Itr"), (7, .class_ 277), (0, u "java/util/ArrayList$SubList"), (12, .class_ 291), (0, u "java/util/ArrayList$ArrayListSpliterator"), (37, .class_ 330), (0, u "java/util/RandomAccess"), (0, .class_ 332), (0, u "java/lang/Cloneable"), (0, .class_ 334), (0, u "java/io/Serializable"), (0, u "serialVersionUID"), (0, u "J"), (3, u "DEFAULT_CAPACITY"), (159, .class_ 501), (0, u "java/util/ArrayList$SubList$2"), (0, .class_ 503), (0, u "java/util/ArrayList$SubList$1")] 5

def k11c0 : Code := { maxStack := 2, maxLocals := 1, code := jdk_38_method_2_code, exceptionTable := #[], attributes := #[] }
def k11m0 : Method := { name := "<init>", desc := "()V", sig := { parameters := [], returnType := none }, accessFlags := 1, code := some k11c0 }
/-- java/util/ArrayList -/
def k11 : Class := { plain "java/util/ArrayList" (some 7) with
  accessFlags := 33
  interfaces := #[6, 8, 9, 10]
  cf := some (fileOf pool11 10 #[.nestMembers #[290, 276, 500, 502, 262, 267]] #[{ accessFlags := 1, nameIndex := 5, descriptorIndex := 6, attributes := #[] }] 33 2 #[148, 329, 331, 333] #[{ accessFlags := 26, nameIndex := 335, descriptorIndex := 336, attributes := #[] }, { accessFlags := 26, nameIndex := 340, descriptorIndex := 51, attributes := #[] }, { accessFlags := 26, nameIndex := 17, descriptorIndex := 14, attributes := #[] }, { accessFlags := 26, nameIndex := 41, descriptorIndex := 14, attributes := #[] }, { accessFlags := 128, nameIndex := 13, descriptorIndex := 14, attributes := #[] }, { accessFlags := 2, nameIndex := 50, descriptorIndex := 51, attributes := #[] }])
  fields := #[{ name := "serialVersionUID", type := .long, accessFlags := 26, slot := 0, constantValue := 0 }, { name := "DEFAULT_CAPACITY", type := .int, accessFlags := 26, slot := 1, constantValue := 0 }, { name := "EMPTY_ELEMENTDATA", type := (.array (.object "java/lang/Object")), accessFlags := 26, slot := 2, constantValue := 0 }, { name := "DEFAULTCAPACITY_EMPTY_ELEMENTDATA", type := (.array (.object "java/lang/Object")), accessFlags := 26, slot := 3, constantValue := 0 }, { name := "elementData", type := (.array (.object "java/lang/Object")), accessFlags := 128, slot := 1, constantValue := 0 }, { name := "size", type := .int, accessFlags := 2, slot := 2, constantValue := 0 }]
  methods := #[k11m0]
  instanceTypes := #[.int, (.array (.object "java/lang/Object")), .int]
  staticTypes := #[.long, .int, (.array (.object "java/lang/Object")), (.array (.object "java/lang/Object"))]
  resolved := Array.replicate 509 none
  statics := some 0 }

def pool12 : Array CpInfo := pool [(1, .methodref 2 3), (0, .class_ 4), (0, .nameAndType 5 6), (0, u "java/lang/Object"), (0, u "<init>"), (0, u "()V"), (0, .class_ 8), (0, u "java/lang/Record")] 13

def k12c0 : Code := { maxStack := 1, maxLocals := 1, code := jdk_30_method_1_code, exceptionTable := #[], attributes := #[] }
def k12m0 : Method := { name := "<init>", desc := "()V", sig := { parameters := [], returnType := none }, accessFlags := 4, code := some k12c0 }
/-- java/lang/Record -/
def k12 : Class := { plain "java/lang/Record" (some 0) with
  accessFlags := 1057
  interfaces := #[]
  cf := some (fileOf pool12 7 #[] #[{ accessFlags := 4, nameIndex := 5, descriptorIndex := 6, attributes := #[] }] 1057 2 #[] #[])
  fields := #[]
  methods := #[k12m0]
  instanceTypes := #[]
  staticTypes := #[]
  resolved := Array.replicate 22 none
  statics := none }

def pool13 : Array CpInfo := pool [(1, .class_ 2), (0, u "com/example/kuvert/kuvert/cms/Der"), (0, .methodref 4 5), (0, .class_ 6), (0, .nameAndType 7 8), (0, u "java/lang/Record"), (0, u "<init>"), (0, u "()V"), (0, .fieldref 10 11), (0, .class_ 12), (0, .nameAndType 13 14), (0, u "com/example/kuvert/kuvert/cms/Der$Element"), (0, u "tag"), (0, u "I"), (0, .fieldref 10 16), (0, .nameAndType 17 18), (0, u "content"), (0, u "[B"), (0, .fieldref 10 20), (0, .nameAndType 21 22), (0, u "elements"), (0, u "Ljava/util/List;"), (2, u "isConstructed"), (0, u "()Z"), (50, u "(I[BLjava/util/List;)V")] 55

def k13c0 : Code := { maxStack := 2, maxLocals := 4, code := prog_59_method_1_code, exceptionTable := #[], attributes := #[] }
def k13m0 : Method := { name := "<init>", desc := "(I[BLjava/util/List;)V", sig := { parameters := [.int, (.array .byte), (.object "java/util/List")], returnType := none }, accessFlags := 0, code := some k13c0 }
def k13c1 : Code := { maxStack := 2, maxLocals := 1, code := prog_59_method_2_code, exceptionTable := #[], attributes := #[] }
def k13m1 : Method := { name := "isConstructed", desc := "()Z", sig := { parameters := [], returnType := some .boolean }, accessFlags := 0, code := some k13c1 }
/-- com/example/kuvert/kuvert/cms/Der$Element -/
def k13 : Class := { plain "com/example/kuvert/kuvert/cms/Der$Element" (some 12) with
  accessFlags := 48
  interfaces := #[]
  cf := some (fileOf pool13 10 #[.nestHost 1] #[{ accessFlags := 0, nameIndex := 7, descriptorIndex := 77, attributes := #[] }, { accessFlags := 0, nameIndex := 25, descriptorIndex := 26, attributes := #[] }] 48 4 #[] #[{ accessFlags := 18, nameIndex := 13, descriptorIndex := 14, attributes := #[] }, { accessFlags := 18, nameIndex := 17, descriptorIndex := 18, attributes := #[] }, { accessFlags := 18, nameIndex := 21, descriptorIndex := 22, attributes := #[] }])
  fields := #[{ name := "tag", type := .int, accessFlags := 18, slot := 0, constantValue := 0 }, { name := "content", type := (.array .byte), accessFlags := 18, slot := 1, constantValue := 0 }, { name := "elements", type := (.object "java/util/List"), accessFlags := 18, slot := 2, constantValue := 0 }]
  methods := #[k13m0, k13m1]
  instanceTypes := #[.int, (.array .byte), (.object "java/util/List")]
  staticTypes := #[]
  resolved := Array.replicate 133 none
  statics := none }

def pool14 : Array CpInfo := pool [(2, .class_ 4), (1, u "java/lang/Object"), (0, u "<init>"), (0, u "()V"), (10, .class_ 19), (1, u "com/example/kuvert/kuvert/cms/Der"), (145, .class_ 167), (1, u "com/example/kuvert/kuvert/cms/Der$Element"), (6, u "INTEGER"), (0, u "I"), (2, u "OCTET_STRING"), (1, u "NULL"), (1, u "OBJECT_IDENTIFIER"), (1, u "SEQUENCE"), (1, u "SET"), (1, u "BMP_STRING"), (1, u "MAX_OBJECT_IDENTIFIER"), (1, u "CONSTRUCTED"), (1, u "context"), (0, u "(I)I"), (2, u "contextConstructed")] 51

def k14c0 : Code := { maxStack := 2, maxLocals := 1, code := prog_58_method_1_code, exceptionTable := #[], attributes := #[] }
def k14m0 : Method := { name := "context", desc := "(I)I", sig := { parameters := [.int], returnType := some .int }, accessFlags := 8, code := some k14c0 }
def k14c1 : Code := { maxStack := 2, maxLocals := 1, code := prog_58_method_2_code, exceptionTable := #[], attributes := #[] }
def k14m1 : Method := { name := "contextConstructed", desc := "(I)I", sig := { parameters := [.int], returnType := some .int }, accessFlags := 8, code := some k14c1 }
def k14m2 : Method := { name := "<init>", desc := "()V", sig := { parameters := [], returnType := none }, accessFlags := 2, code := none }
/-- com/example/kuvert/kuvert/cms/Der -/
def k14 : Class := { plain "com/example/kuvert/kuvert/cms/Der" (some 0) with
  accessFlags := 48
  interfaces := #[]
  cf := some (fileOf pool14 17 #[.nestMembers #[165]] #[{ accessFlags := 8, nameIndex := 194, descriptorIndex := 195, attributes := #[] }, { accessFlags := 8, nameIndex := 198, descriptorIndex := 195, attributes := #[] }, { accessFlags := 2, nameIndex := 5, descriptorIndex := 6, attributes := #[] }] 48 2 #[] #[{ accessFlags := 24, nameIndex := 174, descriptorIndex := 175, attributes := #[] }, { accessFlags := 24, nameIndex := 178, descriptorIndex := 175, attributes := #[] }, { accessFlags := 24, nameIndex := 180, descriptorIndex := 175, attributes := #[] }, { accessFlags := 24, nameIndex := 182, descriptorIndex := 175, attributes := #[] }, { accessFlags := 24, nameIndex := 184, descriptorIndex := 175, attributes := #[] }, { accessFlags := 24, nameIndex := 186, descriptorIndex := 175, attributes := #[] }, { accessFlags := 24, nameIndex := 188, descriptorIndex := 175, attributes := #[] }, { accessFlags := 24, nameIndex := 190, descriptorIndex := 175, attributes := #[] }, { accessFlags := 24, nameIndex := 192, descriptorIndex := 175, attributes := #[] }])
  fields := #[{ name := "INTEGER", type := .int, accessFlags := 24, slot := 0, constantValue := 0 }, { name := "OCTET_STRING", type := .int, accessFlags := 24, slot := 1, constantValue := 0 }, { name := "NULL", type := .int, accessFlags := 24, slot := 2, constantValue := 0 }, { name := "OBJECT_IDENTIFIER", type := .int, accessFlags := 24, slot := 3, constantValue := 0 }, { name := "SEQUENCE", type := .int, accessFlags := 24, slot := 4, constantValue := 0 }, { name := "SET", type := .int, accessFlags := 24, slot := 5, constantValue := 0 }, { name := "BMP_STRING", type := .int, accessFlags := 24, slot := 6, constantValue := 0 }, { name := "MAX_OBJECT_IDENTIFIER", type := .int, accessFlags := 24, slot := 7, constantValue := 0 }, { name := "CONSTRUCTED", type := .int, accessFlags := 24, slot := 8, constantValue := 0 }]
  methods := #[k14m0, k14m1, k14m2]
  instanceTypes := #[]
  staticTypes := #[.int, .int, .int, .int, .int, .int, .int, .int, .int]
  resolved := Array.replicate 250 none
  statics := none }

/-- the primitive byte -/
def k15 : Class := { plain "byte" none with kind := .primitive 'B', accessFlags := 0x411 }
/-- [B -/
def k16 : Class := { plain "[B" (some 0) with kind := .array 15 .byte, interfaces := #[9, 10], accessFlags := 1041 }

/-- the primitive int -/
def k17 : Class := { plain "int" none with kind := .primitive 'I', accessFlags := 0x411 }
/-- [I -/
def k18 : Class := { plain "[I" (some 0) with kind := .array 17 .int, interfaces := #[9, 10], accessFlags := 1041 }

/-- [Ljava/lang/Object; -/
def k19 : Class := { plain "[Ljava/lang/Object;" (some 0) with kind := .array 0 (.object "java/lang/Object"), interfaces := #[9, 10], accessFlags := 1041 }

def heap : Heap := #[{ cls := 11, slots := #[.long 0, .int 0, .ref 1, .ref 2], vm := .statics 11 },
  { cls := 19, slots := #[], vm := .none },
  { cls := 19, slots := #[], vm := .none }]
def classes : Array Class := #[k0, k1, k2, k3, k4, k5, k6, k7, k8, k9, k10, k11, k12, k13, k14, k15, k16, k17, k18, k19]
def interned : List (Array UInt16 × Addr) := []
def slotsUsed : Nat := 4
def theMethod : MethodId := ⟨1, 1⟩
def args0 : Array Value := #[.int 5, .int 4]
def aboutOver (below : List Frame) : State where
  vm := { classes := classes, interned := interned.toArray }
  heap := heap
  slotsUsed := slotsUsed
  threads := #[{ frames := .invoking theMethod args0 :: below }]
def below0 : List Frame := [.native { method := ⟨0, 0⟩, args := #[] }]
def about1 : State := aboutOver below0
def p0 : Program := .bare "" "" ""
def e0 : Env := launch0.env 0 0 0
theorem w_frames : about1.frames = Frame.invoking theMethod args0 :: below0 := rfl
set_option maxRecDepth 65536 in
theorem w_args : argsFit about1.vm theMethod args0 = true := by decide +kernel
set_option maxRecDepth 65536 in
theorem w_heap : heapFits about1 = true := by decide +kernel
set_option maxRecDepth 65536 in
theorem w_runnable : about1.curStatus? = some .runnable := by decide +kernel
set_option maxRecDepth 65536 in
theorem w_alone : about1.alone = true := by decide +kernel
set_option maxRecDepth 65536 in
theorem w_named : about1.methodNamed? x = some theMethod := by decide +kernel
set_option maxRecDepth 65536 in
theorem w_hears : about1.hears theMethod below0 = true := by decide +kernel
set_option maxRecDepth 65536 in
theorem w_ripe : about1.ripe theMethod args0 below0 = true := by decide +kernel
theorem w_running : about1.status = .running := rfl
set_option maxRecDepth 65536 in
theorem w_room : about1.hasRoom e0.platform room_1 = true :=
  launch0.hasRoom_least _ room_1 (by decide +kernel) (by decide +kernel) (by decide +kernel) (by decide +kernel) (by decide +kernel) (by decide +kernel)
theorem allAtoms_all (ts : List Jvm.Cond) (a : Array Jvm.Value) (st : Jvm.State) : (allAtoms ts).before a st = ts.all (fun c => c.before a st) := by
  induction ts with
  | nil => rfl
  | cons c t ih =>
    show (Jvm.Cond.and c (allAtoms t)).before a st = _
    rw [Jvm.Cond.before_and, ih, List.all_cons]
def words1 : List Jvm.Cond := Jvm.Cond.code x code maxLocals ret :: tables_1
/-- a 'code' word, met by the world's own term for the bytes: nothing is compared byte by byte -/
theorem code_word {y : MethodName} {bytes : ByteArray} {mx : Nat} {rt : Option FieldType} {a : Array Value} {s : State} {m : MethodId} {meth : Method} {c : Code} (h1 : s.methodNamed? y = some m) (h2 : s.vm.method? m = some meth) (h3 : meth.code = some c) (h4 : c.code = bytes)
    (h5 : (c.maxLocals == mx && c.exceptionTable.isEmpty && decide (c.maxStack ≤ mostOperands) && decide (meth.sig.returnType = rt) && !meth.locks && decide (parseMethodDescriptor y.desc = some meth.sig)) = true) : (Jvm.Cond.code y bytes mx rt).before a s = true := by
  simp only [Bool.and_eq_true, beq_iff_eq, Bool.not_eq_true', decide_eq_true_eq] at h5
  obtain ⟨⟨⟨⟨⟨g1, g2⟩, g3⟩, g4⟩, g5⟩, g6⟩ := h5
  simp [Cond.before, Cond.holds, Cond.value, h1, h2, h3, h4, g1, g2, g3, g4, g5, g6]
def isCode : Jvm.Cond → Bool
  | .code _ _ _ _ => true
  | _ => false
theorem all_split {L : List Jvm.Cond} {P : Jvm.Cond → Bool} (h1 : L.all (fun c => isCode c || P c) = true) (h2 : ∀ c ∈ L.filter isCode, P c = true) : L.all P = true := by
  refine List.all_eq_true.mpr fun c hc => ?_
  have h := List.all_eq_true.mp h1 c hc
  rcases Bool.eq_false_or_eq_true (isCode c) with hi | hi
  · exact h2 c (List.mem_filter.mpr ⟨hc, hi⟩)
  · simpa [hi] using h
set_option maxRecDepth 65536 in
theorem w_c0 : (Jvm.Cond.code x code maxLocals ret).before args0 about1 = true := code_word (m := ⟨1, 1⟩) (meth := k1m1) (c := k1c1) (by decide +kernel) rfl rfl rfl (by decide +kernel)
set_option maxRecDepth 65536 in
theorem w_c1 : (Jvm.Cond.code ({ cls := "java/util/ArrayList", name := "<init>", desc := "()V" } : Jvm.MethodName) jdk_38_method_2_code (1 : Nat) (Option.none : Option Jvm.ClassFile.FieldType)).before args0 about1 = true := code_word (m := ⟨11, 0⟩) (meth := k11m0) (c := k11c0) (by decide +kernel) rfl rfl rfl (by decide +kernel)
set_option maxRecDepth 65536 in
theorem w_c2 : (Jvm.Cond.code ({ cls := "java/util/AbstractList", name := "<init>", desc := "()V" } : Jvm.MethodName) jdk_39_method_1_code (1 : Nat) (Option.none : Option Jvm.ClassFile.FieldType)).before args0 about1 = true := code_word (m := ⟨7, 0⟩) (meth := k7m0) (c := k7c0) (by decide +kernel) rfl rfl rfl (by decide +kernel)
set_option maxRecDepth 65536 in
theorem w_c3 : (Jvm.Cond.code ({ cls := "java/util/AbstractCollection", name := "<init>", desc := "()V" } : Jvm.MethodName) jdk_22_method_1_code (1 : Nat) (Option.none : Option Jvm.ClassFile.FieldType)).before args0 about1 = true := code_word (m := ⟨4, 0⟩) (meth := k4m0) (c := k4c0) (by decide +kernel) rfl rfl rfl (by decide +kernel)
set_option maxRecDepth 65536 in
theorem w_c4 : (Jvm.Cond.code ({ cls := "java/lang/Object", name := "<init>", desc := "()V" } : Jvm.MethodName) object_method_1_code (1 : Nat) (Option.none : Option Jvm.ClassFile.FieldType)).before args0 about1 = true := code_word (m := ⟨0, 0⟩) (meth := k0m0) (c := k0c0) (by decide +kernel) rfl rfl rfl (by decide +kernel)
set_option maxRecDepth 65536 in
theorem w_c5 : (Jvm.Cond.code ({ cls := "com/example/kuvert/kuvert/cms/Der$Element", name := "<init>", desc := "(I[BLjava/util/List;)V" } : Jvm.MethodName) prog_59_method_1_code (4 : Nat) (Option.none : Option Jvm.ClassFile.FieldType)).before args0 about1 = true := code_word (m := ⟨13, 0⟩) (meth := k13m0) (c := k13c0) (by decide +kernel) rfl rfl rfl (by decide +kernel)
set_option maxRecDepth 65536 in
theorem w_c6 : (Jvm.Cond.code ({ cls := "java/lang/Record", name := "<init>", desc := "()V" } : Jvm.MethodName) jdk_30_method_1_code (1 : Nat) (Option.none : Option Jvm.ClassFile.FieldType)).before args0 about1 = true := code_word (m := ⟨12, 0⟩) (meth := k12m0) (c := k12c0) (by decide +kernel) rfl rfl rfl (by decide +kernel)
set_option maxRecDepth 65536 in
theorem w_c7 : (Jvm.Cond.code ({ cls := "com/example/kuvert/kuvert/cms/Der", name := "context", desc := "(I)I" } : Jvm.MethodName) prog_58_method_1_code (1 : Nat) (Option.some Jvm.ClassFile.FieldType.int)).before args0 about1 = true := code_word (m := ⟨14, 0⟩) (meth := k14m0) (c := k14c0) (by decide +kernel) rfl rfl rfl (by decide +kernel)
set_option maxRecDepth 65536 in
theorem w_c8 : (Jvm.Cond.code ({ cls := "com/example/kuvert/kuvert/cms/Der", name := "contextConstructed", desc := "(I)I" } : Jvm.MethodName) prog_58_method_2_code (1 : Nat) (Option.some Jvm.ClassFile.FieldType.int)).before args0 about1 = true := code_word (m := ⟨14, 1⟩) (meth := k14m1) (c := k14c1) (by decide +kernel) rfl rfl rfl (by decide +kernel)
set_option maxRecDepth 65536 in
theorem w_c9 : (Jvm.Cond.code ({ cls := "com/example/kuvert/kuvert/cms/Der$Element", name := "isConstructed", desc := "()Z" } : Jvm.MethodName) prog_59_method_2_code (1 : Nat) (Option.some Jvm.ClassFile.FieldType.boolean)).before args0 about1 = true := code_word (m := ⟨13, 1⟩) (meth := k13m1) (c := k13c1) (by decide +kernel) rfl rfl rfl (by decide +kernel)
def codes1 : List Jvm.Cond := [Jvm.Cond.code x code maxLocals ret, Jvm.Cond.code ({ cls := "java/util/ArrayList", name := "<init>", desc := "()V" } : Jvm.MethodName) jdk_38_method_2_code (1 : Nat) (Option.none : Option Jvm.ClassFile.FieldType), Jvm.Cond.code ({ cls := "java/util/AbstractList", name := "<init>", desc := "()V" } : Jvm.MethodName) jdk_39_method_1_code (1 : Nat) (Option.none : Option Jvm.ClassFile.FieldType), Jvm.Cond.code ({ cls := "java/util/AbstractCollection", name := "<init>", desc := "()V" } : Jvm.MethodName) jdk_22_method_1_code (1 : Nat) (Option.none : Option Jvm.ClassFile.FieldType), Jvm.Cond.code ({ cls := "java/lang/Object", name := "<init>", desc := "()V" } : Jvm.MethodName) object_method_1_code (1 : Nat) (Option.none : Option Jvm.ClassFile.FieldType), Jvm.Cond.code ({ cls := "com/example/kuvert/kuvert/cms/Der$Element", name := "<init>", desc := "(I[BLjava/util/List;)V" } : Jvm.MethodName) prog_59_method_1_code (4 : Nat) (Option.none : Option Jvm.ClassFile.FieldType), Jvm.Cond.code ({ cls := "java/lang/Record", name := "<init>", desc := "()V" } : Jvm.MethodName) jdk_30_method_1_code (1 : Nat) (Option.none : Option Jvm.ClassFile.FieldType), Jvm.Cond.code ({ cls := "com/example/kuvert/kuvert/cms/Der", name := "context", desc := "(I)I" } : Jvm.MethodName) prog_58_method_1_code (1 : Nat) (Option.some Jvm.ClassFile.FieldType.int), Jvm.Cond.code ({ cls := "com/example/kuvert/kuvert/cms/Der", name := "contextConstructed", desc := "(I)I" } : Jvm.MethodName) prog_58_method_2_code (1 : Nat) (Option.some Jvm.ClassFile.FieldType.int), Jvm.Cond.code ({ cls := "com/example/kuvert/kuvert/cms/Der$Element", name := "isConstructed", desc := "()Z" } : Jvm.MethodName) prog_59_method_2_code (1 : Nat) (Option.some Jvm.ClassFile.FieldType.boolean)]
set_option maxRecDepth 65536 in
theorem codes_eq : words1.filter isCode = codes1 := rfl
theorem w_codes : ∀ c ∈ words1.filter isCode, c.before args0 about1 = true := by
  rw [codes_eq]
  intro c hc
  simp only [codes1, List.mem_cons, List.not_mem_nil, or_false] at hc
  rcases hc with rfl | rfl | rfl | rfl | rfl | rfl | rfl | rfl | rfl | rfl
  · exact w_c0
  · exact w_c1
  · exact w_c2
  · exact w_c3
  · exact w_c4
  · exact w_c5
  · exact w_c6
  · exact w_c7
  · exact w_c8
  · exact w_c9
set_option maxRecDepth 65536 in
theorem w_t1 : (words1.take 24).all (fun c => isCode c || c.before args0 about1) = true := by decide +kernel
set_option maxRecDepth 65536 in
theorem w_t2 : ((words1.drop 24).take 24).all (fun c => isCode c || c.before args0 about1) = true := by decide +kernel
set_option maxRecDepth 65536 in
theorem w_t3 : ((words1.drop 24).drop 24).all (fun c => isCode c || c.before args0 about1) = true := by decide +kernel
theorem w_tables : (allAtoms (Jvm.Cond.code x code maxLocals ret :: tables_1)).before args0 about1 = true := by
  rw [allAtoms_all]
  show words1.all (fun c => c.before args0 about1) = true
  refine all_split ?_ w_codes
  rw [← List.take_append_drop 24 words1, List.all_append, w_t1, ← List.take_append_drop 24 (words1.drop 24), List.all_append, w_t2, w_t3]
  rfl
set_option maxRecDepth 65536 in
theorem w_rest : rest_1_c.before args0 about1 = true := by decide +kernel
set_option maxRecDepth 65536 in
theorem w_case : (Jvm.Cond.and given_1 narrow_1).before args0 about1 = true := by decide +kernel
theorem w_applies : (headSpec (Jvm.Cond.code x code maxLocals ret :: tables_1) room_1).applies x e0.platform about1 = true :=
  (Spec.applies_iff w_frames).mpr ⟨w_running, w_runnable, w_alone, w_named, w_hears, w_ripe, w_room, w_tables⟩
theorem atStart : AtStart classFile x code maxLocals ret World_1 tables_1 room_1 Calls_1 rest_1 Pre_1 launch0 p0 e0 about1 theMethod args0 below0 :=
  ⟨lists_1, trivial, launch0.admits_env _ _ _, launch0.least_env, fairChoices_fair.cas, fairChoices_fair.clock, w_frames, w_args, w_heap, w_applies, trivial, w_rest, w_case⟩
end start1
theorem witness_1 : WitnessClaimed_1 := ⟨start1.p0, start1.e0, start1.about1, start1.theMethod, start1.args0, start1.below0, start1.atStart⟩
end Jvm.Pilot.@@N@@
