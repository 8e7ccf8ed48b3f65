import JvmDerived
import JvmDerived.Pilot.@@N@@Statement
import JvmDerived.Pilot.@@N@@Code
set_option linter.unusedVariables false
set_option linter.unusedSimpArgs false
@@BLOCK:NumsL.lean.txt@@
namespace Jvm.Pilot.@@N@@
open Jvm Jvm.ClassFile Sem Op Lib Jvm.Free Jvm.Stand Jvm.LawKit Jvm.RoadKit Bundle Jvm.Pilot.@@N@@.Jvm.D
section OwnKit
variable {p : Program} {l : Launch} {e : Env} {R : Room} {s : State} {m : MethodId} {args : Array Value} {below : List Frame} {meth : Method} {c : Code} {T T' : State} {locs : List Loc} {cells slots : Nat} {Z : State} {h : Heap} {a0 : Array Value}
/-- from the state T with the frame g on top the method comes to its end, and what it leaves meets E -/
def own_WP (p : Program) (e : Env) (below : List Frame) (E : Outcome → State → Prop) (T : State) (g : JFrame) : Prop :=
  ∃ s₂ o, Steps p.tables e below (T.setTop g) s₂ ∧ s₂.status = .running ∧ Ended s₂ below o ∧ E o s₂
/-- it returns, and what it leaves meets Q within K cells and N slots -/
def own_E (s : State) (Q : Option Value → Heap → List Loc → Prop) (K N : Nat) (o : Outcome) (t : State) : Prop := ∃ v L, o = .returned v ∧ Q v t.heap L ∧ FrameEnd s o t L K N
variable {Q : Option Value → Heap → List Loc → Prop} {K N : Nat} {g g' : JFrame} {E : Outcome → State → Prop}
theorem own_go (h : ∀ t, Steps p.tables e below (T'.setTop g') t → Steps p.tables e below (T.setTop g) t) (k : own_WP p e below E T' g') : own_WP p e below E T g := by
  obtain ⟨s₂, o, h1, h2⟩ := k
  exact ⟨s₂, o, h s₂ h1, h2⟩
theorem own_tr (h : Steps p.tables e below (T.setTop g) (T'.setTop g')) (k : own_WP p e below E T' g') : own_WP p e below E T g := by
  obtain ⟨s₂, o, h1, h2⟩ := k
  exact ⟨s₂, o, h.trans h1, h2⟩
theorem own_end (X : Stand p l e R s m args below meth c T locs cells slots) (hlk : meth.locks = false) {v : Option Value} (hv : meth.sig.returnType = none → v = none)
    (hs : ∀ fs, (∀ (f : JFrame) (acts : List Action), f.method = m → f.locked = none → f.entered = [] → (doReturn e (T.setTop f) acts v).1 = T.setFrames fs) → Steps p.tables e below (T.setTop g) (T.setFrames fs))
    (hk : cells ≤ K) (hn : slots ≤ N) (hq : Q v T.heap locs) : own_WP p e below (own_E s Q K N) T g := by
  obtain ⟨fs, hr, hrun, hended, hW, hsame⟩ := X.leave hv hlk
  exact ⟨_, _, hs fs hr, hrun, hended, _, _, rfl, hq, ⟨_, rfl⟩, hW, hsame.mono hk hn⟩
theorem own_retV (X : Stand p l e R s m args below meth c T locs cells slots) (hx : p.tables.exec = Jvm.exec) (hlk : meth.locks = false) {pc : Nat} {Ls : Array Slot} (hret : meth.sig.returnType = none) (hd : decode c.code pc = .ok (.return_, 1))
    (hk : cells ≤ K) (hn : slots ≤ N) (hq : Q none T.heap locs) : own_WP p e below (own_E s Q K N) T (mkF m pc Ls []) :=
  own_end X hlk (fun _ => rfl) (fun fs hr => X.returnOut hx hret hd hr) hk hn hq
theorem own_retI (X : Stand p l e R s m args below meth c T locs cells slots) (hx : p.tables.exec = Jvm.exec) (hlk : meth.locks = false) {pc : Nat} {Ls : Array Slot} {z : Int32} (hret : meth.sig.returnType = some .int) (hd : decode c.code pc = .ok (.ireturn, 1))
    (hk : cells ≤ K) (hn : slots ≤ N) (hq : Q (some (.int z)) T.heap locs) : own_WP p e below (own_E s Q K N) T (mkF m pc Ls [.int z]) :=
  own_end X hlk (fun h => by rw [hret] at h; cases h) (fun fs hr => retOut X hx hret rfl (Or.inl ⟨rfl, Or.inl rfl, z, rfl⟩) hd hr) hk hn hq
theorem own_retJ (X : Stand p l e R s m args below meth c T locs cells slots) (hx : p.tables.exec = Jvm.exec) (hlk : meth.locks = false) {pc : Nat} {Ls : Array Slot} {z : Int64} (hret : meth.sig.returnType = some .long) (hd : decode c.code pc = .ok (.lreturn, 1))
    (hk : cells ≤ K) (hn : slots ≤ N) (hq : Q (some (.long z)) T.heap locs) : own_WP p e below (own_E s Q K N) T (mkF m pc Ls [.long z]) :=
  own_end X hlk (fun h => by rw [hret] at h; cases h) (fun fs hr => X.lreturnOut hx hret hd hr) hk hn hq
theorem own_retA (X : Stand p l e R s m args below meth c T locs cells slots) (hx : p.tables.exec = Jvm.exec) (hlk : meth.locks = false) {pc : Nat} {Ls : Array Slot} {w : Value} (hw : w.isRef = true) {t : FieldType} (ht : t.isReference = true) (hret : meth.sig.returnType = some t) (hd : decode c.code pc = .ok (.areturn, 1))
    (hk : cells ≤ K) (hn : slots ≤ N) (hq : Q (some w) T.heap locs) : own_WP p e below (own_E s Q K N) T (mkF m pc Ls [w]) :=
  own_end X hlk (fun h => by rw [hret] at h; cases h) (fun fs hr => X.areturnOut hx hw hret ht hd hr) hk hn hq
theorem own_retN (X : Stand p l e R s m args below meth c T locs cells slots) (hx : p.tables.exec = Jvm.exec) (hlk : meth.locks = false) {pc : Nat} {Ls : Array Slot} {z : Int32} {t : FieldType} (ht : t = .boolean ∨ t = .byte ∨ t = .char ∨ t = .short) (hret : meth.sig.returnType = some t) (hd : decode c.code pc = .ok (.ireturn, 1))
    (hk : cells ≤ K) (hn : slots ≤ N) (hq : Q (some (.int (nar t z))) T.heap locs) : own_WP p e below (own_E s Q K N) T (mkF m pc Ls [.int z]) :=
  own_end X hlk (fun h => by rw [hret] at h; cases h) (fun fs hr => retN X hx hret ht hd hr) hk hn hq
theorem own_len (X : Stand p l e R s m args below meth c T locs cells slots) (hx : p.tables.exec = Jvm.exec) (hZ : Z.Warmed39 s.vm) (eT : T.heap = h) {a : Addr} {k : ClassId} {ty : FieldType} {n : Int32} {vs : List Value} {d : Value} (V : Arv Z h a k ty n vs d)
    {pc : Nat} {Ls : Array Slot} {S : List Value} (hd : decode c.code pc = .ok (.arraylength, 1)) (kk : own_WP p e below E T (mkF m (pc + 1) Ls (.int n :: S))) : own_WP p e below E T (mkF m pc Ls (.ref a :: S)) := by
  obtain ⟨cl, A, q, S1, M, H, G⟩ := V
  refine own_go (fun t k => X.arraylength hx (by rw [eT]; exact A.1) (State.isArrayOf_alike hZ.alike A.2.1) (g := mkF m pc Ls (.ref a :: S)) rfl rfl hd t k) ?_
  rw [len_of S1 M]
  exact kk
theorem own_at {cl : Cell} {n j : Int32} {vs : List Value} {d w : Value} (S1 : cl.slots.size = n.toNatClampNeg) (H : Has cl vs d) (hj : ¬ j < 0 ∧ j < n) (hv : vs.getD j.toNatClampNeg d = w) : cl.slots[j.toNatClampNeg]? = some w :=
  H.at (inb_of S1 hj) hv
theorem own_ldI (X : Stand p l e R s m args below meth c T locs cells slots) (hx : p.tables.exec = Jvm.exec) (hZ : Z.Warmed39 s.vm) (eT : T.heap = h) {a : Addr} {k : ClassId} {n j w : Int32} {vs : List Value} {d : Value} (V : Arv Z h a k .int n vs d) (hj : ¬ j < 0 ∧ j < n) (hv : vs.getD j.toNatClampNeg d = .int w)
    {pc : Nat} {Ls : Array Slot} {S : List Value} (hd : decode c.code pc = .ok (.iaload, 1)) (kk : own_WP p e below E T (mkF m (pc + 1) Ls (.int w :: S))) : own_WP p e below E T (mkF m pc Ls (.int j :: .ref a :: S)) := by
  obtain ⟨cl, A, q, S1, M, H, G⟩ := V
  exact own_go (fun t k => X.iaload hx (j := j) (v := .int w) (by rw [eT]; exact A.1) (State.isArrayOf_alike hZ.alike A.2.1) A.2.2 (inb_of S1 hj) (own_at S1 H hj hv) (g := mkF m pc Ls (.int j :: .ref a :: S)) rfl rfl hd t k) kk
theorem own_ldJ (X : Stand p l e R s m args below meth c T locs cells slots) (hx : p.tables.exec = Jvm.exec) (hZ : Z.Warmed39 s.vm) (eT : T.heap = h) {a : Addr} {k : ClassId} {n j : Int32} {w : Int64} {vs : List Value} {d : Value} (V : Arv Z h a k .long n vs d) (hj : ¬ j < 0 ∧ j < n) (hv : vs.getD j.toNatClampNeg d = .long w)
    {pc : Nat} {Ls : Array Slot} {S : List Value} (hd : decode c.code pc = .ok (.laload, 1)) (kk : own_WP p e below E T (mkF m (pc + 1) Ls (.long w :: S))) : own_WP p e below E T (mkF m pc Ls (.int j :: .ref a :: S)) := by
  obtain ⟨cl, A, q, S1, M, H, G⟩ := V
  exact own_go (fun t k => X.laload hx (j := j) (v := .long w) (by rw [eT]; exact A.1) (State.isArrayOf_alike hZ.alike A.2.1) A.2.2 (inb_of S1 hj) (own_at S1 H hj hv) (g := mkF m pc Ls (.int j :: .ref a :: S)) rfl rfl hd t k) kk
theorem own_ldB (X : Stand p l e R s m args below meth c T locs cells slots) (hx : p.tables.exec = Jvm.exec) (hZ : Z.Warmed39 s.vm) (eT : T.heap = h) {a : Addr} {k : ClassId} {n j w : Int32} {vs : List Value} {d : Value} (V : Arv Z h a k .byte n vs d) (hj : ¬ j < 0 ∧ j < n) (hv : vs.getD j.toNatClampNeg d = .int w)
    {pc : Nat} {Ls : Array Slot} {S : List Value} (hd : decode c.code pc = .ok (.baload, 1)) (kk : own_WP p e below E T (mkF m (pc + 1) Ls (.int w :: S))) : own_WP p e below E T (mkF m pc Ls (.int j :: .ref a :: S)) := by
  obtain ⟨cl, A, q, S1, M, H, G⟩ := V
  exact own_go (fun t k => X.baloadBytes hx (j := j) (v := .int w) (by rw [eT]; exact A.1) (State.isArrayOf_alike hZ.alike A.2.1) A.2.2 (inb_of S1 hj) (own_at S1 H hj hv) (g := mkF m pc Ls (.int j :: .ref a :: S)) rfl rfl hd t k) kk
theorem own_ldR (X : Stand p l e R s m args below meth c T locs cells slots) (hx : p.tables.exec = Jvm.exec) (hZ : Z.Warmed39 s.vm) (eT : T.heap = h) {a : Addr} {k : ClassId} {ty : FieldType} (hty : ty.isReference = true) {n j : Int32} {w : Value} {vs : List Value} {d : Value} (V : Arv Z h a k ty n vs d) (hj : ¬ j < 0 ∧ j < n) (hv : vs.getD j.toNatClampNeg d = w)
    {pc : Nat} {Ls : Array Slot} {S : List Value} (hd : decode c.code pc = .ok (.aaload, 1)) (kk : own_WP p e below E T (mkF m (pc + 1) Ls (w :: S))) : own_WP p e below E T (mkF m pc Ls (.int j :: .ref a :: S)) := by
  obtain ⟨cl, A, q, S1, M, H, G⟩ := V
  exact own_go (fun t k => X.aaload hx (j := j) (v := w) (by rw [eT]; exact A.1) (State.isArrayOf_alike hZ.alike A.2.1) hty A.2.2 (inb_of S1 hj) (own_at S1 H hj hv) (g := mkF m pc Ls (.int j :: .ref a :: S)) rfl rfl hd t k) kk
theorem own_stI (X : Stand p l e R s m args below meth c T locs cells slots) (hx : p.tables.exec = Jvm.exec) (hZ : Z.Warmed39 s.vm) (eT : T.heap = h) {a : Addr} {k : ClassId} {n j x : Int32} {vs : List Value} {d : Value} (V : Arv Z h a k .int n vs d) (hj : ¬ j < 0 ∧ j < n) {i : Nat} (hji : j.toNatClampNeg = i) (hi : i < vs.length)
    {pc : Nat} {Ls : Array Slot} {S : List Value} (hd : decode c.code pc = .ok (.iastore, 1))
    (kk : ∀ T' h', Stand p l e R s m args below meth c T' (locs ++ [⟨a, j.toNatClampNeg⟩]) cells slots → T'.heap = h' → Wr h h' a j.toNatClampNeg (.int x) → Arv Z h' a k .int n (vs.set i (.int x)) d → own_WP p e below E T' (mkF m (pc + 1) Ls S)) : own_WP p e below E T (mkF m pc Ls (.int x :: .int j :: .ref a :: S)) := by
  obtain ⟨cl, A, q, S1, M, H, G⟩ := V
  obtain ⟨T', h', X', e', W', st⟩ := stI X hx hZ eT A (j := j) (inb_of S1 hj) (g := mkF m pc Ls (.int x :: .int j :: .ref a :: S)) rfl rfl hd
  exact own_go st (kk T' h' X' e' W' (Arv.set A q S1 M H G rfl W' i hji hi))
theorem own_stJ (X : Stand p l e R s m args below meth c T locs cells slots) (hx : p.tables.exec = Jvm.exec) (hZ : Z.Warmed39 s.vm) (eT : T.heap = h) {a : Addr} {k : ClassId} {n j : Int32} {x : Int64} {vs : List Value} {d : Value} (V : Arv Z h a k .long n vs d) (hj : ¬ j < 0 ∧ j < n) {i : Nat} (hji : j.toNatClampNeg = i) (hi : i < vs.length)
    {pc : Nat} {Ls : Array Slot} {S : List Value} (hd : decode c.code pc = .ok (.lastore, 1))
    (kk : ∀ T' h', Stand p l e R s m args below meth c T' (locs ++ [⟨a, j.toNatClampNeg⟩]) cells slots → T'.heap = h' → Wr h h' a j.toNatClampNeg (.long x) → Arv Z h' a k .long n (vs.set i (.long x)) d → own_WP p e below E T' (mkF m (pc + 1) Ls S)) : own_WP p e below E T (mkF m pc Ls (.long x :: .int j :: .ref a :: S)) := by
  obtain ⟨cl, A, q, S1, M, H, G⟩ := V
  obtain ⟨T', h', X', e', W', st⟩ := stJ X hx hZ eT A (j := j) (inb_of S1 hj) (g := mkF m pc Ls (.long x :: .int j :: .ref a :: S)) rfl rfl hd
  exact own_go st (kk T' h' X' e' W' (Arv.set A q S1 M H G rfl W' i hji hi))
theorem own_stB (X : Stand p l e R s m args below meth c T locs cells slots) (hx : p.tables.exec = Jvm.exec) (hZ : Z.Warmed39 s.vm) (eT : T.heap = h) {a : Addr} {k : ClassId} {n j x : Int32} {vs : List Value} {d : Value} (V : Arv Z h a k .byte n vs d) (hj : ¬ j < 0 ∧ j < n) {i : Nat} (hji : j.toNatClampNeg = i) (hi : i < vs.length)
    {pc : Nat} {Ls : Array Slot} {S : List Value} (hd : decode c.code pc = .ok (.bastore, 1))
    (kk : ∀ T' h', Stand p l e R s m args below meth c T' (locs ++ [⟨a, j.toNatClampNeg⟩]) cells slots → T'.heap = h' → Wr h h' a j.toNatClampNeg (.int (nar .byte x)) → Arv Z h' a k .byte n (vs.set i (.int (nar .byte x))) d → own_WP p e below E T' (mkF m (pc + 1) Ls S)) : own_WP p e below E T (mkF m pc Ls (.int x :: .int j :: .ref a :: S)) := by
  obtain ⟨cl, A, q, S1, M, H, G⟩ := V
  obtain ⟨T', h', X', e', W', st⟩ := stB X hx hZ eT A (j := j) (inb_of S1 hj) (g := mkF m pc Ls (.int x :: .int j :: .ref a :: S)) rfl rfl hd
  exact own_go st (kk T' h' X' e' W' (Arv.set A q S1 M H G (fits_nar_byte x) W' i hji hi))
theorem own_nm {x a : Addr} (h : x ≠ a) : x ∉ [a] := fun q => h (List.mem_singleton.mp q)
theorem own_nm0 {x : Addr} : x ∉ ([] : List Addr) := List.not_mem_nil
theorem own_nm2 {x a b : Addr} (h : x ≠ a) (h' : x ≠ b) : x ∉ [a, b] := fun q => by
  rcases List.mem_cons.mp q with r | r
  · exact h r
  · exact h' (List.mem_singleton.mp r)
theorem own_le {h0 h : Heap} {n0 : Nat} {ws : List Addr} (Z0 : n0 ≤ h0.size) (K : Keep h0 h ws) : n0 ≤ h.size := Nat.le_trans Z0 K.1
end OwnKit
theorem own_sh {x y sh : Int32} {k : Nat} (h0 : 0 ≤ x.toInt) (e : ((x.toUInt32 >>> (sh &&& 31).toUInt32).toInt32) = y) (hn : (sh &&& 31).toUInt32.toNat = k) (hk : k < 32) : y.toInt = x.toInt / 2 ^ k := by
  rw [← e]
  exact Jvm.Kit.i32_iushr (Jvm.Kit.i32_nonneg.mpr h0) hn hk
theorem own_lo {x : Int32} {K : Int} {c : Int32} (hc : c.toInt = K) (h0 : 0 ≤ x.toInt) (h : x < c) : 0 ≤ x.toInt ∧ x.toInt < K := by
  rw [Int32.lt_iff_toInt_lt] at h; omega
theorem own_nz (z : Int64) (h : ¬ z = 0) (hx : ((z.toUInt64 >>> ((32 : Int32) &&& 0x3f).toInt64.toUInt64).toInt64).toInt32 = 0) : ¬ z.toInt32 = 0 := by
  intro hl
  apply h
  apply Int64.toBitVec_inj.mp
  have e1 : z.toBitVec.truncate 32 = 0#32 := by
    have q := congrArg Int32.toBitVec hl
    rw [Int64.toBitVec_toInt32, BitVec.signExtend_eq_setWidth_of_le _ (by decide)] at q
    exact q
  have e2 : (z.toBitVec >>> 32).truncate 32 = 0#32 := by
    have q := congrArg Int32.toBitVec hx
    have r : ((z.toUInt64 >>> ((32 : Int32) &&& 0x3f).toInt64.toUInt64).toInt64).toBitVec = z.toBitVec >>> 32 := by
      show ((z.toUInt64 >>> _).toBitVec) = _
      rw [UInt64.toBitVec_shiftRight]
      rfl
    rw [Int64.toBitVec_toInt32, BitVec.signExtend_eq_setWidth_of_le _ (by decide), r] at q
    exact q
  show z.toBitVec = 0#64
  apply BitVec.eq_of_getLsbD_eq
  intro i hi
  by_cases c : i < 32
  · have q := congrArg (fun v => BitVec.getLsbD v i) e1
    simp [BitVec.getLsbD_setWidth, c] at q
    simpa using q
  · have q := congrArg (fun v => BitVec.getLsbD v (i - 32)) e2
    simp [BitVec.getLsbD_setWidth, BitVec.getLsbD_ushiftRight, show i - 32 < 32 by omega, show 32 + (i - 32) = i by omega] at q
    simpa using q
def own_eoc (t : Int32) (z : Int64) : Int32 := if t = 0 then (if z = 0 then 1 else 0) else 0
theorem own_tag (t : Int32) (h0 : 0 ≤ t.toInt) (h1 : t.toInt < 256) : nar .byte t.toInt8.toInt32 = 0 ↔ t = 0 := by
  have q : ∀ n : Fin 256, nar .byte (Int32.ofNat n.1).toInt8.toInt32 = 0 ↔ Int32.ofNat n.1 = 0 := by decide +kernel
  have e : t = Int32.ofNat t.toInt.toNat := by
    apply Int32.toInt_inj.mp
    rw [Int32.toInt_ofNat_of_lt (by show t.toInt.toNat < 2 ^ 31; omega)]
    show t.toInt = (t.toInt.toNat : Int)
    omega
  rw [e]
  exact q ⟨t.toInt.toNat, by omega⟩
theorem own_lenb (z : Int64) (h0 : -1 ≤ z.toInt) (h1 : z < 128) : nar .byte z.toInt32.toInt8.toInt32 = 0 ↔ z = 0 := by
  have e128 : (128 : Int64).toInt = 128 := rfl
  rw [Int64.lt_iff_toInt_lt] at h1
  by_cases c : z.toInt = -1
  · have e : z = -1 := Int64.toInt_inj.mp c
    subst e; decide
  · have q : ∀ n : Fin 128, nar .byte (Int64.ofNat n.1).toInt32.toInt8.toInt32 = 0 ↔ Int64.ofNat n.1 = 0 := by decide +kernel
    have e : z = Int64.ofNat z.toInt.toNat := by
      apply Int64.toInt_inj.mp
      rw [Int64.toInt_ofNat_of_lt (by show z.toInt.toNat < 2 ^ 63; omega)]
      show z.toInt = (z.toInt.toNat : Int)
      omega
    rw [e]
    exact q ⟨z.toInt.toNat, by omega⟩
theorem own_nby {r : Int32} (h0 : 0 ≤ r.toInt) (h1 : r.toInt ≤ 63) : 1 ≤ ((((64 : Int32) - r) + (7 : Int32)) / (8 : Int32)).toInt ∧ ((((64 : Int32) - r) + (7 : Int32)) / (8 : Int32)).toInt ≤ 8 := by
  have e64 : (64 : Int32).toInt = 64 := rfl
  have e7 : (7 : Int32).toInt = 7 := rfl
  have e8 : (8 : Int32).toInt = 8 := rfl
  have s1 : ((64 : Int32) - r).toInt = 64 - r.toInt := by rw [Jvm.Kit.i32_sub (by omega) (by omega), e64]
  have s2 : (((64 : Int32) - r) + (7 : Int32)).toInt = 71 - r.toInt := by rw [Jvm.Kit.i32_add (by omega) (by omega)]; omega
  rw [Jvm.Kit.i32_div (by omega), s2, e8, Int.tdiv_eq_ediv_of_nonneg (by omega)]
  omega
theorem own_two {n : Int32} (h0 : 0 ≤ n.toInt) (h1 : n.toInt ≤ 8) : ((2 : Int32) + n).toInt = 2 + n.toInt := by
  have e : (2 : Int32).toInt = 2 := rfl
  rw [Jvm.Kit.i32_add (by omega) (by omega), e]
theorem own_nn {a : Int32} (h : 0 ≤ a.toInt) : ¬ a < 0 := by
  rw [Int32.lt_iff_toInt_lt]
  show ¬ a.toInt < 0
  omega
theorem own_cap {a : Int32} {K : Nat} (h : 0 ≤ a.toInt) (h1 : a.toInt ≤ K) : a.toNatClampNeg ≤ K := by
  simp only [Int32.toNatClampNeg]; omega

theorem own_pos {x : Int32} (h : (0 : Int32) < x) : 0 ≤ x.toInt ∧ x.toInt < 2147483648 := by
  have b := x.toInt_lt
  rw [Int32.lt_iff_toInt_lt] at h
  have e : (0 : Int32).toInt = 0 := rfl
  omega
theorem own_subs {n y : Int32} {N : Int} (h : n.toInt = N) (h1 : -2 ^ 31 ≤ N - y.toInt) (h2 : N - y.toInt < 2 ^ 31) : (n - y).toInt = N - y.toInt := by
  subst h; exact Jvm.Kit.i32_sub h1 h2
theorem own_32 {r y : Int32} (h : 0 ≤ r.toInt ∧ r.toInt ≤ 32 ∧ (y = 0 ∨ r.toInt ≤ 31)) (hy : ¬ y = 0) : 0 ≤ ((32 : Int32) + r).toInt ∧ ((32 : Int32) + r).toInt ≤ 63 := by
  have e : (32 : Int32).toInt = 32 := rfl
  have q := h.2.2.resolve_left hy
  rw [Jvm.Kit.i32_add (by omega) (by omega), e]; omega
theorem own_00 {r y : Int32} (h : 0 ≤ r.toInt ∧ r.toInt ≤ 32 ∧ (y = 0 ∨ r.toInt ≤ 31)) (hy : ¬ y = 0) : 0 ≤ r.toInt ∧ r.toInt ≤ 63 := by
  have q := h.2.2.resolve_left hy
  omega
theorem own_big {z : Int64} (h : ¬ z < 128) : ¬ z = 0 := fun e => by subst e; exact h (by decide)
theorem own_inc {i : Int32} (h1 : 0 ≤ i.toInt) (h2 : i.toInt < 100) : (i + 1).toInt = i.toInt + 1 := by
  have e : (1 : Int32).toInt = 1 := rfl
  rw [Jvm.Kit.i32_add (by omega) (by omega), e]
theorem own_lt2 {n c : Int32} (h : 1 ≤ n.toInt ∧ n.toInt ≤ 8) (hc : c.toInt < 2) : c < (2 : Int32) + n := by
  rw [Int32.lt_iff_toInt_lt, own_two (by omega) h.2]; omega
theorem own_ltj {n i j : Int32} (ej : j.toInt = 2 + i.toInt) (h : 1 ≤ n.toInt ∧ n.toInt ≤ 8) (hc : i < n) : j < (2 : Int32) + n := by
  rw [Int32.lt_iff_toInt_lt] at hc
  rw [Int32.lt_iff_toInt_lt, own_two (by omega) h.2]; omega
theorem own_jb {n i j : Int32} (ej : j.toInt = 2 + i.toInt) (h0 : 0 ≤ i.toInt) (h : 1 ≤ n.toInt ∧ n.toInt ≤ 8) (hc : i < n) : j.toNatClampNeg < 10 := by
  rw [Int32.lt_iff_toInt_lt] at hc
  simp only [Int32.toNatClampNeg]; omega
theorem own_ne2 {n : Int32} (h : 1 ≤ n.toInt ∧ n.toInt ≤ 8) : ¬ (2 : Int32) + n = 2 := fun z => by
  have q := congrArg Int32.toInt z
  rw [own_two (by omega) h.2] at q
  have e : (2 : Int32).toInt = 2 := rfl
  omega
theorem own_fb {t : Int32} {z : Int64} (h : ¬ z < 128) : own_eoc t z = 0 := by
  have q := own_big h
  unfold own_eoc
  rw [if_neg q]; simp
theorem d2_0 : decode jdk_30_method_1_code 0 = .ok (.aload_n 0, 1) := by decide +kernel
theorem d2_1 : decode jdk_30_method_1_code 1 = .ok (.invokespecial 1, 3) := by decide +kernel
theorem d2_4 : decode jdk_30_method_1_code 4 = .ok (.return_, 1) := by decide +kernel
theorem own_pn22125 : plainName "java/lang/Record" = true := by first | (simp [plainName, overriddenIn]; done) | decide +kernel
theorem ef_2 (m : MethodId) (zo : Addr) : entryFrame m #[(.ref zo)] 1 = mkF m 0 #[.val (.ref zo)] [] := by first | (simp [entryFrame, mkF, argsToLocals, Value.category]; done) | rfl
def Q2 (Z : State) (zo : Addr) (h0 : Heap) (n0 : Nat) (v : Option Value) (h : Heap) (L : List Loc) : Prop := v = none ∧ Fr n0 L ∧ h = h0
set_option maxRecDepth 65536 in
set_option maxHeartbeats 40000000 in
theorem rm2 (l : Launch) (Z : State) (a0 : Array Value) (hw : ∀ d ∈ tables_1, d.before a0 Z = true) (ws : List Jvm.Cond) (zo : Addr) (h0 : Heap) (n0 : Nat) (Z0 : n0 ≤ h0.size)  :
    MetFree l (⟨"java/lang/Record", "<init>", "()V"⟩ : MethodName) (head1 (Jvm.Cond.code (⟨"java/lang/Record", "<init>", "()V"⟩ : MethodName) jdk_30_method_1_code 1 none :: ws) ({ frames := 1, cells := 0, slots := 0, locals := 12 } : Room)) (fun a U => a = #[(.ref zo)] ∧ Z.Warmed39 U.vm ∧ U.heap = h0) (fun _ _ _ _ _ => True) (fun _ U o U' => ∃ v L, o = .returned v ∧ Q2 Z zo h0 n0 v U'.heap L ∧ FrameEnd U o U' L ({ frames := 1, cells := 0, slots := 0, locals := 12 } : Room).cells ({ frames := 1, cells := 0, slots := 0, locals := 12 } : Room).slots) := by
  refine MetFree.of_bodySF (plainFor_of_name own_pn22125) hisR ?_
  intro p e s m args below meth c s₁ Bd hml0 hP hK
  obtain ⟨rfl, hZ, hh⟩ := hP
  have hx := Bd.exec
  have hby := Bd.bytes
  have hml : c.maxLocals = 1 := hml0
  have hown : s.vm.findClass "java/lang/Record" = some m.cls := findClass_of_methodNamed Bd.named
  have hnm := (name_of_methodNamed Bd.named Bd.method).1
  have X0 : Stand p l e ({ frames := 1, cells := 0, slots := 0, locals := 12 } : Room) s m #[(.ref zo)] below meth c s₁ [] 0 0 := Stand.of_body Bd
  have e0 : s₁.heap = h0 := by rw [← hh, Bd.state]; rfl
  have N0 := Fr.nil n0
  have K0 := Keep.refl h0 ([] : List Addr)
  show own_WP p e below (own_E s (Q2 Z zo h0 n0) 0 0) s₁ (entryFrame m #[(.ref zo)] 1)
  rw [ef_2 m zo]
  show own_WP _ _ _ _ s₁ (mkF m 0 #[.val (.ref zo)] [])
  refine own_go (fun t k => XS.aloadN X0.here hx rfl (hb hby d2_0) rfl rfl  k) ?_
  show own_WP _ _ _ _ s₁ (mkF m 1 #[.val (.ref zo)] [(.ref zo)])
  obtain ⟨T1, X1, e1, st1⟩ := initO X0 hx hZ hown (hw _ (List.mem_of_getElem? (i := 12) rfl)) (hw _ (List.mem_of_getElem? (i := 13) rfl)) (hw _ (List.mem_of_getElem? (i := 14) rfl)) e0 (g := (mkF m 1 #[.val (.ref zo)] [(.ref zo)])) rfl (by rw [hml]; rfl) rfl (hb hby d2_1) (by decide) (W := 0) (by show 2 * 0 + _ ≤ _; exact Nat.le_of_eq rfl) (by decide)
  refine own_go st1 ?_
  show own_WP _ _ _ _ T1 (mkF m 4 #[.val (.ref zo)] [])
  refine own_retV X1 hx Bd.notSynchronized Bd.returns (hb hby d2_4) (by decide) (by decide) ?_
  rw [e1]
  exact ⟨rfl, N0, rfl⟩
theorem own_pd91897 : parseMethodDescriptor "()V" = some ⟨[], none⟩ := by decide +kernel
theorem d1_0 : decode prog_61_method_1_code 0 = .ok (.aload_n 0, 1) := by decide +kernel
theorem d1_1 : decode prog_61_method_1_code 1 = .ok (.invokespecial 1, 3) := by decide +kernel
theorem d1_4 : decode prog_61_method_1_code 4 = .ok (.aload_n 0, 1) := by decide +kernel
theorem d1_5 : decode prog_61_method_1_code 5 = .ok (.iload_n 1, 1) := by decide +kernel
theorem d1_6 : decode prog_61_method_1_code 6 = .ok (.putfield 7, 3) := by decide +kernel
theorem d1_9 : decode prog_61_method_1_code 9 = .ok (.aload_n 0, 1) := by decide +kernel
theorem d1_10 : decode prog_61_method_1_code 10 = .ok (.lload_n 2, 1) := by decide +kernel
theorem d1_11 : decode prog_61_method_1_code 11 = .ok (.putfield 13, 3) := by decide +kernel
theorem d1_14 : decode prog_61_method_1_code 14 = .ok (.return_, 1) := by decide +kernel
theorem own_pn8358 : plainName "com/example/kuvert/kuvert/cms/DerReader$Header" = true := by first | (simp [plainName, overriddenIn]; done) | decide +kernel
theorem ef_1 (m : MethodId) (zo : Addr) (zt : Int32) (zl : Int64) : entryFrame m #[(.ref zo), (.int zt), (.long zl)] 4 = mkF m 0 #[.val (.ref zo), .val (.int zt), .val (.long zl), .second] [] := by first | (simp [entryFrame, mkF, argsToLocals, Value.category]; done) | rfl
def Q1 (Z : State) (zo : Addr) (zt : Int32) (zl : Int64) (u0 : Value) (u1 : Value) (h0 : Heap) (n0 : Nat) (v : Option Value) (h : Heap) (L : List Loc) : Prop := v = none ∧ Fr n0 L ∧ Keep h0 h [zo] ∧ Exa Z h zo "com/example/kuvert/kuvert/cms/DerReader$Header" ∧ Fld Z h zo "com/example/kuvert/kuvert/cms/DerReader$Header" "tag" "I" (.int zt) ∧ Fld Z h zo "com/example/kuvert/kuvert/cms/DerReader$Header" "length" "J" (.long zl)
set_option maxRecDepth 65536 in
set_option maxHeartbeats 40000000 in
theorem rm1 (l : Launch) (Z : State) (a0 : Array Value) (hw : ∀ d ∈ tables_1, d.before a0 Z = true) (ws : List Jvm.Cond) (zo : Addr) (zt : Int32) (zl : Int64) (u0 : Value) (u1 : Value) (h0 : Heap) (n0 : Nat) (Z0 : n0 ≤ h0.size) (P0 : Exa Z h0 zo "com/example/kuvert/kuvert/cms/DerReader$Header") (P1 : Fld Z h0 zo "com/example/kuvert/kuvert/cms/DerReader$Header" "tag" "I" u0) (P2 : Fld Z h0 zo "com/example/kuvert/kuvert/cms/DerReader$Header" "length" "J" u1) (g_zo : n0 ≤ zo) :
    MetFree l (⟨"com/example/kuvert/kuvert/cms/DerReader$Header", "<init>", "(IJ)V"⟩ : MethodName) (head1 (Jvm.Cond.code (⟨"com/example/kuvert/kuvert/cms/DerReader$Header", "<init>", "(IJ)V"⟩ : MethodName) prog_61_method_1_code 4 none :: ws) ({ frames := 2, cells := 0, slots := 0, locals := 24 } : Room)) (fun a U => a = #[(.ref zo), (.int zt), (.long zl)] ∧ Z.Warmed39 U.vm ∧ U.heap = h0) (fun _ _ _ _ _ => True) (fun _ U o U' => ∃ v L, o = .returned v ∧ Q1 Z zo zt zl u0 u1 h0 n0 v U'.heap L ∧ FrameEnd U o U' L ({ frames := 2, cells := 0, slots := 0, locals := 24 } : Room).cells ({ frames := 2, cells := 0, slots := 0, locals := 24 } : Room).slots) := by
  refine MetFree.of_bodySF (plainFor_of_name own_pn8358) hisR ?_
  intro p e s m args below meth c s₁ Bd hml0 hP hK
  obtain ⟨rfl, hZ, hh⟩ := hP
  have hx := Bd.exec
  have hby := Bd.bytes
  have hml : c.maxLocals = 4 := hml0
  have hown : s.vm.findClass "com/example/kuvert/kuvert/cms/DerReader$Header" = some m.cls := findClass_of_methodNamed Bd.named
  have hnm := (name_of_methodNamed Bd.named Bd.method).1
  have X0 : Stand p l e ({ frames := 2, cells := 0, slots := 0, locals := 24 } : Room) s m #[(.ref zo), (.int zt), (.long zl)] below meth c s₁ [] 0 0 := Stand.of_body Bd
  have e0 : s₁.heap = h0 := by rw [← hh, Bd.state]; rfl
  have N0 := Fr.nil n0
  have K0 := Keep.refl h0 [zo]
  show own_WP p e below (own_E s (Q1 Z zo zt zl u0 u1 h0 n0) 0 0) s₁ (entryFrame m #[(.ref zo), (.int zt), (.long zl)] 4)
  rw [ef_1 m zo zt zl]
  show own_WP _ _ _ _ s₁ (mkF m 0 #[.val (.ref zo), .val (.int zt), .val (.long zl), .second] [])
  refine own_go (fun t k => XS.aloadN X0.here hx rfl (hb hby d1_0) rfl rfl  k) ?_
  show own_WP _ _ _ _ s₁ (mkF m 1 #[.val (.ref zo), .val (.int zt), .val (.long zl), .second] [(.ref zo)])
  obtain ⟨_, _, ⟨T1, L1, k1, n1⟩, -, X1, ⟨Lc1, hQ1, l1, y1, z1⟩, st1⟩ := X0.specialBack hx (y := (⟨"java/lang/Record", "<init>", "()V"⟩ : MethodName)) rfl hown (mvT hZ (hw _ (List.mem_of_getElem? (i := 7) rfl))) (mvT hZ (hw _ (List.mem_of_getElem? (i := 8) rfl))) (mvT hZ (hw _ (List.mem_of_getElem? (i := 11) rfl))) (by decide) (backOf (W := 0) (rm2 l Z a0 hw [] zo  h0 n0 (own_le Z0 K0) ) hZ (hw _ (List.mem_of_getElem? (i := 11) rfl)) (hw _ (List.mem_of_getElem? (i := 10) rfl)) (by decide) (by decide)) (g := (mkF m 1 #[.val (.ref zo), .val (.int zt), .val (.long zl), .second] [(.ref zo)])) rfl (by rw [hml]; rfl) (Steps.refl _) (a := zo) (argsL := []) (rest := []) (lenOf own_pd91897 rfl) rfl (by show 2 * 0 + _ ≤ _; exact Nat.le_of_eq rfl) (hb hby d1_1) (fun _ _ => ⟨rfl, e0, (by decide : 0 + 0 ≤ _), (by decide : 0 + 0 ≤ _)⟩)
  dsimp only [Pt.U, Pt.locs, Pt.cells, Pt.slots] at X1 l1 y1 z1 st1 hQ1
  subst l1 y1 z1
  obtain ⟨rfl, N1q, eq1⟩ := hQ1
  have N1 := Fr.app N0 N1q
  refine own_tr st1 ?_
  show own_WP _ _ _ _ T1 (mkF m 4 #[.val (.ref zo), .val (.int zt), .val (.long zl), .second] [])
  refine own_go (fun t k => XS.aloadN X1.here hx rfl (hb hby d1_4) rfl rfl  k) ?_
  show own_WP _ _ _ _ T1 (mkF m 5 #[.val (.ref zo), .val (.int zt), .val (.long zl), .second] [(.ref zo)])
  refine own_go (fun t k => XS.iloadN X1.here hx rfl (hb hby d1_5) rfl  k) ?_
  show own_WP _ _ _ _ T1 (mkF m 6 #[.val (.ref zo), .val (.int zt), .val (.long zl), .second] [(.int zt), (.ref zo)])
  obtain ⟨T2, h2, X2, e2, W2, st2⟩ := putF X1 hx hZ hown (host := "") (Or.inl (hw _ (List.mem_of_getElem? (i := 15) rfl))) Via.refl eq1 P1 P0 (Or.inr ⟨(hw _ (List.mem_of_getElem? (i := 16) rfl)), rfl, hnm⟩) (hw _ (List.mem_of_getElem? (i := 2) rfl)) (ty := .int) (by decide) rfl rfl (g := (mkF m 6 #[.val (.ref zo), .val (.int zt), .val (.long zl), .second] [(.int zt), (.ref zo)])) rfl rfl (hb hby d1_6)
  refine own_go st2 ?_
  have f3 : Fld Z h2 zo "com/example/kuvert/kuvert/cms/DerReader$Header" "tag" "I" (.int zt) := P1.same W2
  have f4 : Exa Z h2 zo "com/example/kuvert/kuvert/cms/DerReader$Header" := P0.wr W2
  have f6 : Fld Z h2 zo "com/example/kuvert/kuvert/cms/DerReader$Header" "length" "J" u1 := P2.other W2 (Or.inr (slot_ne (Or.inr (hw _ (List.mem_of_getElem? (i := 18) rfl))) (Or.inr (hw _ (List.mem_of_getElem? (i := 16) rfl))) (by decide) (t := .long) (t' := .int) (by decide) (by decide)))
  have K7 : Keep h0 h2 [zo] := K0.wr W2 (Or.inl (List.mem_of_getElem? (i := 0) rfl))
  have N8 := Fr.snoc X2 N1 g_zo
  show own_WP _ _ _ _ T2 (mkF m 9 #[.val (.ref zo), .val (.int zt), .val (.long zl), .second] [])
  refine own_go (fun t k => XS.aloadN X2.here hx rfl (hb hby d1_9) rfl rfl  k) ?_
  show own_WP _ _ _ _ T2 (mkF m 10 #[.val (.ref zo), .val (.int zt), .val (.long zl), .second] [(.ref zo)])
  refine own_go (fun t k => XS.lloadN X2.here hx rfl (hb hby d1_10) rfl  k) ?_
  show own_WP _ _ _ _ T2 (mkF m 11 #[.val (.ref zo), .val (.int zt), .val (.long zl), .second] [(.long zl), (.ref zo)])
  obtain ⟨T9, h9, X9, e9, W9, st9⟩ := putF X2 hx hZ hown (host := "") (Or.inl (hw _ (List.mem_of_getElem? (i := 17) rfl))) Via.refl e2 f6 f4 (Or.inr ⟨(hw _ (List.mem_of_getElem? (i := 18) rfl)), rfl, hnm⟩) (hw _ (List.mem_of_getElem? (i := 2) rfl)) (ty := .long) (by decide) rfl rfl (g := (mkF m 11 #[.val (.ref zo), .val (.int zt), .val (.long zl), .second] [(.long zl), (.ref zo)])) rfl rfl (hb hby d1_11)
  refine own_go st9 ?_
  have f10 : Fld Z h9 zo "com/example/kuvert/kuvert/cms/DerReader$Header" "length" "J" (.long zl) := f6.same W9
  have f11 : Exa Z h9 zo "com/example/kuvert/kuvert/cms/DerReader$Header" := f4.wr W9
  have f13 : Fld Z h9 zo "com/example/kuvert/kuvert/cms/DerReader$Header" "tag" "I" (.int zt) := f3.other W9 (Or.inr (slot_ne (Or.inr (hw _ (List.mem_of_getElem? (i := 16) rfl))) (Or.inr (hw _ (List.mem_of_getElem? (i := 18) rfl))) (by decide) (t := .int) (t' := .long) (by decide) (by decide)))
  have K14 : Keep h0 h9 [zo] := K7.wr W9 (Or.inl (List.mem_of_getElem? (i := 0) rfl))
  have N15 := Fr.snoc X9 N8 g_zo
  show own_WP _ _ _ _ T9 (mkF m 14 #[.val (.ref zo), .val (.int zt), .val (.long zl), .second] [])
  refine own_retV X9 hx Bd.notSynchronized Bd.returns (hb hby d1_14) (by decide) (by decide) ?_
  rw [e9]
  exact ⟨rfl, N15, K14, f11, f13, f10⟩
theorem d4_0 : decode prog_61_method_3_code 0 = .ok (.aload_n 0, 1) := by decide +kernel
theorem d4_1 : decode prog_61_method_3_code 1 = .ok (.getfield 7, 3) := by decide +kernel
theorem d4_4 : decode prog_61_method_3_code 4 = .ok (.ifCond .ne 16, 3) := by decide +kernel
theorem d4_7 : decode prog_61_method_3_code 7 = .ok (.aload_n 0, 1) := by decide +kernel
theorem d4_8 : decode prog_61_method_3_code 8 = .ok (.getfield 13, 3) := by decide +kernel
theorem d4_11 : decode prog_61_method_3_code 11 = .ok (.lconst 0, 1) := by decide +kernel
theorem d4_12 : decode prog_61_method_3_code 12 = .ok (.lcmp, 1) := by decide +kernel
theorem d4_13 : decode prog_61_method_3_code 13 = .ok (.ifCond .ne 7, 3) := by decide +kernel
theorem d4_16 : decode prog_61_method_3_code 16 = .ok (.iconst 1, 1) := by decide +kernel
theorem d4_17 : decode prog_61_method_3_code 17 = .ok (.goto 4, 3) := by decide +kernel
theorem d4_20 : decode prog_61_method_3_code 20 = .ok (.iconst 0, 1) := by decide +kernel
theorem d4_21 : decode prog_61_method_3_code 21 = .ok (.ireturn, 1) := by decide +kernel
theorem ef_4 (m : MethodId) (zo : Addr) : entryFrame m #[(.ref zo)] 1 = mkF m 0 #[.val (.ref zo)] [] := by first | (simp [entryFrame, mkF, argsToLocals, Value.category]; done) | rfl
def Q4 (Z : State) (zo : Addr) (zt : Int32) (zl : Int64) (h0 : Heap) (n0 : Nat) (v : Option Value) (h : Heap) (L : List Loc) : Prop := v = some (.int (own_eoc zt zl)) ∧ Fr n0 L ∧ h = h0
set_option maxRecDepth 65536 in
set_option maxHeartbeats 40000000 in
theorem rm4 (l : Launch) (Z : State) (a0 : Array Value) (hw : ∀ d ∈ tables_1, d.before a0 Z = true) (ws : List Jvm.Cond) (zo : Addr) (zt : Int32) (zl : Int64) (h0 : Heap) (n0 : Nat) (Z0 : n0 ≤ h0.size) (P0 : Fld Z h0 zo "com/example/kuvert/kuvert/cms/DerReader$Header" "tag" "I" (.int zt)) (P1 : Fld Z h0 zo "com/example/kuvert/kuvert/cms/DerReader$Header" "length" "J" (.long zl)) :
    MetFree l (⟨"com/example/kuvert/kuvert/cms/DerReader$Header", "isEndOfContents", "()Z"⟩ : MethodName) (head1 (Jvm.Cond.code (⟨"com/example/kuvert/kuvert/cms/DerReader$Header", "isEndOfContents", "()Z"⟩ : MethodName) prog_61_method_3_code 1 (some .boolean) :: ws) ({ frames := 0, cells := 0, slots := 0, locals := 0 } : Room)) (fun a U => a = #[(.ref zo)] ∧ Z.Warmed39 U.vm ∧ U.heap = h0) (fun _ _ _ _ _ => True) (fun _ U o U' => ∃ v L, o = .returned v ∧ Q4 Z zo zt zl h0 n0 v U'.heap L ∧ FrameEnd U o U' L ({ frames := 0, cells := 0, slots := 0, locals := 0 } : Room).cells ({ frames := 0, cells := 0, slots := 0, locals := 0 } : Room).slots) := by
  refine MetFree.of_bodySF (plainFor_of_name own_pn8358) hisR ?_
  intro p e s m args below meth c s₁ Bd hml0 hP hK
  obtain ⟨rfl, hZ, hh⟩ := hP
  have hx := Bd.exec
  have hby := Bd.bytes
  have hml : c.maxLocals = 1 := hml0
  have hown : s.vm.findClass "com/example/kuvert/kuvert/cms/DerReader$Header" = some m.cls := findClass_of_methodNamed Bd.named
  have hnm := (name_of_methodNamed Bd.named Bd.method).1
  have X0 : Stand p l e ({ frames := 0, cells := 0, slots := 0, locals := 0 } : Room) s m #[(.ref zo)] below meth c s₁ [] 0 0 := Stand.of_body Bd
  have e0 : s₁.heap = h0 := by rw [← hh, Bd.state]; rfl
  have N0 := Fr.nil n0
  have K0 := Keep.refl h0 ([] : List Addr)
  show own_WP p e below (own_E s (Q4 Z zo zt zl h0 n0) 0 0) s₁ (entryFrame m #[(.ref zo)] 1)
  rw [ef_4 m zo]
  show own_WP _ _ _ _ s₁ (mkF m 0 #[.val (.ref zo)] [])
  refine own_go (fun t k => XS.aloadN X0.here hx rfl (hb hby d4_0) rfl rfl  k) ?_
  show own_WP _ _ _ _ s₁ (mkF m 1 #[.val (.ref zo)] [(.ref zo)])
  obtain ⟨T1, X1, e1, st1⟩ := getF X0 hx hZ hown (host := "") (Or.inl (hw _ (List.mem_of_getElem? (i := 15) rfl))) Via.refl e0 P0 (g := (mkF m 1 #[.val (.ref zo)] [(.ref zo)])) rfl rfl (hb hby d4_1)
  refine own_go st1 ?_
  show own_WP _ _ _ _ T1 (mkF m 4 #[.val (.ref zo)] [(.int zt)])
  by_cases hc4 : zt = (0 : Int32)
  · refine own_go (fun t k => XS.ifNo X1.here hx rfl (hb hby d4_4) rfl ((if0 _ _).trans (teq hc4).2) k) ?_
    show own_WP _ _ _ _ T1 (mkF m 7 #[.val (.ref zo)] [])
    refine own_go (fun t k => XS.aloadN X1.here hx rfl (hb hby d4_7) rfl rfl  k) ?_
    show own_WP _ _ _ _ T1 (mkF m 8 #[.val (.ref zo)] [(.ref zo)])
    obtain ⟨T2, X2, e2, st2⟩ := getF X1 hx hZ hown (host := "") (Or.inl (hw _ (List.mem_of_getElem? (i := 17) rfl))) Via.refl e1 P1 (g := (mkF m 8 #[.val (.ref zo)] [(.ref zo)])) rfl rfl (hb hby d4_8)
    refine own_go st2 ?_
    show own_WP _ _ _ _ T2 (mkF m 11 #[.val (.ref zo)] [(.long zl)])
    refine own_go (fun t k => XS.lconst X2.here hx rfl (hb hby d4_11) k) ?_
    show own_WP _ _ _ _ T2 (mkF m 12 #[.val (.ref zo)] [(.long (0 : Int64)), (.long zl)])
    refine own_go (fun t k => XS.lcmp X2.here hx rfl (hb hby d4_12) rfl k) ?_
    show own_WP _ _ _ _ T2 (mkF m 13 #[.val (.ref zo)] [(.int (lcmpW zl (0 : Int64)))])
    by_cases hc13 : zl = (0 : Int64)
    · refine own_go (fun t k => XS.ifNo X2.here hx rfl (hb hby d4_13) rfl ((if0 _ _).trans (teq ((lw_eq zl (0 : Int64)).mpr hc13)).2) k) ?_
      show own_WP _ _ _ _ T2 (mkF m 16 #[.val (.ref zo)] [])
      refine own_go (fun t k => XS.iconst X2.here hx rfl (hb hby d4_16) k) ?_
      show own_WP _ _ _ _ T2 (mkF m 17 #[.val (.ref zo)] [(.int (1 : Int32))])
      refine own_go (fun t k => XS.goto X2.here hx rfl (pc0 := 17) (pc' := 21) rfl (hb hby d4_17) (by decide) (by decide) k) ?_
      show own_WP _ _ _ _ T2 (mkF m 21 #[.val (.ref zo)] [(.int (1 : Int32))])
      refine own_retN X2 hx Bd.notSynchronized (t := .boolean) (by simp) Bd.returns (hb hby d4_21) (by decide) (by decide) ?_
      rw [e2]
      exact ⟨(congrArg (fun z => some (Value.int z)) (show (nar .boolean (1 : Int32)) = (own_eoc zt zl) from by first | (simp [nar, own_eoc, hc4, hc13]; done) | (simp only [if_true, if_false, eq_self, ↓reduceIte, own_eoc, hc4, hc13]; first | done | rfl | decide) | (unfold own_eoc; rw [if_pos hc4, if_pos hc13]; first | done | rfl))), N0, rfl⟩
    · refine own_go (fun t k => XS.ifYes X2.here hx rfl (pc0 := 13) (pc' := 20) rfl (hb hby d4_13) rfl ((if0 _ _).trans (feq (fun z => hc13 ((lw_eq zl (0 : Int64)).mp z))).2) (by decide) (by decide) k) ?_
      show own_WP _ _ _ _ T2 (mkF m 20 #[.val (.ref zo)] [])
      refine own_go (fun t k => XS.iconst X2.here hx rfl (hb hby d4_20) k) ?_
      show own_WP _ _ _ _ T2 (mkF m 21 #[.val (.ref zo)] [(.int (0 : Int32))])
      refine own_retN X2 hx Bd.notSynchronized (t := .boolean) (by simp) Bd.returns (hb hby d4_21) (by decide) (by decide) ?_
      rw [e2]
      exact ⟨(congrArg (fun z => some (Value.int z)) (show (nar .boolean (0 : Int32)) = (own_eoc zt zl) from by first | (simp [nar, own_eoc, hc4, hc13]; done) | (simp only [if_true, if_false, eq_self, ↓reduceIte, own_eoc, hc4, hc13]; first | done | rfl | decide) | (unfold own_eoc; rw [if_pos hc4, if_neg hc13]; first | done | rfl))), N0, rfl⟩
  · refine own_go (fun t k => XS.ifYes X1.here hx rfl (pc0 := 4) (pc' := 20) rfl (hb hby d4_4) rfl ((if0 _ _).trans (feq hc4).2) (by decide) (by decide) k) ?_
    show own_WP _ _ _ _ T1 (mkF m 20 #[.val (.ref zo)] [])
    refine own_go (fun t k => XS.iconst X1.here hx rfl (hb hby d4_20) k) ?_
    show own_WP _ _ _ _ T1 (mkF m 21 #[.val (.ref zo)] [(.int (0 : Int32))])
    refine own_retN X1 hx Bd.notSynchronized (t := .boolean) (by simp) Bd.returns (hb hby d4_21) (by decide) (by decide) ?_
    rw [e1]
    exact ⟨(congrArg (fun z => some (Value.int z)) (show (nar .boolean (0 : Int32)) = (own_eoc zt zl) from by first | (simp [nar, own_eoc, hc4]; done) | (simp only [if_true, if_false, eq_self, ↓reduceIte, own_eoc, hc4]; first | done | rfl | decide) | (unfold own_eoc; rw [if_neg hc4]; first | done | rfl))), N0, rfl⟩
theorem d7_0 : decode jdk_33_method_47_code 0 = .ok (.iload_n 0, 1) := by decide +kernel
theorem d7_1 : decode jdk_33_method_47_code 1 = .ok (.ifCond .gt 14, 3) := by decide +kernel
theorem d7_4 : decode jdk_33_method_47_code 4 = .ok (.iload_n 0, 1) := by decide +kernel
theorem d7_5 : decode jdk_33_method_47_code 5 = .ok (.ifCond .ne 8, 3) := by decide +kernel
theorem d7_8 : decode jdk_33_method_47_code 8 = .ok (.bipush 32, 2) := by decide +kernel
theorem d7_10 : decode jdk_33_method_47_code 10 = .ok (.goto 4, 3) := by decide +kernel
theorem d7_13 : decode jdk_33_method_47_code 13 = .ok (.iconst 0, 1) := by decide +kernel
theorem d7_14 : decode jdk_33_method_47_code 14 = .ok (.ireturn, 1) := by decide +kernel
theorem d7_15 : decode jdk_33_method_47_code 15 = .ok (.bipush 31, 2) := by decide +kernel
theorem d7_17 : decode jdk_33_method_47_code 17 = .ok (.istore_n 1, 1) := by decide +kernel
theorem d7_18 : decode jdk_33_method_47_code 18 = .ok (.iload_n 0, 1) := by decide +kernel
theorem d7_19 : decode jdk_33_method_47_code 19 = .ok (.ldc_w 264, 3) := by decide +kernel
theorem d7_22 : decode jdk_33_method_47_code 22 = .ok (.if_icmp .lt 11, 3) := by decide +kernel
theorem d7_25 : decode jdk_33_method_47_code 25 = .ok (.iinc 1 (-16), 3) := by decide +kernel
theorem d7_28 : decode jdk_33_method_47_code 28 = .ok (.iload_n 0, 1) := by decide +kernel
theorem d7_29 : decode jdk_33_method_47_code 29 = .ok (.bipush 16, 2) := by decide +kernel
theorem d7_31 : decode jdk_33_method_47_code 31 = .ok (.iushr, 1) := by decide +kernel
theorem d7_32 : decode jdk_33_method_47_code 32 = .ok (.istore_n 0, 1) := by decide +kernel
theorem d7_33 : decode jdk_33_method_47_code 33 = .ok (.iload_n 0, 1) := by decide +kernel
theorem d7_34 : decode jdk_33_method_47_code 34 = .ok (.sipush 256, 3) := by decide +kernel
theorem d7_37 : decode jdk_33_method_47_code 37 = .ok (.if_icmp .lt 11, 3) := by decide +kernel
theorem d7_40 : decode jdk_33_method_47_code 40 = .ok (.iinc 1 (-8), 3) := by decide +kernel
theorem d7_43 : decode jdk_33_method_47_code 43 = .ok (.iload_n 0, 1) := by decide +kernel
theorem d7_44 : decode jdk_33_method_47_code 44 = .ok (.bipush 8, 2) := by decide +kernel
theorem d7_46 : decode jdk_33_method_47_code 46 = .ok (.iushr, 1) := by decide +kernel
theorem d7_47 : decode jdk_33_method_47_code 47 = .ok (.istore_n 0, 1) := by decide +kernel
theorem d7_48 : decode jdk_33_method_47_code 48 = .ok (.iload_n 0, 1) := by decide +kernel
theorem d7_49 : decode jdk_33_method_47_code 49 = .ok (.bipush 16, 2) := by decide +kernel
theorem d7_51 : decode jdk_33_method_47_code 51 = .ok (.if_icmp .lt 10, 3) := by decide +kernel
theorem d7_54 : decode jdk_33_method_47_code 54 = .ok (.iinc 1 (-4), 3) := by decide +kernel
theorem d7_57 : decode jdk_33_method_47_code 57 = .ok (.iload_n 0, 1) := by decide +kernel
theorem d7_58 : decode jdk_33_method_47_code 58 = .ok (.iconst 4, 1) := by decide +kernel
theorem d7_59 : decode jdk_33_method_47_code 59 = .ok (.iushr, 1) := by decide +kernel
theorem d7_60 : decode jdk_33_method_47_code 60 = .ok (.istore_n 0, 1) := by decide +kernel
theorem d7_61 : decode jdk_33_method_47_code 61 = .ok (.iload_n 0, 1) := by decide +kernel
theorem d7_62 : decode jdk_33_method_47_code 62 = .ok (.iconst 4, 1) := by decide +kernel
theorem d7_63 : decode jdk_33_method_47_code 63 = .ok (.if_icmp .lt 10, 3) := by decide +kernel
theorem d7_66 : decode jdk_33_method_47_code 66 = .ok (.iinc 1 (-2), 3) := by decide +kernel
theorem d7_69 : decode jdk_33_method_47_code 69 = .ok (.iload_n 0, 1) := by decide +kernel
theorem d7_70 : decode jdk_33_method_47_code 70 = .ok (.iconst 2, 1) := by decide +kernel
theorem d7_71 : decode jdk_33_method_47_code 71 = .ok (.iushr, 1) := by decide +kernel
theorem d7_72 : decode jdk_33_method_47_code 72 = .ok (.istore_n 0, 1) := by decide +kernel
theorem d7_73 : decode jdk_33_method_47_code 73 = .ok (.iload_n 1, 1) := by decide +kernel
theorem d7_74 : decode jdk_33_method_47_code 74 = .ok (.iload_n 0, 1) := by decide +kernel
theorem d7_75 : decode jdk_33_method_47_code 75 = .ok (.iconst 1, 1) := by decide +kernel
theorem d7_76 : decode jdk_33_method_47_code 76 = .ok (.iushr, 1) := by decide +kernel
theorem d7_77 : decode jdk_33_method_47_code 77 = .ok (.isub, 1) := by decide +kernel
theorem d7_78 : decode jdk_33_method_47_code 78 = .ok (.ireturn, 1) := by decide +kernel
theorem own_pn25654 : plainName "java/lang/Integer" = true := by first | (simp [plainName, overriddenIn]; done) | decide +kernel
theorem ef_7 (m : MethodId) (zi : Int32) : entryFrame m #[(.int zi)] 2 = mkF m 0 #[.val (.int zi), .unset] [] := by first | (simp [entryFrame, mkF, argsToLocals, Value.category]; done) | rfl
def Q7 (Z : State) (zi : Int32) (h0 : Heap) (n0 : Nat) (v : Option Value) (h : Heap) (L : List Loc) : Prop := ∃ (rr : Int32), v = some (.int rr) ∧ Fr n0 L ∧ h = h0 ∧ (0 ≤ rr.toInt ∧ rr.toInt ≤ 32 ∧ (zi = 0 ∨ rr.toInt ≤ 31))
set_option maxRecDepth 65536 in
set_option maxHeartbeats 40000000 in
theorem rm7 (l : Launch) (Z : State) (a0 : Array Value) (hw : ∀ d ∈ tables_1, d.before a0 Z = true) (ws : List Jvm.Cond) (zi : Int32) (h0 : Heap) (n0 : Nat) (Z0 : n0 ≤ h0.size)  :
    MetFree l (⟨"java/lang/Integer", "numberOfLeadingZeros", "(I)I"⟩ : MethodName) (head1 (Jvm.Cond.code (⟨"java/lang/Integer", "numberOfLeadingZeros", "(I)I"⟩ : MethodName) jdk_33_method_47_code 2 (some .int) :: ws) ({ frames := 0, cells := 0, slots := 0, locals := 0 } : Room)) (fun a U => a = #[(.int zi)] ∧ Z.Warmed39 U.vm ∧ U.heap = h0) (fun _ _ _ _ _ => True) (fun _ U o U' => ∃ v L, o = .returned v ∧ Q7 Z zi h0 n0 v U'.heap L ∧ FrameEnd U o U' L ({ frames := 0, cells := 0, slots := 0, locals := 0 } : Room).cells ({ frames := 0, cells := 0, slots := 0, locals := 0 } : Room).slots) := by
  refine MetFree.of_bodySF (plainFor_of_name own_pn25654) hisR ?_
  intro p e s m args below meth c s₁ Bd hml0 hP hK
  obtain ⟨rfl, hZ, hh⟩ := hP
  have hx := Bd.exec
  have hby := Bd.bytes
  have hml : c.maxLocals = 2 := hml0
  have hown : s.vm.findClass "java/lang/Integer" = some m.cls := findClass_of_methodNamed Bd.named
  have hnm := (name_of_methodNamed Bd.named Bd.method).1
  have X0 : Stand p l e ({ frames := 0, cells := 0, slots := 0, locals := 0 } : Room) s m #[(.int zi)] below meth c s₁ [] 0 0 := Stand.of_body Bd
  have e0 : s₁.heap = h0 := by rw [← hh, Bd.state]; rfl
  have N0 := Fr.nil n0
  have K0 := Keep.refl h0 ([] : List Addr)
  show own_WP p e below (own_E s (Q7 Z zi h0 n0) 0 0) s₁ (entryFrame m #[(.int zi)] 2)
  rw [ef_7 m zi]
  show own_WP _ _ _ _ s₁ (mkF m 0 #[.val (.int zi), .unset] [])
  refine own_go (fun t k => XS.iloadN X0.here hx rfl (hb hby d7_0) rfl  k) ?_
  show own_WP _ _ _ _ s₁ (mkF m 1 #[.val (.int zi), .unset] [(.int zi)])
  by_cases hc1 : (0 : Int32) < zi
  · refine own_go (fun t k => XS.ifYes X0.here hx rfl (pc0 := 1) (pc' := 15) rfl (hb hby d7_1) rfl ((if0 _ _).trans (tlt hc1).2.2.1) (by decide) (by decide) k) ?_
    show own_WP _ _ _ _ s₁ (mkF m 15 #[.val (.int zi), .unset] [])
    refine own_go (fun t k => XS.bipush X0.here hx rfl (hb hby d7_15) k) ?_
    show own_WP _ _ _ _ s₁ (mkF m 17 #[.val (.int zi), .unset] [(.int (31 : Int32))])
    refine own_go (fun t k => XS.istoreN X0.here hx rfl (hb hby d7_17) rfl (l' := #[.val (.int zi), .val (.int (31 : Int32))]) rfl k) ?_
    show own_WP _ _ _ _ s₁ (mkF m 18 #[.val (.int zi), .val (.int (31 : Int32))] [])
    refine own_go (fun t k => XS.iloadN X0.here hx rfl (hb hby d7_18) rfl  k) ?_
    show own_WP _ _ _ _ s₁ (mkF m 19 #[.val (.int zi), .val (.int (31 : Int32))] [(.int zi)])
    refine own_go (fun t k => X0.ldcwInt hx hown (mvT hZ (hw _ (List.mem_of_getElem? (i := 38) rfl))) (g := (mkF m 19 #[.val (.int zi), .val (.int (31 : Int32))] [(.int zi)])) rfl (hb hby d7_19) t k) ?_
    show own_WP _ _ _ _ s₁ (mkF m 22 #[.val (.int zi), .val (.int (31 : Int32))] [(.int (65536 : Int32)), (.int zi)])
    by_cases hc22 : zi < (65536 : Int32)
    · refine own_go (fun t k => XS.icmpYes X0.here hx rfl (pc0 := 22) (pc' := 33) rfl (hb hby d7_22) rfl (tlt hc22).1 (by decide) (by decide) k) ?_
      have bb1 : 0 ≤ zi.toInt ∧ zi.toInt < 65536 := own_lo rfl (own_pos hc1).1 hc22
      show own_WP _ _ _ _ s₁ (mkF m 33 #[.val (.int zi), .val (.int (31 : Int32))] [])
      refine own_go (fun t k => XS.iloadN X0.here hx rfl (hb hby d7_33) rfl  k) ?_
      show own_WP _ _ _ _ s₁ (mkF m 34 #[.val (.int zi), .val (.int (31 : Int32))] [(.int zi)])
      refine own_go (fun t k => XS.sipush X0.here hx rfl (hb hby d7_34) k) ?_
      show own_WP _ _ _ _ s₁ (mkF m 37 #[.val (.int zi), .val (.int (31 : Int32))] [(.int (256 : Int32)), (.int zi)])
      by_cases hc37 : zi < (256 : Int32)
      · refine own_go (fun t k => XS.icmpYes X0.here hx rfl (pc0 := 37) (pc' := 48) rfl (hb hby d7_37) rfl (tlt hc37).1 (by decide) (by decide) k) ?_
        have bb2 : 0 ≤ zi.toInt ∧ zi.toInt < 256 := own_lo rfl bb1.1 hc37
        show own_WP _ _ _ _ s₁ (mkF m 48 #[.val (.int zi), .val (.int (31 : Int32))] [])
        refine own_go (fun t k => XS.iloadN X0.here hx rfl (hb hby d7_48) rfl  k) ?_
        show own_WP _ _ _ _ s₁ (mkF m 49 #[.val (.int zi), .val (.int (31 : Int32))] [(.int zi)])
        refine own_go (fun t k => XS.bipush X0.here hx rfl (hb hby d7_49) k) ?_
        show own_WP _ _ _ _ s₁ (mkF m 51 #[.val (.int zi), .val (.int (31 : Int32))] [(.int (16 : Int32)), (.int zi)])
        by_cases hc51 : zi < (16 : Int32)
        · refine own_go (fun t k => XS.icmpYes X0.here hx rfl (pc0 := 51) (pc' := 61) rfl (hb hby d7_51) rfl (tlt hc51).1 (by decide) (by decide) k) ?_
          have bb3 : 0 ≤ zi.toInt ∧ zi.toInt < 16 := own_lo rfl bb2.1 hc51
          show own_WP _ _ _ _ s₁ (mkF m 61 #[.val (.int zi), .val (.int (31 : Int32))] [])
          refine own_go (fun t k => XS.iloadN X0.here hx rfl (hb hby d7_61) rfl  k) ?_
          show own_WP _ _ _ _ s₁ (mkF m 62 #[.val (.int zi), .val (.int (31 : Int32))] [(.int zi)])
          refine own_go (fun t k => XS.iconst X0.here hx rfl (hb hby d7_62) k) ?_
          show own_WP _ _ _ _ s₁ (mkF m 63 #[.val (.int zi), .val (.int (31 : Int32))] [(.int (4 : Int32)), (.int zi)])
          by_cases hc63 : zi < (4 : Int32)
          · refine own_go (fun t k => XS.icmpYes X0.here hx rfl (pc0 := 63) (pc' := 73) rfl (hb hby d7_63) rfl (tlt hc63).1 (by decide) (by decide) k) ?_
            have bb4 : 0 ≤ zi.toInt ∧ zi.toInt < 4 := own_lo rfl bb3.1 hc63
            show own_WP _ _ _ _ s₁ (mkF m 73 #[.val (.int zi), .val (.int (31 : Int32))] [])
            refine own_go (fun t k => XS.iloadN X0.here hx rfl (hb hby d7_73) rfl  k) ?_
            show own_WP _ _ _ _ s₁ (mkF m 74 #[.val (.int zi), .val (.int (31 : Int32))] [(.int (31 : Int32))])
            refine own_go (fun t k => XS.iloadN X0.here hx rfl (hb hby d7_74) rfl  k) ?_
            show own_WP _ _ _ _ s₁ (mkF m 75 #[.val (.int zi), .val (.int (31 : Int32))] [(.int zi), (.int (31 : Int32))])
            refine own_go (fun t k => XS.iconst X0.here hx rfl (hb hby d7_75) k) ?_
            show own_WP _ _ _ _ s₁ (mkF m 76 #[.val (.int zi), .val (.int (31 : Int32))] [(.int (1 : Int32)), (.int zi), (.int (31 : Int32))])
            refine own_go (fun t k => XS.iushr X0.here hx rfl (hb hby d7_76) rfl k) ?_
            show own_WP _ _ _ _ s₁ (mkF m 77 #[.val (.int zi), .val (.int (31 : Int32))] [(.int ((zi.toUInt32 >>> ((1 : Int32) &&& 31).toUInt32).toInt32)), (.int (31 : Int32))])
            refine own_go (fun t k => XS.isub X0.here hx rfl (hb hby d7_77) rfl k) ?_
            show own_WP _ _ _ _ s₁ (mkF m 78 #[.val (.int zi), .val (.int (31 : Int32))] [(.int ((31 : Int32) - ((zi.toUInt32 >>> ((1 : Int32) &&& 31).toUInt32).toInt32)))])
            refine own_retI X0 hx Bd.notSynchronized Bd.returns (hb hby d7_78) (by decide) (by decide) ?_
            rw [e0]
            exact ⟨((31 : Int32) - ((zi.toUInt32 >>> ((1 : Int32) &&& 31).toUInt32).toInt32)), rfl, N0, rfl, (by have q := own_sh (x := zi) (sh := 1) (k := 1) bb4.1 rfl (by decide) (by decide); have r := bb4; have en : ((31 : Int32)).toInt = 31 := (by decide); have e := own_subs (n := (31 : Int32)) (y := ((zi.toUInt32 >>> ((1 : Int32) &&& 31).toUInt32).toInt32)) en (by omega) (by omega); omega)⟩
          · refine own_go (fun t k => XS.icmpNo X0.here hx rfl (hb hby d7_63) rfl (flt hc63).1 k) ?_
            show own_WP _ _ _ _ s₁ (mkF m 66 #[.val (.int zi), .val (.int (31 : Int32))] [])
            refine own_go (fun t k => XS.iinc X0.here hx rfl (hb hby d7_66) rfl (l' := #[.val (.int zi), .val (.int ((31 : Int32) + (-2 : Int32)))]) rfl k) ?_
            show own_WP _ _ _ _ s₁ (mkF m 69 #[.val (.int zi), .val (.int ((31 : Int32) + (-2 : Int32)))] [])
            refine own_go (fun t k => XS.iloadN X0.here hx rfl (hb hby d7_69) rfl  k) ?_
            show own_WP _ _ _ _ s₁ (mkF m 70 #[.val (.int zi), .val (.int ((31 : Int32) + (-2 : Int32)))] [(.int zi)])
            refine own_go (fun t k => XS.iconst X0.here hx rfl (hb hby d7_70) k) ?_
            show own_WP _ _ _ _ s₁ (mkF m 71 #[.val (.int zi), .val (.int ((31 : Int32) + (-2 : Int32)))] [(.int (2 : Int32)), (.int zi)])
            refine own_go (fun t k => XS.iushr X0.here hx rfl (hb hby d7_71) rfl k) ?_
            show own_WP _ _ _ _ s₁ (mkF m 72 #[.val (.int zi), .val (.int ((31 : Int32) + (-2 : Int32)))] [(.int ((zi.toUInt32 >>> ((2 : Int32) &&& 31).toUInt32).toInt32))])
            generalize d_ze : ((zi.toUInt32 >>> ((2 : Int32) &&& 31).toUInt32).toInt32) = ze
            refine own_go (fun t k => XS.istoreN X0.here hx rfl (hb hby d7_72) rfl (l' := #[.val (.int ze), .val (.int ((31 : Int32) + (-2 : Int32)))]) rfl k) ?_
            have bb5 : 0 ≤ ze.toInt ∧ ze.toInt < 4 := by have q := own_sh (k := 2) bb3.1 d_ze (by decide) (by decide); have r := bb3; omega
            show own_WP _ _ _ _ s₁ (mkF m 73 #[.val (.int ze), .val (.int ((31 : Int32) + (-2 : Int32)))] [])
            refine own_go (fun t k => XS.iloadN X0.here hx rfl (hb hby d7_73) rfl  k) ?_
            show own_WP _ _ _ _ s₁ (mkF m 74 #[.val (.int ze), .val (.int ((31 : Int32) + (-2 : Int32)))] [(.int ((31 : Int32) + (-2 : Int32)))])
            refine own_go (fun t k => XS.iloadN X0.here hx rfl (hb hby d7_74) rfl  k) ?_
            show own_WP _ _ _ _ s₁ (mkF m 75 #[.val (.int ze), .val (.int ((31 : Int32) + (-2 : Int32)))] [(.int ze), (.int ((31 : Int32) + (-2 : Int32)))])
            refine own_go (fun t k => XS.iconst X0.here hx rfl (hb hby d7_75) k) ?_
            show own_WP _ _ _ _ s₁ (mkF m 76 #[.val (.int ze), .val (.int ((31 : Int32) + (-2 : Int32)))] [(.int (1 : Int32)), (.int ze), (.int ((31 : Int32) + (-2 : Int32)))])
            refine own_go (fun t k => XS.iushr X0.here hx rfl (hb hby d7_76) rfl k) ?_
            show own_WP _ _ _ _ s₁ (mkF m 77 #[.val (.int ze), .val (.int ((31 : Int32) + (-2 : Int32)))] [(.int ((ze.toUInt32 >>> ((1 : Int32) &&& 31).toUInt32).toInt32)), (.int ((31 : Int32) + (-2 : Int32)))])
            refine own_go (fun t k => XS.isub X0.here hx rfl (hb hby d7_77) rfl k) ?_
            show own_WP _ _ _ _ s₁ (mkF m 78 #[.val (.int ze), .val (.int ((31 : Int32) + (-2 : Int32)))] [(.int (((31 : Int32) + (-2 : Int32)) - ((ze.toUInt32 >>> ((1 : Int32) &&& 31).toUInt32).toInt32)))])
            refine own_retI X0 hx Bd.notSynchronized Bd.returns (hb hby d7_78) (by decide) (by decide) ?_
            rw [e0]
            exact ⟨(((31 : Int32) + (-2 : Int32)) - ((ze.toUInt32 >>> ((1 : Int32) &&& 31).toUInt32).toInt32)), rfl, N0, rfl, (by have q := own_sh (x := ze) (sh := 1) (k := 1) bb5.1 rfl (by decide) (by decide); have r := bb5; have en : (((31 : Int32) + (-2 : Int32))).toInt = 29 := (by decide); have e := own_subs (n := ((31 : Int32) + (-2 : Int32))) (y := ((ze.toUInt32 >>> ((1 : Int32) &&& 31).toUInt32).toInt32)) en (by omega) (by omega); omega)⟩
        · refine own_go (fun t k => XS.icmpNo X0.here hx rfl (hb hby d7_51) rfl (flt hc51).1 k) ?_
          show own_WP _ _ _ _ s₁ (mkF m 54 #[.val (.int zi), .val (.int (31 : Int32))] [])
          refine own_go (fun t k => XS.iinc X0.here hx rfl (hb hby d7_54) rfl (l' := #[.val (.int zi), .val (.int ((31 : Int32) + (-4 : Int32)))]) rfl k) ?_
          show own_WP _ _ _ _ s₁ (mkF m 57 #[.val (.int zi), .val (.int ((31 : Int32) + (-4 : Int32)))] [])
          refine own_go (fun t k => XS.iloadN X0.here hx rfl (hb hby d7_57) rfl  k) ?_
          show own_WP _ _ _ _ s₁ (mkF m 58 #[.val (.int zi), .val (.int ((31 : Int32) + (-4 : Int32)))] [(.int zi)])
          refine own_go (fun t k => XS.iconst X0.here hx rfl (hb hby d7_58) k) ?_
          show own_WP _ _ _ _ s₁ (mkF m 59 #[.val (.int zi), .val (.int ((31 : Int32) + (-4 : Int32)))] [(.int (4 : Int32)), (.int zi)])
          refine own_go (fun t k => XS.iushr X0.here hx rfl (hb hby d7_59) rfl k) ?_
          show own_WP _ _ _ _ s₁ (mkF m 60 #[.val (.int zi), .val (.int ((31 : Int32) + (-4 : Int32)))] [(.int ((zi.toUInt32 >>> ((4 : Int32) &&& 31).toUInt32).toInt32))])
          generalize d_zd : ((zi.toUInt32 >>> ((4 : Int32) &&& 31).toUInt32).toInt32) = zd
          refine own_go (fun t k => XS.istoreN X0.here hx rfl (hb hby d7_60) rfl (l' := #[.val (.int zd), .val (.int ((31 : Int32) + (-4 : Int32)))]) rfl k) ?_
          have bb6 : 0 ≤ zd.toInt ∧ zd.toInt < 16 := by have q := own_sh (k := 4) bb2.1 d_zd (by decide) (by decide); have r := bb2; omega
          show own_WP _ _ _ _ s₁ (mkF m 61 #[.val (.int zd), .val (.int ((31 : Int32) + (-4 : Int32)))] [])
          refine own_go (fun t k => XS.iloadN X0.here hx rfl (hb hby d7_61) rfl  k) ?_
          show own_WP _ _ _ _ s₁ (mkF m 62 #[.val (.int zd), .val (.int ((31 : Int32) + (-4 : Int32)))] [(.int zd)])
          refine own_go (fun t k => XS.iconst X0.here hx rfl (hb hby d7_62) k) ?_
          show own_WP _ _ _ _ s₁ (mkF m 63 #[.val (.int zd), .val (.int ((31 : Int32) + (-4 : Int32)))] [(.int (4 : Int32)), (.int zd)])
          by_cases hc63 : zd < (4 : Int32)
          · refine own_go (fun t k => XS.icmpYes X0.here hx rfl (pc0 := 63) (pc' := 73) rfl (hb hby d7_63) rfl (tlt hc63).1 (by decide) (by decide) k) ?_
            have bb7 : 0 ≤ zd.toInt ∧ zd.toInt < 4 := own_lo rfl bb6.1 hc63
            show own_WP _ _ _ _ s₁ (mkF m 73 #[.val (.int zd), .val (.int ((31 : Int32) + (-4 : Int32)))] [])
            refine own_go (fun t k => XS.iloadN X0.here hx rfl (hb hby d7_73) rfl  k) ?_
            show own_WP _ _ _ _ s₁ (mkF m 74 #[.val (.int zd), .val (.int ((31 : Int32) + (-4 : Int32)))] [(.int ((31 : Int32) + (-4 : Int32)))])
            refine own_go (fun t k => XS.iloadN X0.here hx rfl (hb hby d7_74) rfl  k) ?_
            show own_WP _ _ _ _ s₁ (mkF m 75 #[.val (.int zd), .val (.int ((31 : Int32) + (-4 : Int32)))] [(.int zd), (.int ((31 : Int32) + (-4 : Int32)))])
            refine own_go (fun t k => XS.iconst X0.here hx rfl (hb hby d7_75) k) ?_
            show own_WP _ _ _ _ s₁ (mkF m 76 #[.val (.int zd), .val (.int ((31 : Int32) + (-4 : Int32)))] [(.int (1 : Int32)), (.int zd), (.int ((31 : Int32) + (-4 : Int32)))])
            refine own_go (fun t k => XS.iushr X0.here hx rfl (hb hby d7_76) rfl k) ?_
            show own_WP _ _ _ _ s₁ (mkF m 77 #[.val (.int zd), .val (.int ((31 : Int32) + (-4 : Int32)))] [(.int ((zd.toUInt32 >>> ((1 : Int32) &&& 31).toUInt32).toInt32)), (.int ((31 : Int32) + (-4 : Int32)))])
            refine own_go (fun t k => XS.isub X0.here hx rfl (hb hby d7_77) rfl k) ?_
            show own_WP _ _ _ _ s₁ (mkF m 78 #[.val (.int zd), .val (.int ((31 : Int32) + (-4 : Int32)))] [(.int (((31 : Int32) + (-4 : Int32)) - ((zd.toUInt32 >>> ((1 : Int32) &&& 31).toUInt32).toInt32)))])
            refine own_retI X0 hx Bd.notSynchronized Bd.returns (hb hby d7_78) (by decide) (by decide) ?_
            rw [e0]
            exact ⟨(((31 : Int32) + (-4 : Int32)) - ((zd.toUInt32 >>> ((1 : Int32) &&& 31).toUInt32).toInt32)), rfl, N0, rfl, (by have q := own_sh (x := zd) (sh := 1) (k := 1) bb7.1 rfl (by decide) (by decide); have r := bb7; have en : (((31 : Int32) + (-4 : Int32))).toInt = 27 := (by decide); have e := own_subs (n := ((31 : Int32) + (-4 : Int32))) (y := ((zd.toUInt32 >>> ((1 : Int32) &&& 31).toUInt32).toInt32)) en (by omega) (by omega); omega)⟩
          · refine own_go (fun t k => XS.icmpNo X0.here hx rfl (hb hby d7_63) rfl (flt hc63).1 k) ?_
            show own_WP _ _ _ _ s₁ (mkF m 66 #[.val (.int zd), .val (.int ((31 : Int32) + (-4 : Int32)))] [])
            refine own_go (fun t k => XS.iinc X0.here hx rfl (hb hby d7_66) rfl (l' := #[.val (.int zd), .val (.int (((31 : Int32) + (-4 : Int32)) + (-2 : Int32)))]) rfl k) ?_
            show own_WP _ _ _ _ s₁ (mkF m 69 #[.val (.int zd), .val (.int (((31 : Int32) + (-4 : Int32)) + (-2 : Int32)))] [])
            refine own_go (fun t k => XS.iloadN X0.here hx rfl (hb hby d7_69) rfl  k) ?_
            show own_WP _ _ _ _ s₁ (mkF m 70 #[.val (.int zd), .val (.int (((31 : Int32) + (-4 : Int32)) + (-2 : Int32)))] [(.int zd)])
            refine own_go (fun t k => XS.iconst X0.here hx rfl (hb hby d7_70) k) ?_
            show own_WP _ _ _ _ s₁ (mkF m 71 #[.val (.int zd), .val (.int (((31 : Int32) + (-4 : Int32)) + (-2 : Int32)))] [(.int (2 : Int32)), (.int zd)])
            refine own_go (fun t k => XS.iushr X0.here hx rfl (hb hby d7_71) rfl k) ?_
            show own_WP _ _ _ _ s₁ (mkF m 72 #[.val (.int zd), .val (.int (((31 : Int32) + (-4 : Int32)) + (-2 : Int32)))] [(.int ((zd.toUInt32 >>> ((2 : Int32) &&& 31).toUInt32).toInt32))])
            generalize d_ze : ((zd.toUInt32 >>> ((2 : Int32) &&& 31).toUInt32).toInt32) = ze
            refine own_go (fun t k => XS.istoreN X0.here hx rfl (hb hby d7_72) rfl (l' := #[.val (.int ze), .val (.int (((31 : Int32) + (-4 : Int32)) + (-2 : Int32)))]) rfl k) ?_
            have bb8 : 0 ≤ ze.toInt ∧ ze.toInt < 4 := by have q := own_sh (k := 2) bb6.1 d_ze (by decide) (by decide); have r := bb6; omega
            show own_WP _ _ _ _ s₁ (mkF m 73 #[.val (.int ze), .val (.int (((31 : Int32) + (-4 : Int32)) + (-2 : Int32)))] [])
            refine own_go (fun t k => XS.iloadN X0.here hx rfl (hb hby d7_73) rfl  k) ?_
            show own_WP _ _ _ _ s₁ (mkF m 74 #[.val (.int ze), .val (.int (((31 : Int32) + (-4 : Int32)) + (-2 : Int32)))] [(.int (((31 : Int32) + (-4 : Int32)) + (-2 : Int32)))])
            refine own_go (fun t k => XS.iloadN X0.here hx rfl (hb hby d7_74) rfl  k) ?_
            show own_WP _ _ _ _ s₁ (mkF m 75 #[.val (.int ze), .val (.int (((31 : Int32) + (-4 : Int32)) + (-2 : Int32)))] [(.int ze), (.int (((31 : Int32) + (-4 : Int32)) + (-2 : Int32)))])
            refine own_go (fun t k => XS.iconst X0.here hx rfl (hb hby d7_75) k) ?_
            show own_WP _ _ _ _ s₁ (mkF m 76 #[.val (.int ze), .val (.int (((31 : Int32) + (-4 : Int32)) + (-2 : Int32)))] [(.int (1 : Int32)), (.int ze), (.int (((31 : Int32) + (-4 : Int32)) + (-2 : Int32)))])
            refine own_go (fun t k => XS.iushr X0.here hx rfl (hb hby d7_76) rfl k) ?_
            show own_WP _ _ _ _ s₁ (mkF m 77 #[.val (.int ze), .val (.int (((31 : Int32) + (-4 : Int32)) + (-2 : Int32)))] [(.int ((ze.toUInt32 >>> ((1 : Int32) &&& 31).toUInt32).toInt32)), (.int (((31 : Int32) + (-4 : Int32)) + (-2 : Int32)))])
            refine own_go (fun t k => XS.isub X0.here hx rfl (hb hby d7_77) rfl k) ?_
            show own_WP _ _ _ _ s₁ (mkF m 78 #[.val (.int ze), .val (.int (((31 : Int32) + (-4 : Int32)) + (-2 : Int32)))] [(.int ((((31 : Int32) + (-4 : Int32)) + (-2 : Int32)) - ((ze.toUInt32 >>> ((1 : Int32) &&& 31).toUInt32).toInt32)))])
            refine own_retI X0 hx Bd.notSynchronized Bd.returns (hb hby d7_78) (by decide) (by decide) ?_
            rw [e0]
            exact ⟨((((31 : Int32) + (-4 : Int32)) + (-2 : Int32)) - ((ze.toUInt32 >>> ((1 : Int32) &&& 31).toUInt32).toInt32)), rfl, N0, rfl, (by have q := own_sh (x := ze) (sh := 1) (k := 1) bb8.1 rfl (by decide) (by decide); have r := bb8; have en : ((((31 : Int32) + (-4 : Int32)) + (-2 : Int32))).toInt = 25 := (by decide); have e := own_subs (n := (((31 : Int32) + (-4 : Int32)) + (-2 : Int32))) (y := ((ze.toUInt32 >>> ((1 : Int32) &&& 31).toUInt32).toInt32)) en (by omega) (by omega); omega)⟩
      · refine own_go (fun t k => XS.icmpNo X0.here hx rfl (hb hby d7_37) rfl (flt hc37).1 k) ?_
        show own_WP _ _ _ _ s₁ (mkF m 40 #[.val (.int zi), .val (.int (31 : Int32))] [])
        refine own_go (fun t k => XS.iinc X0.here hx rfl (hb hby d7_40) rfl (l' := #[.val (.int zi), .val (.int ((31 : Int32) + (-8 : Int32)))]) rfl k) ?_
        show own_WP _ _ _ _ s₁ (mkF m 43 #[.val (.int zi), .val (.int ((31 : Int32) + (-8 : Int32)))] [])
        refine own_go (fun t k => XS.iloadN X0.here hx rfl (hb hby d7_43) rfl  k) ?_
        show own_WP _ _ _ _ s₁ (mkF m 44 #[.val (.int zi), .val (.int ((31 : Int32) + (-8 : Int32)))] [(.int zi)])
        refine own_go (fun t k => XS.bipush X0.here hx rfl (hb hby d7_44) k) ?_
        show own_WP _ _ _ _ s₁ (mkF m 46 #[.val (.int zi), .val (.int ((31 : Int32) + (-8 : Int32)))] [(.int (8 : Int32)), (.int zi)])
        refine own_go (fun t k => XS.iushr X0.here hx rfl (hb hby d7_46) rfl k) ?_
        show own_WP _ _ _ _ s₁ (mkF m 47 #[.val (.int zi), .val (.int ((31 : Int32) + (-8 : Int32)))] [(.int ((zi.toUInt32 >>> ((8 : Int32) &&& 31).toUInt32).toInt32))])
        generalize d_zb : ((zi.toUInt32 >>> ((8 : Int32) &&& 31).toUInt32).toInt32) = zb
        refine own_go (fun t k => XS.istoreN X0.here hx rfl (hb hby d7_47) rfl (l' := #[.val (.int zb), .val (.int ((31 : Int32) + (-8 : Int32)))]) rfl k) ?_
        have bb9 : 0 ≤ zb.toInt ∧ zb.toInt < 256 := by have q := own_sh (k := 8) bb1.1 d_zb (by decide) (by decide); have r := bb1; omega
        show own_WP _ _ _ _ s₁ (mkF m 48 #[.val (.int zb), .val (.int ((31 : Int32) + (-8 : Int32)))] [])
        refine own_go (fun t k => XS.iloadN X0.here hx rfl (hb hby d7_48) rfl  k) ?_
        show own_WP _ _ _ _ s₁ (mkF m 49 #[.val (.int zb), .val (.int ((31 : Int32) + (-8 : Int32)))] [(.int zb)])
        refine own_go (fun t k => XS.bipush X0.here hx rfl (hb hby d7_49) k) ?_
        show own_WP _ _ _ _ s₁ (mkF m 51 #[.val (.int zb), .val (.int ((31 : Int32) + (-8 : Int32)))] [(.int (16 : Int32)), (.int zb)])
        by_cases hc51 : zb < (16 : Int32)
        · refine own_go (fun t k => XS.icmpYes X0.here hx rfl (pc0 := 51) (pc' := 61) rfl (hb hby d7_51) rfl (tlt hc51).1 (by decide) (by decide) k) ?_
          have bb10 : 0 ≤ zb.toInt ∧ zb.toInt < 16 := own_lo rfl bb9.1 hc51
          show own_WP _ _ _ _ s₁ (mkF m 61 #[.val (.int zb), .val (.int ((31 : Int32) + (-8 : Int32)))] [])
          refine own_go (fun t k => XS.iloadN X0.here hx rfl (hb hby d7_61) rfl  k) ?_
          show own_WP _ _ _ _ s₁ (mkF m 62 #[.val (.int zb), .val (.int ((31 : Int32) + (-8 : Int32)))] [(.int zb)])
          refine own_go (fun t k => XS.iconst X0.here hx rfl (hb hby d7_62) k) ?_
          show own_WP _ _ _ _ s₁ (mkF m 63 #[.val (.int zb), .val (.int ((31 : Int32) + (-8 : Int32)))] [(.int (4 : Int32)), (.int zb)])
          by_cases hc63 : zb < (4 : Int32)
          · refine own_go (fun t k => XS.icmpYes X0.here hx rfl (pc0 := 63) (pc' := 73) rfl (hb hby d7_63) rfl (tlt hc63).1 (by decide) (by decide) k) ?_
            have bb11 : 0 ≤ zb.toInt ∧ zb.toInt < 4 := own_lo rfl bb10.1 hc63
            show own_WP _ _ _ _ s₁ (mkF m 73 #[.val (.int zb), .val (.int ((31 : Int32) + (-8 : Int32)))] [])
            refine own_go (fun t k => XS.iloadN X0.here hx rfl (hb hby d7_73) rfl  k) ?_
            show own_WP _ _ _ _ s₁ (mkF m 74 #[.val (.int zb), .val (.int ((31 : Int32) + (-8 : Int32)))] [(.int ((31 : Int32) + (-8 : Int32)))])
            refine own_go (fun t k => XS.iloadN X0.here hx rfl (hb hby d7_74) rfl  k) ?_
            show own_WP _ _ _ _ s₁ (mkF m 75 #[.val (.int zb), .val (.int ((31 : Int32) + (-8 : Int32)))] [(.int zb), (.int ((31 : Int32) + (-8 : Int32)))])
            refine own_go (fun t k => XS.iconst X0.here hx rfl (hb hby d7_75) k) ?_
            show own_WP _ _ _ _ s₁ (mkF m 76 #[.val (.int zb), .val (.int ((31 : Int32) + (-8 : Int32)))] [(.int (1 : Int32)), (.int zb), (.int ((31 : Int32) + (-8 : Int32)))])
            refine own_go (fun t k => XS.iushr X0.here hx rfl (hb hby d7_76) rfl k) ?_
            show own_WP _ _ _ _ s₁ (mkF m 77 #[.val (.int zb), .val (.int ((31 : Int32) + (-8 : Int32)))] [(.int ((zb.toUInt32 >>> ((1 : Int32) &&& 31).toUInt32).toInt32)), (.int ((31 : Int32) + (-8 : Int32)))])
            refine own_go (fun t k => XS.isub X0.here hx rfl (hb hby d7_77) rfl k) ?_
            show own_WP _ _ _ _ s₁ (mkF m 78 #[.val (.int zb), .val (.int ((31 : Int32) + (-8 : Int32)))] [(.int (((31 : Int32) + (-8 : Int32)) - ((zb.toUInt32 >>> ((1 : Int32) &&& 31).toUInt32).toInt32)))])
            refine own_retI X0 hx Bd.notSynchronized Bd.returns (hb hby d7_78) (by decide) (by decide) ?_
            rw [e0]
            exact ⟨(((31 : Int32) + (-8 : Int32)) - ((zb.toUInt32 >>> ((1 : Int32) &&& 31).toUInt32).toInt32)), rfl, N0, rfl, (by have q := own_sh (x := zb) (sh := 1) (k := 1) bb11.1 rfl (by decide) (by decide); have r := bb11; have en : (((31 : Int32) + (-8 : Int32))).toInt = 23 := (by decide); have e := own_subs (n := ((31 : Int32) + (-8 : Int32))) (y := ((zb.toUInt32 >>> ((1 : Int32) &&& 31).toUInt32).toInt32)) en (by omega) (by omega); omega)⟩
          · refine own_go (fun t k => XS.icmpNo X0.here hx rfl (hb hby d7_63) rfl (flt hc63).1 k) ?_
            show own_WP _ _ _ _ s₁ (mkF m 66 #[.val (.int zb), .val (.int ((31 : Int32) + (-8 : Int32)))] [])
            refine own_go (fun t k => XS.iinc X0.here hx rfl (hb hby d7_66) rfl (l' := #[.val (.int zb), .val (.int (((31 : Int32) + (-8 : Int32)) + (-2 : Int32)))]) rfl k) ?_
            show own_WP _ _ _ _ s₁ (mkF m 69 #[.val (.int zb), .val (.int (((31 : Int32) + (-8 : Int32)) + (-2 : Int32)))] [])
            refine own_go (fun t k => XS.iloadN X0.here hx rfl (hb hby d7_69) rfl  k) ?_
            show own_WP _ _ _ _ s₁ (mkF m 70 #[.val (.int zb), .val (.int (((31 : Int32) + (-8 : Int32)) + (-2 : Int32)))] [(.int zb)])
            refine own_go (fun t k => XS.iconst X0.here hx rfl (hb hby d7_70) k) ?_
            show own_WP _ _ _ _ s₁ (mkF m 71 #[.val (.int zb), .val (.int (((31 : Int32) + (-8 : Int32)) + (-2 : Int32)))] [(.int (2 : Int32)), (.int zb)])
            refine own_go (fun t k => XS.iushr X0.here hx rfl (hb hby d7_71) rfl k) ?_
            show own_WP _ _ _ _ s₁ (mkF m 72 #[.val (.int zb), .val (.int (((31 : Int32) + (-8 : Int32)) + (-2 : Int32)))] [(.int ((zb.toUInt32 >>> ((2 : Int32) &&& 31).toUInt32).toInt32))])
            generalize d_ze : ((zb.toUInt32 >>> ((2 : Int32) &&& 31).toUInt32).toInt32) = ze
            refine own_go (fun t k => XS.istoreN X0.here hx rfl (hb hby d7_72) rfl (l' := #[.val (.int ze), .val (.int (((31 : Int32) + (-8 : Int32)) + (-2 : Int32)))]) rfl k) ?_
            have bb12 : 0 ≤ ze.toInt ∧ ze.toInt < 4 := by have q := own_sh (k := 2) bb10.1 d_ze (by decide) (by decide); have r := bb10; omega
            show own_WP _ _ _ _ s₁ (mkF m 73 #[.val (.int ze), .val (.int (((31 : Int32) + (-8 : Int32)) + (-2 : Int32)))] [])
            refine own_go (fun t k => XS.iloadN X0.here hx rfl (hb hby d7_73) rfl  k) ?_
            show own_WP _ _ _ _ s₁ (mkF m 74 #[.val (.int ze), .val (.int (((31 : Int32) + (-8 : Int32)) + (-2 : Int32)))] [(.int (((31 : Int32) + (-8 : Int32)) + (-2 : Int32)))])
            refine own_go (fun t k => XS.iloadN X0.here hx rfl (hb hby d7_74) rfl  k) ?_
            show own_WP _ _ _ _ s₁ (mkF m 75 #[.val (.int ze), .val (.int (((31 : Int32) + (-8 : Int32)) + (-2 : Int32)))] [(.int ze), (.int (((31 : Int32) + (-8 : Int32)) + (-2 : Int32)))])
            refine own_go (fun t k => XS.iconst X0.here hx rfl (hb hby d7_75) k) ?_
            show own_WP _ _ _ _ s₁ (mkF m 76 #[.val (.int ze), .val (.int (((31 : Int32) + (-8 : Int32)) + (-2 : Int32)))] [(.int (1 : Int32)), (.int ze), (.int (((31 : Int32) + (-8 : Int32)) + (-2 : Int32)))])
            refine own_go (fun t k => XS.iushr X0.here hx rfl (hb hby d7_76) rfl k) ?_
            show own_WP _ _ _ _ s₁ (mkF m 77 #[.val (.int ze), .val (.int (((31 : Int32) + (-8 : Int32)) + (-2 : Int32)))] [(.int ((ze.toUInt32 >>> ((1 : Int32) &&& 31).toUInt32).toInt32)), (.int (((31 : Int32) + (-8 : Int32)) + (-2 : Int32)))])
            refine own_go (fun t k => XS.isub X0.here hx rfl (hb hby d7_77) rfl k) ?_
            show own_WP _ _ _ _ s₁ (mkF m 78 #[.val (.int ze), .val (.int (((31 : Int32) + (-8 : Int32)) + (-2 : Int32)))] [(.int ((((31 : Int32) + (-8 : Int32)) + (-2 : Int32)) - ((ze.toUInt32 >>> ((1 : Int32) &&& 31).toUInt32).toInt32)))])
            refine own_retI X0 hx Bd.notSynchronized Bd.returns (hb hby d7_78) (by decide) (by decide) ?_
            rw [e0]
            exact ⟨((((31 : Int32) + (-8 : Int32)) + (-2 : Int32)) - ((ze.toUInt32 >>> ((1 : Int32) &&& 31).toUInt32).toInt32)), rfl, N0, rfl, (by have q := own_sh (x := ze) (sh := 1) (k := 1) bb12.1 rfl (by decide) (by decide); have r := bb12; have en : ((((31 : Int32) + (-8 : Int32)) + (-2 : Int32))).toInt = 21 := (by decide); have e := own_subs (n := (((31 : Int32) + (-8 : Int32)) + (-2 : Int32))) (y := ((ze.toUInt32 >>> ((1 : Int32) &&& 31).toUInt32).toInt32)) en (by omega) (by omega); omega)⟩
        · refine own_go (fun t k => XS.icmpNo X0.here hx rfl (hb hby d7_51) rfl (flt hc51).1 k) ?_
          show own_WP _ _ _ _ s₁ (mkF m 54 #[.val (.int zb), .val (.int ((31 : Int32) + (-8 : Int32)))] [])
          refine own_go (fun t k => XS.iinc X0.here hx rfl (hb hby d7_54) rfl (l' := #[.val (.int zb), .val (.int (((31 : Int32) + (-8 : Int32)) + (-4 : Int32)))]) rfl k) ?_
          show own_WP _ _ _ _ s₁ (mkF m 57 #[.val (.int zb), .val (.int (((31 : Int32) + (-8 : Int32)) + (-4 : Int32)))] [])
          refine own_go (fun t k => XS.iloadN X0.here hx rfl (hb hby d7_57) rfl  k) ?_
          show own_WP _ _ _ _ s₁ (mkF m 58 #[.val (.int zb), .val (.int (((31 : Int32) + (-8 : Int32)) + (-4 : Int32)))] [(.int zb)])
          refine own_go (fun t k => XS.iconst X0.here hx rfl (hb hby d7_58) k) ?_
          show own_WP _ _ _ _ s₁ (mkF m 59 #[.val (.int zb), .val (.int (((31 : Int32) + (-8 : Int32)) + (-4 : Int32)))] [(.int (4 : Int32)), (.int zb)])
          refine own_go (fun t k => XS.iushr X0.here hx rfl (hb hby d7_59) rfl k) ?_
          show own_WP _ _ _ _ s₁ (mkF m 60 #[.val (.int zb), .val (.int (((31 : Int32) + (-8 : Int32)) + (-4 : Int32)))] [(.int ((zb.toUInt32 >>> ((4 : Int32) &&& 31).toUInt32).toInt32))])
          generalize d_zd : ((zb.toUInt32 >>> ((4 : Int32) &&& 31).toUInt32).toInt32) = zd
          refine own_go (fun t k => XS.istoreN X0.here hx rfl (hb hby d7_60) rfl (l' := #[.val (.int zd), .val (.int (((31 : Int32) + (-8 : Int32)) + (-4 : Int32)))]) rfl k) ?_
          have bb13 : 0 ≤ zd.toInt ∧ zd.toInt < 16 := by have q := own_sh (k := 4) bb9.1 d_zd (by decide) (by decide); have r := bb9; omega
          show own_WP _ _ _ _ s₁ (mkF m 61 #[.val (.int zd), .val (.int (((31 : Int32) + (-8 : Int32)) + (-4 : Int32)))] [])
          refine own_go (fun t k => XS.iloadN X0.here hx rfl (hb hby d7_61) rfl  k) ?_
          show own_WP _ _ _ _ s₁ (mkF m 62 #[.val (.int zd), .val (.int (((31 : Int32) + (-8 : Int32)) + (-4 : Int32)))] [(.int zd)])
          refine own_go (fun t k => XS.iconst X0.here hx rfl (hb hby d7_62) k) ?_
          show own_WP _ _ _ _ s₁ (mkF m 63 #[.val (.int zd), .val (.int (((31 : Int32) + (-8 : Int32)) + (-4 : Int32)))] [(.int (4 : Int32)), (.int zd)])
          by_cases hc63 : zd < (4 : Int32)
          · refine own_go (fun t k => XS.icmpYes X0.here hx rfl (pc0 := 63) (pc' := 73) rfl (hb hby d7_63) rfl (tlt hc63).1 (by decide) (by decide) k) ?_
            have bb14 : 0 ≤ zd.toInt ∧ zd.toInt < 4 := own_lo rfl bb13.1 hc63
            show own_WP _ _ _ _ s₁ (mkF m 73 #[.val (.int zd), .val (.int (((31 : Int32) + (-8 : Int32)) + (-4 : Int32)))] [])
            refine own_go (fun t k => XS.iloadN X0.here hx rfl (hb hby d7_73) rfl  k) ?_
            show own_WP _ _ _ _ s₁ (mkF m 74 #[.val (.int zd), .val (.int (((31 : Int32) + (-8 : Int32)) + (-4 : Int32)))] [(.int (((31 : Int32) + (-8 : Int32)) + (-4 : Int32)))])
            refine own_go (fun t k => XS.iloadN X0.here hx rfl (hb hby d7_74) rfl  k) ?_
            show own_WP _ _ _ _ s₁ (mkF m 75 #[.val (.int zd), .val (.int (((31 : Int32) + (-8 : Int32)) + (-4 : Int32)))] [(.int zd), (.int (((31 : Int32) + (-8 : Int32)) + (-4 : Int32)))])
            refine own_go (fun t k => XS.iconst X0.here hx rfl (hb hby d7_75) k) ?_
            show own_WP _ _ _ _ s₁ (mkF m 76 #[.val (.int zd), .val (.int (((31 : Int32) + (-8 : Int32)) + (-4 : Int32)))] [(.int (1 : Int32)), (.int zd), (.int (((31 : Int32) + (-8 : Int32)) + (-4 : Int32)))])
            refine own_go (fun t k => XS.iushr X0.here hx rfl (hb hby d7_76) rfl k) ?_
            show own_WP _ _ _ _ s₁ (mkF m 77 #[.val (.int zd), .val (.int (((31 : Int32) + (-8 : Int32)) + (-4 : Int32)))] [(.int ((zd.toUInt32 >>> ((1 : Int32) &&& 31).toUInt32).toInt32)), (.int (((31 : Int32) + (-8 : Int32)) + (-4 : Int32)))])
            refine own_go (fun t k => XS.isub X0.here hx rfl (hb hby d7_77) rfl k) ?_
            show own_WP _ _ _ _ s₁ (mkF m 78 #[.val (.int zd), .val (.int (((31 : Int32) + (-8 : Int32)) + (-4 : Int32)))] [(.int ((((31 : Int32) + (-8 : Int32)) + (-4 : Int32)) - ((zd.toUInt32 >>> ((1 : Int32) &&& 31).toUInt32).toInt32)))])
            refine own_retI X0 hx Bd.notSynchronized Bd.returns (hb hby d7_78) (by decide) (by decide) ?_
            rw [e0]
            exact ⟨((((31 : Int32) + (-8 : Int32)) + (-4 : Int32)) - ((zd.toUInt32 >>> ((1 : Int32) &&& 31).toUInt32).toInt32)), rfl, N0, rfl, (by have q := own_sh (x := zd) (sh := 1) (k := 1) bb14.1 rfl (by decide) (by decide); have r := bb14; have en : ((((31 : Int32) + (-8 : Int32)) + (-4 : Int32))).toInt = 19 := (by decide); have e := own_subs (n := (((31 : Int32) + (-8 : Int32)) + (-4 : Int32))) (y := ((zd.toUInt32 >>> ((1 : Int32) &&& 31).toUInt32).toInt32)) en (by omega) (by omega); omega)⟩
          · refine own_go (fun t k => XS.icmpNo X0.here hx rfl (hb hby d7_63) rfl (flt hc63).1 k) ?_
            show own_WP _ _ _ _ s₁ (mkF m 66 #[.val (.int zd), .val (.int (((31 : Int32) + (-8 : Int32)) + (-4 : Int32)))] [])
            refine own_go (fun t k => XS.iinc X0.here hx rfl (hb hby d7_66) rfl (l' := #[.val (.int zd), .val (.int ((((31 : Int32) + (-8 : Int32)) + (-4 : Int32)) + (-2 : Int32)))]) rfl k) ?_
            show own_WP _ _ _ _ s₁ (mkF m 69 #[.val (.int zd), .val (.int ((((31 : Int32) + (-8 : Int32)) + (-4 : Int32)) + (-2 : Int32)))] [])
            refine own_go (fun t k => XS.iloadN X0.here hx rfl (hb hby d7_69) rfl  k) ?_
            show own_WP _ _ _ _ s₁ (mkF m 70 #[.val (.int zd), .val (.int ((((31 : Int32) + (-8 : Int32)) + (-4 : Int32)) + (-2 : Int32)))] [(.int zd)])
            refine own_go (fun t k => XS.iconst X0.here hx rfl (hb hby d7_70) k) ?_
            show own_WP _ _ _ _ s₁ (mkF m 71 #[.val (.int zd), .val (.int ((((31 : Int32) + (-8 : Int32)) + (-4 : Int32)) + (-2 : Int32)))] [(.int (2 : Int32)), (.int zd)])
            refine own_go (fun t k => XS.iushr X0.here hx rfl (hb hby d7_71) rfl k) ?_
            show own_WP _ _ _ _ s₁ (mkF m 72 #[.val (.int zd), .val (.int ((((31 : Int32) + (-8 : Int32)) + (-4 : Int32)) + (-2 : Int32)))] [(.int ((zd.toUInt32 >>> ((2 : Int32) &&& 31).toUInt32).toInt32))])
            generalize d_ze : ((zd.toUInt32 >>> ((2 : Int32) &&& 31).toUInt32).toInt32) = ze
            refine own_go (fun t k => XS.istoreN X0.here hx rfl (hb hby d7_72) rfl (l' := #[.val (.int ze), .val (.int ((((31 : Int32) + (-8 : Int32)) + (-4 : Int32)) + (-2 : Int32)))]) rfl k) ?_
            have bb15 : 0 ≤ ze.toInt ∧ ze.toInt < 4 := by have q := own_sh (k := 2) bb13.1 d_ze (by decide) (by decide); have r := bb13; omega
            show own_WP _ _ _ _ s₁ (mkF m 73 #[.val (.int ze), .val (.int ((((31 : Int32) + (-8 : Int32)) + (-4 : Int32)) + (-2 : Int32)))] [])
            refine own_go (fun t k => XS.iloadN X0.here hx rfl (hb hby d7_73) rfl  k) ?_
            show own_WP _ _ _ _ s₁ (mkF m 74 #[.val (.int ze), .val (.int ((((31 : Int32) + (-8 : Int32)) + (-4 : Int32)) + (-2 : Int32)))] [(.int ((((31 : Int32) + (-8 : Int32)) + (-4 : Int32)) + (-2 : Int32)))])
            refine own_go (fun t k => XS.iloadN X0.here hx rfl (hb hby d7_74) rfl  k) ?_
            show own_WP _ _ _ _ s₁ (mkF m 75 #[.val (.int ze), .val (.int ((((31 : Int32) + (-8 : Int32)) + (-4 : Int32)) + (-2 : Int32)))] [(.int ze), (.int ((((31 : Int32) + (-8 : Int32)) + (-4 : Int32)) + (-2 : Int32)))])
            refine own_go (fun t k => XS.iconst X0.here hx rfl (hb hby d7_75) k) ?_
            show own_WP _ _ _ _ s₁ (mkF m 76 #[.val (.int ze), .val (.int ((((31 : Int32) + (-8 : Int32)) + (-4 : Int32)) + (-2 : Int32)))] [(.int (1 : Int32)), (.int ze), (.int ((((31 : Int32) + (-8 : Int32)) + (-4 : Int32)) + (-2 : Int32)))])
            refine own_go (fun t k => XS.iushr X0.here hx rfl (hb hby d7_76) rfl k) ?_
            show own_WP _ _ _ _ s₁ (mkF m 77 #[.val (.int ze), .val (.int ((((31 : Int32) + (-8 : Int32)) + (-4 : Int32)) + (-2 : Int32)))] [(.int ((ze.toUInt32 >>> ((1 : Int32) &&& 31).toUInt32).toInt32)), (.int ((((31 : Int32) + (-8 : Int32)) + (-4 : Int32)) + (-2 : Int32)))])
            refine own_go (fun t k => XS.isub X0.here hx rfl (hb hby d7_77) rfl k) ?_
            show own_WP _ _ _ _ s₁ (mkF m 78 #[.val (.int ze), .val (.int ((((31 : Int32) + (-8 : Int32)) + (-4 : Int32)) + (-2 : Int32)))] [(.int (((((31 : Int32) + (-8 : Int32)) + (-4 : Int32)) + (-2 : Int32)) - ((ze.toUInt32 >>> ((1 : Int32) &&& 31).toUInt32).toInt32)))])
            refine own_retI X0 hx Bd.notSynchronized Bd.returns (hb hby d7_78) (by decide) (by decide) ?_
            rw [e0]
            exact ⟨(((((31 : Int32) + (-8 : Int32)) + (-4 : Int32)) + (-2 : Int32)) - ((ze.toUInt32 >>> ((1 : Int32) &&& 31).toUInt32).toInt32)), rfl, N0, rfl, (by have q := own_sh (x := ze) (sh := 1) (k := 1) bb15.1 rfl (by decide) (by decide); have r := bb15; have en : (((((31 : Int32) + (-8 : Int32)) + (-4 : Int32)) + (-2 : Int32))).toInt = 17 := (by decide); have e := own_subs (n := ((((31 : Int32) + (-8 : Int32)) + (-4 : Int32)) + (-2 : Int32))) (y := ((ze.toUInt32 >>> ((1 : Int32) &&& 31).toUInt32).toInt32)) en (by omega) (by omega); omega)⟩
    · refine own_go (fun t k => XS.icmpNo X0.here hx rfl (hb hby d7_22) rfl (flt hc22).1 k) ?_
      show own_WP _ _ _ _ s₁ (mkF m 25 #[.val (.int zi), .val (.int (31 : Int32))] [])
      refine own_go (fun t k => XS.iinc X0.here hx rfl (hb hby d7_25) rfl (l' := #[.val (.int zi), .val (.int ((31 : Int32) + (-16 : Int32)))]) rfl k) ?_
      show own_WP _ _ _ _ s₁ (mkF m 28 #[.val (.int zi), .val (.int ((31 : Int32) + (-16 : Int32)))] [])
      refine own_go (fun t k => XS.iloadN X0.here hx rfl (hb hby d7_28) rfl  k) ?_
      show own_WP _ _ _ _ s₁ (mkF m 29 #[.val (.int zi), .val (.int ((31 : Int32) + (-16 : Int32)))] [(.int zi)])
      refine own_go (fun t k => XS.bipush X0.here hx rfl (hb hby d7_29) k) ?_
      show own_WP _ _ _ _ s₁ (mkF m 31 #[.val (.int zi), .val (.int ((31 : Int32) + (-16 : Int32)))] [(.int (16 : Int32)), (.int zi)])
      refine own_go (fun t k => XS.iushr X0.here hx rfl (hb hby d7_31) rfl k) ?_
      show own_WP _ _ _ _ s₁ (mkF m 32 #[.val (.int zi), .val (.int ((31 : Int32) + (-16 : Int32)))] [(.int ((zi.toUInt32 >>> ((16 : Int32) &&& 31).toUInt32).toInt32))])
      generalize d_za : ((zi.toUInt32 >>> ((16 : Int32) &&& 31).toUInt32).toInt32) = za
      refine own_go (fun t k => XS.istoreN X0.here hx rfl (hb hby d7_32) rfl (l' := #[.val (.int za), .val (.int ((31 : Int32) + (-16 : Int32)))]) rfl k) ?_
      have bb16 : 0 ≤ za.toInt ∧ za.toInt < 65536 := by have q := own_sh (k := 16) (own_pos hc1).1 d_za (by decide) (by decide); have r := (own_pos hc1); omega
      show own_WP _ _ _ _ s₁ (mkF m 33 #[.val (.int za), .val (.int ((31 : Int32) + (-16 : Int32)))] [])
      refine own_go (fun t k => XS.iloadN X0.here hx rfl (hb hby d7_33) rfl  k) ?_
      show own_WP _ _ _ _ s₁ (mkF m 34 #[.val (.int za), .val (.int ((31 : Int32) + (-16 : Int32)))] [(.int za)])
      refine own_go (fun t k => XS.sipush X0.here hx rfl (hb hby d7_34) k) ?_
      show own_WP _ _ _ _ s₁ (mkF m 37 #[.val (.int za), .val (.int ((31 : Int32) + (-16 : Int32)))] [(.int (256 : Int32)), (.int za)])
      by_cases hc37 : za < (256 : Int32)
      · refine own_go (fun t k => XS.icmpYes X0.here hx rfl (pc0 := 37) (pc' := 48) rfl (hb hby d7_37) rfl (tlt hc37).1 (by decide) (by decide) k) ?_
        have bb17 : 0 ≤ za.toInt ∧ za.toInt < 256 := own_lo rfl bb16.1 hc37
        show own_WP _ _ _ _ s₁ (mkF m 48 #[.val (.int za), .val (.int ((31 : Int32) + (-16 : Int32)))] [])
        refine own_go (fun t k => XS.iloadN X0.here hx rfl (hb hby d7_48) rfl  k) ?_
        show own_WP _ _ _ _ s₁ (mkF m 49 #[.val (.int za), .val (.int ((31 : Int32) + (-16 : Int32)))] [(.int za)])
        refine own_go (fun t k => XS.bipush X0.here hx rfl (hb hby d7_49) k) ?_
        show own_WP _ _ _ _ s₁ (mkF m 51 #[.val (.int za), .val (.int ((31 : Int32) + (-16 : Int32)))] [(.int (16 : Int32)), (.int za)])
        by_cases hc51 : za < (16 : Int32)
        · refine own_go (fun t k => XS.icmpYes X0.here hx rfl (pc0 := 51) (pc' := 61) rfl (hb hby d7_51) rfl (tlt hc51).1 (by decide) (by decide) k) ?_
          have bb18 : 0 ≤ za.toInt ∧ za.toInt < 16 := own_lo rfl bb17.1 hc51
          show own_WP _ _ _ _ s₁ (mkF m 61 #[.val (.int za), .val (.int ((31 : Int32) + (-16 : Int32)))] [])
          refine own_go (fun t k => XS.iloadN X0.here hx rfl (hb hby d7_61) rfl  k) ?_
          show own_WP _ _ _ _ s₁ (mkF m 62 #[.val (.int za), .val (.int ((31 : Int32) + (-16 : Int32)))] [(.int za)])
          refine own_go (fun t k => XS.iconst X0.here hx rfl (hb hby d7_62) k) ?_
          show own_WP _ _ _ _ s₁ (mkF m 63 #[.val (.int za), .val (.int ((31 : Int32) + (-16 : Int32)))] [(.int (4 : Int32)), (.int za)])
          by_cases hc63 : za < (4 : Int32)
          · refine own_go (fun t k => XS.icmpYes X0.here hx rfl (pc0 := 63) (pc' := 73) rfl (hb hby d7_63) rfl (tlt hc63).1 (by decide) (by decide) k) ?_
            have bb19 : 0 ≤ za.toInt ∧ za.toInt < 4 := own_lo rfl bb18.1 hc63
            show own_WP _ _ _ _ s₁ (mkF m 73 #[.val (.int za), .val (.int ((31 : Int32) + (-16 : Int32)))] [])
            refine own_go (fun t k => XS.iloadN X0.here hx rfl (hb hby d7_73) rfl  k) ?_
            show own_WP _ _ _ _ s₁ (mkF m 74 #[.val (.int za), .val (.int ((31 : Int32) + (-16 : Int32)))] [(.int ((31 : Int32) + (-16 : Int32)))])
            refine own_go (fun t k => XS.iloadN X0.here hx rfl (hb hby d7_74) rfl  k) ?_
            show own_WP _ _ _ _ s₁ (mkF m 75 #[.val (.int za), .val (.int ((31 : Int32) + (-16 : Int32)))] [(.int za), (.int ((31 : Int32) + (-16 : Int32)))])
            refine own_go (fun t k => XS.iconst X0.here hx rfl (hb hby d7_75) k) ?_
            show own_WP _ _ _ _ s₁ (mkF m 76 #[.val (.int za), .val (.int ((31 : Int32) + (-16 : Int32)))] [(.int (1 : Int32)), (.int za), (.int ((31 : Int32) + (-16 : Int32)))])
            refine own_go (fun t k => XS.iushr X0.here hx rfl (hb hby d7_76) rfl k) ?_
            show own_WP _ _ _ _ s₁ (mkF m 77 #[.val (.int za), .val (.int ((31 : Int32) + (-16 : Int32)))] [(.int ((za.toUInt32 >>> ((1 : Int32) &&& 31).toUInt32).toInt32)), (.int ((31 : Int32) + (-16 : Int32)))])
            refine own_go (fun t k => XS.isub X0.here hx rfl (hb hby d7_77) rfl k) ?_
            show own_WP _ _ _ _ s₁ (mkF m 78 #[.val (.int za), .val (.int ((31 : Int32) + (-16 : Int32)))] [(.int (((31 : Int32) + (-16 : Int32)) - ((za.toUInt32 >>> ((1 : Int32) &&& 31).toUInt32).toInt32)))])
            refine own_retI X0 hx Bd.notSynchronized Bd.returns (hb hby d7_78) (by decide) (by decide) ?_
            rw [e0]
            exact ⟨(((31 : Int32) + (-16 : Int32)) - ((za.toUInt32 >>> ((1 : Int32) &&& 31).toUInt32).toInt32)), rfl, N0, rfl, (by have q := own_sh (x := za) (sh := 1) (k := 1) bb19.1 rfl (by decide) (by decide); have r := bb19; have en : (((31 : Int32) + (-16 : Int32))).toInt = 15 := (by decide); have e := own_subs (n := ((31 : Int32) + (-16 : Int32))) (y := ((za.toUInt32 >>> ((1 : Int32) &&& 31).toUInt32).toInt32)) en (by omega) (by omega); omega)⟩
          · refine own_go (fun t k => XS.icmpNo X0.here hx rfl (hb hby d7_63) rfl (flt hc63).1 k) ?_
            show own_WP _ _ _ _ s₁ (mkF m 66 #[.val (.int za), .val (.int ((31 : Int32) + (-16 : Int32)))] [])
            refine own_go (fun t k => XS.iinc X0.here hx rfl (hb hby d7_66) rfl (l' := #[.val (.int za), .val (.int (((31 : Int32) + (-16 : Int32)) + (-2 : Int32)))]) rfl k) ?_
            show own_WP _ _ _ _ s₁ (mkF m 69 #[.val (.int za), .val (.int (((31 : Int32) + (-16 : Int32)) + (-2 : Int32)))] [])
            refine own_go (fun t k => XS.iloadN X0.here hx rfl (hb hby d7_69) rfl  k) ?_
            show own_WP _ _ _ _ s₁ (mkF m 70 #[.val (.int za), .val (.int (((31 : Int32) + (-16 : Int32)) + (-2 : Int32)))] [(.int za)])
            refine own_go (fun t k => XS.iconst X0.here hx rfl (hb hby d7_70) k) ?_
            show own_WP _ _ _ _ s₁ (mkF m 71 #[.val (.int za), .val (.int (((31 : Int32) + (-16 : Int32)) + (-2 : Int32)))] [(.int (2 : Int32)), (.int za)])
            refine own_go (fun t k => XS.iushr X0.here hx rfl (hb hby d7_71) rfl k) ?_
            show own_WP _ _ _ _ s₁ (mkF m 72 #[.val (.int za), .val (.int (((31 : Int32) + (-16 : Int32)) + (-2 : Int32)))] [(.int ((za.toUInt32 >>> ((2 : Int32) &&& 31).toUInt32).toInt32))])
            generalize d_ze : ((za.toUInt32 >>> ((2 : Int32) &&& 31).toUInt32).toInt32) = ze
            refine own_go (fun t k => XS.istoreN X0.here hx rfl (hb hby d7_72) rfl (l' := #[.val (.int ze), .val (.int (((31 : Int32) + (-16 : Int32)) + (-2 : Int32)))]) rfl k) ?_
            have bb20 : 0 ≤ ze.toInt ∧ ze.toInt < 4 := by have q := own_sh (k := 2) bb18.1 d_ze (by decide) (by decide); have r := bb18; omega
            show own_WP _ _ _ _ s₁ (mkF m 73 #[.val (.int ze), .val (.int (((31 : Int32) + (-16 : Int32)) + (-2 : Int32)))] [])
            refine own_go (fun t k => XS.iloadN X0.here hx rfl (hb hby d7_73) rfl  k) ?_
            show own_WP _ _ _ _ s₁ (mkF m 74 #[.val (.int ze), .val (.int (((31 : Int32) + (-16 : Int32)) + (-2 : Int32)))] [(.int (((31 : Int32) + (-16 : Int32)) + (-2 : Int32)))])
            refine own_go (fun t k => XS.iloadN X0.here hx rfl (hb hby d7_74) rfl  k) ?_
            show own_WP _ _ _ _ s₁ (mkF m 75 #[.val (.int ze), .val (.int (((31 : Int32) + (-16 : Int32)) + (-2 : Int32)))] [(.int ze), (.int (((31 : Int32) + (-16 : Int32)) + (-2 : Int32)))])
            refine own_go (fun t k => XS.iconst X0.here hx rfl (hb hby d7_75) k) ?_
            show own_WP _ _ _ _ s₁ (mkF m 76 #[.val (.int ze), .val (.int (((31 : Int32) + (-16 : Int32)) + (-2 : Int32)))] [(.int (1 : Int32)), (.int ze), (.int (((31 : Int32) + (-16 : Int32)) + (-2 : Int32)))])
            refine own_go (fun t k => XS.iushr X0.here hx rfl (hb hby d7_76) rfl k) ?_
            show own_WP _ _ _ _ s₁ (mkF m 77 #[.val (.int ze), .val (.int (((31 : Int32) + (-16 : Int32)) + (-2 : Int32)))] [(.int ((ze.toUInt32 >>> ((1 : Int32) &&& 31).toUInt32).toInt32)), (.int (((31 : Int32) + (-16 : Int32)) + (-2 : Int32)))])
            refine own_go (fun t k => XS.isub X0.here hx rfl (hb hby d7_77) rfl k) ?_
            show own_WP _ _ _ _ s₁ (mkF m 78 #[.val (.int ze), .val (.int (((31 : Int32) + (-16 : Int32)) + (-2 : Int32)))] [(.int ((((31 : Int32) + (-16 : Int32)) + (-2 : Int32)) - ((ze.toUInt32 >>> ((1 : Int32) &&& 31).toUInt32).toInt32)))])
            refine own_retI X0 hx Bd.notSynchronized Bd.returns (hb hby d7_78) (by decide) (by decide) ?_
            rw [e0]
            exact ⟨((((31 : Int32) + (-16 : Int32)) + (-2 : Int32)) - ((ze.toUInt32 >>> ((1 : Int32) &&& 31).toUInt32).toInt32)), rfl, N0, rfl, (by have q := own_sh (x := ze) (sh := 1) (k := 1) bb20.1 rfl (by decide) (by decide); have r := bb20; have en : ((((31 : Int32) + (-16 : Int32)) + (-2 : Int32))).toInt = 13 := (by decide); have e := own_subs (n := (((31 : Int32) + (-16 : Int32)) + (-2 : Int32))) (y := ((ze.toUInt32 >>> ((1 : Int32) &&& 31).toUInt32).toInt32)) en (by omega) (by omega); omega)⟩
        · refine own_go (fun t k => XS.icmpNo X0.here hx rfl (hb hby d7_51) rfl (flt hc51).1 k) ?_
          show own_WP _ _ _ _ s₁ (mkF m 54 #[.val (.int za), .val (.int ((31 : Int32) + (-16 : Int32)))] [])
          refine own_go (fun t k => XS.iinc X0.here hx rfl (hb hby d7_54) rfl (l' := #[.val (.int za), .val (.int (((31 : Int32) + (-16 : Int32)) + (-4 : Int32)))]) rfl k) ?_
          show own_WP _ _ _ _ s₁ (mkF m 57 #[.val (.int za), .val (.int (((31 : Int32) + (-16 : Int32)) + (-4 : Int32)))] [])
          refine own_go (fun t k => XS.iloadN X0.here hx rfl (hb hby d7_57) rfl  k) ?_
          show own_WP _ _ _ _ s₁ (mkF m 58 #[.val (.int za), .val (.int (((31 : Int32) + (-16 : Int32)) + (-4 : Int32)))] [(.int za)])
          refine own_go (fun t k => XS.iconst X0.here hx rfl (hb hby d7_58) k) ?_
          show own_WP _ _ _ _ s₁ (mkF m 59 #[.val (.int za), .val (.int (((31 : Int32) + (-16 : Int32)) + (-4 : Int32)))] [(.int (4 : Int32)), (.int za)])
          refine own_go (fun t k => XS.iushr X0.here hx rfl (hb hby d7_59) rfl k) ?_
          show own_WP _ _ _ _ s₁ (mkF m 60 #[.val (.int za), .val (.int (((31 : Int32) + (-16 : Int32)) + (-4 : Int32)))] [(.int ((za.toUInt32 >>> ((4 : Int32) &&& 31).toUInt32).toInt32))])
          generalize d_zd : ((za.toUInt32 >>> ((4 : Int32) &&& 31).toUInt32).toInt32) = zd
          refine own_go (fun t k => XS.istoreN X0.here hx rfl (hb hby d7_60) rfl (l' := #[.val (.int zd), .val (.int (((31 : Int32) + (-16 : Int32)) + (-4 : Int32)))]) rfl k) ?_
          have bb21 : 0 ≤ zd.toInt ∧ zd.toInt < 16 := by have q := own_sh (k := 4) bb17.1 d_zd (by decide) (by decide); have r := bb17; omega
          show own_WP _ _ _ _ s₁ (mkF m 61 #[.val (.int zd), .val (.int (((31 : Int32) + (-16 : Int32)) + (-4 : Int32)))] [])
          refine own_go (fun t k => XS.iloadN X0.here hx rfl (hb hby d7_61) rfl  k) ?_
          show own_WP _ _ _ _ s₁ (mkF m 62 #[.val (.int zd), .val (.int (((31 : Int32) + (-16 : Int32)) + (-4 : Int32)))] [(.int zd)])
          refine own_go (fun t k => XS.iconst X0.here hx rfl (hb hby d7_62) k) ?_
          show own_WP _ _ _ _ s₁ (mkF m 63 #[.val (.int zd), .val (.int (((31 : Int32) + (-16 : Int32)) + (-4 : Int32)))] [(.int (4 : Int32)), (.int zd)])
          by_cases hc63 : zd < (4 : Int32)
          · refine own_go (fun t k => XS.icmpYes X0.here hx rfl (pc0 := 63) (pc' := 73) rfl (hb hby d7_63) rfl (tlt hc63).1 (by decide) (by decide) k) ?_
            have bb22 : 0 ≤ zd.toInt ∧ zd.toInt < 4 := own_lo rfl bb21.1 hc63
            show own_WP _ _ _ _ s₁ (mkF m 73 #[.val (.int zd), .val (.int (((31 : Int32) + (-16 : Int32)) + (-4 : Int32)))] [])
            refine own_go (fun t k => XS.iloadN X0.here hx rfl (hb hby d7_73) rfl  k) ?_
            show own_WP _ _ _ _ s₁ (mkF m 74 #[.val (.int zd), .val (.int (((31 : Int32) + (-16 : Int32)) + (-4 : Int32)))] [(.int (((31 : Int32) + (-16 : Int32)) + (-4 : Int32)))])
            refine own_go (fun t k => XS.iloadN X0.here hx rfl (hb hby d7_74) rfl  k) ?_
            show own_WP _ _ _ _ s₁ (mkF m 75 #[.val (.int zd), .val (.int (((31 : Int32) + (-16 : Int32)) + (-4 : Int32)))] [(.int zd), (.int (((31 : Int32) + (-16 : Int32)) + (-4 : Int32)))])
            refine own_go (fun t k => XS.iconst X0.here hx rfl (hb hby d7_75) k) ?_
            show own_WP _ _ _ _ s₁ (mkF m 76 #[.val (.int zd), .val (.int (((31 : Int32) + (-16 : Int32)) + (-4 : Int32)))] [(.int (1 : Int32)), (.int zd), (.int (((31 : Int32) + (-16 : Int32)) + (-4 : Int32)))])
            refine own_go (fun t k => XS.iushr X0.here hx rfl (hb hby d7_76) rfl k) ?_
            show own_WP _ _ _ _ s₁ (mkF m 77 #[.val (.int zd), .val (.int (((31 : Int32) + (-16 : Int32)) + (-4 : Int32)))] [(.int ((zd.toUInt32 >>> ((1 : Int32) &&& 31).toUInt32).toInt32)), (.int (((31 : Int32) + (-16 : Int32)) + (-4 : Int32)))])
            refine own_go (fun t k => XS.isub X0.here hx rfl (hb hby d7_77) rfl k) ?_
            show own_WP _ _ _ _ s₁ (mkF m 78 #[.val (.int zd), .val (.int (((31 : Int32) + (-16 : Int32)) + (-4 : Int32)))] [(.int ((((31 : Int32) + (-16 : Int32)) + (-4 : Int32)) - ((zd.toUInt32 >>> ((1 : Int32) &&& 31).toUInt32).toInt32)))])
            refine own_retI X0 hx Bd.notSynchronized Bd.returns (hb hby d7_78) (by decide) (by decide) ?_
            rw [e0]
            exact ⟨((((31 : Int32) + (-16 : Int32)) + (-4 : Int32)) - ((zd.toUInt32 >>> ((1 : Int32) &&& 31).toUInt32).toInt32)), rfl, N0, rfl, (by have q := own_sh (x := zd) (sh := 1) (k := 1) bb22.1 rfl (by decide) (by decide); have r := bb22; have en : ((((31 : Int32) + (-16 : Int32)) + (-4 : Int32))).toInt = 11 := (by decide); have e := own_subs (n := (((31 : Int32) + (-16 : Int32)) + (-4 : Int32))) (y := ((zd.toUInt32 >>> ((1 : Int32) &&& 31).toUInt32).toInt32)) en (by omega) (by omega); omega)⟩
          · refine own_go (fun t k => XS.icmpNo X0.here hx rfl (hb hby d7_63) rfl (flt hc63).1 k) ?_
            show own_WP _ _ _ _ s₁ (mkF m 66 #[.val (.int zd), .val (.int (((31 : Int32) + (-16 : Int32)) + (-4 : Int32)))] [])
            refine own_go (fun t k => XS.iinc X0.here hx rfl (hb hby d7_66) rfl (l' := #[.val (.int zd), .val (.int ((((31 : Int32) + (-16 : Int32)) + (-4 : Int32)) + (-2 : Int32)))]) rfl k) ?_
            show own_WP _ _ _ _ s₁ (mkF m 69 #[.val (.int zd), .val (.int ((((31 : Int32) + (-16 : Int32)) + (-4 : Int32)) + (-2 : Int32)))] [])
            refine own_go (fun t k => XS.iloadN X0.here hx rfl (hb hby d7_69) rfl  k) ?_
            show own_WP _ _ _ _ s₁ (mkF m 70 #[.val (.int zd), .val (.int ((((31 : Int32) + (-16 : Int32)) + (-4 : Int32)) + (-2 : Int32)))] [(.int zd)])
            refine own_go (fun t k => XS.iconst X0.here hx rfl (hb hby d7_70) k) ?_
            show own_WP _ _ _ _ s₁ (mkF m 71 #[.val (.int zd), .val (.int ((((31 : Int32) + (-16 : Int32)) + (-4 : Int32)) + (-2 : Int32)))] [(.int (2 : Int32)), (.int zd)])
            refine own_go (fun t k => XS.iushr X0.here hx rfl (hb hby d7_71) rfl k) ?_
            show own_WP _ _ _ _ s₁ (mkF m 72 #[.val (.int zd), .val (.int ((((31 : Int32) + (-16 : Int32)) + (-4 : Int32)) + (-2 : Int32)))] [(.int ((zd.toUInt32 >>> ((2 : Int32) &&& 31).toUInt32).toInt32))])
            generalize d_ze : ((zd.toUInt32 >>> ((2 : Int32) &&& 31).toUInt32).toInt32) = ze
            refine own_go (fun t k => XS.istoreN X0.here hx rfl (hb hby d7_72) rfl (l' := #[.val (.int ze), .val (.int ((((31 : Int32) + (-16 : Int32)) + (-4 : Int32)) + (-2 : Int32)))]) rfl k) ?_
            have bb23 : 0 ≤ ze.toInt ∧ ze.toInt < 4 := by have q := own_sh (k := 2) bb21.1 d_ze (by decide) (by decide); have r := bb21; omega
            show own_WP _ _ _ _ s₁ (mkF m 73 #[.val (.int ze), .val (.int ((((31 : Int32) + (-16 : Int32)) + (-4 : Int32)) + (-2 : Int32)))] [])
            refine own_go (fun t k => XS.iloadN X0.here hx rfl (hb hby d7_73) rfl  k) ?_
            show own_WP _ _ _ _ s₁ (mkF m 74 #[.val (.int ze), .val (.int ((((31 : Int32) + (-16 : Int32)) + (-4 : Int32)) + (-2 : Int32)))] [(.int ((((31 : Int32) + (-16 : Int32)) + (-4 : Int32)) + (-2 : Int32)))])
            refine own_go (fun t k => XS.iloadN X0.here hx rfl (hb hby d7_74) rfl  k) ?_
            show own_WP _ _ _ _ s₁ (mkF m 75 #[.val (.int ze), .val (.int ((((31 : Int32) + (-16 : Int32)) + (-4 : Int32)) + (-2 : Int32)))] [(.int ze), (.int ((((31 : Int32) + (-16 : Int32)) + (-4 : Int32)) + (-2 : Int32)))])
            refine own_go (fun t k => XS.iconst X0.here hx rfl (hb hby d7_75) k) ?_
            show own_WP _ _ _ _ s₁ (mkF m 76 #[.val (.int ze), .val (.int ((((31 : Int32) + (-16 : Int32)) + (-4 : Int32)) + (-2 : Int32)))] [(.int (1 : Int32)), (.int ze), (.int ((((31 : Int32) + (-16 : Int32)) + (-4 : Int32)) + (-2 : Int32)))])
            refine own_go (fun t k => XS.iushr X0.here hx rfl (hb hby d7_76) rfl k) ?_
            show own_WP _ _ _ _ s₁ (mkF m 77 #[.val (.int ze), .val (.int ((((31 : Int32) + (-16 : Int32)) + (-4 : Int32)) + (-2 : Int32)))] [(.int ((ze.toUInt32 >>> ((1 : Int32) &&& 31).toUInt32).toInt32)), (.int ((((31 : Int32) + (-16 : Int32)) + (-4 : Int32)) + (-2 : Int32)))])
            refine own_go (fun t k => XS.isub X0.here hx rfl (hb hby d7_77) rfl k) ?_
            show own_WP _ _ _ _ s₁ (mkF m 78 #[.val (.int ze), .val (.int ((((31 : Int32) + (-16 : Int32)) + (-4 : Int32)) + (-2 : Int32)))] [(.int (((((31 : Int32) + (-16 : Int32)) + (-4 : Int32)) + (-2 : Int32)) - ((ze.toUInt32 >>> ((1 : Int32) &&& 31).toUInt32).toInt32)))])
            refine own_retI X0 hx Bd.notSynchronized Bd.returns (hb hby d7_78) (by decide) (by decide) ?_
            rw [e0]
            exact ⟨(((((31 : Int32) + (-16 : Int32)) + (-4 : Int32)) + (-2 : Int32)) - ((ze.toUInt32 >>> ((1 : Int32) &&& 31).toUInt32).toInt32)), rfl, N0, rfl, (by have q := own_sh (x := ze) (sh := 1) (k := 1) bb23.1 rfl (by decide) (by decide); have r := bb23; have en : (((((31 : Int32) + (-16 : Int32)) + (-4 : Int32)) + (-2 : Int32))).toInt = 9 := (by decide); have e := own_subs (n := ((((31 : Int32) + (-16 : Int32)) + (-4 : Int32)) + (-2 : Int32))) (y := ((ze.toUInt32 >>> ((1 : Int32) &&& 31).toUInt32).toInt32)) en (by omega) (by omega); omega)⟩
      · refine own_go (fun t k => XS.icmpNo X0.here hx rfl (hb hby d7_37) rfl (flt hc37).1 k) ?_
        show own_WP _ _ _ _ s₁ (mkF m 40 #[.val (.int za), .val (.int ((31 : Int32) + (-16 : Int32)))] [])
        refine own_go (fun t k => XS.iinc X0.here hx rfl (hb hby d7_40) rfl (l' := #[.val (.int za), .val (.int (((31 : Int32) + (-16 : Int32)) + (-8 : Int32)))]) rfl k) ?_
        show own_WP _ _ _ _ s₁ (mkF m 43 #[.val (.int za), .val (.int (((31 : Int32) + (-16 : Int32)) + (-8 : Int32)))] [])
        refine own_go (fun t k => XS.iloadN X0.here hx rfl (hb hby d7_43) rfl  k) ?_
        show own_WP _ _ _ _ s₁ (mkF m 44 #[.val (.int za), .val (.int (((31 : Int32) + (-16 : Int32)) + (-8 : Int32)))] [(.int za)])
        refine own_go (fun t k => XS.bipush X0.here hx rfl (hb hby d7_44) k) ?_
        show own_WP _ _ _ _ s₁ (mkF m 46 #[.val (.int za), .val (.int (((31 : Int32) + (-16 : Int32)) + (-8 : Int32)))] [(.int (8 : Int32)), (.int za)])
        refine own_go (fun t k => XS.iushr X0.here hx rfl (hb hby d7_46) rfl k) ?_
        show own_WP _ _ _ _ s₁ (mkF m 47 #[.val (.int za), .val (.int (((31 : Int32) + (-16 : Int32)) + (-8 : Int32)))] [(.int ((za.toUInt32 >>> ((8 : Int32) &&& 31).toUInt32).toInt32))])
        generalize d_zb : ((za.toUInt32 >>> ((8 : Int32) &&& 31).toUInt32).toInt32) = zb
        refine own_go (fun t k => XS.istoreN X0.here hx rfl (hb hby d7_47) rfl (l' := #[.val (.int zb), .val (.int (((31 : Int32) + (-16 : Int32)) + (-8 : Int32)))]) rfl k) ?_
        have bb24 : 0 ≤ zb.toInt ∧ zb.toInt < 256 := by have q := own_sh (k := 8) bb16.1 d_zb (by decide) (by decide); have r := bb16; omega
        show own_WP _ _ _ _ s₁ (mkF m 48 #[.val (.int zb), .val (.int (((31 : Int32) + (-16 : Int32)) + (-8 : Int32)))] [])
        refine own_go (fun t k => XS.iloadN X0.here hx rfl (hb hby d7_48) rfl  k) ?_
        show own_WP _ _ _ _ s₁ (mkF m 49 #[.val (.int zb), .val (.int (((31 : Int32) + (-16 : Int32)) + (-8 : Int32)))] [(.int zb)])
        refine own_go (fun t k => XS.bipush X0.here hx rfl (hb hby d7_49) k) ?_
        show own_WP _ _ _ _ s₁ (mkF m 51 #[.val (.int zb), .val (.int (((31 : Int32) + (-16 : Int32)) + (-8 : Int32)))] [(.int (16 : Int32)), (.int zb)])
        by_cases hc51 : zb < (16 : Int32)
        · refine own_go (fun t k => XS.icmpYes X0.here hx rfl (pc0 := 51) (pc' := 61) rfl (hb hby d7_51) rfl (tlt hc51).1 (by decide) (by decide) k) ?_
          have bb25 : 0 ≤ zb.toInt ∧ zb.toInt < 16 := own_lo rfl bb24.1 hc51
          show own_WP _ _ _ _ s₁ (mkF m 61 #[.val (.int zb), .val (.int (((31 : Int32) + (-16 : Int32)) + (-8 : Int32)))] [])
          refine own_go (fun t k => XS.iloadN X0.here hx rfl (hb hby d7_61) rfl  k) ?_
          show own_WP _ _ _ _ s₁ (mkF m 62 #[.val (.int zb), .val (.int (((31 : Int32) + (-16 : Int32)) + (-8 : Int32)))] [(.int zb)])
          refine own_go (fun t k => XS.iconst X0.here hx rfl (hb hby d7_62) k) ?_
          show own_WP _ _ _ _ s₁ (mkF m 63 #[.val (.int zb), .val (.int (((31 : Int32) + (-16 : Int32)) + (-8 : Int32)))] [(.int (4 : Int32)), (.int zb)])
          by_cases hc63 : zb < (4 : Int32)
          · refine own_go (fun t k => XS.icmpYes X0.here hx rfl (pc0 := 63) (pc' := 73) rfl (hb hby d7_63) rfl (tlt hc63).1 (by decide) (by decide) k) ?_
            have bb26 : 0 ≤ zb.toInt ∧ zb.toInt < 4 := own_lo rfl bb25.1 hc63
            show own_WP _ _ _ _ s₁ (mkF m 73 #[.val (.int zb), .val (.int (((31 : Int32) + (-16 : Int32)) + (-8 : Int32)))] [])
            refine own_go (fun t k => XS.iloadN X0.here hx rfl (hb hby d7_73) rfl  k) ?_
            show own_WP _ _ _ _ s₁ (mkF m 74 #[.val (.int zb), .val (.int (((31 : Int32) + (-16 : Int32)) + (-8 : Int32)))] [(.int (((31 : Int32) + (-16 : Int32)) + (-8 : Int32)))])
            refine own_go (fun t k => XS.iloadN X0.here hx rfl (hb hby d7_74) rfl  k) ?_
            show own_WP _ _ _ _ s₁ (mkF m 75 #[.val (.int zb), .val (.int (((31 : Int32) + (-16 : Int32)) + (-8 : Int32)))] [(.int zb), (.int (((31 : Int32) + (-16 : Int32)) + (-8 : Int32)))])
            refine own_go (fun t k => XS.iconst X0.here hx rfl (hb hby d7_75) k) ?_
            show own_WP _ _ _ _ s₁ (mkF m 76 #[.val (.int zb), .val (.int (((31 : Int32) + (-16 : Int32)) + (-8 : Int32)))] [(.int (1 : Int32)), (.int zb), (.int (((31 : Int32) + (-16 : Int32)) + (-8 : Int32)))])
            refine own_go (fun t k => XS.iushr X0.here hx rfl (hb hby d7_76) rfl k) ?_
            show own_WP _ _ _ _ s₁ (mkF m 77 #[.val (.int zb), .val (.int (((31 : Int32) + (-16 : Int32)) + (-8 : Int32)))] [(.int ((zb.toUInt32 >>> ((1 : Int32) &&& 31).toUInt32).toInt32)), (.int (((31 : Int32) + (-16 : Int32)) + (-8 : Int32)))])
            refine own_go (fun t k => XS.isub X0.here hx rfl (hb hby d7_77) rfl k) ?_
            show own_WP _ _ _ _ s₁ (mkF m 78 #[.val (.int zb), .val (.int (((31 : Int32) + (-16 : Int32)) + (-8 : Int32)))] [(.int ((((31 : Int32) + (-16 : Int32)) + (-8 : Int32)) - ((zb.toUInt32 >>> ((1 : Int32) &&& 31).toUInt32).toInt32)))])
            refine own_retI X0 hx Bd.notSynchronized Bd.returns (hb hby d7_78) (by decide) (by decide) ?_
            rw [e0]
            exact ⟨((((31 : Int32) + (-16 : Int32)) + (-8 : Int32)) - ((zb.toUInt32 >>> ((1 : Int32) &&& 31).toUInt32).toInt32)), rfl, N0, rfl, (by have q := own_sh (x := zb) (sh := 1) (k := 1) bb26.1 rfl (by decide) (by decide); have r := bb26; have en : ((((31 : Int32) + (-16 : Int32)) + (-8 : Int32))).toInt = 7 := (by decide); have e := own_subs (n := (((31 : Int32) + (-16 : Int32)) + (-8 : Int32))) (y := ((zb.toUInt32 >>> ((1 : Int32) &&& 31).toUInt32).toInt32)) en (by omega) (by omega); omega)⟩
          · refine own_go (fun t k => XS.icmpNo X0.here hx rfl (hb hby d7_63) rfl (flt hc63).1 k) ?_
            show own_WP _ _ _ _ s₁ (mkF m 66 #[.val (.int zb), .val (.int (((31 : Int32) + (-16 : Int32)) + (-8 : Int32)))] [])
            refine own_go (fun t k => XS.iinc X0.here hx rfl (hb hby d7_66) rfl (l' := #[.val (.int zb), .val (.int ((((31 : Int32) + (-16 : Int32)) + (-8 : Int32)) + (-2 : Int32)))]) rfl k) ?_
            show own_WP _ _ _ _ s₁ (mkF m 69 #[.val (.int zb), .val (.int ((((31 : Int32) + (-16 : Int32)) + (-8 : Int32)) + (-2 : Int32)))] [])
            refine own_go (fun t k => XS.iloadN X0.here hx rfl (hb hby d7_69) rfl  k) ?_
            show own_WP _ _ _ _ s₁ (mkF m 70 #[.val (.int zb), .val (.int ((((31 : Int32) + (-16 : Int32)) + (-8 : Int32)) + (-2 : Int32)))] [(.int zb)])
            refine own_go (fun t k => XS.iconst X0.here hx rfl (hb hby d7_70) k) ?_
            show own_WP _ _ _ _ s₁ (mkF m 71 #[.val (.int zb), .val (.int ((((31 : Int32) + (-16 : Int32)) + (-8 : Int32)) + (-2 : Int32)))] [(.int (2 : Int32)), (.int zb)])
            refine own_go (fun t k => XS.iushr X0.here hx rfl (hb hby d7_71) rfl k) ?_
            show own_WP _ _ _ _ s₁ (mkF m 72 #[.val (.int zb), .val (.int ((((31 : Int32) + (-16 : Int32)) + (-8 : Int32)) + (-2 : Int32)))] [(.int ((zb.toUInt32 >>> ((2 : Int32) &&& 31).toUInt32).toInt32))])
            generalize d_ze : ((zb.toUInt32 >>> ((2 : Int32) &&& 31).toUInt32).toInt32) = ze
            refine own_go (fun t k => XS.istoreN X0.here hx rfl (hb hby d7_72) rfl (l' := #[.val (.int ze), .val (.int ((((31 : Int32) + (-16 : Int32)) + (-8 : Int32)) + (-2 : Int32)))]) rfl k) ?_
            have bb27 : 0 ≤ ze.toInt ∧ ze.toInt < 4 := by have q := own_sh (k := 2) bb25.1 d_ze (by decide) (by decide); have r := bb25; omega
            show own_WP _ _ _ _ s₁ (mkF m 73 #[.val (.int ze), .val (.int ((((31 : Int32) + (-16 : Int32)) + (-8 : Int32)) + (-2 : Int32)))] [])
            refine own_go (fun t k => XS.iloadN X0.here hx rfl (hb hby d7_73) rfl  k) ?_
            show own_WP _ _ _ _ s₁ (mkF m 74 #[.val (.int ze), .val (.int ((((31 : Int32) + (-16 : Int32)) + (-8 : Int32)) + (-2 : Int32)))] [(.int ((((31 : Int32) + (-16 : Int32)) + (-8 : Int32)) + (-2 : Int32)))])
            refine own_go (fun t k => XS.iloadN X0.here hx rfl (hb hby d7_74) rfl  k) ?_
            show own_WP _ _ _ _ s₁ (mkF m 75 #[.val (.int ze), .val (.int ((((31 : Int32) + (-16 : Int32)) + (-8 : Int32)) + (-2 : Int32)))] [(.int ze), (.int ((((31 : Int32) + (-16 : Int32)) + (-8 : Int32)) + (-2 : Int32)))])
            refine own_go (fun t k => XS.iconst X0.here hx rfl (hb hby d7_75) k) ?_
            show own_WP _ _ _ _ s₁ (mkF m 76 #[.val (.int ze), .val (.int ((((31 : Int32) + (-16 : Int32)) + (-8 : Int32)) + (-2 : Int32)))] [(.int (1 : Int32)), (.int ze), (.int ((((31 : Int32) + (-16 : Int32)) + (-8 : Int32)) + (-2 : Int32)))])
            refine own_go (fun t k => XS.iushr X0.here hx rfl (hb hby d7_76) rfl k) ?_
            show own_WP _ _ _ _ s₁ (mkF m 77 #[.val (.int ze), .val (.int ((((31 : Int32) + (-16 : Int32)) + (-8 : Int32)) + (-2 : Int32)))] [(.int ((ze.toUInt32 >>> ((1 : Int32) &&& 31).toUInt32).toInt32)), (.int ((((31 : Int32) + (-16 : Int32)) + (-8 : Int32)) + (-2 : Int32)))])
            refine own_go (fun t k => XS.isub X0.here hx rfl (hb hby d7_77) rfl k) ?_
            show own_WP _ _ _ _ s₁ (mkF m 78 #[.val (.int ze), .val (.int ((((31 : Int32) + (-16 : Int32)) + (-8 : Int32)) + (-2 : Int32)))] [(.int (((((31 : Int32) + (-16 : Int32)) + (-8 : Int32)) + (-2 : Int32)) - ((ze.toUInt32 >>> ((1 : Int32) &&& 31).toUInt32).toInt32)))])
            refine own_retI X0 hx Bd.notSynchronized Bd.returns (hb hby d7_78) (by decide) (by decide) ?_
            rw [e0]
            exact ⟨(((((31 : Int32) + (-16 : Int32)) + (-8 : Int32)) + (-2 : Int32)) - ((ze.toUInt32 >>> ((1 : Int32) &&& 31).toUInt32).toInt32)), rfl, N0, rfl, (by have q := own_sh (x := ze) (sh := 1) (k := 1) bb27.1 rfl (by decide) (by decide); have r := bb27; have en : (((((31 : Int32) + (-16 : Int32)) + (-8 : Int32)) + (-2 : Int32))).toInt = 5 := (by decide); have e := own_subs (n := ((((31 : Int32) + (-16 : Int32)) + (-8 : Int32)) + (-2 : Int32))) (y := ((ze.toUInt32 >>> ((1 : Int32) &&& 31).toUInt32).toInt32)) en (by omega) (by omega); omega)⟩
        · refine own_go (fun t k => XS.icmpNo X0.here hx rfl (hb hby d7_51) rfl (flt hc51).1 k) ?_
          show own_WP _ _ _ _ s₁ (mkF m 54 #[.val (.int zb), .val (.int (((31 : Int32) + (-16 : Int32)) + (-8 : Int32)))] [])
          refine own_go (fun t k => XS.iinc X0.here hx rfl (hb hby d7_54) rfl (l' := #[.val (.int zb), .val (.int ((((31 : Int32) + (-16 : Int32)) + (-8 : Int32)) + (-4 : Int32)))]) rfl k) ?_
          show own_WP _ _ _ _ s₁ (mkF m 57 #[.val (.int zb), .val (.int ((((31 : Int32) + (-16 : Int32)) + (-8 : Int32)) + (-4 : Int32)))] [])
          refine own_go (fun t k => XS.iloadN X0.here hx rfl (hb hby d7_57) rfl  k) ?_
          show own_WP _ _ _ _ s₁ (mkF m 58 #[.val (.int zb), .val (.int ((((31 : Int32) + (-16 : Int32)) + (-8 : Int32)) + (-4 : Int32)))] [(.int zb)])
          refine own_go (fun t k => XS.iconst X0.here hx rfl (hb hby d7_58) k) ?_
          show own_WP _ _ _ _ s₁ (mkF m 59 #[.val (.int zb), .val (.int ((((31 : Int32) + (-16 : Int32)) + (-8 : Int32)) + (-4 : Int32)))] [(.int (4 : Int32)), (.int zb)])
          refine own_go (fun t k => XS.iushr X0.here hx rfl (hb hby d7_59) rfl k) ?_
          show own_WP _ _ _ _ s₁ (mkF m 60 #[.val (.int zb), .val (.int ((((31 : Int32) + (-16 : Int32)) + (-8 : Int32)) + (-4 : Int32)))] [(.int ((zb.toUInt32 >>> ((4 : Int32) &&& 31).toUInt32).toInt32))])
          generalize d_zd : ((zb.toUInt32 >>> ((4 : Int32) &&& 31).toUInt32).toInt32) = zd
          refine own_go (fun t k => XS.istoreN X0.here hx rfl (hb hby d7_60) rfl (l' := #[.val (.int zd), .val (.int ((((31 : Int32) + (-16 : Int32)) + (-8 : Int32)) + (-4 : Int32)))]) rfl k) ?_
          have bb28 : 0 ≤ zd.toInt ∧ zd.toInt < 16 := by have q := own_sh (k := 4) bb24.1 d_zd (by decide) (by decide); have r := bb24; omega
          show own_WP _ _ _ _ s₁ (mkF m 61 #[.val (.int zd), .val (.int ((((31 : Int32) + (-16 : Int32)) + (-8 : Int32)) + (-4 : Int32)))] [])
          refine own_go (fun t k => XS.iloadN X0.here hx rfl (hb hby d7_61) rfl  k) ?_
          show own_WP _ _ _ _ s₁ (mkF m 62 #[.val (.int zd), .val (.int ((((31 : Int32) + (-16 : Int32)) + (-8 : Int32)) + (-4 : Int32)))] [(.int zd)])
          refine own_go (fun t k => XS.iconst X0.here hx rfl (hb hby d7_62) k) ?_
          show own_WP _ _ _ _ s₁ (mkF m 63 #[.val (.int zd), .val (.int ((((31 : Int32) + (-16 : Int32)) + (-8 : Int32)) + (-4 : Int32)))] [(.int (4 : Int32)), (.int zd)])
          by_cases hc63 : zd < (4 : Int32)
          · refine own_go (fun t k => XS.icmpYes X0.here hx rfl (pc0 := 63) (pc' := 73) rfl (hb hby d7_63) rfl (tlt hc63).1 (by decide) (by decide) k) ?_
            have bb29 : 0 ≤ zd.toInt ∧ zd.toInt < 4 := own_lo rfl bb28.1 hc63
            show own_WP _ _ _ _ s₁ (mkF m 73 #[.val (.int zd), .val (.int ((((31 : Int32) + (-16 : Int32)) + (-8 : Int32)) + (-4 : Int32)))] [])
            refine own_go (fun t k => XS.iloadN X0.here hx rfl (hb hby d7_73) rfl  k) ?_
            show own_WP _ _ _ _ s₁ (mkF m 74 #[.val (.int zd), .val (.int ((((31 : Int32) + (-16 : Int32)) + (-8 : Int32)) + (-4 : Int32)))] [(.int ((((31 : Int32) + (-16 : Int32)) + (-8 : Int32)) + (-4 : Int32)))])
            refine own_go (fun t k => XS.iloadN X0.here hx rfl (hb hby d7_74) rfl  k) ?_
            show own_WP _ _ _ _ s₁ (mkF m 75 #[.val (.int zd), .val (.int ((((31 : Int32) + (-16 : Int32)) + (-8 : Int32)) + (-4 : Int32)))] [(.int zd), (.int ((((31 : Int32) + (-16 : Int32)) + (-8 : Int32)) + (-4 : Int32)))])
            refine own_go (fun t k => XS.iconst X0.here hx rfl (hb hby d7_75) k) ?_
            show own_WP _ _ _ _ s₁ (mkF m 76 #[.val (.int zd), .val (.int ((((31 : Int32) + (-16 : Int32)) + (-8 : Int32)) + (-4 : Int32)))] [(.int (1 : Int32)), (.int zd), (.int ((((31 : Int32) + (-16 : Int32)) + (-8 : Int32)) + (-4 : Int32)))])
            refine own_go (fun t k => XS.iushr X0.here hx rfl (hb hby d7_76) rfl k) ?_
            show own_WP _ _ _ _ s₁ (mkF m 77 #[.val (.int zd), .val (.int ((((31 : Int32) + (-16 : Int32)) + (-8 : Int32)) + (-4 : Int32)))] [(.int ((zd.toUInt32 >>> ((1 : Int32) &&& 31).toUInt32).toInt32)), (.int ((((31 : Int32) + (-16 : Int32)) + (-8 : Int32)) + (-4 : Int32)))])
            refine own_go (fun t k => XS.isub X0.here hx rfl (hb hby d7_77) rfl k) ?_
            show own_WP _ _ _ _ s₁ (mkF m 78 #[.val (.int zd), .val (.int ((((31 : Int32) + (-16 : Int32)) + (-8 : Int32)) + (-4 : Int32)))] [(.int (((((31 : Int32) + (-16 : Int32)) + (-8 : Int32)) + (-4 : Int32)) - ((zd.toUInt32 >>> ((1 : Int32) &&& 31).toUInt32).toInt32)))])
            refine own_retI X0 hx Bd.notSynchronized Bd.returns (hb hby d7_78) (by decide) (by decide) ?_
            rw [e0]
            exact ⟨(((((31 : Int32) + (-16 : Int32)) + (-8 : Int32)) + (-4 : Int32)) - ((zd.toUInt32 >>> ((1 : Int32) &&& 31).toUInt32).toInt32)), rfl, N0, rfl, (by have q := own_sh (x := zd) (sh := 1) (k := 1) bb29.1 rfl (by decide) (by decide); have r := bb29; have en : (((((31 : Int32) + (-16 : Int32)) + (-8 : Int32)) + (-4 : Int32))).toInt = 3 := (by decide); have e := own_subs (n := ((((31 : Int32) + (-16 : Int32)) + (-8 : Int32)) + (-4 : Int32))) (y := ((zd.toUInt32 >>> ((1 : Int32) &&& 31).toUInt32).toInt32)) en (by omega) (by omega); omega)⟩
          · refine own_go (fun t k => XS.icmpNo X0.here hx rfl (hb hby d7_63) rfl (flt hc63).1 k) ?_
            show own_WP _ _ _ _ s₁ (mkF m 66 #[.val (.int zd), .val (.int ((((31 : Int32) + (-16 : Int32)) + (-8 : Int32)) + (-4 : Int32)))] [])
            refine own_go (fun t k => XS.iinc X0.here hx rfl (hb hby d7_66) rfl (l' := #[.val (.int zd), .val (.int (((((31 : Int32) + (-16 : Int32)) + (-8 : Int32)) + (-4 : Int32)) + (-2 : Int32)))]) rfl k) ?_
            show own_WP _ _ _ _ s₁ (mkF m 69 #[.val (.int zd), .val (.int (((((31 : Int32) + (-16 : Int32)) + (-8 : Int32)) + (-4 : Int32)) + (-2 : Int32)))] [])
            refine own_go (fun t k => XS.iloadN X0.here hx rfl (hb hby d7_69) rfl  k) ?_
            show own_WP _ _ _ _ s₁ (mkF m 70 #[.val (.int zd), .val (.int (((((31 : Int32) + (-16 : Int32)) + (-8 : Int32)) + (-4 : Int32)) + (-2 : Int32)))] [(.int zd)])
            refine own_go (fun t k => XS.iconst X0.here hx rfl (hb hby d7_70) k) ?_
            show own_WP _ _ _ _ s₁ (mkF m 71 #[.val (.int zd), .val (.int (((((31 : Int32) + (-16 : Int32)) + (-8 : Int32)) + (-4 : Int32)) + (-2 : Int32)))] [(.int (2 : Int32)), (.int zd)])
            refine own_go (fun t k => XS.iushr X0.here hx rfl (hb hby d7_71) rfl k) ?_
            show own_WP _ _ _ _ s₁ (mkF m 72 #[.val (.int zd), .val (.int (((((31 : Int32) + (-16 : Int32)) + (-8 : Int32)) + (-4 : Int32)) + (-2 : Int32)))] [(.int ((zd.toUInt32 >>> ((2 : Int32) &&& 31).toUInt32).toInt32))])
            generalize d_ze : ((zd.toUInt32 >>> ((2 : Int32) &&& 31).toUInt32).toInt32) = ze
            refine own_go (fun t k => XS.istoreN X0.here hx rfl (hb hby d7_72) rfl (l' := #[.val (.int ze), .val (.int (((((31 : Int32) + (-16 : Int32)) + (-8 : Int32)) + (-4 : Int32)) + (-2 : Int32)))]) rfl k) ?_
            have bb30 : 0 ≤ ze.toInt ∧ ze.toInt < 4 := by have q := own_sh (k := 2) bb28.1 d_ze (by decide) (by decide); have r := bb28; omega
            show own_WP _ _ _ _ s₁ (mkF m 73 #[.val (.int ze), .val (.int (((((31 : Int32) + (-16 : Int32)) + (-8 : Int32)) + (-4 : Int32)) + (-2 : Int32)))] [])
            refine own_go (fun t k => XS.iloadN X0.here hx rfl (hb hby d7_73) rfl  k) ?_
            show own_WP _ _ _ _ s₁ (mkF m 74 #[.val (.int ze), .val (.int (((((31 : Int32) + (-16 : Int32)) + (-8 : Int32)) + (-4 : Int32)) + (-2 : Int32)))] [(.int (((((31 : Int32) + (-16 : Int32)) + (-8 : Int32)) + (-4 : Int32)) + (-2 : Int32)))])
            refine own_go (fun t k => XS.iloadN X0.here hx rfl (hb hby d7_74) rfl  k) ?_
            show own_WP _ _ _ _ s₁ (mkF m 75 #[.val (.int ze), .val (.int (((((31 : Int32) + (-16 : Int32)) + (-8 : Int32)) + (-4 : Int32)) + (-2 : Int32)))] [(.int ze), (.int (((((31 : Int32) + (-16 : Int32)) + (-8 : Int32)) + (-4 : Int32)) + (-2 : Int32)))])
            refine own_go (fun t k => XS.iconst X0.here hx rfl (hb hby d7_75) k) ?_
            show own_WP _ _ _ _ s₁ (mkF m 76 #[.val (.int ze), .val (.int (((((31 : Int32) + (-16 : Int32)) + (-8 : Int32)) + (-4 : Int32)) + (-2 : Int32)))] [(.int (1 : Int32)), (.int ze), (.int (((((31 : Int32) + (-16 : Int32)) + (-8 : Int32)) + (-4 : Int32)) + (-2 : Int32)))])
            refine own_go (fun t k => XS.iushr X0.here hx rfl (hb hby d7_76) rfl k) ?_
            show own_WP _ _ _ _ s₁ (mkF m 77 #[.val (.int ze), .val (.int (((((31 : Int32) + (-16 : Int32)) + (-8 : Int32)) + (-4 : Int32)) + (-2 : Int32)))] [(.int ((ze.toUInt32 >>> ((1 : Int32) &&& 31).toUInt32).toInt32)), (.int (((((31 : Int32) + (-16 : Int32)) + (-8 : Int32)) + (-4 : Int32)) + (-2 : Int32)))])
            refine own_go (fun t k => XS.isub X0.here hx rfl (hb hby d7_77) rfl k) ?_
            show own_WP _ _ _ _ s₁ (mkF m 78 #[.val (.int ze), .val (.int (((((31 : Int32) + (-16 : Int32)) + (-8 : Int32)) + (-4 : Int32)) + (-2 : Int32)))] [(.int ((((((31 : Int32) + (-16 : Int32)) + (-8 : Int32)) + (-4 : Int32)) + (-2 : Int32)) - ((ze.toUInt32 >>> ((1 : Int32) &&& 31).toUInt32).toInt32)))])
            refine own_retI X0 hx Bd.notSynchronized Bd.returns (hb hby d7_78) (by decide) (by decide) ?_
            rw [e0]
            exact ⟨((((((31 : Int32) + (-16 : Int32)) + (-8 : Int32)) + (-4 : Int32)) + (-2 : Int32)) - ((ze.toUInt32 >>> ((1 : Int32) &&& 31).toUInt32).toInt32)), rfl, N0, rfl, (by have q := own_sh (x := ze) (sh := 1) (k := 1) bb30.1 rfl (by decide) (by decide); have r := bb30; have en : ((((((31 : Int32) + (-16 : Int32)) + (-8 : Int32)) + (-4 : Int32)) + (-2 : Int32))).toInt = 1 := (by decide); have e := own_subs (n := (((((31 : Int32) + (-16 : Int32)) + (-8 : Int32)) + (-4 : Int32)) + (-2 : Int32))) (y := ((ze.toUInt32 >>> ((1 : Int32) &&& 31).toUInt32).toInt32)) en (by omega) (by omega); omega)⟩
  · refine own_go (fun t k => XS.ifNo X0.here hx rfl (hb hby d7_1) rfl ((if0 _ _).trans (flt hc1).2.2.1) k) ?_
    show own_WP _ _ _ _ s₁ (mkF m 4 #[.val (.int zi), .unset] [])
    refine own_go (fun t k => XS.iloadN X0.here hx rfl (hb hby d7_4) rfl  k) ?_
    show own_WP _ _ _ _ s₁ (mkF m 5 #[.val (.int zi), .unset] [(.int zi)])
    by_cases hc5 : zi = (0 : Int32)
    · refine own_go (fun t k => XS.ifNo X0.here hx rfl (hb hby d7_5) rfl ((if0 _ _).trans (teq hc5).2) k) ?_
      show own_WP _ _ _ _ s₁ (mkF m 8 #[.val (.int zi), .unset] [])
      refine own_go (fun t k => XS.bipush X0.here hx rfl (hb hby d7_8) k) ?_
      show own_WP _ _ _ _ s₁ (mkF m 10 #[.val (.int zi), .unset] [(.int (32 : Int32))])
      refine own_go (fun t k => XS.goto X0.here hx rfl (pc0 := 10) (pc' := 14) rfl (hb hby d7_10) (by decide) (by decide) k) ?_
      show own_WP _ _ _ _ s₁ (mkF m 14 #[.val (.int zi), .unset] [(.int (32 : Int32))])
      refine own_retI X0 hx Bd.notSynchronized Bd.returns (hb hby d7_14) (by decide) (by decide) ?_
      rw [e0]
      exact ⟨(32 : Int32), rfl, N0, rfl, (by refine ⟨by decide, by decide, ?_⟩; exact Or.inl hc5)⟩
    · refine own_go (fun t k => XS.ifYes X0.here hx rfl (pc0 := 5) (pc' := 13) rfl (hb hby d7_5) rfl ((if0 _ _).trans (feq hc5).2) (by decide) (by decide) k) ?_
      show own_WP _ _ _ _ s₁ (mkF m 13 #[.val (.int zi), .unset] [])
      refine own_go (fun t k => XS.iconst X0.here hx rfl (hb hby d7_13) k) ?_
      show own_WP _ _ _ _ s₁ (mkF m 14 #[.val (.int zi), .unset] [(.int (0 : Int32))])
      refine own_retI X0 hx Bd.notSynchronized Bd.returns (hb hby d7_14) (by decide) (by decide) ?_
      rw [e0]
      exact ⟨(0 : Int32), rfl, N0, rfl, (by refine ⟨by decide, by decide, ?_⟩; exact Or.inr (by decide))⟩
theorem own_pd81837 : parseMethodDescriptor "(I)I" = some ⟨[.int], some .int⟩ := by decide +kernel
theorem d6_0 : decode jdk_35_method_48_code 0 = .ok (.lload_n 0, 1) := by decide +kernel
theorem d6_1 : decode jdk_35_method_48_code 1 = .ok (.bipush 32, 2) := by decide +kernel
theorem d6_3 : decode jdk_35_method_48_code 3 = .ok (.lushr, 1) := by decide +kernel
theorem d6_4 : decode jdk_35_method_48_code 4 = .ok (.l2i, 1) := by decide +kernel
theorem d6_5 : decode jdk_35_method_48_code 5 = .ok (.istore_n 2, 1) := by decide +kernel
theorem d6_6 : decode jdk_35_method_48_code 6 = .ok (.iload_n 2, 1) := by decide +kernel
theorem d6_7 : decode jdk_35_method_48_code 7 = .ok (.ifCond .ne 14, 3) := by decide +kernel
theorem d6_10 : decode jdk_35_method_48_code 10 = .ok (.bipush 32, 2) := by decide +kernel
theorem d6_12 : decode jdk_35_method_48_code 12 = .ok (.lload_n 0, 1) := by decide +kernel
theorem d6_13 : decode jdk_35_method_48_code 13 = .ok (.l2i, 1) := by decide +kernel
theorem d6_14 : decode jdk_35_method_48_code 14 = .ok (.invokestatic 308, 3) := by decide +kernel
theorem d6_17 : decode jdk_35_method_48_code 17 = .ok (.iadd, 1) := by decide +kernel
theorem d6_18 : decode jdk_35_method_48_code 18 = .ok (.goto 7, 3) := by decide +kernel
theorem d6_21 : decode jdk_35_method_48_code 21 = .ok (.iload_n 2, 1) := by decide +kernel
theorem d6_22 : decode jdk_35_method_48_code 22 = .ok (.invokestatic 308, 3) := by decide +kernel
theorem d6_25 : decode jdk_35_method_48_code 25 = .ok (.ireturn, 1) := by decide +kernel
theorem own_pn42220 : plainName "java/lang/Long" = true := by first | (simp [plainName, overriddenIn]; done) | decide +kernel
theorem ef_6 (m : MethodId) (zq : Int64) : entryFrame m #[(.long zq)] 3 = mkF m 0 #[.val (.long zq), .second, .unset] [] := by first | (simp [entryFrame, mkF, argsToLocals, Value.category]; done) | rfl
def Q6 (Z : State) (zq : Int64) (h0 : Heap) (n0 : Nat) (v : Option Value) (h : Heap) (L : List Loc) : Prop := ∃ (rr : Int32), v = some (.int rr) ∧ Fr n0 L ∧ h = h0 ∧ (0 ≤ rr.toInt ∧ rr.toInt ≤ 63)
set_option maxRecDepth 65536 in
set_option maxHeartbeats 40000000 in
theorem rm6 (l : Launch) (Z : State) (a0 : Array Value) (hw : ∀ d ∈ tables_1, d.before a0 Z = true) (ws : List Jvm.Cond) (zq : Int64) (h0 : Heap) (n0 : Nat) (Z0 : n0 ≤ h0.size) (hz : ¬ zq = 0) :
    MetFree l (⟨"java/lang/Long", "numberOfLeadingZeros", "(J)I"⟩ : MethodName) (head1 (Jvm.Cond.code (⟨"java/lang/Long", "numberOfLeadingZeros", "(J)I"⟩ : MethodName) jdk_35_method_48_code 3 (some .int) :: ws) ({ frames := 1, cells := 0, slots := 0, locals := 14 } : Room)) (fun a U => a = #[(.long zq)] ∧ Z.Warmed39 U.vm ∧ U.heap = h0) (fun _ _ _ _ _ => True) (fun _ U o U' => ∃ v L, o = .returned v ∧ Q6 Z zq h0 n0 v U'.heap L ∧ FrameEnd U o U' L ({ frames := 1, cells := 0, slots := 0, locals := 14 } : Room).cells ({ frames := 1, cells := 0, slots := 0, locals := 14 } : Room).slots) := by
  refine MetFree.of_bodySF (plainFor_of_name own_pn42220) hisR ?_
  intro p e s m args below meth c s₁ Bd hml0 hP hK
  obtain ⟨rfl, hZ, hh⟩ := hP
  have hx := Bd.exec
  have hby := Bd.bytes
  have hml : c.maxLocals = 3 := hml0
  have hown : s.vm.findClass "java/lang/Long" = some m.cls := findClass_of_methodNamed Bd.named
  have hnm := (name_of_methodNamed Bd.named Bd.method).1
  have X0 : Stand p l e ({ frames := 1, cells := 0, slots := 0, locals := 14 } : Room) s m #[(.long zq)] below meth c s₁ [] 0 0 := Stand.of_body Bd
  have e0 : s₁.heap = h0 := by rw [← hh, Bd.state]; rfl
  have N0 := Fr.nil n0
  have K0 := Keep.refl h0 ([] : List Addr)
  show own_WP p e below (own_E s (Q6 Z zq h0 n0) 0 0) s₁ (entryFrame m #[(.long zq)] 3)
  rw [ef_6 m zq]
  show own_WP _ _ _ _ s₁ (mkF m 0 #[.val (.long zq), .second, .unset] [])
  refine own_go (fun t k => XS.lloadN X0.here hx rfl (hb hby d6_0) rfl  k) ?_
  show own_WP _ _ _ _ s₁ (mkF m 1 #[.val (.long zq), .second, .unset] [(.long zq)])
  refine own_go (fun t k => XS.bipush X0.here hx rfl (hb hby d6_1) k) ?_
  show own_WP _ _ _ _ s₁ (mkF m 3 #[.val (.long zq), .second, .unset] [(.int (32 : Int32)), (.long zq)])
  refine own_go (fun t k => XS.lushr X0.here hx rfl (hb hby d6_3) rfl k) ?_
  show own_WP _ _ _ _ s₁ (mkF m 4 #[.val (.long zq), .second, .unset] [(.long ((zq.toUInt64 >>> ((32 : Int32) &&& 0x3f).toInt64.toUInt64).toInt64))])
  refine own_go (fun t k => XS.l2i X0.here hx rfl (hb hby d6_4) rfl k) ?_
  show own_WP _ _ _ _ s₁ (mkF m 5 #[.val (.long zq), .second, .unset] [(.int (((zq.toUInt64 >>> ((32 : Int32) &&& 0x3f).toInt64.toUInt64).toInt64).toInt32))])
  generalize d_zx : (((zq.toUInt64 >>> ((32 : Int32) &&& 0x3f).toInt64.toUInt64).toInt64).toInt32) = zx
  refine own_go (fun t k => XS.istoreN X0.here hx rfl (hb hby d6_5) rfl (l' := #[.val (.long zq), .second, .val (.int zx)]) rfl k) ?_
  show own_WP _ _ _ _ s₁ (mkF m 6 #[.val (.long zq), .second, .val (.int zx)] [])
  refine own_go (fun t k => XS.iloadN X0.here hx rfl (hb hby d6_6) rfl  k) ?_
  show own_WP _ _ _ _ s₁ (mkF m 7 #[.val (.long zq), .second, .val (.int zx)] [(.int zx)])
  by_cases hc7 : zx = (0 : Int32)
  · refine own_go (fun t k => XS.ifNo X0.here hx rfl (hb hby d6_7) rfl ((if0 _ _).trans (teq hc7).2) k) ?_
    show own_WP _ _ _ _ s₁ (mkF m 10 #[.val (.long zq), .second, .val (.int zx)] [])
    refine own_go (fun t k => XS.bipush X0.here hx rfl (hb hby d6_10) k) ?_
    show own_WP _ _ _ _ s₁ (mkF m 12 #[.val (.long zq), .second, .val (.int zx)] [(.int (32 : Int32))])
    refine own_go (fun t k => XS.lloadN X0.here hx rfl (hb hby d6_12) rfl  k) ?_
    show own_WP _ _ _ _ s₁ (mkF m 13 #[.val (.long zq), .second, .val (.int zx)] [(.long zq), (.int (32 : Int32))])
    refine own_go (fun t k => XS.l2i X0.here hx rfl (hb hby d6_13) rfl k) ?_
    show own_WP _ _ _ _ s₁ (mkF m 14 #[.val (.long zq), .second, .val (.int zx)] [(.int (zq.toInt32)), (.int (32 : Int32))])
    obtain ⟨_, _, ⟨T1, L1, k1, n1⟩, -, X1, ⟨Lc1, hQ1, l1, y1, z1⟩, st1⟩ := Jvm.LawKit.callS X0 hx (y := (⟨"java/lang/Integer", "numberOfLeadingZeros", "(I)I"⟩ : MethodName)) hown (mvT hZ (hw _ (List.mem_of_getElem? (i := 34) rfl))) (mvT hZ (hw _ (List.mem_of_getElem? (i := 35) rfl))) (mvT hZ (hw _ (List.mem_of_getElem? (i := 36) rfl))) (mvT hZ (hw _ (List.mem_of_getElem? (i := 37) rfl))) (by decide) (backOf (W := 1) (rm7 l Z a0 hw [] (zq.toInt32)  h0 n0 (own_le Z0 K0) ) hZ (hw _ (List.mem_of_getElem? (i := 37) rfl)) (hw _ (List.mem_of_getElem? (i := 36) rfl)) (by decide) (by decide)) (g := (mkF m 14 #[.val (.long zq), .second, .val (.int zx)] [(.int (zq.toInt32)), (.int (32 : Int32))])) rfl (by rw [hml]; rfl) (argsL := [(.int (zq.toInt32))]) (rest := [(.int (32 : Int32))]) (lenOf own_pd81837 rfl) rfl (by show 2 * 0 + _ ≤ _; exact Nat.le_of_eq rfl) (hb hby d6_14) (fun _ _ => ⟨rfl, e0, (by decide : 0 + 0 ≤ _), (by decide : 0 + 0 ≤ _)⟩)
    dsimp only [Pt.U, Pt.locs, Pt.cells, Pt.slots] at X1 l1 y1 z1 st1 hQ1
    subst l1 y1 z1
    obtain ⟨rr2, rfl, N1q, eq1, hr_1⟩ := hQ1
    have N1 := Fr.app N0 N1q
    refine own_go st1 ?_
    show own_WP _ _ _ _ T1 (mkF m 17 #[.val (.long zq), .second, .val (.int zx)] [(.int rr2), (.int (32 : Int32))])
    refine own_go (fun t k => XS.iadd X1.here hx rfl (hb hby d6_17) rfl k) ?_
    show own_WP _ _ _ _ T1 (mkF m 18 #[.val (.long zq), .second, .val (.int zx)] [(.int ((32 : Int32) + rr2))])
    refine own_go (fun t k => XS.goto X1.here hx rfl (pc0 := 18) (pc' := 25) rfl (hb hby d6_18) (by decide) (by decide) k) ?_
    show own_WP _ _ _ _ T1 (mkF m 25 #[.val (.long zq), .second, .val (.int zx)] [(.int ((32 : Int32) + rr2))])
    refine own_retI X1 hx Bd.notSynchronized Bd.returns (hb hby d6_25) (by decide) (by decide) ?_
    rw [eq1]
    exact ⟨((32 : Int32) + rr2), rfl, N1, rfl, (by exact own_32 hr_1 (own_nz zq hz (by rw [d_zx]; exact hc7)))⟩
  · refine own_go (fun t k => XS.ifYes X0.here hx rfl (pc0 := 7) (pc' := 21) rfl (hb hby d6_7) rfl ((if0 _ _).trans (feq hc7).2) (by decide) (by decide) k) ?_
    show own_WP _ _ _ _ s₁ (mkF m 21 #[.val (.long zq), .second, .val (.int zx)] [])
    refine own_go (fun t k => XS.iloadN X0.here hx rfl (hb hby d6_21) rfl  k) ?_
    show own_WP _ _ _ _ s₁ (mkF m 22 #[.val (.long zq), .second, .val (.int zx)] [(.int zx)])
    obtain ⟨_, _, ⟨T3, L3, k3, n3⟩, -, X3, ⟨Lc3, hQ3, l3, y3, z3⟩, st3⟩ := Jvm.LawKit.callS X0 hx (y := (⟨"java/lang/Integer", "numberOfLeadingZeros", "(I)I"⟩ : MethodName)) hown (mvT hZ (hw _ (List.mem_of_getElem? (i := 34) rfl))) (mvT hZ (hw _ (List.mem_of_getElem? (i := 35) rfl))) (mvT hZ (hw _ (List.mem_of_getElem? (i := 36) rfl))) (mvT hZ (hw _ (List.mem_of_getElem? (i := 37) rfl))) (by decide) (backOf (W := 0) (rm7 l Z a0 hw [] zx  h0 n0 (own_le Z0 K0) ) hZ (hw _ (List.mem_of_getElem? (i := 37) rfl)) (hw _ (List.mem_of_getElem? (i := 36) rfl)) (by decide) (by decide)) (g := (mkF m 22 #[.val (.long zq), .second, .val (.int zx)] [(.int zx)])) rfl (by rw [hml]; rfl) (argsL := [(.int zx)]) (rest := []) (lenOf own_pd81837 rfl) rfl (by show 2 * 0 + _ ≤ _; exact Nat.le_of_eq rfl) (hb hby d6_22) (fun _ _ => ⟨rfl, e0, (by decide : 0 + 0 ≤ _), (by decide : 0 + 0 ≤ _)⟩)
    dsimp only [Pt.U, Pt.locs, Pt.cells, Pt.slots] at X3 l3 y3 z3 st3 hQ3
    subst l3 y3 z3
    obtain ⟨rr4, rfl, N3q, eq3, hr_3⟩ := hQ3
    have N3 := Fr.app N0 N3q
    refine own_go st3 ?_
    show own_WP _ _ _ _ T3 (mkF m 25 #[.val (.long zq), .second, .val (.int zx)] [(.int rr4)])
    refine own_retI X3 hx Bd.notSynchronized Bd.returns (hb hby d6_25) (by decide) (by decide) ?_
    rw [eq3]
    exact ⟨rr4, rfl, N3, rfl, (by exact own_00 hr_3 hc7)⟩
theorem d5_0 : decode prog_58_method_7_code 0 = .ok (.lload_n 1, 1) := by decide +kernel
theorem d5_1 : decode prog_58_method_7_code 1 = .ok (.ldc2_w 55, 3) := by decide +kernel
theorem d5_4 : decode prog_58_method_7_code 4 = .ok (.lcmp, 1) := by decide +kernel
theorem d5_5 : decode prog_58_method_7_code 5 = .ok (.ifCond .ge 18, 3) := by decide +kernel
theorem d5_8 : decode prog_58_method_7_code 8 = .ok (.iconst 2, 1) := by decide +kernel
theorem d5_9 : decode prog_58_method_7_code 9 = .ok (.newarray .byte, 2) := by decide +kernel
theorem d5_11 : decode prog_58_method_7_code 11 = .ok (.dup, 1) := by decide +kernel
theorem d5_12 : decode prog_58_method_7_code 12 = .ok (.iconst 0, 1) := by decide +kernel
theorem d5_13 : decode prog_58_method_7_code 13 = .ok (.iload_n 0, 1) := by decide +kernel
theorem d5_14 : decode prog_58_method_7_code 14 = .ok (.i2b, 1) := by decide +kernel
theorem d5_15 : decode prog_58_method_7_code 15 = .ok (.bastore, 1) := by decide +kernel
theorem d5_16 : decode prog_58_method_7_code 16 = .ok (.dup, 1) := by decide +kernel
theorem d5_17 : decode prog_58_method_7_code 17 = .ok (.iconst 1, 1) := by decide +kernel
theorem d5_18 : decode prog_58_method_7_code 18 = .ok (.lload_n 1, 1) := by decide +kernel
theorem d5_19 : decode prog_58_method_7_code 19 = .ok (.l2i, 1) := by decide +kernel
theorem d5_20 : decode prog_58_method_7_code 20 = .ok (.i2b, 1) := by decide +kernel
theorem d5_21 : decode prog_58_method_7_code 21 = .ok (.bastore, 1) := by decide +kernel
theorem d5_22 : decode prog_58_method_7_code 22 = .ok (.areturn, 1) := by decide +kernel
theorem own_pn79956 : plainName "com/example/kuvert/kuvert/cms/Der" = true := by first | (simp [plainName, overriddenIn]; done) | decide +kernel
theorem ef_5a (m : MethodId) (zt : Int32) (zl : Int64) : entryFrame m #[(.int zt), (.long zl)] 6 = mkF m 0 #[.val (.int zt), .val (.long zl), .second, .unset, .unset, .unset] [] := by first | (simp [entryFrame, mkF, argsToLocals, Value.category]; done) | rfl
def Q5a (Z : State) (zt : Int32) (zl : Int64) (h0 : Heap) (n0 : Nat) (v : Option Value) (h : Heap) (L : List Loc) : Prop := ∃ (rb : Addr), ∃ (rk : ClassId), v = some (.ref rb) ∧ Fr n0 L ∧ Keep h0 h [] ∧ n0 ≤ rb ∧ h0.size ≤ rb ∧ Arv Z h rb rk .byte (2 : Int32) [(.int (nar .byte (zt.toInt8.toInt32))), (.int (nar .byte ((zl.toInt32).toInt8.toInt32)))] (.int (0 : Int32))
set_option maxRecDepth 65536 in
set_option maxHeartbeats 40000000 in
theorem rm5a (l : Launch) (Z : State) (a0 : Array Value) (hw : ∀ d ∈ tables_1, d.before a0 Z = true) (ws : List Jvm.Cond) (zt : Int32) (zl : Int64) (h0 : Heap) (n0 : Nat) (Z0 : n0 ≤ h0.size) (hs : zl < 128) :
    MetFree l (⟨"com/example/kuvert/kuvert/cms/Der", "header", "(IJ)[B"⟩ : MethodName) (head1 (Jvm.Cond.code (⟨"com/example/kuvert/kuvert/cms/Der", "header", "(IJ)[B"⟩ : MethodName) prog_58_method_7_code 6 (some (.array .byte)) :: ws) ({ frames := 0, cells := 1, slots := 2, locals := 0 } : Room)) (fun a U => a = #[(.int zt), (.long zl)] ∧ Z.Warmed39 U.vm ∧ U.heap = h0) (fun _ _ _ _ _ => True) (fun _ U o U' => ∃ v L, o = .returned v ∧ Q5a Z zt zl h0 n0 v U'.heap L ∧ FrameEnd U o U' L ({ frames := 0, cells := 1, slots := 2, locals := 0 } : Room).cells ({ frames := 0, cells := 1, slots := 2, locals := 0 } : Room).slots) := by
  refine MetFree.of_bodySF (plainFor_of_name own_pn79956) hisR ?_
  intro p e s m args below meth c s₁ Bd hml0 hP hK
  obtain ⟨rfl, hZ, hh⟩ := hP
  have hx := Bd.exec
  have hby := Bd.bytes
  have hml : c.maxLocals = 6 := hml0
  have hown : s.vm.findClass "com/example/kuvert/kuvert/cms/Der" = some m.cls := findClass_of_methodNamed Bd.named
  have hnm := (name_of_methodNamed Bd.named Bd.method).1
  have X0 : Stand p l e ({ frames := 0, cells := 1, slots := 2, locals := 0 } : Room) s m #[(.int zt), (.long zl)] below meth c s₁ [] 0 0 := Stand.of_body Bd
  have e0 : s₁.heap = h0 := by rw [← hh, Bd.state]; rfl
  have N0 := Fr.nil n0
  have K0 := Keep.refl h0 ([] : List Addr)
  show own_WP p e below (own_E s (Q5a Z zt zl h0 n0) 1 2) s₁ (entryFrame m #[(.int zt), (.long zl)] 6)
  rw [ef_5a m zt zl]
  show own_WP _ _ _ _ s₁ (mkF m 0 #[.val (.int zt), .val (.long zl), .second, .unset, .unset, .unset] [])
  refine own_go (fun t k => XS.lloadN X0.here hx rfl (hb hby d5_0) rfl  k) ?_
  show own_WP _ _ _ _ s₁ (mkF m 1 #[.val (.int zt), .val (.long zl), .second, .unset, .unset, .unset] [(.long zl)])
  refine own_go (fun t k => X0.ldc2Long hx hown (mvT hZ (hw _ (List.mem_of_getElem? (i := 28) rfl))) (g := (mkF m 1 #[.val (.int zt), .val (.long zl), .second, .unset, .unset, .unset] [(.long zl)])) rfl (hb hby d5_1) t k) ?_
  show own_WP _ _ _ _ s₁ (mkF m 4 #[.val (.int zt), .val (.long zl), .second, .unset, .unset, .unset] [(.long (128 : Int64)), (.long zl)])
  refine own_go (fun t k => XS.lcmp X0.here hx rfl (hb hby d5_4) rfl k) ?_
  show own_WP _ _ _ _ s₁ (mkF m 5 #[.val (.int zt), .val (.long zl), .second, .unset, .unset, .unset] [(.int (lcmpW zl (128 : Int64)))])
  have hc5 : zl < (128 : Int64) := by
    exact hs
  refine own_go (fun t k => XS.ifNo X0.here hx rfl (hb hby d5_5) rfl ((if0 _ _).trans (tlt ((lw_lt zl (128 : Int64)).mpr hc5)).2.1) k) ?_
  show own_WP _ _ _ _ s₁ (mkF m 8 #[.val (.int zt), .val (.long zl), .second, .unset, .unset, .unset] [])
  refine own_go (fun t k => XS.iconst X0.here hx rfl (hb hby d5_8) k) ?_
  show own_WP _ _ _ _ s₁ (mkF m 9 #[.val (.int zt), .val (.long zl), .second, .unset, .unset, .unset] [(.int (2 : Int32))])
  obtain ⟨T1, h1, k1, X1, e1, E1, A1, G1, st1⟩ := newPE X0 hx hZ (hw _ (List.mem_of_getElem? (i := 29) rfl)) e0 (g := (mkF m 9 #[.val (.int zt), .val (.long zl), .second, .unset, .unset, .unset] [(.int (2 : Int32))])) rfl (hb hby d5_9) rfl (by decide) (cap := 2) (by decide) (by decide) (by decide) (by decide) (ad := "[B") rfl
  obtain ⟨zr, q1⟩ : ∃ z, z = h0.size := ⟨_, rfl⟩
  rw [← q1] at A1 G1 st1
  refine own_go st1 ?_
  have g_zr : n0 ≤ zr := Nat.le_trans (own_le Z0 K0) (Nat.le_of_eq q1.symm)
  have sz_zr : h0.size ≤ zr := Nat.le_trans K0.1 (Nat.le_of_eq q1.symm)
  have K2 : Keep h0 h1 [] := K0.ext E1
  have f3 : Arv Z h1 zr k1 .byte (2 : Int32) [(.int (0 : Int32)), (.int (0 : Int32))] (.int (0 : Int32)) := (Arv.new A1 (by decide)).pad (pad_rep [] (.int (0 : Int32)) 2)
  show own_WP _ _ _ _ T1 (mkF m 11 #[.val (.int zt), .val (.long zl), .second, .unset, .unset, .unset] [(.ref zr)])
  refine own_go (fun t k => XS.dup X1.here hx rfl (hb hby d5_11) rfl rfl k) ?_
  show own_WP _ _ _ _ T1 (mkF m 12 #[.val (.int zt), .val (.long zl), .second, .unset, .unset, .unset] [(.ref zr), (.ref zr)])
  refine own_go (fun t k => XS.iconst X1.here hx rfl (hb hby d5_12) k) ?_
  show own_WP _ _ _ _ T1 (mkF m 13 #[.val (.int zt), .val (.long zl), .second, .unset, .unset, .unset] [(.int (0 : Int32)), (.ref zr), (.ref zr)])
  refine own_go (fun t k => XS.iloadN X1.here hx rfl (hb hby d5_13) rfl  k) ?_
  show own_WP _ _ _ _ T1 (mkF m 14 #[.val (.int zt), .val (.long zl), .second, .unset, .unset, .unset] [(.int zt), (.int (0 : Int32)), (.ref zr), (.ref zr)])
  refine own_go (fun t k => XS.i2b X1.here hx rfl (hb hby d5_14) rfl k) ?_
  show own_WP _ _ _ _ T1 (mkF m 15 #[.val (.int zt), .val (.long zl), .second, .unset, .unset, .unset] [(.int (zt.toInt8.toInt32)), (.int (0 : Int32)), (.ref zr), (.ref zr)])
  refine own_stB X1 hx hZ e1 f3 (j := (0 : Int32)) ⟨by decide, by decide⟩ (i := 0) rfl (Nat.le_of_ble_eq_true rfl) (hb hby d5_15) ?_
  intro T4 h4 X4 e4 W4 V4
  have f5 : Arv Z h4 zr k1 .byte (2 : Int32) [(.int (nar .byte (zt.toInt8.toInt32))), (.int (0 : Int32))] (.int (0 : Int32)) := V4
  have K7 : Keep h0 h4 [] := K2.wr W4 (Or.inr sz_zr)
  have N8 := Fr.snoc X4 N0 g_zr
  show own_WP _ _ _ _ T4 (mkF m 16 #[.val (.int zt), .val (.long zl), .second, .unset, .unset, .unset] [(.ref zr)])
  refine own_go (fun t k => XS.dup X4.here hx rfl (hb hby d5_16) rfl rfl k) ?_
  show own_WP _ _ _ _ T4 (mkF m 17 #[.val (.int zt), .val (.long zl), .second, .unset, .unset, .unset] [(.ref zr), (.ref zr)])
  refine own_go (fun t k => XS.iconst X4.here hx rfl (hb hby d5_17) k) ?_
  show own_WP _ _ _ _ T4 (mkF m 18 #[.val (.int zt), .val (.long zl), .second, .unset, .unset, .unset] [(.int (1 : Int32)), (.ref zr), (.ref zr)])
  refine own_go (fun t k => XS.lloadN X4.here hx rfl (hb hby d5_18) rfl  k) ?_
  show own_WP _ _ _ _ T4 (mkF m 19 #[.val (.int zt), .val (.long zl), .second, .unset, .unset, .unset] [(.long zl), (.int (1 : Int32)), (.ref zr), (.ref zr)])
  refine own_go (fun t k => XS.l2i X4.here hx rfl (hb hby d5_19) rfl k) ?_
  show own_WP _ _ _ _ T4 (mkF m 20 #[.val (.int zt), .val (.long zl), .second, .unset, .unset, .unset] [(.int (zl.toInt32)), (.int (1 : Int32)), (.ref zr), (.ref zr)])
  refine own_go (fun t k => XS.i2b X4.here hx rfl (hb hby d5_20) rfl k) ?_
  show own_WP _ _ _ _ T4 (mkF m 21 #[.val (.int zt), .val (.long zl), .second, .unset, .unset, .unset] [(.int ((zl.toInt32).toInt8.toInt32)), (.int (1 : Int32)), (.ref zr), (.ref zr)])
  refine own_stB X4 hx hZ e4 f5 (j := (1 : Int32)) ⟨by decide, by decide⟩ (i := 1) rfl (Nat.le_of_ble_eq_true rfl) (hb hby d5_21) ?_
  intro T9 h9 X9 e9 W9 V9
  have f10 : Arv Z h9 zr k1 .byte (2 : Int32) [(.int (nar .byte (zt.toInt8.toInt32))), (.int (nar .byte ((zl.toInt32).toInt8.toInt32)))] (.int (0 : Int32)) := V9
  have K12 : Keep h0 h9 [] := K7.wr W9 (Or.inr sz_zr)
  have N13 := Fr.snoc X9 N8 g_zr
  show own_WP _ _ _ _ T9 (mkF m 22 #[.val (.int zt), .val (.long zl), .second, .unset, .unset, .unset] [(.ref zr)])
  refine own_retA X9 hx Bd.notSynchronized rfl rfl Bd.returns (hb hby d5_22) (by decide) (by decide) ?_
  rw [e9]
  exact ⟨zr, k1, rfl, N13, K12, g_zr, sz_zr, f10⟩
theorem own_pd98998 : parseMethodDescriptor "(J)I" = some ⟨[.long], some .int⟩ := by decide +kernel
theorem d5_23 : decode prog_58_method_7_code 23 = .ok (.bipush 64, 2) := by decide +kernel
theorem d5_25 : decode prog_58_method_7_code 25 = .ok (.lload_n 1, 1) := by decide +kernel
theorem d5_26 : decode prog_58_method_7_code 26 = .ok (.invokestatic 59, 3) := by decide +kernel
theorem d5_29 : decode prog_58_method_7_code 29 = .ok (.isub, 1) := by decide +kernel
theorem d5_30 : decode prog_58_method_7_code 30 = .ok (.bipush 7, 2) := by decide +kernel
theorem d5_32 : decode prog_58_method_7_code 32 = .ok (.iadd, 1) := by decide +kernel
theorem d5_33 : decode prog_58_method_7_code 33 = .ok (.bipush 8, 2) := by decide +kernel
theorem d5_35 : decode prog_58_method_7_code 35 = .ok (.idiv, 1) := by decide +kernel
theorem d5_36 : decode prog_58_method_7_code 36 = .ok (.istore_n 3, 1) := by decide +kernel
theorem d5_37 : decode prog_58_method_7_code 37 = .ok (.iconst 2, 1) := by decide +kernel
theorem d5_38 : decode prog_58_method_7_code 38 = .ok (.iload_n 3, 1) := by decide +kernel
theorem d5_39 : decode prog_58_method_7_code 39 = .ok (.iadd, 1) := by decide +kernel
theorem d5_40 : decode prog_58_method_7_code 40 = .ok (.newarray .byte, 2) := by decide +kernel
theorem d5_42 : decode prog_58_method_7_code 42 = .ok (.astore 4, 2) := by decide +kernel
theorem d5_44 : decode prog_58_method_7_code 44 = .ok (.aload 4, 2) := by decide +kernel
theorem d5_46 : decode prog_58_method_7_code 46 = .ok (.iconst 0, 1) := by decide +kernel
theorem d5_47 : decode prog_58_method_7_code 47 = .ok (.iload_n 0, 1) := by decide +kernel
theorem d5_48 : decode prog_58_method_7_code 48 = .ok (.i2b, 1) := by decide +kernel
theorem d5_49 : decode prog_58_method_7_code 49 = .ok (.bastore, 1) := by decide +kernel
theorem d5_50 : decode prog_58_method_7_code 50 = .ok (.aload 4, 2) := by decide +kernel
theorem d5_52 : decode prog_58_method_7_code 52 = .ok (.iconst 1, 1) := by decide +kernel
theorem d5_53 : decode prog_58_method_7_code 53 = .ok (.sipush 128, 3) := by decide +kernel
theorem d5_56 : decode prog_58_method_7_code 56 = .ok (.iload_n 3, 1) := by decide +kernel
theorem d5_57 : decode prog_58_method_7_code 57 = .ok (.ior, 1) := by decide +kernel
theorem d5_58 : decode prog_58_method_7_code 58 = .ok (.i2b, 1) := by decide +kernel
theorem d5_59 : decode prog_58_method_7_code 59 = .ok (.bastore, 1) := by decide +kernel
theorem d5_60 : decode prog_58_method_7_code 60 = .ok (.iconst 0, 1) := by decide +kernel
theorem d5_61 : decode prog_58_method_7_code 61 = .ok (.istore 5, 2) := by decide +kernel
theorem d5_63 : decode prog_58_method_7_code 63 = .ok (.iload 5, 2) := by decide +kernel
theorem d5_65 : decode prog_58_method_7_code 65 = .ok (.iload_n 3, 1) := by decide +kernel
theorem d5_66 : decode prog_58_method_7_code 66 = .ok (.if_icmp .ge 29, 3) := by decide +kernel
theorem d5_69 : decode prog_58_method_7_code 69 = .ok (.aload 4, 2) := by decide +kernel
theorem d5_71 : decode prog_58_method_7_code 71 = .ok (.iconst 2, 1) := by decide +kernel
theorem d5_72 : decode prog_58_method_7_code 72 = .ok (.iload 5, 2) := by decide +kernel
theorem d5_74 : decode prog_58_method_7_code 74 = .ok (.iadd, 1) := by decide +kernel
theorem d5_75 : decode prog_58_method_7_code 75 = .ok (.lload_n 1, 1) := by decide +kernel
theorem d5_76 : decode prog_58_method_7_code 76 = .ok (.bipush 8, 2) := by decide +kernel
theorem d5_78 : decode prog_58_method_7_code 78 = .ok (.iload_n 3, 1) := by decide +kernel
theorem d5_79 : decode prog_58_method_7_code 79 = .ok (.iconst 1, 1) := by decide +kernel
theorem d5_80 : decode prog_58_method_7_code 80 = .ok (.isub, 1) := by decide +kernel
theorem d5_81 : decode prog_58_method_7_code 81 = .ok (.iload 5, 2) := by decide +kernel
theorem d5_83 : decode prog_58_method_7_code 83 = .ok (.isub, 1) := by decide +kernel
theorem d5_84 : decode prog_58_method_7_code 84 = .ok (.imul, 1) := by decide +kernel
theorem d5_85 : decode prog_58_method_7_code 85 = .ok (.lushr, 1) := by decide +kernel
theorem d5_86 : decode prog_58_method_7_code 86 = .ok (.l2i, 1) := by decide +kernel
theorem d5_87 : decode prog_58_method_7_code 87 = .ok (.i2b, 1) := by decide +kernel
theorem d5_88 : decode prog_58_method_7_code 88 = .ok (.bastore, 1) := by decide +kernel
theorem d5_89 : decode prog_58_method_7_code 89 = .ok (.iinc 5 1, 3) := by decide +kernel
theorem d5_92 : decode prog_58_method_7_code 92 = .ok (.goto (-29), 3) := by decide +kernel
theorem d5_95 : decode prog_58_method_7_code 95 = .ok (.aload 4, 2) := by decide +kernel
theorem d5_97 : decode prog_58_method_7_code 97 = .ok (.areturn, 1) := by decide +kernel
theorem ef_5b (m : MethodId) (zt : Int32) (zl : Int64) : entryFrame m #[(.int zt), (.long zl)] 6 = mkF m 0 #[.val (.int zt), .val (.long zl), .second, .unset, .unset, .unset] [] := by first | (simp [entryFrame, mkF, argsToLocals, Value.category]; done) | rfl
def Q5b (Z : State) (zt : Int32) (zl : Int64) (h0 : Heap) (n0 : Nat) (v : Option Value) (h : Heap) (L : List Loc) : Prop := ∃ (rb : Addr), ∃ (rk : ClassId), ∃ (rn : Int32), ∃ (rv : List Value), v = some (.ref rb) ∧ Fr n0 L ∧ Keep h0 h [] ∧ n0 ≤ rb ∧ h0.size ≤ rb ∧ Arv Z h rb rk .byte rn rv (.int (0 : Int32)) ∧ (¬ rn = 2)
set_option maxRecDepth 65536 in
set_option maxHeartbeats 40000000 in
theorem rm5b (l : Launch) (Z : State) (a0 : Array Value) (hw : ∀ d ∈ tables_1, d.before a0 Z = true) (ws : List Jvm.Cond) (zt : Int32) (zl : Int64) (h0 : Heap) (n0 : Nat) (Z0 : n0 ≤ h0.size) (hs : ¬ zl < 128) :
    MetFree l (⟨"com/example/kuvert/kuvert/cms/Der", "header", "(IJ)[B"⟩ : MethodName) (head1 (Jvm.Cond.code (⟨"com/example/kuvert/kuvert/cms/Der", "header", "(IJ)[B"⟩ : MethodName) prog_58_method_7_code 6 (some (.array .byte)) :: ws) ({ frames := 2, cells := 1, slots := 10, locals := 29 } : Room)) (fun a U => a = #[(.int zt), (.long zl)] ∧ Z.Warmed39 U.vm ∧ U.heap = h0) (fun _ _ _ _ _ => True) (fun _ U o U' => ∃ v L, o = .returned v ∧ Q5b Z zt zl h0 n0 v U'.heap L ∧ FrameEnd U o U' L ({ frames := 2, cells := 1, slots := 10, locals := 29 } : Room).cells ({ frames := 2, cells := 1, slots := 10, locals := 29 } : Room).slots) := by
  refine MetFree.of_bodySF (plainFor_of_name own_pn79956) hisR ?_
  intro p e s m args below meth c s₁ Bd hml0 hP hK
  obtain ⟨rfl, hZ, hh⟩ := hP
  have hx := Bd.exec
  have hby := Bd.bytes
  have hml : c.maxLocals = 6 := hml0
  have hown : s.vm.findClass "com/example/kuvert/kuvert/cms/Der" = some m.cls := findClass_of_methodNamed Bd.named
  have hnm := (name_of_methodNamed Bd.named Bd.method).1
  have X0 : Stand p l e ({ frames := 2, cells := 1, slots := 10, locals := 29 } : Room) s m #[(.int zt), (.long zl)] below meth c s₁ [] 0 0 := Stand.of_body Bd
  have e0 : s₁.heap = h0 := by rw [← hh, Bd.state]; rfl
  have N0 := Fr.nil n0
  have K0 := Keep.refl h0 ([] : List Addr)
  show own_WP p e below (own_E s (Q5b Z zt zl h0 n0) 1 10) s₁ (entryFrame m #[(.int zt), (.long zl)] 6)
  rw [ef_5b m zt zl]
  show own_WP _ _ _ _ s₁ (mkF m 0 #[.val (.int zt), .val (.long zl), .second, .unset, .unset, .unset] [])
  refine own_go (fun t k => XS.lloadN X0.here hx rfl (hb hby d5_0) rfl  k) ?_
  show own_WP _ _ _ _ s₁ (mkF m 1 #[.val (.int zt), .val (.long zl), .second, .unset, .unset, .unset] [(.long zl)])
  refine own_go (fun t k => X0.ldc2Long hx hown (mvT hZ (hw _ (List.mem_of_getElem? (i := 28) rfl))) (g := (mkF m 1 #[.val (.int zt), .val (.long zl), .second, .unset, .unset, .unset] [(.long zl)])) rfl (hb hby d5_1) t k) ?_
  show own_WP _ _ _ _ s₁ (mkF m 4 #[.val (.int zt), .val (.long zl), .second, .unset, .unset, .unset] [(.long (128 : Int64)), (.long zl)])
  refine own_go (fun t k => XS.lcmp X0.here hx rfl (hb hby d5_4) rfl k) ?_
  show own_WP _ _ _ _ s₁ (mkF m 5 #[.val (.int zt), .val (.long zl), .second, .unset, .unset, .unset] [(.int (lcmpW zl (128 : Int64)))])
  have hc5 : ¬ (zl < (128 : Int64)) := by
    exact hs
  refine own_go (fun t k => XS.ifYes X0.here hx rfl (pc0 := 5) (pc' := 23) rfl (hb hby d5_5) rfl ((if0 _ _).trans (flt (fun z => hc5 ((lw_lt zl (128 : Int64)).mp z))).2.1) (by decide) (by decide) k) ?_
  show own_WP _ _ _ _ s₁ (mkF m 23 #[.val (.int zt), .val (.long zl), .second, .unset, .unset, .unset] [])
  refine own_go (fun t k => XS.bipush X0.here hx rfl (hb hby d5_23) k) ?_
  show own_WP _ _ _ _ s₁ (mkF m 25 #[.val (.int zt), .val (.long zl), .second, .unset, .unset, .unset] [(.int (64 : Int32))])
  refine own_go (fun t k => XS.lloadN X0.here hx rfl (hb hby d5_25) rfl  k) ?_
  show own_WP _ _ _ _ s₁ (mkF m 26 #[.val (.int zt), .val (.long zl), .second, .unset, .unset, .unset] [(.long zl), (.int (64 : Int32))])
  obtain ⟨_, _, ⟨T1, L1, k1, n1⟩, -, X1, ⟨Lc1, hQ1, l1, y1, z1⟩, st1⟩ := Jvm.LawKit.callS X0 hx (y := (⟨"java/lang/Long", "numberOfLeadingZeros", "(J)I"⟩ : MethodName)) hown (mvT hZ (hw _ (List.mem_of_getElem? (i := 30) rfl))) (mvT hZ (hw _ (List.mem_of_getElem? (i := 31) rfl))) (mvT hZ (hw _ (List.mem_of_getElem? (i := 32) rfl))) (mvT hZ (hw _ (List.mem_of_getElem? (i := 33) rfl))) (by decide) (backOf (W := 1) (rm6 l Z a0 hw [] zl  h0 n0 (own_le Z0 K0) (show ¬ zl = 0 from own_big hs)) hZ (hw _ (List.mem_of_getElem? (i := 33) rfl)) (hw _ (List.mem_of_getElem? (i := 32) rfl)) (by decide) (by decide)) (g := (mkF m 26 #[.val (.int zt), .val (.long zl), .second, .unset, .unset, .unset] [(.long zl), (.int (64 : Int32))])) rfl (by rw [hml]; rfl) (argsL := [(.long zl)]) (rest := [(.int (64 : Int32))]) (lenOf own_pd98998 rfl) rfl (by show 2 * 0 + _ ≤ _; exact Nat.le_of_eq rfl) (hb hby d5_26) (fun _ _ => ⟨rfl, e0, (by decide : 0 + 0 ≤ _), (by decide : 0 + 0 ≤ _)⟩)
  dsimp only [Pt.U, Pt.locs, Pt.cells, Pt.slots] at X1 l1 y1 z1 st1 hQ1
  subst l1 y1 z1
  obtain ⟨zr0, rfl, N1q, eq1, hr_1⟩ := hQ1
  have N1 := Fr.app N0 N1q
  refine own_go st1 ?_
  show own_WP _ _ _ _ T1 (mkF m 29 #[.val (.int zt), .val (.long zl), .second, .unset, .unset, .unset] [(.int zr0), (.int (64 : Int32))])
  refine own_go (fun t k => XS.isub X1.here hx rfl (hb hby d5_29) rfl k) ?_
  show own_WP _ _ _ _ T1 (mkF m 30 #[.val (.int zt), .val (.long zl), .second, .unset, .unset, .unset] [(.int ((64 : Int32) - zr0))])
  refine own_go (fun t k => XS.bipush X1.here hx rfl (hb hby d5_30) k) ?_
  show own_WP _ _ _ _ T1 (mkF m 32 #[.val (.int zt), .val (.long zl), .second, .unset, .unset, .unset] [(.int (7 : Int32)), (.int ((64 : Int32) - zr0))])
  refine own_go (fun t k => XS.iadd X1.here hx rfl (hb hby d5_32) rfl k) ?_
  show own_WP _ _ _ _ T1 (mkF m 33 #[.val (.int zt), .val (.long zl), .second, .unset, .unset, .unset] [(.int (((64 : Int32) - zr0) + (7 : Int32)))])
  refine own_go (fun t k => XS.bipush X1.here hx rfl (hb hby d5_33) k) ?_
  show own_WP _ _ _ _ T1 (mkF m 35 #[.val (.int zt), .val (.long zl), .second, .unset, .unset, .unset] [(.int (8 : Int32)), (.int (((64 : Int32) - zr0) + (7 : Int32)))])
  have hnz35 : ¬ ((8 : Int32) = (0 : Int32)) := by decide
  refine own_go (fun t k => XS.idiv X1.here hx rfl (hb hby d5_35) rfl hnz35 k) ?_
  show own_WP _ _ _ _ T1 (mkF m 36 #[.val (.int zt), .val (.long zl), .second, .unset, .unset, .unset] [(.int ((((64 : Int32) - zr0) + (7 : Int32)) / (8 : Int32)))])
  generalize d_zn : ((((64 : Int32) - zr0) + (7 : Int32)) / (8 : Int32)) = zn
  refine own_go (fun t k => XS.istoreN X1.here hx rfl (hb hby d5_36) rfl (l' := #[.val (.int zt), .val (.long zl), .second, .val (.int zn), .unset, .unset]) rfl k) ?_
  have hn1 := own_nby hr_1.1 hr_1.2
  rw [d_zn] at hn1
  show own_WP _ _ _ _ T1 (mkF m 37 #[.val (.int zt), .val (.long zl), .second, .val (.int zn), .unset, .unset] [])
  refine own_go (fun t k => XS.iconst X1.here hx rfl (hb hby d5_37) k) ?_
  show own_WP _ _ _ _ T1 (mkF m 38 #[.val (.int zt), .val (.long zl), .second, .val (.int zn), .unset, .unset] [(.int (2 : Int32))])
  refine own_go (fun t k => XS.iloadN X1.here hx rfl (hb hby d5_38) rfl  k) ?_
  show own_WP _ _ _ _ T1 (mkF m 39 #[.val (.int zt), .val (.long zl), .second, .val (.int zn), .unset, .unset] [(.int zn), (.int (2 : Int32))])
  refine own_go (fun t k => XS.iadd X1.here hx rfl (hb hby d5_39) rfl k) ?_
  show own_WP _ _ _ _ T1 (mkF m 40 #[.val (.int zt), .val (.long zl), .second, .val (.int zn), .unset, .unset] [(.int ((2 : Int32) + zn))])
  obtain ⟨T2, h2, k2, X2, e2, E2, A2, G2, st2⟩ := newPE X1 hx hZ (hw _ (List.mem_of_getElem? (i := 29) rfl)) eq1 (g := (mkF m 40 #[.val (.int zt), .val (.long zl), .second, .val (.int zn), .unset, .unset] [(.int ((2 : Int32) + zn))])) rfl (hb hby d5_40) rfl (own_nn (by rw [own_two (by omega) hn1.2]; omega)) (cap := 10) (own_cap (by rw [own_two (by omega) hn1.2]; omega) (by rw [own_two (by omega) hn1.2]; omega)) (by decide) (by decide) (by decide) (ad := "[B") rfl
  obtain ⟨zr, q2⟩ : ∃ z, z = h0.size := ⟨_, rfl⟩
  rw [← q2] at A2 G2 st2
  refine own_go st2 ?_
  have g_zr : n0 ≤ zr := Nat.le_trans (own_le Z0 K0) (Nat.le_of_eq q2.symm)
  have sz_zr : h0.size ≤ zr := Nat.le_trans K0.1 (Nat.le_of_eq q2.symm)
  have K3 : Keep h0 h2 [] := K0.ext E2
  have f4 : Arv Z h2 zr k2 .byte ((2 : Int32) + zn) [(.int (0 : Int32)), (.int (0 : Int32)), (.int (0 : Int32)), (.int (0 : Int32)), (.int (0 : Int32)), (.int (0 : Int32)), (.int (0 : Int32)), (.int (0 : Int32)), (.int (0 : Int32)), (.int (0 : Int32))] (.int (0 : Int32)) := (Arv.new A2 (own_nn (by rw [own_two (by omega) hn1.2]; omega))).pad (pad_rep [] (.int (0 : Int32)) 10)
  show own_WP _ _ _ _ T2 (mkF m 42 #[.val (.int zt), .val (.long zl), .second, .val (.int zn), .unset, .unset] [(.ref zr)])
  refine own_go (fun t k => XS.astore X2.here hx rfl (hb hby d5_42) rfl rfl (l' := #[.val (.int zt), .val (.long zl), .second, .val (.int zn), .val (.ref zr), .unset]) rfl k) ?_
  show own_WP _ _ _ _ T2 (mkF m 44 #[.val (.int zt), .val (.long zl), .second, .val (.int zn), .val (.ref zr), .unset] [])
  refine own_go (fun t k => XS.aload X2.here hx rfl (hb hby d5_44) rfl rfl  k) ?_
  show own_WP _ _ _ _ T2 (mkF m 46 #[.val (.int zt), .val (.long zl), .second, .val (.int zn), .val (.ref zr), .unset] [(.ref zr)])
  refine own_go (fun t k => XS.iconst X2.here hx rfl (hb hby d5_46) k) ?_
  show own_WP _ _ _ _ T2 (mkF m 47 #[.val (.int zt), .val (.long zl), .second, .val (.int zn), .val (.ref zr), .unset] [(.int (0 : Int32)), (.ref zr)])
  refine own_go (fun t k => XS.iloadN X2.here hx rfl (hb hby d5_47) rfl  k) ?_
  show own_WP _ _ _ _ T2 (mkF m 48 #[.val (.int zt), .val (.long zl), .second, .val (.int zn), .val (.ref zr), .unset] [(.int zt), (.int (0 : Int32)), (.ref zr)])
  refine own_go (fun t k => XS.i2b X2.here hx rfl (hb hby d5_48) rfl k) ?_
  show own_WP _ _ _ _ T2 (mkF m 49 #[.val (.int zt), .val (.long zl), .second, .val (.int zn), .val (.ref zr), .unset] [(.int (zt.toInt8.toInt32)), (.int (0 : Int32)), (.ref zr)])
  refine own_stB X2 hx hZ e2 f4 (j := (0 : Int32)) ⟨by decide, own_lt2 hn1 (by decide)⟩ (i := 0) rfl (Nat.le_of_ble_eq_true rfl) (hb hby d5_49) ?_
  intro T5 h5 X5 e5 W5 V5
  have f6 : Arv Z h5 zr k2 .byte ((2 : Int32) + zn) [(.int (nar .byte (zt.toInt8.toInt32))), (.int (0 : Int32)), (.int (0 : Int32)), (.int (0 : Int32)), (.int (0 : Int32)), (.int (0 : Int32)), (.int (0 : Int32)), (.int (0 : Int32)), (.int (0 : Int32)), (.int (0 : Int32))] (.int (0 : Int32)) := V5
  have K8 : Keep h0 h5 [] := K3.wr W5 (Or.inr sz_zr)
  have N9 := Fr.snoc X5 N1 g_zr
  show own_WP _ _ _ _ T5 (mkF m 50 #[.val (.int zt), .val (.long zl), .second, .val (.int zn), .val (.ref zr), .unset] [])
  refine own_go (fun t k => XS.aload X5.here hx rfl (hb hby d5_50) rfl rfl  k) ?_
  show own_WP _ _ _ _ T5 (mkF m 52 #[.val (.int zt), .val (.long zl), .second, .val (.int zn), .val (.ref zr), .unset] [(.ref zr)])
  refine own_go (fun t k => XS.iconst X5.here hx rfl (hb hby d5_52) k) ?_
  show own_WP _ _ _ _ T5 (mkF m 53 #[.val (.int zt), .val (.long zl), .second, .val (.int zn), .val (.ref zr), .unset] [(.int (1 : Int32)), (.ref zr)])
  refine own_go (fun t k => XS.sipush X5.here hx rfl (hb hby d5_53) k) ?_
  show own_WP _ _ _ _ T5 (mkF m 56 #[.val (.int zt), .val (.long zl), .second, .val (.int zn), .val (.ref zr), .unset] [(.int (128 : Int32)), (.int (1 : Int32)), (.ref zr)])
  refine own_go (fun t k => XS.iloadN X5.here hx rfl (hb hby d5_56) rfl  k) ?_
  show own_WP _ _ _ _ T5 (mkF m 57 #[.val (.int zt), .val (.long zl), .second, .val (.int zn), .val (.ref zr), .unset] [(.int zn), (.int (128 : Int32)), (.int (1 : Int32)), (.ref zr)])
  refine own_go (fun t k => XS.ior X5.here hx rfl (hb hby d5_57) rfl k) ?_
  show own_WP _ _ _ _ T5 (mkF m 58 #[.val (.int zt), .val (.long zl), .second, .val (.int zn), .val (.ref zr), .unset] [(.int ((128 : Int32) ||| zn)), (.int (1 : Int32)), (.ref zr)])
  refine own_go (fun t k => XS.i2b X5.here hx rfl (hb hby d5_58) rfl k) ?_
  show own_WP _ _ _ _ T5 (mkF m 59 #[.val (.int zt), .val (.long zl), .second, .val (.int zn), .val (.ref zr), .unset] [(.int (((128 : Int32) ||| zn).toInt8.toInt32)), (.int (1 : Int32)), (.ref zr)])
  refine own_stB X5 hx hZ e5 f6 (j := (1 : Int32)) ⟨by decide, own_lt2 hn1 (by decide)⟩ (i := 1) rfl (Nat.le_of_ble_eq_true rfl) (hb hby d5_59) ?_
  intro T10 h10 X10 e10 W10 V10
  have f11 : Arv Z h10 zr k2 .byte ((2 : Int32) + zn) [(.int (nar .byte (zt.toInt8.toInt32))), (.int (nar .byte (((128 : Int32) ||| zn).toInt8.toInt32))), (.int (0 : Int32)), (.int (0 : Int32)), (.int (0 : Int32)), (.int (0 : Int32)), (.int (0 : Int32)), (.int (0 : Int32)), (.int (0 : Int32)), (.int (0 : Int32))] (.int (0 : Int32)) := V10
  have K13 : Keep h0 h10 [] := K8.wr W10 (Or.inr sz_zr)
  have N14 := Fr.snoc X10 N9 g_zr
  show own_WP _ _ _ _ T10 (mkF m 60 #[.val (.int zt), .val (.long zl), .second, .val (.int zn), .val (.ref zr), .unset] [])
  refine own_go (fun t k => XS.iconst X10.here hx rfl (hb hby d5_60) k) ?_
  show own_WP _ _ _ _ T10 (mkF m 61 #[.val (.int zt), .val (.long zl), .second, .val (.int zn), .val (.ref zr), .unset] [(.int (0 : Int32))])
  refine own_go (fun t k => XS.istore X10.here hx rfl (hb hby d5_61) rfl (l' := #[.val (.int zt), .val (.long zl), .second, .val (.int zn), .val (.ref zr), .val (.int (0 : Int32))]) rfl k) ?_
  have J63 : ∀ (zm : Nat) (zi : Int32) (zv : List Value) (T15 : State) (h15 : Heap) (L15 : List Loc), Stand p l e ({ frames := 2, cells := 1, slots := 10, locals := 29 } : Room) s m #[(.int zt), (.long zl)] below meth c T15 L15 1 10 → T15.heap = h15 → Fr n0 L15 → Keep h0 h15 [] → Arv Z h15 zr k2 .byte ((2 : Int32) + zn) zv (.int (0 : Int32)) → (zv.length = 10) → (0 ≤ zi.toInt) → (zi.toInt + zm = zn.toInt) → own_WP p e below (own_E s (Q5b Z zt zl h0 n0) 1 10) T15 (mkF m 63 #[.val (.int zt), .val (.long zl), .second, .val (.int zn), .val (.ref zr), .val (.int zi)] []) := by
    intro zm
    induction zm using Nat.strongRecOn with
    | _ zm ih =>
      intro zi zv T15 h15 L15 X15 e15 N15 K15j f16 hv hi0 hi1
      show own_WP _ _ _ _ T15 (mkF m 63 #[.val (.int zt), .val (.long zl), .second, .val (.int zn), .val (.ref zr), .val (.int zi)] [])
      refine own_go (fun t k => XS.iload X15.here hx rfl (hb hby d5_63) rfl  k) ?_
      show own_WP _ _ _ _ T15 (mkF m 65 #[.val (.int zt), .val (.long zl), .second, .val (.int zn), .val (.ref zr), .val (.int zi)] [(.int zi)])
      refine own_go (fun t k => XS.iloadN X15.here hx rfl (hb hby d5_65) rfl  k) ?_
      show own_WP _ _ _ _ T15 (mkF m 66 #[.val (.int zt), .val (.long zl), .second, .val (.int zn), .val (.ref zr), .val (.int zi)] [(.int zn), (.int zi)])
      by_cases hc66 : zi < zn
      · refine own_go (fun t k => XS.icmpNo X15.here hx rfl (hb hby d5_66) rfl (tlt hc66).2.1 k) ?_
        have hq66 := Int32.lt_iff_toInt_lt.mp hc66
        have ei : (zi + (1 : Int32)).toInt = zi.toInt + 1 := own_inc hi0 (by omega)
        have ej : ((2 : Int32) + zi).toInt = 2 + zi.toInt := own_two hi0 (by omega)
        show own_WP _ _ _ _ T15 (mkF m 69 #[.val (.int zt), .val (.long zl), .second, .val (.int zn), .val (.ref zr), .val (.int zi)] [])
        refine own_go (fun t k => XS.aload X15.here hx rfl (hb hby d5_69) rfl rfl  k) ?_
        show own_WP _ _ _ _ T15 (mkF m 71 #[.val (.int zt), .val (.long zl), .second, .val (.int zn), .val (.ref zr), .val (.int zi)] [(.ref zr)])
        refine own_go (fun t k => XS.iconst X15.here hx rfl (hb hby d5_71) k) ?_
        show own_WP _ _ _ _ T15 (mkF m 72 #[.val (.int zt), .val (.long zl), .second, .val (.int zn), .val (.ref zr), .val (.int zi)] [(.int (2 : Int32)), (.ref zr)])
        refine own_go (fun t k => XS.iload X15.here hx rfl (hb hby d5_72) rfl  k) ?_
        show own_WP _ _ _ _ T15 (mkF m 74 #[.val (.int zt), .val (.long zl), .second, .val (.int zn), .val (.ref zr), .val (.int zi)] [(.int zi), (.int (2 : Int32)), (.ref zr)])
        refine own_go (fun t k => XS.iadd X15.here hx rfl (hb hby d5_74) rfl k) ?_
        show own_WP _ _ _ _ T15 (mkF m 75 #[.val (.int zt), .val (.long zl), .second, .val (.int zn), .val (.ref zr), .val (.int zi)] [(.int ((2 : Int32) + zi)), (.ref zr)])
        refine own_go (fun t k => XS.lloadN X15.here hx rfl (hb hby d5_75) rfl  k) ?_
        show own_WP _ _ _ _ T15 (mkF m 76 #[.val (.int zt), .val (.long zl), .second, .val (.int zn), .val (.ref zr), .val (.int zi)] [(.long zl), (.int ((2 : Int32) + zi)), (.ref zr)])
        refine own_go (fun t k => XS.bipush X15.here hx rfl (hb hby d5_76) k) ?_
        show own_WP _ _ _ _ T15 (mkF m 78 #[.val (.int zt), .val (.long zl), .second, .val (.int zn), .val (.ref zr), .val (.int zi)] [(.int (8 : Int32)), (.long zl), (.int ((2 : Int32) + zi)), (.ref zr)])
        refine own_go (fun t k => XS.iloadN X15.here hx rfl (hb hby d5_78) rfl  k) ?_
        show own_WP _ _ _ _ T15 (mkF m 79 #[.val (.int zt), .val (.long zl), .second, .val (.int zn), .val (.ref zr), .val (.int zi)] [(.int zn), (.int (8 : Int32)), (.long zl), (.int ((2 : Int32) + zi)), (.ref zr)])
        refine own_go (fun t k => XS.iconst X15.here hx rfl (hb hby d5_79) k) ?_
        show own_WP _ _ _ _ T15 (mkF m 80 #[.val (.int zt), .val (.long zl), .second, .val (.int zn), .val (.ref zr), .val (.int zi)] [(.int (1 : Int32)), (.int zn), (.int (8 : Int32)), (.long zl), (.int ((2 : Int32) + zi)), (.ref zr)])
        refine own_go (fun t k => XS.isub X15.here hx rfl (hb hby d5_80) rfl k) ?_
        show own_WP _ _ _ _ T15 (mkF m 81 #[.val (.int zt), .val (.long zl), .second, .val (.int zn), .val (.ref zr), .val (.int zi)] [(.int (zn - (1 : Int32))), (.int (8 : Int32)), (.long zl), (.int ((2 : Int32) + zi)), (.ref zr)])
        refine own_go (fun t k => XS.iload X15.here hx rfl (hb hby d5_81) rfl  k) ?_
        show own_WP _ _ _ _ T15 (mkF m 83 #[.val (.int zt), .val (.long zl), .second, .val (.int zn), .val (.ref zr), .val (.int zi)] [(.int zi), (.int (zn - (1 : Int32))), (.int (8 : Int32)), (.long zl), (.int ((2 : Int32) + zi)), (.ref zr)])
        refine own_go (fun t k => XS.isub X15.here hx rfl (hb hby d5_83) rfl k) ?_
        show own_WP _ _ _ _ T15 (mkF m 84 #[.val (.int zt), .val (.long zl), .second, .val (.int zn), .val (.ref zr), .val (.int zi)] [(.int ((zn - (1 : Int32)) - zi)), (.int (8 : Int32)), (.long zl), (.int ((2 : Int32) + zi)), (.ref zr)])
        refine own_go (fun t k => XS.imul X15.here hx rfl (hb hby d5_84) rfl k) ?_
        show own_WP _ _ _ _ T15 (mkF m 85 #[.val (.int zt), .val (.long zl), .second, .val (.int zn), .val (.ref zr), .val (.int zi)] [(.int ((8 : Int32) * ((zn - (1 : Int32)) - zi))), (.long zl), (.int ((2 : Int32) + zi)), (.ref zr)])
        refine own_go (fun t k => XS.lushr X15.here hx rfl (hb hby d5_85) rfl k) ?_
        show own_WP _ _ _ _ T15 (mkF m 86 #[.val (.int zt), .val (.long zl), .second, .val (.int zn), .val (.ref zr), .val (.int zi)] [(.long ((zl.toUInt64 >>> (((8 : Int32) * ((zn - (1 : Int32)) - zi)) &&& 0x3f).toInt64.toUInt64).toInt64)), (.int ((2 : Int32) + zi)), (.ref zr)])
        refine own_go (fun t k => XS.l2i X15.here hx rfl (hb hby d5_86) rfl k) ?_
        show own_WP _ _ _ _ T15 (mkF m 87 #[.val (.int zt), .val (.long zl), .second, .val (.int zn), .val (.ref zr), .val (.int zi)] [(.int (((zl.toUInt64 >>> (((8 : Int32) * ((zn - (1 : Int32)) - zi)) &&& 0x3f).toInt64.toUInt64).toInt64).toInt32)), (.int ((2 : Int32) + zi)), (.ref zr)])
        refine own_go (fun t k => XS.i2b X15.here hx rfl (hb hby d5_87) rfl k) ?_
        show own_WP _ _ _ _ T15 (mkF m 88 #[.val (.int zt), .val (.long zl), .second, .val (.int zn), .val (.ref zr), .val (.int zi)] [(.int ((((zl.toUInt64 >>> (((8 : Int32) * ((zn - (1 : Int32)) - zi)) &&& 0x3f).toInt64.toUInt64).toInt64).toInt32).toInt8.toInt32)), (.int ((2 : Int32) + zi)), (.ref zr)])
        refine own_stB X15 hx hZ e15 f16 (j := ((2 : Int32) + zi)) ⟨own_nn (by rw [ej]; omega), own_ltj ej hn1 hc66⟩ (i := ((2 : Int32) + zi).toNatClampNeg) rfl (by rw [hv]; exact own_jb ej hi0 hn1 hc66) (hb hby d5_88) ?_
        intro T17 h17 X17 e17 W17 V17
        have f18 : Arv Z h17 zr k2 .byte ((2 : Int32) + zn) (zv.set ((2 : Int32) + zi).toNatClampNeg (.int (nar .byte ((((zl.toUInt64 >>> (((8 : Int32) * ((zn - (1 : Int32)) - zi)) &&& 0x3f).toInt64.toUInt64).toInt64).toInt32).toInt8.toInt32)))) (.int (0 : Int32)) := V17
        have K20 : Keep h0 h17 [] := K15j.wr W17 (Or.inr sz_zr)
        have N21 := Fr.snoc X17 N15 g_zr
        show own_WP _ _ _ _ T17 (mkF m 89 #[.val (.int zt), .val (.long zl), .second, .val (.int zn), .val (.ref zr), .val (.int zi)] [])
        refine own_go (fun t k => XS.iinc X17.here hx rfl (hb hby d5_89) rfl (l' := #[.val (.int zt), .val (.long zl), .second, .val (.int zn), .val (.ref zr), .val (.int (zi + (1 : Int32)))]) rfl k) ?_
        show own_WP _ _ _ _ T17 (mkF m 92 #[.val (.int zt), .val (.long zl), .second, .val (.int zn), .val (.ref zr), .val (.int (zi + (1 : Int32)))] [])
        refine own_go (fun t k => XS.goto X17.here hx rfl (pc0 := 92) (pc' := 63) rfl (hb hby d5_92) (by decide) (by decide) k) ?_
        show own_WP _ _ _ _ T17 (mkF m 63 #[.val (.int zt), .val (.long zl), .second, .val (.int zn), .val (.ref zr), .val (.int (zi + (1 : Int32)))] [])
        exact ih (zn.toInt - (zi + 1).toInt).toNat (by rw [ei]; omega) ((zi + (1 : Int32))) ((zv.set ((2 : Int32) + zi).toNatClampNeg (.int (nar .byte ((((zl.toUInt64 >>> (((8 : Int32) * ((zn - (1 : Int32)) - zi)) &&& 0x3f).toInt64.toUInt64).toInt64).toInt32).toInt8.toInt32))))) _ _ _ X17 e17 N21 K20 f18 (by rw [List.length_set]; exact hv) (by rw [ei]; omega) (by rw [ei]; omega)
      · refine own_go (fun t k => XS.icmpYes X15.here hx rfl (pc0 := 66) (pc' := 95) rfl (hb hby d5_66) rfl (flt hc66).2.1 (by decide) (by decide) k) ?_
        show own_WP _ _ _ _ T15 (mkF m 95 #[.val (.int zt), .val (.long zl), .second, .val (.int zn), .val (.ref zr), .val (.int zi)] [])
        refine own_go (fun t k => XS.aload X15.here hx rfl (hb hby d5_95) rfl rfl  k) ?_
        show own_WP _ _ _ _ T15 (mkF m 97 #[.val (.int zt), .val (.long zl), .second, .val (.int zn), .val (.ref zr), .val (.int zi)] [(.ref zr)])
        refine own_retA X15 hx Bd.notSynchronized rfl rfl Bd.returns (hb hby d5_97) (by decide) (by decide) ?_
        rw [e15]
        exact ⟨zr, k2, ((2 : Int32) + zn), zv, rfl, N15, K15j, g_zr, sz_zr, f16, (by exact own_ne2 hn1)⟩
  show own_WP _ _ _ _ T10 (mkF m 63 #[.val (.int zt), .val (.long zl), .second, .val (.int zn), .val (.ref zr), .val (.int (0 : Int32))] [])
  exact J63 (zn.toInt - (0 : Int32).toInt).toNat (0 : Int32) [(.int (nar .byte (zt.toInt8.toInt32))), (.int (nar .byte (((128 : Int32) ||| zn).toInt8.toInt32))), (.int (0 : Int32)), (.int (0 : Int32)), (.int (0 : Int32)), (.int (0 : Int32)), (.int (0 : Int32)), (.int (0 : Int32)), (.int (0 : Int32)), (.int (0 : Int32))] _ _ _ X10 e10 N14 K13 f11 (rfl) (by decide) (by have e0 : (0 : Int32).toInt = 0 := rfl; rw [e0]; omega)
theorem own_pd48262 : parseMethodDescriptor "(IJ)V" = some ⟨[.int, .long], none⟩ := by decide +kernel
theorem own_pd91901 : parseMethodDescriptor "()Z" = some ⟨[], some .boolean⟩ := by decide +kernel
theorem own_pd58851 : parseMethodDescriptor "(IJ)[B" = some ⟨[.int, .long], some (.array .byte)⟩ := by decide +kernel
theorem own_pn35065 : plainName "com/example/kuvert/kuvert/cms/HeaderIsEndOfContentsPinLaw" = true := by first | (simp [plainName, overriddenIn]; done) | decide +kernel
theorem ef_0 (m : MethodId) (z0 : Int32) (z1 : Int32) (z2 : Int64) : entryFrame m #[(.int z0), (.int z1), (.long z2)] maxLocals = mkF m 0 #[.val (.int z0), .val (.int z1), .val (.long z2), .second, .unset, .unset, .unset, .unset, .unset, .unset, .unset, .unset] [] := by first | (simp [entryFrame, mkF, argsToLocals, Value.category, maxLocals]; done) | rfl
def Q0 (Z : State) (z0 : Int32) (z1 : Int32) (z2 : Int64) (h0 : Heap) (n0 : Nat) (v : Option Value) (h : Heap) (L : List Loc) : Prop := v = some (.int 1) ∧ Fr n0 L
set_option maxRecDepth 65536 in
set_option maxHeartbeats 40000000 in
theorem rm0 (l : Launch) (Z : State) (a0 : Array Value) (hw : ∀ d ∈ tables_1, d.before a0 Z = true) (ws : List Jvm.Cond) (z0 : Int32) (z1 : Int32) (z2 : Int64) (h0 : Heap) (n0 : Nat) (Z0 : n0 ≤ h0.size)  :
    MetFree l x (head1 (Jvm.Cond.code x code maxLocals ret :: ws) room_1) (fun a U => a = #[(.int z0), (.int z1), (.long z2)] ∧ Z.Warmed39 U.vm ∧ U.heap = h0) (fun _ _ _ _ _ => True) (fun _ U o U' => ∃ v L, o = .returned v ∧ Q0 Z z0 z1 z2 h0 n0 v U'.heap L ∧ FrameEnd U o U' L 2 12) := by
  refine MetFree.of_bodySF (plainFor_of_name own_pn35065) hisR ?_
  intro p e s m args below meth c s₁ Bd hml0 hP hK
  obtain ⟨rfl, hZ, hh⟩ := hP
  have hx := Bd.exec
  have hby := Bd.bytes
  have hml : c.maxLocals = 12 := hml0
  have hown : s.vm.findClass "com/example/kuvert/kuvert/cms/HeaderIsEndOfContentsPinLaw" = some m.cls := findClass_of_methodNamed Bd.named
  have hnm := (name_of_methodNamed Bd.named Bd.method).1
  have X0 : Stand p l e room_1 s m #[(.int z0), (.int z1), (.long z2)] below meth c s₁ [] 0 0 := Stand.of_body Bd
  have e0 : s₁.heap = h0 := by rw [← hh, Bd.state]; rfl
  have N0 := Fr.nil n0
  have K0 := Keep.refl h0 ([] : List Addr)
  show own_WP p e below (own_E s (Q0 Z z0 z1 z2 h0 n0) 2 12) s₁ (entryFrame m #[(.int z0), (.int z1), (.long z2)] maxLocals)
  rw [ef_0 m z0 z1 z2]
  have J17 : ∀ (zt : Int32) (T1 : State) (h1 : Heap) (L1 : List Loc), Stand p l e room_1 s m #[(.int z0), (.int z1), (.long z2)] below meth c T1 L1 0 0 → T1.heap = h1 → Fr n0 L1 → Keep h0 h1 [] → (0 ≤ zt.toInt) → (zt.toInt < 256) → own_WP p e below (own_E s (Q0 Z z0 z1 z2 h0 n0) 2 12) T1 (mkF m 17 #[.val (.int z0), .val (.int z1), .val (.long z2), .second, .val (.int zt), .unset, .unset, .unset, .unset, .unset, .unset, .unset] []) := by
    intro zt T1 h1 L1 X1 e1 N1 K1j ht0 ht1
    show own_WP _ _ _ _ T1 (mkF m 17 #[.val (.int z0), .val (.int z1), .val (.long z2), .second, .val (.int zt), .unset, .unset, .unset, .unset, .unset, .unset, .unset] [])
    refine own_go (fun t k => XS.iloadN X1.here hx rfl (hb hby at_17) rfl  k) ?_
    show own_WP _ _ _ _ T1 (mkF m 18 #[.val (.int z0), .val (.int z1), .val (.long z2), .second, .val (.int zt), .unset, .unset, .unset, .unset, .unset, .unset, .unset] [(.int z1)])
    refine own_go (fun t k => XS.iconst X1.here hx rfl (hb hby at_18) k) ?_
    show own_WP _ _ _ _ T1 (mkF m 19 #[.val (.int z0), .val (.int z1), .val (.long z2), .second, .val (.int zt), .unset, .unset, .unset, .unset, .unset, .unset, .unset] [(.int (3 : Int32)), (.int z1)])
    refine own_go (fun t k => XS.iand X1.here hx rfl (hb hby at_19) rfl k) ?_
    show own_WP _ _ _ _ T1 (mkF m 20 #[.val (.int z0), .val (.int z1), .val (.long z2), .second, .val (.int zt), .unset, .unset, .unset, .unset, .unset, .unset, .unset] [(.int (z1 &&& (3 : Int32)))])
    generalize d_zs : (z1 &&& (3 : Int32)) = zs
    refine own_go (fun t k => XS.istore X1.here hx rfl (hb hby at_20) rfl (l' := #[.val (.int z0), .val (.int z1), .val (.long z2), .second, .val (.int zt), .val (.int zs), .unset, .unset, .unset, .unset, .unset, .unset]) rfl k) ?_
    have J70 : ∀ (zl : Int64) (T2 : State) (h2 : Heap) (L2 : List Loc), Stand p l e room_1 s m #[(.int z0), (.int z1), (.long z2)] below meth c T2 L2 0 0 → T2.heap = h2 → Fr n0 L2 → Keep h0 h2 [] → (-1 ≤ zl.toInt) → own_WP p e below (own_E s (Q0 Z z0 z1 z2 h0 n0) 2 12) T2 (mkF m 70 #[.val (.int z0), .val (.int z1), .val (.long z2), .second, .val (.int zt), .val (.int zs), .val (.long zl), .second, .unset, .unset, .unset, .unset] []) := by
      intro zl T2 h2 L2 X2 e2 N2 K2j hl0
      show own_WP _ _ _ _ T2 (mkF m 70 #[.val (.int z0), .val (.int z1), .val (.long z2), .second, .val (.int zt), .val (.int zs), .val (.long zl), .second, .unset, .unset, .unset, .unset] [])
      obtain ⟨T3, h3, X3, e3, E3, A3, D3, -, st3⟩ := newO X2 hx hZ hown (hw _ (List.mem_of_getElem? (i := 1) rfl)) (hw _ (List.mem_of_getElem? (i := 2) rfl)) (hw _ (List.mem_of_getElem? (i := 3) rfl)) e2 (g := (mkF m 70 #[.val (.int z0), .val (.int z1), .val (.long z2), .second, .val (.int zt), .val (.int zs), .val (.long zl), .second, .unset, .unset, .unset, .unset] [])) rfl (hb hby at_70) (by decide) (by decide)
      obtain ⟨zo, q3⟩ : ∃ z, z = h2.size := ⟨_, rfl⟩
      rw [← q3] at A3 D3 st3
      refine own_go st3 ?_
      have g_zo : n0 ≤ zo := Nat.le_trans (own_le Z0 K2j) (Nat.le_of_eq q3.symm)
      have sz_zo : h0.size ≤ zo := Nat.le_trans K2j.1 (Nat.le_of_eq q3.symm)
      have K4 : Keep h0 h3 [] := K2j.ext E3
      have f5 : Fld Z h3 zo "com/example/kuvert/kuvert/cms/DerReader$Header" "tag" "I" (.int (0 : Int32)) := D3 (Or.inr (hw _ (List.mem_of_getElem? (i := 16) rfl))) (ty := .int) (by decide)
      have f6 : Fld Z h3 zo "com/example/kuvert/kuvert/cms/DerReader$Header" "length" "J" (.long (0 : Int64)) := D3 (Or.inr (hw _ (List.mem_of_getElem? (i := 18) rfl))) (ty := .long) (by decide)
      show own_WP _ _ _ _ T3 (mkF m 73 #[.val (.int z0), .val (.int z1), .val (.long z2), .second, .val (.int zt), .val (.int zs), .val (.long zl), .second, .unset, .unset, .unset, .unset] [(.ref zo)])
      refine own_go (fun t k => XS.dup X3.here hx rfl (hb hby at_73) rfl rfl k) ?_
      show own_WP _ _ _ _ T3 (mkF m 74 #[.val (.int z0), .val (.int z1), .val (.long z2), .second, .val (.int zt), .val (.int zs), .val (.long zl), .second, .unset, .unset, .unset, .unset] [(.ref zo), (.ref zo)])
      refine own_go (fun t k => XS.iload X3.here hx rfl (hb hby at_74) rfl  k) ?_
      show own_WP _ _ _ _ T3 (mkF m 76 #[.val (.int z0), .val (.int z1), .val (.long z2), .second, .val (.int zt), .val (.int zs), .val (.long zl), .second, .unset, .unset, .unset, .unset] [(.int zt), (.ref zo), (.ref zo)])
      refine own_go (fun t k => XS.lload X3.here hx rfl (hb hby at_76) rfl  k) ?_
      show own_WP _ _ _ _ T3 (mkF m 78 #[.val (.int z0), .val (.int z1), .val (.long z2), .second, .val (.int zt), .val (.int zs), .val (.long zl), .second, .unset, .unset, .unset, .unset] [(.long zl), (.int zt), (.ref zo), (.ref zo)])
      obtain ⟨_, _, ⟨T7, L7, k7, n7⟩, -, X7, ⟨Lc7, hQ7, l7, y7, z7⟩, st7⟩ := X3.specialBack hx (y := (⟨"com/example/kuvert/kuvert/cms/DerReader$Header", "<init>", "(IJ)V"⟩ : MethodName)) rfl hown (mvT hZ (hw _ (List.mem_of_getElem? (i := 4) rfl))) (mvT hZ (hw _ (List.mem_of_getElem? (i := 5) rfl))) (mvT hZ (hw _ (List.mem_of_getElem? (i := 6) rfl))) (by decide) (backOf (W := 1) (rm1 l Z a0 hw [] zo zt zl (.int (0 : Int32)) (.long (0 : Int64)) h3 n0 (own_le Z0 K4) A3 f5 f6 g_zo) hZ (hw _ (List.mem_of_getElem? (i := 6) rfl)) (hw _ (List.mem_of_getElem? (i := 3) rfl)) (by decide) (by decide)) (g := (mkF m 78 #[.val (.int z0), .val (.int z1), .val (.long z2), .second, .val (.int zt), .val (.int zs), .val (.long zl), .second, .unset, .unset, .unset, .unset] [(.long zl), (.int zt), (.ref zo), (.ref zo)])) rfl (by rw [hml]; rfl) (Steps.refl _) (a := zo) (argsL := [(.int zt), (.long zl)]) (rest := [(.ref zo)]) (lenOf own_pd48262 rfl) rfl (by show 2 * 0 + _ ≤ _; exact Nat.le_of_eq rfl) (hb hby at_78) (fun _ _ => ⟨rfl, e3, (by decide : 1 + 0 ≤ _), (by decide : 2 + 0 ≤ _)⟩)
      dsimp only [Pt.U, Pt.locs, Pt.cells, Pt.slots] at X7 l7 y7 z7 st7 hQ7
      subst l7 y7 z7
      obtain ⟨rfl, N7q, Kc7, f8, f9, f10⟩ := hQ7
      have N7 := Fr.app N2 N7q
      refine own_tr st7 ?_
      have f11 : Exa Z T7.heap zo "com/example/kuvert/kuvert/cms/DerReader$Header" := A3.keep Kc7
      have K14 : Keep h0 T7.heap [] := K4.trans Kc7 (fun x hx => by cases List.mem_singleton.mp hx; exact Or.inr sz_zo)
      show own_WP _ _ _ _ T7 (mkF m 81 #[.val (.int z0), .val (.int z1), .val (.long z2), .second, .val (.int zt), .val (.int zs), .val (.long zl), .second, .unset, .unset, .unset, .unset] [(.ref zo)])
      refine own_go (fun t k => XS.astore X7.here hx rfl (hb hby at_81) rfl rfl (l' := #[.val (.int z0), .val (.int z1), .val (.long z2), .second, .val (.int zt), .val (.int zs), .val (.long zl), .second, .val (.ref zo), .unset, .unset, .unset]) rfl k) ?_
      show own_WP _ _ _ _ T7 (mkF m 83 #[.val (.int z0), .val (.int z1), .val (.long z2), .second, .val (.int zt), .val (.int zs), .val (.long zl), .second, .val (.ref zo), .unset, .unset, .unset] [])
      refine own_go (fun t k => XS.aload X7.here hx rfl (hb hby at_83) rfl rfl  k) ?_
      show own_WP _ _ _ _ T7 (mkF m 85 #[.val (.int z0), .val (.int z1), .val (.long z2), .second, .val (.int zt), .val (.int zs), .val (.long zl), .second, .val (.ref zo), .unset, .unset, .unset] [(.ref zo)])
      obtain ⟨cq15, kq15, q15a, q15b, q15c⟩ := isOf hZ rfl f8
      obtain ⟨_, _, ⟨T15, L15, k15, n15⟩, -, X15, ⟨Lc15, hQ15, l15, y15, z15⟩, st15⟩ := X7.virtualBack hx (y := (⟨"com/example/kuvert/kuvert/cms/DerReader$Header", "isEndOfContents", "()Z"⟩ : MethodName)) (z := (⟨"com/example/kuvert/kuvert/cms/DerReader$Header", "isEndOfContents", "()Z"⟩ : MethodName)) hown (mvT hZ (hw _ (List.mem_of_getElem? (i := 19) rfl))) (mvT hZ (hw _ (List.mem_of_getElem? (i := 20) rfl))) (notFace_of_selects (args := #[]) (mvT hZ (hw _ (List.mem_of_getElem? (i := 22) rfl)))) (mvT hZ (hw _ (List.mem_of_getElem? (i := 22) rfl))) (mvT hZ (hw _ (List.mem_of_getElem? (i := 21) rfl))) (by decide) (backOf (W := 0) (rm4 l Z a0 hw [] zo zt zl T7.heap n0 (own_le Z0 K14) f9 f10) hZ (hw _ (List.mem_of_getElem? (i := 23) rfl)) (hw _ (List.mem_of_getElem? (i := 3) rfl)) (by decide) (by decide)) q15a q15c (g := (mkF m 85 #[.val (.int z0), .val (.int z1), .val (.long z2), .second, .val (.int zt), .val (.int zs), .val (.long zl), .second, .val (.ref zo), .unset, .unset, .unset] [(.ref zo)])) rfl (by rw [hml]; rfl) (Steps.refl _) (argsL := []) (rest := []) (lenOf own_pd91901 rfl) rfl (by show 2 * 0 + _ ≤ _; exact Nat.le_of_eq rfl) (hb hby at_85) (fun _ _ => ⟨rfl, rfl, (by decide : 1 + 0 ≤ _), (by decide : 2 + 0 ≤ _)⟩)
      dsimp only [Pt.U, Pt.locs, Pt.cells, Pt.slots] at X15 l15 y15 z15 st15 hQ15
      subst l15 y15 z15
      obtain ⟨rfl, N15q, eq15⟩ := hQ15
      have N15 := Fr.app N7 N15q
      refine own_tr st15 ?_
      show own_WP _ _ _ _ T15 (mkF m 88 #[.val (.int z0), .val (.int z1), .val (.long z2), .second, .val (.int zt), .val (.int zs), .val (.long zl), .second, .val (.ref zo), .unset, .unset, .unset] [(.int (own_eoc zt zl))])
      refine own_go (fun t k => XS.istore X15.here hx rfl (hb hby at_88) rfl (l' := #[.val (.int z0), .val (.int z1), .val (.long z2), .second, .val (.int zt), .val (.int zs), .val (.long zl), .second, .val (.ref zo), .val (.int (own_eoc zt zl)), .unset, .unset]) rfl k) ?_
      by_cases hs : zl < (128 : Int64)
      · show own_WP _ _ _ _ T15 (mkF m 90 #[.val (.int z0), .val (.int z1), .val (.long z2), .second, .val (.int zt), .val (.int zs), .val (.long zl), .second, .val (.ref zo), .val (.int (own_eoc zt zl)), .unset, .unset] [])
        refine own_go (fun t k => XS.iload X15.here hx rfl (hb hby at_90) rfl  k) ?_
        show own_WP _ _ _ _ T15 (mkF m 92 #[.val (.int z0), .val (.int z1), .val (.long z2), .second, .val (.int zt), .val (.int zs), .val (.long zl), .second, .val (.ref zo), .val (.int (own_eoc zt zl)), .unset, .unset] [(.int zt)])
        refine own_go (fun t k => XS.lload X15.here hx rfl (hb hby at_92) rfl  k) ?_
        show own_WP _ _ _ _ T15 (mkF m 94 #[.val (.int z0), .val (.int z1), .val (.long z2), .second, .val (.int zt), .val (.int zs), .val (.long zl), .second, .val (.ref zo), .val (.int (own_eoc zt zl)), .unset, .unset] [(.long zl), (.int zt)])
        obtain ⟨_, _, ⟨T16, L16, k16, n16⟩, -, X16, ⟨Lc16, hQ16, l16, y16, z16⟩, st16⟩ := Jvm.LawKit.callS X15 hx (y := (⟨"com/example/kuvert/kuvert/cms/Der", "header", "(IJ)[B"⟩ : MethodName)) hown (mvT hZ (hw _ (List.mem_of_getElem? (i := 24) rfl))) (mvT hZ (hw _ (List.mem_of_getElem? (i := 25) rfl))) (mvT hZ (hw _ (List.mem_of_getElem? (i := 26) rfl))) (mvT hZ (hw _ (List.mem_of_getElem? (i := 27) rfl))) (by decide) (backOf (W := 0) (rm5a l Z a0 hw [] zt zl  T7.heap n0 (own_le Z0 K14) (show zl < 128 from hs)) hZ (hw _ (List.mem_of_getElem? (i := 27) rfl)) (hw _ (List.mem_of_getElem? (i := 26) rfl)) (by decide) (by decide)) (g := (mkF m 94 #[.val (.int z0), .val (.int z1), .val (.long z2), .second, .val (.int zt), .val (.int zs), .val (.long zl), .second, .val (.ref zo), .val (.int (own_eoc zt zl)), .unset, .unset] [(.long zl), (.int zt)])) rfl (by rw [hml]; rfl) (argsL := [(.int zt), (.long zl)]) (rest := []) (lenOf own_pd58851 rfl) rfl (by show 2 * 0 + _ ≤ _; exact Nat.le_of_eq rfl) (hb hby at_94) (fun _ _ => ⟨rfl, eq15, (by decide : 1 + 1 ≤ _), (by decide : 2 + 2 ≤ _)⟩)
        dsimp only [Pt.U, Pt.locs, Pt.cells, Pt.slots] at X16 l16 y16 z16 st16 hQ16
        subst l16 y16 z16
        obtain ⟨zr, rk17, rfl, N16q, Kc16, g_zr, szc_zr, f18⟩ := hQ16
        have N16 := Fr.app N15 N16q
        refine own_go st16 ?_
        have sz_zr : h0.size ≤ zr := Nat.le_trans K14.1 szc_zr
        have ne_zo_zr : zo ≠ zr := Nat.ne_of_lt (Nat.lt_of_lt_of_le f8.lt szc_zr)
        have f19 : Exa Z T16.heap zo "com/example/kuvert/kuvert/cms/DerReader$Header" := f8.keep Kc16
        have f20 : Fld Z T16.heap zo "com/example/kuvert/kuvert/cms/DerReader$Header" "tag" "I" (.int zt) := f9.keep Kc16 own_nm0
        have f21 : Fld Z T16.heap zo "com/example/kuvert/kuvert/cms/DerReader$Header" "length" "J" (.long zl) := f10.keep Kc16 own_nm0
        have K22 : Keep h0 T16.heap [] := K14.trans Kc16 (fun x hx => by cases hx)
        show own_WP _ _ _ _ T16 (mkF m 97 #[.val (.int z0), .val (.int z1), .val (.long z2), .second, .val (.int zt), .val (.int zs), .val (.long zl), .second, .val (.ref zo), .val (.int (own_eoc zt zl)), .unset, .unset] [(.ref zr)])
        refine own_go (fun t k => XS.astore X16.here hx rfl (hb hby at_97) rfl rfl (l' := #[.val (.int z0), .val (.int z1), .val (.long z2), .second, .val (.int zt), .val (.int zs), .val (.long zl), .second, .val (.ref zo), .val (.int (own_eoc zt zl)), .val (.ref zr), .unset]) rfl k) ?_
        show own_WP _ _ _ _ T16 (mkF m 99 #[.val (.int z0), .val (.int z1), .val (.long z2), .second, .val (.int zt), .val (.int zs), .val (.long zl), .second, .val (.ref zo), .val (.int (own_eoc zt zl)), .val (.ref zr), .unset] [])
        refine own_go (fun t k => XS.aload X16.here hx rfl (hb hby at_99) rfl rfl  k) ?_
        show own_WP _ _ _ _ T16 (mkF m 101 #[.val (.int z0), .val (.int z1), .val (.long z2), .second, .val (.int zt), .val (.int zs), .val (.long zl), .second, .val (.ref zo), .val (.int (own_eoc zt zl)), .val (.ref zr), .unset] [(.ref zr)])
        refine own_len X16 hx hZ rfl f18 (hb hby at_101) ?_
        show own_WP _ _ _ _ T16 (mkF m 102 #[.val (.int z0), .val (.int z1), .val (.long z2), .second, .val (.int zt), .val (.int zs), .val (.long zl), .second, .val (.ref zo), .val (.int (own_eoc zt zl)), .val (.ref zr), .unset] [(.int (2 : Int32))])
        refine own_go (fun t k => XS.iconst X16.here hx rfl (hb hby at_102) k) ?_
        show own_WP _ _ _ _ T16 (mkF m 103 #[.val (.int z0), .val (.int z1), .val (.long z2), .second, .val (.int zt), .val (.int zs), .val (.long zl), .second, .val (.ref zo), .val (.int (own_eoc zt zl)), .val (.ref zr), .unset] [(.int (2 : Int32)), (.int (2 : Int32))])
        have hc103 : (2 : Int32) = (2 : Int32) := rfl
        refine own_go (fun t k => XS.icmpNo X16.here hx rfl (hb hby at_103) rfl (teq hc103).2 k) ?_
        show own_WP _ _ _ _ T16 (mkF m 106 #[.val (.int z0), .val (.int z1), .val (.long z2), .second, .val (.int zt), .val (.int zs), .val (.long zl), .second, .val (.ref zo), .val (.int (own_eoc zt zl)), .val (.ref zr), .unset] [])
        refine own_go (fun t k => XS.aload X16.here hx rfl (hb hby at_106) rfl rfl  k) ?_
        show own_WP _ _ _ _ T16 (mkF m 108 #[.val (.int z0), .val (.int z1), .val (.long z2), .second, .val (.int zt), .val (.int zs), .val (.long zl), .second, .val (.ref zo), .val (.int (own_eoc zt zl)), .val (.ref zr), .unset] [(.ref zr)])
        refine own_go (fun t k => XS.iconst X16.here hx rfl (hb hby at_108) k) ?_
        show own_WP _ _ _ _ T16 (mkF m 109 #[.val (.int z0), .val (.int z1), .val (.long z2), .second, .val (.int zt), .val (.int zs), .val (.long zl), .second, .val (.ref zo), .val (.int (own_eoc zt zl)), .val (.ref zr), .unset] [(.int (0 : Int32)), (.ref zr)])
        refine own_ldB X16 hx hZ rfl f18 (j := (0 : Int32)) (w := (nar .byte (zt.toInt8.toInt32))) ⟨by decide, by decide⟩ rfl (hb hby at_109) ?_
        show own_WP _ _ _ _ T16 (mkF m 110 #[.val (.int z0), .val (.int z1), .val (.long z2), .second, .val (.int zt), .val (.int zs), .val (.long zl), .second, .val (.ref zo), .val (.int (own_eoc zt zl)), .val (.ref zr), .unset] [(.int (nar .byte (zt.toInt8.toInt32)))])
        by_cases hc110 : (nar .byte (zt.toInt8.toInt32)) = (0 : Int32)
        · refine own_go (fun t k => XS.ifNo X16.here hx rfl (hb hby at_110) rfl ((if0 _ _).trans (teq hc110).2) k) ?_
          show own_WP _ _ _ _ T16 (mkF m 113 #[.val (.int z0), .val (.int z1), .val (.long z2), .second, .val (.int zt), .val (.int zs), .val (.long zl), .second, .val (.ref zo), .val (.int (own_eoc zt zl)), .val (.ref zr), .unset] [])
          refine own_go (fun t k => XS.aload X16.here hx rfl (hb hby at_113) rfl rfl  k) ?_
          show own_WP _ _ _ _ T16 (mkF m 115 #[.val (.int z0), .val (.int z1), .val (.long z2), .second, .val (.int zt), .val (.int zs), .val (.long zl), .second, .val (.ref zo), .val (.int (own_eoc zt zl)), .val (.ref zr), .unset] [(.ref zr)])
          refine own_go (fun t k => XS.iconst X16.here hx rfl (hb hby at_115) k) ?_
          show own_WP _ _ _ _ T16 (mkF m 116 #[.val (.int z0), .val (.int z1), .val (.long z2), .second, .val (.int zt), .val (.int zs), .val (.long zl), .second, .val (.ref zo), .val (.int (own_eoc zt zl)), .val (.ref zr), .unset] [(.int (1 : Int32)), (.ref zr)])
          refine own_ldB X16 hx hZ rfl f18 (j := (1 : Int32)) (w := (nar .byte ((zl.toInt32).toInt8.toInt32))) ⟨by decide, by decide⟩ rfl (hb hby at_116) ?_
          show own_WP _ _ _ _ T16 (mkF m 117 #[.val (.int z0), .val (.int z1), .val (.long z2), .second, .val (.int zt), .val (.int zs), .val (.long zl), .second, .val (.ref zo), .val (.int (own_eoc zt zl)), .val (.ref zr), .unset] [(.int (nar .byte ((zl.toInt32).toInt8.toInt32)))])
          by_cases hc117 : (nar .byte ((zl.toInt32).toInt8.toInt32)) = (0 : Int32)
          · refine own_go (fun t k => XS.ifNo X16.here hx rfl (hb hby at_117) rfl ((if0 _ _).trans (teq hc117).2) k) ?_
            show own_WP _ _ _ _ T16 (mkF m 120 #[.val (.int z0), .val (.int z1), .val (.long z2), .second, .val (.int zt), .val (.int zs), .val (.long zl), .second, .val (.ref zo), .val (.int (own_eoc zt zl)), .val (.ref zr), .unset] [])
            refine own_go (fun t k => XS.iconst X16.here hx rfl (hb hby at_120) k) ?_
            show own_WP _ _ _ _ T16 (mkF m 121 #[.val (.int z0), .val (.int z1), .val (.long z2), .second, .val (.int zt), .val (.int zs), .val (.long zl), .second, .val (.ref zo), .val (.int (own_eoc zt zl)), .val (.ref zr), .unset] [(.int (1 : Int32))])
            refine own_go (fun t k => XS.goto X16.here hx rfl (pc0 := 121) (pc' := 125) rfl (hb hby at_121) (by decide) (by decide) k) ?_
            show own_WP _ _ _ _ T16 (mkF m 125 #[.val (.int z0), .val (.int z1), .val (.long z2), .second, .val (.int zt), .val (.int zs), .val (.long zl), .second, .val (.ref zo), .val (.int (own_eoc zt zl)), .val (.ref zr), .unset] [(.int (1 : Int32))])
            refine own_go (fun t k => XS.istore X16.here hx rfl (hb hby at_125) rfl (l' := #[.val (.int z0), .val (.int z1), .val (.long z2), .second, .val (.int zt), .val (.int zs), .val (.long zl), .second, .val (.ref zo), .val (.int (own_eoc zt zl)), .val (.ref zr), .val (.int (1 : Int32))]) rfl k) ?_
            show own_WP _ _ _ _ T16 (mkF m 127 #[.val (.int z0), .val (.int z1), .val (.long z2), .second, .val (.int zt), .val (.int zs), .val (.long zl), .second, .val (.ref zo), .val (.int (own_eoc zt zl)), .val (.ref zr), .val (.int (1 : Int32))] [])
            refine own_go (fun t k => XS.iload X16.here hx rfl (hb hby at_127) rfl  k) ?_
            show own_WP _ _ _ _ T16 (mkF m 129 #[.val (.int z0), .val (.int z1), .val (.long z2), .second, .val (.int zt), .val (.int zs), .val (.long zl), .second, .val (.ref zo), .val (.int (own_eoc zt zl)), .val (.ref zr), .val (.int (1 : Int32))] [(.int (own_eoc zt zl))])
            refine own_go (fun t k => XS.iload X16.here hx rfl (hb hby at_129) rfl  k) ?_
            show own_WP _ _ _ _ T16 (mkF m 131 #[.val (.int z0), .val (.int z1), .val (.long z2), .second, .val (.int zt), .val (.int zs), .val (.long zl), .second, .val (.ref zo), .val (.int (own_eoc zt zl)), .val (.ref zr), .val (.int (1 : Int32))] [(.int (1 : Int32)), (.int (own_eoc zt zl))])
            have hc131 : (own_eoc zt zl) = (1 : Int32) := by
              have t1 := own_tag zt ht0 ht1; have t2 := own_lenb zl hl0 hs; rw [show zt = 0 from t1.mp hc110]; simp [own_eoc, t2.mp hc117]
            refine own_go (fun t k => XS.icmpNo X16.here hx rfl (hb hby at_131) rfl (teq hc131).2 k) ?_
            show own_WP _ _ _ _ T16 (mkF m 134 #[.val (.int z0), .val (.int z1), .val (.long z2), .second, .val (.int zt), .val (.int zs), .val (.long zl), .second, .val (.ref zo), .val (.int (own_eoc zt zl)), .val (.ref zr), .val (.int (1 : Int32))] [])
            refine own_go (fun t k => XS.iconst X16.here hx rfl (hb hby at_134) k) ?_
            show own_WP _ _ _ _ T16 (mkF m 135 #[.val (.int z0), .val (.int z1), .val (.long z2), .second, .val (.int zt), .val (.int zs), .val (.long zl), .second, .val (.ref zo), .val (.int (own_eoc zt zl)), .val (.ref zr), .val (.int (1 : Int32))] [(.int (1 : Int32))])
            refine own_go (fun t k => XS.goto X16.here hx rfl (pc0 := 135) (pc' := 139) rfl (hb hby at_135) (by decide) (by decide) k) ?_
            show own_WP _ _ _ _ T16 (mkF m 139 #[.val (.int z0), .val (.int z1), .val (.long z2), .second, .val (.int zt), .val (.int zs), .val (.long zl), .second, .val (.ref zo), .val (.int (own_eoc zt zl)), .val (.ref zr), .val (.int (1 : Int32))] [(.int (1 : Int32))])
            refine own_retN X16 hx Bd.notSynchronized (t := .boolean) (by simp) Bd.returns (hb hby at_139) (by decide) (by decide) ?_
            exact ⟨rfl, N16⟩
          · refine own_go (fun t k => XS.ifYes X16.here hx rfl (pc0 := 117) (pc' := 124) rfl (hb hby at_117) rfl ((if0 _ _).trans (feq hc117).2) (by decide) (by decide) k) ?_
            show own_WP _ _ _ _ T16 (mkF m 124 #[.val (.int z0), .val (.int z1), .val (.long z2), .second, .val (.int zt), .val (.int zs), .val (.long zl), .second, .val (.ref zo), .val (.int (own_eoc zt zl)), .val (.ref zr), .unset] [])
            refine own_go (fun t k => XS.iconst X16.here hx rfl (hb hby at_124) k) ?_
            show own_WP _ _ _ _ T16 (mkF m 125 #[.val (.int z0), .val (.int z1), .val (.long z2), .second, .val (.int zt), .val (.int zs), .val (.long zl), .second, .val (.ref zo), .val (.int (own_eoc zt zl)), .val (.ref zr), .unset] [(.int (0 : Int32))])
            refine own_go (fun t k => XS.istore X16.here hx rfl (hb hby at_125) rfl (l' := #[.val (.int z0), .val (.int z1), .val (.long z2), .second, .val (.int zt), .val (.int zs), .val (.long zl), .second, .val (.ref zo), .val (.int (own_eoc zt zl)), .val (.ref zr), .val (.int (0 : Int32))]) rfl k) ?_
            show own_WP _ _ _ _ T16 (mkF m 127 #[.val (.int z0), .val (.int z1), .val (.long z2), .second, .val (.int zt), .val (.int zs), .val (.long zl), .second, .val (.ref zo), .val (.int (own_eoc zt zl)), .val (.ref zr), .val (.int (0 : Int32))] [])
            refine own_go (fun t k => XS.iload X16.here hx rfl (hb hby at_127) rfl  k) ?_
            show own_WP _ _ _ _ T16 (mkF m 129 #[.val (.int z0), .val (.int z1), .val (.long z2), .second, .val (.int zt), .val (.int zs), .val (.long zl), .second, .val (.ref zo), .val (.int (own_eoc zt zl)), .val (.ref zr), .val (.int (0 : Int32))] [(.int (own_eoc zt zl))])
            refine own_go (fun t k => XS.iload X16.here hx rfl (hb hby at_129) rfl  k) ?_
            show own_WP _ _ _ _ T16 (mkF m 131 #[.val (.int z0), .val (.int z1), .val (.long z2), .second, .val (.int zt), .val (.int zs), .val (.long zl), .second, .val (.ref zo), .val (.int (own_eoc zt zl)), .val (.ref zr), .val (.int (0 : Int32))] [(.int (0 : Int32)), (.int (own_eoc zt zl))])
            have hc131 : (own_eoc zt zl) = (0 : Int32) := by
              have t1 := own_tag zt ht0 ht1; have t2 := own_lenb zl hl0 hs; rw [show zt = 0 from t1.mp hc110]; simp [own_eoc, show ¬ zl = 0 from fun z => hc117 (t2.mpr z)]
            refine own_go (fun t k => XS.icmpNo X16.here hx rfl (hb hby at_131) rfl (teq hc131).2 k) ?_
            show own_WP _ _ _ _ T16 (mkF m 134 #[.val (.int z0), .val (.int z1), .val (.long z2), .second, .val (.int zt), .val (.int zs), .val (.long zl), .second, .val (.ref zo), .val (.int (own_eoc zt zl)), .val (.ref zr), .val (.int (0 : Int32))] [])
            refine own_go (fun t k => XS.iconst X16.here hx rfl (hb hby at_134) k) ?_
            show own_WP _ _ _ _ T16 (mkF m 135 #[.val (.int z0), .val (.int z1), .val (.long z2), .second, .val (.int zt), .val (.int zs), .val (.long zl), .second, .val (.ref zo), .val (.int (own_eoc zt zl)), .val (.ref zr), .val (.int (0 : Int32))] [(.int (1 : Int32))])
            refine own_go (fun t k => XS.goto X16.here hx rfl (pc0 := 135) (pc' := 139) rfl (hb hby at_135) (by decide) (by decide) k) ?_
            show own_WP _ _ _ _ T16 (mkF m 139 #[.val (.int z0), .val (.int z1), .val (.long z2), .second, .val (.int zt), .val (.int zs), .val (.long zl), .second, .val (.ref zo), .val (.int (own_eoc zt zl)), .val (.ref zr), .val (.int (0 : Int32))] [(.int (1 : Int32))])
            refine own_retN X16 hx Bd.notSynchronized (t := .boolean) (by simp) Bd.returns (hb hby at_139) (by decide) (by decide) ?_
            exact ⟨rfl, N16⟩
        · refine own_go (fun t k => XS.ifYes X16.here hx rfl (pc0 := 110) (pc' := 124) rfl (hb hby at_110) rfl ((if0 _ _).trans (feq hc110).2) (by decide) (by decide) k) ?_
          show own_WP _ _ _ _ T16 (mkF m 124 #[.val (.int z0), .val (.int z1), .val (.long z2), .second, .val (.int zt), .val (.int zs), .val (.long zl), .second, .val (.ref zo), .val (.int (own_eoc zt zl)), .val (.ref zr), .unset] [])
          refine own_go (fun t k => XS.iconst X16.here hx rfl (hb hby at_124) k) ?_
          show own_WP _ _ _ _ T16 (mkF m 125 #[.val (.int z0), .val (.int z1), .val (.long z2), .second, .val (.int zt), .val (.int zs), .val (.long zl), .second, .val (.ref zo), .val (.int (own_eoc zt zl)), .val (.ref zr), .unset] [(.int (0 : Int32))])
          refine own_go (fun t k => XS.istore X16.here hx rfl (hb hby at_125) rfl (l' := #[.val (.int z0), .val (.int z1), .val (.long z2), .second, .val (.int zt), .val (.int zs), .val (.long zl), .second, .val (.ref zo), .val (.int (own_eoc zt zl)), .val (.ref zr), .val (.int (0 : Int32))]) rfl k) ?_
          show own_WP _ _ _ _ T16 (mkF m 127 #[.val (.int z0), .val (.int z1), .val (.long z2), .second, .val (.int zt), .val (.int zs), .val (.long zl), .second, .val (.ref zo), .val (.int (own_eoc zt zl)), .val (.ref zr), .val (.int (0 : Int32))] [])
          refine own_go (fun t k => XS.iload X16.here hx rfl (hb hby at_127) rfl  k) ?_
          show own_WP _ _ _ _ T16 (mkF m 129 #[.val (.int z0), .val (.int z1), .val (.long z2), .second, .val (.int zt), .val (.int zs), .val (.long zl), .second, .val (.ref zo), .val (.int (own_eoc zt zl)), .val (.ref zr), .val (.int (0 : Int32))] [(.int (own_eoc zt zl))])
          refine own_go (fun t k => XS.iload X16.here hx rfl (hb hby at_129) rfl  k) ?_
          show own_WP _ _ _ _ T16 (mkF m 131 #[.val (.int z0), .val (.int z1), .val (.long z2), .second, .val (.int zt), .val (.int zs), .val (.long zl), .second, .val (.ref zo), .val (.int (own_eoc zt zl)), .val (.ref zr), .val (.int (0 : Int32))] [(.int (0 : Int32)), (.int (own_eoc zt zl))])
          have hc131 : (own_eoc zt zl) = (0 : Int32) := by
            have t1 := own_tag zt ht0 ht1; have t2 := own_lenb zl hl0 hs; simp [own_eoc, show ¬ zt = 0 from fun z => hc110 (t1.mpr z)]
          refine own_go (fun t k => XS.icmpNo X16.here hx rfl (hb hby at_131) rfl (teq hc131).2 k) ?_
          show own_WP _ _ _ _ T16 (mkF m 134 #[.val (.int z0), .val (.int z1), .val (.long z2), .second, .val (.int zt), .val (.int zs), .val (.long zl), .second, .val (.ref zo), .val (.int (own_eoc zt zl)), .val (.ref zr), .val (.int (0 : Int32))] [])
          refine own_go (fun t k => XS.iconst X16.here hx rfl (hb hby at_134) k) ?_
          show own_WP _ _ _ _ T16 (mkF m 135 #[.val (.int z0), .val (.int z1), .val (.long z2), .second, .val (.int zt), .val (.int zs), .val (.long zl), .second, .val (.ref zo), .val (.int (own_eoc zt zl)), .val (.ref zr), .val (.int (0 : Int32))] [(.int (1 : Int32))])
          refine own_go (fun t k => XS.goto X16.here hx rfl (pc0 := 135) (pc' := 139) rfl (hb hby at_135) (by decide) (by decide) k) ?_
          show own_WP _ _ _ _ T16 (mkF m 139 #[.val (.int z0), .val (.int z1), .val (.long z2), .second, .val (.int zt), .val (.int zs), .val (.long zl), .second, .val (.ref zo), .val (.int (own_eoc zt zl)), .val (.ref zr), .val (.int (0 : Int32))] [(.int (1 : Int32))])
          refine own_retN X16 hx Bd.notSynchronized (t := .boolean) (by simp) Bd.returns (hb hby at_139) (by decide) (by decide) ?_
          exact ⟨rfl, N16⟩
      · show own_WP _ _ _ _ T15 (mkF m 90 #[.val (.int z0), .val (.int z1), .val (.long z2), .second, .val (.int zt), .val (.int zs), .val (.long zl), .second, .val (.ref zo), .val (.int (own_eoc zt zl)), .unset, .unset] [])
        refine own_go (fun t k => XS.iload X15.here hx rfl (hb hby at_90) rfl  k) ?_
        show own_WP _ _ _ _ T15 (mkF m 92 #[.val (.int z0), .val (.int z1), .val (.long z2), .second, .val (.int zt), .val (.int zs), .val (.long zl), .second, .val (.ref zo), .val (.int (own_eoc zt zl)), .unset, .unset] [(.int zt)])
        refine own_go (fun t k => XS.lload X15.here hx rfl (hb hby at_92) rfl  k) ?_
        show own_WP _ _ _ _ T15 (mkF m 94 #[.val (.int z0), .val (.int z1), .val (.long z2), .second, .val (.int zt), .val (.int zs), .val (.long zl), .second, .val (.ref zo), .val (.int (own_eoc zt zl)), .unset, .unset] [(.long zl), (.int zt)])
        obtain ⟨_, _, ⟨T23, L23, k23, n23⟩, -, X23, ⟨Lc23, hQ23, l23, y23, z23⟩, st23⟩ := Jvm.LawKit.callS X15 hx (y := (⟨"com/example/kuvert/kuvert/cms/Der", "header", "(IJ)[B"⟩ : MethodName)) hown (mvT hZ (hw _ (List.mem_of_getElem? (i := 24) rfl))) (mvT hZ (hw _ (List.mem_of_getElem? (i := 25) rfl))) (mvT hZ (hw _ (List.mem_of_getElem? (i := 26) rfl))) (mvT hZ (hw _ (List.mem_of_getElem? (i := 27) rfl))) (by decide) (backOf (W := 0) (rm5b l Z a0 hw [] zt zl  T7.heap n0 (own_le Z0 K14) (show ¬ zl < 128 from hs)) hZ (hw _ (List.mem_of_getElem? (i := 27) rfl)) (hw _ (List.mem_of_getElem? (i := 26) rfl)) (by decide) (by decide)) (g := (mkF m 94 #[.val (.int z0), .val (.int z1), .val (.long z2), .second, .val (.int zt), .val (.int zs), .val (.long zl), .second, .val (.ref zo), .val (.int (own_eoc zt zl)), .unset, .unset] [(.long zl), (.int zt)])) rfl (by rw [hml]; rfl) (argsL := [(.int zt), (.long zl)]) (rest := []) (lenOf own_pd58851 rfl) rfl (by show 2 * 0 + _ ≤ _; exact Nat.le_of_eq rfl) (hb hby at_94) (fun _ _ => ⟨rfl, eq15, (by decide : 1 + 1 ≤ _), (by decide : 2 + 10 ≤ _)⟩)
        dsimp only [Pt.U, Pt.locs, Pt.cells, Pt.slots] at X23 l23 y23 z23 st23 hQ23
        subst l23 y23 z23
        obtain ⟨zr, rk24, rn25, rv26, rfl, N23q, Kc23, g_zr, szc_zr, f27, hn2_23⟩ := hQ23
        have N23 := Fr.app N15 N23q
        refine own_go st23 ?_
        have sz_zr : h0.size ≤ zr := Nat.le_trans K14.1 szc_zr
        have ne_zo_zr : zo ≠ zr := Nat.ne_of_lt (Nat.lt_of_lt_of_le f8.lt szc_zr)
        have f28 : Exa Z T23.heap zo "com/example/kuvert/kuvert/cms/DerReader$Header" := f8.keep Kc23
        have f29 : Fld Z T23.heap zo "com/example/kuvert/kuvert/cms/DerReader$Header" "tag" "I" (.int zt) := f9.keep Kc23 own_nm0
        have f30 : Fld Z T23.heap zo "com/example/kuvert/kuvert/cms/DerReader$Header" "length" "J" (.long zl) := f10.keep Kc23 own_nm0
        have K31 : Keep h0 T23.heap [] := K14.trans Kc23 (fun x hx => by cases hx)
        show own_WP _ _ _ _ T23 (mkF m 97 #[.val (.int z0), .val (.int z1), .val (.long z2), .second, .val (.int zt), .val (.int zs), .val (.long zl), .second, .val (.ref zo), .val (.int (own_eoc zt zl)), .unset, .unset] [(.ref zr)])
        refine own_go (fun t k => XS.astore X23.here hx rfl (hb hby at_97) rfl rfl (l' := #[.val (.int z0), .val (.int z1), .val (.long z2), .second, .val (.int zt), .val (.int zs), .val (.long zl), .second, .val (.ref zo), .val (.int (own_eoc zt zl)), .val (.ref zr), .unset]) rfl k) ?_
        show own_WP _ _ _ _ T23 (mkF m 99 #[.val (.int z0), .val (.int z1), .val (.long z2), .second, .val (.int zt), .val (.int zs), .val (.long zl), .second, .val (.ref zo), .val (.int (own_eoc zt zl)), .val (.ref zr), .unset] [])
        refine own_go (fun t k => XS.aload X23.here hx rfl (hb hby at_99) rfl rfl  k) ?_
        show own_WP _ _ _ _ T23 (mkF m 101 #[.val (.int z0), .val (.int z1), .val (.long z2), .second, .val (.int zt), .val (.int zs), .val (.long zl), .second, .val (.ref zo), .val (.int (own_eoc zt zl)), .val (.ref zr), .unset] [(.ref zr)])
        refine own_len X23 hx hZ rfl f27 (hb hby at_101) ?_
        show own_WP _ _ _ _ T23 (mkF m 102 #[.val (.int z0), .val (.int z1), .val (.long z2), .second, .val (.int zt), .val (.int zs), .val (.long zl), .second, .val (.ref zo), .val (.int (own_eoc zt zl)), .val (.ref zr), .unset] [(.int rn25)])
        refine own_go (fun t k => XS.iconst X23.here hx rfl (hb hby at_102) k) ?_
        show own_WP _ _ _ _ T23 (mkF m 103 #[.val (.int z0), .val (.int z1), .val (.long z2), .second, .val (.int zt), .val (.int zs), .val (.long zl), .second, .val (.ref zo), .val (.int (own_eoc zt zl)), .val (.ref zr), .unset] [(.int (2 : Int32)), (.int rn25)])
        have hc103 : ¬ (rn25 = (2 : Int32)) := by
          exact hn2_23
        refine own_go (fun t k => XS.icmpYes X23.here hx rfl (pc0 := 103) (pc' := 124) rfl (hb hby at_103) rfl (feq hc103).2 (by decide) (by decide) k) ?_
        show own_WP _ _ _ _ T23 (mkF m 124 #[.val (.int z0), .val (.int z1), .val (.long z2), .second, .val (.int zt), .val (.int zs), .val (.long zl), .second, .val (.ref zo), .val (.int (own_eoc zt zl)), .val (.ref zr), .unset] [])
        refine own_go (fun t k => XS.iconst X23.here hx rfl (hb hby at_124) k) ?_
        show own_WP _ _ _ _ T23 (mkF m 125 #[.val (.int z0), .val (.int z1), .val (.long z2), .second, .val (.int zt), .val (.int zs), .val (.long zl), .second, .val (.ref zo), .val (.int (own_eoc zt zl)), .val (.ref zr), .unset] [(.int (0 : Int32))])
        refine own_go (fun t k => XS.istore X23.here hx rfl (hb hby at_125) rfl (l' := #[.val (.int z0), .val (.int z1), .val (.long z2), .second, .val (.int zt), .val (.int zs), .val (.long zl), .second, .val (.ref zo), .val (.int (own_eoc zt zl)), .val (.ref zr), .val (.int (0 : Int32))]) rfl k) ?_
        show own_WP _ _ _ _ T23 (mkF m 127 #[.val (.int z0), .val (.int z1), .val (.long z2), .second, .val (.int zt), .val (.int zs), .val (.long zl), .second, .val (.ref zo), .val (.int (own_eoc zt zl)), .val (.ref zr), .val (.int (0 : Int32))] [])
        refine own_go (fun t k => XS.iload X23.here hx rfl (hb hby at_127) rfl  k) ?_
        show own_WP _ _ _ _ T23 (mkF m 129 #[.val (.int z0), .val (.int z1), .val (.long z2), .second, .val (.int zt), .val (.int zs), .val (.long zl), .second, .val (.ref zo), .val (.int (own_eoc zt zl)), .val (.ref zr), .val (.int (0 : Int32))] [(.int (own_eoc zt zl))])
        refine own_go (fun t k => XS.iload X23.here hx rfl (hb hby at_129) rfl  k) ?_
        show own_WP _ _ _ _ T23 (mkF m 131 #[.val (.int z0), .val (.int z1), .val (.long z2), .second, .val (.int zt), .val (.int zs), .val (.long zl), .second, .val (.ref zo), .val (.int (own_eoc zt zl)), .val (.ref zr), .val (.int (0 : Int32))] [(.int (0 : Int32)), (.int (own_eoc zt zl))])
        have hc131 : (own_eoc zt zl) = (0 : Int32) := by
          exact own_fb hs
        refine own_go (fun t k => XS.icmpNo X23.here hx rfl (hb hby at_131) rfl (teq hc131).2 k) ?_
        show own_WP _ _ _ _ T23 (mkF m 134 #[.val (.int z0), .val (.int z1), .val (.long z2), .second, .val (.int zt), .val (.int zs), .val (.long zl), .second, .val (.ref zo), .val (.int (own_eoc zt zl)), .val (.ref zr), .val (.int (0 : Int32))] [])
        refine own_go (fun t k => XS.iconst X23.here hx rfl (hb hby at_134) k) ?_
        show own_WP _ _ _ _ T23 (mkF m 135 #[.val (.int z0), .val (.int z1), .val (.long z2), .second, .val (.int zt), .val (.int zs), .val (.long zl), .second, .val (.ref zo), .val (.int (own_eoc zt zl)), .val (.ref zr), .val (.int (0 : Int32))] [(.int (1 : Int32))])
        refine own_go (fun t k => XS.goto X23.here hx rfl (pc0 := 135) (pc' := 139) rfl (hb hby at_135) (by decide) (by decide) k) ?_
        show own_WP _ _ _ _ T23 (mkF m 139 #[.val (.int z0), .val (.int z1), .val (.long z2), .second, .val (.int zt), .val (.int zs), .val (.long zl), .second, .val (.ref zo), .val (.int (own_eoc zt zl)), .val (.ref zr), .val (.int (0 : Int32))] [(.int (1 : Int32))])
        refine own_retN X23 hx Bd.notSynchronized (t := .boolean) (by simp) Bd.returns (hb hby at_139) (by decide) (by decide) ?_
        exact ⟨rfl, N23⟩
    show own_WP _ _ _ _ T1 (mkF m 22 #[.val (.int z0), .val (.int z1), .val (.long z2), .second, .val (.int zt), .val (.int zs), .unset, .unset, .unset, .unset, .unset, .unset] [])
    refine own_go (fun t k => XS.iload X1.here hx rfl (hb hby at_22) rfl  k) ?_
    show own_WP _ _ _ _ T1 (mkF m 24 #[.val (.int z0), .val (.int z1), .val (.long z2), .second, .val (.int zt), .val (.int zs), .unset, .unset, .unset, .unset, .unset, .unset] [(.int zs)])
    by_cases hc24 : zs = (0 : Int32)
    · refine own_go (fun t k => XS.ifNo X1.here hx rfl (hb hby at_24) rfl ((if0 _ _).trans (teq hc24).2) k) ?_
      show own_WP _ _ _ _ T1 (mkF m 27 #[.val (.int z0), .val (.int z1), .val (.long z2), .second, .val (.int zt), .val (.int zs), .unset, .unset, .unset, .unset, .unset, .unset] [])
      refine own_go (fun t k => XS.lconst X1.here hx rfl (hb hby at_27) k) ?_
      show own_WP _ _ _ _ T1 (mkF m 28 #[.val (.int z0), .val (.int z1), .val (.long z2), .second, .val (.int zt), .val (.int zs), .unset, .unset, .unset, .unset, .unset, .unset] [(.long (0 : Int64))])
      refine own_go (fun t k => XS.lstore X1.here hx rfl (hb hby at_28) rfl (l' := #[.val (.int z0), .val (.int z1), .val (.long z2), .second, .val (.int zt), .val (.int zs), .val (.long (0 : Int64)), .second, .unset, .unset, .unset, .unset]) rfl k) ?_
      show own_WP _ _ _ _ T1 (mkF m 30 #[.val (.int z0), .val (.int z1), .val (.long z2), .second, .val (.int zt), .val (.int zs), .val (.long (0 : Int64)), .second, .unset, .unset, .unset, .unset] [])
      refine own_go (fun t k => XS.goto X1.here hx rfl (pc0 := 30) (pc' := 70) rfl (hb hby at_30) (by decide) (by decide) k) ?_
      show own_WP _ _ _ _ T1 (mkF m 70 #[.val (.int z0), .val (.int z1), .val (.long z2), .second, .val (.int zt), .val (.int zs), .val (.long (0 : Int64)), .second, .unset, .unset, .unset, .unset] [])
      exact J70 (0 : Int64) _ _ _ X1 e1 N1 K1j  (by decide)
    · refine own_go (fun t k => XS.ifYes X1.here hx rfl (pc0 := 24) (pc' := 33) rfl (hb hby at_24) rfl ((if0 _ _).trans (feq hc24).2) (by decide) (by decide) k) ?_
      show own_WP _ _ _ _ T1 (mkF m 33 #[.val (.int z0), .val (.int z1), .val (.long z2), .second, .val (.int zt), .val (.int zs), .unset, .unset, .unset, .unset, .unset, .unset] [])
      refine own_go (fun t k => XS.iload X1.here hx rfl (hb hby at_33) rfl  k) ?_
      show own_WP _ _ _ _ T1 (mkF m 35 #[.val (.int z0), .val (.int z1), .val (.long z2), .second, .val (.int zt), .val (.int zs), .unset, .unset, .unset, .unset, .unset, .unset] [(.int zs)])
      refine own_go (fun t k => XS.iconst X1.here hx rfl (hb hby at_35) k) ?_
      show own_WP _ _ _ _ T1 (mkF m 36 #[.val (.int z0), .val (.int z1), .val (.long z2), .second, .val (.int zt), .val (.int zs), .unset, .unset, .unset, .unset, .unset, .unset] [(.int (1 : Int32)), (.int zs)])
      by_cases hc36 : zs = (1 : Int32)
      · refine own_go (fun t k => XS.icmpNo X1.here hx rfl (hb hby at_36) rfl (teq hc36).2 k) ?_
        show own_WP _ _ _ _ T1 (mkF m 39 #[.val (.int z0), .val (.int z1), .val (.long z2), .second, .val (.int zt), .val (.int zs), .unset, .unset, .unset, .unset, .unset, .unset] [])
        refine own_go (fun t k => X1.ldc2Long hx hown (mvT hZ (hw _ (List.mem_of_getElem? (i := 40) rfl))) (g := (mkF m 39 #[.val (.int z0), .val (.int z1), .val (.long z2), .second, .val (.int zt), .val (.int zs), .unset, .unset, .unset, .unset, .unset, .unset] [])) rfl (hb hby at_39) t k) ?_
        show own_WP _ _ _ _ T1 (mkF m 42 #[.val (.int z0), .val (.int z1), .val (.long z2), .second, .val (.int zt), .val (.int zs), .unset, .unset, .unset, .unset, .unset, .unset] [(.long (-1 : Int64))])
        refine own_go (fun t k => XS.lstore X1.here hx rfl (hb hby at_42) rfl (l' := #[.val (.int z0), .val (.int z1), .val (.long z2), .second, .val (.int zt), .val (.int zs), .val (.long (-1 : Int64)), .second, .unset, .unset, .unset, .unset]) rfl k) ?_
        show own_WP _ _ _ _ T1 (mkF m 44 #[.val (.int z0), .val (.int z1), .val (.long z2), .second, .val (.int zt), .val (.int zs), .val (.long (-1 : Int64)), .second, .unset, .unset, .unset, .unset] [])
        refine own_go (fun t k => XS.goto X1.here hx rfl (pc0 := 44) (pc' := 70) rfl (hb hby at_44) (by decide) (by decide) k) ?_
        show own_WP _ _ _ _ T1 (mkF m 70 #[.val (.int z0), .val (.int z1), .val (.long z2), .second, .val (.int zt), .val (.int zs), .val (.long (-1 : Int64)), .second, .unset, .unset, .unset, .unset] [])
        exact J70 (-1 : Int64) _ _ _ X1 e1 N1 K1j  (by decide)
      · refine own_go (fun t k => XS.icmpYes X1.here hx rfl (pc0 := 36) (pc' := 47) rfl (hb hby at_36) rfl (feq hc36).2 (by decide) (by decide) k) ?_
        show own_WP _ _ _ _ T1 (mkF m 47 #[.val (.int z0), .val (.int z1), .val (.long z2), .second, .val (.int zt), .val (.int zs), .unset, .unset, .unset, .unset, .unset, .unset] [])
        refine own_go (fun t k => XS.iload X1.here hx rfl (hb hby at_47) rfl  k) ?_
        show own_WP _ _ _ _ T1 (mkF m 49 #[.val (.int z0), .val (.int z1), .val (.long z2), .second, .val (.int zt), .val (.int zs), .unset, .unset, .unset, .unset, .unset, .unset] [(.int zs)])
        refine own_go (fun t k => XS.iconst X1.here hx rfl (hb hby at_49) k) ?_
        show own_WP _ _ _ _ T1 (mkF m 50 #[.val (.int z0), .val (.int z1), .val (.long z2), .second, .val (.int zt), .val (.int zs), .unset, .unset, .unset, .unset, .unset, .unset] [(.int (2 : Int32)), (.int zs)])
        by_cases hc50 : zs = (2 : Int32)
        · refine own_go (fun t k => XS.icmpNo X1.here hx rfl (hb hby at_50) rfl (teq hc50).2 k) ?_
          show own_WP _ _ _ _ T1 (mkF m 53 #[.val (.int z0), .val (.int z1), .val (.long z2), .second, .val (.int zt), .val (.int zs), .unset, .unset, .unset, .unset, .unset, .unset] [])
          refine own_go (fun t k => XS.lloadN X1.here hx rfl (hb hby at_53) rfl  k) ?_
          show own_WP _ _ _ _ T1 (mkF m 54 #[.val (.int z0), .val (.int z1), .val (.long z2), .second, .val (.int zt), .val (.int zs), .unset, .unset, .unset, .unset, .unset, .unset] [(.long z2)])
          refine own_go (fun t k => X1.ldc2Long hx hown (mvT hZ (hw _ (List.mem_of_getElem? (i := 39) rfl))) (g := (mkF m 54 #[.val (.int z0), .val (.int z1), .val (.long z2), .second, .val (.int zt), .val (.int zs), .unset, .unset, .unset, .unset, .unset, .unset] [(.long z2)])) rfl (hb hby at_54) t k) ?_
          show own_WP _ _ _ _ T1 (mkF m 57 #[.val (.int z0), .val (.int z1), .val (.long z2), .second, .val (.int zt), .val (.int zs), .unset, .unset, .unset, .unset, .unset, .unset] [(.long (127 : Int64)), (.long z2)])
          refine own_go (fun t k => XS.land X1.here hx rfl (hb hby at_57) rfl k) ?_
          show own_WP _ _ _ _ T1 (mkF m 58 #[.val (.int z0), .val (.int z1), .val (.long z2), .second, .val (.int zt), .val (.int zs), .unset, .unset, .unset, .unset, .unset, .unset] [(.long (z2 &&& (127 : Int64)))])
          refine own_go (fun t k => XS.lstore X1.here hx rfl (hb hby at_58) rfl (l' := #[.val (.int z0), .val (.int z1), .val (.long z2), .second, .val (.int zt), .val (.int zs), .val (.long (z2 &&& (127 : Int64))), .second, .unset, .unset, .unset, .unset]) rfl k) ?_
          show own_WP _ _ _ _ T1 (mkF m 60 #[.val (.int z0), .val (.int z1), .val (.long z2), .second, .val (.int zt), .val (.int zs), .val (.long (z2 &&& (127 : Int64))), .second, .unset, .unset, .unset, .unset] [])
          refine own_go (fun t k => XS.goto X1.here hx rfl (pc0 := 60) (pc' := 70) rfl (hb hby at_60) (by decide) (by decide) k) ?_
          show own_WP _ _ _ _ T1 (mkF m 70 #[.val (.int z0), .val (.int z1), .val (.long z2), .second, .val (.int zt), .val (.int zs), .val (.long (z2 &&& (127 : Int64))), .second, .unset, .unset, .unset, .unset] [])
          exact J70 ((z2 &&& (127 : Int64))) _ _ _ X1 e1 N1 K1j  (by rw [Jvm.Kit.i64_mask _ 127 (k := 7) (by decide) (by decide)]; omega)
        · refine own_go (fun t k => XS.icmpYes X1.here hx rfl (pc0 := 50) (pc' := 63) rfl (hb hby at_50) rfl (feq hc50).2 (by decide) (by decide) k) ?_
          show own_WP _ _ _ _ T1 (mkF m 63 #[.val (.int z0), .val (.int z1), .val (.long z2), .second, .val (.int zt), .val (.int zs), .unset, .unset, .unset, .unset, .unset, .unset] [])
          refine own_go (fun t k => XS.lloadN X1.here hx rfl (hb hby at_63) rfl  k) ?_
          show own_WP _ _ _ _ T1 (mkF m 64 #[.val (.int z0), .val (.int z1), .val (.long z2), .second, .val (.int zt), .val (.int zs), .unset, .unset, .unset, .unset, .unset, .unset] [(.long z2)])
          refine own_go (fun t k => X1.ldc2Long hx hown (mvT hZ (hw _ (List.mem_of_getElem? (i := 0) rfl))) (g := (mkF m 64 #[.val (.int z0), .val (.int z1), .val (.long z2), .second, .val (.int zt), .val (.int zs), .unset, .unset, .unset, .unset, .unset, .unset] [(.long z2)])) rfl (hb hby at_64) t k) ?_
          show own_WP _ _ _ _ T1 (mkF m 67 #[.val (.int z0), .val (.int z1), .val (.long z2), .second, .val (.int zt), .val (.int zs), .unset, .unset, .unset, .unset, .unset, .unset] [(.long (9223372036854775807 : Int64)), (.long z2)])
          refine own_go (fun t k => XS.land X1.here hx rfl (hb hby at_67) rfl k) ?_
          show own_WP _ _ _ _ T1 (mkF m 68 #[.val (.int z0), .val (.int z1), .val (.long z2), .second, .val (.int zt), .val (.int zs), .unset, .unset, .unset, .unset, .unset, .unset] [(.long (z2 &&& (9223372036854775807 : Int64)))])
          refine own_go (fun t k => XS.lstore X1.here hx rfl (hb hby at_68) rfl (l' := #[.val (.int z0), .val (.int z1), .val (.long z2), .second, .val (.int zt), .val (.int zs), .val (.long (z2 &&& (9223372036854775807 : Int64))), .second, .unset, .unset, .unset, .unset]) rfl k) ?_
          show own_WP _ _ _ _ T1 (mkF m 70 #[.val (.int z0), .val (.int z1), .val (.long z2), .second, .val (.int zt), .val (.int zs), .val (.long (z2 &&& (9223372036854775807 : Int64))), .second, .unset, .unset, .unset, .unset] [])
          exact J70 ((z2 &&& (9223372036854775807 : Int64))) _ _ _ X1 e1 N1 K1j  (by rw [Jvm.Kit.i64_mask _ 9223372036854775807 (k := 63) (by decide) (by decide)]; omega)
  show own_WP _ _ _ _ s₁ (mkF m 0 #[.val (.int z0), .val (.int z1), .val (.long z2), .second, .unset, .unset, .unset, .unset, .unset, .unset, .unset, .unset] [])
  refine own_go (fun t k => XS.iloadN X0.here hx rfl (hb hby at_0) rfl  k) ?_
  show own_WP _ _ _ _ s₁ (mkF m 1 #[.val (.int z0), .val (.int z1), .val (.long z2), .second, .unset, .unset, .unset, .unset, .unset, .unset, .unset, .unset] [(.int z1)])
  refine own_go (fun t k => XS.iconst X0.here hx rfl (hb hby at_1) k) ?_
  show own_WP _ _ _ _ s₁ (mkF m 2 #[.val (.int z0), .val (.int z1), .val (.long z2), .second, .unset, .unset, .unset, .unset, .unset, .unset, .unset, .unset] [(.int (4 : Int32)), (.int z1)])
  refine own_go (fun t k => XS.iand X0.here hx rfl (hb hby at_2) rfl k) ?_
  show own_WP _ _ _ _ s₁ (mkF m 3 #[.val (.int z0), .val (.int z1), .val (.long z2), .second, .unset, .unset, .unset, .unset, .unset, .unset, .unset, .unset] [(.int (z1 &&& (4 : Int32)))])
  by_cases hc3 : (z1 &&& (4 : Int32)) = (0 : Int32)
  · refine own_go (fun t k => XS.ifYes X0.here hx rfl (pc0 := 3) (pc' := 10) rfl (hb hby at_3) rfl ((if0 _ _).trans (teq hc3).1) (by decide) (by decide) k) ?_
    show own_WP _ _ _ _ s₁ (mkF m 10 #[.val (.int z0), .val (.int z1), .val (.long z2), .second, .unset, .unset, .unset, .unset, .unset, .unset, .unset, .unset] [])
    refine own_go (fun t k => XS.iloadN X0.here hx rfl (hb hby at_10) rfl  k) ?_
    show own_WP _ _ _ _ s₁ (mkF m 11 #[.val (.int z0), .val (.int z1), .val (.long z2), .second, .unset, .unset, .unset, .unset, .unset, .unset, .unset, .unset] [(.int z0)])
    refine own_go (fun t k => XS.sipush X0.here hx rfl (hb hby at_11) k) ?_
    show own_WP _ _ _ _ s₁ (mkF m 14 #[.val (.int z0), .val (.int z1), .val (.long z2), .second, .unset, .unset, .unset, .unset, .unset, .unset, .unset, .unset] [(.int (255 : Int32)), (.int z0)])
    refine own_go (fun t k => XS.iand X0.here hx rfl (hb hby at_14) rfl k) ?_
    show own_WP _ _ _ _ s₁ (mkF m 15 #[.val (.int z0), .val (.int z1), .val (.long z2), .second, .unset, .unset, .unset, .unset, .unset, .unset, .unset, .unset] [(.int (z0 &&& (255 : Int32)))])
    refine own_go (fun t k => XS.istore X0.here hx rfl (hb hby at_15) rfl (l' := #[.val (.int z0), .val (.int z1), .val (.long z2), .second, .val (.int (z0 &&& (255 : Int32))), .unset, .unset, .unset, .unset, .unset, .unset, .unset]) rfl k) ?_
    show own_WP _ _ _ _ s₁ (mkF m 17 #[.val (.int z0), .val (.int z1), .val (.long z2), .second, .val (.int (z0 &&& (255 : Int32))), .unset, .unset, .unset, .unset, .unset, .unset, .unset] [])
    exact J17 ((z0 &&& (255 : Int32))) _ _ _ X0 e0 N0 K0  (by rw [Jvm.Kit.i32_mask _ 255 (k := 8) (by decide) (by decide)]; omega) (by rw [Jvm.Kit.i32_mask _ 255 (k := 8) (by decide) (by decide)]; omega)
  · refine own_go (fun t k => XS.ifNo X0.here hx rfl (hb hby at_3) rfl ((if0 _ _).trans (feq hc3).1) k) ?_
    show own_WP _ _ _ _ s₁ (mkF m 6 #[.val (.int z0), .val (.int z1), .val (.long z2), .second, .unset, .unset, .unset, .unset, .unset, .unset, .unset, .unset] [])
    refine own_go (fun t k => XS.iconst X0.here hx rfl (hb hby at_6) k) ?_
    show own_WP _ _ _ _ s₁ (mkF m 7 #[.val (.int z0), .val (.int z1), .val (.long z2), .second, .unset, .unset, .unset, .unset, .unset, .unset, .unset, .unset] [(.int (0 : Int32))])
    refine own_go (fun t k => XS.goto X0.here hx rfl (pc0 := 7) (pc' := 15) rfl (hb hby at_7) (by decide) (by decide) k) ?_
    show own_WP _ _ _ _ s₁ (mkF m 15 #[.val (.int z0), .val (.int z1), .val (.long z2), .second, .unset, .unset, .unset, .unset, .unset, .unset, .unset, .unset] [(.int (0 : Int32))])
    refine own_go (fun t k => XS.istore X0.here hx rfl (hb hby at_15) rfl (l' := #[.val (.int z0), .val (.int z1), .val (.long z2), .second, .val (.int (0 : Int32)), .unset, .unset, .unset, .unset, .unset, .unset, .unset]) rfl k) ?_
    show own_WP _ _ _ _ s₁ (mkF m 17 #[.val (.int z0), .val (.int z1), .val (.long z2), .second, .val (.int (0 : Int32)), .unset, .unset, .unset, .unset, .unset, .unset, .unset] [])
    exact J17 (0 : Int32) _ _ _ X0 e0 N0 K0  (by decide) (by decide)
set_option maxRecDepth 65536 in
set_option maxHeartbeats 40000000 in
theorem comes_1 {Post : Tables → Env → Array Value → State → Outcome → State → Prop} (hpost : ∀ tb e args s v u, (limb_1_1.after args s (.returned v) u = true ∧ limb_1_2.after args s (.returned v) u = true ∧ True) → FrameEnd s (.returned v) u (Jvm.fieldLocs frame_1_writes args s ++ Jvm.arrayLocs frame_1_arrays args s ++ Jvm.staticLocs frame_1_statics s) 16 128 → Post tb e args s (.returned v) u) :
    ArmFor flags0 classFile x code maxLocals ret World_1 tables_1 room_1 Calls_1 rest_1 Pre_1 Post := by
  intro l hfl _ _ p e ha hc hk s m args below hf hA hF happ hP
  obtain ⟨hcalls, hrest, hpre⟩ := hP
  obtain ⟨-, -, -, hnamed, -, -, -, hat⟩ := (Spec.applies_iff hf).mp happ
  obtain ⟨hg, hn⟩ := and_e (Cond.before_iff.mp (show (Jvm.Cond.and given_1 narrow_1).before args s = true from hpre))
  obtain ⟨u0, v0⟩ := and_e hg
  obtain ⟨u1, v1⟩ := and_e v0
  obtain ⟨u2, v2⟩ := and_e v1
  obtain ⟨w0, w1, w2, rfl⟩ : ∃ w0 w1 w2 : Value, args = #[w0, w1, w2] := by
    have hs : args.size = 3 := by simpa [Cond.value, given_1] using u0
    obtain ⟨L⟩ := args
    match L, hs with
    | [w0, w1, w2], _ => exact ⟨w0, w1, w2, rfl⟩
  have hw := fun d (hd : d ∈ tables_1) => atoms_spec (ws := Jvm.Cond.code x code maxLocals ret :: tables_1) hat d (List.mem_cons_of_mem _ hd)
  obtain ⟨i0, ei0⟩ := is_v u1
  obtain rfl : w0 = (.int i0) := Option.some.inj ei0
  obtain ⟨i1, ei1⟩ := is_v u2
  obtain rfl : w1 = (.int i1) := Option.some.inj ei1
  obtain ⟨i2, ei2⟩ := isL_v v2
  obtain rfl : w2 = (.long i2) := Option.some.inj ei2
  obtain ⟨n, o, h1, h2, h3, _, L, rfl, ⟨rfl, N⟩, hq⟩ := rm0 l s _ hw tables_1 i0 i1 i2  s.heap s.heap.size (Nat.le_refl _)  p e ha hc hk s m _ below hf ((Spec.applies_iff_loose hf).mp happ).1 ⟨rfl, State.Warmed39.refl s, rfl⟩ trivial
  refine ⟨n, _, h1, h2, h3, hpost _ _ _ _ _ _ ⟨Cond.after_iff.mpr rfl, Cond.after_iff.mpr (eq_i res_at (Term.int_eval (1)) rfl), trivial⟩ ⟨hq.1, hq.2.1, (hq.2.2.sift fun y hy => Or.inr (N y hy)).mono (by decide) (by decide)⟩⟩
theorem main_1_1 : Claimed_1_1 := comes_1 fun _ _ _ _ _ _ h hF => ⟨h.1, hF⟩
theorem main_1_2 : Claimed_1_2 := comes_1 fun _ _ _ _ _ _ h hF => ⟨h.2.1, hF⟩
end Jvm.Pilot.@@N@@
namespace Jvm.Pilot.@@N@@
open Jvm Jvm.ClassFile Sem Op Lib Jvm.Free Jvm.Stand Jvm.Pilot.@@N@@.Jvm.D
/-! MADE BY PROGRAM (witnessworld.py) out of the Statement's table words and the real class files: 17 classes; the members and pool entries that the words name. The judged class is class 1, her method 1. -/
namespace start1
open Jvm.ClassFile
def u (s : String) : CpInfo := .utf8 (stringToUtf16 s)
/-- a pool by its gaps: so many unusable entries, then the entry; so many at the end -/
def gap : Nat → List CpInfo → List CpInfo
  | 0, r => r
  | n + 1, r => .unusable :: gap n r
def poolList (es : List (Nat × CpInfo)) (last : Nat) : List CpInfo := es.foldr (fun e r => gap e.1 (e.2 :: r)) (gap last [])
def pool (es : List (Nat × CpInfo)) (last : Nat) : Array CpInfo := ⟨poolList es last⟩
def fileOf (pool : Array CpInfo) (this : Nat) (attrs : Array Attribute := #[]) (ms : Array MethodInfo := #[]) (fl : Nat := 33) (sup : Nat := 0) (ifs : Array Nat := #[]) (fds : Array FieldInfo := #[]) : ClassFile where
  minorVersion := 0
  majorVersion := 65
  constantPool := pool
  accessFlags := fl
  thisClass := this
  superClass := sup
  interfaces := ifs
  fields := fds
  methods := ms
  attributes := attrs
def plain (name : String) (sup : Option ClassId) : Class where
  name := name
  kind := .ordinary
  loader := none
  accessFlags := 33
  super := sup
  interfaces := #[]
  cf := none
  fields := #[]
  methods := #[]
  instanceTypes := #[]
  staticTypes := #[]
  resolved := #[]
  callSites := []
  init := .initialized
  statics := none
  mirror := none

def pool0 : Array CpInfo := pool [(5, u "<init>"), (0, u "()V"), (1, .class_ 10), (1, u "java/lang/Object")] 113

def k0c0 : Code := { maxStack := 0, maxLocals := 1, code := object_method_1_code, exceptionTable := #[], attributes := #[] }
def k0m0 : Method := { name := "<init>", desc := "()V", sig := { parameters := [], returnType := none }, accessFlags := 1, code := some k0c0 }
/-- java/lang/Object -/
def k0 : Class := { plain "java/lang/Object" none with
  accessFlags := 33
  interfaces := #[]
  cf := some (fileOf pool0 8 #[] #[{ accessFlags := 1, nameIndex := 5, descriptorIndex := 6, attributes := #[] }] 33 0 #[] #[])
  fields := #[]
  methods := #[k0m0]
  instanceTypes := #[]
  staticTypes := #[]
  resolved := Array.replicate 124 none
  statics := none }

def pool1 : Array CpInfo := pool [(2, .class_ 4), (1, u "java/lang/Object"), (0, u "<init>"), (0, u "()V"), (0, .long 18446744073709551615), (1, .long 127), (3, .long 9223372036854775807), (1, .class_ 16), (0, u "com/example/kuvert/kuvert/cms/DerReader$Header"), (0, .methodref 15 18), (0, .nameAndType 5 19), (0, u "(IJ)V"), (0, .methodref 15 21), (0, .nameAndType 22 23), (0, u "isEndOfContents"), (0, u "()Z"), (0, .methodref 25 26), (0, .class_ 27), (0, .nameAndType 28 29), (0, u "com/example/kuvert/kuvert/cms/Der"), (0, u "header"), (0, u "(IJ)[B"), (0, .class_ 31), (0, u "com/example/kuvert/kuvert/cms/HeaderIsEndOfContentsPinLaw"), (2, u "law"), (0, u "(IIJ)Z")] 9

def k1m0 : Method := { name := "<init>", desc := "()V", sig := { parameters := [], returnType := none }, accessFlags := 1, code := none }
def k1c1 : Code := { maxStack := 5, maxLocals := 12, code := code, exceptionTable := #[], attributes := #[] }
def k1m1 : Method := { name := "law", desc := "(IIJ)Z", sig := { parameters := [.int, .int, .long], returnType := some .boolean }, accessFlags := 9, code := some k1c1 }
/-- com/example/kuvert/kuvert/cms/HeaderIsEndOfContentsPinLaw -/
def k1 : Class := { plain "com/example/kuvert/kuvert/cms/HeaderIsEndOfContentsPinLaw" (some 0) with
  accessFlags := 49
  interfaces := #[]
  cf := some (fileOf pool1 30 #[] #[{ accessFlags := 1, nameIndex := 5, descriptorIndex := 6, attributes := #[] }, { accessFlags := 9, nameIndex := 34, descriptorIndex := 35, attributes := #[] }] 49 2 #[] #[])
  fields := #[]
  methods := #[k1m0, k1m1]
  instanceTypes := #[]
  staticTypes := #[]
  resolved := Array.replicate 45 none
  statics := none }

def pool2 : Array CpInfo := pool [(1, .methodref 2 3), (0, .class_ 4), (0, .nameAndType 5 6), (0, u "java/lang/Object"), (0, u "<init>"), (0, u "()V"), (0, .class_ 8), (0, u "java/lang/Record")] 13

def k2c0 : Code := { maxStack := 1, maxLocals := 1, code := jdk_30_method_1_code, exceptionTable := #[], attributes := #[] }
def k2m0 : Method := { name := "<init>", desc := "()V", sig := { parameters := [], returnType := none }, accessFlags := 4, code := some k2c0 }
/-- java/lang/Record -/
def k2 : Class := { plain "java/lang/Record" (some 0) with
  accessFlags := 1057
  interfaces := #[]
  cf := some (fileOf pool2 7 #[] #[{ accessFlags := 4, nameIndex := 5, descriptorIndex := 6, attributes := #[] }] 1057 2 #[] #[])
  fields := #[]
  methods := #[k2m0]
  instanceTypes := #[]
  staticTypes := #[]
  resolved := Array.replicate 22 none
  statics := none }

def pool3 : Array CpInfo := pool [(1, .methodref 2 3), (0, .class_ 4), (0, .nameAndType 5 6), (0, u "java/lang/Record"), (0, u "<init>"), (0, u "()V"), (0, .fieldref 8 9), (0, .class_ 10), (0, .nameAndType 11 12), (0, u "com/example/kuvert/kuvert/cms/DerReader$Header"), (0, u "tag"), (0, u "I"), (0, .fieldref 8 14), (0, .nameAndType 15 16), (0, u "length"), (0, u "J"), (14, u "(IJ)V"), (4, u "()Z"), (1, u "isEndOfContents"), (7, .class_ 47), (0, u "com/example/kuvert/kuvert/cms/DerReader")] 20

def k3c0 : Code := { maxStack := 3, maxLocals := 4, code := prog_61_method_1_code, exceptionTable := #[], attributes := #[] }
def k3m0 : Method := { name := "<init>", desc := "(IJ)V", sig := { parameters := [.int, .long], returnType := none }, accessFlags := 0, code := some k3c0 }
def k3c1 : Code := { maxStack := 4, maxLocals := 1, code := prog_61_method_3_code, exceptionTable := #[], attributes := #[] }
def k3m1 : Method := { name := "isEndOfContents", desc := "()Z", sig := { parameters := [], returnType := some .boolean }, accessFlags := 0, code := some k3c1 }
/-- com/example/kuvert/kuvert/cms/DerReader$Header -/
def k3 : Class := { plain "com/example/kuvert/kuvert/cms/DerReader$Header" (some 2) with
  accessFlags := 48
  interfaces := #[]
  cf := some (fileOf pool3 8 #[.nestHost 46] #[{ accessFlags := 0, nameIndex := 5, descriptorIndex := 31, attributes := #[] }, { accessFlags := 0, nameIndex := 38, descriptorIndex := 36, attributes := #[] }] 48 2 #[] #[{ accessFlags := 18, nameIndex := 11, descriptorIndex := 12, attributes := #[] }, { accessFlags := 18, nameIndex := 15, descriptorIndex := 16, attributes := #[] }])
  fields := #[{ name := "tag", type := .int, accessFlags := 18, slot := 0, constantValue := 0 }, { name := "length", type := .long, accessFlags := 18, slot := 1, constantValue := 0 }]
  methods := #[k3m0, k3m1]
  instanceTypes := #[.int, .long]
  staticTypes := #[]
  resolved := Array.replicate 68 none
  statics := none }

def pool4 : Array CpInfo := pool [(2, .class_ 4), (1, u "java/lang/Object"), (0, u "<init>"), (0, u "()V"), (10, .class_ 19), (1, u "com/example/kuvert/kuvert/cms/Der"), (0, u "header"), (0, u "(IJ)[B"), (33, .long 128), (1, .class_ 58), (0, u "java/lang/Long"), (0, .methodref 57 60), (0, .nameAndType 61 62), (0, u "numberOfLeadingZeros"), (0, u "(J)I"), (102, .class_ 167), (1, u "com/example/kuvert/kuvert/cms/Der$Element"), (6, u "INTEGER"), (0, u "I"), (2, u "OCTET_STRING"), (1, u "NULL"), (1, u "OBJECT_IDENTIFIER"), (1, u "SEQUENCE"), (1, u "SET"), (1, u "BMP_STRING"), (1, u "MAX_OBJECT_IDENTIFIER"), (1, u "CONSTRUCTED")] 57

def k4m0 : Method := { name := "<init>", desc := "()V", sig := { parameters := [], returnType := none }, accessFlags := 2, code := none }
def k4c1 : Code := { maxStack := 7, maxLocals := 6, code := prog_58_method_7_code, exceptionTable := #[], attributes := #[] }
def k4m1 : Method := { name := "header", desc := "(IJ)[B", sig := { parameters := [.int, .long], returnType := some (.array .byte) }, accessFlags := 8, code := some k4c1 }
/-- com/example/kuvert/kuvert/cms/Der -/
def k4 : Class := { plain "com/example/kuvert/kuvert/cms/Der" (some 0) with
  accessFlags := 48
  interfaces := #[]
  cf := some (fileOf pool4 17 #[.nestMembers #[165]] #[{ accessFlags := 2, nameIndex := 5, descriptorIndex := 6, attributes := #[] }, { accessFlags := 8, nameIndex := 20, descriptorIndex := 21, attributes := #[] }] 48 2 #[] #[{ accessFlags := 24, nameIndex := 174, descriptorIndex := 175, attributes := #[] }, { accessFlags := 24, nameIndex := 178, descriptorIndex := 175, attributes := #[] }, { accessFlags := 24, nameIndex := 180, descriptorIndex := 175, attributes := #[] }, { accessFlags := 24, nameIndex := 182, descriptorIndex := 175, attributes := #[] }, { accessFlags := 24, nameIndex := 184, descriptorIndex := 175, attributes := #[] }, { accessFlags := 24, nameIndex := 186, descriptorIndex := 175, attributes := #[] }, { accessFlags := 24, nameIndex := 188, descriptorIndex := 175, attributes := #[] }, { accessFlags := 24, nameIndex := 190, descriptorIndex := 175, attributes := #[] }, { accessFlags := 24, nameIndex := 192, descriptorIndex := 175, attributes := #[] }])
  fields := #[{ name := "INTEGER", type := .int, accessFlags := 24, slot := 0, constantValue := 0 }, { name := "OCTET_STRING", type := .int, accessFlags := 24, slot := 1, constantValue := 0 }, { name := "NULL", type := .int, accessFlags := 24, slot := 2, constantValue := 0 }, { name := "OBJECT_IDENTIFIER", type := .int, accessFlags := 24, slot := 3, constantValue := 0 }, { name := "SEQUENCE", type := .int, accessFlags := 24, slot := 4, constantValue := 0 }, { name := "SET", type := .int, accessFlags := 24, slot := 5, constantValue := 0 }, { name := "BMP_STRING", type := .int, accessFlags := 24, slot := 6, constantValue := 0 }, { name := "MAX_OBJECT_IDENTIFIER", type := .int, accessFlags := 24, slot := 7, constantValue := 0 }, { name := "CONSTRUCTED", type := .int, accessFlags := 24, slot := 8, constantValue := 0 }]
  methods := #[k4m0, k4m1]
  instanceTypes := #[]
  staticTypes := #[.int, .int, .int, .int, .int, .int, .int, .int, .int]
  resolved := Array.replicate 250 none
  statics := none }

def pool5 : Array CpInfo := pool [(1, .class_ 2), (0, u "java/io/Serializable"), (0, .class_ 4), (0, u "java/lang/Object")] 2

/-- java/io/Serializable -/
def k5 : Class := { plain "java/io/Serializable" (some 0) with
  accessFlags := 1537
  interfaces := #[]
  cf := some (fileOf pool5 1 #[] #[] 1537 3 #[] #[])
  fields := #[]
  methods := #[]
  instanceTypes := #[]
  staticTypes := #[]
  resolved := Array.replicate 7 none
  statics := none }

def pool6 : Array CpInfo := pool [(2, .class_ 4), (1, u "java/lang/Object"), (0, u "<init>"), (0, u "()V"), (1, .class_ 10), (1, u "java/lang/Number"), (2, .class_ 14), (0, u "java/io/Serializable"), (0, u "serialVersionUID"), (0, u "J")] 20

def k6m0 : Method := { name := "<init>", desc := "()V", sig := { parameters := [], returnType := none }, accessFlags := 1, code := none }
/-- java/lang/Number -/
def k6 : Class := { plain "java/lang/Number" (some 0) with
  accessFlags := 1057
  interfaces := #[5]
  cf := some (fileOf pool6 8 #[] #[{ accessFlags := 1, nameIndex := 5, descriptorIndex := 6, attributes := #[] }] 1057 2 #[13] #[{ accessFlags := 26, nameIndex := 15, descriptorIndex := 16, attributes := #[] }])
  fields := #[{ name := "serialVersionUID", type := .long, accessFlags := 26, slot := 0, constantValue := 0 }]
  methods := #[k6m0]
  instanceTypes := #[]
  staticTypes := #[.long]
  resolved := Array.replicate 37 none
  statics := none }

def pool7 : Array CpInfo := pool [(1, .class_ 2), (0, u "java/lang/Comparable"), (0, .class_ 4), (0, u "java/lang/Object")] 7

/-- java/lang/Comparable -/
def k7 : Class := { plain "java/lang/Comparable" (some 0) with
  accessFlags := 1537
  interfaces := #[]
  cf := some (fileOf pool7 1 #[] #[] 1537 3 #[] #[])
  fields := #[]
  methods := #[]
  instanceTypes := #[]
  staticTypes := #[]
  resolved := Array.replicate 12 none
  statics := none }

def pool8 : Array CpInfo := pool [(1, .class_ 2), (0, u "java/lang/constant/Constable"), (0, .class_ 4), (0, u "java/lang/Object")] 6

/-- java/lang/constant/Constable -/
def k8 : Class := { plain "java/lang/constant/Constable" (some 0) with
  accessFlags := 1537
  interfaces := #[]
  cf := some (fileOf pool8 1 #[] #[] 1537 3 #[] #[])
  fields := #[]
  methods := #[]
  instanceTypes := #[]
  staticTypes := #[]
  resolved := Array.replicate 11 none
  statics := none }

def pool9 : Array CpInfo := pool [(1, .class_ 2), (0, u "java/lang/constant/ConstantDesc"), (0, .class_ 4), (0, u "java/lang/Object")] 32

/-- java/lang/constant/ConstantDesc -/
def k9 : Class := { plain "java/lang/constant/ConstantDesc" (some 0) with
  accessFlags := 1537
  interfaces := #[]
  cf := some (fileOf pool9 1 #[] #[] 1537 3 #[] #[])
  fields := #[]
  methods := #[]
  instanceTypes := #[]
  staticTypes := #[]
  resolved := Array.replicate 37 none
  statics := none }

def pool10 : Array CpInfo := pool [(1, .class_ 2), (0, u "java/lang/Long"), (15, .class_ 20), (1, u "java/lang/Integer"), (79, u "numberOfLeadingZeros"), (0, u "(J)I"), (133, .class_ 237), (1, u "java/lang/Long$LongCache"), (33, .class_ 272), (0, u "java/lang/Number"), (2, u "value"), (0, u "J"), (31, .methodref 18 309), (0, .nameAndType 100 310), (0, u "(I)I"), (50, u "TYPE"), (0, u "Ljava/lang/Class;"), (0, .class_ 364), (0, u "java/lang/Comparable"), (0, .class_ 366), (0, u "java/lang/constant/Constable"), (0, .class_ 368), (0, u "java/lang/constant/ConstantDesc"), (0, u "MIN_VALUE"), (1, u "MAX_VALUE"), (4, u "SIZE"), (0, u "I"), (1, u "BYTES"), (1, u "serialVersionUID")] 142

def k10c0 : Code := { maxStack := 3, maxLocals := 3, code := jdk_35_method_48_code, exceptionTable := #[], attributes := #[] }
def k10m0 : Method := { name := "numberOfLeadingZeros", desc := "(J)I", sig := { parameters := [.long], returnType := some .int }, accessFlags := 9, code := some k10c0 }
/-- java/lang/Long -/
def k10 : Class := { plain "java/lang/Long" (some 6) with
  accessFlags := 49
  interfaces := #[7, 8, 9]
  cf := some (fileOf pool10 1 #[.nestMembers #[235]] #[{ accessFlags := 9, nameIndex := 100, descriptorIndex := 101, attributes := #[] }] 49 271 #[363, 365, 367] #[{ accessFlags := 25, nameIndex := 369, descriptorIndex := 276, attributes := #[] }, { accessFlags := 25, nameIndex := 371, descriptorIndex := 276, attributes := #[] }, { accessFlags := 25, nameIndex := 361, descriptorIndex := 362, attributes := #[] }, { accessFlags := 18, nameIndex := 275, descriptorIndex := 276, attributes := #[] }, { accessFlags := 25, nameIndex := 376, descriptorIndex := 377, attributes := #[] }, { accessFlags := 25, nameIndex := 379, descriptorIndex := 377, attributes := #[] }, { accessFlags := 26, nameIndex := 381, descriptorIndex := 276, attributes := #[] }])
  fields := #[{ name := "MIN_VALUE", type := .long, accessFlags := 25, slot := 0, constantValue := 0 }, { name := "MAX_VALUE", type := .long, accessFlags := 25, slot := 1, constantValue := 0 }, { name := "TYPE", type := (.object "java/lang/Class"), accessFlags := 25, slot := 2, constantValue := 0 }, { name := "value", type := .long, accessFlags := 18, slot := 0, constantValue := 0 }, { name := "SIZE", type := .int, accessFlags := 25, slot := 3, constantValue := 0 }, { name := "BYTES", type := .int, accessFlags := 25, slot := 4, constantValue := 0 }, { name := "serialVersionUID", type := .long, accessFlags := 26, slot := 5, constantValue := 0 }]
  methods := #[k10m0]
  instanceTypes := #[.long]
  staticTypes := #[.long, .long, (.object "java/lang/Class"), .int, .int, .long]
  resolved := Array.replicate 524 none
  statics := none }

def pool11 : Array CpInfo := pool [(1, .class_ 2), (0, u "java/lang/Integer"), (16, u "digits"), (0, u "[C"), (32, u "numberOfLeadingZeros"), (0, u "(I)I"), (30, u "DigitOnes"), (0, u "[B"), (2, u "DigitTens"), (99, .class_ 190), (0, u "java/lang/Integer$IntegerCache"), (3, u "I"), (8, .class_ 204), (0, u "java/lang/Number"), (2, u "value"), (56, .integer 65536), (37, u "TYPE"), (0, u "Ljava/lang/Class;"), (0, .class_ 305), (0, u "java/lang/Comparable"), (0, .class_ 307), (0, u "java/lang/constant/Constable"), (0, .class_ 309), (0, u "java/lang/constant/ConstantDesc"), (0, u "MIN_VALUE"), (1, u "MAX_VALUE"), (3, u "SIZE"), (1, u "BYTES"), (1, u "serialVersionUID"), (0, u "J")] 131

def k11c0 : Code := { maxStack := 3, maxLocals := 2, code := jdk_33_method_47_code, exceptionTable := #[], attributes := #[] }
def k11m0 : Method := { name := "numberOfLeadingZeros", desc := "(I)I", sig := { parameters := [.int], returnType := some .int }, accessFlags := 9, code := some k11c0 }
/-- java/lang/Integer -/
def k11 : Class := { plain "java/lang/Integer" (some 6) with
  accessFlags := 49
  interfaces := #[7, 8, 9]
  cf := some (fileOf pool11 1 #[.nestMembers #[189]] #[{ accessFlags := 9, nameIndex := 53, descriptorIndex := 54, attributes := #[] }] 49 203 #[304, 306, 308] #[{ accessFlags := 25, nameIndex := 310, descriptorIndex := 194, attributes := #[] }, { accessFlags := 25, nameIndex := 312, descriptorIndex := 194, attributes := #[] }, { accessFlags := 25, nameIndex := 302, descriptorIndex := 303, attributes := #[] }, { accessFlags := 24, nameIndex := 19, descriptorIndex := 20, attributes := #[] }, { accessFlags := 24, nameIndex := 89, descriptorIndex := 86, attributes := #[] }, { accessFlags := 24, nameIndex := 85, descriptorIndex := 86, attributes := #[] }, { accessFlags := 18, nameIndex := 207, descriptorIndex := 194, attributes := #[] }, { accessFlags := 25, nameIndex := 316, descriptorIndex := 194, attributes := #[] }, { accessFlags := 25, nameIndex := 318, descriptorIndex := 194, attributes := #[] }, { accessFlags := 26, nameIndex := 320, descriptorIndex := 321, attributes := #[] }])
  fields := #[{ name := "MIN_VALUE", type := .int, accessFlags := 25, slot := 0, constantValue := 0 }, { name := "MAX_VALUE", type := .int, accessFlags := 25, slot := 1, constantValue := 0 }, { name := "TYPE", type := (.object "java/lang/Class"), accessFlags := 25, slot := 2, constantValue := 0 }, { name := "digits", type := (.array .char), accessFlags := 24, slot := 3, constantValue := 0 }, { name := "DigitTens", type := (.array .byte), accessFlags := 24, slot := 4, constantValue := 0 }, { name := "DigitOnes", type := (.array .byte), accessFlags := 24, slot := 5, constantValue := 0 }, { name := "value", type := .int, accessFlags := 18, slot := 0, constantValue := 0 }, { name := "SIZE", type := .int, accessFlags := 25, slot := 6, constantValue := 0 }, { name := "BYTES", type := .int, accessFlags := 25, slot := 7, constantValue := 0 }, { name := "serialVersionUID", type := .long, accessFlags := 26, slot := 8, constantValue := 0 }]
  methods := #[k11m0]
  instanceTypes := #[.int]
  staticTypes := #[.int, .int, (.object "java/lang/Class"), (.array .char), (.array .byte), (.array .byte), .int, .int, .long]
  resolved := Array.replicate 453 none
  statics := none }

def pool12 : Array CpInfo := pool [(1, u "java/lang/Cloneable"), (0, .class_ 1), (0, u "java/lang/Object"), (0, .class_ 3)] 3

/-- java/lang/Cloneable -/
def k12 : Class := { plain "java/lang/Cloneable" (some 0) with
  accessFlags := 1537
  interfaces := #[]
  cf := some (fileOf pool12 2 #[] #[] 1537 4 #[] #[])
  fields := #[]
  methods := #[]
  instanceTypes := #[]
  staticTypes := #[]
  resolved := Array.replicate 8 none
  statics := none }

/-- the primitive byte -/
def k13 : Class := { plain "byte" none with kind := .primitive 'B', accessFlags := 0x411 }
/-- [B -/
def k14 : Class := { plain "[B" (some 0) with kind := .array 13 .byte, interfaces := #[12, 5], accessFlags := 1041 }

/-- the primitive int -/
def k15 : Class := { plain "int" none with kind := .primitive 'I', accessFlags := 0x411 }
/-- [I -/
def k16 : Class := { plain "[I" (some 0) with kind := .array 15 .int, interfaces := #[12, 5], accessFlags := 1041 }

def heap : Heap := #[]
def classes : Array Class := #[k0, k1, k2, k3, k4, k5, k6, k7, k8, k9, k10, k11, k12, k13, k14, k15, k16]
def interned : List (Array UInt16 × Addr) := []
def slotsUsed : Nat := 0
def theMethod : MethodId := ⟨1, 1⟩
def args0 : Array Value := #[.int 5, .int 9, .long 3]
def aboutOver (below : List Frame) : State where
  vm := { classes := classes, interned := interned.toArray }
  heap := heap
  slotsUsed := slotsUsed
  threads := #[{ frames := .invoking theMethod args0 :: below }]
def below0 : List Frame := [.native { method := ⟨0, 0⟩, args := #[] }]
def about1 : State := aboutOver below0
def p0 : Program := .bare "" "" ""
def e0 : Env := launch0.env 0 0 0
theorem w_frames : about1.frames = Frame.invoking theMethod args0 :: below0 := rfl
set_option maxRecDepth 65536 in
theorem w_args : argsFit about1.vm theMethod args0 = true := by decide +kernel
set_option maxRecDepth 65536 in
theorem w_heap : heapFits about1 = true := by decide +kernel
set_option maxRecDepth 65536 in
theorem w_runnable : about1.curStatus? = some .runnable := by decide +kernel
set_option maxRecDepth 65536 in
theorem w_alone : about1.alone = true := by decide +kernel
set_option maxRecDepth 65536 in
theorem w_named : about1.methodNamed? x = some theMethod := by decide +kernel
set_option maxRecDepth 65536 in
theorem w_hears : about1.hears theMethod below0 = true := by decide +kernel
set_option maxRecDepth 65536 in
theorem w_ripe : about1.ripe theMethod args0 below0 = true := by decide +kernel
theorem w_running : about1.status = .running := rfl
set_option maxRecDepth 65536 in
theorem w_room : about1.hasRoom e0.platform room_1 = true :=
  launch0.hasRoom_least _ room_1 (by decide +kernel) (by decide +kernel) (by decide +kernel) (by decide +kernel) (by decide +kernel) (by decide +kernel)
theorem allAtoms_all (ts : List Jvm.Cond) (a : Array Jvm.Value) (st : Jvm.State) : (allAtoms ts).before a st = ts.all (fun c => c.before a st) := by
  induction ts with
  | nil => rfl
  | cons c t ih =>
    show (Jvm.Cond.and c (allAtoms t)).before a st = _
    rw [Jvm.Cond.before_and, ih, List.all_cons]
def words1 : List Jvm.Cond := Jvm.Cond.code x code maxLocals ret :: tables_1
/-- a 'code' word, met by the world's own term for the bytes: nothing is compared byte by byte -/
theorem code_word {y : MethodName} {bytes : ByteArray} {mx : Nat} {rt : Option FieldType} {a : Array Value} {s : State} {m : MethodId} {meth : Method} {c : Code} (h1 : s.methodNamed? y = some m) (h2 : s.vm.method? m = some meth) (h3 : meth.code = some c) (h4 : c.code = bytes)
    (h5 : (c.maxLocals == mx && c.exceptionTable.isEmpty && decide (c.maxStack ≤ mostOperands) && decide (meth.sig.returnType = rt) && !meth.locks && decide (parseMethodDescriptor y.desc = some meth.sig)) = true) : (Jvm.Cond.code y bytes mx rt).before a s = true := by
  simp only [Bool.and_eq_true, beq_iff_eq, Bool.not_eq_true', decide_eq_true_eq] at h5
  obtain ⟨⟨⟨⟨⟨g1, g2⟩, g3⟩, g4⟩, g5⟩, g6⟩ := h5
  simp [Cond.before, Cond.holds, Cond.value, h1, h2, h3, h4, g1, g2, g3, g4, g5, g6]
def isCode : Jvm.Cond → Bool
  | .code _ _ _ _ => true
  | _ => false
theorem all_split {L : List Jvm.Cond} {P : Jvm.Cond → Bool} (h1 : L.all (fun c => isCode c || P c) = true) (h2 : ∀ c ∈ L.filter isCode, P c = true) : L.all P = true := by
  refine List.all_eq_true.mpr fun c hc => ?_
  have h := List.all_eq_true.mp h1 c hc
  rcases Bool.eq_false_or_eq_true (isCode c) with hi | hi
  · exact h2 c (List.mem_filter.mpr ⟨hc, hi⟩)
  · simpa [hi] using h
set_option maxRecDepth 65536 in
theorem w_c0 : (Jvm.Cond.code x code maxLocals ret).before args0 about1 = true := code_word (m := ⟨1, 1⟩) (meth := k1m1) (c := k1c1) (by decide +kernel) rfl rfl rfl (by decide +kernel)
set_option maxRecDepth 65536 in
theorem w_c1 : (Jvm.Cond.code ({ cls := "com/example/kuvert/kuvert/cms/DerReader$Header", name := "<init>", desc := "(IJ)V" } : Jvm.MethodName) prog_61_method_1_code (4 : Nat) (Option.none : Option Jvm.ClassFile.FieldType)).before args0 about1 = true := code_word (m := ⟨3, 0⟩) (meth := k3m0) (c := k3c0) (by decide +kernel) rfl rfl rfl (by decide +kernel)
set_option maxRecDepth 65536 in
theorem w_c2 : (Jvm.Cond.code ({ cls := "java/lang/Record", name := "<init>", desc := "()V" } : Jvm.MethodName) jdk_30_method_1_code (1 : Nat) (Option.none : Option Jvm.ClassFile.FieldType)).before args0 about1 = true := code_word (m := ⟨2, 0⟩) (meth := k2m0) (c := k2c0) (by decide +kernel) rfl rfl rfl (by decide +kernel)
set_option maxRecDepth 65536 in
theorem w_c3 : (Jvm.Cond.code ({ cls := "java/lang/Object", name := "<init>", desc := "()V" } : Jvm.MethodName) object_method_1_code (1 : Nat) (Option.none : Option Jvm.ClassFile.FieldType)).before args0 about1 = true := code_word (m := ⟨0, 0⟩) (meth := k0m0) (c := k0c0) (by decide +kernel) rfl rfl rfl (by decide +kernel)
set_option maxRecDepth 65536 in
theorem w_c4 : (Jvm.Cond.code ({ cls := "com/example/kuvert/kuvert/cms/DerReader$Header", name := "isEndOfContents", desc := "()Z" } : Jvm.MethodName) prog_61_method_3_code (1 : Nat) (Option.some Jvm.ClassFile.FieldType.boolean)).before args0 about1 = true := code_word (m := ⟨3, 1⟩) (meth := k3m1) (c := k3c1) (by decide +kernel) rfl rfl rfl (by decide +kernel)
set_option maxRecDepth 65536 in
theorem w_c5 : (Jvm.Cond.code ({ cls := "com/example/kuvert/kuvert/cms/Der", name := "header", desc := "(IJ)[B" } : Jvm.MethodName) prog_58_method_7_code (6 : Nat) (Option.some (Jvm.ClassFile.FieldType.array Jvm.ClassFile.FieldType.byte))).before args0 about1 = true := code_word (m := ⟨4, 1⟩) (meth := k4m1) (c := k4c1) (by decide +kernel) rfl rfl rfl (by decide +kernel)
set_option maxRecDepth 65536 in
theorem w_c6 : (Jvm.Cond.code ({ cls := "java/lang/Long", name := "numberOfLeadingZeros", desc := "(J)I" } : Jvm.MethodName) jdk_35_method_48_code (3 : Nat) (Option.some Jvm.ClassFile.FieldType.int)).before args0 about1 = true := code_word (m := ⟨10, 0⟩) (meth := k10m0) (c := k10c0) (by decide +kernel) rfl rfl rfl (by decide +kernel)
set_option maxRecDepth 65536 in
theorem w_c7 : (Jvm.Cond.code ({ cls := "java/lang/Integer", name := "numberOfLeadingZeros", desc := "(I)I" } : Jvm.MethodName) jdk_33_method_47_code (2 : Nat) (Option.some Jvm.ClassFile.FieldType.int)).before args0 about1 = true := code_word (m := ⟨11, 0⟩) (meth := k11m0) (c := k11c0) (by decide +kernel) rfl rfl rfl (by decide +kernel)
def codes1 : List Jvm.Cond := [Jvm.Cond.code x code maxLocals ret, Jvm.Cond.code ({ cls := "com/example/kuvert/kuvert/cms/DerReader$Header", name := "<init>", desc := "(IJ)V" } : Jvm.MethodName) prog_61_method_1_code (4 : Nat) (Option.none : Option Jvm.ClassFile.FieldType), Jvm.Cond.code ({ cls := "java/lang/Record", name := "<init>", desc := "()V" } : Jvm.MethodName) jdk_30_method_1_code (1 : Nat) (Option.none : Option Jvm.ClassFile.FieldType), Jvm.Cond.code ({ cls := "java/lang/Object", name := "<init>", desc := "()V" } : Jvm.MethodName) object_method_1_code (1 : Nat) (Option.none : Option Jvm.ClassFile.FieldType), Jvm.Cond.code ({ cls := "com/example/kuvert/kuvert/cms/DerReader$Header", name := "isEndOfContents", desc := "()Z" } : Jvm.MethodName) prog_61_method_3_code (1 : Nat) (Option.some Jvm.ClassFile.FieldType.boolean), Jvm.Cond.code ({ cls := "com/example/kuvert/kuvert/cms/Der", name := "header", desc := "(IJ)[B" } : Jvm.MethodName) prog_58_method_7_code (6 : Nat) (Option.some (Jvm.ClassFile.FieldType.array Jvm.ClassFile.FieldType.byte)), Jvm.Cond.code ({ cls := "java/lang/Long", name := "numberOfLeadingZeros", desc := "(J)I" } : Jvm.MethodName) jdk_35_method_48_code (3 : Nat) (Option.some Jvm.ClassFile.FieldType.int), Jvm.Cond.code ({ cls := "java/lang/Integer", name := "numberOfLeadingZeros", desc := "(I)I" } : Jvm.MethodName) jdk_33_method_47_code (2 : Nat) (Option.some Jvm.ClassFile.FieldType.int)]
set_option maxRecDepth 65536 in
theorem codes_eq : words1.filter isCode = codes1 := rfl
theorem w_codes : ∀ c ∈ words1.filter isCode, c.before args0 about1 = true := by
  rw [codes_eq]
  intro c hc
  simp only [codes1, List.mem_cons, List.not_mem_nil, or_false] at hc
  rcases hc with rfl | rfl | rfl | rfl | rfl | rfl | rfl | rfl
  · exact w_c0
  · exact w_c1
  · exact w_c2
  · exact w_c3
  · exact w_c4
  · exact w_c5
  · exact w_c6
  · exact w_c7
set_option maxRecDepth 65536 in
theorem w_t1 : (words1.take 24).all (fun c => isCode c || c.before args0 about1) = true := by decide +kernel
set_option maxRecDepth 65536 in
theorem w_t2 : (words1.drop 24).all (fun c => isCode c || c.before args0 about1) = true := by decide +kernel
theorem w_tables : (allAtoms (Jvm.Cond.code x code maxLocals ret :: tables_1)).before args0 about1 = true := by
  rw [allAtoms_all]
  show words1.all (fun c => c.before args0 about1) = true
  refine all_split ?_ w_codes
  rw [← List.take_append_drop 24 words1, List.all_append, w_t1, w_t2]
  rfl
set_option maxRecDepth 65536 in
theorem w_case : (Jvm.Cond.and given_1 narrow_1).before args0 about1 = true := by decide +kernel
theorem w_applies : (headSpec (Jvm.Cond.code x code maxLocals ret :: tables_1) room_1).applies x e0.platform about1 = true :=
  (Spec.applies_iff w_frames).mpr ⟨w_running, w_runnable, w_alone, w_named, w_hears, w_ripe, w_room, w_tables⟩
theorem atStart : AtStart classFile x code maxLocals ret World_1 tables_1 room_1 Calls_1 rest_1 Pre_1 launch0 p0 e0 about1 theMethod args0 below0 :=
  ⟨lists_1, trivial, launch0.admits_env _ _ _, launch0.least_env, fairChoices_fair.cas, fairChoices_fair.clock, w_frames, w_args, w_heap, w_applies, trivial, trivial, w_case⟩
end start1
theorem witness_1 : WitnessClaimed_1 := ⟨start1.p0, start1.e0, start1.about1, start1.theMethod, start1.args0, start1.below0, start1.atStart⟩
end Jvm.Pilot.@@N@@
