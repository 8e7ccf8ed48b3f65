import JvmDerived
import JvmDerived.Pilot.@@N@@Statement
import JvmDerived.Pilot.@@N@@Code
set_option linter.unusedVariables false
set_option linter.unusedSimpArgs false
@@BLOCK:NumsL.lean.txt@@
namespace Jvm.Pilot.@@N@@
open Jvm Jvm.ClassFile Sem Op Lib Jvm.Free Jvm.Stand Jvm.LawKit Jvm.RoadKit Bundle Jvm.Pilot.@@N@@.Jvm.D
section OwnKit
variable {p : Program} {l : Launch} {e : Env} {R : Room} {s : State} {m : MethodId} {args : Array Value} {below : List Frame} {meth : Method} {c : Code} {T T' : State} {locs : List Loc} {cells slots : Nat} {Z : State} {h : Heap} {a0 : Array Value}
/-- from the state T with the frame g on top the method comes to its end, and what it leaves meets E -/
def own_WP (p : Program) (e : Env) (below : List Frame) (E : Outcome → State → Prop) (T : State) (g : JFrame) : Prop :=
  ∃ s₂ o, Steps p.tables e below (T.setTop g) s₂ ∧ s₂.status = .running ∧ Ended s₂ below o ∧ E o s₂
/-- it returns, and what it leaves meets Q within K cells and N slots -/
def own_E (s : State) (Q : Option Value → Heap → List Loc → Prop) (K N : Nat) (o : Outcome) (t : State) : Prop := ∃ v L, o = .returned v ∧ Q v t.heap L ∧ FrameEnd s o t L K N
variable {Q : Option Value → Heap → List Loc → Prop} {K N : Nat} {g g' : JFrame} {E : Outcome → State → Prop}
theorem own_go (h : ∀ t, Steps p.tables e below (T'.setTop g') t → Steps p.tables e below (T.setTop g) t) (k : own_WP p e below E T' g') : own_WP p e below E T g := by
  obtain ⟨s₂, o, h1, h2⟩ := k
  exact ⟨s₂, o, h s₂ h1, h2⟩
theorem own_tr (h : Steps p.tables e below (T.setTop g) (T'.setTop g')) (k : own_WP p e below E T' g') : own_WP p e below E T g := by
  obtain ⟨s₂, o, h1, h2⟩ := k
  exact ⟨s₂, o, h.trans h1, h2⟩
theorem own_end (X : Stand p l e R s m args below meth c T locs cells slots) (hlk : meth.locks = false) {v : Option Value} (hv : meth.sig.returnType = none → v = none)
    (hs : ∀ fs, (∀ (f : JFrame) (acts : List Action), f.method = m → f.locked = none → f.entered = [] → (doReturn e (T.setTop f) acts v).1 = T.setFrames fs) → Steps p.tables e below (T.setTop g) (T.setFrames fs))
    (hk : cells ≤ K) (hn : slots ≤ N) (hq : Q v T.heap locs) : own_WP p e below (own_E s Q K N) T g := by
  obtain ⟨fs, hr, hrun, hended, hW, hsame⟩ := X.leave hv hlk
  exact ⟨_, _, hs fs hr, hrun, hended, _, _, rfl, hq, ⟨_, rfl⟩, hW, hsame.mono hk hn⟩
theorem own_retV (X : Stand p l e R s m args below meth c T locs cells slots) (hx : p.tables.exec = Jvm.exec) (hlk : meth.locks = false) {pc : Nat} {Ls : Array Slot} (hret : meth.sig.returnType = none) (hd : decode c.code pc = .ok (.return_, 1))
    (hk : cells ≤ K) (hn : slots ≤ N) (hq : Q none T.heap locs) : own_WP p e below (own_E s Q K N) T (mkF m pc Ls []) :=
  own_end X hlk (fun _ => rfl) (fun fs hr => X.returnOut hx hret hd hr) hk hn hq
theorem own_retI (X : Stand p l e R s m args below meth c T locs cells slots) (hx : p.tables.exec = Jvm.exec) (hlk : meth.locks = false) {pc : Nat} {Ls : Array Slot} {z : Int32} (hret : meth.sig.returnType = some .int) (hd : decode c.code pc = .ok (.ireturn, 1))
    (hk : cells ≤ K) (hn : slots ≤ N) (hq : Q (some (.int z)) T.heap locs) : own_WP p e below (own_E s Q K N) T (mkF m pc Ls [.int z]) :=
  own_end X hlk (fun h => by rw [hret] at h; cases h) (fun fs hr => retOut X hx hret rfl (Or.inl ⟨rfl, Or.inl rfl, z, rfl⟩) hd hr) hk hn hq
theorem own_retJ (X : Stand p l e R s m args below meth c T locs cells slots) (hx : p.tables.exec = Jvm.exec) (hlk : meth.locks = false) {pc : Nat} {Ls : Array Slot} {z : Int64} (hret : meth.sig.returnType = some .long) (hd : decode c.code pc = .ok (.lreturn, 1))
    (hk : cells ≤ K) (hn : slots ≤ N) (hq : Q (some (.long z)) T.heap locs) : own_WP p e below (own_E s Q K N) T (mkF m pc Ls [.long z]) :=
  own_end X hlk (fun h => by rw [hret] at h; cases h) (fun fs hr => X.lreturnOut hx hret hd hr) hk hn hq
theorem own_retA (X : Stand p l e R s m args below meth c T locs cells slots) (hx : p.tables.exec = Jvm.exec) (hlk : meth.locks = false) {pc : Nat} {Ls : Array Slot} {w : Value} (hw : w.isRef = true) {t : FieldType} (ht : t.isReference = true) (hret : meth.sig.returnType = some t) (hd : decode c.code pc = .ok (.areturn, 1))
    (hk : cells ≤ K) (hn : slots ≤ N) (hq : Q (some w) T.heap locs) : own_WP p e below (own_E s Q K N) T (mkF m pc Ls [w]) :=
  own_end X hlk (fun h => by rw [hret] at h; cases h) (fun fs hr => X.areturnOut hx hw hret ht hd hr) hk hn hq
theorem own_retN (X : Stand p l e R s m args below meth c T locs cells slots) (hx : p.tables.exec = Jvm.exec) (hlk : meth.locks = false) {pc : Nat} {Ls : Array Slot} {z : Int32} {t : FieldType} (ht : t = .boolean ∨ t = .byte ∨ t = .char ∨ t = .short) (hret : meth.sig.returnType = some t) (hd : decode c.code pc = .ok (.ireturn, 1))
    (hk : cells ≤ K) (hn : slots ≤ N) (hq : Q (some (.int (nar t z))) T.heap locs) : own_WP p e below (own_E s Q K N) T (mkF m pc Ls [.int z]) :=
  own_end X hlk (fun h => by rw [hret] at h; cases h) (fun fs hr => retN X hx hret ht hd hr) hk hn hq
theorem own_len (X : Stand p l e R s m args below meth c T locs cells slots) (hx : p.tables.exec = Jvm.exec) (hZ : Z.Warmed39 s.vm) (eT : T.heap = h) {a : Addr} {k : ClassId} {ty : FieldType} {n : Int32} {vs : List Value} {d : Value} (V : Arv Z h a k ty n vs d)
    {pc : Nat} {Ls : Array Slot} {S : List Value} (hd : decode c.code pc = .ok (.arraylength, 1)) (kk : own_WP p e below E T (mkF m (pc + 1) Ls (.int n :: S))) : own_WP p e below E T (mkF m pc Ls (.ref a :: S)) := by
  obtain ⟨cl, A, q, S1, M, H, G⟩ := V
  refine own_go (fun t k => X.arraylength hx (by rw [eT]; exact A.1) (State.isArrayOf_alike hZ.alike A.2.1) (g := mkF m pc Ls (.ref a :: S)) rfl rfl hd t k) ?_
  rw [len_of S1 M]
  exact kk
theorem own_at {cl : Cell} {n j : Int32} {vs : List Value} {d w : Value} (S1 : cl.slots.size = n.toNatClampNeg) (H : Has cl vs d) (hj : ¬ j < 0 ∧ j < n) (hv : vs.getD j.toNatClampNeg d = w) : cl.slots[j.toNatClampNeg]? = some w :=
  H.at (inb_of S1 hj) hv
theorem own_ldI (X : Stand p l e R s m args below meth c T locs cells slots) (hx : p.tables.exec = Jvm.exec) (hZ : Z.Warmed39 s.vm) (eT : T.heap = h) {a : Addr} {k : ClassId} {n j w : Int32} {vs : List Value} {d : Value} (V : Arv Z h a k .int n vs d) (hj : ¬ j < 0 ∧ j < n) (hv : vs.getD j.toNatClampNeg d = .int w)
    {pc : Nat} {Ls : Array Slot} {S : List Value} (hd : decode c.code pc = .ok (.iaload, 1)) (kk : own_WP p e below E T (mkF m (pc + 1) Ls (.int w :: S))) : own_WP p e below E T (mkF m pc Ls (.int j :: .ref a :: S)) := by
  obtain ⟨cl, A, q, S1, M, H, G⟩ := V
  exact own_go (fun t k => X.iaload hx (j := j) (v := .int w) (by rw [eT]; exact A.1) (State.isArrayOf_alike hZ.alike A.2.1) A.2.2 (inb_of S1 hj) (own_at S1 H hj hv) (g := mkF m pc Ls (.int j :: .ref a :: S)) rfl rfl hd t k) kk
theorem own_ldJ (X : Stand p l e R s m args below meth c T locs cells slots) (hx : p.tables.exec = Jvm.exec) (hZ : Z.Warmed39 s.vm) (eT : T.heap = h) {a : Addr} {k : ClassId} {n j : Int32} {w : Int64} {vs : List Value} {d : Value} (V : Arv Z h a k .long n vs d) (hj : ¬ j < 0 ∧ j < n) (hv : vs.getD j.toNatClampNeg d = .long w)
    {pc : Nat} {Ls : Array Slot} {S : List Value} (hd : decode c.code pc = .ok (.laload, 1)) (kk : own_WP p e below E T (mkF m (pc + 1) Ls (.long w :: S))) : own_WP p e below E T (mkF m pc Ls (.int j :: .ref a :: S)) := by
  obtain ⟨cl, A, q, S1, M, H, G⟩ := V
  exact own_go (fun t k => X.laload hx (j := j) (v := .long w) (by rw [eT]; exact A.1) (State.isArrayOf_alike hZ.alike A.2.1) A.2.2 (inb_of S1 hj) (own_at S1 H hj hv) (g := mkF m pc Ls (.int j :: .ref a :: S)) rfl rfl hd t k) kk
theorem own_ldB (X : Stand p l e R s m args below meth c T locs cells slots) (hx : p.tables.exec = Jvm.exec) (hZ : Z.Warmed39 s.vm) (eT : T.heap = h) {a : Addr} {k : ClassId} {n j w : Int32} {vs : List Value} {d : Value} (V : Arv Z h a k .byte n vs d) (hj : ¬ j < 0 ∧ j < n) (hv : vs.getD j.toNatClampNeg d = .int w)
    {pc : Nat} {Ls : Array Slot} {S : List Value} (hd : decode c.code pc = .ok (.baload, 1)) (kk : own_WP p e below E T (mkF m (pc + 1) Ls (.int w :: S))) : own_WP p e below E T (mkF m pc Ls (.int j :: .ref a :: S)) := by
  obtain ⟨cl, A, q, S1, M, H, G⟩ := V
  exact own_go (fun t k => X.baloadBytes hx (j := j) (v := .int w) (by rw [eT]; exact A.1) (State.isArrayOf_alike hZ.alike A.2.1) A.2.2 (inb_of S1 hj) (own_at S1 H hj hv) (g := mkF m pc Ls (.int j :: .ref a :: S)) rfl rfl hd t k) kk
theorem own_ldR (X : Stand p l e R s m args below meth c T locs cells slots) (hx : p.tables.exec = Jvm.exec) (hZ : Z.Warmed39 s.vm) (eT : T.heap = h) {a : Addr} {k : ClassId} {ty : FieldType} (hty : ty.isReference = true) {n j : Int32} {w : Value} {vs : List Value} {d : Value} (V : Arv Z h a k ty n vs d) (hj : ¬ j < 0 ∧ j < n) (hv : vs.getD j.toNatClampNeg d = w)
    {pc : Nat} {Ls : Array Slot} {S : List Value} (hd : decode c.code pc = .ok (.aaload, 1)) (kk : own_WP p e below E T (mkF m (pc + 1) Ls (w :: S))) : own_WP p e below E T (mkF m pc Ls (.int j :: .ref a :: S)) := by
  obtain ⟨cl, A, q, S1, M, H, G⟩ := V
  exact own_go (fun t k => X.aaload hx (j := j) (v := w) (by rw [eT]; exact A.1) (State.isArrayOf_alike hZ.alike A.2.1) hty A.2.2 (inb_of S1 hj) (own_at S1 H hj hv) (g := mkF m pc Ls (.int j :: .ref a :: S)) rfl rfl hd t k) kk
theorem own_stI (X : Stand p l e R s m args below meth c T locs cells slots) (hx : p.tables.exec = Jvm.exec) (hZ : Z.Warmed39 s.vm) (eT : T.heap = h) {a : Addr} {k : ClassId} {n j x : Int32} {vs : List Value} {d : Value} (V : Arv Z h a k .int n vs d) (hj : ¬ j < 0 ∧ j < n) {i : Nat} (hji : j.toNatClampNeg = i) (hi : i < vs.length)
    {pc : Nat} {Ls : Array Slot} {S : List Value} (hd : decode c.code pc = .ok (.iastore, 1))
    (kk : ∀ T' h', Stand p l e R s m args below meth c T' (locs ++ [⟨a, j.toNatClampNeg⟩]) cells slots → T'.heap = h' → Wr h h' a j.toNatClampNeg (.int x) → Arv Z h' a k .int n (vs.set i (.int x)) d → own_WP p e below E T' (mkF m (pc + 1) Ls S)) : own_WP p e below E T (mkF m pc Ls (.int x :: .int j :: .ref a :: S)) := by
  obtain ⟨cl, A, q, S1, M, H, G⟩ := V
  obtain ⟨T', h', X', e', W', st⟩ := stI X hx hZ eT A (j := j) (inb_of S1 hj) (g := mkF m pc Ls (.int x :: .int j :: .ref a :: S)) rfl rfl hd
  exact own_go st (kk T' h' X' e' W' (Arv.set A q S1 M H G rfl W' i hji hi))
theorem own_stJ (X : Stand p l e R s m args below meth c T locs cells slots) (hx : p.tables.exec = Jvm.exec) (hZ : Z.Warmed39 s.vm) (eT : T.heap = h) {a : Addr} {k : ClassId} {n j : Int32} {x : Int64} {vs : List Value} {d : Value} (V : Arv Z h a k .long n vs d) (hj : ¬ j < 0 ∧ j < n) {i : Nat} (hji : j.toNatClampNeg = i) (hi : i < vs.length)
    {pc : Nat} {Ls : Array Slot} {S : List Value} (hd : decode c.code pc = .ok (.lastore, 1))
    (kk : ∀ T' h', Stand p l e R s m args below meth c T' (locs ++ [⟨a, j.toNatClampNeg⟩]) cells slots → T'.heap = h' → Wr h h' a j.toNatClampNeg (.long x) → Arv Z h' a k .long n (vs.set i (.long x)) d → own_WP p e below E T' (mkF m (pc + 1) Ls S)) : own_WP p e below E T (mkF m pc Ls (.long x :: .int j :: .ref a :: S)) := by
  obtain ⟨cl, A, q, S1, M, H, G⟩ := V
  obtain ⟨T', h', X', e', W', st⟩ := stJ X hx hZ eT A (j := j) (inb_of S1 hj) (g := mkF m pc Ls (.long x :: .int j :: .ref a :: S)) rfl rfl hd
  exact own_go st (kk T' h' X' e' W' (Arv.set A q S1 M H G rfl W' i hji hi))
theorem own_stB (X : Stand p l e R s m args below meth c T locs cells slots) (hx : p.tables.exec = Jvm.exec) (hZ : Z.Warmed39 s.vm) (eT : T.heap = h) {a : Addr} {k : ClassId} {n j x : Int32} {vs : List Value} {d : Value} (V : Arv Z h a k .byte n vs d) (hj : ¬ j < 0 ∧ j < n) {i : Nat} (hji : j.toNatClampNeg = i) (hi : i < vs.length)
    {pc : Nat} {Ls : Array Slot} {S : List Value} (hd : decode c.code pc = .ok (.bastore, 1))
    (kk : ∀ T' h', Stand p l e R s m args below meth c T' (locs ++ [⟨a, j.toNatClampNeg⟩]) cells slots → T'.heap = h' → Wr h h' a j.toNatClampNeg (.int (nar .byte x)) → Arv Z h' a k .byte n (vs.set i (.int (nar .byte x))) d → own_WP p e below E T' (mkF m (pc + 1) Ls S)) : own_WP p e below E T (mkF m pc Ls (.int x :: .int j :: .ref a :: S)) := by
  obtain ⟨cl, A, q, S1, M, H, G⟩ := V
  obtain ⟨T', h', X', e', W', st⟩ := stB X hx hZ eT A (j := j) (inb_of S1 hj) (g := mkF m pc Ls (.int x :: .int j :: .ref a :: S)) rfl rfl hd
  exact own_go st (kk T' h' X' e' W' (Arv.set A q S1 M H G (fits_nar_byte x) W' i hji hi))
theorem own_nm {x a : Addr} (h : x ≠ a) : x ∉ [a] := fun q => h (List.mem_singleton.mp q)
theorem own_nm0 {x : Addr} : x ∉ ([] : List Addr) := List.not_mem_nil
theorem own_nm2 {x a b : Addr} (h : x ≠ a) (h' : x ≠ b) : x ∉ [a, b] := fun q => by
  rcases List.mem_cons.mp q with r | r
  · exact h r
  · exact h' (List.mem_singleton.mp r)
theorem own_le {h0 h : Heap} {n0 : Nat} {ws : List Addr} (Z0 : n0 ≤ h0.size) (K : Keep h0 h ws) : n0 ≤ h.size := Nat.le_trans Z0 K.1
end OwnKit
open Jvm.Kit in
theorem own_mod33 (a : Int32) : 0 ≤ ((a &&& 2147483647) % 33).toInt ∧ ((a &&& 2147483647) % 33).toInt < 33 := by
  have e1 : (a &&& 2147483647).toInt = a.toInt % 2 ^ 31 := i32_mask a 2147483647 (k := 31) (by decide) (by decide)
  have e2 : ((a &&& 2147483647) % 33).toInt = (a &&& 2147483647).toInt % (33 : Int32).toInt := i32_rem_nonneg (by omega)
  have e3 : (33 : Int32).toInt = 33 := rfl
  rw [e2, e3]
  omega
def own_us (z : Int64) (n : Int32) : Int64 := ((z.toUInt64 >>> (n &&& 0x3f).toInt64.toUInt64).toInt64)
def own_wo (b : Int64) (n : Int32) : Int64 := if n = -1 then b else (b &&& (((4294967297 : Int64) <<< (n &&& 0x3f).toInt64) ^^^ (-1 : Int64)))
theorem own_usB (z : Int64) (n : Int32) (k : Nat) (h : ((n &&& 0x3f).toInt64.toUInt64.toBitVec % 64).toNat = k) : (own_us z n).toBitVec = z.toBitVec >>> k := by
  unfold own_us
  show ((z.toUInt64 >>> _).toBitVec) = _
  rw [UInt64.toBitVec_shiftRight]
  subst h
  rfl
theorem own_fin (b : Nat) (y : Int32) (h0 : 0 ≤ y.toInt) (h1 : y.toInt < b) : ∃ n : Fin b, y = Int32.ofNat n.1 := by
  have h2 : y.toInt < 2147483648 := y.toInt_lt
  refine ⟨⟨y.toInt.toNat, by omega⟩, ?_⟩
  apply Int32.toInt_inj.mp
  rw [Int32.toInt_ofNat_of_lt (by show y.toInt.toNat < 2 ^ 31; omega)]
  show y.toInt = (y.toInt.toNat : Int)
  omega
theorem own_bit0 (z : Int64) (n : Fin 64) : own_us z (Int32.ofNat n.1) &&& (1 : Int64) = 0 ↔ z.toBitVec.getLsbD n.1 = false := by
  have e : (((Int32.ofNat n.1) &&& 0x3f).toInt64.toUInt64.toBitVec % 64).toNat = n.1 := by
    revert n; decide +kernel
  rw [← Int64.toBitVec_inj, Int64.toBitVec_and, own_usB _ _ n.1 e]
  constructor
  · intro h
    have q := congrArg (fun v => BitVec.getLsbD v 0) h
    simpa [BitVec.getLsbD_and, BitVec.getLsbD_ushiftRight] using q
  · intro h
    apply BitVec.eq_of_getLsbD_eq
    intro i hi
    rw [BitVec.getLsbD_and, BitVec.getLsbD_ushiftRight]
    by_cases hz : i = 0
    · subst hz
      rw [Nat.add_zero, h, Bool.false_and]
      rfl
    · have q : (1 : Int64).toBitVec.getLsbD i = false := by
        show (1#64).getLsbD i = false
        rw [BitVec.getLsbD_one]; simp [hz]
      rw [q]; simp
theorem own_msk : ∀ (a : Fin 32) (n : Fin 64), (((4294967297 : Int64) <<< ((Int32.ofNat a.1) &&& 0x3f).toInt64) ^^^ (-1 : Int64)).toBitVec.getLsbD n.1 = !(decide (n.1 = a.1) || decide (n.1 = a.1 + 32)) := by decide +kernel
theorem own_eqs : ∀ (a : Fin 32) (n : Fin 64), ((Int32.ofNat n.1 = Int32.ofNat a.1) ↔ n.1 = a.1) ∧ ((Int32.ofNat n.1 = Int32.ofNat a.1 + 32) ↔ n.1 = a.1 + 32) ∧ ¬ (Int32.ofNat a.1 = -1) := by decide +kernel
theorem own_key (b : Int64) (y j : Int32) (h0 : 0 ≤ y.toInt) (h1 : y.toInt < 32) (j0 : 0 ≤ j.toInt) (j1 : j.toInt < 64) :
    own_us (own_wo b y) j &&& (1 : Int64) = 0 ↔ (own_us b j &&& (1 : Int64) = 0 ∨ j = y ∨ j = y + 32) := by
  obtain ⟨a, rfl⟩ := own_fin 32 y h0 h1
  obtain ⟨n, rfl⟩ := own_fin 64 j j0 j1
  obtain ⟨q1, q2, q3⟩ := own_eqs a n
  rw [own_bit0, own_bit0, q1, q2, own_wo, if_neg q3, Int64.toBitVec_and, BitVec.getLsbD_and, own_msk]
  cases b.toBitVec.getLsbD n.1 <;> by_cases z1 : n.1 = a.1 <;> by_cases z2 : n.1 = a.1 + 32 <;> simp [z1, z2]

theorem own_ne32 {y : Int32} (h0 : 0 ≤ y.toInt) (h1 : y.toInt < 33) (h : ¬ y = 32) : y.toInt < 32 := by
  have q : ¬ y.toInt = (32 : Int32).toInt := fun z => h (Int32.toInt_inj.mp z)
  have e : (32 : Int32).toInt = 32 := rfl
  omega
theorem own_nem1 {y : Int32} (h0 : 0 ≤ y.toInt) : ¬ y = -1 := fun z => by
  subst z
  revert h0; decide
theorem d1_0 : decode prog_10_method_15_code 0 = .ok (.iload_n 2, 1) := by decide +kernel
theorem d1_1 : decode prog_10_method_15_code 1 = .ok (.iconst (-1), 1) := by decide +kernel
theorem d1_2 : decode prog_10_method_15_code 2 = .ok (.if_icmp .ne 7, 3) := by decide +kernel
theorem d1_5 : decode prog_10_method_15_code 5 = .ok (.lload_n 0, 1) := by decide +kernel
theorem d1_6 : decode prog_10_method_15_code 6 = .ok (.goto 14, 3) := by decide +kernel
theorem d1_9 : decode prog_10_method_15_code 9 = .ok (.lload_n 0, 1) := by decide +kernel
theorem d1_10 : decode prog_10_method_15_code 10 = .ok (.ldc2_w 90, 3) := by decide +kernel
theorem d1_13 : decode prog_10_method_15_code 13 = .ok (.iload_n 2, 1) := by decide +kernel
theorem d1_14 : decode prog_10_method_15_code 14 = .ok (.lshl, 1) := by decide +kernel
theorem d1_15 : decode prog_10_method_15_code 15 = .ok (.ldc2_w 92, 3) := by decide +kernel
theorem d1_18 : decode prog_10_method_15_code 18 = .ok (.lxor, 1) := by decide +kernel
theorem d1_19 : decode prog_10_method_15_code 19 = .ok (.land, 1) := by decide +kernel
theorem d1_20 : decode prog_10_method_15_code 20 = .ok (.lreturn, 1) := by decide +kernel
theorem own_pn80992 : plainName "sinkward/Label" = true := by first | (simp [plainName, overriddenIn]; done) | decide +kernel
theorem ef_1 (m : MethodId) (zb : Int64) (zy : Int32) : entryFrame m #[(.long zb), (.int zy)] 3 = mkF m 0 #[.val (.long zb), .second, .val (.int zy)] [] := by first | (simp [entryFrame, mkF, argsToLocals, Value.category]; done) | rfl
def Q1 (Z : State) (zb : Int64) (zy : Int32) (h0 : Heap) (n0 : Nat) (v : Option Value) (h : Heap) (L : List Loc) : Prop := v = some (.long (own_wo zb zy)) ∧ Fr n0 L ∧ h = h0
set_option maxRecDepth 65536 in
set_option maxHeartbeats 40000000 in
theorem rm1 (l : Launch) (Z : State) (a0 : Array Value) (hw : ∀ d ∈ tables_1, d.before a0 Z = true) (ws : List Jvm.Cond) (zb : Int64) (zy : Int32) (h0 : Heap) (n0 : Nat) (Z0 : n0 ≤ h0.size)  :
    MetFree l (⟨"sinkward/Label", "without", "(JI)J"⟩ : MethodName) (head1 (Jvm.Cond.code (⟨"sinkward/Label", "without", "(JI)J"⟩ : MethodName) prog_10_method_15_code 3 (some .long) :: ws) ({ frames := 0, cells := 0, slots := 0, locals := 0 } : Room)) (fun a U => a = #[(.long zb), (.int zy)] ∧ Z.Warmed39 U.vm ∧ U.heap = h0) (fun _ _ _ _ _ => True) (fun _ U o U' => ∃ v L, o = .returned v ∧ Q1 Z zb zy h0 n0 v U'.heap L ∧ FrameEnd U o U' L ({ frames := 0, cells := 0, slots := 0, locals := 0 } : Room).cells ({ frames := 0, cells := 0, slots := 0, locals := 0 } : Room).slots) := by
  refine MetFree.of_bodySF (plainFor_of_name own_pn80992) hisR ?_
  intro p e s m args below meth c s₁ Bd hml0 hP hK
  obtain ⟨rfl, hZ, hh⟩ := hP
  have hx := Bd.exec
  have hby := Bd.bytes
  have hml : c.maxLocals = 3 := hml0
  have hown : s.vm.findClass "sinkward/Label" = some m.cls := findClass_of_methodNamed Bd.named
  have hnm := (name_of_methodNamed Bd.named Bd.method).1
  have X0 : Stand p l e ({ frames := 0, cells := 0, slots := 0, locals := 0 } : Room) s m #[(.long zb), (.int zy)] below meth c s₁ [] 0 0 := Stand.of_body Bd
  have e0 : s₁.heap = h0 := by rw [← hh, Bd.state]; rfl
  have N0 := Fr.nil n0
  have K0 := Keep.refl h0 ([] : List Addr)
  show own_WP p e below (own_E s (Q1 Z zb zy h0 n0) 0 0) s₁ (entryFrame m #[(.long zb), (.int zy)] 3)
  rw [ef_1 m zb zy]
  show own_WP _ _ _ _ s₁ (mkF m 0 #[.val (.long zb), .second, .val (.int zy)] [])
  refine own_go (fun t k => XS.iloadN X0.here hx rfl (hb hby d1_0) rfl  k) ?_
  show own_WP _ _ _ _ s₁ (mkF m 1 #[.val (.long zb), .second, .val (.int zy)] [(.int zy)])
  refine own_go (fun t k => XS.iconst X0.here hx rfl (hb hby d1_1) k) ?_
  show own_WP _ _ _ _ s₁ (mkF m 2 #[.val (.long zb), .second, .val (.int zy)] [(.int (-1 : Int32)), (.int zy)])
  by_cases hc2 : zy = (-1 : Int32)
  · refine own_go (fun t k => XS.icmpNo X0.here hx rfl (hb hby d1_2) rfl (teq hc2).2 k) ?_
    show own_WP _ _ _ _ s₁ (mkF m 5 #[.val (.long zb), .second, .val (.int zy)] [])
    refine own_go (fun t k => XS.lloadN X0.here hx rfl (hb hby d1_5) rfl  k) ?_
    show own_WP _ _ _ _ s₁ (mkF m 6 #[.val (.long zb), .second, .val (.int zy)] [(.long zb)])
    refine own_go (fun t k => XS.goto X0.here hx rfl (pc0 := 6) (pc' := 20) rfl (hb hby d1_6) (by decide) (by decide) k) ?_
    show own_WP _ _ _ _ s₁ (mkF m 20 #[.val (.long zb), .second, .val (.int zy)] [(.long zb)])
    refine own_retJ X0 hx Bd.notSynchronized Bd.returns (hb hby d1_20) (by decide) (by decide) ?_
    rw [e0]
    exact ⟨(congrArg (fun z => some (Value.long z)) (show zb = (own_wo zb zy) from by first | (simp [nar, own_wo, hc2]; done) | (simp only [if_true, if_false, eq_self, ↓reduceIte, own_wo, hc2]; first | done | rfl | decide))), N0, rfl⟩
  · refine own_go (fun t k => XS.icmpYes X0.here hx rfl (pc0 := 2) (pc' := 9) rfl (hb hby d1_2) rfl (feq hc2).2 (by decide) (by decide) k) ?_
    show own_WP _ _ _ _ s₁ (mkF m 9 #[.val (.long zb), .second, .val (.int zy)] [])
    refine own_go (fun t k => XS.lloadN X0.here hx rfl (hb hby d1_9) rfl  k) ?_
    show own_WP _ _ _ _ s₁ (mkF m 10 #[.val (.long zb), .second, .val (.int zy)] [(.long zb)])
    refine own_go (fun t k => X0.ldc2Long hx hown (mvT hZ (hw _ (List.mem_of_getElem? (i := 5) rfl))) (g := (mkF m 10 #[.val (.long zb), .second, .val (.int zy)] [(.long zb)])) rfl (hb hby d1_10) t k) ?_
    show own_WP _ _ _ _ s₁ (mkF m 13 #[.val (.long zb), .second, .val (.int zy)] [(.long (4294967297 : Int64)), (.long zb)])
    refine own_go (fun t k => XS.iloadN X0.here hx rfl (hb hby d1_13) rfl  k) ?_
    show own_WP _ _ _ _ s₁ (mkF m 14 #[.val (.long zb), .second, .val (.int zy)] [(.int zy), (.long (4294967297 : Int64)), (.long zb)])
    refine own_go (fun t k => XS.lshl X0.here hx rfl (hb hby d1_14) rfl k) ?_
    show own_WP _ _ _ _ s₁ (mkF m 15 #[.val (.long zb), .second, .val (.int zy)] [(.long ((4294967297 : Int64) <<< (zy &&& 0x3f).toInt64)), (.long zb)])
    refine own_go (fun t k => X0.ldc2Long hx hown (mvT hZ (hw _ (List.mem_of_getElem? (i := 6) rfl))) (g := (mkF m 15 #[.val (.long zb), .second, .val (.int zy)] [(.long ((4294967297 : Int64) <<< (zy &&& 0x3f).toInt64)), (.long zb)])) rfl (hb hby d1_15) t k) ?_
    show own_WP _ _ _ _ s₁ (mkF m 18 #[.val (.long zb), .second, .val (.int zy)] [(.long (-1 : Int64)), (.long ((4294967297 : Int64) <<< (zy &&& 0x3f).toInt64)), (.long zb)])
    refine own_go (fun t k => XS.lxor X0.here hx rfl (hb hby d1_18) rfl k) ?_
    show own_WP _ _ _ _ s₁ (mkF m 19 #[.val (.long zb), .second, .val (.int zy)] [(.long (((4294967297 : Int64) <<< (zy &&& 0x3f).toInt64) ^^^ (-1 : Int64))), (.long zb)])
    refine own_go (fun t k => XS.land X0.here hx rfl (hb hby d1_19) rfl k) ?_
    show own_WP _ _ _ _ s₁ (mkF m 20 #[.val (.long zb), .second, .val (.int zy)] [(.long (zb &&& (((4294967297 : Int64) <<< (zy &&& 0x3f).toInt64) ^^^ (-1 : Int64))))])
    refine own_retJ X0 hx Bd.notSynchronized Bd.returns (hb hby d1_20) (by decide) (by decide) ?_
    rw [e0]
    exact ⟨(congrArg (fun z => some (Value.long z)) (show (zb &&& (((4294967297 : Int64) <<< (zy &&& 0x3f).toInt64) ^^^ (-1 : Int64))) = (own_wo zb zy) from by first | (simp [nar, own_wo, hc2]; done) | (simp only [if_true, if_false, eq_self, ↓reduceIte, own_wo, hc2]; first | done | rfl | decide))), N0, rfl⟩
theorem own_pd79180 : parseMethodDescriptor "(JI)J" = some ⟨[.long, .int], some .long⟩ := by decide +kernel
theorem own_pn21849 : plainName "sinkward/LabelWithoutPinLaw" = true := by first | (simp [plainName, overriddenIn]; done) | decide +kernel
theorem ef_0 (m : MethodId) (zb : Int64) (zl : Int32) (zp : Int32) : entryFrame m #[(.long zb), (.int zl), (.int zp)] maxLocals = mkF m 0 #[.val (.long zb), .second, .val (.int zl), .val (.int zp), .unset, .unset, .unset, .unset, .unset, .unset, .unset, .unset] [] := by first | (simp [entryFrame, mkF, argsToLocals, Value.category, maxLocals]; done) | rfl
def Q0 (Z : State) (zb : Int64) (zl : Int32) (zp : Int32) (h0 : Heap) (n0 : Nat) (v : Option Value) (h : Heap) (L : List Loc) : Prop := v = some (.int 1) ∧ Fr n0 L
set_option maxRecDepth 65536 in
set_option maxHeartbeats 40000000 in
theorem rm0 (l : Launch) (Z : State) (a0 : Array Value) (hw : ∀ d ∈ tables_1, d.before a0 Z = true) (ws : List Jvm.Cond) (zb : Int64) (zl : Int32) (zp : Int32) (h0 : Heap) (n0 : Nat) (Z0 : n0 ≤ h0.size)  :
    MetFree l x (head1 (Jvm.Cond.code x code maxLocals ret :: ws) room_1) (fun a U => a = #[(.long zb), (.int zl), (.int zp)] ∧ Z.Warmed39 U.vm ∧ U.heap = h0) (fun _ _ _ _ _ => True) (fun _ U o U' => ∃ v L, o = .returned v ∧ Q0 Z zb zl zp h0 n0 v U'.heap L ∧ FrameEnd U o U' L 0 0) := by
  refine MetFree.of_bodySF (plainFor_of_name own_pn21849) hisR ?_
  intro p e s m args below meth c s₁ Bd hml0 hP hK
  obtain ⟨rfl, hZ, hh⟩ := hP
  have hx := Bd.exec
  have hby := Bd.bytes
  have hml : c.maxLocals = 12 := hml0
  have hown : s.vm.findClass "sinkward/LabelWithoutPinLaw" = some m.cls := findClass_of_methodNamed Bd.named
  have hnm := (name_of_methodNamed Bd.named Bd.method).1
  have X0 : Stand p l e room_1 s m #[(.long zb), (.int zl), (.int zp)] below meth c s₁ [] 0 0 := Stand.of_body Bd
  have e0 : s₁.heap = h0 := by rw [← hh, Bd.state]; rfl
  have N0 := Fr.nil n0
  have K0 := Keep.refl h0 ([] : List Addr)
  show own_WP p e below (own_E s (Q0 Z zb zl zp h0 n0) 0 0) s₁ (entryFrame m #[(.long zb), (.int zl), (.int zp)] maxLocals)
  rw [ef_0 m zb zl zp]
  show own_WP _ _ _ _ s₁ (mkF m 0 #[.val (.long zb), .second, .val (.int zl), .val (.int zp), .unset, .unset, .unset, .unset, .unset, .unset, .unset, .unset] [])
  refine own_go (fun t k => XS.iloadN X0.here hx rfl (hb hby at_0) rfl  k) ?_
  show own_WP _ _ _ _ s₁ (mkF m 1 #[.val (.long zb), .second, .val (.int zl), .val (.int zp), .unset, .unset, .unset, .unset, .unset, .unset, .unset, .unset] [(.int zl)])
  refine own_go (fun t k => X0.ldcInt hx hown (mvT hZ (hw _ (List.mem_of_getElem? (i := 0) rfl))) (g := (mkF m 1 #[.val (.long zb), .second, .val (.int zl), .val (.int zp), .unset, .unset, .unset, .unset, .unset, .unset, .unset, .unset] [(.int zl)])) rfl (hb hby at_1) t k) ?_
  show own_WP _ _ _ _ s₁ (mkF m 3 #[.val (.long zb), .second, .val (.int zl), .val (.int zp), .unset, .unset, .unset, .unset, .unset, .unset, .unset, .unset] [(.int (2147483647 : Int32)), (.int zl)])
  refine own_go (fun t k => XS.iand X0.here hx rfl (hb hby at_3) rfl k) ?_
  show own_WP _ _ _ _ s₁ (mkF m 4 #[.val (.long zb), .second, .val (.int zl), .val (.int zp), .unset, .unset, .unset, .unset, .unset, .unset, .unset, .unset] [(.int (zl &&& (2147483647 : Int32)))])
  refine own_go (fun t k => XS.bipush X0.here hx rfl (hb hby at_4) k) ?_
  show own_WP _ _ _ _ s₁ (mkF m 6 #[.val (.long zb), .second, .val (.int zl), .val (.int zp), .unset, .unset, .unset, .unset, .unset, .unset, .unset, .unset] [(.int (33 : Int32)), (.int (zl &&& (2147483647 : Int32)))])
  have hnz6 : (33 : Int32) ≠ 0 := by decide
  refine own_go (fun t k => iremM X0 hx rfl (hb hby at_6) rfl hnz6 k) ?_
  show own_WP _ _ _ _ s₁ (mkF m 7 #[.val (.long zb), .second, .val (.int zl), .val (.int zp), .unset, .unset, .unset, .unset, .unset, .unset, .unset, .unset] [(.int ((zl &&& (2147483647 : Int32)) % (33 : Int32)))])
  generalize d_zk : ((zl &&& (2147483647 : Int32)) % (33 : Int32)) = zk
  refine own_go (fun t k => XS.istore X0.here hx rfl (hb hby at_7) rfl (l' := #[.val (.long zb), .second, .val (.int zl), .val (.int zp), .val (.int zk), .unset, .unset, .unset, .unset, .unset, .unset, .unset]) rfl k) ?_
  have hk1 := own_mod33 zl
  rw [d_zk] at hk1
  show own_WP _ _ _ _ s₁ (mkF m 9 #[.val (.long zb), .second, .val (.int zl), .val (.int zp), .val (.int zk), .unset, .unset, .unset, .unset, .unset, .unset, .unset] [])
  refine own_go (fun t k => XS.iload X0.here hx rfl (hb hby at_9) rfl  k) ?_
  show own_WP _ _ _ _ s₁ (mkF m 11 #[.val (.long zb), .second, .val (.int zl), .val (.int zp), .val (.int zk), .unset, .unset, .unset, .unset, .unset, .unset, .unset] [(.int zk)])
  refine own_go (fun t k => XS.bipush X0.here hx rfl (hb hby at_11) k) ?_
  show own_WP _ _ _ _ s₁ (mkF m 13 #[.val (.long zb), .second, .val (.int zl), .val (.int zp), .val (.int zk), .unset, .unset, .unset, .unset, .unset, .unset, .unset] [(.int (32 : Int32)), (.int zk)])
  by_cases hc13 : zk = (32 : Int32)
  · refine own_go (fun t k => XS.icmpNo X0.here hx rfl (hb hby at_13) rfl (teq hc13).2 k) ?_
    show own_WP _ _ _ _ s₁ (mkF m 16 #[.val (.long zb), .second, .val (.int zl), .val (.int zp), .val (.int zk), .unset, .unset, .unset, .unset, .unset, .unset, .unset] [])
    refine own_go (fun t k => XS.iconst X0.here hx rfl (hb hby at_16) k) ?_
    show own_WP _ _ _ _ s₁ (mkF m 17 #[.val (.long zb), .second, .val (.int zl), .val (.int zp), .val (.int zk), .unset, .unset, .unset, .unset, .unset, .unset, .unset] [(.int (-1 : Int32))])
    refine own_go (fun t k => XS.goto X0.here hx rfl (pc0 := 17) (pc' := 22) rfl (hb hby at_17) (by decide) (by decide) k) ?_
    show own_WP _ _ _ _ s₁ (mkF m 22 #[.val (.long zb), .second, .val (.int zl), .val (.int zp), .val (.int zk), .unset, .unset, .unset, .unset, .unset, .unset, .unset] [(.int (-1 : Int32))])
    refine own_go (fun t k => XS.istore X0.here hx rfl (hb hby at_22) rfl (l' := #[.val (.long zb), .second, .val (.int zl), .val (.int zp), .val (.int zk), .val (.int (-1 : Int32)), .unset, .unset, .unset, .unset, .unset, .unset]) rfl k) ?_
    show own_WP _ _ _ _ s₁ (mkF m 24 #[.val (.long zb), .second, .val (.int zl), .val (.int zp), .val (.int zk), .val (.int (-1 : Int32)), .unset, .unset, .unset, .unset, .unset, .unset] [])
    refine own_go (fun t k => XS.lloadN X0.here hx rfl (hb hby at_24) rfl  k) ?_
    show own_WP _ _ _ _ s₁ (mkF m 25 #[.val (.long zb), .second, .val (.int zl), .val (.int zp), .val (.int zk), .val (.int (-1 : Int32)), .unset, .unset, .unset, .unset, .unset, .unset] [(.long zb)])
    refine own_go (fun t k => XS.iload X0.here hx rfl (hb hby at_25) rfl  k) ?_
    show own_WP _ _ _ _ s₁ (mkF m 27 #[.val (.long zb), .second, .val (.int zl), .val (.int zp), .val (.int zk), .val (.int (-1 : Int32)), .unset, .unset, .unset, .unset, .unset, .unset] [(.int (-1 : Int32)), (.long zb)])
    obtain ⟨_, _, ⟨T1, L1, k1, n1⟩, -, X1, ⟨Lc1, hQ1, l1, y1, z1⟩, st1⟩ := Jvm.LawKit.callS X0 hx (y := (⟨"sinkward/Label", "without", "(JI)J"⟩ : MethodName)) hown (mvT hZ (hw _ (List.mem_of_getElem? (i := 1) rfl))) (mvT hZ (hw _ (List.mem_of_getElem? (i := 2) rfl))) (mvT hZ (hw _ (List.mem_of_getElem? (i := 3) rfl))) (mvT hZ (hw _ (List.mem_of_getElem? (i := 4) rfl))) (by decide) (backOf (W := 0) (rm1 l Z a0 hw [] zb (-1 : Int32)  h0 n0 (own_le Z0 K0) ) hZ (hw _ (List.mem_of_getElem? (i := 4) rfl)) (hw _ (List.mem_of_getElem? (i := 3) rfl)) (by decide) (by decide)) (g := (mkF m 27 #[.val (.long zb), .second, .val (.int zl), .val (.int zp), .val (.int zk), .val (.int (-1 : Int32)), .unset, .unset, .unset, .unset, .unset, .unset] [(.int (-1 : Int32)), (.long zb)])) rfl (by rw [hml]; rfl) (argsL := [(.long zb), (.int (-1 : Int32))]) (rest := []) (lenOf own_pd79180 rfl) rfl (by show 2 * 0 + _ ≤ _; exact Nat.le_of_eq rfl) (hb hby at_27) (fun _ _ => ⟨rfl, e0, (by decide : 0 + 0 ≤ _), (by decide : 0 + 0 ≤ _)⟩)
    dsimp only [Pt.U, Pt.locs, Pt.cells, Pt.slots] at X1 l1 y1 z1 st1 hQ1
    subst l1 y1 z1
    obtain ⟨rfl, N1q, eq1⟩ := hQ1
    have N1 := Fr.app N0 N1q
    refine own_go st1 ?_
    show own_WP _ _ _ _ T1 (mkF m 30 #[.val (.long zb), .second, .val (.int zl), .val (.int zp), .val (.int zk), .val (.int (-1 : Int32)), .unset, .unset, .unset, .unset, .unset, .unset] [(.long (own_wo zb (-1 : Int32)))])
    refine own_go (fun t k => XS.lstore X1.here hx rfl (hb hby at_30) rfl (l' := #[.val (.long zb), .second, .val (.int zl), .val (.int zp), .val (.int zk), .val (.int (-1 : Int32)), .val (.long (own_wo zb (-1 : Int32))), .second, .unset, .unset, .unset, .unset]) rfl k) ?_
    show own_WP _ _ _ _ T1 (mkF m 32 #[.val (.long zb), .second, .val (.int zl), .val (.int zp), .val (.int zk), .val (.int (-1 : Int32)), .val (.long (own_wo zb (-1 : Int32))), .second, .unset, .unset, .unset, .unset] [])
    refine own_go (fun t k => XS.iload X1.here hx rfl (hb hby at_32) rfl  k) ?_
    show own_WP _ _ _ _ T1 (mkF m 34 #[.val (.long zb), .second, .val (.int zl), .val (.int zp), .val (.int zk), .val (.int (-1 : Int32)), .val (.long (own_wo zb (-1 : Int32))), .second, .unset, .unset, .unset, .unset] [(.int (-1 : Int32))])
    refine own_go (fun t k => XS.iconst X1.here hx rfl (hb hby at_34) k) ?_
    show own_WP _ _ _ _ T1 (mkF m 35 #[.val (.long zb), .second, .val (.int zl), .val (.int zp), .val (.int zk), .val (.int (-1 : Int32)), .val (.long (own_wo zb (-1 : Int32))), .second, .unset, .unset, .unset, .unset] [(.int (-1 : Int32)), (.int (-1 : Int32))])
    have hc35 : (-1 : Int32) = (-1 : Int32) := rfl
    refine own_go (fun t k => XS.icmpNo X1.here hx rfl (hb hby at_35) rfl (teq hc35).2 k) ?_
    show own_WP _ _ _ _ T1 (mkF m 38 #[.val (.long zb), .second, .val (.int zl), .val (.int zp), .val (.int zk), .val (.int (-1 : Int32)), .val (.long (own_wo zb (-1 : Int32))), .second, .unset, .unset, .unset, .unset] [])
    refine own_go (fun t k => XS.lload X1.here hx rfl (hb hby at_38) rfl  k) ?_
    show own_WP _ _ _ _ T1 (mkF m 40 #[.val (.long zb), .second, .val (.int zl), .val (.int zp), .val (.int zk), .val (.int (-1 : Int32)), .val (.long (own_wo zb (-1 : Int32))), .second, .unset, .unset, .unset, .unset] [(.long (own_wo zb (-1 : Int32)))])
    refine own_go (fun t k => XS.lloadN X1.here hx rfl (hb hby at_40) rfl  k) ?_
    show own_WP _ _ _ _ T1 (mkF m 41 #[.val (.long zb), .second, .val (.int zl), .val (.int zp), .val (.int zk), .val (.int (-1 : Int32)), .val (.long (own_wo zb (-1 : Int32))), .second, .unset, .unset, .unset, .unset] [(.long zb), (.long (own_wo zb (-1 : Int32)))])
    refine own_go (fun t k => XS.lcmp X1.here hx rfl (hb hby at_41) rfl k) ?_
    show own_WP _ _ _ _ T1 (mkF m 42 #[.val (.long zb), .second, .val (.int zl), .val (.int zp), .val (.int zk), .val (.int (-1 : Int32)), .val (.long (own_wo zb (-1 : Int32))), .second, .unset, .unset, .unset, .unset] [(.int (lcmpW (own_wo zb (-1 : Int32)) zb))])
    have hc42 : (own_wo zb (-1 : Int32)) = zb := by
      rfl
    refine own_go (fun t k => XS.ifNo X1.here hx rfl (hb hby at_42) rfl ((if0 _ _).trans (teq ((lw_eq (own_wo zb (-1 : Int32)) zb).mpr hc42)).2) k) ?_
    show own_WP _ _ _ _ T1 (mkF m 45 #[.val (.long zb), .second, .val (.int zl), .val (.int zp), .val (.int zk), .val (.int (-1 : Int32)), .val (.long (own_wo zb (-1 : Int32))), .second, .unset, .unset, .unset, .unset] [])
    refine own_go (fun t k => XS.iconst X1.here hx rfl (hb hby at_45) k) ?_
    show own_WP _ _ _ _ T1 (mkF m 46 #[.val (.long zb), .second, .val (.int zl), .val (.int zp), .val (.int zk), .val (.int (-1 : Int32)), .val (.long (own_wo zb (-1 : Int32))), .second, .unset, .unset, .unset, .unset] [(.int (1 : Int32))])
    refine own_go (fun t k => XS.goto X1.here hx rfl (pc0 := 46) (pc' := 50) rfl (hb hby at_46) (by decide) (by decide) k) ?_
    show own_WP _ _ _ _ T1 (mkF m 50 #[.val (.long zb), .second, .val (.int zl), .val (.int zp), .val (.int zk), .val (.int (-1 : Int32)), .val (.long (own_wo zb (-1 : Int32))), .second, .unset, .unset, .unset, .unset] [(.int (1 : Int32))])
    refine own_retN X1 hx Bd.notSynchronized (t := .boolean) (by simp) Bd.returns (hb hby at_50) (by decide) (by decide) ?_
    rw [eq1]
    exact ⟨rfl, N1⟩
  · refine own_go (fun t k => XS.icmpYes X0.here hx rfl (pc0 := 13) (pc' := 20) rfl (hb hby at_13) rfl (feq hc13).2 (by decide) (by decide) k) ?_
    show own_WP _ _ _ _ s₁ (mkF m 20 #[.val (.long zb), .second, .val (.int zl), .val (.int zp), .val (.int zk), .unset, .unset, .unset, .unset, .unset, .unset, .unset] [])
    refine own_go (fun t k => XS.iload X0.here hx rfl (hb hby at_20) rfl  k) ?_
    show own_WP _ _ _ _ s₁ (mkF m 22 #[.val (.long zb), .second, .val (.int zl), .val (.int zp), .val (.int zk), .unset, .unset, .unset, .unset, .unset, .unset, .unset] [(.int zk)])
    refine own_go (fun t k => XS.istore X0.here hx rfl (hb hby at_22) rfl (l' := #[.val (.long zb), .second, .val (.int zl), .val (.int zp), .val (.int zk), .val (.int zk), .unset, .unset, .unset, .unset, .unset, .unset]) rfl k) ?_
    show own_WP _ _ _ _ s₁ (mkF m 24 #[.val (.long zb), .second, .val (.int zl), .val (.int zp), .val (.int zk), .val (.int zk), .unset, .unset, .unset, .unset, .unset, .unset] [])
    refine own_go (fun t k => XS.lloadN X0.here hx rfl (hb hby at_24) rfl  k) ?_
    show own_WP _ _ _ _ s₁ (mkF m 25 #[.val (.long zb), .second, .val (.int zl), .val (.int zp), .val (.int zk), .val (.int zk), .unset, .unset, .unset, .unset, .unset, .unset] [(.long zb)])
    refine own_go (fun t k => XS.iload X0.here hx rfl (hb hby at_25) rfl  k) ?_
    show own_WP _ _ _ _ s₁ (mkF m 27 #[.val (.long zb), .second, .val (.int zl), .val (.int zp), .val (.int zk), .val (.int zk), .unset, .unset, .unset, .unset, .unset, .unset] [(.int zk), (.long zb)])
    obtain ⟨_, _, ⟨T2, L2, k2, n2⟩, -, X2, ⟨Lc2, hQ2, l2, y2, z2⟩, st2⟩ := Jvm.LawKit.callS X0 hx (y := (⟨"sinkward/Label", "without", "(JI)J"⟩ : MethodName)) hown (mvT hZ (hw _ (List.mem_of_getElem? (i := 1) rfl))) (mvT hZ (hw _ (List.mem_of_getElem? (i := 2) rfl))) (mvT hZ (hw _ (List.mem_of_getElem? (i := 3) rfl))) (mvT hZ (hw _ (List.mem_of_getElem? (i := 4) rfl))) (by decide) (backOf (W := 0) (rm1 l Z a0 hw [] zb zk  h0 n0 (own_le Z0 K0) ) hZ (hw _ (List.mem_of_getElem? (i := 4) rfl)) (hw _ (List.mem_of_getElem? (i := 3) rfl)) (by decide) (by decide)) (g := (mkF m 27 #[.val (.long zb), .second, .val (.int zl), .val (.int zp), .val (.int zk), .val (.int zk), .unset, .unset, .unset, .unset, .unset, .unset] [(.int zk), (.long zb)])) rfl (by rw [hml]; rfl) (argsL := [(.long zb), (.int zk)]) (rest := []) (lenOf own_pd79180 rfl) rfl (by show 2 * 0 + _ ≤ _; exact Nat.le_of_eq rfl) (hb hby at_27) (fun _ _ => ⟨rfl, e0, (by decide : 0 + 0 ≤ _), (by decide : 0 + 0 ≤ _)⟩)
    dsimp only [Pt.U, Pt.locs, Pt.cells, Pt.slots] at X2 l2 y2 z2 st2 hQ2
    subst l2 y2 z2
    obtain ⟨rfl, N2q, eq2⟩ := hQ2
    have N2 := Fr.app N0 N2q
    refine own_go st2 ?_
    show own_WP _ _ _ _ T2 (mkF m 30 #[.val (.long zb), .second, .val (.int zl), .val (.int zp), .val (.int zk), .val (.int zk), .unset, .unset, .unset, .unset, .unset, .unset] [(.long (own_wo zb zk))])
    refine own_go (fun t k => XS.lstore X2.here hx rfl (hb hby at_30) rfl (l' := #[.val (.long zb), .second, .val (.int zl), .val (.int zp), .val (.int zk), .val (.int zk), .val (.long (own_wo zb zk)), .second, .unset, .unset, .unset, .unset]) rfl k) ?_
    show own_WP _ _ _ _ T2 (mkF m 32 #[.val (.long zb), .second, .val (.int zl), .val (.int zp), .val (.int zk), .val (.int zk), .val (.long (own_wo zb zk)), .second, .unset, .unset, .unset, .unset] [])
    refine own_go (fun t k => XS.iload X2.here hx rfl (hb hby at_32) rfl  k) ?_
    show own_WP _ _ _ _ T2 (mkF m 34 #[.val (.long zb), .second, .val (.int zl), .val (.int zp), .val (.int zk), .val (.int zk), .val (.long (own_wo zb zk)), .second, .unset, .unset, .unset, .unset] [(.int zk)])
    refine own_go (fun t k => XS.iconst X2.here hx rfl (hb hby at_34) k) ?_
    show own_WP _ _ _ _ T2 (mkF m 35 #[.val (.long zb), .second, .val (.int zl), .val (.int zp), .val (.int zk), .val (.int zk), .val (.long (own_wo zb zk)), .second, .unset, .unset, .unset, .unset] [(.int (-1 : Int32)), (.int zk)])
    have hc35_1 : ¬ (zk = (-1 : Int32)) := by
      exact own_nem1 hk1.1
    refine own_go (fun t k => XS.icmpYes X2.here hx rfl (pc0 := 35) (pc' := 51) rfl (hb hby at_35) rfl (feq hc35_1).2 (by decide) (by decide) k) ?_
    show own_WP _ _ _ _ T2 (mkF m 51 #[.val (.long zb), .second, .val (.int zl), .val (.int zp), .val (.int zk), .val (.int zk), .val (.long (own_wo zb zk)), .second, .unset, .unset, .unset, .unset] [])
    refine own_go (fun t k => XS.iloadN X2.here hx rfl (hb hby at_51) rfl  k) ?_
    show own_WP _ _ _ _ T2 (mkF m 52 #[.val (.long zb), .second, .val (.int zl), .val (.int zp), .val (.int zk), .val (.int zk), .val (.long (own_wo zb zk)), .second, .unset, .unset, .unset, .unset] [(.int zp)])
    refine own_go (fun t k => XS.bipush X2.here hx rfl (hb hby at_52) k) ?_
    show own_WP _ _ _ _ T2 (mkF m 54 #[.val (.long zb), .second, .val (.int zl), .val (.int zp), .val (.int zk), .val (.int zk), .val (.long (own_wo zb zk)), .second, .unset, .unset, .unset, .unset] [(.int (63 : Int32)), (.int zp)])
    refine own_go (fun t k => XS.iand X2.here hx rfl (hb hby at_54) rfl k) ?_
    show own_WP _ _ _ _ T2 (mkF m 55 #[.val (.long zb), .second, .val (.int zl), .val (.int zp), .val (.int zk), .val (.int zk), .val (.long (own_wo zb zk)), .second, .unset, .unset, .unset, .unset] [(.int (zp &&& (63 : Int32)))])
    generalize d_zj : (zp &&& (63 : Int32)) = zj
    refine own_go (fun t k => XS.istore X2.here hx rfl (hb hby at_55) rfl (l' := #[.val (.long zb), .second, .val (.int zl), .val (.int zp), .val (.int zk), .val (.int zk), .val (.long (own_wo zb zk)), .second, .val (.int zj), .unset, .unset, .unset]) rfl k) ?_
    have hj1 : zj.toInt = zp.toInt % 2 ^ 6 := by rw [← d_zj]; exact Jvm.Kit.i32_mask zp 63 (k := 6) (by decide) (by decide)
    have hk2 : zk.toInt < 32 := by have q := own_ne32 hk1.1 hk1.2 hc13; exact q
    have key := own_key zb zk zj hk1.1 hk2 (by omega) (by omega)
    show own_WP _ _ _ _ T2 (mkF m 57 #[.val (.long zb), .second, .val (.int zl), .val (.int zp), .val (.int zk), .val (.int zk), .val (.long (own_wo zb zk)), .second, .val (.int zj), .unset, .unset, .unset] [])
    refine own_go (fun t k => XS.lloadN X2.here hx rfl (hb hby at_57) rfl  k) ?_
    show own_WP _ _ _ _ T2 (mkF m 58 #[.val (.long zb), .second, .val (.int zl), .val (.int zp), .val (.int zk), .val (.int zk), .val (.long (own_wo zb zk)), .second, .val (.int zj), .unset, .unset, .unset] [(.long zb)])
    refine own_go (fun t k => XS.iload X2.here hx rfl (hb hby at_58) rfl  k) ?_
    show own_WP _ _ _ _ T2 (mkF m 60 #[.val (.long zb), .second, .val (.int zl), .val (.int zp), .val (.int zk), .val (.int zk), .val (.long (own_wo zb zk)), .second, .val (.int zj), .unset, .unset, .unset] [(.int zj), (.long zb)])
    refine own_go (fun t k => XS.lushr X2.here hx rfl (hb hby at_60) rfl k) ?_
    show own_WP _ _ _ _ T2 (mkF m 61 #[.val (.long zb), .second, .val (.int zl), .val (.int zp), .val (.int zk), .val (.int zk), .val (.long (own_wo zb zk)), .second, .val (.int zj), .unset, .unset, .unset] [(.long ((zb.toUInt64 >>> (zj &&& 0x3f).toInt64.toUInt64).toInt64))])
    refine own_go (fun t k => XS.lconst X2.here hx rfl (hb hby at_61) k) ?_
    show own_WP _ _ _ _ T2 (mkF m 62 #[.val (.long zb), .second, .val (.int zl), .val (.int zp), .val (.int zk), .val (.int zk), .val (.long (own_wo zb zk)), .second, .val (.int zj), .unset, .unset, .unset] [(.long (1 : Int64)), (.long ((zb.toUInt64 >>> (zj &&& 0x3f).toInt64.toUInt64).toInt64))])
    refine own_go (fun t k => XS.land X2.here hx rfl (hb hby at_62) rfl k) ?_
    show own_WP _ _ _ _ T2 (mkF m 63 #[.val (.long zb), .second, .val (.int zl), .val (.int zp), .val (.int zk), .val (.int zk), .val (.long (own_wo zb zk)), .second, .val (.int zj), .unset, .unset, .unset] [(.long (((zb.toUInt64 >>> (zj &&& 0x3f).toInt64.toUInt64).toInt64) &&& (1 : Int64)))])
    refine own_go (fun t k => XS.lconst X2.here hx rfl (hb hby at_63) k) ?_
    show own_WP _ _ _ _ T2 (mkF m 64 #[.val (.long zb), .second, .val (.int zl), .val (.int zp), .val (.int zk), .val (.int zk), .val (.long (own_wo zb zk)), .second, .val (.int zj), .unset, .unset, .unset] [(.long (0 : Int64)), (.long (((zb.toUInt64 >>> (zj &&& 0x3f).toInt64.toUInt64).toInt64) &&& (1 : Int64)))])
    refine own_go (fun t k => XS.lcmp X2.here hx rfl (hb hby at_64) rfl k) ?_
    show own_WP _ _ _ _ T2 (mkF m 65 #[.val (.long zb), .second, .val (.int zl), .val (.int zp), .val (.int zk), .val (.int zk), .val (.long (own_wo zb zk)), .second, .val (.int zj), .unset, .unset, .unset] [(.int (lcmpW (((zb.toUInt64 >>> (zj &&& 0x3f).toInt64.toUInt64).toInt64) &&& (1 : Int64)) (0 : Int64)))])
    by_cases hc65 : (((zb.toUInt64 >>> (zj &&& 0x3f).toInt64.toUInt64).toInt64) &&& (1 : Int64)) = (0 : Int64)
    · refine own_go (fun t k => XS.ifYes X2.here hx rfl (pc0 := 65) (pc' := 72) rfl (hb hby at_65) rfl ((if0 _ _).trans (teq ((lw_eq (((zb.toUInt64 >>> (zj &&& 0x3f).toInt64.toUInt64).toInt64) &&& (1 : Int64)) (0 : Int64)).mpr hc65)).1) (by decide) (by decide) k) ?_
      show own_WP _ _ _ _ T2 (mkF m 72 #[.val (.long zb), .second, .val (.int zl), .val (.int zp), .val (.int zk), .val (.int zk), .val (.long (own_wo zb zk)), .second, .val (.int zj), .unset, .unset, .unset] [])
      refine own_go (fun t k => XS.iconst X2.here hx rfl (hb hby at_72) k) ?_
      show own_WP _ _ _ _ T2 (mkF m 73 #[.val (.long zb), .second, .val (.int zl), .val (.int zp), .val (.int zk), .val (.int zk), .val (.long (own_wo zb zk)), .second, .val (.int zj), .unset, .unset, .unset] [(.int (0 : Int32))])
      refine own_go (fun t k => XS.istore X2.here hx rfl (hb hby at_73) rfl (l' := #[.val (.long zb), .second, .val (.int zl), .val (.int zp), .val (.int zk), .val (.int zk), .val (.long (own_wo zb zk)), .second, .val (.int zj), .val (.int (0 : Int32)), .unset, .unset]) rfl k) ?_
      show own_WP _ _ _ _ T2 (mkF m 75 #[.val (.long zb), .second, .val (.int zl), .val (.int zp), .val (.int zk), .val (.int zk), .val (.long (own_wo zb zk)), .second, .val (.int zj), .val (.int (0 : Int32)), .unset, .unset] [])
      refine own_go (fun t k => XS.iload X2.here hx rfl (hb hby at_75) rfl  k) ?_
      show own_WP _ _ _ _ T2 (mkF m 77 #[.val (.long zb), .second, .val (.int zl), .val (.int zp), .val (.int zk), .val (.int zk), .val (.long (own_wo zb zk)), .second, .val (.int zj), .val (.int (0 : Int32)), .unset, .unset] [(.int (0 : Int32))])
      have hc77 : (0 : Int32) = (0 : Int32) := rfl
      refine own_go (fun t k => XS.ifYes X2.here hx rfl (pc0 := 77) (pc' := 101) rfl (hb hby at_77) rfl ((if0 _ _).trans (teq hc77).1) (by decide) (by decide) k) ?_
      show own_WP _ _ _ _ T2 (mkF m 101 #[.val (.long zb), .second, .val (.int zl), .val (.int zp), .val (.int zk), .val (.int zk), .val (.long (own_wo zb zk)), .second, .val (.int zj), .val (.int (0 : Int32)), .unset, .unset] [])
      refine own_go (fun t k => XS.iconst X2.here hx rfl (hb hby at_101) k) ?_
      show own_WP _ _ _ _ T2 (mkF m 102 #[.val (.long zb), .second, .val (.int zl), .val (.int zp), .val (.int zk), .val (.int zk), .val (.long (own_wo zb zk)), .second, .val (.int zj), .val (.int (0 : Int32)), .unset, .unset] [(.int (0 : Int32))])
      refine own_go (fun t k => XS.istore X2.here hx rfl (hb hby at_102) rfl (l' := #[.val (.long zb), .second, .val (.int zl), .val (.int zp), .val (.int zk), .val (.int zk), .val (.long (own_wo zb zk)), .second, .val (.int zj), .val (.int (0 : Int32)), .val (.int (0 : Int32)), .unset]) rfl k) ?_
      show own_WP _ _ _ _ T2 (mkF m 104 #[.val (.long zb), .second, .val (.int zl), .val (.int zp), .val (.int zk), .val (.int zk), .val (.long (own_wo zb zk)), .second, .val (.int zj), .val (.int (0 : Int32)), .val (.int (0 : Int32)), .unset] [])
      refine own_go (fun t k => XS.lload X2.here hx rfl (hb hby at_104) rfl  k) ?_
      show own_WP _ _ _ _ T2 (mkF m 106 #[.val (.long zb), .second, .val (.int zl), .val (.int zp), .val (.int zk), .val (.int zk), .val (.long (own_wo zb zk)), .second, .val (.int zj), .val (.int (0 : Int32)), .val (.int (0 : Int32)), .unset] [(.long (own_wo zb zk))])
      refine own_go (fun t k => XS.iload X2.here hx rfl (hb hby at_106) rfl  k) ?_
      show own_WP _ _ _ _ T2 (mkF m 108 #[.val (.long zb), .second, .val (.int zl), .val (.int zp), .val (.int zk), .val (.int zk), .val (.long (own_wo zb zk)), .second, .val (.int zj), .val (.int (0 : Int32)), .val (.int (0 : Int32)), .unset] [(.int zj), (.long (own_wo zb zk))])
      refine own_go (fun t k => XS.lushr X2.here hx rfl (hb hby at_108) rfl k) ?_
      show own_WP _ _ _ _ T2 (mkF m 109 #[.val (.long zb), .second, .val (.int zl), .val (.int zp), .val (.int zk), .val (.int zk), .val (.long (own_wo zb zk)), .second, .val (.int zj), .val (.int (0 : Int32)), .val (.int (0 : Int32)), .unset] [(.long (((own_wo zb zk).toUInt64 >>> (zj &&& 0x3f).toInt64.toUInt64).toInt64))])
      refine own_go (fun t k => XS.lconst X2.here hx rfl (hb hby at_109) k) ?_
      show own_WP _ _ _ _ T2 (mkF m 110 #[.val (.long zb), .second, .val (.int zl), .val (.int zp), .val (.int zk), .val (.int zk), .val (.long (own_wo zb zk)), .second, .val (.int zj), .val (.int (0 : Int32)), .val (.int (0 : Int32)), .unset] [(.long (1 : Int64)), (.long (((own_wo zb zk).toUInt64 >>> (zj &&& 0x3f).toInt64.toUInt64).toInt64))])
      refine own_go (fun t k => XS.land X2.here hx rfl (hb hby at_110) rfl k) ?_
      show own_WP _ _ _ _ T2 (mkF m 111 #[.val (.long zb), .second, .val (.int zl), .val (.int zp), .val (.int zk), .val (.int zk), .val (.long (own_wo zb zk)), .second, .val (.int zj), .val (.int (0 : Int32)), .val (.int (0 : Int32)), .unset] [(.long ((((own_wo zb zk).toUInt64 >>> (zj &&& 0x3f).toInt64.toUInt64).toInt64) &&& (1 : Int64)))])
      refine own_go (fun t k => XS.lconst X2.here hx rfl (hb hby at_111) k) ?_
      show own_WP _ _ _ _ T2 (mkF m 112 #[.val (.long zb), .second, .val (.int zl), .val (.int zp), .val (.int zk), .val (.int zk), .val (.long (own_wo zb zk)), .second, .val (.int zj), .val (.int (0 : Int32)), .val (.int (0 : Int32)), .unset] [(.long (0 : Int64)), (.long ((((own_wo zb zk).toUInt64 >>> (zj &&& 0x3f).toInt64.toUInt64).toInt64) &&& (1 : Int64)))])
      refine own_go (fun t k => XS.lcmp X2.here hx rfl (hb hby at_112) rfl k) ?_
      show own_WP _ _ _ _ T2 (mkF m 113 #[.val (.long zb), .second, .val (.int zl), .val (.int zp), .val (.int zk), .val (.int zk), .val (.long (own_wo zb zk)), .second, .val (.int zj), .val (.int (0 : Int32)), .val (.int (0 : Int32)), .unset] [(.int (lcmpW ((((own_wo zb zk).toUInt64 >>> (zj &&& 0x3f).toInt64.toUInt64).toInt64) &&& (1 : Int64)) (0 : Int64)))])
      have hc113 : ((((own_wo zb zk).toUInt64 >>> (zj &&& 0x3f).toInt64.toUInt64).toInt64) &&& (1 : Int64)) = (0 : Int64) := by
        exact key.mpr (Or.inl hc65)
      refine own_go (fun t k => XS.ifYes X2.here hx rfl (pc0 := 113) (pc' := 120) rfl (hb hby at_113) rfl ((if0 _ _).trans (teq ((lw_eq ((((own_wo zb zk).toUInt64 >>> (zj &&& 0x3f).toInt64.toUInt64).toInt64) &&& (1 : Int64)) (0 : Int64)).mpr hc113)).1) (by decide) (by decide) k) ?_
      show own_WP _ _ _ _ T2 (mkF m 120 #[.val (.long zb), .second, .val (.int zl), .val (.int zp), .val (.int zk), .val (.int zk), .val (.long (own_wo zb zk)), .second, .val (.int zj), .val (.int (0 : Int32)), .val (.int (0 : Int32)), .unset] [])
      refine own_go (fun t k => XS.iconst X2.here hx rfl (hb hby at_120) k) ?_
      show own_WP _ _ _ _ T2 (mkF m 121 #[.val (.long zb), .second, .val (.int zl), .val (.int zp), .val (.int zk), .val (.int zk), .val (.long (own_wo zb zk)), .second, .val (.int zj), .val (.int (0 : Int32)), .val (.int (0 : Int32)), .unset] [(.int (0 : Int32))])
      refine own_go (fun t k => XS.istore X2.here hx rfl (hb hby at_121) rfl (l' := #[.val (.long zb), .second, .val (.int zl), .val (.int zp), .val (.int zk), .val (.int zk), .val (.long (own_wo zb zk)), .second, .val (.int zj), .val (.int (0 : Int32)), .val (.int (0 : Int32)), .val (.int (0 : Int32))]) rfl k) ?_
      show own_WP _ _ _ _ T2 (mkF m 123 #[.val (.long zb), .second, .val (.int zl), .val (.int zp), .val (.int zk), .val (.int zk), .val (.long (own_wo zb zk)), .second, .val (.int zj), .val (.int (0 : Int32)), .val (.int (0 : Int32)), .val (.int (0 : Int32))] [])
      refine own_go (fun t k => XS.iload X2.here hx rfl (hb hby at_123) rfl  k) ?_
      show own_WP _ _ _ _ T2 (mkF m 125 #[.val (.long zb), .second, .val (.int zl), .val (.int zp), .val (.int zk), .val (.int zk), .val (.long (own_wo zb zk)), .second, .val (.int zj), .val (.int (0 : Int32)), .val (.int (0 : Int32)), .val (.int (0 : Int32))] [(.int (0 : Int32))])
      refine own_go (fun t k => XS.iload X2.here hx rfl (hb hby at_125) rfl  k) ?_
      show own_WP _ _ _ _ T2 (mkF m 127 #[.val (.long zb), .second, .val (.int zl), .val (.int zp), .val (.int zk), .val (.int zk), .val (.long (own_wo zb zk)), .second, .val (.int zj), .val (.int (0 : Int32)), .val (.int (0 : Int32)), .val (.int (0 : Int32))] [(.int (0 : Int32)), (.int (0 : Int32))])
      have hc127 : (0 : Int32) = (0 : Int32) := rfl
      refine own_go (fun t k => XS.icmpNo X2.here hx rfl (hb hby at_127) rfl (teq hc127).2 k) ?_
      show own_WP _ _ _ _ T2 (mkF m 130 #[.val (.long zb), .second, .val (.int zl), .val (.int zp), .val (.int zk), .val (.int zk), .val (.long (own_wo zb zk)), .second, .val (.int zj), .val (.int (0 : Int32)), .val (.int (0 : Int32)), .val (.int (0 : Int32))] [])
      refine own_go (fun t k => XS.iconst X2.here hx rfl (hb hby at_130) k) ?_
      show own_WP _ _ _ _ T2 (mkF m 131 #[.val (.long zb), .second, .val (.int zl), .val (.int zp), .val (.int zk), .val (.int zk), .val (.long (own_wo zb zk)), .second, .val (.int zj), .val (.int (0 : Int32)), .val (.int (0 : Int32)), .val (.int (0 : Int32))] [(.int (1 : Int32))])
      refine own_go (fun t k => XS.goto X2.here hx rfl (pc0 := 131) (pc' := 135) rfl (hb hby at_131) (by decide) (by decide) k) ?_
      show own_WP _ _ _ _ T2 (mkF m 135 #[.val (.long zb), .second, .val (.int zl), .val (.int zp), .val (.int zk), .val (.int zk), .val (.long (own_wo zb zk)), .second, .val (.int zj), .val (.int (0 : Int32)), .val (.int (0 : Int32)), .val (.int (0 : Int32))] [(.int (1 : Int32))])
      refine own_retN X2 hx Bd.notSynchronized (t := .boolean) (by simp) Bd.returns (hb hby at_135) (by decide) (by decide) ?_
      rw [eq2]
      exact ⟨rfl, N2⟩
    · refine own_go (fun t k => XS.ifNo X2.here hx rfl (hb hby at_65) rfl ((if0 _ _).trans (feq (fun z => hc65 ((lw_eq (((zb.toUInt64 >>> (zj &&& 0x3f).toInt64.toUInt64).toInt64) &&& (1 : Int64)) (0 : Int64)).mp z))).1) k) ?_
      show own_WP _ _ _ _ T2 (mkF m 68 #[.val (.long zb), .second, .val (.int zl), .val (.int zp), .val (.int zk), .val (.int zk), .val (.long (own_wo zb zk)), .second, .val (.int zj), .unset, .unset, .unset] [])
      refine own_go (fun t k => XS.iconst X2.here hx rfl (hb hby at_68) k) ?_
      show own_WP _ _ _ _ T2 (mkF m 69 #[.val (.long zb), .second, .val (.int zl), .val (.int zp), .val (.int zk), .val (.int zk), .val (.long (own_wo zb zk)), .second, .val (.int zj), .unset, .unset, .unset] [(.int (1 : Int32))])
      refine own_go (fun t k => XS.goto X2.here hx rfl (pc0 := 69) (pc' := 73) rfl (hb hby at_69) (by decide) (by decide) k) ?_
      show own_WP _ _ _ _ T2 (mkF m 73 #[.val (.long zb), .second, .val (.int zl), .val (.int zp), .val (.int zk), .val (.int zk), .val (.long (own_wo zb zk)), .second, .val (.int zj), .unset, .unset, .unset] [(.int (1 : Int32))])
      refine own_go (fun t k => XS.istore X2.here hx rfl (hb hby at_73) rfl (l' := #[.val (.long zb), .second, .val (.int zl), .val (.int zp), .val (.int zk), .val (.int zk), .val (.long (own_wo zb zk)), .second, .val (.int zj), .val (.int (1 : Int32)), .unset, .unset]) rfl k) ?_
      show own_WP _ _ _ _ T2 (mkF m 75 #[.val (.long zb), .second, .val (.int zl), .val (.int zp), .val (.int zk), .val (.int zk), .val (.long (own_wo zb zk)), .second, .val (.int zj), .val (.int (1 : Int32)), .unset, .unset] [])
      refine own_go (fun t k => XS.iload X2.here hx rfl (hb hby at_75) rfl  k) ?_
      show own_WP _ _ _ _ T2 (mkF m 77 #[.val (.long zb), .second, .val (.int zl), .val (.int zp), .val (.int zk), .val (.int zk), .val (.long (own_wo zb zk)), .second, .val (.int zj), .val (.int (1 : Int32)), .unset, .unset] [(.int (1 : Int32))])
      have hc77_1 : ¬ ((1 : Int32) = (0 : Int32)) := by decide
      refine own_go (fun t k => XS.ifNo X2.here hx rfl (hb hby at_77) rfl ((if0 _ _).trans (feq hc77_1).1) k) ?_
      show own_WP _ _ _ _ T2 (mkF m 80 #[.val (.long zb), .second, .val (.int zl), .val (.int zp), .val (.int zk), .val (.int zk), .val (.long (own_wo zb zk)), .second, .val (.int zj), .val (.int (1 : Int32)), .unset, .unset] [])
      refine own_go (fun t k => XS.iload X2.here hx rfl (hb hby at_80) rfl  k) ?_
      show own_WP _ _ _ _ T2 (mkF m 82 #[.val (.long zb), .second, .val (.int zl), .val (.int zp), .val (.int zk), .val (.int zk), .val (.long (own_wo zb zk)), .second, .val (.int zj), .val (.int (1 : Int32)), .unset, .unset] [(.int zj)])
      refine own_go (fun t k => XS.iload X2.here hx rfl (hb hby at_82) rfl  k) ?_
      show own_WP _ _ _ _ T2 (mkF m 84 #[.val (.long zb), .second, .val (.int zl), .val (.int zp), .val (.int zk), .val (.int zk), .val (.long (own_wo zb zk)), .second, .val (.int zj), .val (.int (1 : Int32)), .unset, .unset] [(.int zk), (.int zj)])
      by_cases hc84 : zj = zk
      · refine own_go (fun t k => XS.icmpYes X2.here hx rfl (pc0 := 84) (pc' := 101) rfl (hb hby at_84) rfl (teq hc84).1 (by decide) (by decide) k) ?_
        show own_WP _ _ _ _ T2 (mkF m 101 #[.val (.long zb), .second, .val (.int zl), .val (.int zp), .val (.int zk), .val (.int zk), .val (.long (own_wo zb zk)), .second, .val (.int zj), .val (.int (1 : Int32)), .unset, .unset] [])
        refine own_go (fun t k => XS.iconst X2.here hx rfl (hb hby at_101) k) ?_
        show own_WP _ _ _ _ T2 (mkF m 102 #[.val (.long zb), .second, .val (.int zl), .val (.int zp), .val (.int zk), .val (.int zk), .val (.long (own_wo zb zk)), .second, .val (.int zj), .val (.int (1 : Int32)), .unset, .unset] [(.int (0 : Int32))])
        refine own_go (fun t k => XS.istore X2.here hx rfl (hb hby at_102) rfl (l' := #[.val (.long zb), .second, .val (.int zl), .val (.int zp), .val (.int zk), .val (.int zk), .val (.long (own_wo zb zk)), .second, .val (.int zj), .val (.int (1 : Int32)), .val (.int (0 : Int32)), .unset]) rfl k) ?_
        show own_WP _ _ _ _ T2 (mkF m 104 #[.val (.long zb), .second, .val (.int zl), .val (.int zp), .val (.int zk), .val (.int zk), .val (.long (own_wo zb zk)), .second, .val (.int zj), .val (.int (1 : Int32)), .val (.int (0 : Int32)), .unset] [])
        refine own_go (fun t k => XS.lload X2.here hx rfl (hb hby at_104) rfl  k) ?_
        show own_WP _ _ _ _ T2 (mkF m 106 #[.val (.long zb), .second, .val (.int zl), .val (.int zp), .val (.int zk), .val (.int zk), .val (.long (own_wo zb zk)), .second, .val (.int zj), .val (.int (1 : Int32)), .val (.int (0 : Int32)), .unset] [(.long (own_wo zb zk))])
        refine own_go (fun t k => XS.iload X2.here hx rfl (hb hby at_106) rfl  k) ?_
        show own_WP _ _ _ _ T2 (mkF m 108 #[.val (.long zb), .second, .val (.int zl), .val (.int zp), .val (.int zk), .val (.int zk), .val (.long (own_wo zb zk)), .second, .val (.int zj), .val (.int (1 : Int32)), .val (.int (0 : Int32)), .unset] [(.int zj), (.long (own_wo zb zk))])
        refine own_go (fun t k => XS.lushr X2.here hx rfl (hb hby at_108) rfl k) ?_
        show own_WP _ _ _ _ T2 (mkF m 109 #[.val (.long zb), .second, .val (.int zl), .val (.int zp), .val (.int zk), .val (.int zk), .val (.long (own_wo zb zk)), .second, .val (.int zj), .val (.int (1 : Int32)), .val (.int (0 : Int32)), .unset] [(.long (((own_wo zb zk).toUInt64 >>> (zj &&& 0x3f).toInt64.toUInt64).toInt64))])
        refine own_go (fun t k => XS.lconst X2.here hx rfl (hb hby at_109) k) ?_
        show own_WP _ _ _ _ T2 (mkF m 110 #[.val (.long zb), .second, .val (.int zl), .val (.int zp), .val (.int zk), .val (.int zk), .val (.long (own_wo zb zk)), .second, .val (.int zj), .val (.int (1 : Int32)), .val (.int (0 : Int32)), .unset] [(.long (1 : Int64)), (.long (((own_wo zb zk).toUInt64 >>> (zj &&& 0x3f).toInt64.toUInt64).toInt64))])
        refine own_go (fun t k => XS.land X2.here hx rfl (hb hby at_110) rfl k) ?_
        show own_WP _ _ _ _ T2 (mkF m 111 #[.val (.long zb), .second, .val (.int zl), .val (.int zp), .val (.int zk), .val (.int zk), .val (.long (own_wo zb zk)), .second, .val (.int zj), .val (.int (1 : Int32)), .val (.int (0 : Int32)), .unset] [(.long ((((own_wo zb zk).toUInt64 >>> (zj &&& 0x3f).toInt64.toUInt64).toInt64) &&& (1 : Int64)))])
        refine own_go (fun t k => XS.lconst X2.here hx rfl (hb hby at_111) k) ?_
        show own_WP _ _ _ _ T2 (mkF m 112 #[.val (.long zb), .second, .val (.int zl), .val (.int zp), .val (.int zk), .val (.int zk), .val (.long (own_wo zb zk)), .second, .val (.int zj), .val (.int (1 : Int32)), .val (.int (0 : Int32)), .unset] [(.long (0 : Int64)), (.long ((((own_wo zb zk).toUInt64 >>> (zj &&& 0x3f).toInt64.toUInt64).toInt64) &&& (1 : Int64)))])
        refine own_go (fun t k => XS.lcmp X2.here hx rfl (hb hby at_112) rfl k) ?_
        show own_WP _ _ _ _ T2 (mkF m 113 #[.val (.long zb), .second, .val (.int zl), .val (.int zp), .val (.int zk), .val (.int zk), .val (.long (own_wo zb zk)), .second, .val (.int zj), .val (.int (1 : Int32)), .val (.int (0 : Int32)), .unset] [(.int (lcmpW ((((own_wo zb zk).toUInt64 >>> (zj &&& 0x3f).toInt64.toUInt64).toInt64) &&& (1 : Int64)) (0 : Int64)))])
        have hc113_1 : ((((own_wo zb zk).toUInt64 >>> (zj &&& 0x3f).toInt64.toUInt64).toInt64) &&& (1 : Int64)) = (0 : Int64) := by
          exact key.mpr (Or.inr (Or.inl hc84))
        refine own_go (fun t k => XS.ifYes X2.here hx rfl (pc0 := 113) (pc' := 120) rfl (hb hby at_113) rfl ((if0 _ _).trans (teq ((lw_eq ((((own_wo zb zk).toUInt64 >>> (zj &&& 0x3f).toInt64.toUInt64).toInt64) &&& (1 : Int64)) (0 : Int64)).mpr hc113_1)).1) (by decide) (by decide) k) ?_
        show own_WP _ _ _ _ T2 (mkF m 120 #[.val (.long zb), .second, .val (.int zl), .val (.int zp), .val (.int zk), .val (.int zk), .val (.long (own_wo zb zk)), .second, .val (.int zj), .val (.int (1 : Int32)), .val (.int (0 : Int32)), .unset] [])
        refine own_go (fun t k => XS.iconst X2.here hx rfl (hb hby at_120) k) ?_
        show own_WP _ _ _ _ T2 (mkF m 121 #[.val (.long zb), .second, .val (.int zl), .val (.int zp), .val (.int zk), .val (.int zk), .val (.long (own_wo zb zk)), .second, .val (.int zj), .val (.int (1 : Int32)), .val (.int (0 : Int32)), .unset] [(.int (0 : Int32))])
        refine own_go (fun t k => XS.istore X2.here hx rfl (hb hby at_121) rfl (l' := #[.val (.long zb), .second, .val (.int zl), .val (.int zp), .val (.int zk), .val (.int zk), .val (.long (own_wo zb zk)), .second, .val (.int zj), .val (.int (1 : Int32)), .val (.int (0 : Int32)), .val (.int (0 : Int32))]) rfl k) ?_
        show own_WP _ _ _ _ T2 (mkF m 123 #[.val (.long zb), .second, .val (.int zl), .val (.int zp), .val (.int zk), .val (.int zk), .val (.long (own_wo zb zk)), .second, .val (.int zj), .val (.int (1 : Int32)), .val (.int (0 : Int32)), .val (.int (0 : Int32))] [])
        refine own_go (fun t k => XS.iload X2.here hx rfl (hb hby at_123) rfl  k) ?_
        show own_WP _ _ _ _ T2 (mkF m 125 #[.val (.long zb), .second, .val (.int zl), .val (.int zp), .val (.int zk), .val (.int zk), .val (.long (own_wo zb zk)), .second, .val (.int zj), .val (.int (1 : Int32)), .val (.int (0 : Int32)), .val (.int (0 : Int32))] [(.int (0 : Int32))])
        refine own_go (fun t k => XS.iload X2.here hx rfl (hb hby at_125) rfl  k) ?_
        show own_WP _ _ _ _ T2 (mkF m 127 #[.val (.long zb), .second, .val (.int zl), .val (.int zp), .val (.int zk), .val (.int zk), .val (.long (own_wo zb zk)), .second, .val (.int zj), .val (.int (1 : Int32)), .val (.int (0 : Int32)), .val (.int (0 : Int32))] [(.int (0 : Int32)), (.int (0 : Int32))])
        have hc127_1 : (0 : Int32) = (0 : Int32) := rfl
        refine own_go (fun t k => XS.icmpNo X2.here hx rfl (hb hby at_127) rfl (teq hc127_1).2 k) ?_
        show own_WP _ _ _ _ T2 (mkF m 130 #[.val (.long zb), .second, .val (.int zl), .val (.int zp), .val (.int zk), .val (.int zk), .val (.long (own_wo zb zk)), .second, .val (.int zj), .val (.int (1 : Int32)), .val (.int (0 : Int32)), .val (.int (0 : Int32))] [])
        refine own_go (fun t k => XS.iconst X2.here hx rfl (hb hby at_130) k) ?_
        show own_WP _ _ _ _ T2 (mkF m 131 #[.val (.long zb), .second, .val (.int zl), .val (.int zp), .val (.int zk), .val (.int zk), .val (.long (own_wo zb zk)), .second, .val (.int zj), .val (.int (1 : Int32)), .val (.int (0 : Int32)), .val (.int (0 : Int32))] [(.int (1 : Int32))])
        refine own_go (fun t k => XS.goto X2.here hx rfl (pc0 := 131) (pc' := 135) rfl (hb hby at_131) (by decide) (by decide) k) ?_
        show own_WP _ _ _ _ T2 (mkF m 135 #[.val (.long zb), .second, .val (.int zl), .val (.int zp), .val (.int zk), .val (.int zk), .val (.long (own_wo zb zk)), .second, .val (.int zj), .val (.int (1 : Int32)), .val (.int (0 : Int32)), .val (.int (0 : Int32))] [(.int (1 : Int32))])
        refine own_retN X2 hx Bd.notSynchronized (t := .boolean) (by simp) Bd.returns (hb hby at_135) (by decide) (by decide) ?_
        rw [eq2]
        exact ⟨rfl, N2⟩
      · refine own_go (fun t k => XS.icmpNo X2.here hx rfl (hb hby at_84) rfl (feq hc84).1 k) ?_
        show own_WP _ _ _ _ T2 (mkF m 87 #[.val (.long zb), .second, .val (.int zl), .val (.int zp), .val (.int zk), .val (.int zk), .val (.long (own_wo zb zk)), .second, .val (.int zj), .val (.int (1 : Int32)), .unset, .unset] [])
        refine own_go (fun t k => XS.iload X2.here hx rfl (hb hby at_87) rfl  k) ?_
        show own_WP _ _ _ _ T2 (mkF m 89 #[.val (.long zb), .second, .val (.int zl), .val (.int zp), .val (.int zk), .val (.int zk), .val (.long (own_wo zb zk)), .second, .val (.int zj), .val (.int (1 : Int32)), .unset, .unset] [(.int zj)])
        refine own_go (fun t k => XS.iload X2.here hx rfl (hb hby at_89) rfl  k) ?_
        show own_WP _ _ _ _ T2 (mkF m 91 #[.val (.long zb), .second, .val (.int zl), .val (.int zp), .val (.int zk), .val (.int zk), .val (.long (own_wo zb zk)), .second, .val (.int zj), .val (.int (1 : Int32)), .unset, .unset] [(.int zk), (.int zj)])
        refine own_go (fun t k => XS.bipush X2.here hx rfl (hb hby at_91) k) ?_
        show own_WP _ _ _ _ T2 (mkF m 93 #[.val (.long zb), .second, .val (.int zl), .val (.int zp), .val (.int zk), .val (.int zk), .val (.long (own_wo zb zk)), .second, .val (.int zj), .val (.int (1 : Int32)), .unset, .unset] [(.int (32 : Int32)), (.int zk), (.int zj)])
        refine own_go (fun t k => XS.iadd X2.here hx rfl (hb hby at_93) rfl k) ?_
        show own_WP _ _ _ _ T2 (mkF m 94 #[.val (.long zb), .second, .val (.int zl), .val (.int zp), .val (.int zk), .val (.int zk), .val (.long (own_wo zb zk)), .second, .val (.int zj), .val (.int (1 : Int32)), .unset, .unset] [(.int (zk + (32 : Int32))), (.int zj)])
        by_cases hc94 : zj = (zk + (32 : Int32))
        · refine own_go (fun t k => XS.icmpYes X2.here hx rfl (pc0 := 94) (pc' := 101) rfl (hb hby at_94) rfl (teq hc94).1 (by decide) (by decide) k) ?_
          show own_WP _ _ _ _ T2 (mkF m 101 #[.val (.long zb), .second, .val (.int zl), .val (.int zp), .val (.int zk), .val (.int zk), .val (.long (own_wo zb zk)), .second, .val (.int zj), .val (.int (1 : Int32)), .unset, .unset] [])
          refine own_go (fun t k => XS.iconst X2.here hx rfl (hb hby at_101) k) ?_
          show own_WP _ _ _ _ T2 (mkF m 102 #[.val (.long zb), .second, .val (.int zl), .val (.int zp), .val (.int zk), .val (.int zk), .val (.long (own_wo zb zk)), .second, .val (.int zj), .val (.int (1 : Int32)), .unset, .unset] [(.int (0 : Int32))])
          refine own_go (fun t k => XS.istore X2.here hx rfl (hb hby at_102) rfl (l' := #[.val (.long zb), .second, .val (.int zl), .val (.int zp), .val (.int zk), .val (.int zk), .val (.long (own_wo zb zk)), .second, .val (.int zj), .val (.int (1 : Int32)), .val (.int (0 : Int32)), .unset]) rfl k) ?_
          show own_WP _ _ _ _ T2 (mkF m 104 #[.val (.long zb), .second, .val (.int zl), .val (.int zp), .val (.int zk), .val (.int zk), .val (.long (own_wo zb zk)), .second, .val (.int zj), .val (.int (1 : Int32)), .val (.int (0 : Int32)), .unset] [])
          refine own_go (fun t k => XS.lload X2.here hx rfl (hb hby at_104) rfl  k) ?_
          show own_WP _ _ _ _ T2 (mkF m 106 #[.val (.long zb), .second, .val (.int zl), .val (.int zp), .val (.int zk), .val (.int zk), .val (.long (own_wo zb zk)), .second, .val (.int zj), .val (.int (1 : Int32)), .val (.int (0 : Int32)), .unset] [(.long (own_wo zb zk))])
          refine own_go (fun t k => XS.iload X2.here hx rfl (hb hby at_106) rfl  k) ?_
          show own_WP _ _ _ _ T2 (mkF m 108 #[.val (.long zb), .second, .val (.int zl), .val (.int zp), .val (.int zk), .val (.int zk), .val (.long (own_wo zb zk)), .second, .val (.int zj), .val (.int (1 : Int32)), .val (.int (0 : Int32)), .unset] [(.int zj), (.long (own_wo zb zk))])
          refine own_go (fun t k => XS.lushr X2.here hx rfl (hb hby at_108) rfl k) ?_
          show own_WP _ _ _ _ T2 (mkF m 109 #[.val (.long zb), .second, .val (.int zl), .val (.int zp), .val (.int zk), .val (.int zk), .val (.long (own_wo zb zk)), .second, .val (.int zj), .val (.int (1 : Int32)), .val (.int (0 : Int32)), .unset] [(.long (((own_wo zb zk).toUInt64 >>> (zj &&& 0x3f).toInt64.toUInt64).toInt64))])
          refine own_go (fun t k => XS.lconst X2.here hx rfl (hb hby at_109) k) ?_
          show own_WP _ _ _ _ T2 (mkF m 110 #[.val (.long zb), .second, .val (.int zl), .val (.int zp), .val (.int zk), .val (.int zk), .val (.long (own_wo zb zk)), .second, .val (.int zj), .val (.int (1 : Int32)), .val (.int (0 : Int32)), .unset] [(.long (1 : Int64)), (.long (((own_wo zb zk).toUInt64 >>> (zj &&& 0x3f).toInt64.toUInt64).toInt64))])
          refine own_go (fun t k => XS.land X2.here hx rfl (hb hby at_110) rfl k) ?_
          show own_WP _ _ _ _ T2 (mkF m 111 #[.val (.long zb), .second, .val (.int zl), .val (.int zp), .val (.int zk), .val (.int zk), .val (.long (own_wo zb zk)), .second, .val (.int zj), .val (.int (1 : Int32)), .val (.int (0 : Int32)), .unset] [(.long ((((own_wo zb zk).toUInt64 >>> (zj &&& 0x3f).toInt64.toUInt64).toInt64) &&& (1 : Int64)))])
          refine own_go (fun t k => XS.lconst X2.here hx rfl (hb hby at_111) k) ?_
          show own_WP _ _ _ _ T2 (mkF m 112 #[.val (.long zb), .second, .val (.int zl), .val (.int zp), .val (.int zk), .val (.int zk), .val (.long (own_wo zb zk)), .second, .val (.int zj), .val (.int (1 : Int32)), .val (.int (0 : Int32)), .unset] [(.long (0 : Int64)), (.long ((((own_wo zb zk).toUInt64 >>> (zj &&& 0x3f).toInt64.toUInt64).toInt64) &&& (1 : Int64)))])
          refine own_go (fun t k => XS.lcmp X2.here hx rfl (hb hby at_112) rfl k) ?_
          show own_WP _ _ _ _ T2 (mkF m 113 #[.val (.long zb), .second, .val (.int zl), .val (.int zp), .val (.int zk), .val (.int zk), .val (.long (own_wo zb zk)), .second, .val (.int zj), .val (.int (1 : Int32)), .val (.int (0 : Int32)), .unset] [(.int (lcmpW ((((own_wo zb zk).toUInt64 >>> (zj &&& 0x3f).toInt64.toUInt64).toInt64) &&& (1 : Int64)) (0 : Int64)))])
          have hc113_2 : ((((own_wo zb zk).toUInt64 >>> (zj &&& 0x3f).toInt64.toUInt64).toInt64) &&& (1 : Int64)) = (0 : Int64) := by
            exact key.mpr (Or.inr (Or.inr hc94))
          refine own_go (fun t k => XS.ifYes X2.here hx rfl (pc0 := 113) (pc' := 120) rfl (hb hby at_113) rfl ((if0 _ _).trans (teq ((lw_eq ((((own_wo zb zk).toUInt64 >>> (zj &&& 0x3f).toInt64.toUInt64).toInt64) &&& (1 : Int64)) (0 : Int64)).mpr hc113_2)).1) (by decide) (by decide) k) ?_
          show own_WP _ _ _ _ T2 (mkF m 120 #[.val (.long zb), .second, .val (.int zl), .val (.int zp), .val (.int zk), .val (.int zk), .val (.long (own_wo zb zk)), .second, .val (.int zj), .val (.int (1 : Int32)), .val (.int (0 : Int32)), .unset] [])
          refine own_go (fun t k => XS.iconst X2.here hx rfl (hb hby at_120) k) ?_
          show own_WP _ _ _ _ T2 (mkF m 121 #[.val (.long zb), .second, .val (.int zl), .val (.int zp), .val (.int zk), .val (.int zk), .val (.long (own_wo zb zk)), .second, .val (.int zj), .val (.int (1 : Int32)), .val (.int (0 : Int32)), .unset] [(.int (0 : Int32))])
          refine own_go (fun t k => XS.istore X2.here hx rfl (hb hby at_121) rfl (l' := #[.val (.long zb), .second, .val (.int zl), .val (.int zp), .val (.int zk), .val (.int zk), .val (.long (own_wo zb zk)), .second, .val (.int zj), .val (.int (1 : Int32)), .val (.int (0 : Int32)), .val (.int (0 : Int32))]) rfl k) ?_
          show own_WP _ _ _ _ T2 (mkF m 123 #[.val (.long zb), .second, .val (.int zl), .val (.int zp), .val (.int zk), .val (.int zk), .val (.long (own_wo zb zk)), .second, .val (.int zj), .val (.int (1 : Int32)), .val (.int (0 : Int32)), .val (.int (0 : Int32))] [])
          refine own_go (fun t k => XS.iload X2.here hx rfl (hb hby at_123) rfl  k) ?_
          show own_WP _ _ _ _ T2 (mkF m 125 #[.val (.long zb), .second, .val (.int zl), .val (.int zp), .val (.int zk), .val (.int zk), .val (.long (own_wo zb zk)), .second, .val (.int zj), .val (.int (1 : Int32)), .val (.int (0 : Int32)), .val (.int (0 : Int32))] [(.int (0 : Int32))])
          refine own_go (fun t k => XS.iload X2.here hx rfl (hb hby at_125) rfl  k) ?_
          show own_WP _ _ _ _ T2 (mkF m 127 #[.val (.long zb), .second, .val (.int zl), .val (.int zp), .val (.int zk), .val (.int zk), .val (.long (own_wo zb zk)), .second, .val (.int zj), .val (.int (1 : Int32)), .val (.int (0 : Int32)), .val (.int (0 : Int32))] [(.int (0 : Int32)), (.int (0 : Int32))])
          have hc127_2 : (0 : Int32) = (0 : Int32) := rfl
          refine own_go (fun t k => XS.icmpNo X2.here hx rfl (hb hby at_127) rfl (teq hc127_2).2 k) ?_
          show own_WP _ _ _ _ T2 (mkF m 130 #[.val (.long zb), .second, .val (.int zl), .val (.int zp), .val (.int zk), .val (.int zk), .val (.long (own_wo zb zk)), .second, .val (.int zj), .val (.int (1 : Int32)), .val (.int (0 : Int32)), .val (.int (0 : Int32))] [])
          refine own_go (fun t k => XS.iconst X2.here hx rfl (hb hby at_130) k) ?_
          show own_WP _ _ _ _ T2 (mkF m 131 #[.val (.long zb), .second, .val (.int zl), .val (.int zp), .val (.int zk), .val (.int zk), .val (.long (own_wo zb zk)), .second, .val (.int zj), .val (.int (1 : Int32)), .val (.int (0 : Int32)), .val (.int (0 : Int32))] [(.int (1 : Int32))])
          refine own_go (fun t k => XS.goto X2.here hx rfl (pc0 := 131) (pc' := 135) rfl (hb hby at_131) (by decide) (by decide) k) ?_
          show own_WP _ _ _ _ T2 (mkF m 135 #[.val (.long zb), .second, .val (.int zl), .val (.int zp), .val (.int zk), .val (.int zk), .val (.long (own_wo zb zk)), .second, .val (.int zj), .val (.int (1 : Int32)), .val (.int (0 : Int32)), .val (.int (0 : Int32))] [(.int (1 : Int32))])
          refine own_retN X2 hx Bd.notSynchronized (t := .boolean) (by simp) Bd.returns (hb hby at_135) (by decide) (by decide) ?_
          rw [eq2]
          exact ⟨rfl, N2⟩
        · refine own_go (fun t k => XS.icmpNo X2.here hx rfl (hb hby at_94) rfl (feq hc94).1 k) ?_
          show own_WP _ _ _ _ T2 (mkF m 97 #[.val (.long zb), .second, .val (.int zl), .val (.int zp), .val (.int zk), .val (.int zk), .val (.long (own_wo zb zk)), .second, .val (.int zj), .val (.int (1 : Int32)), .unset, .unset] [])
          refine own_go (fun t k => XS.iconst X2.here hx rfl (hb hby at_97) k) ?_
          show own_WP _ _ _ _ T2 (mkF m 98 #[.val (.long zb), .second, .val (.int zl), .val (.int zp), .val (.int zk), .val (.int zk), .val (.long (own_wo zb zk)), .second, .val (.int zj), .val (.int (1 : Int32)), .unset, .unset] [(.int (1 : Int32))])
          refine own_go (fun t k => XS.goto X2.here hx rfl (pc0 := 98) (pc' := 102) rfl (hb hby at_98) (by decide) (by decide) k) ?_
          show own_WP _ _ _ _ T2 (mkF m 102 #[.val (.long zb), .second, .val (.int zl), .val (.int zp), .val (.int zk), .val (.int zk), .val (.long (own_wo zb zk)), .second, .val (.int zj), .val (.int (1 : Int32)), .unset, .unset] [(.int (1 : Int32))])
          refine own_go (fun t k => XS.istore X2.here hx rfl (hb hby at_102) rfl (l' := #[.val (.long zb), .second, .val (.int zl), .val (.int zp), .val (.int zk), .val (.int zk), .val (.long (own_wo zb zk)), .second, .val (.int zj), .val (.int (1 : Int32)), .val (.int (1 : Int32)), .unset]) rfl k) ?_
          show own_WP _ _ _ _ T2 (mkF m 104 #[.val (.long zb), .second, .val (.int zl), .val (.int zp), .val (.int zk), .val (.int zk), .val (.long (own_wo zb zk)), .second, .val (.int zj), .val (.int (1 : Int32)), .val (.int (1 : Int32)), .unset] [])
          refine own_go (fun t k => XS.lload X2.here hx rfl (hb hby at_104) rfl  k) ?_
          show own_WP _ _ _ _ T2 (mkF m 106 #[.val (.long zb), .second, .val (.int zl), .val (.int zp), .val (.int zk), .val (.int zk), .val (.long (own_wo zb zk)), .second, .val (.int zj), .val (.int (1 : Int32)), .val (.int (1 : Int32)), .unset] [(.long (own_wo zb zk))])
          refine own_go (fun t k => XS.iload X2.here hx rfl (hb hby at_106) rfl  k) ?_
          show own_WP _ _ _ _ T2 (mkF m 108 #[.val (.long zb), .second, .val (.int zl), .val (.int zp), .val (.int zk), .val (.int zk), .val (.long (own_wo zb zk)), .second, .val (.int zj), .val (.int (1 : Int32)), .val (.int (1 : Int32)), .unset] [(.int zj), (.long (own_wo zb zk))])
          refine own_go (fun t k => XS.lushr X2.here hx rfl (hb hby at_108) rfl k) ?_
          show own_WP _ _ _ _ T2 (mkF m 109 #[.val (.long zb), .second, .val (.int zl), .val (.int zp), .val (.int zk), .val (.int zk), .val (.long (own_wo zb zk)), .second, .val (.int zj), .val (.int (1 : Int32)), .val (.int (1 : Int32)), .unset] [(.long (((own_wo zb zk).toUInt64 >>> (zj &&& 0x3f).toInt64.toUInt64).toInt64))])
          refine own_go (fun t k => XS.lconst X2.here hx rfl (hb hby at_109) k) ?_
          show own_WP _ _ _ _ T2 (mkF m 110 #[.val (.long zb), .second, .val (.int zl), .val (.int zp), .val (.int zk), .val (.int zk), .val (.long (own_wo zb zk)), .second, .val (.int zj), .val (.int (1 : Int32)), .val (.int (1 : Int32)), .unset] [(.long (1 : Int64)), (.long (((own_wo zb zk).toUInt64 >>> (zj &&& 0x3f).toInt64.toUInt64).toInt64))])
          refine own_go (fun t k => XS.land X2.here hx rfl (hb hby at_110) rfl k) ?_
          show own_WP _ _ _ _ T2 (mkF m 111 #[.val (.long zb), .second, .val (.int zl), .val (.int zp), .val (.int zk), .val (.int zk), .val (.long (own_wo zb zk)), .second, .val (.int zj), .val (.int (1 : Int32)), .val (.int (1 : Int32)), .unset] [(.long ((((own_wo zb zk).toUInt64 >>> (zj &&& 0x3f).toInt64.toUInt64).toInt64) &&& (1 : Int64)))])
          refine own_go (fun t k => XS.lconst X2.here hx rfl (hb hby at_111) k) ?_
          show own_WP _ _ _ _ T2 (mkF m 112 #[.val (.long zb), .second, .val (.int zl), .val (.int zp), .val (.int zk), .val (.int zk), .val (.long (own_wo zb zk)), .second, .val (.int zj), .val (.int (1 : Int32)), .val (.int (1 : Int32)), .unset] [(.long (0 : Int64)), (.long ((((own_wo zb zk).toUInt64 >>> (zj &&& 0x3f).toInt64.toUInt64).toInt64) &&& (1 : Int64)))])
          refine own_go (fun t k => XS.lcmp X2.here hx rfl (hb hby at_112) rfl k) ?_
          show own_WP _ _ _ _ T2 (mkF m 113 #[.val (.long zb), .second, .val (.int zl), .val (.int zp), .val (.int zk), .val (.int zk), .val (.long (own_wo zb zk)), .second, .val (.int zj), .val (.int (1 : Int32)), .val (.int (1 : Int32)), .unset] [(.int (lcmpW ((((own_wo zb zk).toUInt64 >>> (zj &&& 0x3f).toInt64.toUInt64).toInt64) &&& (1 : Int64)) (0 : Int64)))])
          have hc113_3 : ¬ (((((own_wo zb zk).toUInt64 >>> (zj &&& 0x3f).toInt64.toUInt64).toInt64) &&& (1 : Int64)) = (0 : Int64)) := by
            exact fun z => (key.mp z).elim hc65 (fun z => z.elim hc84 hc94)
          refine own_go (fun t k => XS.ifNo X2.here hx rfl (hb hby at_113) rfl ((if0 _ _).trans (feq (fun z => hc113_3 ((lw_eq ((((own_wo zb zk).toUInt64 >>> (zj &&& 0x3f).toInt64.toUInt64).toInt64) &&& (1 : Int64)) (0 : Int64)).mp z))).1) k) ?_
          show own_WP _ _ _ _ T2 (mkF m 116 #[.val (.long zb), .second, .val (.int zl), .val (.int zp), .val (.int zk), .val (.int zk), .val (.long (own_wo zb zk)), .second, .val (.int zj), .val (.int (1 : Int32)), .val (.int (1 : Int32)), .unset] [])
          refine own_go (fun t k => XS.iconst X2.here hx rfl (hb hby at_116) k) ?_
          show own_WP _ _ _ _ T2 (mkF m 117 #[.val (.long zb), .second, .val (.int zl), .val (.int zp), .val (.int zk), .val (.int zk), .val (.long (own_wo zb zk)), .second, .val (.int zj), .val (.int (1 : Int32)), .val (.int (1 : Int32)), .unset] [(.int (1 : Int32))])
          refine own_go (fun t k => XS.goto X2.here hx rfl (pc0 := 117) (pc' := 121) rfl (hb hby at_117) (by decide) (by decide) k) ?_
          show own_WP _ _ _ _ T2 (mkF m 121 #[.val (.long zb), .second, .val (.int zl), .val (.int zp), .val (.int zk), .val (.int zk), .val (.long (own_wo zb zk)), .second, .val (.int zj), .val (.int (1 : Int32)), .val (.int (1 : Int32)), .unset] [(.int (1 : Int32))])
          refine own_go (fun t k => XS.istore X2.here hx rfl (hb hby at_121) rfl (l' := #[.val (.long zb), .second, .val (.int zl), .val (.int zp), .val (.int zk), .val (.int zk), .val (.long (own_wo zb zk)), .second, .val (.int zj), .val (.int (1 : Int32)), .val (.int (1 : Int32)), .val (.int (1 : Int32))]) rfl k) ?_
          show own_WP _ _ _ _ T2 (mkF m 123 #[.val (.long zb), .second, .val (.int zl), .val (.int zp), .val (.int zk), .val (.int zk), .val (.long (own_wo zb zk)), .second, .val (.int zj), .val (.int (1 : Int32)), .val (.int (1 : Int32)), .val (.int (1 : Int32))] [])
          refine own_go (fun t k => XS.iload X2.here hx rfl (hb hby at_123) rfl  k) ?_
          show own_WP _ _ _ _ T2 (mkF m 125 #[.val (.long zb), .second, .val (.int zl), .val (.int zp), .val (.int zk), .val (.int zk), .val (.long (own_wo zb zk)), .second, .val (.int zj), .val (.int (1 : Int32)), .val (.int (1 : Int32)), .val (.int (1 : Int32))] [(.int (1 : Int32))])
          refine own_go (fun t k => XS.iload X2.here hx rfl (hb hby at_125) rfl  k) ?_
          show own_WP _ _ _ _ T2 (mkF m 127 #[.val (.long zb), .second, .val (.int zl), .val (.int zp), .val (.int zk), .val (.int zk), .val (.long (own_wo zb zk)), .second, .val (.int zj), .val (.int (1 : Int32)), .val (.int (1 : Int32)), .val (.int (1 : Int32))] [(.int (1 : Int32)), (.int (1 : Int32))])
          have hc127_3 : (1 : Int32) = (1 : Int32) := rfl
          refine own_go (fun t k => XS.icmpNo X2.here hx rfl (hb hby at_127) rfl (teq hc127_3).2 k) ?_
          show own_WP _ _ _ _ T2 (mkF m 130 #[.val (.long zb), .second, .val (.int zl), .val (.int zp), .val (.int zk), .val (.int zk), .val (.long (own_wo zb zk)), .second, .val (.int zj), .val (.int (1 : Int32)), .val (.int (1 : Int32)), .val (.int (1 : Int32))] [])
          refine own_go (fun t k => XS.iconst X2.here hx rfl (hb hby at_130) k) ?_
          show own_WP _ _ _ _ T2 (mkF m 131 #[.val (.long zb), .second, .val (.int zl), .val (.int zp), .val (.int zk), .val (.int zk), .val (.long (own_wo zb zk)), .second, .val (.int zj), .val (.int (1 : Int32)), .val (.int (1 : Int32)), .val (.int (1 : Int32))] [(.int (1 : Int32))])
          refine own_go (fun t k => XS.goto X2.here hx rfl (pc0 := 131) (pc' := 135) rfl (hb hby at_131) (by decide) (by decide) k) ?_
          show own_WP _ _ _ _ T2 (mkF m 135 #[.val (.long zb), .second, .val (.int zl), .val (.int zp), .val (.int zk), .val (.int zk), .val (.long (own_wo zb zk)), .second, .val (.int zj), .val (.int (1 : Int32)), .val (.int (1 : Int32)), .val (.int (1 : Int32))] [(.int (1 : Int32))])
          refine own_retN X2 hx Bd.notSynchronized (t := .boolean) (by simp) Bd.returns (hb hby at_135) (by decide) (by decide) ?_
          rw [eq2]
          exact ⟨rfl, N2⟩
set_option maxRecDepth 65536 in
set_option maxHeartbeats 40000000 in
theorem comes_1 {Post : Tables → Env → Array Value → State → Outcome → State → Prop} (hpost : ∀ tb e args s v u, (limb_1_1.after args s (.returned v) u = true ∧ limb_1_2.after args s (.returned v) u = true ∧ True) → FrameEnd s (.returned v) u (Jvm.fieldLocs frame_1_writes args s ++ Jvm.arrayLocs frame_1_arrays args s ++ Jvm.staticLocs frame_1_statics s) 0 0 → Post tb e args s (.returned v) u) :
    ArmFor flags0 classFile x code maxLocals ret World_1 tables_1 room_1 Calls_1 rest_1 Pre_1 Post := by
  intro l hfl _ _ p e ha hc hk s m args below hf hA hF happ hP
  obtain ⟨hcalls, hrest, hpre⟩ := hP
  obtain ⟨-, -, -, hnamed, -, -, -, hat⟩ := (Spec.applies_iff hf).mp happ
  obtain ⟨hg, hn⟩ := and_e (Cond.before_iff.mp (show (Jvm.Cond.and given_1 narrow_1).before args s = true from hpre))
  obtain ⟨u0, v0⟩ := and_e hg
  obtain ⟨u1, v1⟩ := and_e v0
  obtain ⟨u2, v2⟩ := and_e v1
  obtain ⟨w0, w1, w2, rfl⟩ : ∃ w0 w1 w2 : Value, args = #[w0, w1, w2] := by
    have hs : args.size = 3 := by simpa [Cond.value, given_1] using u0
    obtain ⟨L⟩ := args
    match L, hs with
    | [w0, w1, w2], _ => exact ⟨w0, w1, w2, rfl⟩
  have hw := fun d (hd : d ∈ tables_1) => atoms_spec (ws := Jvm.Cond.code x code maxLocals ret :: tables_1) hat d (List.mem_cons_of_mem _ hd)
  obtain ⟨i0, ei0⟩ := isL_v u1
  obtain rfl : w0 = (.long i0) := Option.some.inj ei0
  obtain ⟨i1, ei1⟩ := is_v u2
  obtain rfl : w1 = (.int i1) := Option.some.inj ei1
  obtain ⟨i2, ei2⟩ := is_v v2
  obtain rfl : w2 = (.int i2) := Option.some.inj ei2
  obtain ⟨n, o, h1, h2, h3, _, L, rfl, ⟨rfl, N⟩, hq⟩ := rm0 l s _ hw tables_1 i0 i1 i2  s.heap s.heap.size (Nat.le_refl _)  p e ha hc hk s m _ below hf ((Spec.applies_iff_loose hf).mp happ).1 ⟨rfl, State.Warmed39.refl s, rfl⟩ trivial
  refine ⟨n, _, h1, h2, h3, hpost _ _ _ _ _ _ ⟨Cond.after_iff.mpr rfl, Cond.after_iff.mpr (eq_i res_at (Term.int_eval (1)) rfl), trivial⟩ ⟨hq.1, hq.2.1, (hq.2.2.sift fun y hy => Or.inr (N y hy)).mono (by decide) (by decide)⟩⟩
theorem main_1_1 : Claimed_1_1 := comes_1 fun _ _ _ _ _ _ h hF => ⟨h.1, hF⟩
theorem main_1_2 : Claimed_1_2 := comes_1 fun _ _ _ _ _ _ h hF => ⟨h.2.1, hF⟩
end Jvm.Pilot.@@N@@
namespace Jvm.Pilot.@@N@@
open Jvm Jvm.ClassFile Sem Op Lib Jvm.Free Jvm.Stand Jvm.Pilot.@@N@@.Jvm.D
/-! MADE BY PROGRAM (witnessworld.py) out of the Statement's table words and the real class files: 10 classes; the members and pool entries that the words name. The judged class is class 1, her method 1. -/
namespace start1
open Jvm.ClassFile
def u (s : String) : CpInfo := .utf8 (stringToUtf16 s)
/-- a pool by its gaps: so many unusable entries, then the entry; so many at the end -/
def gap : Nat → List CpInfo → List CpInfo
  | 0, r => r
  | n + 1, r => .unusable :: gap n r
def poolList (es : List (Nat × CpInfo)) (last : Nat) : List CpInfo := es.foldr (fun e r => gap e.1 (e.2 :: r)) (gap last [])
def pool (es : List (Nat × CpInfo)) (last : Nat) : Array CpInfo := ⟨poolList es last⟩
def fileOf (pool : Array CpInfo) (this : Nat) (attrs : Array Attribute := #[]) (ms : Array MethodInfo := #[]) (fl : Nat := 33) (sup : Nat := 0) (ifs : Array Nat := #[]) (fds : Array FieldInfo := #[]) : ClassFile where
  minorVersion := 0
  majorVersion := 65
  constantPool := pool
  accessFlags := fl
  thisClass := this
  superClass := sup
  interfaces := ifs
  fields := fds
  methods := ms
  attributes := attrs
def plain (name : String) (sup : Option ClassId) : Class where
  name := name
  kind := .ordinary
  loader := none
  accessFlags := 33
  super := sup
  interfaces := #[]
  cf := none
  fields := #[]
  methods := #[]
  instanceTypes := #[]
  staticTypes := #[]
  resolved := #[]
  callSites := []
  init := .initialized
  statics := none
  mirror := none

def pool0 : Array CpInfo := pool [(5, u "<init>"), (0, u "()V"), (1, .class_ 10), (1, u "java/lang/Object")] 113

def k0m0 : Method := { name := "<init>", desc := "()V", sig := { parameters := [], returnType := none }, accessFlags := 1, code := none }
/-- java/lang/Object -/
def k0 : Class := { plain "java/lang/Object" none with
  accessFlags := 33
  interfaces := #[]
  cf := some (fileOf pool0 8 #[] #[{ accessFlags := 1, nameIndex := 5, descriptorIndex := 6, attributes := #[] }] 33 0 #[] #[])
  fields := #[]
  methods := #[k0m0]
  instanceTypes := #[]
  staticTypes := #[]
  resolved := Array.replicate 124 none
  statics := none }

def pool1 : Array CpInfo := pool [(2, .class_ 4), (1, u "java/lang/Object"), (0, u "<init>"), (0, u "()V"), (0, .integer 2147483647), (0, .methodref 9 10), (0, .class_ 11), (0, .nameAndType 12 13), (0, u "sinkward/Label"), (0, u "without"), (0, u "(JI)J"), (0, .class_ 15), (0, u "sinkward/LabelWithoutPinLaw"), (2, u "law"), (0, u "(JII)Z")] 3

def k1m0 : Method := { name := "<init>", desc := "()V", sig := { parameters := [], returnType := none }, accessFlags := 1, code := none }
def k1c1 : Code := { maxStack := 4, maxLocals := 12, code := code, exceptionTable := #[], attributes := #[] }
def k1m1 : Method := { name := "law", desc := "(JII)Z", sig := { parameters := [.long, .int, .int], returnType := some .boolean }, accessFlags := 9, code := some k1c1 }
/-- sinkward/LabelWithoutPinLaw -/
def k1 : Class := { plain "sinkward/LabelWithoutPinLaw" (some 0) with
  accessFlags := 49
  interfaces := #[]
  cf := some (fileOf pool1 14 #[] #[{ accessFlags := 1, nameIndex := 5, descriptorIndex := 6, attributes := #[] }, { accessFlags := 9, nameIndex := 18, descriptorIndex := 19, attributes := #[] }] 49 2 #[] #[])
  fields := #[]
  methods := #[k1m0, k1m1]
  instanceTypes := #[]
  staticTypes := #[]
  resolved := Array.replicate 23 none
  statics := none }

def pool2 : Array CpInfo := pool [(2, .class_ 4), (1, u "java/lang/Object"), (0, u "<init>"), (0, u "()V"), (0, .class_ 8), (0, u "java/lang/Record")] 13

def k2m0 : Method := { name := "<init>", desc := "()V", sig := { parameters := [], returnType := none }, accessFlags := 4, code := none }
/-- java/lang/Record -/
def k2 : Class := { plain "java/lang/Record" (some 0) with
  accessFlags := 1057
  interfaces := #[]
  cf := some (fileOf pool2 7 #[] #[{ accessFlags := 4, nameIndex := 5, descriptorIndex := 6, attributes := #[] }] 1057 2 #[] #[])
  fields := #[]
  methods := #[k2m0]
  instanceTypes := #[]
  staticTypes := #[]
  resolved := Array.replicate 22 none
  statics := none }

def pool3 : Array CpInfo := pool [(2, .class_ 4), (1, u "java/lang/Record"), (3, .class_ 10), (1, u "sinkward/Label"), (0, u "positive"), (0, u "I"), (2, u "negative"), (16, u "EMPTY"), (0, u "Lsinkward/Label;"), (48, u "without"), (0, u "(JI)J"), (6, .long 4294967297), (1, .long 18446744073709551615), (27, u "EMPTY_SYMBOL"), (0, u "C"), (2, u "NOT"), (1, u "UNKNOWN"), (1, u "NO_LETTER")] 42

def k3c0 : Code := { maxStack := 6, maxLocals := 3, code := prog_10_method_15_code, exceptionTable := #[], attributes := #[] }
def k3m0 : Method := { name := "without", desc := "(JI)J", sig := { parameters := [.long, .int], returnType := some .long }, accessFlags := 8, code := some k3c0 }
/-- sinkward/Label -/
def k3 : Class := { plain "sinkward/Label" (some 2) with
  accessFlags := 48
  interfaces := #[]
  cf := some (fileOf pool3 8 #[] #[{ accessFlags := 8, nameIndex := 82, descriptorIndex := 83, attributes := #[] }] 48 2 #[] #[{ accessFlags := 18, nameIndex := 11, descriptorIndex := 12, attributes := #[] }, { accessFlags := 18, nameIndex := 15, descriptorIndex := 12, attributes := #[] }, { accessFlags := 24, nameIndex := 32, descriptorIndex := 33, attributes := #[] }, { accessFlags := 24, nameIndex := 120, descriptorIndex := 121, attributes := #[] }, { accessFlags := 24, nameIndex := 124, descriptorIndex := 121, attributes := #[] }, { accessFlags := 24, nameIndex := 126, descriptorIndex := 121, attributes := #[] }, { accessFlags := 24, nameIndex := 128, descriptorIndex := 12, attributes := #[] }])
  fields := #[{ name := "positive", type := .int, accessFlags := 18, slot := 0, constantValue := 0 }, { name := "negative", type := .int, accessFlags := 18, slot := 1, constantValue := 0 }, { name := "EMPTY", type := (.object "sinkward/Label"), accessFlags := 24, slot := 0, constantValue := 0 }, { name := "EMPTY_SYMBOL", type := .char, accessFlags := 24, slot := 1, constantValue := 0 }, { name := "NOT", type := .char, accessFlags := 24, slot := 2, constantValue := 0 }, { name := "UNKNOWN", type := .char, accessFlags := 24, slot := 3, constantValue := 0 }, { name := "NO_LETTER", type := .int, accessFlags := 24, slot := 4, constantValue := 0 }]
  methods := #[k3m0]
  instanceTypes := #[.int, .int]
  staticTypes := #[(.object "sinkward/Label"), .char, .char, .char, .int]
  resolved := Array.replicate 171 none
  statics := none }

def pool4 : Array CpInfo := pool [(1, u "java/lang/Cloneable"), (0, .class_ 1), (0, u "java/lang/Object"), (0, .class_ 3)] 3

/-- java/lang/Cloneable -/
def k4 : Class := { plain "java/lang/Cloneable" (some 0) with
  accessFlags := 1537
  interfaces := #[]
  cf := some (fileOf pool4 2 #[] #[] 1537 4 #[] #[])
  fields := #[]
  methods := #[]
  instanceTypes := #[]
  staticTypes := #[]
  resolved := Array.replicate 8 none
  statics := none }

def pool5 : Array CpInfo := pool [(1, u "java/io/Serializable"), (0, .class_ 1), (0, u "java/lang/Object"), (0, .class_ 3)] 3

/-- java/io/Serializable -/
def k5 : Class := { plain "java/io/Serializable" (some 0) with
  accessFlags := 1537
  interfaces := #[]
  cf := some (fileOf pool5 2 #[] #[] 1537 4 #[] #[])
  fields := #[]
  methods := #[]
  instanceTypes := #[]
  staticTypes := #[]
  resolved := Array.replicate 8 none
  statics := none }

/-- the primitive byte -/
def k6 : Class := { plain "byte" none with kind := .primitive 'B', accessFlags := 0x411 }
/-- [B -/
def k7 : Class := { plain "[B" (some 0) with kind := .array 6 .byte, interfaces := #[4, 5], accessFlags := 1041 }

/-- the primitive int -/
def k8 : Class := { plain "int" none with kind := .primitive 'I', accessFlags := 0x411 }
/-- [I -/
def k9 : Class := { plain "[I" (some 0) with kind := .array 8 .int, interfaces := #[4, 5], accessFlags := 1041 }

def heap : Heap := #[]
def classes : Array Class := #[k0, k1, k2, k3, k4, k5, k6, k7, k8, k9]
def interned : List (Array UInt16 × Addr) := []
def slotsUsed : Nat := 0
def theMethod : MethodId := ⟨1, 1⟩
def args0 : Array Value := #[.long 5, .int 9, .int 3]
def aboutOver (below : List Frame) : State where
  vm := { classes := classes, interned := interned.toArray }
  heap := heap
  slotsUsed := slotsUsed
  threads := #[{ frames := .invoking theMethod args0 :: below }]
def below0 : List Frame := [.native { method := ⟨0, 0⟩, args := #[] }]
def about1 : State := aboutOver below0
def p0 : Program := .bare "" "" ""
def e0 : Env := launch0.env 0 0 0
theorem w_frames : about1.frames = Frame.invoking theMethod args0 :: below0 := rfl
set_option maxRecDepth 65536 in
theorem w_args : argsFit about1.vm theMethod args0 = true := by decide +kernel
set_option maxRecDepth 65536 in
theorem w_heap : heapFits about1 = true := by decide +kernel
set_option maxRecDepth 65536 in
theorem w_runnable : about1.curStatus? = some .runnable := by decide +kernel
set_option maxRecDepth 65536 in
theorem w_alone : about1.alone = true := by decide +kernel
set_option maxRecDepth 65536 in
theorem w_named : about1.methodNamed? x = some theMethod := by decide +kernel
set_option maxRecDepth 65536 in
theorem w_hears : about1.hears theMethod below0 = true := by decide +kernel
set_option maxRecDepth 65536 in
theorem w_ripe : about1.ripe theMethod args0 below0 = true := by decide +kernel
theorem w_running : about1.status = .running := rfl
set_option maxRecDepth 65536 in
theorem w_room : about1.hasRoom e0.platform room_1 = true :=
  launch0.hasRoom_least _ room_1 (by decide +kernel) (by decide +kernel) (by decide +kernel) (by decide +kernel) (by decide +kernel) (by decide +kernel)
theorem allAtoms_all (ts : List Jvm.Cond) (a : Array Jvm.Value) (st : Jvm.State) : (allAtoms ts).before a st = ts.all (fun c => c.before a st) := by
  induction ts with
  | nil => rfl
  | cons c t ih =>
    show (Jvm.Cond.and c (allAtoms t)).before a st = _
    rw [Jvm.Cond.before_and, ih, List.all_cons]
def words1 : List Jvm.Cond := Jvm.Cond.code x code maxLocals ret :: tables_1
/-- a 'code' word, met by the world's own term for the bytes: nothing is compared byte by byte -/
theorem code_word {y : MethodName} {bytes : ByteArray} {mx : Nat} {rt : Option FieldType} {a : Array Value} {s : State} {m : MethodId} {meth : Method} {c : Code} (h1 : s.methodNamed? y = some m) (h2 : s.vm.method? m = some meth) (h3 : meth.code = some c) (h4 : c.code = bytes)
    (h5 : (c.maxLocals == mx && c.exceptionTable.isEmpty && decide (c.maxStack ≤ mostOperands) && decide (meth.sig.returnType = rt) && !meth.locks && decide (parseMethodDescriptor y.desc = some meth.sig)) = true) : (Jvm.Cond.code y bytes mx rt).before a s = true := by
  simp only [Bool.and_eq_true, beq_iff_eq, Bool.not_eq_true', decide_eq_true_eq] at h5
  obtain ⟨⟨⟨⟨⟨g1, g2⟩, g3⟩, g4⟩, g5⟩, g6⟩ := h5
  simp [Cond.before, Cond.holds, Cond.value, h1, h2, h3, h4, g1, g2, g3, g4, g5, g6]
def isCode : Jvm.Cond → Bool
  | .code _ _ _ _ => true
  | _ => false
theorem all_split {L : List Jvm.Cond} {P : Jvm.Cond → Bool} (h1 : L.all (fun c => isCode c || P c) = true) (h2 : ∀ c ∈ L.filter isCode, P c = true) : L.all P = true := by
  refine List.all_eq_true.mpr fun c hc => ?_
  have h := List.all_eq_true.mp h1 c hc
  rcases Bool.eq_false_or_eq_true (isCode c) with hi | hi
  · exact h2 c (List.mem_filter.mpr ⟨hc, hi⟩)
  · simpa [hi] using h
set_option maxRecDepth 65536 in
theorem w_c0 : (Jvm.Cond.code x code maxLocals ret).before args0 about1 = true := code_word (m := ⟨1, 1⟩) (meth := k1m1) (c := k1c1) (by decide +kernel) rfl rfl rfl (by decide +kernel)
set_option maxRecDepth 65536 in
theorem w_c1 : (Jvm.Cond.code ({ cls := "sinkward/Label", name := "without", desc := "(JI)J" } : Jvm.MethodName) prog_10_method_15_code (3 : Nat) (Option.some Jvm.ClassFile.FieldType.long)).before args0 about1 = true := code_word (m := ⟨3, 0⟩) (meth := k3m0) (c := k3c0) (by decide +kernel) rfl rfl rfl (by decide +kernel)
def codes1 : List Jvm.Cond := [Jvm.Cond.code x code maxLocals ret, Jvm.Cond.code ({ cls := "sinkward/Label", name := "without", desc := "(JI)J" } : Jvm.MethodName) prog_10_method_15_code (3 : Nat) (Option.some Jvm.ClassFile.FieldType.long)]
set_option maxRecDepth 65536 in
theorem codes_eq : words1.filter isCode = codes1 := rfl
theorem w_codes : ∀ c ∈ words1.filter isCode, c.before args0 about1 = true := by
  rw [codes_eq]
  intro c hc
  simp only [codes1, List.mem_cons, List.not_mem_nil, or_false] at hc
  rcases hc with rfl | rfl
  · exact w_c0
  · exact w_c1
set_option maxRecDepth 65536 in
theorem w_t1 : words1.all (fun c => isCode c || c.before args0 about1) = true := by decide +kernel
theorem w_tables : (allAtoms (Jvm.Cond.code x code maxLocals ret :: tables_1)).before args0 about1 = true := by
  rw [allAtoms_all]
  show words1.all (fun c => c.before args0 about1) = true
  refine all_split ?_ w_codes
  rw [w_t1]
set_option maxRecDepth 65536 in
theorem w_case : (Jvm.Cond.and given_1 narrow_1).before args0 about1 = true := by decide +kernel
theorem w_applies : (headSpec (Jvm.Cond.code x code maxLocals ret :: tables_1) room_1).applies x e0.platform about1 = true :=
  (Spec.applies_iff w_frames).mpr ⟨w_running, w_runnable, w_alone, w_named, w_hears, w_ripe, w_room, w_tables⟩
theorem atStart : AtStart classFile x code maxLocals ret World_1 tables_1 room_1 Calls_1 rest_1 Pre_1 launch0 p0 e0 about1 theMethod args0 below0 :=
  ⟨lists_1, trivial, launch0.admits_env _ _ _, launch0.least_env, fairChoices_fair.cas, fairChoices_fair.clock, w_frames, w_args, w_heap, w_applies, trivial, trivial, w_case⟩
end start1
theorem witness_1 : WitnessClaimed_1 := ⟨start1.p0, start1.e0, start1.about1, start1.theMethod, start1.args0, start1.below0, start1.atStart⟩
end Jvm.Pilot.@@N@@
